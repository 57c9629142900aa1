import JvmDerived
import JvmDerived.Pilot.@@N@@Statement
import JvmDerived.Pilot.@@N@@Code
set_option linter.unusedVariables false
set_option linter.unusedSimpArgs false
namespace Jvm.OwnKit
open Jvm Jvm.ClassFile Sem Op Lib Jvm.Free Jvm.Stand Jvm.LawKit Jvm.RoadKit
/-- the run from here ends in a return that answers Q, having written new cells alone -/
def Ends (p : Program) (e : Env) (below : List Frame) (s : State) (n0 : Nat) (Q : Option Value → Heap → Prop) (k n : Nat) (T : State) (g : JFrame) : Prop :=
  ∃ s₂ o, Steps p.tables e below (T.setTop g) s₂ ∧ s₂.status = .running ∧ Ended s₂ below o ∧ ∃ v L, o = .returned v ∧ (Fr n0 L ∧ Q v s₂.heap) ∧ FrameEnd s o s₂ L k n
theorem Ends.step {p : Program} {e : Env} {below : List Frame} {s : State} {n0 : Nat} {Q : Option Value → Heap → Prop} {k n : Nat} {T T' : State} {g g' : JFrame} (K : Ends p e below s n0 Q k n T' g') (f : ∀ t, Steps p.tables e below (T'.setTop g') t → Steps p.tables e below (T.setTop g) t) : Ends p e below s n0 Q k n T g := by
  obtain ⟨s2, o, h, r⟩ := K
  exact ⟨s2, o, f _ h, r⟩
/-- what is the same through a whole body -/
def Cx (Z : State) (mn : MethodName) (code : ByteArray) (maxL : Nat) (ret : Option FieldType) (p : Program) (s : State) (m : MethodId) (meth : Method) (c : Code) : Prop :=
  p.tables.exec = Jvm.exec ∧ Z.Warmed39 s.vm ∧ c.code = code ∧ c.maxLocals = maxL ∧ s.vm.findClass mn.cls = some m.cls ∧ meth.sig.returnType = ret ∧ meth.locks = false ∧ meth.name = mn.name
/-- from this pc, these locals and this stack, over the heap h, at most k cells and n slots made so far, the body ends as Q says -/
def Go (l : Launch) (Z : State) (mn : MethodName) (code : ByteArray) (maxL : Nat) (ret : Option FieldType) (R : Room) (n0 : Nat) (Q : Option Value → Heap → Prop) (h : Heap) (k n : Nat) (pc : Nat) (Ls : Array Slot) (st : List Value) : Prop :=
  ∀ (p : Program) (e : Env) (s : State) (m : MethodId) (args : Array Value) (below : List Frame) (meth : Method) (c : Code) (T : State) (locs : List Loc) (k' n' : Nat),
    Cx Z mn code maxL ret p s m meth c → Stand p l e R s m args below meth c T locs k' n' → k' ≤ k → n' ≤ n → Fr n0 locs → T.heap = h → Ends p e below s n0 Q R.cells R.slots T (mkF m pc Ls st)
/-- the answer of a body that returns a value | nothing -/
def RV (P : Value → Heap → Prop) : Option Value → Heap → Prop := fun v h => ∃ w, v = some w ∧ P w h
def RN (P : Heap → Prop) : Option Value → Heap → Prop := fun v h => v = none ∧ P h
section Laws
variable {l : Launch} {Z : State} {mn : MethodName} {code : ByteArray} {maxL : Nat} {ret : Option FieldType} {R : Room} {n0 : Nat} {Q : Option Value → Heap → Prop} {h : Heap} {k n pc q : Nat} {Ls Ls' : Array Slot} {st st' : List Value} {a0 : Array Value}
theorem Go.plain (K : Go l Z mn code maxL ret R n0 Q h k n q Ls' st') (f : ∀ (p : Program) (e : Env) (s : State) (m : MethodId) (args : Array Value) (below : List Frame) (meth : Method) (c : Code) (T : State) (locs : List Loc) (k' n' : Nat), p.tables.exec = Jvm.exec → c.code = code → Stand p l e R s m args below meth c T locs k' n' → ∀ t, Steps p.tables e below (T.setTop (mkF m q Ls' st')) t → Steps p.tables e below (T.setTop (mkF m pc Ls st)) t) : Go l Z mn code maxL ret R n0 Q h k n pc Ls st :=
  fun p e s m args below meth c T locs k' n' C X hk hn N eT => (K p e s m args below meth c T locs k' n' C X hk hn N eT).step (f p e s m args below meth c T locs k' n' C.1 C.2.2.1 X)
theorem Go.mono {k1 n1 : Nat} (K : Go l Z mn code maxL ret R n0 Q h k n pc Ls st) (h1 : k1 ≤ k) (h2 : n1 ≤ n) : Go l Z mn code maxL ret R n0 Q h k1 n1 pc Ls st :=
  fun p e s m args below meth c T locs k' n' C X hk hn N eT => K p e s m args below meth c T locs k' n' C X (Nat.le_trans hk h1) (Nat.le_trans hn h2) N eT
theorem Go.imp {Q' : Option Value → Heap → Prop} (K : Go l Z mn code maxL ret R n0 Q h k n pc Ls st) (f : ∀ v h, Q v h → Q' v h) : Go l Z mn code maxL ret R n0 Q' h k n pc Ls st :=
  fun p e s m args below meth c T locs k' n' C X hk hn N eT => by
    obtain ⟨s2, o, h1, h2, h3, v, L, h4, h5, h6⟩ := K p e s m args below meth c T locs k' n' C X hk hn N eT
    exact ⟨s2, o, h1, h2, h3, v, L, h4, ⟨h5.1, f _ _ h5.2⟩, h6⟩
theorem Go.met {as : Array Value} (pn : plainFor mn = true) (hef : ∀ m, entryFrame m as maxL = mkF m 0 Ls []) (G : Go l Z mn code maxL ret R n0 Q h 0 0 0 Ls []) (ws : List Jvm.Cond) :
    MetFree l mn (head1 (Jvm.Cond.code mn code maxL ret :: ws) R) (fun a U => a = as ∧ Z.Warmed39 U.vm ∧ U.heap = h) (fun _ _ _ _ _ => True) (fun _ U o U' => ∃ v L, o = .returned v ∧ (Fr n0 L ∧ Q v U'.heap) ∧ FrameEnd U o U' L R.cells R.slots) := by
  refine MetFree.of_bodySF pn hisR ?_
  intro p e s m args below meth c s₁ Bd hml0 hP hK
  obtain ⟨rfl, hZ, hh⟩ := hP
  have e0 : s₁.heap = h := by rw [← hh, Bd.state]; rfl
  rw [hef]
  exact G p e s m _ below meth c s₁ [] 0 0 ⟨Bd.exec, hZ, Bd.bytes, hml0, findClass_of_methodNamed Bd.named, Bd.returns, BodyLoose.notSynchronized Bd, (name_of_methodNamed Bd.named Bd.method).1⟩ (Stand.of_body Bd) (Nat.le_refl _) (Nat.le_refl _) (Fr.nil n0) e0

theorem Go.iloadN {i : Fin 4} {v : Int32} (hd : decode code pc = .ok (.iload_n i, 1)) (hq : q = pc + 1) (hl : Ls[i.val]? = some (.val (.int v))) (K : Go l Z mn code maxL ret R n0 Q h k n q Ls (.int v :: st)) : Go l Z mn code maxL ret R n0 Q h k n pc Ls (st) := by
  subst hq
  exact K.plain fun p e s m args below meth c T locs k' n' hx hby X t r => XS.iloadN X.here hx rfl (hb hby hd) hl r
theorem Go.iload {i : Nat} {v : Int32} (hd : decode code pc = .ok (.iload i, 2)) (hq : q = pc + 2) (hl : Ls[i]? = some (.val (.int v))) (K : Go l Z mn code maxL ret R n0 Q h k n q Ls (.int v :: st)) : Go l Z mn code maxL ret R n0 Q h k n pc Ls (st) := by
  subst hq
  exact K.plain fun p e s m args below meth c T locs k' n' hx hby X t r => XS.iload X.here hx rfl (hb hby hd) hl r
theorem Go.lloadN {i : Fin 4} {v : Int64} (hd : decode code pc = .ok (.lload_n i, 1)) (hq : q = pc + 1) (hl : Ls[i.val]? = some (.val (.long v))) (K : Go l Z mn code maxL ret R n0 Q h k n q Ls (.long v :: st)) : Go l Z mn code maxL ret R n0 Q h k n pc Ls (st) := by
  subst hq
  exact K.plain fun p e s m args below meth c T locs k' n' hx hby X t r => XT.lloadN X.here hx rfl (hb hby hd) hl r
theorem Go.lload {i : Nat} {v : Int64} (hd : decode code pc = .ok (.lload i, 2)) (hq : q = pc + 2) (hl : Ls[i]? = some (.val (.long v))) (K : Go l Z mn code maxL ret R n0 Q h k n q Ls (.long v :: st)) : Go l Z mn code maxL ret R n0 Q h k n pc Ls (st) := by
  subst hq
  exact K.plain fun p e s m args below meth c T locs k' n' hx hby X t r => XT.lload X.here hx rfl (hb hby hd) hl r
theorem Go.aloadN {i : Fin 4} {v : Value} (hd : decode code pc = .ok (.aload_n i, 1)) (hq : q = pc + 1) (hl : Ls[i.val]? = some (.val v)) (hv : v.isRef = true) (K : Go l Z mn code maxL ret R n0 Q h k n q Ls (v :: st)) : Go l Z mn code maxL ret R n0 Q h k n pc Ls (st) := by
  subst hq
  exact K.plain fun p e s m args below meth c T locs k' n' hx hby X t r => XS.aloadN X.here hx rfl (hb hby hd) hl hv r
theorem Go.aload {i : Nat} {v : Value} (hd : decode code pc = .ok (.aload i, 2)) (hq : q = pc + 2) (hl : Ls[i]? = some (.val v)) (hv : v.isRef = true) (K : Go l Z mn code maxL ret R n0 Q h k n q Ls (v :: st)) : Go l Z mn code maxL ret R n0 Q h k n pc Ls (st) := by
  subst hq
  exact K.plain fun p e s m args below meth c T locs k' n' hx hby X t r => XS.aload X.here hx rfl (hb hby hd) hl hv r
theorem Go.istoreN {i : Fin 4} {v : Int32} (hd : decode code pc = .ok (.istore_n i, 1)) (hq : q = pc + 1) (hl : storeLocals Ls i.val (.int v) = some Ls') (K : Go l Z mn code maxL ret R n0 Q h k n q Ls' (st)) : Go l Z mn code maxL ret R n0 Q h k n pc Ls (.int v :: st) := by
  subst hq
  exact K.plain fun p e s m args below meth c T locs k' n' hx hby X t r => XS.istoreN X.here hx rfl (hb hby hd) rfl hl r
theorem Go.istore {i : Nat} {v : Int32} (hd : decode code pc = .ok (.istore i, 2)) (hq : q = pc + 2) (hl : storeLocals Ls i (.int v) = some Ls') (K : Go l Z mn code maxL ret R n0 Q h k n q Ls' (st)) : Go l Z mn code maxL ret R n0 Q h k n pc Ls (.int v :: st) := by
  subst hq
  exact K.plain fun p e s m args below meth c T locs k' n' hx hby X t r => XS.istore X.here hx rfl (hb hby hd) rfl hl r
theorem Go.lstoreN {i : Fin 4} {v : Int64} (hd : decode code pc = .ok (.lstore_n i, 1)) (hq : q = pc + 1) (hl : storeLocals Ls i.val (.long v) = some Ls') (K : Go l Z mn code maxL ret R n0 Q h k n q Ls' (st)) : Go l Z mn code maxL ret R n0 Q h k n pc Ls (.long v :: st) := by
  subst hq
  exact K.plain fun p e s m args below meth c T locs k' n' hx hby X t r => XT.lstoreN X.here hx rfl (hb hby hd) rfl hl r
theorem Go.lstore {i : Nat} {v : Int64} (hd : decode code pc = .ok (.lstore i, 2)) (hq : q = pc + 2) (hl : storeLocals Ls i (.long v) = some Ls') (K : Go l Z mn code maxL ret R n0 Q h k n q Ls' (st)) : Go l Z mn code maxL ret R n0 Q h k n pc Ls (.long v :: st) := by
  subst hq
  exact K.plain fun p e s m args below meth c T locs k' n' hx hby X t r => XT.lstore X.here hx rfl (hb hby hd) rfl hl r
theorem Go.astoreN {i : Fin 4} {v : Value} (hd : decode code pc = .ok (.astore_n i, 1)) (hq : q = pc + 1) (hv : v.isRef = true) (hl : storeLocals Ls i.val v = some Ls') (K : Go l Z mn code maxL ret R n0 Q h k n q Ls' (st)) : Go l Z mn code maxL ret R n0 Q h k n pc Ls (v :: st) := by
  subst hq
  exact K.plain fun p e s m args below meth c T locs k' n' hx hby X t r => XS.astoreN X.here hx rfl (hb hby hd) rfl hv hl r
theorem Go.astore {i : Nat} {v : Value} (hd : decode code pc = .ok (.astore i, 2)) (hq : q = pc + 2) (hv : v.isRef = true) (hl : storeLocals Ls i v = some Ls') (K : Go l Z mn code maxL ret R n0 Q h k n q Ls' (st)) : Go l Z mn code maxL ret R n0 Q h k n pc Ls (v :: st) := by
  subst hq
  exact K.plain fun p e s m args below meth c T locs k' n' hx hby X t r => XS.astore X.here hx rfl (hb hby hd) rfl hv hl r
theorem Go.iconst {i : Int} {x : Int32} (hd : decode code pc = .ok (.iconst i, 1)) (hq : q = pc + 1) (hi : Int32.ofInt i = x) (K : Go l Z mn code maxL ret R n0 Q h k n q Ls (.int x :: st)) : Go l Z mn code maxL ret R n0 Q h k n pc Ls (st) := by
  subst hq
  exact K.plain fun p e s m args below meth c T locs k' n' hx hby X t r => XS.iconst X.here hx rfl (hb hby hd) (by rw [hi]; exact r)
theorem Go.bipush {i : Int} {x : Int32} (hd : decode code pc = .ok (.bipush i, 2)) (hq : q = pc + 2) (hi : (Int8.ofInt i).toInt32 = x) (K : Go l Z mn code maxL ret R n0 Q h k n q Ls (.int x :: st)) : Go l Z mn code maxL ret R n0 Q h k n pc Ls (st) := by
  subst hq
  exact K.plain fun p e s m args below meth c T locs k' n' hx hby X t r => XS.bipush X.here hx rfl (hb hby hd) (by rw [hi]; exact r)
theorem Go.sipush {i : Int} {x : Int32} (hd : decode code pc = .ok (.sipush i, 3)) (hq : q = pc + 3) (hi : (Int16.ofInt i).toInt32 = x) (K : Go l Z mn code maxL ret R n0 Q h k n q Ls (.int x :: st)) : Go l Z mn code maxL ret R n0 Q h k n pc Ls (st) := by
  subst hq
  exact K.plain fun p e s m args below meth c T locs k' n' hx hby X t r => XS.sipush X.here hx rfl (hb hby hd) (by rw [hi]; exact r)
theorem Go.lconst {i : Fin 2} {x : Int64} (hd : decode code pc = .ok (.lconst i, 1)) (hq : q = pc + 1) (hi : Int64.ofNat i = x) (K : Go l Z mn code maxL ret R n0 Q h k n q Ls (.long x :: st)) : Go l Z mn code maxL ret R n0 Q h k n pc Ls (st) := by
  subst hq
  exact K.plain fun p e s m args below meth c T locs k' n' hx hby X t r => XT.lconst X.here hx rfl (hb hby hd) (by rw [hi]; exact r)
theorem Go.aconstNull (hd : decode code pc = .ok (.aconst_null, 1)) (hq : q = pc + 1) (K : Go l Z mn code maxL ret R n0 Q h k n q Ls (.null :: st)) : Go l Z mn code maxL ret R n0 Q h k n pc Ls (st) := by
  subst hq
  exact K.plain fun p e s m args below meth c T locs k' n' hx hby X t r => XS.aconstNull X.here hx rfl (hb hby hd) r
theorem Go.iadd {x y : Int32} (hd : decode code pc = .ok (.iadd, 1)) (hq : q = pc + 1) (K : Go l Z mn code maxL ret R n0 Q h k n q Ls (.int (x + y) :: st)) : Go l Z mn code maxL ret R n0 Q h k n pc Ls (.int y :: .int x :: st) := by
  subst hq
  exact K.plain fun p e s m args below meth c T locs k' n' hx hby X t r => XS.iadd X.here hx rfl (hb hby hd) rfl r
theorem Go.isub {x y : Int32} (hd : decode code pc = .ok (.isub, 1)) (hq : q = pc + 1) (K : Go l Z mn code maxL ret R n0 Q h k n q Ls (.int (x - y) :: st)) : Go l Z mn code maxL ret R n0 Q h k n pc Ls (.int y :: .int x :: st) := by
  subst hq
  exact K.plain fun p e s m args below meth c T locs k' n' hx hby X t r => XS.isub X.here hx rfl (hb hby hd) rfl r
theorem Go.iand {x y : Int32} (hd : decode code pc = .ok (.iand, 1)) (hq : q = pc + 1) (K : Go l Z mn code maxL ret R n0 Q h k n q Ls (.int (x &&& y) :: st)) : Go l Z mn code maxL ret R n0 Q h k n pc Ls (.int y :: .int x :: st) := by
  subst hq
  exact K.plain fun p e s m args below meth c T locs k' n' hx hby X t r => XS.iand X.here hx rfl (hb hby hd) rfl r
theorem Go.imul {x y : Int32} (hd : decode code pc = .ok (.imul, 1)) (hq : q = pc + 1) (K : Go l Z mn code maxL ret R n0 Q h k n q Ls (.int (x * y) :: st)) : Go l Z mn code maxL ret R n0 Q h k n pc Ls (.int y :: .int x :: st) := by
  subst hq
  exact K.plain fun p e s m args below meth c T locs k' n' hx hby X t r => XS.imul X.here hx rfl (hb hby hd) rfl r
theorem Go.ixor {x y : Int32} (hd : decode code pc = .ok (.ixor, 1)) (hq : q = pc + 1) (K : Go l Z mn code maxL ret R n0 Q h k n q Ls (.int (x ^^^ y) :: st)) : Go l Z mn code maxL ret R n0 Q h k n pc Ls (.int y :: .int x :: st) := by
  subst hq
  exact K.plain fun p e s m args below meth c T locs k' n' hx hby X t r => XT.ixor X.here hx rfl (hb hby hd) rfl r
theorem Go.ior {x y : Int32} (hd : decode code pc = .ok (.ior, 1)) (hq : q = pc + 1) (K : Go l Z mn code maxL ret R n0 Q h k n q Ls (.int (x ||| y) :: st)) : Go l Z mn code maxL ret R n0 Q h k n pc Ls (.int y :: .int x :: st) := by
  subst hq
  exact K.plain fun p e s m args below meth c T locs k' n' hx hby X t r => XT.ior X.here hx rfl (hb hby hd) rfl r
theorem Go.ishl {x y : Int32} (hd : decode code pc = .ok (.ishl, 1)) (hq : q = pc + 1) (K : Go l Z mn code maxL ret R n0 Q h k n q Ls (.int (x <<< (y &&& 31)) :: st)) : Go l Z mn code maxL ret R n0 Q h k n pc Ls (.int y :: .int x :: st) := by
  subst hq
  exact K.plain fun p e s m args below meth c T locs k' n' hx hby X t r => XT.ishl X.here hx rfl (hb hby hd) rfl r
theorem Go.ishr {x y : Int32} (hd : decode code pc = .ok (.ishr, 1)) (hq : q = pc + 1) (K : Go l Z mn code maxL ret R n0 Q h k n q Ls (.int (x >>> (y &&& 31)) :: st)) : Go l Z mn code maxL ret R n0 Q h k n pc Ls (.int y :: .int x :: st) := by
  subst hq
  exact K.plain fun p e s m args below meth c T locs k' n' hx hby X t r => XT.ishr X.here hx rfl (hb hby hd) rfl r
theorem Go.iushr {x y : Int32} (hd : decode code pc = .ok (.iushr, 1)) (hq : q = pc + 1) (K : Go l Z mn code maxL ret R n0 Q h k n q Ls (.int (XT.ushr x y) :: st)) : Go l Z mn code maxL ret R n0 Q h k n pc Ls (.int y :: .int x :: st) := by
  subst hq
  exact K.plain fun p e s m args below meth c T locs k' n' hx hby X t r => XT.iushr X.here hx rfl (hb hby hd) rfl r
theorem Go.ladd {x y : Int64} (hd : decode code pc = .ok (.ladd, 1)) (hq : q = pc + 1) (K : Go l Z mn code maxL ret R n0 Q h k n q Ls (.long (x + y) :: st)) : Go l Z mn code maxL ret R n0 Q h k n pc Ls (.long y :: .long x :: st) := by
  subst hq
  exact K.plain fun p e s m args below meth c T locs k' n' hx hby X t r => XT.ladd X.here hx rfl (hb hby hd) rfl r
theorem Go.lsub {x y : Int64} (hd : decode code pc = .ok (.lsub, 1)) (hq : q = pc + 1) (K : Go l Z mn code maxL ret R n0 Q h k n q Ls (.long (x - y) :: st)) : Go l Z mn code maxL ret R n0 Q h k n pc Ls (.long y :: .long x :: st) := by
  subst hq
  exact K.plain fun p e s m args below meth c T locs k' n' hx hby X t r => XT.lsub X.here hx rfl (hb hby hd) rfl r
theorem Go.lmul {x y : Int64} (hd : decode code pc = .ok (.lmul, 1)) (hq : q = pc + 1) (K : Go l Z mn code maxL ret R n0 Q h k n q Ls (.long (x * y) :: st)) : Go l Z mn code maxL ret R n0 Q h k n pc Ls (.long y :: .long x :: st) := by
  subst hq
  exact K.plain fun p e s m args below meth c T locs k' n' hx hby X t r => XT.lmul X.here hx rfl (hb hby hd) rfl r
theorem Go.land {x y : Int64} (hd : decode code pc = .ok (.land, 1)) (hq : q = pc + 1) (K : Go l Z mn code maxL ret R n0 Q h k n q Ls (.long (x &&& y) :: st)) : Go l Z mn code maxL ret R n0 Q h k n pc Ls (.long y :: .long x :: st) := by
  subst hq
  exact K.plain fun p e s m args below meth c T locs k' n' hx hby X t r => XT.land X.here hx rfl (hb hby hd) rfl r
theorem Go.lor {x y : Int64} (hd : decode code pc = .ok (.lor, 1)) (hq : q = pc + 1) (K : Go l Z mn code maxL ret R n0 Q h k n q Ls (.long (x ||| y) :: st)) : Go l Z mn code maxL ret R n0 Q h k n pc Ls (.long y :: .long x :: st) := by
  subst hq
  exact K.plain fun p e s m args below meth c T locs k' n' hx hby X t r => XT.lor X.here hx rfl (hb hby hd) rfl r
theorem Go.lxor {x y : Int64} (hd : decode code pc = .ok (.lxor, 1)) (hq : q = pc + 1) (K : Go l Z mn code maxL ret R n0 Q h k n q Ls (.long (x ^^^ y) :: st)) : Go l Z mn code maxL ret R n0 Q h k n pc Ls (.long y :: .long x :: st) := by
  subst hq
  exact K.plain fun p e s m args below meth c T locs k' n' hx hby X t r => XT.lxor X.here hx rfl (hb hby hd) rfl r
theorem Go.lshl {x : Int64} {y : Int32} (hd : decode code pc = .ok (.lshl, 1)) (hq : q = pc + 1) (K : Go l Z mn code maxL ret R n0 Q h k n q Ls (.long (x <<< (y.toInt64 &&& 63)) :: st)) : Go l Z mn code maxL ret R n0 Q h k n pc Ls (.int y :: .long x :: st) := by
  subst hq
  exact K.plain fun p e s m args below meth c T locs k' n' hx hby X t r => XT.lshl X.here hx rfl (hb hby hd) rfl r
theorem Go.lshr {x : Int64} {y : Int32} (hd : decode code pc = .ok (.lshr, 1)) (hq : q = pc + 1) (K : Go l Z mn code maxL ret R n0 Q h k n q Ls (.long (x >>> (y.toInt64 &&& 63)) :: st)) : Go l Z mn code maxL ret R n0 Q h k n pc Ls (.int y :: .long x :: st) := by
  subst hq
  exact K.plain fun p e s m args below meth c T locs k' n' hx hby X t r => XT.lshr X.here hx rfl (hb hby hd) rfl r
theorem Go.lushr {x : Int64} {y : Int32} (hd : decode code pc = .ok (.lushr, 1)) (hq : q = pc + 1) (K : Go l Z mn code maxL ret R n0 Q h k n q Ls (.long (XT.ushrL x y) :: st)) : Go l Z mn code maxL ret R n0 Q h k n pc Ls (.int y :: .long x :: st) := by
  subst hq
  exact K.plain fun p e s m args below meth c T locs k' n' hx hby X t r => XT.lushr X.here hx rfl (hb hby hd) rfl r
theorem Go.idiv {x y : Int32} (hd : decode code pc = .ok (.idiv, 1)) (hq : q = pc + 1) (hy : y ≠ 0) (K : Go l Z mn code maxL ret R n0 Q h k n q Ls (.int (x / y) :: st)) : Go l Z mn code maxL ret R n0 Q h k n pc Ls (.int y :: .int x :: st) := by
  subst hq
  exact K.plain fun p e s m args below meth c T locs k' n' hx hby X t r => XS.idiv X.here hx rfl (hb hby hd) rfl hy r
theorem Go.irem {x y : Int32} (hd : decode code pc = .ok (.irem, 1)) (hq : q = pc + 1) (hy : y ≠ 0) (K : Go l Z mn code maxL ret R n0 Q h k n q Ls (.int (x % y) :: st)) : Go l Z mn code maxL ret R n0 Q h k n pc Ls (.int y :: .int x :: st) := by
  subst hq
  exact K.plain fun p e s m args below meth c T locs k' n' hx hby X t r => XS.irem X.here hx rfl (hb hby hd) rfl hy (by rw [irem_eq_mod]; exact r)
theorem Go.lrem {x y : Int64} (hd : decode code pc = .ok (.lrem, 1)) (hq : q = pc + 1) (hy : y ≠ 0) (K : Go l Z mn code maxL ret R n0 Q h k n q Ls (.long (x % y) :: st)) : Go l Z mn code maxL ret R n0 Q h k n pc Ls (.long y :: .long x :: st) := by
  subst hq
  exact K.plain fun p e s m args below meth c T locs k' n' hx hby X t r => XT.lrem X.here hx rfl (hb hby hd) rfl hy (by rw [lrem_mod]; exact r)
theorem Go.ineg {x : Int32} (hd : decode code pc = .ok (.ineg, 1)) (hq : q = pc + 1) (K : Go l Z mn code maxL ret R n0 Q h k n q Ls (.int (-x) :: st)) : Go l Z mn code maxL ret R n0 Q h k n pc Ls (.int x :: st) := by
  subst hq
  exact K.plain fun p e s m args below meth c T locs k' n' hx hby X t r => XS.ineg X.here hx rfl (hb hby hd) rfl r
theorem Go.lneg {x : Int64} (hd : decode code pc = .ok (.lneg, 1)) (hq : q = pc + 1) (K : Go l Z mn code maxL ret R n0 Q h k n q Ls (.long (-x) :: st)) : Go l Z mn code maxL ret R n0 Q h k n pc Ls (.long x :: st) := by
  subst hq
  exact K.plain fun p e s m args below meth c T locs k' n' hx hby X t r => XT.lneg X.here hx rfl (hb hby hd) rfl r
theorem Go.i2l {x : Int32} (hd : decode code pc = .ok (.i2l, 1)) (hq : q = pc + 1) (K : Go l Z mn code maxL ret R n0 Q h k n q Ls (.long x.toInt64 :: st)) : Go l Z mn code maxL ret R n0 Q h k n pc Ls (.int x :: st) := by
  subst hq
  exact K.plain fun p e s m args below meth c T locs k' n' hx hby X t r => XT.i2l X.here hx rfl (hb hby hd) rfl r
theorem Go.l2i {x : Int64} (hd : decode code pc = .ok (.l2i, 1)) (hq : q = pc + 1) (K : Go l Z mn code maxL ret R n0 Q h k n q Ls (.int x.toInt32 :: st)) : Go l Z mn code maxL ret R n0 Q h k n pc Ls (.long x :: st) := by
  subst hq
  exact K.plain fun p e s m args below meth c T locs k' n' hx hby X t r => XT.l2i X.here hx rfl (hb hby hd) rfl r
theorem Go.i2b {x : Int32} (hd : decode code pc = .ok (.i2b, 1)) (hq : q = pc + 1) (K : Go l Z mn code maxL ret R n0 Q h k n q Ls (.int x.toInt8.toInt32 :: st)) : Go l Z mn code maxL ret R n0 Q h k n pc Ls (.int x :: st) := by
  subst hq
  exact K.plain fun p e s m args below meth c T locs k' n' hx hby X t r => XT.i2b X.here hx rfl (hb hby hd) rfl r
theorem Go.i2s {x : Int32} (hd : decode code pc = .ok (.i2s, 1)) (hq : q = pc + 1) (K : Go l Z mn code maxL ret R n0 Q h k n q Ls (.int x.toInt16.toInt32 :: st)) : Go l Z mn code maxL ret R n0 Q h k n pc Ls (.int x :: st) := by
  subst hq
  exact K.plain fun p e s m args below meth c T locs k' n' hx hby X t r => XT.i2s X.here hx rfl (hb hby hd) rfl r
theorem Go.i2c {x : Int32} (hd : decode code pc = .ok (.i2c, 1)) (hq : q = pc + 1) (K : Go l Z mn code maxL ret R n0 Q h k n q Ls (.int x.toUInt32.toUInt16.toUInt32.toInt32 :: st)) : Go l Z mn code maxL ret R n0 Q h k n pc Ls (.int x :: st) := by
  subst hq
  exact K.plain fun p e s m args below meth c T locs k' n' hx hby X t r => XT.i2c X.here hx rfl (hb hby hd) rfl r
theorem Go.lcmp {x y : Int64} (hd : decode code pc = .ok (.lcmp, 1)) (hq : q = pc + 1) (K : Go l Z mn code maxL ret R n0 Q h k n q Ls (.int (XT.cmpL x y) :: st)) : Go l Z mn code maxL ret R n0 Q h k n pc Ls (.long y :: .long x :: st) := by
  subst hq
  exact K.plain fun p e s m args below meth c T locs k' n' hx hby X t r => XT.lcmp X.here hx rfl (hb hby hd) rfl r
theorem Go.iinc {i : Nat} {cst : Int} {x w : Int32} (hd : decode code pc = .ok (.iinc i cst, 3)) (hq : q = pc + 3) (hl : Ls[i]? = some (.val (.int x))) (hw : x + Int32.ofInt cst = w) (hl' : storeLocals Ls i (.int w) = some Ls') (K : Go l Z mn code maxL ret R n0 Q h k n q Ls' (st)) : Go l Z mn code maxL ret R n0 Q h k n pc Ls (st) := by
  subst hq
  exact K.plain fun p e s m args below meth c T locs k' n' hx hby X t r => XS.iinc X.here hx rfl (hb hby hd) hl (by rw [hw]; exact hl') r
theorem Go.dup {v : Value} (hd : decode code pc = .ok (.dup, 1)) (hq : q = pc + 1) (hc : v.category = 1) (K : Go l Z mn code maxL ret R n0 Q h k n q Ls (v :: v :: st)) : Go l Z mn code maxL ret R n0 Q h k n pc Ls (v :: st) := by
  subst hq
  exact K.plain fun p e s m args below meth c T locs k' n' hx hby X t r => XS.dup X.here hx rfl (hb hby hd) rfl hc r
theorem Go.pop {v : Value} (hd : decode code pc = .ok (.pop, 1)) (hq : q = pc + 1) (hc : v.category = 1) (K : Go l Z mn code maxL ret R n0 Q h k n q Ls (st)) : Go l Z mn code maxL ret R n0 Q h k n pc Ls (v :: st) := by
  subst hq
  exact K.plain fun p e s m args below meth c T locs k' n' hx hby X t r => XT.pop X.here hx rfl (hb hby hd) rfl hc r
theorem Go.dupX1 {v w : Value} (hd : decode code pc = .ok (.dup_x1, 1)) (hq : q = pc + 1) (hc : v.category = 1) (hc' : w.category = 1) (K : Go l Z mn code maxL ret R n0 Q h k n q Ls (v :: w :: v :: st)) : Go l Z mn code maxL ret R n0 Q h k n pc Ls (v :: w :: st) := by
  subst hq
  exact K.plain fun p e s m args below meth c T locs k' n' hx hby X t r => XT.dupX1 X.here hx rfl (hb hby hd) rfl hc hc' r
theorem Go.dup2 {v w : Value} (hd : decode code pc = .ok (.dup2, 1)) (hq : q = pc + 1) (hc : v.category = 1) (hc' : w.category = 1) (K : Go l Z mn code maxL ret R n0 Q h k n q Ls (v :: w :: v :: w :: st)) : Go l Z mn code maxL ret R n0 Q h k n pc Ls (v :: w :: st) := by
  subst hq
  exact K.plain fun p e s m args below meth c T locs k' n' hx hby X t r => XT.dup2 X.here hx rfl (hb hby hd) rfl hc hc' r
theorem Go.dup2L {x : Int64} (hd : decode code pc = .ok (.dup2, 1)) (hq : q = pc + 1) (K : Go l Z mn code maxL ret R n0 Q h k n q Ls (.long x :: .long x :: st)) : Go l Z mn code maxL ret R n0 Q h k n pc Ls (.long x :: st) := by
  subst hq
  exact K.plain fun p e s m args below meth c T locs k' n' hx hby X t r => XT.dup2L X.here hx rfl (hb hby hd) rfl r
theorem Go.goto {o : Int} (hd : decode code pc = .ok (.goto o, 3)) (ho : 0 ≤ (pc : Int) + o) (hq : ((pc : Int) + o).toNat = q) (K : Go l Z mn code maxL ret R n0 Q h k n q Ls st) : Go l Z mn code maxL ret R n0 Q h k n pc Ls st :=
  K.plain fun p e s m args below meth c T locs k' n' hx hby X t r => XS.goto X.here hx rfl rfl (hb hby hd) ho hq r
theorem Go.icmp_eq {x y' : Int32} {o : Int} {q' : Nat} (hd : decode code pc = .ok (.if_icmp .eq o, 3)) (ho : 0 ≤ (pc : Int) + o) (hq : ((pc : Int) + o).toNat = q) (hq' : q' = pc + 3) (K1 : x = y' → Go l Z mn code maxL ret R n0 Q h k n q Ls st) (K2 : ¬ x = y' → Go l Z mn code maxL ret R n0 Q h k n q' Ls st) : Go l Z mn code maxL ret R n0 Q h k n pc Ls (.int y' :: .int x :: st) := by
  subst hq'
  by_cases hc : x = y'
  · exact (K1 hc).plain fun p e s m args below meth c T locs k' n' hx hby X t r => XS.icmpYes X.here hx rfl rfl (hb hby hd) rfl (teq hc).1 ho hq r
  · exact (K2 (hc)).plain fun p e s m args below meth c T locs k' n' hx hby X t r => XS.icmpNo X.here hx rfl (hb hby hd) rfl (feq (hc)).1 r
theorem Go.if_eq {x : Int32} {o : Int} {q' : Nat} (hd : decode code pc = .ok (.ifCond .eq o, 3)) (ho : 0 ≤ (pc : Int) + o) (hq : ((pc : Int) + o).toNat = q) (hq' : q' = pc + 3) (K1 : x = 0 → Go l Z mn code maxL ret R n0 Q h k n q Ls st) (K2 : ¬ x = 0 → Go l Z mn code maxL ret R n0 Q h k n q' Ls st) : Go l Z mn code maxL ret R n0 Q h k n pc Ls (.int x :: st) := by
  subst hq'
  by_cases hc : x = 0
  · exact (K1 hc).plain fun p e s m args below meth c T locs k' n' hx hby X t r => XS.ifYes X.here hx rfl rfl (hb hby hd) rfl ((if0 _ _).trans (teq hc).1) ho hq r
  · exact (K2 (hc)).plain fun p e s m args below meth c T locs k' n' hx hby X t r => XS.ifNo X.here hx rfl (hb hby hd) rfl ((if0 _ _).trans (feq (hc)).1) r
theorem Go.icmp_ne {x y' : Int32} {o : Int} {q' : Nat} (hd : decode code pc = .ok (.if_icmp .ne o, 3)) (ho : 0 ≤ (pc : Int) + o) (hq : ((pc : Int) + o).toNat = q) (hq' : q' = pc + 3) (K1 : ¬ x = y' → Go l Z mn code maxL ret R n0 Q h k n q Ls st) (K2 : x = y' → Go l Z mn code maxL ret R n0 Q h k n q' Ls st) : Go l Z mn code maxL ret R n0 Q h k n pc Ls (.int y' :: .int x :: st) := by
  subst hq'
  by_cases hc : ¬ x = y'
  · exact (K1 hc).plain fun p e s m args below meth c T locs k' n' hx hby X t r => XS.icmpYes X.here hx rfl rfl (hb hby hd) rfl (feq hc).2 ho hq r
  · exact (K2 (Decidable.not_not.mp hc)).plain fun p e s m args below meth c T locs k' n' hx hby X t r => XS.icmpNo X.here hx rfl (hb hby hd) rfl (teq (Decidable.not_not.mp hc)).2 r
theorem Go.if_ne {x : Int32} {o : Int} {q' : Nat} (hd : decode code pc = .ok (.ifCond .ne o, 3)) (ho : 0 ≤ (pc : Int) + o) (hq : ((pc : Int) + o).toNat = q) (hq' : q' = pc + 3) (K1 : ¬ x = 0 → Go l Z mn code maxL ret R n0 Q h k n q Ls st) (K2 : x = 0 → Go l Z mn code maxL ret R n0 Q h k n q' Ls st) : Go l Z mn code maxL ret R n0 Q h k n pc Ls (.int x :: st) := by
  subst hq'
  by_cases hc : ¬ x = 0
  · exact (K1 hc).plain fun p e s m args below meth c T locs k' n' hx hby X t r => XS.ifYes X.here hx rfl rfl (hb hby hd) rfl ((if0 _ _).trans (feq hc).2) ho hq r
  · exact (K2 (Decidable.not_not.mp hc)).plain fun p e s m args below meth c T locs k' n' hx hby X t r => XS.ifNo X.here hx rfl (hb hby hd) rfl ((if0 _ _).trans (teq (Decidable.not_not.mp hc)).2) r
theorem Go.icmp_lt {x y' : Int32} {o : Int} {q' : Nat} (hd : decode code pc = .ok (.if_icmp .lt o, 3)) (ho : 0 ≤ (pc : Int) + o) (hq : ((pc : Int) + o).toNat = q) (hq' : q' = pc + 3) (K1 : x < y' → Go l Z mn code maxL ret R n0 Q h k n q Ls st) (K2 : ¬ x < y' → Go l Z mn code maxL ret R n0 Q h k n q' Ls st) : Go l Z mn code maxL ret R n0 Q h k n pc Ls (.int y' :: .int x :: st) := by
  subst hq'
  by_cases hc : x < y'
  · exact (K1 hc).plain fun p e s m args below meth c T locs k' n' hx hby X t r => XS.icmpYes X.here hx rfl rfl (hb hby hd) rfl (tlt hc).1 ho hq r
  · exact (K2 (hc)).plain fun p e s m args below meth c T locs k' n' hx hby X t r => XS.icmpNo X.here hx rfl (hb hby hd) rfl (flt (hc)).1 r
theorem Go.if_lt {x : Int32} {o : Int} {q' : Nat} (hd : decode code pc = .ok (.ifCond .lt o, 3)) (ho : 0 ≤ (pc : Int) + o) (hq : ((pc : Int) + o).toNat = q) (hq' : q' = pc + 3) (K1 : x < 0 → Go l Z mn code maxL ret R n0 Q h k n q Ls st) (K2 : ¬ x < 0 → Go l Z mn code maxL ret R n0 Q h k n q' Ls st) : Go l Z mn code maxL ret R n0 Q h k n pc Ls (.int x :: st) := by
  subst hq'
  by_cases hc : x < 0
  · exact (K1 hc).plain fun p e s m args below meth c T locs k' n' hx hby X t r => XS.ifYes X.here hx rfl rfl (hb hby hd) rfl ((if0 _ _).trans (tlt hc).1) ho hq r
  · exact (K2 (hc)).plain fun p e s m args below meth c T locs k' n' hx hby X t r => XS.ifNo X.here hx rfl (hb hby hd) rfl ((if0 _ _).trans (flt (hc)).1) r
theorem Go.icmp_ge {x y' : Int32} {o : Int} {q' : Nat} (hd : decode code pc = .ok (.if_icmp .ge o, 3)) (ho : 0 ≤ (pc : Int) + o) (hq : ((pc : Int) + o).toNat = q) (hq' : q' = pc + 3) (K1 : ¬ x < y' → Go l Z mn code maxL ret R n0 Q h k n q Ls st) (K2 : x < y' → Go l Z mn code maxL ret R n0 Q h k n q' Ls st) : Go l Z mn code maxL ret R n0 Q h k n pc Ls (.int y' :: .int x :: st) := by
  subst hq'
  by_cases hc : ¬ x < y'
  · exact (K1 hc).plain fun p e s m args below meth c T locs k' n' hx hby X t r => XS.icmpYes X.here hx rfl rfl (hb hby hd) rfl (flt hc).2.1 ho hq r
  · exact (K2 (Decidable.not_not.mp hc)).plain fun p e s m args below meth c T locs k' n' hx hby X t r => XS.icmpNo X.here hx rfl (hb hby hd) rfl (tlt (Decidable.not_not.mp hc)).2.1 r
theorem Go.if_ge {x : Int32} {o : Int} {q' : Nat} (hd : decode code pc = .ok (.ifCond .ge o, 3)) (ho : 0 ≤ (pc : Int) + o) (hq : ((pc : Int) + o).toNat = q) (hq' : q' = pc + 3) (K1 : ¬ x < 0 → Go l Z mn code maxL ret R n0 Q h k n q Ls st) (K2 : x < 0 → Go l Z mn code maxL ret R n0 Q h k n q' Ls st) : Go l Z mn code maxL ret R n0 Q h k n pc Ls (.int x :: st) := by
  subst hq'
  by_cases hc : ¬ x < 0
  · exact (K1 hc).plain fun p e s m args below meth c T locs k' n' hx hby X t r => XS.ifYes X.here hx rfl rfl (hb hby hd) rfl ((if0 _ _).trans (flt hc).2.1) ho hq r
  · exact (K2 (Decidable.not_not.mp hc)).plain fun p e s m args below meth c T locs k' n' hx hby X t r => XS.ifNo X.here hx rfl (hb hby hd) rfl ((if0 _ _).trans (tlt (Decidable.not_not.mp hc)).2.1) r
theorem Go.icmp_gt {x y' : Int32} {o : Int} {q' : Nat} (hd : decode code pc = .ok (.if_icmp .gt o, 3)) (ho : 0 ≤ (pc : Int) + o) (hq : ((pc : Int) + o).toNat = q) (hq' : q' = pc + 3) (K1 : y' < x → Go l Z mn code maxL ret R n0 Q h k n q Ls st) (K2 : ¬ y' < x → Go l Z mn code maxL ret R n0 Q h k n q' Ls st) : Go l Z mn code maxL ret R n0 Q h k n pc Ls (.int y' :: .int x :: st) := by
  subst hq'
  by_cases hc : y' < x
  · exact (K1 hc).plain fun p e s m args below meth c T locs k' n' hx hby X t r => XS.icmpYes X.here hx rfl rfl (hb hby hd) rfl (tlt hc).2.2.1 ho hq r
  · exact (K2 (hc)).plain fun p e s m args below meth c T locs k' n' hx hby X t r => XS.icmpNo X.here hx rfl (hb hby hd) rfl (flt (hc)).2.2.1 r
theorem Go.if_gt {x : Int32} {o : Int} {q' : Nat} (hd : decode code pc = .ok (.ifCond .gt o, 3)) (ho : 0 ≤ (pc : Int) + o) (hq : ((pc : Int) + o).toNat = q) (hq' : q' = pc + 3) (K1 : 0 < x → Go l Z mn code maxL ret R n0 Q h k n q Ls st) (K2 : ¬ 0 < x → Go l Z mn code maxL ret R n0 Q h k n q' Ls st) : Go l Z mn code maxL ret R n0 Q h k n pc Ls (.int x :: st) := by
  subst hq'
  by_cases hc : 0 < x
  · exact (K1 hc).plain fun p e s m args below meth c T locs k' n' hx hby X t r => XS.ifYes X.here hx rfl rfl (hb hby hd) rfl ((if0 _ _).trans (tlt hc).2.2.1) ho hq r
  · exact (K2 (hc)).plain fun p e s m args below meth c T locs k' n' hx hby X t r => XS.ifNo X.here hx rfl (hb hby hd) rfl ((if0 _ _).trans (flt (hc)).2.2.1) r
theorem Go.icmp_le {x y' : Int32} {o : Int} {q' : Nat} (hd : decode code pc = .ok (.if_icmp .le o, 3)) (ho : 0 ≤ (pc : Int) + o) (hq : ((pc : Int) + o).toNat = q) (hq' : q' = pc + 3) (K1 : ¬ y' < x → Go l Z mn code maxL ret R n0 Q h k n q Ls st) (K2 : y' < x → Go l Z mn code maxL ret R n0 Q h k n q' Ls st) : Go l Z mn code maxL ret R n0 Q h k n pc Ls (.int y' :: .int x :: st) := by
  subst hq'
  by_cases hc : ¬ y' < x
  · exact (K1 hc).plain fun p e s m args below meth c T locs k' n' hx hby X t r => XS.icmpYes X.here hx rfl rfl (hb hby hd) rfl (flt hc).2.2.2 ho hq r
  · exact (K2 (Decidable.not_not.mp hc)).plain fun p e s m args below meth c T locs k' n' hx hby X t r => XS.icmpNo X.here hx rfl (hb hby hd) rfl (tlt (Decidable.not_not.mp hc)).2.2.2 r
theorem Go.if_le {x : Int32} {o : Int} {q' : Nat} (hd : decode code pc = .ok (.ifCond .le o, 3)) (ho : 0 ≤ (pc : Int) + o) (hq : ((pc : Int) + o).toNat = q) (hq' : q' = pc + 3) (K1 : ¬ 0 < x → Go l Z mn code maxL ret R n0 Q h k n q Ls st) (K2 : 0 < x → Go l Z mn code maxL ret R n0 Q h k n q' Ls st) : Go l Z mn code maxL ret R n0 Q h k n pc Ls (.int x :: st) := by
  subst hq'
  by_cases hc : ¬ 0 < x
  · exact (K1 hc).plain fun p e s m args below meth c T locs k' n' hx hby X t r => XS.ifYes X.here hx rfl rfl (hb hby hd) rfl ((if0 _ _).trans (flt hc).2.2.2) ho hq r
  · exact (K2 (Decidable.not_not.mp hc)).plain fun p e s m args below meth c T locs k' n' hx hby X t r => XS.ifNo X.here hx rfl (hb hby hd) rfl ((if0 _ _).trans (tlt (Decidable.not_not.mp hc)).2.2.2) r
theorem Go.ifnull {v : Value} {o : Int} {q' : Nat} (hd : decode code pc = .ok (.ifnull o, 3)) (ho : 0 ≤ (pc : Int) + o) (hq : ((pc : Int) + o).toNat = q) (hq' : q' = pc + 3) (hv : v.isRef = true) (K1 : v = .null → Go l Z mn code maxL ret R n0 Q h k n q Ls st) (K2 : ∀ a, v = .ref a → Go l Z mn code maxL ret R n0 Q h k n q' Ls st) : Go l Z mn code maxL ret R n0 Q h k n pc Ls (v :: st) := by
  subst hq'
  rcases ref_cases hv with rfl | ⟨a, rfl⟩
  · exact (K1 rfl).plain fun p e s m args below meth c T locs k' n' hx hby X t r => XS.ifnullYes X.here hx rfl rfl (hb hby hd) rfl ho hq r
  · exact (K2 a rfl).plain fun p e s m args below meth c T locs k' n' hx hby X t r => XS.ifnullNo X.here hx rfl (hb hby hd) rfl r
theorem Go.ifnonnull {v : Value} {o : Int} {q' : Nat} (hd : decode code pc = .ok (.ifnonnull o, 3)) (ho : 0 ≤ (pc : Int) + o) (hq : ((pc : Int) + o).toNat = q) (hq' : q' = pc + 3) (hv : v.isRef = true) (K1 : ∀ a, v = .ref a → Go l Z mn code maxL ret R n0 Q h k n q Ls st) (K2 : v = .null → Go l Z mn code maxL ret R n0 Q h k n q' Ls st) : Go l Z mn code maxL ret R n0 Q h k n pc Ls (v :: st) := by
  subst hq'
  rcases ref_cases hv with rfl | ⟨a, rfl⟩
  · exact (K2 rfl).plain fun p e s m args below meth c T locs k' n' hx hby X t r => XT.ifnonnullNo X.here hx rfl (hb hby hd) rfl r
  · exact (K1 a rfl).plain fun p e s m args below meth c T locs k' n' hx hby X t r => XT.ifnonnullYes X.here hx rfl rfl (hb hby hd) rfl ho hq r
theorem Go.acmp_eq {v w : Value} {o : Int} {q' : Nat} (hd : decode code pc = .ok (.if_acmp .eq o, 3)) (ho : 0 ≤ (pc : Int) + o) (hq : ((pc : Int) + o).toNat = q) (hq' : q' = pc + 3) (hv : v.isRef = true) (hw : w.isRef = true) (K1 : v = w → Go l Z mn code maxL ret R n0 Q h k n q Ls st) (K2 : ¬ v = w → Go l Z mn code maxL ret R n0 Q h k n q' Ls st) : Go l Z mn code maxL ret R n0 Q h k n pc Ls (w :: v :: st) := by
  subst hq'
  by_cases hc : v = w
  · exact (K1 hc).plain fun p e s m args below meth c T locs k' n' hx hby X t r => RoadKit.acmp X hx rfl hv hw rfl (hb hby hd) rfl (same := true) (by simp [hc]) ho (by simp [acV, hq]) r
  · exact (K2 hc).plain fun p e s m args below meth c T locs k' n' hx hby X t r => RoadKit.acmp X hx rfl hv hw rfl (hb hby hd) rfl (same := false) (by simp [hc]) ho (by simp [acV]) r
theorem Go.acmp_ne {v w : Value} {o : Int} {q' : Nat} (hd : decode code pc = .ok (.if_acmp .ne o, 3)) (ho : 0 ≤ (pc : Int) + o) (hq : ((pc : Int) + o).toNat = q) (hq' : q' = pc + 3) (hv : v.isRef = true) (hw : w.isRef = true) (K1 : ¬ v = w → Go l Z mn code maxL ret R n0 Q h k n q Ls st) (K2 : v = w → Go l Z mn code maxL ret R n0 Q h k n q' Ls st) : Go l Z mn code maxL ret R n0 Q h k n pc Ls (w :: v :: st) := by
  subst hq'
  by_cases hc : v = w
  · exact (K2 hc).plain fun p e s m args below meth c T locs k' n' hx hby X t r => RoadKit.acmp X hx rfl hv hw rfl (hb hby hd) rfl (same := true) (by simp [hc]) ho (by simp [acV]) r
  · exact (K1 hc).plain fun p e s m args below meth c T locs k' n' hx hby X t r => RoadKit.acmp X hx rfl hv hw rfl (hb hby hd) rfl (same := false) (by simp [hc]) ho (by simp [acV, hq]) r
/-! constants of the pool -/
theorem Go.ldc {i : Nat} {v : Int32} (hd : decode code pc = .ok (.ldc i, 2)) (hq : q = pc + 2) (w : (Jvm.Cond.constant mn.cls i v).before a0 Z = true) (K : Go l Z mn code maxL ret R n0 Q h k n q Ls (.int v :: st)) : Go l Z mn code maxL ret R n0 Q h k n pc Ls st := by
  subst hq
  exact fun p e s m args below meth c T locs k' n' C X hk hn N eT => (K p e s m args below meth c T locs k' n' C X hk hn N eT).step fun t r => X.ldcI C.1 C.2.2.2.2.1 (mvT C.2.1 w) rfl (hb C.2.2.1 hd) r
theorem Go.ldcW {i : Nat} {v : Int32} (hd : decode code pc = .ok (.ldc_w i, 3)) (hq : q = pc + 3) (w : (Jvm.Cond.constant mn.cls i v).before a0 Z = true) (K : Go l Z mn code maxL ret R n0 Q h k n q Ls (.int v :: st)) : Go l Z mn code maxL ret R n0 Q h k n pc Ls st := by
  subst hq
  exact fun p e s m args below meth c T locs k' n' C X hk hn N eT => (K p e s m args below meth c T locs k' n' C X hk hn N eT).step fun t r => X.ldcWI C.1 C.2.2.2.2.1 (mvT C.2.1 w) rfl (hb C.2.2.1 hd) r
theorem Go.ldc2 {i : Nat} {v : Int64} (hd : decode code pc = .ok (.ldc2_w i, 3)) (hq : q = pc + 3) (w : (Jvm.Cond.constantLong mn.cls i v).before a0 Z = true) (K : Go l Z mn code maxL ret R n0 Q h k n q Ls (.long v :: st)) : Go l Z mn code maxL ret R n0 Q h k n pc Ls st := by
  subst hq
  exact fun p e s m args below meth c T locs k' n' C X hk hn N eT => (K p e s m args below meth c T locs k' n' C X hk hn N eT).step fun t r => X.ldc2J C.1 C.2.2.2.2.1 (mvT C.2.1 w) rfl (hb C.2.2.1 hd) r
/-! statics and fields -/
theorem Go.getS {i : Nat} {O nm d : String} {v : Value} (hd : decode code pc = .ok (.getstatic i, 3)) (hq : q = pc + 3) (w : (Jvm.Cond.fieldLink mn.cls i O nm d).before a0 Z = true) (F : Sta Z h O nm d v) (K : Go l Z mn code maxL ret R n0 Q h k n q Ls (v :: st)) : Go l Z mn code maxL ret R n0 Q h k n pc Ls st := by
  subst hq
  intro p e s m args below meth c T locs k' n' C X hk hn N eT
  obtain ⟨T', X', e', f⟩ := RoadKit.getS (host := "") X C.1 C.2.1 C.2.2.2.2.1 w Via.refl eT F (g := mkF m pc Ls st) rfl (hb C.2.2.1 hd)
  exact (K p e s m args below meth c T' locs k' n' C X' hk hn N e').step f
theorem Go.getF {i : Nat} {R0 O nm d host : String} {a : Addr} {v : Value} (hd : decode code pc = .ok (.getfield i, 3)) (hq : q = pc + 3) (w : (Jvm.Cond.fieldLink mn.cls i R0 nm d).before a0 Z = true ∨ (Jvm.Cond.fieldLinkNest mn.cls i R0 nm d host).before a0 Z = true) (via : Via Z R0 O nm d) (F : Fld Z h a O nm d v) (K : Go l Z mn code maxL ret R n0 Q h k n q Ls (v :: st)) : Go l Z mn code maxL ret R n0 Q h k n pc Ls (.ref a :: st) := by
  subst hq
  intro p e s m args below meth c T locs k' n' C X hk hn N eT
  obtain ⟨T', X', e', f⟩ := RoadKit.getF X C.1 C.2.1 C.2.2.2.2.1 w via eT F (g := mkF m pc Ls (.ref a :: st)) rfl rfl (hb C.2.2.1 hd)
  exact (K p e s m args below meth c T' locs k' n' C X' hk hn N e').step f
theorem Go.putF {i kk : Nat} {R0 O nm d host C : String} {a : Addr} {v old : Value} {ty : FieldType} (hd : decode code pc = .ok (.putfield i, 3)) (hq : q = pc + 3) (w : (Jvm.Cond.fieldLink mn.cls i R0 nm d).before a0 Z = true ∨ (Jvm.Cond.fieldLinkNest mn.cls i R0 nm d host).before a0 Z = true) (via : Via Z R0 O nm d) (F : Fld Z h a O nm d old) (E : Exa Z h a C) (L : (Jvm.Cond.lays C O nm d).before a0 Z = true ∨ ((Jvm.Cond.laysFinal C O nm d).before a0 Z = true ∧ mn.cls = O ∧ mn.name = "<init>")) (wi : (Jvm.Cond.instantiable C kk).before a0 Z = true)
    (hty : parseFieldDescriptor d = some ty) (hna : narrow ty v = v) (hf : fits ty v = true) (ha : n0 ≤ a) (K : ∀ h', Wr h h' a (RoadKit.slotOf Z O nm d) v → Go l Z mn code maxL ret R n0 Q h' k n q Ls st) : Go l Z mn code maxL ret R n0 Q h k n pc Ls (v :: .ref a :: st) := by
  subst hq
  intro p e s m args below meth c T locs k' n' Cc X hk hn N eT
  obtain ⟨T', h', X', e', W, f⟩ := RoadKit.putF X Cc.1 Cc.2.1 Cc.2.2.2.2.1 w via eT F E (L.imp id fun q => ⟨q.1, q.2.1, Cc.2.2.2.2.2.2.2.trans q.2.2⟩) wi hty hna hf (g := mkF m pc Ls (v :: .ref a :: st)) rfl rfl (hb Cc.2.2.1 hd)
  exact (K h' W p e s m args below meth c T' _ k' n' Cc X' hk hn (Fr.snoc X' N ha) e').step f
theorem Go.cast {i : Nat} {Kc : String} {a : Addr} (hd : decode code pc = .ok (.checkcast i, 3)) (hq : q = pc + 3) (w : (Jvm.Cond.classLink mn.cls i Kc).before a0 Z = true) (F : Ins Z h a Kc true) (K : Go l Z mn code maxL ret R n0 Q h k n q Ls (.ref a :: st)) : Go l Z mn code maxL ret R n0 Q h k n pc Ls (.ref a :: st) := by
  subst hq
  intro p e s m args below meth c T locs k' n' C X hk hn N eT
  obtain ⟨T', X', e', f⟩ := castY X C.1 C.2.1 C.2.2.2.2.1 w eT F (g := mkF m pc Ls (.ref a :: st)) rfl rfl (hb C.2.2.1 hd)
  exact (K p e s m args below meth c T' locs k' n' C X' hk hn N e').step f
/-! new, arrays -/
theorem Go.new {i kk : Nat} {C : String} (hd : decode code pc = .ok (.new i, 3)) (hq : q = pc + 3) (w : (Jvm.Cond.classLink mn.cls i C).before a0 Z = true) (wi : (Jvm.Cond.instantiable C kk).before a0 Z = true) (wz : (Jvm.Cond.initialized C).before a0 Z = true) (hc : k + 1 ≤ R.cells) (hs : n + kk ≤ R.slots)
    (K : ∀ h' a, a = h.size → Ext h h' → Exa Z h' a C → (∀ {O nm d : String} {ty : FieldType}, Laid Z a0 C O nm d → parseFieldDescriptor d = some ty → Fld Z h' a O nm d (defaultValue ty)) → Go l Z mn code maxL ret R n0 Q h' (k + 1) (n + kk) q Ls (.ref a :: st)) : Go l Z mn code maxL ret R n0 Q h k n pc Ls st := by
  subst hq
  intro p e s m args below meth c T locs k' n' Cc X hk hn N eT
  obtain ⟨T', h', X', e', E, A, D, -, f⟩ := newO X Cc.1 Cc.2.1 Cc.2.2.2.2.1 w wi wz eT (g := mkF m pc Ls st) rfl (hb Cc.2.2.1 hd) (by omega) (by omega)
  exact (K h' h.size rfl E A (fun L t => D L t) p e s m args below meth c T' locs _ _ Cc X' (by omega) (by omega) N e').step f
theorem Go.initObj {i wd : Nat} {a : Addr} (hd : decode code pc = .ok (.invokespecial i, 3)) (hq : q = pc + 3) (w1 : (Jvm.Cond.methodLink mn.cls i Lib.objectInit).before a0 Z = true) (w2 : (Jvm.Cond.instanceMethod Lib.objectInit).before a0 Z = true) (w3 : (Jvm.Cond.code Lib.objectInit ⟨#[0xb1]⟩ 1 none).before a0 Z = true) (hsz : Ls.size = maxL) (hf : 1 ≤ R.frames) (hW : (st.map fun v => v.category).sum = wd) (hl : wd + 12 ≤ R.locals) (K : Go l Z mn code maxL ret R n0 Q h k n q Ls st) : Go l Z mn code maxL ret R n0 Q h k n pc Ls (.ref a :: st) := by
  subst hq
  intro p e s m args below meth c T locs k' n' C X hk hn N eT
  obtain ⟨T', X', e', f⟩ := initO X C.1 C.2.1 C.2.2.2.2.1 w1 w2 w3 eT (g := mkF m pc Ls (.ref a :: st)) rfl (by rw [C.2.2.2.1]; exact hsz) rfl (hb C.2.2.1 hd) hf (W := wd) (by simp [hW]) hl
  exact (K p e s m args below meth c T' locs k' n' C X' hk hn N e').step f

end Laws
theorem cmpL_eq (x y : Int64) : XT.cmpL x y = 0 ↔ x = y := by
  unfold XT.cmpL
  by_cases h1 : y < x
  · rw [if_pos h1]; constructor
    · intro e; exact absurd e (by decide)
    · rintro rfl; exact absurd h1 Int64.lt_irrefl
  · rw [if_neg h1]
    by_cases h2 : x = y
    · simp [h2]
    · rw [if_neg h2]; constructor
      · intro e; exact absurd e (by decide)
      · intro e; exact absurd e h2
theorem cmpL_lt (x y : Int64) : XT.cmpL x y < 0 ↔ x < y := by
  unfold XT.cmpL
  by_cases h1 : y < x
  · rw [if_pos h1]; constructor
    · intro e; exact absurd e (by decide)
    · intro e; rw [Int64.lt_iff_toInt_lt] at e h1; omega
  · rw [if_neg h1]
    by_cases h2 : x = y
    · rw [if_pos h2]; constructor
      · intro e; exact absurd e (by decide)
      · intro e; rw [h2] at e; exact absurd e Int64.lt_irrefl
    · rw [if_neg h2]; constructor
      · intro _; rw [Int64.lt_iff_toInt_lt] at h1 ⊢; rw [← Int64.toInt_inj] at h2; omega
      · intro _; decide
theorem cmpL_gt (x y : Int64) : 0 < XT.cmpL x y ↔ y < x := by
  unfold XT.cmpL
  by_cases h1 : y < x
  · rw [if_pos h1]; constructor
    · intro _; exact h1
    · intro _; decide
  · rw [if_neg h1]
    by_cases h2 : x = y
    · rw [if_pos h2]; constructor
      · intro e; exact absurd e (by decide)
      · intro e; exact absurd e h1
    · rw [if_neg h2]; constructor
      · intro e; exact absurd e (by decide)
      · intro e; exact absurd e h1
section Laws2
variable {l : Launch} {Z : State} {mn : MethodName} {code : ByteArray} {maxL : Nat} {ret : Option FieldType} {R : Room} {n0 : Nat} {Q : Option Value → Heap → Prop} {h : Heap} {k n pc q : Nat} {Ls Ls' : Array Slot} {st st' : List Value} {a0 : Array Value}
theorem Go.lif_eq {x y' : Int64} {o : Int} {q' : Nat} (hd : decode code pc = .ok (.ifCond .eq o, 3)) (ho : 0 ≤ (pc : Int) + o) (hq : ((pc : Int) + o).toNat = q) (hq' : q' = pc + 3) (K1 : x = y' → Go l Z mn code maxL ret R n0 Q h k n q Ls st) (K2 : ¬ x = y' → Go l Z mn code maxL ret R n0 Q h k n q' Ls st) : Go l Z mn code maxL ret R n0 Q h k n pc Ls (.int (XT.cmpL x y') :: st) :=
  Go.if_eq hd ho hq hq' (fun c => K1 ((cmpL_eq _ _).mp c)) (fun c => K2 fun e => c ((cmpL_eq _ _).mpr e))
theorem Go.lif_ne {x y' : Int64} {o : Int} {q' : Nat} (hd : decode code pc = .ok (.ifCond .ne o, 3)) (ho : 0 ≤ (pc : Int) + o) (hq : ((pc : Int) + o).toNat = q) (hq' : q' = pc + 3) (K1 : ¬ x = y' → Go l Z mn code maxL ret R n0 Q h k n q Ls st) (K2 : x = y' → Go l Z mn code maxL ret R n0 Q h k n q' Ls st) : Go l Z mn code maxL ret R n0 Q h k n pc Ls (.int (XT.cmpL x y') :: st) :=
  Go.if_ne hd ho hq hq' (fun c => K1 fun e => c ((cmpL_eq _ _).mpr e)) (fun c => K2 ((cmpL_eq _ _).mp c))
theorem Go.lif_lt {x y' : Int64} {o : Int} {q' : Nat} (hd : decode code pc = .ok (.ifCond .lt o, 3)) (ho : 0 ≤ (pc : Int) + o) (hq : ((pc : Int) + o).toNat = q) (hq' : q' = pc + 3) (K1 : x < y' → Go l Z mn code maxL ret R n0 Q h k n q Ls st) (K2 : ¬ x < y' → Go l Z mn code maxL ret R n0 Q h k n q' Ls st) : Go l Z mn code maxL ret R n0 Q h k n pc Ls (.int (XT.cmpL x y') :: st) :=
  Go.if_lt hd ho hq hq' (fun c => K1 ((cmpL_lt _ _).mp c)) (fun c => K2 fun e => c ((cmpL_lt _ _).mpr e))
theorem Go.lif_ge {x y' : Int64} {o : Int} {q' : Nat} (hd : decode code pc = .ok (.ifCond .ge o, 3)) (ho : 0 ≤ (pc : Int) + o) (hq : ((pc : Int) + o).toNat = q) (hq' : q' = pc + 3) (K1 : ¬ x < y' → Go l Z mn code maxL ret R n0 Q h k n q Ls st) (K2 : x < y' → Go l Z mn code maxL ret R n0 Q h k n q' Ls st) : Go l Z mn code maxL ret R n0 Q h k n pc Ls (.int (XT.cmpL x y') :: st) :=
  Go.if_ge hd ho hq hq' (fun c => K1 fun e => c ((cmpL_lt _ _).mpr e)) (fun c => K2 ((cmpL_lt _ _).mp c))
theorem Go.lif_gt {x y' : Int64} {o : Int} {q' : Nat} (hd : decode code pc = .ok (.ifCond .gt o, 3)) (ho : 0 ≤ (pc : Int) + o) (hq : ((pc : Int) + o).toNat = q) (hq' : q' = pc + 3) (K1 : y' < x → Go l Z mn code maxL ret R n0 Q h k n q Ls st) (K2 : ¬ y' < x → Go l Z mn code maxL ret R n0 Q h k n q' Ls st) : Go l Z mn code maxL ret R n0 Q h k n pc Ls (.int (XT.cmpL x y') :: st) :=
  Go.if_gt hd ho hq hq' (fun c => K1 ((cmpL_gt _ _).mp c)) (fun c => K2 fun e => c ((cmpL_gt _ _).mpr e))
theorem Go.lif_le {x y' : Int64} {o : Int} {q' : Nat} (hd : decode code pc = .ok (.ifCond .le o, 3)) (ho : 0 ≤ (pc : Int) + o) (hq : ((pc : Int) + o).toNat = q) (hq' : q' = pc + 3) (K1 : ¬ y' < x → Go l Z mn code maxL ret R n0 Q h k n q Ls st) (K2 : y' < x → Go l Z mn code maxL ret R n0 Q h k n q' Ls st) : Go l Z mn code maxL ret R n0 Q h k n pc Ls (.int (XT.cmpL x y') :: st) :=
  Go.if_le hd ho hq hq' (fun c => K1 fun e => c ((cmpL_gt _ _).mpr e)) (fun c => K2 ((cmpL_gt _ _).mp c))
end Laws2
end Jvm.OwnKit

namespace Jvm.OwnKit
open Jvm Jvm.ClassFile Sem Op Lib Jvm.Free Jvm.Stand Jvm.LawKit Jvm.RoadKit
section Calls
variable {l : Launch} {Z : State} {mn : MethodName} {code : ByteArray} {maxL : Nat} {ret : Option FieldType} {R : Room} {n0 : Nat} {Q : Option Value → Heap → Prop} {h : Heap} {k n pc q : Nat} {Ls Ls' : Array Slot} {st st' : List Value} {a0 : Array Value}
  {y' : MethodName} {code' : ByteArray} {maxL' : Nat} {ret' : Option FieldType} {R' : Room} {Q' : Option Value → Heap → Prop} {argsL rest : List Value} {Ls1 : Array Slot} {ps : List FieldType} {r : Option FieldType} {i wd : Nat}
theorem Go.callS (hd : decode code pc = .ok (.invokestatic i, 3)) (hq : q = pc + 3) (w1 : (Jvm.Cond.methodLink mn.cls i y').before a0 Z = true) (w2 : (Jvm.Cond.static y').before a0 Z = true) (w3 : (Jvm.Cond.initialized y'.cls).before a0 Z = true) (w4 : (Jvm.Cond.code y' code' maxL' ret').before a0 Z = true)
    (hy : y'.cls ≠ "java/lang/invoke/MethodHandle" ∧ y'.cls ≠ "java/lang/invoke/VarHandle") (pn : plainFor y' = true) (pd : parseMethodDescriptor y'.desc = some ⟨ps, r⟩) (hl : argsL.length = ps.length) (hst : st = argsL.reverse ++ rest) (hef : ∀ m, entryFrame m argsL.toArray maxL' = mkF m 0 Ls1 []) (hsz : Ls.size = maxL)
    (hR1 : R'.frames + 1 ≤ R.frames) (hW : (rest.map fun v => v.category).sum = wd) (hR2 : wd + (maxL' + 11) + R'.locals ≤ R.locals) (hc : k + R'.cells ≤ R.cells) (hs : n + R'.slots ≤ R.slots)
    (G : Go l Z y' code' maxL' ret' R' n0 Q' h 0 0 0 Ls1 []) (K : ∀ v h', Q' v h' → Go l Z mn code maxL ret R n0 Q h' (k + R'.cells) (n + R'.slots) q Ls (v.toList ++ rest)) : Go l Z mn code maxL ret R n0 Q h k n pc Ls st := by
  subst hq hst hW
  intro p e s m args below meth c T locs k' n' C X hk hn N eT
  obtain ⟨v, vm1, ⟨T1, L1, k1, n1⟩, -, X1, ⟨Lc, hQ, e1, e2, e3⟩, f⟩ := Jvm.LawKit.callS X C.1 (y := y') C.2.2.2.2.1 (mvT C.2.1 w1) (mvT C.2.1 w2) (mvT C.2.1 w3) (mvT C.2.1 w4) hy (backOf (W := (rest.map fun v => v.category).sum) (Q := fun v h L => Fr n0 L ∧ Q' v h) (G.met pn hef []) C.2.1 w4 w3 hR1 hR2) (g := mkF m pc Ls (argsL.reverse ++ rest)) rfl (by rw [C.2.2.2.1]; exact hsz) (argsL := argsL) (rest := rest) (lenOf pd hl) rfl (by simp) (hb C.2.2.1 hd) (fun _ _ => ⟨rfl, eT, by show k' + _ ≤ _; omega, by show n' + _ ≤ _; omega⟩)
  dsimp only [Pt.U, Pt.locs, Pt.cells, Pt.slots] at X1 e1 e2 e3 f hQ
  subst e1 e2 e3
  exact (K v T1.heap hQ.2 p e s m args below meth c T1 _ _ _ C X1 (by omega) (by omega) (Fr.app N hQ.1) rfl).step f
theorem Go.callV {C : String} {a : Addr} (hd : decode code pc = .ok (.invokevirtual i, 3)) (hq : q = pc + 3) (w1 : (Jvm.Cond.methodLink mn.cls i y').before a0 Z = true) (w2 : (Jvm.Cond.declares y').before a0 Z = true) (w3 : (Jvm.Cond.selects C y' y').before a0 Z = true) (w4 : (Jvm.Cond.instanceMethod y').before a0 Z = true) (w5 : (Jvm.Cond.code y' code' maxL' ret').before a0 Z = true) (w6 : (Jvm.Cond.initialized y'.cls).before a0 Z = true)
    (hy : y'.cls ≠ "java/lang/invoke/MethodHandle" ∧ y'.cls ≠ "java/lang/invoke/VarHandle") (pn : plainFor y' = true) (pd : parseMethodDescriptor y'.desc = some ⟨ps, r⟩) (hl : argsL.length = ps.length) (hst : st = argsL.reverse ++ .ref a :: rest) (E : Exa Z h a C) (hef : ∀ m, entryFrame m (.ref a :: argsL).toArray maxL' = mkF m 0 Ls1 []) (hsz : Ls.size = maxL)
    (hR1 : R'.frames + 1 ≤ R.frames) (hW : (rest.map fun v => v.category).sum = wd) (hR2 : wd + (maxL' + 11) + R'.locals ≤ R.locals) (hc : k + R'.cells ≤ R.cells) (hs : n + R'.slots ≤ R.slots)
    (G : Go l Z y' code' maxL' ret' R' n0 Q' h 0 0 0 Ls1 []) (K : ∀ v h', Q' v h' → Go l Z mn code maxL ret R n0 Q h' (k + R'.cells) (n + R'.slots) q Ls (v.toList ++ rest)) : Go l Z mn code maxL ret R n0 Q h k n pc Ls st := by
  subst hq hst hW
  intro p e s m args below meth c T locs k' n' Cc X hk hn N eT
  obtain ⟨cq, kq, qa, qb, qc⟩ := isOf Cc.2.1 eT E
  obtain ⟨v, vm1, ⟨T1, L1, k1, n1⟩, -, X1, ⟨Lc, hQ, e1, e2, e3⟩, f⟩ := X.virtualBack Cc.1 (y := y') (z := y') Cc.2.2.2.2.1 (mvT Cc.2.1 w1) (mvT Cc.2.1 w2) (notFace_of_selects (args := #[]) (mvT Cc.2.1 w3)) (mvT Cc.2.1 w3) (mvT Cc.2.1 w4) hy (backOf (W := (rest.map fun v => v.category).sum) (Q := fun v h L => Fr n0 L ∧ Q' v h) (G.met pn hef []) Cc.2.1 w5 w6 hR1 hR2) qa qc (g := mkF m pc Ls (argsL.reverse ++ .ref a :: rest)) rfl (by rw [Cc.2.2.2.1]; exact hsz) (Steps.refl _) (argsL := argsL) (rest := rest) (lenOf pd hl) rfl (by simp) (hb Cc.2.2.1 hd) (fun _ _ => ⟨rfl, eT, by show k' + _ ≤ _; omega, by show n' + _ ≤ _; omega⟩)
  dsimp only [Pt.U, Pt.locs, Pt.cells, Pt.slots] at X1 e1 e2 e3 f hQ
  subst e1 e2 e3
  exact (K v T1.heap hQ.2 p e s m args below meth c T1 _ _ _ Cc X1 (by omega) (by omega) (Fr.app N hQ.1) rfl).step fun t r => f.trans r
theorem Go.callI {a : Addr} (hd : decode code pc = .ok (.invokespecial i, 3)) (hq : q = pc + 3) (hn1 : y'.name = "<init>") (w1 : (Jvm.Cond.methodLink mn.cls i y').before a0 Z = true) (w2 : (Jvm.Cond.instanceMethod y').before a0 Z = true) (w3 : (Jvm.Cond.initialized y'.cls).before a0 Z = true) (w4 : (Jvm.Cond.code y' code' maxL' none).before a0 Z = true)
    (hy : y'.cls ≠ "java/lang/invoke/MethodHandle" ∧ y'.cls ≠ "java/lang/invoke/VarHandle") (pn : plainFor y' = true) (pd : parseMethodDescriptor y'.desc = some ⟨ps, r⟩) (hl : argsL.length = ps.length) (hst : st = argsL.reverse ++ .ref a :: rest) (hef : ∀ m, entryFrame m (.ref a :: argsL).toArray maxL' = mkF m 0 Ls1 []) (hsz : Ls.size = maxL)
    (hR1 : R'.frames + 1 ≤ R.frames) (hW : (rest.map fun v => v.category).sum = wd) (hR2 : wd + (maxL' + 11) + R'.locals ≤ R.locals) (hc : k + R'.cells ≤ R.cells) (hs : n + R'.slots ≤ R.slots)
    (G : Go l Z y' code' maxL' none R' n0 Q' h 0 0 0 Ls1 []) (K : ∀ v h', Q' v h' → Go l Z mn code maxL ret R n0 Q h' (k + R'.cells) (n + R'.slots) q Ls (v.toList ++ rest)) : Go l Z mn code maxL ret R n0 Q h k n pc Ls st := by
  subst hq hst hW
  intro p e s m args below meth c T locs k' n' Cc X hk hn N eT
  obtain ⟨v, vm1, ⟨T1, L1, k1, n1⟩, -, X1, ⟨Lc, hQ, e1, e2, e3⟩, f⟩ := X.specialBack Cc.1 (y := y') hn1 Cc.2.2.2.2.1 (mvT Cc.2.1 w1) (mvT Cc.2.1 w2) (mvT Cc.2.1 w4) hy (backOf (W := (rest.map fun v => v.category).sum) (Q := fun v h L => Fr n0 L ∧ Q' v h) (G.met pn hef []) Cc.2.1 w4 w3 hR1 hR2) (g := mkF m pc Ls (argsL.reverse ++ .ref a :: rest)) rfl (by rw [Cc.2.2.2.1]; exact hsz) (Steps.refl _) (a := a) (argsL := argsL) (rest := rest) (lenOf pd hl) rfl (by simp) (hb Cc.2.2.1 hd) (fun _ _ => ⟨rfl, eT, by show k' + _ ≤ _; omega, by show n' + _ ≤ _; omega⟩)
  dsimp only [Pt.U, Pt.locs, Pt.cells, Pt.slots] at X1 e1 e2 e3 f hQ
  subst e1 e2 e3
  exact (K v T1.heap hQ.2 p e s m args below meth c T1 _ _ _ Cc X1 (by omega) (by omega) (Fr.app N hQ.1) rfl).step fun t r => f.trans r
theorem Go.callSV {P : Value → Heap → Prop} (hd : decode code pc = .ok (.invokestatic i, 3)) (hq : q = pc + 3) (w1 : (Jvm.Cond.methodLink mn.cls i y').before a0 Z = true) (w2 : (Jvm.Cond.static y').before a0 Z = true) (w3 : (Jvm.Cond.initialized y'.cls).before a0 Z = true) (w4 : (Jvm.Cond.code y' code' maxL' ret').before a0 Z = true)
    (hy : y'.cls ≠ "java/lang/invoke/MethodHandle" ∧ y'.cls ≠ "java/lang/invoke/VarHandle") (pn : plainFor y' = true) (pd : parseMethodDescriptor y'.desc = some ⟨ps, r⟩) (hl : argsL.length = ps.length) (hst : st = argsL.reverse ++ rest) (hef : ∀ m, entryFrame m argsL.toArray maxL' = mkF m 0 Ls1 []) (hsz : Ls.size = maxL)
    (hR1 : R'.frames + 1 ≤ R.frames) (hW : (rest.map fun v => v.category).sum = wd) (hR2 : wd + (maxL' + 11) + R'.locals ≤ R.locals) (hc : k + R'.cells ≤ R.cells) (hs : n + R'.slots ≤ R.slots)
    (G : Go l Z y' code' maxL' ret' R' n0 (RV P) h 0 0 0 Ls1 []) (K : ∀ w h', P w h' → Go l Z mn code maxL ret R n0 Q h' (k + R'.cells) (n + R'.slots) q Ls (w :: rest)) : Go l Z mn code maxL ret R n0 Q h k n pc Ls st :=
  Go.callS hd hq w1 w2 w3 w4 hy pn pd hl hst hef hsz hR1 hW hR2 hc hs G fun v h' ⟨w, e, q⟩ => by subst e; exact K w h' q
theorem Go.callSN {P : Heap → Prop} (hd : decode code pc = .ok (.invokestatic i, 3)) (hq : q = pc + 3) (w1 : (Jvm.Cond.methodLink mn.cls i y').before a0 Z = true) (w2 : (Jvm.Cond.static y').before a0 Z = true) (w3 : (Jvm.Cond.initialized y'.cls).before a0 Z = true) (w4 : (Jvm.Cond.code y' code' maxL' ret').before a0 Z = true)
    (hy : y'.cls ≠ "java/lang/invoke/MethodHandle" ∧ y'.cls ≠ "java/lang/invoke/VarHandle") (pn : plainFor y' = true) (pd : parseMethodDescriptor y'.desc = some ⟨ps, r⟩) (hl : argsL.length = ps.length) (hst : st = argsL.reverse ++ rest) (hef : ∀ m, entryFrame m argsL.toArray maxL' = mkF m 0 Ls1 []) (hsz : Ls.size = maxL)
    (hR1 : R'.frames + 1 ≤ R.frames) (hW : (rest.map fun v => v.category).sum = wd) (hR2 : wd + (maxL' + 11) + R'.locals ≤ R.locals) (hc : k + R'.cells ≤ R.cells) (hs : n + R'.slots ≤ R.slots)
    (G : Go l Z y' code' maxL' ret' R' n0 (RN P) h 0 0 0 Ls1 []) (K : ∀ h', P h' → Go l Z mn code maxL ret R n0 Q h' (k + R'.cells) (n + R'.slots) q Ls rest) : Go l Z mn code maxL ret R n0 Q h k n pc Ls st :=
  Go.callS hd hq w1 w2 w3 w4 hy pn pd hl hst hef hsz hR1 hW hR2 hc hs G fun v h' ⟨e, q⟩ => by subst e; exact K h' q
theorem Go.callVV {P : Value → Heap → Prop} {C : String} {a : Addr} (hd : decode code pc = .ok (.invokevirtual i, 3)) (hq : q = pc + 3) (w1 : (Jvm.Cond.methodLink mn.cls i y').before a0 Z = true) (w2 : (Jvm.Cond.declares y').before a0 Z = true) (w3 : (Jvm.Cond.selects C y' y').before a0 Z = true) (w4 : (Jvm.Cond.instanceMethod y').before a0 Z = true) (w5 : (Jvm.Cond.code y' code' maxL' ret').before a0 Z = true) (w6 : (Jvm.Cond.initialized y'.cls).before a0 Z = true)
    (hy : y'.cls ≠ "java/lang/invoke/MethodHandle" ∧ y'.cls ≠ "java/lang/invoke/VarHandle") (pn : plainFor y' = true) (pd : parseMethodDescriptor y'.desc = some ⟨ps, r⟩) (hl : argsL.length = ps.length) (hst : st = argsL.reverse ++ .ref a :: rest) (E : Exa Z h a C) (hef : ∀ m, entryFrame m (.ref a :: argsL).toArray maxL' = mkF m 0 Ls1 []) (hsz : Ls.size = maxL)
    (hR1 : R'.frames + 1 ≤ R.frames) (hW : (rest.map fun v => v.category).sum = wd) (hR2 : wd + (maxL' + 11) + R'.locals ≤ R.locals) (hc : k + R'.cells ≤ R.cells) (hs : n + R'.slots ≤ R.slots)
    (G : Go l Z y' code' maxL' ret' R' n0 (RV P) h 0 0 0 Ls1 []) (K : ∀ w h', P w h' → Go l Z mn code maxL ret R n0 Q h' (k + R'.cells) (n + R'.slots) q Ls (w :: rest)) : Go l Z mn code maxL ret R n0 Q h k n pc Ls st :=
  Go.callV hd hq w1 w2 w3 w4 w5 w6 hy pn pd hl hst E hef hsz hR1 hW hR2 hc hs G fun v h' ⟨w, e, q⟩ => by subst e; exact K w h' q
theorem Go.callVN {P : Heap → Prop} {C : String} {a : Addr} (hd : decode code pc = .ok (.invokevirtual i, 3)) (hq : q = pc + 3) (w1 : (Jvm.Cond.methodLink mn.cls i y').before a0 Z = true) (w2 : (Jvm.Cond.declares y').before a0 Z = true) (w3 : (Jvm.Cond.selects C y' y').before a0 Z = true) (w4 : (Jvm.Cond.instanceMethod y').before a0 Z = true) (w5 : (Jvm.Cond.code y' code' maxL' ret').before a0 Z = true) (w6 : (Jvm.Cond.initialized y'.cls).before a0 Z = true)
    (hy : y'.cls ≠ "java/lang/invoke/MethodHandle" ∧ y'.cls ≠ "java/lang/invoke/VarHandle") (pn : plainFor y' = true) (pd : parseMethodDescriptor y'.desc = some ⟨ps, r⟩) (hl : argsL.length = ps.length) (hst : st = argsL.reverse ++ .ref a :: rest) (E : Exa Z h a C) (hef : ∀ m, entryFrame m (.ref a :: argsL).toArray maxL' = mkF m 0 Ls1 []) (hsz : Ls.size = maxL)
    (hR1 : R'.frames + 1 ≤ R.frames) (hW : (rest.map fun v => v.category).sum = wd) (hR2 : wd + (maxL' + 11) + R'.locals ≤ R.locals) (hc : k + R'.cells ≤ R.cells) (hs : n + R'.slots ≤ R.slots)
    (G : Go l Z y' code' maxL' ret' R' n0 (RN P) h 0 0 0 Ls1 []) (K : ∀ h', P h' → Go l Z mn code maxL ret R n0 Q h' (k + R'.cells) (n + R'.slots) q Ls rest) : Go l Z mn code maxL ret R n0 Q h k n pc Ls st :=
  Go.callV hd hq w1 w2 w3 w4 w5 w6 hy pn pd hl hst E hef hsz hR1 hW hR2 hc hs G fun v h' ⟨e, q⟩ => by subst e; exact K h' q
theorem Go.callIN {P : Heap → Prop} {a : Addr} (hd : decode code pc = .ok (.invokespecial i, 3)) (hq : q = pc + 3) (hn1 : y'.name = "<init>") (w1 : (Jvm.Cond.methodLink mn.cls i y').before a0 Z = true) (w2 : (Jvm.Cond.instanceMethod y').before a0 Z = true) (w3 : (Jvm.Cond.initialized y'.cls).before a0 Z = true) (w4 : (Jvm.Cond.code y' code' maxL' none).before a0 Z = true)
    (hy : y'.cls ≠ "java/lang/invoke/MethodHandle" ∧ y'.cls ≠ "java/lang/invoke/VarHandle") (pn : plainFor y' = true) (pd : parseMethodDescriptor y'.desc = some ⟨ps, r⟩) (hl : argsL.length = ps.length) (hst : st = argsL.reverse ++ .ref a :: rest) (hef : ∀ m, entryFrame m (.ref a :: argsL).toArray maxL' = mkF m 0 Ls1 []) (hsz : Ls.size = maxL)
    (hR1 : R'.frames + 1 ≤ R.frames) (hW : (rest.map fun v => v.category).sum = wd) (hR2 : wd + (maxL' + 11) + R'.locals ≤ R.locals) (hc : k + R'.cells ≤ R.cells) (hs : n + R'.slots ≤ R.slots)
    (G : Go l Z y' code' maxL' none R' n0 (RN P) h 0 0 0 Ls1 []) (K : ∀ h', P h' → Go l Z mn code maxL ret R n0 Q h' (k + R'.cells) (n + R'.slots) q Ls rest) : Go l Z mn code maxL ret R n0 Q h k n pc Ls st :=
  Go.callI hd hq hn1 w1 w2 w3 w4 hy pn pd hl hst hef hsz hR1 hW hR2 hc hs G fun v h' ⟨e, q⟩ => by subst e; exact K h' q
end Calls
section Rets
variable {l : Launch} {Z : State} {mn : MethodName} {code : ByteArray} {maxL : Nat} {R : Room} {n0 : Nat} {Q : Option Value → Heap → Prop} {h : Heap} {k n pc q : Nat} {Ls : Array Slot} {st : List Value}
theorem Go.retOut {w : Value} {t : FieldType} {i : Instr} (hd : decode code pc = .ok (i, 1)) (hna : narrow t w = w)
    (hi : (i = .ireturn ∧ (t = .int ∨ t = .boolean ∨ t = .byte ∨ t = .char ∨ t = .short) ∧ ∃ z, w = .int z) ∨ (i = .lreturn ∧ t = .long ∧ ∃ z, w = .long z) ∨ (i = .dreturn ∧ t = .double ∧ ∃ z, w = .double z) ∨ (i = .freturn ∧ t = .float ∧ ∃ z, w = .float z) ∨ (i = .areturn ∧ t.isReference = true ∧ w.isRef = true))
    (hk : k ≤ R.cells) (hn : n ≤ R.slots) (hQ : Q (some w) h) : Go l Z mn code maxL (some t) R n0 Q h k n pc Ls (w :: st) := by
  intro p e s m args below meth c T locs k' n' C X hk' hn' N eT
  obtain ⟨fs, hr, hrun, hended, hW, hsame⟩ := X.leave (v := some w) (fun hh => by rw [C.2.2.2.2.2.1] at hh; cases hh) C.2.2.2.2.2.2.1
  exact ⟨_, _, RoadKit.retOut X C.1 C.2.2.2.2.2.1 hna hi (hb C.2.2.1 hd) hr, hrun, hended, _, locs, rfl, ⟨N, by show Q _ T.heap; rw [eT]; exact hQ⟩, ⟨_, rfl⟩, hW, hsame.mono (by omega) (by omega)⟩
theorem Go.ireturn {z : Int32} (hd : decode code pc = .ok (.ireturn, 1)) (hk : k ≤ R.cells) (hn : n ≤ R.slots) (hQ : Q (some (.int z)) h) : Go l Z mn code maxL (some .int) R n0 Q h k n pc Ls (.int z :: st) :=
  Go.retOut hd rfl (Or.inl ⟨rfl, Or.inl rfl, z, rfl⟩) hk hn hQ
theorem Go.zreturn {z : Int32} (hd : decode code pc = .ok (.ireturn, 1)) (hk : k ≤ R.cells) (hn : n ≤ R.slots) (hz : z = 0 ∨ z = 1) (hQ : Q (some (.int z)) h) : Go l Z mn code maxL (some .boolean) R n0 Q h k n pc Ls (.int z :: st) :=
  Go.retOut hd (by rcases hz with rfl | rfl <;> rfl) (Or.inl ⟨rfl, Or.inr (Or.inl rfl), z, rfl⟩) hk hn hQ
theorem Go.creturn {z : Int32} (hd : decode code pc = .ok (.ireturn, 1)) (hk : k ≤ R.cells) (hn : n ≤ R.slots) (hz : narrow .char (.int z) = .int z) (hQ : Q (some (.int z)) h) : Go l Z mn code maxL (some .char) R n0 Q h k n pc Ls (.int z :: st) :=
  Go.retOut hd hz (Or.inl ⟨rfl, Or.inr (Or.inr (Or.inr (Or.inl rfl))), z, rfl⟩) hk hn hQ
theorem Go.lreturn {z : Int64} (hd : decode code pc = .ok (.lreturn, 1)) (hk : k ≤ R.cells) (hn : n ≤ R.slots) (hQ : Q (some (.long z)) h) : Go l Z mn code maxL (some .long) R n0 Q h k n pc Ls (.long z :: st) :=
  Go.retOut hd rfl (Or.inr (Or.inl ⟨rfl, rfl, z, rfl⟩)) hk hn hQ
theorem Go.areturn {w : Value} {t : FieldType} (hd : decode code pc = .ok (.areturn, 1)) (hk : k ≤ R.cells) (hn : n ≤ R.slots) (ht : t.isReference = true) (hw : w.isRef = true) (hQ : Q (some w) h) : Go l Z mn code maxL (some t) R n0 Q h k n pc Ls (w :: st) :=
  Go.retOut hd (by rcases ref_cases hw with rfl | ⟨a, rfl⟩ <;> cases t <;> first | exact absurd ht (by decide) | rfl) (Or.inr (Or.inr (Or.inr (Or.inr ⟨rfl, ht, hw⟩)))) hk hn hQ
theorem Go.vreturn (hd : decode code pc = .ok (.return_, 1)) (hk : k ≤ R.cells) (hn : n ≤ R.slots) (hQ : Q none h) : Go l Z mn code maxL none R n0 Q h k n pc Ls [] := by
  intro p e s m args below meth c T locs k' n' C X hk' hn' N eT
  obtain ⟨fs, hr, hrun, hended, hW, hsame⟩ := X.leave (v := none) (fun _ => rfl) C.2.2.2.2.2.2.1
  exact ⟨_, _, X.returnOut C.1 C.2.2.2.2.2.1 (hb C.2.2.1 hd) hr, hrun, hended, _, locs, rfl, ⟨N, by show Q _ T.heap; rw [eT]; exact hQ⟩, ⟨_, rfl⟩, hW, hsame.mono (by omega) (by omega)⟩
end Rets
/-- an array's whole content -/
def Ar (Z : State) (h : Heap) (a : Addr) (ty : FieldType) (cA : ClassId) (vs : List Value) : Prop := ∃ c : Cell, Arr Z h a c ty ∧ c.cls = cA ∧ c.slots.toList = vs
section Arrs
variable {Z : State} {h h' : Heap} {a b : Addr} {ty : FieldType} {cA : ClassId} {vs : List Value} {sl : Nat} {v : Value} {ws : List Addr}
theorem Ar.lt (F : Ar Z h a ty cA vs) : a < h.size := by obtain ⟨c, A, -⟩ := F; exact A.lt
theorem Ar.ext (F : Ar Z h a ty cA vs) (E : Ext h h') : Ar Z h' a ty cA vs := by obtain ⟨c, A, r⟩ := F; exact ⟨c, A.ext E, r⟩
theorem Ar.other (F : Ar Z h b ty cA vs) (W : Wr h h' a sl v) (q : b ≠ a) : Ar Z h' b ty cA vs := by obtain ⟨c, A, r⟩ := F; exact ⟨c, A.other W q, r⟩
theorem Ar.keep (F : Ar Z h a ty cA vs) (K : Keep h h' ws) (q : a ∉ ws) : Ar Z h' a ty cA vs := by obtain ⟨c, A, r⟩ := F; exact ⟨c, ⟨K.2.1 a c A.1 q, A.2⟩, r⟩
theorem Ar.set (F : Ar Z h a ty cA vs) (W : Wr h h' a sl v) : Ar Z h' a ty cA (vs.set sl v) := by
  obtain ⟨c, A, r1, r2⟩ := F
  exact ⟨_, A.same W, r1, by simp [Cell.setSlot, r2]⟩
theorem Ar.size (F : Ar Z h a ty cA vs) {c : Cell} (hc : h[a]? = some c) : c.slots.size = vs.length := by
  obtain ⟨c', A, -, r⟩ := F
  cases hc.symm.trans A.1
  rw [← r]; simp
theorem Ar.ne {C : String} {k : Nat} {a0 : Array Value} (F : Exa Z h b C) (wi : (Jvm.Cond.instantiable C k).before a0 Z = true) (G : Ar Z h a ty cA vs) : b ≠ a := by
  obtain ⟨c, A, -⟩ := G; exact ne_arr F wi A
end Arrs
section ArrSteps
variable {l : Launch} {Z : State} {mn : MethodName} {code : ByteArray} {maxL : Nat} {ret : Option FieldType} {R : Room} {n0 : Nat} {Q : Option Value → Heap → Prop} {h : Heap} {k n pc q : Nat} {Ls : Array Slot} {st : List Value} {a0 : Array Value} {a : Addr} {ty : FieldType} {cA : ClassId} {vs : List Value} {v : Value} {j x : Int32}
theorem inb {c : Cell} (hj : ¬ j < 0) (r : c.slots.toList = vs) (hv : j.toNatClampNeg < vs.length) : ¬ (j < 0 ∨ c.slots.size ≤ j.toNatClampNeg) := by
  rintro (q | q)
  · exact hj q
  · rw [← r] at hv; simp at hv; omega
theorem at_l {c : Cell} {i : Nat} (r : c.slots.toList = vs) (hv : vs[i]? = some v) : c.slots[i]? = some v := by rw [← r] at hv; simpa using hv
theorem Go.arraylength (hd : decode code pc = .ok (.arraylength, 1)) (hq : q = pc + 1) (A : Ar Z h a ty cA vs) {z : Int32} (hz : vs.length.toInt32 = z) (K : Go l Z mn code maxL ret R n0 Q h k n q Ls (.int z :: st)) : Go l Z mn code maxL ret R n0 Q h k n pc Ls (.ref a :: st) := by
  subst hq hz
  intro p e s m args below meth c T locs k' n' C X hk hn N eT
  obtain ⟨cl, A, r1, r2⟩ := A
  exact (K p e s m args below meth c T locs k' n' C X hk hn N eT).step fun t r => X.arraylength (g := mkF m pc Ls (.ref a :: st)) C.1 (by rw [eT]; exact A.1) (State.isArrayOf_alike C.2.1.alike A.2.1) rfl rfl (hb C.2.2.1 hd) t (by rw [show cl.slots.size = vs.length by rw [← r2]; simp]; exact r)
theorem Go.iaload (hd : decode code pc = .ok (.iaload, 1)) (hq : q = pc + 1) (A : Ar Z h a .int cA vs) (hj : ¬ j < 0) (hv : vs[j.toNatClampNeg]? = some v) (K : Go l Z mn code maxL ret R n0 Q h k n q Ls (v :: st)) : Go l Z mn code maxL ret R n0 Q h k n pc Ls (.int j :: .ref a :: st) := by
  subst hq
  intro p e s m args below meth c T locs k' n' C X hk hn N eT
  obtain ⟨cl, A, r1, r2⟩ := A
  exact (K p e s m args below meth c T locs k' n' C X hk hn N eT).step fun t r => X.iaload (g := mkF m pc Ls (.int j :: .ref a :: st)) C.1 (by rw [eT]; exact A.1) (State.isArrayOf_alike C.2.1.alike A.2.1) A.2.2 (inb hj r2 (List.getElem?_eq_some_iff.mp hv).1) (at_l r2 hv) rfl rfl (hb C.2.2.1 hd) t r
theorem Go.laload (hd : decode code pc = .ok (.laload, 1)) (hq : q = pc + 1) (A : Ar Z h a .long cA vs) (hj : ¬ j < 0) (hv : vs[j.toNatClampNeg]? = some v) (K : Go l Z mn code maxL ret R n0 Q h k n q Ls (v :: st)) : Go l Z mn code maxL ret R n0 Q h k n pc Ls (.int j :: .ref a :: st) := by
  subst hq
  intro p e s m args below meth c T locs k' n' C X hk hn N eT
  obtain ⟨cl, A, r1, r2⟩ := A
  exact (K p e s m args below meth c T locs k' n' C X hk hn N eT).step fun t r => X.laload (g := mkF m pc Ls (.int j :: .ref a :: st)) C.1 (by rw [eT]; exact A.1) (State.isArrayOf_alike C.2.1.alike A.2.1) A.2.2 (inb hj r2 (List.getElem?_eq_some_iff.mp hv).1) (at_l r2 hv) rfl rfl (hb C.2.2.1 hd) t r
theorem Go.caload (hd : decode code pc = .ok (.caload, 1)) (hq : q = pc + 1) (A : Ar Z h a .char cA vs) (hj : ¬ j < 0) (hv : vs[j.toNatClampNeg]? = some v) (K : Go l Z mn code maxL ret R n0 Q h k n q Ls (v :: st)) : Go l Z mn code maxL ret R n0 Q h k n pc Ls (.int j :: .ref a :: st) := by
  subst hq
  intro p e s m args below meth c T locs k' n' C X hk hn N eT
  obtain ⟨cl, A, r1, r2⟩ := A
  exact (K p e s m args below meth c T locs k' n' C X hk hn N eT).step fun t r => X.caload (g := mkF m pc Ls (.int j :: .ref a :: st)) C.1 (by rw [eT]; exact A.1) (State.isArrayOf_alike C.2.1.alike A.2.1) A.2.2 (inb hj r2 (List.getElem?_eq_some_iff.mp hv).1) (at_l r2 hv) rfl rfl (hb C.2.2.1 hd) t r
theorem Go.zaload (hd : decode code pc = .ok (.baload, 1)) (hq : q = pc + 1) (A : Ar Z h a .boolean cA vs) (hj : ¬ j < 0) (hv : vs[j.toNatClampNeg]? = some v) (K : Go l Z mn code maxL ret R n0 Q h k n q Ls (v :: st)) : Go l Z mn code maxL ret R n0 Q h k n pc Ls (.int j :: .ref a :: st) := by
  subst hq
  intro p e s m args below meth c T locs k' n' C X hk hn N eT
  obtain ⟨cl, A, r1, r2⟩ := A
  exact (K p e s m args below meth c T locs k' n' C X hk hn N eT).step fun t r => X.baloadBooleans (g := mkF m pc Ls (.int j :: .ref a :: st)) C.1 (by rw [eT]; exact A.1) (State.isArrayOf_alike C.2.1.alike A.2.1) A.2.2 (inb hj r2 (List.getElem?_eq_some_iff.mp hv).1) (at_l r2 hv) rfl rfl (hb C.2.2.1 hd) t r
theorem Go.baload (hd : decode code pc = .ok (.baload, 1)) (hq : q = pc + 1) (A : Ar Z h a .byte cA vs) (hj : ¬ j < 0) (hv : vs[j.toNatClampNeg]? = some v) (K : Go l Z mn code maxL ret R n0 Q h k n q Ls (v :: st)) : Go l Z mn code maxL ret R n0 Q h k n pc Ls (.int j :: .ref a :: st) := by
  subst hq
  intro p e s m args below meth c T locs k' n' C X hk hn N eT
  obtain ⟨cl, A, r1, r2⟩ := A
  exact (K p e s m args below meth c T locs k' n' C X hk hn N eT).step fun t r => X.baloadBytes (g := mkF m pc Ls (.int j :: .ref a :: st)) C.1 (by rw [eT]; exact A.1) (State.isArrayOf_alike C.2.1.alike A.2.1) A.2.2 (inb hj r2 (List.getElem?_eq_some_iff.mp hv).1) (at_l r2 hv) rfl rfl (hb C.2.2.1 hd) t r
theorem Go.aaload (hd : decode code pc = .ok (.aaload, 1)) (hq : q = pc + 1) (A : Ar Z h a ty cA vs) (ht : ty.isReference = true) (hj : ¬ j < 0) (hv : vs[j.toNatClampNeg]? = some v) (K : Go l Z mn code maxL ret R n0 Q h k n q Ls (v :: st)) : Go l Z mn code maxL ret R n0 Q h k n pc Ls (.int j :: .ref a :: st) := by
  subst hq
  intro p e s m args below meth c T locs k' n' C X hk hn N eT
  obtain ⟨cl, A, r1, r2⟩ := A
  exact (K p e s m args below meth c T locs k' n' C X hk hn N eT).step fun t r => X.aaload (g := mkF m pc Ls (.int j :: .ref a :: st)) C.1 (by rw [eT]; exact A.1) (State.isArrayOf_alike C.2.1.alike A.2.1) ht A.2.2 (inb hj r2 (List.getElem?_eq_some_iff.mp hv).1) (at_l r2 hv) rfl rfl (hb C.2.2.1 hd) t r
theorem Go.iastore (hd : decode code pc = .ok (.iastore, 1)) (hq : q = pc + 1) (A : Ar Z h a .int cA vs) (hj : ¬ j < 0) (hv : j.toNatClampNeg < vs.length) (ha : n0 ≤ a) (K : ∀ h', Wr h h' a j.toNatClampNeg (.int x) → Go l Z mn code maxL ret R n0 Q h' k n q Ls st) : Go l Z mn code maxL ret R n0 Q h k n pc Ls (.int x :: .int j :: .ref a :: st) := by
  subst hq
  intro p e s m args below meth c T locs k' n' C X hk hn N eT
  obtain ⟨cl, A, r1, r2⟩ := A
  obtain ⟨T', h', X', e', W, f⟩ := stI X C.1 C.2.1 eT A (inb hj r2 hv) (g := mkF m pc Ls (.int x :: .int j :: .ref a :: st)) rfl rfl (hb C.2.2.1 hd)
  exact (K h' W p e s m args below meth c T' _ k' n' C X' hk hn (Fr.snoc X' N ha) e').step f
theorem Go.lastore {x : Int64} (hd : decode code pc = .ok (.lastore, 1)) (hq : q = pc + 1) (A : Ar Z h a .long cA vs) (hj : ¬ j < 0) (hv : j.toNatClampNeg < vs.length) (ha : n0 ≤ a) (K : ∀ h', Wr h h' a j.toNatClampNeg (.long x) → Go l Z mn code maxL ret R n0 Q h' k n q Ls st) : Go l Z mn code maxL ret R n0 Q h k n pc Ls (.long x :: .int j :: .ref a :: st) := by
  subst hq
  intro p e s m args below meth c T locs k' n' C X hk hn N eT
  obtain ⟨cl, A, r1, r2⟩ := A
  obtain ⟨T', h', X', e', W, f⟩ := stJ X C.1 C.2.1 eT A (inb hj r2 hv) (g := mkF m pc Ls (.long x :: .int j :: .ref a :: st)) rfl rfl (hb C.2.2.1 hd)
  exact (K h' W p e s m args below meth c T' _ k' n' C X' hk hn (Fr.snoc X' N ha) e').step f
theorem Go.castore (hd : decode code pc = .ok (.castore, 1)) (hq : q = pc + 1) (A : Ar Z h a .char cA vs) (hj : ¬ j < 0) (hv : j.toNatClampNeg < vs.length) (ha : n0 ≤ a) (K : ∀ h', Wr h h' a j.toNatClampNeg (.int (nar .char x)) → Go l Z mn code maxL ret R n0 Q h' k n q Ls st) : Go l Z mn code maxL ret R n0 Q h k n pc Ls (.int x :: .int j :: .ref a :: st) := by
  subst hq
  intro p e s m args below meth c T locs k' n' C X hk hn N eT
  obtain ⟨cl, A, r1, r2⟩ := A
  obtain ⟨T', h', X', e', W, f⟩ := stC X C.1 C.2.1 eT A (inb hj r2 hv) (g := mkF m pc Ls (.int x :: .int j :: .ref a :: st)) rfl rfl (hb C.2.2.1 hd)
  exact (K h' W p e s m args below meth c T' _ k' n' C X' hk hn (Fr.snoc X' N ha) e').step f
theorem Go.zastore (hd : decode code pc = .ok (.bastore, 1)) (hq : q = pc + 1) (A : Ar Z h a .boolean cA vs) (hj : ¬ j < 0) (hv : j.toNatClampNeg < vs.length) (ha : n0 ≤ a) (K : ∀ h', Wr h h' a j.toNatClampNeg (.int (nar .boolean x)) → Go l Z mn code maxL ret R n0 Q h' k n q Ls st) : Go l Z mn code maxL ret R n0 Q h k n pc Ls (.int x :: .int j :: .ref a :: st) := by
  subst hq
  intro p e s m args below meth c T locs k' n' C X hk hn N eT
  obtain ⟨cl, A, r1, r2⟩ := A
  obtain ⟨T', h', X', e', W, f⟩ := stZ X C.1 C.2.1 eT A (inb hj r2 hv) (g := mkF m pc Ls (.int x :: .int j :: .ref a :: st)) rfl rfl (hb C.2.2.1 hd)
  exact (K h' W p e s m args below meth c T' _ k' n' C X' hk hn (Fr.snoc X' N ha) e').step f
theorem Go.aastore (hd : decode code pc = .ok (.aastore, 1)) (hq : q = pc + 1) (A : Ar Z h a ty cA vs) (ht : ty.isReference = true) (hj : ¬ j < 0) (hv : j.toNatClampNeg < vs.length) (S : Sto Z h a v) (ha : n0 ≤ a) (K : ∀ h', Wr h h' a j.toNatClampNeg v → Go l Z mn code maxL ret R n0 Q h' k n q Ls st) : Go l Z mn code maxL ret R n0 Q h k n pc Ls (v :: .int j :: .ref a :: st) := by
  subst hq
  intro p e s m args below meth c T locs k' n' C X hk hn N eT
  obtain ⟨cl, A, r1, r2⟩ := A
  obtain ⟨T', h', X', e', W, f⟩ := stR X C.1 C.2.1 eT A (inb hj r2 hv) ht S (g := mkF m pc Ls (v :: .int j :: .ref a :: st)) rfl rfl (hb C.2.2.1 hd)
  exact (K h' W p e s m args below meth c T' _ k' n' C X' hk hn (Fr.snoc X' N ha) e').step f
theorem Go.newarray {aty : ArrayType} {z : Int32} {cap : Nat} (hd : decode code pc = .ok (.newarray aty, 2)) (hq : q = pc + 2) (w : (Jvm.Cond.arrayClass (newarray.typeOf aty)).before a0 Z = true) (hz : ¬ z < 0) (hcap : z.toNatClampNeg ≤ cap) (hb8 : cap * 8 ≤ 536870912) (hc : k + 1 ≤ R.cells) (hs : n + cap ≤ R.slots)
    (K : ∀ h' a cA, a = h.size → Ext h h' → Ar Z h' a (newarray.typeOf aty) cA (List.replicate z.toNatClampNeg (defaultValue (newarray.typeOf aty))) → Go l Z mn code maxL ret R n0 Q h' (k + 1) (n + cap) q Ls (.ref a :: st)) : Go l Z mn code maxL ret R n0 Q h k n pc Ls (.int z :: st) := by
  subst hq
  intro p e s m args below meth c T locs k' n' C X hk hn N eT
  obtain ⟨T', h', cA, X', e', E, A, f⟩ := newP X C.1 C.2.1 w eT (g := mkF m pc Ls (.int z :: st)) rfl (hb C.2.2.1 hd) rfl hz hcap hb8 (by omega) (by omega)
  exact (K h' h.size cA rfl E ⟨_, A, rfl, by simp [newA]⟩ p e s m args below meth c T' locs _ _ C X' (by omega) (by omega) N e').step f
theorem Go.anewarray {C : String} {i : Nat} {z : Int32} {cap : Nat} (hd : decode code pc = .ok (.anewarray i, 3)) (hq : q = pc + 3) (w1 : (Jvm.Cond.classLink mn.cls i C).before a0 Z = true) (w2 : (Jvm.Cond.arrayOver (.object C)).before a0 Z = true) (hz : ¬ z < 0) (hcap : z.toNatClampNeg ≤ cap) (hb8 : cap * 8 ≤ 536870912) (hc : k + 1 ≤ R.cells) (hs : n + cap ≤ R.slots)
    (K : ∀ h' a cA, a = h.size → Ext h h' → Ar Z h' a (.object C) cA (List.replicate z.toNatClampNeg .null) → Ovr Z cA C → Go l Z mn code maxL ret R n0 Q h' (k + 1) (n + cap) q Ls (.ref a :: st)) : Go l Z mn code maxL ret R n0 Q h k n pc Ls (.int z :: st) := by
  subst hq
  intro p e s m args below meth c T locs k' n' Cc X hk hn N eT
  obtain ⟨T', h', cA, X', e', E, A, O, f⟩ := newR X Cc.1 Cc.2.1 Cc.2.2.2.2.1 w1 w2 eT (g := mkF m pc Ls (.int z :: st)) rfl (hb Cc.2.2.1 hd) rfl hz hcap hb8 (by omega) (by omega)
  exact (K h' h.size cA rfl E ⟨_, A, rfl, by simp [newA, defaultValue]⟩ O p e s m args below meth c T' locs _ _ Cc X' (by omega) (by omega) N e').step f
theorem sto_of {C : String} {b : Addr} (A : Ar Z h a ty cA vs) (O : Ovr Z cA C) (I : Ins Z h b C true) : Sto Z h a (.ref b) := by
  obtain ⟨c, A, q, -⟩ := A
  exact Sto.ofV A q O I
end ArrSteps
end Jvm.OwnKit
namespace Jvm.OwnKit
open Jvm Jvm.ClassFile Sem Op Lib Jvm.Free Jvm.Stand Jvm.LawKit Jvm.RoadKit
section Case
variable {args : Array Value} {s : State} {idx : List Nat} {t u : Term} {a b : Addr} {ty : FieldType} {cA : ClassId} {vs : List Value} {O nm d C K : String}
theorem eq_int {v : Int32} (h : (Jvm.Cond.eq t (.int v)).value args s none s idx = some true) : t.eval args s none idx s = some (.int v) := by
  cases ha : t.eval args s none idx s with
  | none => simp [Jvm.Cond.value, ha] at h
  | some x => cases x <;> simp [Jvm.Cond.value, Term.eval, ha] at h ⊢ <;> exact h
theorem eq_long {v : Int64} (h : (Jvm.Cond.eq t (.long v)).value args s none s idx = some true) : t.eval args s none idx s = some (.long v) := by
  cases ha : t.eval args s none idx s with
  | none => simp [Jvm.Cond.value, ha] at h
  | some x => cases x <;> simp [Jvm.Cond.value, Term.eval, ha] at h ⊢ <;> exact h
theorem eq_ref (h : (Jvm.Cond.eq t u).value args s none s idx = some true) (hu : u.eval args s none idx s = some (.ref b)) : t.eval args s none idx s = some (.ref b) := by
  cases ha : t.eval args s none idx s with
  | none => simp [Jvm.Cond.value, ha] at h
  | some x => cases x <;> simp [Jvm.Cond.value, ha, hu] at h ⊢ <;> exact h
theorem sta_ref (h : (Jvm.Cond.exactly (.static C nm d) K).value args s none s [] = some true) (h1 : (Jvm.Cond.initialized C).before args s = true) (h2 : (Jvm.Cond.laysStatic C nm d).before args s = true) : ∃ a, (Term.static C nm d).eval args s none [] s = some (.ref a) ∧ Sta s s.heap C nm d (.ref a) ∧ Exa s s.heap a K := by
  obtain ⟨a, ea⟩ := exa_v h
  exact ⟨a, ea, Sta.start ea (Or.inr ⟨h1, h2⟩), Exa.start ea h⟩
theorem sta_arr (h : (Jvm.Cond.arrayOf (.static C nm d) ty).value args s none s [] = some true) (h1 : (Jvm.Cond.initialized C).before args s = true) (h2 : (Jvm.Cond.laysStatic C nm d).before args s = true) : ∃ a cA vs, (Term.static C nm d).eval args s none [] s = some (.ref a) ∧ Sta s s.heap C nm d (.ref a) ∧ Ar s s.heap a ty cA vs := by
  obtain ⟨a, ea⟩ := arr_v h
  obtain ⟨c, A⟩ := Arr.start ea h
  exact ⟨a, c.cls, c.slots.toList, ea, Sta.start ea (Or.inr ⟨h1, h2⟩), c, A, rfl, rfl⟩
theorem fld_int {v : Int32} (ev : t.eval args s none [] s = some (.ref a)) (h : (Jvm.Cond.eq (.field t O nm d) (.int v)).value args s none s [] = some true) : Fld s s.heap a O nm d (.int v) := Fld.start ((fld_at ev).symm.trans (eq_int h))
theorem fld_long {v : Int64} (ev : t.eval args s none [] s = some (.ref a)) (h : (Jvm.Cond.eq (.field t O nm d) (.long v)).value args s none s [] = some true) : Fld s s.heap a O nm d (.long v) := Fld.start ((fld_at ev).symm.trans (eq_long h))
theorem nat_small {m : Nat} (h : m < 2 ^ 31) : m.toInt32.toNatClampNeg = m := by
  show m.toInt32.toInt.toNat = m
  rw [len_toInt h]; rfl
theorem Ar.at_start (A : Ar s s.heap a ty cA vs) : ∃ c : Cell, s.arrayAt? a = some c ∧ c.slots.toList = vs ∧ c.slots.size = vs.length := by
  obtain ⟨c, A, -, r⟩ := A
  exact ⟨c, A.fin (Vm.Alike.refl _), r, by rw [← r]; simp⟩
theorem arr_len {z : Int32} (ev : t.eval args s none [] s = some (.ref a)) (A : Ar s s.heap a ty cA vs) (h : (Jvm.Cond.eq (.length t) (.int z)).value args s none s [] = some true) : vs.length = z.toNatClampNeg := by
  obtain ⟨c, hc, -, r⟩ := A.at_start
  have e := eq_int h
  simp only [Term.eval, ev, hc, Option.bind_eq_bind, Option.bind_some] at e
  split at e
  · rename_i q
    have e2 : c.slots.size.toInt32 = z := by simpa using e
    rw [← e2, nat_small q, r]
  · simp at e
theorem arr_elem {j : Int32} {v : Int32} (ev : t.eval args s none [] s = some (.ref a)) (A : Ar s s.heap a ty cA vs) (h : (Jvm.Cond.eq (.elem t (.int j)) (.int v)).value args s none s [] = some true) : vs[j.toNatClampNeg]? = some (.int v) := by
  obtain ⟨c, hc, r, -⟩ := A.at_start
  have e := eq_int h
  simp only [Term.eval, ev, hc, Option.bind_eq_bind, Option.bind_some] at e
  split at e
  · simp at e
  · rw [← r]; simpa using e
theorem arr_elemR {j : Int32} {u : Term} {b : Addr} (ev : t.eval args s none [] s = some (.ref a)) (A : Ar s s.heap a ty cA vs) (h : (Jvm.Cond.eq (.elem t (.int j)) u).value args s none s [] = some true) (hu : u.eval args s none [] s = some (.ref b)) : vs[j.toNatClampNeg]? = some (.ref b) := by
  obtain ⟨c, hc, r, -⟩ := A.at_start
  have e := eq_ref h hu
  simp only [Term.eval, ev, hc, Option.bind_eq_bind, Option.bind_some] at e
  split at e
  · simp at e
  · rw [← r]; simpa using e
theorem fold_no {f : Nat → Option Bool} {x : Option Bool} (hx : x ≠ some true) : ∀ L : List Nat, L.foldl (fun acc i => match acc with | some true => f i | x => x) x = x
  | [] => rfl
  | i :: L => by
    rw [List.foldl_cons]
    rcases x with _ | _ | _
    · exact fold_no hx L
    · exact fold_no hx L
    · exact absurd rfl hx
theorem fold_all {f : Nat → Option Bool} : ∀ L : List Nat, L.foldl (fun acc i => match acc with | some true => f i | x => x) (some true) = some true → ∀ i ∈ L, f i = some true
  | [], _, i, hi => nomatch hi
  | j :: L, h, i, hi => by
    rw [List.foldl_cons] at h
    by_cases hj : f j = some true
    · have h' : L.foldl (fun acc i => match acc with | some true => f i | x => x) (f j) = some true := h
      rw [hj] at h'
      rcases List.mem_cons.mp hi with rfl | hi
      · exact hj
      · exact fold_all L h' i hi
    · have h' : L.foldl (fun acc i => match acc with | some true => f i | x => x) (f j) = some true := h
      rw [fold_no hj L] at h'
      exact absurd h' hj
theorem arr_all {c : Jvm.Cond} (ev : t.eval args s none [] s = some (.ref a)) (A : Ar s s.heap a ty cA vs) (h : (Jvm.Cond.all t c).value args s none s [] = some true) : ∀ i, i < vs.length → c.value args s none s [i] = some true := by
  obtain ⟨cl, hc, -, r⟩ := A.at_start
  intro i hi
  simp only [Jvm.Cond.value, ev, hc] at h
  exact fold_all _ h i (List.mem_range.mpr (by omega))
theorem all_elem {i : Nat} {v : Int32} (ev : t.eval args s none [i] s = some (.ref a)) (A : Ar s s.heap a ty cA vs) (hi : i < 2 ^ 31) (h : (Jvm.Cond.eq (.elem t (.index 0)) (.int v)).value args s none s [i] = some true) : vs[i]? = some (.int v) := by
  obtain ⟨c, hc, r, -⟩ := A.at_start
  have e := eq_int h
  simp only [Term.eval, ev, hc, Option.bind_eq_bind, Option.bind_some, List.getElem?_cons_zero, Option.map_some] at e
  split at e
  · simp at e
  · rw [← r]; rw [nat_small hi] at e; simpa using e
theorem all_le {i : Nat} {v : Int32} {c : Jvm.Cond} (hi : i < 2 ^ 31) (h : (Jvm.Cond.or (.le (.int v) (.index 0)) c).value args s none s [i] = some true) : v.toInt ≤ i ∨ c.value args s none s [i] = some true := by
  simp only [Jvm.Cond.value, Term.eval, List.getElem?_cons_zero, Option.map_some] at h
  by_cases q : v ≤ i.toInt32
  · left; rw [Int32.le_iff_toInt_le, len_toInt hi] at q; exact q
  · right; simpa [q] using h
theorem all_lt {i : Nat} {v : Int32} {c : Jvm.Cond} (hi : i < 2 ^ 31) (h : (Jvm.Cond.or (.lt (.index 0) (.int v)) c).value args s none s [i] = some true) : (i : Int) < v.toInt ∨ c.value args s none s [i] = some true := by
  simp only [Jvm.Cond.value, Term.eval, List.getElem?_cons_zero, Option.map_some] at h
  by_cases q : i.toInt32 < v
  · left; rw [Int32.lt_iff_toInt_lt, len_toInt hi] at q; exact q
  · right; simpa [q] using h
theorem sta_idx {C nm d : String} {idx : List Nat} {v : Value} (ev : (Term.static C nm d).eval args s none [] s = some v) : (Term.static C nm d).eval args s none idx s = some v := ev
end Case
end Jvm.OwnKit
namespace Jvm.RoadKit
open ClassFile
theorem Fld.nxt {Z : State} {h : Heap} {a0 : Array Value} {o : Addr} {h' : Heap} {C nm d nm' d' : String} {v w : Value} {t t' : FieldType} (F : Fld Z h o C nm d v) (W : Wr h h' o (slotOf Z C nm' d') w) (L : Laid Z a0 C C nm d) (L' : Laid Z a0 C C nm' d') (hn : nm ≠ nm') (ht : parseFieldDescriptor d = some t) (ht' : parseFieldDescriptor d' = some t') : Fld Z h' o C nm d v :=
  F.other W (Or.inr (slot_ne L L' hn ht ht'))
end Jvm.RoadKit
namespace Jvm.OwnKit
open Jvm Jvm.ClassFile Sem Op Lib Jvm.Free Jvm.Stand Jvm.LawKit Jvm.RoadKit
section More
variable {l : Launch} {Z : State} {mn : MethodName} {code : ByteArray} {maxL : Nat} {ret : Option FieldType} {R : Room} {n0 : Nat} {Q : Option Value → Heap → Prop} {h : Heap} {k n pc q : Nat} {Ls : Array Slot} {st : List Value} {a0 : Array Value}
theorem Go.anewarrayA {C ad : String} {ty : FieldType} {i : Nat} {z : Int32} {cap : Nat} (hd : decode code pc = .ok (.anewarray i, 3)) (hq : q = pc + 3) (hC : (FieldType.array ty).toString = C) (had : "[" ++ C = ad) (w1 : (Jvm.Cond.classLink mn.cls i C).before a0 Z = true) (w2 : (Jvm.Cond.arrayOver (.array ty)).before a0 Z = true) (hz : ¬ z < 0) (hcap : z.toNatClampNeg ≤ cap) (hb8 : cap * 8 ≤ 536870912) (hc : k + 1 ≤ R.cells) (hs : n + cap ≤ R.slots)
    (K : ∀ h' a cA, a = h.size → Ext h h' → Ar Z h' a (.array ty) cA (List.replicate z.toNatClampNeg .null) → OvrA Z cA ty C → Exa Z h' a ad → Go l Z mn code maxL ret R n0 Q h' (k + 1) (n + cap) q Ls (.ref a :: st)) : Go l Z mn code maxL ret R n0 Q h k n pc Ls (.int z :: st) := by
  subst hq
  intro p e s m args below meth c T locs k' n' Cc X hk hn N eT
  obtain ⟨T', h', cA, X', e', E, A, E2, O, f⟩ := newRA X Cc.1 Cc.2.1 Cc.2.2.2.2.1 hC w1 w2 eT (g := mkF m pc Ls (.int z :: st)) rfl (hb Cc.2.2.1 hd) rfl hz hcap hb8 (by omega) (by omega) had
  exact (K h' h.size cA rfl E ⟨_, A, rfl, by simp [newA, defaultValue]⟩ O E2 p e s m args below meth c T' locs _ _ Cc X' (by omega) (by omega) N e').step f
theorem Go.newarrayE {aty : ArrayType} {z : Int32} {cap : Nat} {ad : String} (hd : decode code pc = .ok (.newarray aty, 2)) (hq : q = pc + 2) (had : "[" ++ (newarray.typeOf aty).toString = ad) (w : (Jvm.Cond.arrayClass (newarray.typeOf aty)).before a0 Z = true) (hz : ¬ z < 0) (hcap : z.toNatClampNeg ≤ cap) (hb8 : cap * 8 ≤ 536870912) (hc : k + 1 ≤ R.cells) (hs : n + cap ≤ R.slots)
    (K : ∀ h' a cA, a = h.size → Ext h h' → Ar Z h' a (newarray.typeOf aty) cA (List.replicate z.toNatClampNeg (defaultValue (newarray.typeOf aty))) → Exa Z h' a ad → Go l Z mn code maxL ret R n0 Q h' (k + 1) (n + cap) q Ls (.ref a :: st)) : Go l Z mn code maxL ret R n0 Q h k n pc Ls (.int z :: st) := by
  subst hq
  intro p e s m args below meth c T locs k' n' C X hk hn N eT
  obtain ⟨T', h', cA, X', e', E, A, E2, f⟩ := newPE X C.1 C.2.1 w eT (g := mkF m pc Ls (.int z :: st)) rfl (hb C.2.2.1 hd) rfl hz hcap hb8 (by omega) (by omega) had
  exact (K h' h.size cA rfl E ⟨_, A, rfl, by simp [newA]⟩ E2 p e s m args below meth c T' locs _ _ C X' (by omega) (by omega) N e').step f
theorem sto_ofA {a b : Addr} {t0 ty : FieldType} {cA : ClassId} {vs : List Value} {C : String} (A : Ar Z h a t0 cA vs) (O : OvrA Z cA ty C) (I : Ins Z h b C true) : Sto Z h a (.ref b) := by
  obtain ⟨c, A, q, -⟩ := A
  exact Sto.ofVA A q O I
theorem Ar.nel {a b : Addr} {ty : FieldType} {cA : ClassId} {vs : List Value} (F : Ar Z h a ty cA vs) (e : b = h.size) : a ≠ b := fun q => Nat.ne_of_lt F.lt (q.trans e)
theorem Ins.ofExa {a : Addr} {C : String} (E : Exa Z h a C) : Ins Z h a C true := Ins.self E
end More
theorem cat_ref {v : Value} (h : v.isRef = true) : v.category = 1 := by rcases ref_cases h with rfl | ⟨a, rfl⟩ <;> rfl
section Addrs
variable {h : Heap} {x b o : Addr} {n0 : Nat}
theorem new_ne (l : x < h.size) (e : b = h.size) : x ≠ b := fun q => Nat.ne_of_lt l (q.trans e)
theorem new_le (l : n0 ≤ h.size) (e : b = h.size) : n0 ≤ b := Nat.le_trans l (Nat.le_of_eq e.symm)
theorem le_size (l : o < h.size) (n : n0 ≤ o) : n0 ≤ h.size := Nat.le_trans n (Nat.le_of_lt l)
end Addrs
section Nums
theorem idiv_nat {x y : Int32} {d : Nat} (h0 : ¬ x < 0) (hy : y.toInt = d) (hd : 1 < d) : ¬ (x / y) < 0 ∧ (x / y).toNatClampNeg = x.toNatClampNeg / d := by
  have z : (0 : Int32).toInt = 0 := rfl
  have z1 : (-1 : Int32).toInt = -1 := rfl
  have p : 0 ≤ x.toInt := by rw [Int32.lt_iff_toInt_lt] at h0; omega
  have ny : y ≠ -1 := by
    intro q
    rw [q, z1] at hy
    omega
  have e := (c_idiv x y d hy ny).1 p
  have p' : 0 ≤ x.toInt / (d : Int) := Int.ediv_nonneg p (by omega)
  refine ⟨by rw [Int32.lt_iff_toInt_lt]; omega, ?_⟩
  show (x / y).toInt.toNat = x.toInt.toNat / d
  rw [e]
  obtain ⟨m, hm⟩ := Int.eq_ofNat_of_zero_le p
  rw [hm]; rfl
theorem irem_nat {x y : Int32} {d : Nat} (h0 : ¬ x < 0) (hy : y.toInt = d) (hd : 1 < d) : ¬ (x % y) < 0 ∧ (x % y).toNatClampNeg = x.toNatClampNeg % d := by
  have z : (0 : Int32).toInt = 0 := rfl
  have p : 0 ≤ x.toInt := by rw [Int32.lt_iff_toInt_lt] at h0; omega
  have e := (c_irem x y d hy).1 p
  have p' : 0 ≤ x.toInt % (d : Int) := Int.emod_nonneg _ (by omega)
  refine ⟨by rw [Int32.lt_iff_toInt_lt]; omega, ?_⟩
  show (x % y).toInt.toNat = x.toInt.toNat % d
  rw [e]
  obtain ⟨m, hm⟩ := Int.eq_ofNat_of_zero_le p
  rw [hm]; rfl
theorem nonneg_iff {x : Int32} : ¬ x < 0 ↔ 0 ≤ x.toInt := by
  rw [Int32.lt_iff_toInt_lt]; have : (0 : Int32).toInt = 0 := rfl; omega
end Nums
end Jvm.OwnKit
namespace Jvm.OwnKit
open Jvm Jvm.ClassFile Sem Op Lib Jvm.Free Jvm.Stand Jvm.LawKit Jvm.RoadKit
section Calls5
variable {l : Launch} {Z : State} {mn : MethodName} {code : ByteArray} {maxL : Nat} {ret : Option FieldType} {R : Room} {n0 : Nat} {Q : Option Value → Heap → Prop} {h : Heap} {k n pc q : Nat} {Ls Ls' : Array Slot} {st st' : List Value} {a0 : Array Value}
  {y' : MethodName} {code' : ByteArray} {maxL' : Nat} {ret' : Option FieldType} {R' : Room} {Q' : Option Value → Heap → Prop} {argsL rest : List Value} {Ls1 : Array Slot} {ps : List FieldType} {r : Option FieldType} {i wd : Nat}

theorem Go.callU {z : MethodName} {C owner : String} {a : Addr} (hd : decode code pc = .ok (.invokevirtual i, 3)) (hq : q = pc + 3) (w1 : (Jvm.Cond.methodLink mn.cls i y').before a0 Z = true) (ws : (Jvm.Cond.sameMethod y'.cls owner y'.name y'.desc).before a0 Z = true) (w2 : (Jvm.Cond.declares ⟨owner, y'.name, y'.desc⟩).before a0 Z = true) (w3 : (Jvm.Cond.selects C y' z).before a0 Z = true) (w4 : (Jvm.Cond.instanceMethod z).before a0 Z = true) (w5 : (Jvm.Cond.code z code' maxL' ret').before a0 Z = true) (w6 : (Jvm.Cond.initialized z.cls).before a0 Z = true) (hy : owner ≠ "java/lang/invoke/MethodHandle" ∧ owner ≠ "java/lang/invoke/VarHandle") (pn : plainFor z = true) (pd : parseMethodDescriptor y'.desc = some ⟨ps, r⟩) (hl : argsL.length = ps.length) (hst : st = argsL.reverse ++ .ref a :: rest) (E : Exa Z h a C) (hef : ∀ m, entryFrame m (.ref a :: argsL).toArray maxL' = mkF m 0 Ls1 []) (hsz : Ls.size = maxL) (hR1 : R'.frames + 1 ≤ R.frames) (hW : (rest.map fun v => v.category).sum = wd) (hR2 : wd + (maxL' + 11) + R'.locals ≤ R.locals) (hc : k + R'.cells ≤ R.cells) (hs : n + R'.slots ≤ R.slots) (G : Go l Z z code' maxL' ret' R' n0 Q' h 0 0 0 Ls1 []) (K : ∀ v h', Q' v h' → Go l Z mn code maxL ret R n0 Q h' (k + R'.cells) (n + R'.slots) q Ls (v.toList ++ rest)) : Go l Z mn code maxL ret R n0 Q h k n pc Ls st := by
  subst hq hst hW
  intro p e s m args below meth c T locs k' n' Cc X hk hn N eT
  obtain ⟨cq, kq, qa, qb, qc⟩ := isOf Cc.2.1 eT E
  obtain ⟨v, vm1, ⟨T1, L1, k1, n1⟩, -, X1, ⟨Lc, hQ, e1, e2, e3⟩, f⟩ := X.virtualBackUp Cc.1 (x := y') (y := z) (owner := owner) Cc.2.2.2.2.1 (mvT Cc.2.1 w1) (mvT Cc.2.1 ws) (mvT Cc.2.1 w2) hy (mvT Cc.2.1 w3) (mvT Cc.2.1 w4) (backOf (W := (rest.map fun v => v.category).sum) (Q := fun v h L => Fr n0 L ∧ Q' v h) (G.met pn hef []) Cc.2.1 w5 w6 hR1 hR2) qa qc (g := mkF m pc Ls (argsL.reverse ++ .ref a :: rest)) rfl (by rw [Cc.2.2.2.1]; exact hsz) (Steps.refl _) (argsL := argsL) (rest := rest) (lenOf pd hl) rfl (by simp) (hb Cc.2.2.1 hd) (fun _ _ => ⟨rfl, eT, by show k' + _ ≤ _; omega, by show n' + _ ≤ _; omega⟩)
  dsimp only [Pt.U, Pt.locs, Pt.cells, Pt.slots] at X1 e1 e2 e3 f hQ
  subst e1 e2 e3
  exact (K v T1.heap hQ.2 p e s m args below meth c T1 _ _ _ Cc X1 (by omega) (by omega) (Fr.app N hQ.1) rfl).step fun t r => f.trans r
theorem Go.callP {a : Addr} {C C2 : String} {y2 z2 : MethodName} (hd : decode code pc = .ok (.invokevirtual i, 3)) (hq : q = pc + 3) (w1 : (Jvm.Cond.methodLink mn.cls i y').before a0 Z = true) (w2 : (Jvm.Cond.privateMethod y').before a0 Z = true) (w3 : (Jvm.Cond.selects C2 y2 z2).before a0 Z = true) (hz2 : z2.cls = y'.cls) (w4 : (Jvm.Cond.instanceMethod y').before a0 Z = true) (w5 : (Jvm.Cond.code y' code' maxL' ret').before a0 Z = true) (w6 : (Jvm.Cond.initialized y'.cls).before a0 Z = true) (hy : y'.cls ≠ "java/lang/invoke/MethodHandle" ∧ y'.cls ≠ "java/lang/invoke/VarHandle") (pn : plainFor y' = true) (pd : parseMethodDescriptor y'.desc = some ⟨ps, r⟩) (hl : argsL.length = ps.length) (hst : st = argsL.reverse ++ .ref a :: rest) (E : Exa Z h a C) (hef : ∀ m, entryFrame m (.ref a :: argsL).toArray maxL' = mkF m 0 Ls1 []) (hsz : Ls.size = maxL) (hR1 : R'.frames + 1 ≤ R.frames) (hW : (rest.map fun v => v.category).sum = wd) (hR2 : wd + (maxL' + 11) + R'.locals ≤ R.locals) (hc : k + R'.cells ≤ R.cells) (hs : n + R'.slots ≤ R.slots) (G : Go l Z y' code' maxL' ret' R' n0 Q' h 0 0 0 Ls1 []) (K : ∀ v h', Q' v h' → Go l Z mn code maxL ret R n0 Q h' (k + R'.cells) (n + R'.slots) q Ls (v.toList ++ rest)) : Go l Z mn code maxL ret R n0 Q h k n pc Ls st := by
  subst hq hst hW
  intro p e s m args below meth c T locs k' n' Cc X hk hn N eT
  obtain ⟨cq, qa, qb⟩ := E.cell
  have hpr : s.PrivateAt y' := Jvm.Cond.privateMethod_at (mvP Cc.2.1 w2 (args := #[]))
  have hse : (Jvm.Cond.selects y'.cls y' y').before args s = true := by
    obtain ⟨c2, r2, m2, -, -, q3, -, kk, q5, q6⟩ := Jvm.Cond.selects_spec (mvT (args := args) Cc.2.1 w3)
    exact Jvm.Stand.selects_self_of_private (hz2 ▸ findClass_of_methodNamed q3) q5 q6 hpr (mvT Cc.2.1 w4) hy
  obtain ⟨v, vm1, ⟨T1, L1, k1, n1⟩, -, X1, ⟨Lc, hQ, e1, e2, e3⟩, f⟩ := X.privateBack Cc.1 (y := y') Cc.2.2.2.2.1 (mvT Cc.2.1 w1) (mvT Cc.2.1 w4) hse hpr (mvT Cc.2.1 w5) hy (backOf (W := (rest.map fun v => v.category).sum) (Q := fun v h L => Fr n0 L ∧ Q' v h) (G.met pn hef []) Cc.2.1 w5 w6 hR1 hR2) (g := mkF m pc Ls (argsL.reverse ++ .ref a :: rest)) rfl (by rw [Cc.2.2.2.1]; exact hsz) (Steps.refl _) (a := a) (by rw [eT]; exact qa) qb (argsL := argsL) (rest := rest) (lenOf pd hl) rfl (by simp) (hb Cc.2.2.1 hd) (fun _ _ => ⟨rfl, eT, by show k' + _ ≤ _; omega, by show n' + _ ≤ _; omega⟩)
  dsimp only [Pt.U, Pt.locs, Pt.cells, Pt.slots] at X1 e1 e2 e3 f hQ
  subst e1 e2 e3
  exact (K v T1.heap hQ.2 p e s m args below meth c T1 _ _ _ Cc X1 (by omega) (by omega) (Fr.app N hQ.1) rfl).step fun t r => f.trans r
theorem Go.callUV {P : Value → Heap → Prop} {z : MethodName} {C owner : String} {a : Addr} (hd : decode code pc = .ok (.invokevirtual i, 3)) (hq : q = pc + 3) (w1 : (Jvm.Cond.methodLink mn.cls i y').before a0 Z = true) (ws : (Jvm.Cond.sameMethod y'.cls owner y'.name y'.desc).before a0 Z = true) (w2 : (Jvm.Cond.declares ⟨owner, y'.name, y'.desc⟩).before a0 Z = true) (w3 : (Jvm.Cond.selects C y' z).before a0 Z = true) (w4 : (Jvm.Cond.instanceMethod z).before a0 Z = true) (w5 : (Jvm.Cond.code z code' maxL' ret').before a0 Z = true) (w6 : (Jvm.Cond.initialized z.cls).before a0 Z = true) (hy : owner ≠ "java/lang/invoke/MethodHandle" ∧ owner ≠ "java/lang/invoke/VarHandle") (pn : plainFor z = true) (pd : parseMethodDescriptor y'.desc = some ⟨ps, r⟩) (hl : argsL.length = ps.length) (hst : st = argsL.reverse ++ .ref a :: rest) (E : Exa Z h a C) (hef : ∀ m, entryFrame m (.ref a :: argsL).toArray maxL' = mkF m 0 Ls1 []) (hsz : Ls.size = maxL) (hR1 : R'.frames + 1 ≤ R.frames) (hW : (rest.map fun v => v.category).sum = wd) (hR2 : wd + (maxL' + 11) + R'.locals ≤ R.locals) (hc : k + R'.cells ≤ R.cells) (hs : n + R'.slots ≤ R.slots) (G : Go l Z z code' maxL' ret' R' n0 (RV P) h 0 0 0 Ls1 []) (K : ∀ w h', P w h' → Go l Z mn code maxL ret R n0 Q h' (k + R'.cells) (n + R'.slots) q Ls (w :: rest)) : Go l Z mn code maxL ret R n0 Q h k n pc Ls st :=
  Go.callU hd hq w1 ws w2 w3 w4 w5 w6 hy pn pd hl hst E hef hsz hR1 hW hR2 hc hs G fun v h' ⟨w, e, q⟩ => by subst e; exact K w h' q
theorem Go.callUN {P : Heap → Prop} {z : MethodName} {C owner : String} {a : Addr} (hd : decode code pc = .ok (.invokevirtual i, 3)) (hq : q = pc + 3) (w1 : (Jvm.Cond.methodLink mn.cls i y').before a0 Z = true) (ws : (Jvm.Cond.sameMethod y'.cls owner y'.name y'.desc).before a0 Z = true) (w2 : (Jvm.Cond.declares ⟨owner, y'.name, y'.desc⟩).before a0 Z = true) (w3 : (Jvm.Cond.selects C y' z).before a0 Z = true) (w4 : (Jvm.Cond.instanceMethod z).before a0 Z = true) (w5 : (Jvm.Cond.code z code' maxL' ret').before a0 Z = true) (w6 : (Jvm.Cond.initialized z.cls).before a0 Z = true) (hy : owner ≠ "java/lang/invoke/MethodHandle" ∧ owner ≠ "java/lang/invoke/VarHandle") (pn : plainFor z = true) (pd : parseMethodDescriptor y'.desc = some ⟨ps, r⟩) (hl : argsL.length = ps.length) (hst : st = argsL.reverse ++ .ref a :: rest) (E : Exa Z h a C) (hef : ∀ m, entryFrame m (.ref a :: argsL).toArray maxL' = mkF m 0 Ls1 []) (hsz : Ls.size = maxL) (hR1 : R'.frames + 1 ≤ R.frames) (hW : (rest.map fun v => v.category).sum = wd) (hR2 : wd + (maxL' + 11) + R'.locals ≤ R.locals) (hc : k + R'.cells ≤ R.cells) (hs : n + R'.slots ≤ R.slots) (G : Go l Z z code' maxL' ret' R' n0 (RN P) h 0 0 0 Ls1 []) (K : ∀ h', P h' → Go l Z mn code maxL ret R n0 Q h' (k + R'.cells) (n + R'.slots) q Ls rest) : Go l Z mn code maxL ret R n0 Q h k n pc Ls st :=
  Go.callU hd hq w1 ws w2 w3 w4 w5 w6 hy pn pd hl hst E hef hsz hR1 hW hR2 hc hs G fun v h' ⟨e, q⟩ => by subst e; exact K h' q
theorem Go.callPV {P : Value → Heap → Prop} {a : Addr} {C C2 : String} {y2 z2 : MethodName} (hd : decode code pc = .ok (.invokevirtual i, 3)) (hq : q = pc + 3) (w1 : (Jvm.Cond.methodLink mn.cls i y').before a0 Z = true) (w2 : (Jvm.Cond.privateMethod y').before a0 Z = true) (w3 : (Jvm.Cond.selects C2 y2 z2).before a0 Z = true) (hz2 : z2.cls = y'.cls) (w4 : (Jvm.Cond.instanceMethod y').before a0 Z = true) (w5 : (Jvm.Cond.code y' code' maxL' ret').before a0 Z = true) (w6 : (Jvm.Cond.initialized y'.cls).before a0 Z = true) (hy : y'.cls ≠ "java/lang/invoke/MethodHandle" ∧ y'.cls ≠ "java/lang/invoke/VarHandle") (pn : plainFor y' = true) (pd : parseMethodDescriptor y'.desc = some ⟨ps, r⟩) (hl : argsL.length = ps.length) (hst : st = argsL.reverse ++ .ref a :: rest) (E : Exa Z h a C) (hef : ∀ m, entryFrame m (.ref a :: argsL).toArray maxL' = mkF m 0 Ls1 []) (hsz : Ls.size = maxL) (hR1 : R'.frames + 1 ≤ R.frames) (hW : (rest.map fun v => v.category).sum = wd) (hR2 : wd + (maxL' + 11) + R'.locals ≤ R.locals) (hc : k + R'.cells ≤ R.cells) (hs : n + R'.slots ≤ R.slots) (G : Go l Z y' code' maxL' ret' R' n0 (RV P) h 0 0 0 Ls1 []) (K : ∀ w h', P w h' → Go l Z mn code maxL ret R n0 Q h' (k + R'.cells) (n + R'.slots) q Ls (w :: rest)) : Go l Z mn code maxL ret R n0 Q h k n pc Ls st :=
  Go.callP hd hq w1 w2 w3 hz2 w4 w5 w6 hy pn pd hl hst E hef hsz hR1 hW hR2 hc hs G fun v h' ⟨w, e, q⟩ => by subst e; exact K w h' q
theorem Go.callPN {P : Heap → Prop} {a : Addr} {C C2 : String} {y2 z2 : MethodName} (hd : decode code pc = .ok (.invokevirtual i, 3)) (hq : q = pc + 3) (w1 : (Jvm.Cond.methodLink mn.cls i y').before a0 Z = true) (w2 : (Jvm.Cond.privateMethod y').before a0 Z = true) (w3 : (Jvm.Cond.selects C2 y2 z2).before a0 Z = true) (hz2 : z2.cls = y'.cls) (w4 : (Jvm.Cond.instanceMethod y').before a0 Z = true) (w5 : (Jvm.Cond.code y' code' maxL' ret').before a0 Z = true) (w6 : (Jvm.Cond.initialized y'.cls).before a0 Z = true) (hy : y'.cls ≠ "java/lang/invoke/MethodHandle" ∧ y'.cls ≠ "java/lang/invoke/VarHandle") (pn : plainFor y' = true) (pd : parseMethodDescriptor y'.desc = some ⟨ps, r⟩) (hl : argsL.length = ps.length) (hst : st = argsL.reverse ++ .ref a :: rest) (E : Exa Z h a C) (hef : ∀ m, entryFrame m (.ref a :: argsL).toArray maxL' = mkF m 0 Ls1 []) (hsz : Ls.size = maxL) (hR1 : R'.frames + 1 ≤ R.frames) (hW : (rest.map fun v => v.category).sum = wd) (hR2 : wd + (maxL' + 11) + R'.locals ≤ R.locals) (hc : k + R'.cells ≤ R.cells) (hs : n + R'.slots ≤ R.slots) (G : Go l Z y' code' maxL' ret' R' n0 (RN P) h 0 0 0 Ls1 []) (K : ∀ h', P h' → Go l Z mn code maxL ret R n0 Q h' (k + R'.cells) (n + R'.slots) q Ls rest) : Go l Z mn code maxL ret R n0 Q h k n pc Ls st :=
  Go.callP hd hq w1 w2 w3 hz2 w4 w5 w6 hy pn pd hl hst E hef hsz hR1 hW hR2 hc hs G fun v h' ⟨e, q⟩ => by subst e; exact K h' q
/-- an array whose elements are of its type -/
def ArF (Z : State) (h : Heap) (a : Addr) (ty : FieldType) (cA : ClassId) (vs : List Value) : Prop := ∃ c : Cell, Arr Z h a c ty ∧ c.cls = cA ∧ c.slots.toList = vs ∧ FitC Z c
theorem ArF.ext {a : Addr} {ty : FieldType} {cA : ClassId} {vs : List Value} {h' : Heap} (F : ArF Z h a ty cA vs) (E : Ext h h') : ArF Z h' a ty cA vs := by obtain ⟨c, A, r⟩ := F; exact ⟨c, A.ext E, r⟩
theorem ArF.start {s : State} {a : Addr} {ty : FieldType} {cA : ClassId} {vs : List Value} (hf : Fit s) (A : Ar s s.heap a ty cA vs) : ArF s s.heap a ty cA vs := by
  obtain ⟨c, A, r1, r2⟩ := A; exact ⟨c, A, r1, r2, FitC.start hf A⟩
theorem Go.clone {ad : String} {a : Addr} {ty : FieldType} {cA : ClassId} {vs : List Value} {cap : Nat} (hd : decode code pc = .ok (.invokevirtual i, 3)) (hq : q = pc + 3) (w1 : (Jvm.Cond.methodLink mn.cls i ⟨ad, "clone", "()Ljava/lang/Object;"⟩).before a0 Z = true) (w2 : (Jvm.Cond.sameMethod ad "java/lang/Object" "clone" "()Ljava/lang/Object;").before a0 Z = true) (w3 : (Jvm.Cond.native ⟨"java/lang/Object", "clone", "()Ljava/lang/Object;"⟩).before a0 Z = true)
    (w4 : (Jvm.Cond.instanceMethod ⟨"java/lang/Object", "clone", "()Ljava/lang/Object;"⟩).before a0 Z = true) (w5 : (Jvm.Cond.selects ad ⟨ad, "clone", "()Ljava/lang/Object;"⟩ ⟨"java/lang/Object", "clone", "()Ljava/lang/Object;"⟩).before a0 Z = true) (w6 : (Jvm.Cond.castable ad "java/lang/Cloneable").before a0 Z = true)
    (A : ArF Z h a ty cA vs) (E : Exa Z h a ad) (hsz : Ls.size = maxL) (hf : 1 ≤ R.frames) (hW : (st.map fun v => v.category).sum = wd) (hl : wd + 14 ≤ R.locals) (hcap : vs.length ≤ cap) (hc : k + 1 ≤ R.cells) (hs : n + cap ≤ R.slots)
    (K : ∀ h' b, b = h.size → Ext h h' → Ar Z h' b ty cA vs → Exa Z h' b ad → Go l Z mn code maxL ret R n0 Q h' (k + 1) (n + cap) q Ls (.ref b :: st)) : Go l Z mn code maxL ret R n0 Q h k n pc Ls (.ref a :: st) := by
  subst hq
  intro p e s m args below meth c T locs k' n' C X hk hn N eT
  obtain ⟨cl, A, r1, r2, r3⟩ := A
  obtain ⟨T', h', X', e', X2, A2, E2, f⟩ := cloneA X C.1 C.2.1 C.2.2.2.2.1 w1 w2 w3 w4 w5 w6 eT A E r3 (g := mkF m pc Ls (.ref a :: st)) rfl (by rw [C.2.2.2.1]; exact hsz) rfl (hb C.2.2.1 hd) hf (W := wd) (cap := cap) (by simp [hW]) hl (by rw [← r2] at hcap; simpa using hcap) (by omega) (by omega)
  exact (K h' h.size rfl X2 ⟨_, A2, r1, r2⟩ E2 p e s m args below meth c T' locs _ _ C X' (by omega) (by omega) N e').step f
end Calls5
end Jvm.OwnKit
namespace Jvm.Pilot.@@N@@
open Jvm Jvm.ClassFile Sem Op Lib Jvm.Free Jvm.Stand Jvm.LawKit Jvm.RoadKit Bundle Jvm.OwnKit Jvm.Pilot.@@N@@.Jvm.D
def Hw (a0 : Array Value) (Z : State) : Prop := ∀ d ∈ tables_1, d.before a0 Z = true
theorem w0 {a0 : Array Value} {Z : State} (hw : Hw a0 Z) : ((Jvm.Cond.classLink "com/example/limbstride/limbstride/FrontierPopFrontPinLaw" (25 : Nat) "java/util/ArrayList") : Jvm.Cond).before a0 Z = true := hw _ (List.mem_of_getElem? (i := 0) rfl)
theorem w1 {a0 : Array Value} {Z : State} (hw : Hw a0 Z) : ((Jvm.Cond.instantiable "java/util/ArrayList" (3 : Nat)) : Jvm.Cond).before a0 Z = true := hw _ (List.mem_of_getElem? (i := 1) rfl)
theorem w2 {a0 : Array Value} {Z : State} (hw : Hw a0 Z) : ((Jvm.Cond.initialized "java/util/ArrayList") : Jvm.Cond).before a0 Z = true := hw _ (List.mem_of_getElem? (i := 2) rfl)
theorem w3 {a0 : Array Value} {Z : State} (hw : Hw a0 Z) : ((Jvm.Cond.methodLink "com/example/limbstride/limbstride/FrontierPopFrontPinLaw" (27 : Nat) ({ cls := "java/util/ArrayList", name := "<init>", desc := "()V" } : Jvm.MethodName)) : Jvm.Cond).before a0 Z = true := hw _ (List.mem_of_getElem? (i := 3) rfl)
theorem w4 {a0 : Array Value} {Z : State} (hw : Hw a0 Z) : ((Jvm.Cond.instanceMethod ({ cls := "java/util/ArrayList", name := "<init>", desc := "()V" } : Jvm.MethodName)) : Jvm.Cond).before a0 Z = true := hw _ (List.mem_of_getElem? (i := 4) rfl)
theorem w5 {a0 : Array Value} {Z : State} (hw : Hw a0 Z) : ((Jvm.Cond.code ({ cls := "java/util/ArrayList", name := "<init>", desc := "()V" } : Jvm.MethodName) jdk_38_method_2_code (1 : Nat) (Option.none : Option Jvm.ClassFile.FieldType)) : Jvm.Cond).before a0 Z = true := hw _ (List.mem_of_getElem? (i := 5) rfl)
theorem w6 {a0 : Array Value} {Z : State} (hw : Hw a0 Z) : ((Jvm.Cond.methodLink "java/util/ArrayList" (1 : Nat) ({ cls := "java/util/AbstractList", name := "<init>", desc := "()V" } : Jvm.MethodName)) : Jvm.Cond).before a0 Z = true := hw _ (List.mem_of_getElem? (i := 6) rfl)
theorem w7 {a0 : Array Value} {Z : State} (hw : Hw a0 Z) : ((Jvm.Cond.instanceMethod ({ cls := "java/util/AbstractList", name := "<init>", desc := "()V" } : Jvm.MethodName)) : Jvm.Cond).before a0 Z = true := hw _ (List.mem_of_getElem? (i := 7) rfl)
theorem w10 {a0 : Array Value} {Z : State} (hw : Hw a0 Z) : ((Jvm.Cond.initialized "java/util/AbstractList") : Jvm.Cond).before a0 Z = true := hw _ (List.mem_of_getElem? (i := 10) rfl)
theorem w11 {a0 : Array Value} {Z : State} (hw : Hw a0 Z) : ((Jvm.Cond.code ({ cls := "java/util/AbstractList", name := "<init>", desc := "()V" } : Jvm.MethodName) jdk_39_method_1_code (1 : Nat) (Option.none : Option Jvm.ClassFile.FieldType)) : Jvm.Cond).before a0 Z = true := hw _ (List.mem_of_getElem? (i := 11) rfl)
theorem w12 {a0 : Array Value} {Z : State} (hw : Hw a0 Z) : ((Jvm.Cond.methodLink "java/util/AbstractList" (1 : Nat) ({ cls := "java/util/AbstractCollection", name := "<init>", desc := "()V" } : Jvm.MethodName)) : Jvm.Cond).before a0 Z = true := hw _ (List.mem_of_getElem? (i := 12) rfl)
theorem w13 {a0 : Array Value} {Z : State} (hw : Hw a0 Z) : ((Jvm.Cond.instanceMethod ({ cls := "java/util/AbstractCollection", name := "<init>", desc := "()V" } : Jvm.MethodName)) : Jvm.Cond).before a0 Z = true := hw _ (List.mem_of_getElem? (i := 13) rfl)
theorem w16 {a0 : Array Value} {Z : State} (hw : Hw a0 Z) : ((Jvm.Cond.initialized "java/util/AbstractCollection") : Jvm.Cond).before a0 Z = true := hw _ (List.mem_of_getElem? (i := 16) rfl)
theorem w17 {a0 : Array Value} {Z : State} (hw : Hw a0 Z) : ((Jvm.Cond.code ({ cls := "java/util/AbstractCollection", name := "<init>", desc := "()V" } : Jvm.MethodName) jdk_22_method_1_code (1 : Nat) (Option.none : Option Jvm.ClassFile.FieldType)) : Jvm.Cond).before a0 Z = true := hw _ (List.mem_of_getElem? (i := 17) rfl)
theorem w18 {a0 : Array Value} {Z : State} (hw : Hw a0 Z) : ((Jvm.Cond.methodLink "java/util/AbstractCollection" (1 : Nat) ({ cls := "java/lang/Object", name := "<init>", desc := "()V" } : Jvm.MethodName)) : Jvm.Cond).before a0 Z = true := hw _ (List.mem_of_getElem? (i := 18) rfl)
theorem w19 {a0 : Array Value} {Z : State} (hw : Hw a0 Z) : ((Jvm.Cond.instanceMethod ({ cls := "java/lang/Object", name := "<init>", desc := "()V" } : Jvm.MethodName)) : Jvm.Cond).before a0 Z = true := hw _ (List.mem_of_getElem? (i := 19) rfl)
theorem w20 {a0 : Array Value} {Z : State} (hw : Hw a0 Z) : ((Jvm.Cond.code ({ cls := "java/lang/Object", name := "<init>", desc := "()V" } : Jvm.MethodName) object_method_1_code (1 : Nat) (Option.none : Option Jvm.ClassFile.FieldType)) : Jvm.Cond).before a0 Z = true := hw _ (List.mem_of_getElem? (i := 20) rfl)
theorem w21 {a0 : Array Value} {Z : State} (hw : Hw a0 Z) : ((Jvm.Cond.fieldLink "java/util/AbstractList" (7 : Nat) "java/util/AbstractList" "modCount" "I") : Jvm.Cond).before a0 Z = true := hw _ (List.mem_of_getElem? (i := 21) rfl)
theorem w22 {a0 : Array Value} {Z : State} (hw : Hw a0 Z) : ((Jvm.Cond.lays "java/util/ArrayList" "java/util/AbstractList" "modCount" "I") : Jvm.Cond).before a0 Z = true := hw _ (List.mem_of_getElem? (i := 22) rfl)
theorem w23 {a0 : Array Value} {Z : State} (hw : Hw a0 Z) : ((Jvm.Cond.fieldLink "java/util/ArrayList" (39 : Nat) "java/util/ArrayList" "DEFAULTCAPACITY_EMPTY_ELEMENTDATA" "[Ljava/lang/Object;") : Jvm.Cond).before a0 Z = true := hw _ (List.mem_of_getElem? (i := 23) rfl)
theorem w24 {a0 : Array Value} {Z : State} (hw : Hw a0 Z) : ((Jvm.Cond.fieldLink "java/util/ArrayList" (9 : Nat) "java/util/ArrayList" "elementData" "[Ljava/lang/Object;") : Jvm.Cond).before a0 Z = true := hw _ (List.mem_of_getElem? (i := 24) rfl)
theorem w25 {a0 : Array Value} {Z : State} (hw : Hw a0 Z) : ((Jvm.Cond.lays "java/util/ArrayList" "java/util/ArrayList" "elementData" "[Ljava/lang/Object;") : Jvm.Cond).before a0 Z = true := hw _ (List.mem_of_getElem? (i := 25) rfl)
theorem w26 {a0 : Array Value} {Z : State} (hw : Hw a0 Z) : ((Jvm.Cond.methodLink "com/example/limbstride/limbstride/FrontierPopFrontPinLaw" (28 : Nat) ({ cls := "com/example/limbstride/limbstride/FrontierPopFrontPinLaw", name := "markOf", desc := "(ILjava/lang/Object;)Ljava/lang/Object;" } : Jvm.MethodName)) : Jvm.Cond).before a0 Z = true := hw _ (List.mem_of_getElem? (i := 26) rfl)
theorem w27 {a0 : Array Value} {Z : State} (hw : Hw a0 Z) : ((Jvm.Cond.static ({ cls := "com/example/limbstride/limbstride/FrontierPopFrontPinLaw", name := "markOf", desc := "(ILjava/lang/Object;)Ljava/lang/Object;" } : Jvm.MethodName)) : Jvm.Cond).before a0 Z = true := hw _ (List.mem_of_getElem? (i := 27) rfl)
theorem w28 {a0 : Array Value} {Z : State} (hw : Hw a0 Z) : ((Jvm.Cond.initialized "com/example/limbstride/limbstride/FrontierPopFrontPinLaw") : Jvm.Cond).before a0 Z = true := hw _ (List.mem_of_getElem? (i := 28) rfl)
theorem w29 {a0 : Array Value} {Z : State} (hw : Hw a0 Z) : ((Jvm.Cond.code ({ cls := "com/example/limbstride/limbstride/FrontierPopFrontPinLaw", name := "markOf", desc := "(ILjava/lang/Object;)Ljava/lang/Object;" } : Jvm.MethodName) method_2_code (2 : Nat) (Option.some (Jvm.ClassFile.FieldType.object "java/lang/Object"))) : Jvm.Cond).before a0 Z = true := hw _ (List.mem_of_getElem? (i := 29) rfl)
theorem w30 {a0 : Array Value} {Z : State} (hw : Hw a0 Z) : ((Jvm.Cond.methodLink "com/example/limbstride/limbstride/FrontierPopFrontPinLaw" (34 : Nat) ({ cls := "java/lang/Integer", name := "valueOf", desc := "(I)Ljava/lang/Integer;" } : Jvm.MethodName)) : Jvm.Cond).before a0 Z = true := hw _ (List.mem_of_getElem? (i := 30) rfl)
theorem w31 {a0 : Array Value} {Z : State} (hw : Hw a0 Z) : ((Jvm.Cond.static ({ cls := "java/lang/Integer", name := "valueOf", desc := "(I)Ljava/lang/Integer;" } : Jvm.MethodName)) : Jvm.Cond).before a0 Z = true := hw _ (List.mem_of_getElem? (i := 31) rfl)
theorem w32 {a0 : Array Value} {Z : State} (hw : Hw a0 Z) : ((Jvm.Cond.initialized "java/lang/Integer") : Jvm.Cond).before a0 Z = true := hw _ (List.mem_of_getElem? (i := 32) rfl)
theorem w33 {a0 : Array Value} {Z : State} (hw : Hw a0 Z) : ((Jvm.Cond.code ({ cls := "java/lang/Integer", name := "valueOf", desc := "(I)Ljava/lang/Integer;" } : Jvm.MethodName) jdk_33_method_22_code (1 : Nat) (Option.some (Jvm.ClassFile.FieldType.object "java/lang/Integer"))) : Jvm.Cond).before a0 Z = true := hw _ (List.mem_of_getElem? (i := 33) rfl)
theorem w34 {a0 : Array Value} {Z : State} (hw : Hw a0 Z) : ((Jvm.Cond.fieldLink "java/lang/Integer" (191 : Nat) "java/lang/Integer$IntegerCache" "high" "I") : Jvm.Cond).before a0 Z = true := hw _ (List.mem_of_getElem? (i := 34) rfl)
theorem w35 {a0 : Array Value} {Z : State} (hw : Hw a0 Z) : ((Jvm.Cond.initialized "java/lang/Integer$IntegerCache") : Jvm.Cond).before a0 Z = true := hw _ (List.mem_of_getElem? (i := 35) rfl)
theorem w36 {a0 : Array Value} {Z : State} (hw : Hw a0 Z) : ((Jvm.Cond.fieldLink "java/lang/Integer" (195 : Nat) "java/lang/Integer$IntegerCache" "cache" "[Ljava/lang/Integer;") : Jvm.Cond).before a0 Z = true := hw _ (List.mem_of_getElem? (i := 36) rfl)
theorem w37 {a0 : Array Value} {Z : State} (hw : Hw a0 Z) : ((Jvm.Cond.classLink "com/example/limbstride/limbstride/FrontierPopFrontPinLaw" (8 : Nat) "com/example/limbstride/limbstride/Frontier") : Jvm.Cond).before a0 Z = true := hw _ (List.mem_of_getElem? (i := 37) rfl)
theorem w38 {a0 : Array Value} {Z : State} (hw : Hw a0 Z) : ((Jvm.Cond.instantiable "com/example/limbstride/limbstride/Frontier" (6 : Nat)) : Jvm.Cond).before a0 Z = true := hw _ (List.mem_of_getElem? (i := 38) rfl)
theorem w39 {a0 : Array Value} {Z : State} (hw : Hw a0 Z) : ((Jvm.Cond.initialized "com/example/limbstride/limbstride/Frontier") : Jvm.Cond).before a0 Z = true := hw _ (List.mem_of_getElem? (i := 39) rfl)
theorem w40 {a0 : Array Value} {Z : State} (hw : Hw a0 Z) : ((Jvm.Cond.methodLink "com/example/limbstride/limbstride/FrontierPopFrontPinLaw" (38 : Nat) ({ cls := "com/example/limbstride/limbstride/Frontier", name := "<init>", desc := "()V" } : Jvm.MethodName)) : Jvm.Cond).before a0 Z = true := hw _ (List.mem_of_getElem? (i := 40) rfl)
theorem w41 {a0 : Array Value} {Z : State} (hw : Hw a0 Z) : ((Jvm.Cond.instanceMethod ({ cls := "com/example/limbstride/limbstride/Frontier", name := "<init>", desc := "()V" } : Jvm.MethodName)) : Jvm.Cond).before a0 Z = true := hw _ (List.mem_of_getElem? (i := 41) rfl)
theorem w42 {a0 : Array Value} {Z : State} (hw : Hw a0 Z) : ((Jvm.Cond.code ({ cls := "com/example/limbstride/limbstride/Frontier", name := "<init>", desc := "()V" } : Jvm.MethodName) prog_9_method_1_code (1 : Nat) (Option.none : Option Jvm.ClassFile.FieldType)) : Jvm.Cond).before a0 Z = true := hw _ (List.mem_of_getElem? (i := 42) rfl)
theorem w43 {a0 : Array Value} {Z : State} (hw : Hw a0 Z) : ((Jvm.Cond.methodLink "com/example/limbstride/limbstride/Frontier" (1 : Nat) ({ cls := "java/lang/Object", name := "<init>", desc := "()V" } : Jvm.MethodName)) : Jvm.Cond).before a0 Z = true := hw _ (List.mem_of_getElem? (i := 43) rfl)
theorem w44 {a0 : Array Value} {Z : State} (hw : Hw a0 Z) : ((Jvm.Cond.methodLink "com/example/limbstride/limbstride/Frontier" (9 : Nat) ({ cls := "com/example/limbstride/limbstride/Frontier", name := "allocate", desc := "(I)V" } : Jvm.MethodName)) : Jvm.Cond).before a0 Z = true := hw _ (List.mem_of_getElem? (i := 44) rfl)
theorem w45 {a0 : Array Value} {Z : State} (hw : Hw a0 Z) : ((Jvm.Cond.instanceMethod ({ cls := "com/example/limbstride/limbstride/Frontier", name := "allocate", desc := "(I)V" } : Jvm.MethodName)) : Jvm.Cond).before a0 Z = true := hw _ (List.mem_of_getElem? (i := 45) rfl)
theorem w46 {a0 : Array Value} {Z : State} (hw : Hw a0 Z) : ((Jvm.Cond.privateMethod ({ cls := "com/example/limbstride/limbstride/Frontier", name := "allocate", desc := "(I)V" } : Jvm.MethodName)) : Jvm.Cond).before a0 Z = true := hw _ (List.mem_of_getElem? (i := 46) rfl)
theorem w47 {a0 : Array Value} {Z : State} (hw : Hw a0 Z) : ((Jvm.Cond.code ({ cls := "com/example/limbstride/limbstride/Frontier", name := "allocate", desc := "(I)V" } : Jvm.MethodName) prog_9_method_2_code (2 : Nat) (Option.none : Option Jvm.ClassFile.FieldType)) : Jvm.Cond).before a0 Z = true := hw _ (List.mem_of_getElem? (i := 47) rfl)
theorem w48 {a0 : Array Value} {Z : State} (hw : Hw a0 Z) : ((Jvm.Cond.classLink "com/example/limbstride/limbstride/Frontier" (2 : Nat) "java/lang/Object") : Jvm.Cond).before a0 Z = true := hw _ (List.mem_of_getElem? (i := 48) rfl)
theorem w49 {a0 : Array Value} {Z : State} (hw : Hw a0 Z) : ((Jvm.Cond.arrayOver (Jvm.ClassFile.FieldType.object "java/lang/Object")) : Jvm.Cond).before a0 Z = true := hw _ (List.mem_of_getElem? (i := 49) rfl)
theorem w50 {a0 : Array Value} {Z : State} (hw : Hw a0 Z) : ((Jvm.Cond.fieldLink "com/example/limbstride/limbstride/Frontier" (13 : Nat) "com/example/limbstride/limbstride/Frontier" "nodes" "[Ljava/lang/Object;") : Jvm.Cond).before a0 Z = true := hw _ (List.mem_of_getElem? (i := 50) rfl)
theorem w51 {a0 : Array Value} {Z : State} (hw : Hw a0 Z) : ((Jvm.Cond.lays "com/example/limbstride/limbstride/Frontier" "com/example/limbstride/limbstride/Frontier" "nodes" "[Ljava/lang/Object;") : Jvm.Cond).before a0 Z = true := hw _ (List.mem_of_getElem? (i := 51) rfl)
theorem w52 {a0 : Array Value} {Z : State} (hw : Hw a0 Z) : ((Jvm.Cond.arrayClass Jvm.ClassFile.FieldType.int) : Jvm.Cond).before a0 Z = true := hw _ (List.mem_of_getElem? (i := 52) rfl)
theorem w53 {a0 : Array Value} {Z : State} (hw : Hw a0 Z) : ((Jvm.Cond.fieldLink "com/example/limbstride/limbstride/Frontier" (17 : Nat) "com/example/limbstride/limbstride/Frontier" "depths" "[I") : Jvm.Cond).before a0 Z = true := hw _ (List.mem_of_getElem? (i := 53) rfl)
theorem w54 {a0 : Array Value} {Z : State} (hw : Hw a0 Z) : ((Jvm.Cond.lays "com/example/limbstride/limbstride/Frontier" "com/example/limbstride/limbstride/Frontier" "depths" "[I") : Jvm.Cond).before a0 Z = true := hw _ (List.mem_of_getElem? (i := 54) rfl)
theorem w55 {a0 : Array Value} {Z : State} (hw : Hw a0 Z) : ((Jvm.Cond.fieldLink "com/example/limbstride/limbstride/Frontier" (21 : Nat) "com/example/limbstride/limbstride/Frontier" "marks" "[Ljava/lang/Object;") : Jvm.Cond).before a0 Z = true := hw _ (List.mem_of_getElem? (i := 55) rfl)
theorem w56 {a0 : Array Value} {Z : State} (hw : Hw a0 Z) : ((Jvm.Cond.lays "com/example/limbstride/limbstride/Frontier" "com/example/limbstride/limbstride/Frontier" "marks" "[Ljava/lang/Object;") : Jvm.Cond).before a0 Z = true := hw _ (List.mem_of_getElem? (i := 56) rfl)
theorem w57 {a0 : Array Value} {Z : State} (hw : Hw a0 Z) : ((Jvm.Cond.fieldLink "com/example/limbstride/limbstride/Frontier" (24 : Nat) "com/example/limbstride/limbstride/Frontier" "indexes" "[I") : Jvm.Cond).before a0 Z = true := hw _ (List.mem_of_getElem? (i := 57) rfl)
theorem w58 {a0 : Array Value} {Z : State} (hw : Hw a0 Z) : ((Jvm.Cond.lays "com/example/limbstride/limbstride/Frontier" "com/example/limbstride/limbstride/Frontier" "indexes" "[I") : Jvm.Cond).before a0 Z = true := hw _ (List.mem_of_getElem? (i := 58) rfl)
theorem w59 {a0 : Array Value} {Z : State} (hw : Hw a0 Z) : ((Jvm.Cond.fieldLink "com/example/limbstride/limbstride/Frontier" (27 : Nat) "com/example/limbstride/limbstride/Frontier" "head" "I") : Jvm.Cond).before a0 Z = true := hw _ (List.mem_of_getElem? (i := 59) rfl)
theorem w60 {a0 : Array Value} {Z : State} (hw : Hw a0 Z) : ((Jvm.Cond.lays "com/example/limbstride/limbstride/Frontier" "com/example/limbstride/limbstride/Frontier" "head" "I") : Jvm.Cond).before a0 Z = true := hw _ (List.mem_of_getElem? (i := 60) rfl)
theorem w61 {a0 : Array Value} {Z : State} (hw : Hw a0 Z) : ((Jvm.Cond.fieldLink "com/example/limbstride/limbstride/Frontier" (31 : Nat) "com/example/limbstride/limbstride/Frontier" "tail" "I") : Jvm.Cond).before a0 Z = true := hw _ (List.mem_of_getElem? (i := 61) rfl)
theorem w62 {a0 : Array Value} {Z : State} (hw : Hw a0 Z) : ((Jvm.Cond.lays "com/example/limbstride/limbstride/Frontier" "com/example/limbstride/limbstride/Frontier" "tail" "I") : Jvm.Cond).before a0 Z = true := hw _ (List.mem_of_getElem? (i := 62) rfl)
theorem w63 {a0 : Array Value} {Z : State} (hw : Hw a0 Z) : ((Jvm.Cond.methodLink "com/example/limbstride/limbstride/FrontierPopFrontPinLaw" (39 : Nat) ({ cls := "com/example/limbstride/limbstride/Frontier", name := "pushMarkedBack", desc := "(Ljava/lang/Object;Ljava/lang/Object;II)V" } : Jvm.MethodName)) : Jvm.Cond).before a0 Z = true := hw _ (List.mem_of_getElem? (i := 63) rfl)
theorem w64 {a0 : Array Value} {Z : State} (hw : Hw a0 Z) : ((Jvm.Cond.declares ({ cls := "com/example/limbstride/limbstride/Frontier", name := "pushMarkedBack", desc := "(Ljava/lang/Object;Ljava/lang/Object;II)V" } : Jvm.MethodName)) : Jvm.Cond).before a0 Z = true := hw _ (List.mem_of_getElem? (i := 64) rfl)
theorem w65 {a0 : Array Value} {Z : State} (hw : Hw a0 Z) : ((Jvm.Cond.instanceMethod ({ cls := "com/example/limbstride/limbstride/Frontier", name := "pushMarkedBack", desc := "(Ljava/lang/Object;Ljava/lang/Object;II)V" } : Jvm.MethodName)) : Jvm.Cond).before a0 Z = true := hw _ (List.mem_of_getElem? (i := 65) rfl)
theorem w66 {a0 : Array Value} {Z : State} (hw : Hw a0 Z) : ((Jvm.Cond.selects "com/example/limbstride/limbstride/Frontier" ({ cls := "com/example/limbstride/limbstride/Frontier", name := "pushMarkedBack", desc := "(Ljava/lang/Object;Ljava/lang/Object;II)V" } : Jvm.MethodName) ({ cls := "com/example/limbstride/limbstride/Frontier", name := "pushMarkedBack", desc := "(Ljava/lang/Object;Ljava/lang/Object;II)V" } : Jvm.MethodName)) : Jvm.Cond).before a0 Z = true := hw _ (List.mem_of_getElem? (i := 66) rfl)
theorem w67 {a0 : Array Value} {Z : State} (hw : Hw a0 Z) : ((Jvm.Cond.code ({ cls := "com/example/limbstride/limbstride/Frontier", name := "pushMarkedBack", desc := "(Ljava/lang/Object;Ljava/lang/Object;II)V" } : Jvm.MethodName) prog_9_method_19_code (5 : Nat) (Option.none : Option Jvm.ClassFile.FieldType)) : Jvm.Cond).before a0 Z = true := hw _ (List.mem_of_getElem? (i := 67) rfl)
theorem w68 {a0 : Array Value} {Z : State} (hw : Hw a0 Z) : ((Jvm.Cond.castable "java/lang/Integer" "java/lang/Object") : Jvm.Cond).before a0 Z = true := hw _ (List.mem_of_getElem? (i := 68) rfl)
theorem w69 {a0 : Array Value} {Z : State} (hw : Hw a0 Z) : ((Jvm.Cond.methodLink "com/example/limbstride/limbstride/FrontierPopFrontPinLaw" (46 : Nat) ({ cls := "com/example/limbstride/limbstride/Frontier", name := "popFront", desc := "()V" } : Jvm.MethodName)) : Jvm.Cond).before a0 Z = true := hw _ (List.mem_of_getElem? (i := 69) rfl)
theorem w70 {a0 : Array Value} {Z : State} (hw : Hw a0 Z) : ((Jvm.Cond.declares ({ cls := "com/example/limbstride/limbstride/Frontier", name := "popFront", desc := "()V" } : Jvm.MethodName)) : Jvm.Cond).before a0 Z = true := hw _ (List.mem_of_getElem? (i := 70) rfl)
theorem w71 {a0 : Array Value} {Z : State} (hw : Hw a0 Z) : ((Jvm.Cond.instanceMethod ({ cls := "com/example/limbstride/limbstride/Frontier", name := "popFront", desc := "()V" } : Jvm.MethodName)) : Jvm.Cond).before a0 Z = true := hw _ (List.mem_of_getElem? (i := 71) rfl)
theorem w72 {a0 : Array Value} {Z : State} (hw : Hw a0 Z) : ((Jvm.Cond.selects "com/example/limbstride/limbstride/Frontier" ({ cls := "com/example/limbstride/limbstride/Frontier", name := "popFront", desc := "()V" } : Jvm.MethodName) ({ cls := "com/example/limbstride/limbstride/Frontier", name := "popFront", desc := "()V" } : Jvm.MethodName)) : Jvm.Cond).before a0 Z = true := hw _ (List.mem_of_getElem? (i := 72) rfl)
theorem w73 {a0 : Array Value} {Z : State} (hw : Hw a0 Z) : ((Jvm.Cond.code ({ cls := "com/example/limbstride/limbstride/Frontier", name := "popFront", desc := "()V" } : Jvm.MethodName) prog_9_method_20_code (1 : Nat) (Option.none : Option Jvm.ClassFile.FieldType)) : Jvm.Cond).before a0 Z = true := hw _ (List.mem_of_getElem? (i := 73) rfl)
theorem w74 {a0 : Array Value} {Z : State} (hw : Hw a0 Z) : ((Jvm.Cond.methodLink "com/example/limbstride/limbstride/FrontierPopFrontPinLaw" (49 : Nat) ({ cls := "com/example/limbstride/limbstride/Frontier", name := "size", desc := "()I" } : Jvm.MethodName)) : Jvm.Cond).before a0 Z = true := hw _ (List.mem_of_getElem? (i := 74) rfl)
theorem w75 {a0 : Array Value} {Z : State} (hw : Hw a0 Z) : ((Jvm.Cond.declares ({ cls := "com/example/limbstride/limbstride/Frontier", name := "size", desc := "()I" } : Jvm.MethodName)) : Jvm.Cond).before a0 Z = true := hw _ (List.mem_of_getElem? (i := 75) rfl)
theorem w76 {a0 : Array Value} {Z : State} (hw : Hw a0 Z) : ((Jvm.Cond.instanceMethod ({ cls := "com/example/limbstride/limbstride/Frontier", name := "size", desc := "()I" } : Jvm.MethodName)) : Jvm.Cond).before a0 Z = true := hw _ (List.mem_of_getElem? (i := 76) rfl)
theorem w77 {a0 : Array Value} {Z : State} (hw : Hw a0 Z) : ((Jvm.Cond.selects "com/example/limbstride/limbstride/Frontier" ({ cls := "com/example/limbstride/limbstride/Frontier", name := "size", desc := "()I" } : Jvm.MethodName) ({ cls := "com/example/limbstride/limbstride/Frontier", name := "size", desc := "()I" } : Jvm.MethodName)) : Jvm.Cond).before a0 Z = true := hw _ (List.mem_of_getElem? (i := 77) rfl)
theorem w78 {a0 : Array Value} {Z : State} (hw : Hw a0 Z) : ((Jvm.Cond.code ({ cls := "com/example/limbstride/limbstride/Frontier", name := "size", desc := "()I" } : Jvm.MethodName) prog_9_method_3_code (1 : Nat) (Option.some Jvm.ClassFile.FieldType.int)) : Jvm.Cond).before a0 Z = true := hw _ (List.mem_of_getElem? (i := 78) rfl)
theorem w79 {a0 : Array Value} {Z : State} (hw : Hw a0 Z) : ((Jvm.Cond.methodLink "com/example/limbstride/limbstride/FrontierPopFrontPinLaw" (52 : Nat) ({ cls := "com/example/limbstride/limbstride/Frontier", name := "node", desc := "(I)Ljava/lang/Object;" } : Jvm.MethodName)) : Jvm.Cond).before a0 Z = true := hw _ (List.mem_of_getElem? (i := 79) rfl)
theorem w80 {a0 : Array Value} {Z : State} (hw : Hw a0 Z) : ((Jvm.Cond.declares ({ cls := "com/example/limbstride/limbstride/Frontier", name := "node", desc := "(I)Ljava/lang/Object;" } : Jvm.MethodName)) : Jvm.Cond).before a0 Z = true := hw _ (List.mem_of_getElem? (i := 80) rfl)
theorem w81 {a0 : Array Value} {Z : State} (hw : Hw a0 Z) : ((Jvm.Cond.instanceMethod ({ cls := "com/example/limbstride/limbstride/Frontier", name := "node", desc := "(I)Ljava/lang/Object;" } : Jvm.MethodName)) : Jvm.Cond).before a0 Z = true := hw _ (List.mem_of_getElem? (i := 81) rfl)
theorem w82 {a0 : Array Value} {Z : State} (hw : Hw a0 Z) : ((Jvm.Cond.selects "com/example/limbstride/limbstride/Frontier" ({ cls := "com/example/limbstride/limbstride/Frontier", name := "node", desc := "(I)Ljava/lang/Object;" } : Jvm.MethodName) ({ cls := "com/example/limbstride/limbstride/Frontier", name := "node", desc := "(I)Ljava/lang/Object;" } : Jvm.MethodName)) : Jvm.Cond).before a0 Z = true := hw _ (List.mem_of_getElem? (i := 82) rfl)
theorem w83 {a0 : Array Value} {Z : State} (hw : Hw a0 Z) : ((Jvm.Cond.code ({ cls := "com/example/limbstride/limbstride/Frontier", name := "node", desc := "(I)Ljava/lang/Object;" } : Jvm.MethodName) prog_9_method_5_code (2 : Nat) (Option.some (Jvm.ClassFile.FieldType.object "java/lang/Object"))) : Jvm.Cond).before a0 Z = true := hw _ (List.mem_of_getElem? (i := 83) rfl)
theorem w84 {a0 : Array Value} {Z : State} (hw : Hw a0 Z) : ((Jvm.Cond.methodLink "com/example/limbstride/limbstride/Frontier" (34 : Nat) ({ cls := "com/example/limbstride/limbstride/Frontier", name := "slot", desc := "(I)I" } : Jvm.MethodName)) : Jvm.Cond).before a0 Z = true := hw _ (List.mem_of_getElem? (i := 84) rfl)
theorem w85 {a0 : Array Value} {Z : State} (hw : Hw a0 Z) : ((Jvm.Cond.instanceMethod ({ cls := "com/example/limbstride/limbstride/Frontier", name := "slot", desc := "(I)I" } : Jvm.MethodName)) : Jvm.Cond).before a0 Z = true := hw _ (List.mem_of_getElem? (i := 85) rfl)
theorem w86 {a0 : Array Value} {Z : State} (hw : Hw a0 Z) : ((Jvm.Cond.privateMethod ({ cls := "com/example/limbstride/limbstride/Frontier", name := "slot", desc := "(I)I" } : Jvm.MethodName)) : Jvm.Cond).before a0 Z = true := hw _ (List.mem_of_getElem? (i := 86) rfl)
theorem w87 {a0 : Array Value} {Z : State} (hw : Hw a0 Z) : ((Jvm.Cond.code ({ cls := "com/example/limbstride/limbstride/Frontier", name := "slot", desc := "(I)I" } : Jvm.MethodName) prog_9_method_28_code (2 : Nat) (Option.some Jvm.ClassFile.FieldType.int)) : Jvm.Cond).before a0 Z = true := hw _ (List.mem_of_getElem? (i := 87) rfl)
theorem w88 {a0 : Array Value} {Z : State} (hw : Hw a0 Z) : ((Jvm.Cond.methodLink "com/example/limbstride/limbstride/FrontierPopFrontPinLaw" (56 : Nat) ({ cls := "com/example/limbstride/limbstride/Frontier", name := "mark", desc := "(I)Ljava/lang/Object;" } : Jvm.MethodName)) : Jvm.Cond).before a0 Z = true := hw _ (List.mem_of_getElem? (i := 88) rfl)
theorem w89 {a0 : Array Value} {Z : State} (hw : Hw a0 Z) : ((Jvm.Cond.declares ({ cls := "com/example/limbstride/limbstride/Frontier", name := "mark", desc := "(I)Ljava/lang/Object;" } : Jvm.MethodName)) : Jvm.Cond).before a0 Z = true := hw _ (List.mem_of_getElem? (i := 89) rfl)
theorem w90 {a0 : Array Value} {Z : State} (hw : Hw a0 Z) : ((Jvm.Cond.instanceMethod ({ cls := "com/example/limbstride/limbstride/Frontier", name := "mark", desc := "(I)Ljava/lang/Object;" } : Jvm.MethodName)) : Jvm.Cond).before a0 Z = true := hw _ (List.mem_of_getElem? (i := 90) rfl)
theorem w91 {a0 : Array Value} {Z : State} (hw : Hw a0 Z) : ((Jvm.Cond.selects "com/example/limbstride/limbstride/Frontier" ({ cls := "com/example/limbstride/limbstride/Frontier", name := "mark", desc := "(I)Ljava/lang/Object;" } : Jvm.MethodName) ({ cls := "com/example/limbstride/limbstride/Frontier", name := "mark", desc := "(I)Ljava/lang/Object;" } : Jvm.MethodName)) : Jvm.Cond).before a0 Z = true := hw _ (List.mem_of_getElem? (i := 91) rfl)
theorem w92 {a0 : Array Value} {Z : State} (hw : Hw a0 Z) : ((Jvm.Cond.code ({ cls := "com/example/limbstride/limbstride/Frontier", name := "mark", desc := "(I)Ljava/lang/Object;" } : Jvm.MethodName) prog_9_method_7_code (2 : Nat) (Option.some (Jvm.ClassFile.FieldType.object "java/lang/Object"))) : Jvm.Cond).before a0 Z = true := hw _ (List.mem_of_getElem? (i := 92) rfl)
theorem w93 {a0 : Array Value} {Z : State} (hw : Hw a0 Z) : ((Jvm.Cond.castable "java/util/ArrayList" "java/lang/Object") : Jvm.Cond).before a0 Z = true := hw _ (List.mem_of_getElem? (i := 93) rfl)
theorem w94 {a0 : Array Value} {Z : State} (hw : Hw a0 Z) : ((Jvm.Cond.fieldLink "com/example/limbstride/limbstride/FrontierPopFrontPinLaw" (16 : Nat) "com/example/limbstride/limbstride/Frontier" "LINKED" "Ljava/lang/Object;") : Jvm.Cond).before a0 Z = true := hw _ (List.mem_of_getElem? (i := 94) rfl)
theorem w95 {a0 : Array Value} {Z : State} (hw : Hw a0 Z) : ((Jvm.Cond.laysStatic "com/example/limbstride/limbstride/Frontier" "LINKED" "Ljava/lang/Object;") : Jvm.Cond).before a0 Z = true := hw _ (List.mem_of_getElem? (i := 95) rfl)
theorem w97 {a0 : Array Value} {Z : State} (hw : Hw a0 Z) : ((Jvm.Cond.methodLink "com/example/limbstride/limbstride/FrontierPopFrontPinLaw" (59 : Nat) ({ cls := "com/example/limbstride/limbstride/Frontier", name := "frontNode", desc := "()Ljava/lang/Object;" } : Jvm.MethodName)) : Jvm.Cond).before a0 Z = true := hw _ (List.mem_of_getElem? (i := 97) rfl)
theorem w98 {a0 : Array Value} {Z : State} (hw : Hw a0 Z) : ((Jvm.Cond.declares ({ cls := "com/example/limbstride/limbstride/Frontier", name := "frontNode", desc := "()Ljava/lang/Object;" } : Jvm.MethodName)) : Jvm.Cond).before a0 Z = true := hw _ (List.mem_of_getElem? (i := 98) rfl)
theorem w99 {a0 : Array Value} {Z : State} (hw : Hw a0 Z) : ((Jvm.Cond.instanceMethod ({ cls := "com/example/limbstride/limbstride/Frontier", name := "frontNode", desc := "()Ljava/lang/Object;" } : Jvm.MethodName)) : Jvm.Cond).before a0 Z = true := hw _ (List.mem_of_getElem? (i := 99) rfl)
theorem w100 {a0 : Array Value} {Z : State} (hw : Hw a0 Z) : ((Jvm.Cond.selects "com/example/limbstride/limbstride/Frontier" ({ cls := "com/example/limbstride/limbstride/Frontier", name := "frontNode", desc := "()Ljava/lang/Object;" } : Jvm.MethodName) ({ cls := "com/example/limbstride/limbstride/Frontier", name := "frontNode", desc := "()Ljava/lang/Object;" } : Jvm.MethodName)) : Jvm.Cond).before a0 Z = true := hw _ (List.mem_of_getElem? (i := 100) rfl)
theorem w101 {a0 : Array Value} {Z : State} (hw : Hw a0 Z) : ((Jvm.Cond.code ({ cls := "com/example/limbstride/limbstride/Frontier", name := "frontNode", desc := "()Ljava/lang/Object;" } : Jvm.MethodName) prog_9_method_9_code (1 : Nat) (Option.some (Jvm.ClassFile.FieldType.object "java/lang/Object"))) : Jvm.Cond).before a0 Z = true := hw _ (List.mem_of_getElem? (i := 101) rfl)
theorem w102 {a0 : Array Value} {Z : State} (hw : Hw a0 Z) : ((Jvm.Cond.classLink "com/example/limbstride/limbstride/FrontierPopFrontPinLaw" (20 : Nat) "java/lang/Integer") : Jvm.Cond).before a0 Z = true := hw _ (List.mem_of_getElem? (i := 102) rfl)
theorem w104 {a0 : Array Value} {Z : State} (hw : Hw a0 Z) : ((Jvm.Cond.methodLink "com/example/limbstride/limbstride/FrontierPopFrontPinLaw" (63 : Nat) ({ cls := "com/example/limbstride/limbstride/FrontierPopFrontPinLaw", name := "holds", desc := "(Ljava/lang/Integer;I)Z" } : Jvm.MethodName)) : Jvm.Cond).before a0 Z = true := hw _ (List.mem_of_getElem? (i := 104) rfl)
theorem w105 {a0 : Array Value} {Z : State} (hw : Hw a0 Z) : ((Jvm.Cond.static ({ cls := "com/example/limbstride/limbstride/FrontierPopFrontPinLaw", name := "holds", desc := "(Ljava/lang/Integer;I)Z" } : Jvm.MethodName)) : Jvm.Cond).before a0 Z = true := hw _ (List.mem_of_getElem? (i := 105) rfl)
theorem w106 {a0 : Array Value} {Z : State} (hw : Hw a0 Z) : ((Jvm.Cond.code ({ cls := "com/example/limbstride/limbstride/FrontierPopFrontPinLaw", name := "holds", desc := "(Ljava/lang/Integer;I)Z" } : Jvm.MethodName) method_3_code (2 : Nat) (Option.some Jvm.ClassFile.FieldType.boolean)) : Jvm.Cond).before a0 Z = true := hw _ (List.mem_of_getElem? (i := 106) rfl)
theorem w107 {a0 : Array Value} {Z : State} (hw : Hw a0 Z) : ((Jvm.Cond.methodLink "com/example/limbstride/limbstride/FrontierPopFrontPinLaw" (19 : Nat) ({ cls := "java/lang/Integer", name := "intValue", desc := "()I" } : Jvm.MethodName)) : Jvm.Cond).before a0 Z = true := hw _ (List.mem_of_getElem? (i := 107) rfl)
theorem w108 {a0 : Array Value} {Z : State} (hw : Hw a0 Z) : ((Jvm.Cond.declares ({ cls := "java/lang/Integer", name := "intValue", desc := "()I" } : Jvm.MethodName)) : Jvm.Cond).before a0 Z = true := hw _ (List.mem_of_getElem? (i := 108) rfl)
theorem w109 {a0 : Array Value} {Z : State} (hw : Hw a0 Z) : ((Jvm.Cond.instanceMethod ({ cls := "java/lang/Integer", name := "intValue", desc := "()I" } : Jvm.MethodName)) : Jvm.Cond).before a0 Z = true := hw _ (List.mem_of_getElem? (i := 109) rfl)
theorem w110 {a0 : Array Value} {Z : State} (hw : Hw a0 Z) : ((Jvm.Cond.selects "java/lang/Integer" ({ cls := "java/lang/Integer", name := "intValue", desc := "()I" } : Jvm.MethodName) ({ cls := "java/lang/Integer", name := "intValue", desc := "()I" } : Jvm.MethodName)) : Jvm.Cond).before a0 Z = true := hw _ (List.mem_of_getElem? (i := 110) rfl)
theorem w111 {a0 : Array Value} {Z : State} (hw : Hw a0 Z) : ((Jvm.Cond.code ({ cls := "java/lang/Integer", name := "intValue", desc := "()I" } : Jvm.MethodName) jdk_33_method_27_code (1 : Nat) (Option.some Jvm.ClassFile.FieldType.int)) : Jvm.Cond).before a0 Z = true := hw _ (List.mem_of_getElem? (i := 111) rfl)
theorem w112 {a0 : Array Value} {Z : State} (hw : Hw a0 Z) : ((Jvm.Cond.fieldLink "java/lang/Integer" (205 : Nat) "java/lang/Integer" "value" "I") : Jvm.Cond).before a0 Z = true := hw _ (List.mem_of_getElem? (i := 112) rfl)
theorem w113 {a0 : Array Value} {Z : State} (hw : Hw a0 Z) : ((Jvm.Cond.laysFinal "java/lang/Integer" "java/lang/Integer" "value" "I") : Jvm.Cond).before a0 Z = true := hw _ (List.mem_of_getElem? (i := 113) rfl)
theorem w114 {a0 : Array Value} {Z : State} (hw : Hw a0 Z) : ((Jvm.Cond.methodLink "com/example/limbstride/limbstride/FrontierPopFrontPinLaw" (67 : Nat) ({ cls := "com/example/limbstride/limbstride/Frontier", name := "frontDepth", desc := "()I" } : Jvm.MethodName)) : Jvm.Cond).before a0 Z = true := hw _ (List.mem_of_getElem? (i := 114) rfl)
theorem w115 {a0 : Array Value} {Z : State} (hw : Hw a0 Z) : ((Jvm.Cond.declares ({ cls := "com/example/limbstride/limbstride/Frontier", name := "frontDepth", desc := "()I" } : Jvm.MethodName)) : Jvm.Cond).before a0 Z = true := hw _ (List.mem_of_getElem? (i := 115) rfl)
theorem w116 {a0 : Array Value} {Z : State} (hw : Hw a0 Z) : ((Jvm.Cond.instanceMethod ({ cls := "com/example/limbstride/limbstride/Frontier", name := "frontDepth", desc := "()I" } : Jvm.MethodName)) : Jvm.Cond).before a0 Z = true := hw _ (List.mem_of_getElem? (i := 116) rfl)
theorem w117 {a0 : Array Value} {Z : State} (hw : Hw a0 Z) : ((Jvm.Cond.selects "com/example/limbstride/limbstride/Frontier" ({ cls := "com/example/limbstride/limbstride/Frontier", name := "frontDepth", desc := "()I" } : Jvm.MethodName) ({ cls := "com/example/limbstride/limbstride/Frontier", name := "frontDepth", desc := "()I" } : Jvm.MethodName)) : Jvm.Cond).before a0 Z = true := hw _ (List.mem_of_getElem? (i := 117) rfl)
theorem w118 {a0 : Array Value} {Z : State} (hw : Hw a0 Z) : ((Jvm.Cond.code ({ cls := "com/example/limbstride/limbstride/Frontier", name := "frontDepth", desc := "()I" } : Jvm.MethodName) prog_9_method_10_code (1 : Nat) (Option.some Jvm.ClassFile.FieldType.int)) : Jvm.Cond).before a0 Z = true := hw _ (List.mem_of_getElem? (i := 118) rfl)
theorem w119 {a0 : Array Value} {Z : State} (hw : Hw a0 Z) : ((Jvm.Cond.methodLink "com/example/limbstride/limbstride/FrontierPopFrontPinLaw" (70 : Nat) ({ cls := "com/example/limbstride/limbstride/Frontier", name := "frontMark", desc := "()Ljava/lang/Object;" } : Jvm.MethodName)) : Jvm.Cond).before a0 Z = true := hw _ (List.mem_of_getElem? (i := 119) rfl)
theorem w120 {a0 : Array Value} {Z : State} (hw : Hw a0 Z) : ((Jvm.Cond.declares ({ cls := "com/example/limbstride/limbstride/Frontier", name := "frontMark", desc := "()Ljava/lang/Object;" } : Jvm.MethodName)) : Jvm.Cond).before a0 Z = true := hw _ (List.mem_of_getElem? (i := 120) rfl)
theorem w121 {a0 : Array Value} {Z : State} (hw : Hw a0 Z) : ((Jvm.Cond.instanceMethod ({ cls := "com/example/limbstride/limbstride/Frontier", name := "frontMark", desc := "()Ljava/lang/Object;" } : Jvm.MethodName)) : Jvm.Cond).before a0 Z = true := hw _ (List.mem_of_getElem? (i := 121) rfl)
theorem w122 {a0 : Array Value} {Z : State} (hw : Hw a0 Z) : ((Jvm.Cond.selects "com/example/limbstride/limbstride/Frontier" ({ cls := "com/example/limbstride/limbstride/Frontier", name := "frontMark", desc := "()Ljava/lang/Object;" } : Jvm.MethodName) ({ cls := "com/example/limbstride/limbstride/Frontier", name := "frontMark", desc := "()Ljava/lang/Object;" } : Jvm.MethodName)) : Jvm.Cond).before a0 Z = true := hw _ (List.mem_of_getElem? (i := 122) rfl)
theorem w123 {a0 : Array Value} {Z : State} (hw : Hw a0 Z) : ((Jvm.Cond.code ({ cls := "com/example/limbstride/limbstride/Frontier", name := "frontMark", desc := "()Ljava/lang/Object;" } : Jvm.MethodName) prog_9_method_11_code (1 : Nat) (Option.some (Jvm.ClassFile.FieldType.object "java/lang/Object"))) : Jvm.Cond).before a0 Z = true := hw _ (List.mem_of_getElem? (i := 123) rfl)
theorem w124 {a0 : Array Value} {Z : State} (hw : Hw a0 Z) : ((Jvm.Cond.methodLink "com/example/limbstride/limbstride/FrontierPopFrontPinLaw" (73 : Nat) ({ cls := "com/example/limbstride/limbstride/Frontier", name := "frontIndex", desc := "()I" } : Jvm.MethodName)) : Jvm.Cond).before a0 Z = true := hw _ (List.mem_of_getElem? (i := 124) rfl)
theorem w125 {a0 : Array Value} {Z : State} (hw : Hw a0 Z) : ((Jvm.Cond.declares ({ cls := "com/example/limbstride/limbstride/Frontier", name := "frontIndex", desc := "()I" } : Jvm.MethodName)) : Jvm.Cond).before a0 Z = true := hw _ (List.mem_of_getElem? (i := 125) rfl)
theorem w126 {a0 : Array Value} {Z : State} (hw : Hw a0 Z) : ((Jvm.Cond.instanceMethod ({ cls := "com/example/limbstride/limbstride/Frontier", name := "frontIndex", desc := "()I" } : Jvm.MethodName)) : Jvm.Cond).before a0 Z = true := hw _ (List.mem_of_getElem? (i := 126) rfl)
theorem w127 {a0 : Array Value} {Z : State} (hw : Hw a0 Z) : ((Jvm.Cond.selects "com/example/limbstride/limbstride/Frontier" ({ cls := "com/example/limbstride/limbstride/Frontier", name := "frontIndex", desc := "()I" } : Jvm.MethodName) ({ cls := "com/example/limbstride/limbstride/Frontier", name := "frontIndex", desc := "()I" } : Jvm.MethodName)) : Jvm.Cond).before a0 Z = true := hw _ (List.mem_of_getElem? (i := 127) rfl)
theorem w128 {a0 : Array Value} {Z : State} (hw : Hw a0 Z) : ((Jvm.Cond.code ({ cls := "com/example/limbstride/limbstride/Frontier", name := "frontIndex", desc := "()I" } : Jvm.MethodName) prog_9_method_12_code (1 : Nat) (Option.some Jvm.ClassFile.FieldType.int)) : Jvm.Cond).before a0 Z = true := hw _ (List.mem_of_getElem? (i := 128) rfl)
theorem w129 {a0 : Array Value} {Z : State} (hw : Hw a0 Z) : ((Jvm.Cond.classLink "java/lang/Integer" (1 : Nat) "java/lang/Integer") : Jvm.Cond).before a0 Z = true := hw _ (List.mem_of_getElem? (i := 129) rfl)
theorem w130 {a0 : Array Value} {Z : State} (hw : Hw a0 Z) : ((Jvm.Cond.instantiable "java/lang/Integer" (1 : Nat)) : Jvm.Cond).before a0 Z = true := hw _ (List.mem_of_getElem? (i := 130) rfl)
theorem w131 {a0 : Array Value} {Z : State} (hw : Hw a0 Z) : ((Jvm.Cond.methodLink "java/lang/Integer" (199 : Nat) ({ cls := "java/lang/Integer", name := "<init>", desc := "(I)V" } : Jvm.MethodName)) : Jvm.Cond).before a0 Z = true := hw _ (List.mem_of_getElem? (i := 131) rfl)
theorem w132 {a0 : Array Value} {Z : State} (hw : Hw a0 Z) : ((Jvm.Cond.instanceMethod ({ cls := "java/lang/Integer", name := "<init>", desc := "(I)V" } : Jvm.MethodName)) : Jvm.Cond).before a0 Z = true := hw _ (List.mem_of_getElem? (i := 132) rfl)
theorem w133 {a0 : Array Value} {Z : State} (hw : Hw a0 Z) : ((Jvm.Cond.code ({ cls := "java/lang/Integer", name := "<init>", desc := "(I)V" } : Jvm.MethodName) jdk_33_method_23_code (2 : Nat) (Option.none : Option Jvm.ClassFile.FieldType)) : Jvm.Cond).before a0 Z = true := hw _ (List.mem_of_getElem? (i := 133) rfl)
theorem w134 {a0 : Array Value} {Z : State} (hw : Hw a0 Z) : ((Jvm.Cond.methodLink "java/lang/Integer" (202 : Nat) ({ cls := "java/lang/Number", name := "<init>", desc := "()V" } : Jvm.MethodName)) : Jvm.Cond).before a0 Z = true := hw _ (List.mem_of_getElem? (i := 134) rfl)
theorem w135 {a0 : Array Value} {Z : State} (hw : Hw a0 Z) : ((Jvm.Cond.instanceMethod ({ cls := "java/lang/Number", name := "<init>", desc := "()V" } : Jvm.MethodName)) : Jvm.Cond).before a0 Z = true := hw _ (List.mem_of_getElem? (i := 135) rfl)
theorem w138 {a0 : Array Value} {Z : State} (hw : Hw a0 Z) : ((Jvm.Cond.initialized "java/lang/Number") : Jvm.Cond).before a0 Z = true := hw _ (List.mem_of_getElem? (i := 138) rfl)
theorem w139 {a0 : Array Value} {Z : State} (hw : Hw a0 Z) : ((Jvm.Cond.code ({ cls := "java/lang/Number", name := "<init>", desc := "()V" } : Jvm.MethodName) jdk_18_method_1_code (1 : Nat) (Option.none : Option Jvm.ClassFile.FieldType)) : Jvm.Cond).before a0 Z = true := hw _ (List.mem_of_getElem? (i := 139) rfl)
theorem w140 {a0 : Array Value} {Z : State} (hw : Hw a0 Z) : ((Jvm.Cond.methodLink "java/lang/Number" (1 : Nat) ({ cls := "java/lang/Object", name := "<init>", desc := "()V" } : Jvm.MethodName)) : Jvm.Cond).before a0 Z = true := hw _ (List.mem_of_getElem? (i := 140) rfl)
theorem w141 {a0 : Array Value} {Z : State} (hw : Hw a0 Z) : ((Jvm.Cond.methodLink "com/example/limbstride/limbstride/FrontierPopFrontPinLaw" (43 : Nat) ({ cls := "com/example/limbstride/limbstride/Frontier", name := "pushMarked", desc := "(Ljava/lang/Object;Ljava/lang/Object;II)V" } : Jvm.MethodName)) : Jvm.Cond).before a0 Z = true := hw _ (List.mem_of_getElem? (i := 141) rfl)
theorem w142 {a0 : Array Value} {Z : State} (hw : Hw a0 Z) : ((Jvm.Cond.declares ({ cls := "com/example/limbstride/limbstride/Frontier", name := "pushMarked", desc := "(Ljava/lang/Object;Ljava/lang/Object;II)V" } : Jvm.MethodName)) : Jvm.Cond).before a0 Z = true := hw _ (List.mem_of_getElem? (i := 142) rfl)
theorem w143 {a0 : Array Value} {Z : State} (hw : Hw a0 Z) : ((Jvm.Cond.instanceMethod ({ cls := "com/example/limbstride/limbstride/Frontier", name := "pushMarked", desc := "(Ljava/lang/Object;Ljava/lang/Object;II)V" } : Jvm.MethodName)) : Jvm.Cond).before a0 Z = true := hw _ (List.mem_of_getElem? (i := 143) rfl)
theorem w144 {a0 : Array Value} {Z : State} (hw : Hw a0 Z) : ((Jvm.Cond.selects "com/example/limbstride/limbstride/Frontier" ({ cls := "com/example/limbstride/limbstride/Frontier", name := "pushMarked", desc := "(Ljava/lang/Object;Ljava/lang/Object;II)V" } : Jvm.MethodName) ({ cls := "com/example/limbstride/limbstride/Frontier", name := "pushMarked", desc := "(Ljava/lang/Object;Ljava/lang/Object;II)V" } : Jvm.MethodName)) : Jvm.Cond).before a0 Z = true := hw _ (List.mem_of_getElem? (i := 144) rfl)
theorem w145 {a0 : Array Value} {Z : State} (hw : Hw a0 Z) : ((Jvm.Cond.code ({ cls := "com/example/limbstride/limbstride/Frontier", name := "pushMarked", desc := "(Ljava/lang/Object;Ljava/lang/Object;II)V" } : Jvm.MethodName) prog_9_method_18_code (5 : Nat) (Option.none : Option Jvm.ClassFile.FieldType)) : Jvm.Cond).before a0 Z = true := hw _ (List.mem_of_getElem? (i := 145) rfl)
theorem w146 {a0 : Array Value} {Z : State} (hw : Hw a0 Z) : ((Jvm.Cond.fieldLink "com/example/limbstride/limbstride/FrontierPopFrontPinLaw" (7 : Nat) "com/example/limbstride/limbstride/Frontier" "ASK" "Ljava/lang/Object;") : Jvm.Cond).before a0 Z = true := hw _ (List.mem_of_getElem? (i := 146) rfl)
theorem w147 {a0 : Array Value} {Z : State} (hw : Hw a0 Z) : ((Jvm.Cond.laysStatic "com/example/limbstride/limbstride/Frontier" "ASK" "Ljava/lang/Object;") : Jvm.Cond).before a0 Z = true := hw _ (List.mem_of_getElem? (i := 147) rfl)
theorem w148 {a0 : Array Value} {Z : State} (hw : Hw a0 Z) : ((Jvm.Cond.fieldLink "com/example/limbstride/limbstride/FrontierPopFrontPinLaw" (13 : Nat) "com/example/limbstride/limbstride/Frontier" "FINISH" "Ljava/lang/Object;") : Jvm.Cond).before a0 Z = true := hw _ (List.mem_of_getElem? (i := 148) rfl)
theorem w149 {a0 : Array Value} {Z : State} (hw : Hw a0 Z) : ((Jvm.Cond.laysStatic "com/example/limbstride/limbstride/Frontier" "FINISH" "Ljava/lang/Object;") : Jvm.Cond).before a0 Z = true := hw _ (List.mem_of_getElem? (i := 149) rfl)
theorem pn0 : plainFor x = true := plainFor_of_name (show plainName "com/example/limbstride/limbstride/FrontierPopFrontPinLaw" = true by first | (simp [plainName, overriddenIn]; done) | decide +kernel)
theorem pd0 : parseMethodDescriptor "(IIIIII)Z" = some ⟨[.int, .int, .int, .int, .int, .int], some .boolean⟩ := by decide +kernel
theorem d1_0 : decode jdk_38_method_2_code 0 = .ok (.aload_n 0, 1) := by decide +kernel
theorem d1_1 : decode jdk_38_method_2_code 1 = .ok (.invokespecial 1, 3) := by decide +kernel
theorem d1_4 : decode jdk_38_method_2_code 4 = .ok (.aload_n 0, 1) := by decide +kernel
theorem d1_5 : decode jdk_38_method_2_code 5 = .ok (.getstatic 39, 3) := by decide +kernel
theorem d1_8 : decode jdk_38_method_2_code 8 = .ok (.putfield 9, 3) := by decide +kernel
theorem d1_11 : decode jdk_38_method_2_code 11 = .ok (.return_, 1) := by decide +kernel
theorem pn1 : plainFor (⟨"java/util/ArrayList", "<init>", "()V"⟩ : MethodName) = true := plainFor_of_name (show plainName "java/util/ArrayList" = true by first | (simp [plainName, overriddenIn]; done) | decide +kernel)
theorem pd1 : parseMethodDescriptor "()V" = some ⟨[], none⟩ := by decide +kernel
theorem d2_0 : decode jdk_39_method_1_code 0 = .ok (.aload_n 0, 1) := by decide +kernel
theorem d2_1 : decode jdk_39_method_1_code 1 = .ok (.invokespecial 1, 3) := by decide +kernel
theorem d2_4 : decode jdk_39_method_1_code 4 = .ok (.aload_n 0, 1) := by decide +kernel
theorem d2_5 : decode jdk_39_method_1_code 5 = .ok (.iconst 0, 1) := by decide +kernel
theorem d2_6 : decode jdk_39_method_1_code 6 = .ok (.putfield 7, 3) := by decide +kernel
theorem d2_9 : decode jdk_39_method_1_code 9 = .ok (.return_, 1) := by decide +kernel
theorem pn2 : plainFor (⟨"java/util/AbstractList", "<init>", "()V"⟩ : MethodName) = true := plainFor_of_name (show plainName "java/util/AbstractList" = true by first | (simp [plainName, overriddenIn]; done) | decide +kernel)
theorem pd2 : parseMethodDescriptor "()V" = some ⟨[], none⟩ := by decide +kernel
theorem d3_0 : decode jdk_22_method_1_code 0 = .ok (.aload_n 0, 1) := by decide +kernel
theorem d3_1 : decode jdk_22_method_1_code 1 = .ok (.invokespecial 1, 3) := by decide +kernel
theorem d3_4 : decode jdk_22_method_1_code 4 = .ok (.return_, 1) := by decide +kernel
theorem pn3 : plainFor (⟨"java/util/AbstractCollection", "<init>", "()V"⟩ : MethodName) = true := plainFor_of_name (show plainName "java/util/AbstractCollection" = true by first | (simp [plainName, overriddenIn]; done) | decide +kernel)
theorem pd3 : parseMethodDescriptor "()V" = some ⟨[], none⟩ := by decide +kernel
theorem d5_0 : decode method_2_code 0 = .ok (.iload_n 0, 1) := by decide +kernel
theorem d5_1 : decode method_2_code 1 = .ok (.iconst 1, 1) := by decide +kernel
theorem d5_2 : decode method_2_code 2 = .ok (.if_icmp .ne 7, 3) := by decide +kernel
theorem d5_5 : decode method_2_code 5 = .ok (.getstatic 7, 3) := by decide +kernel
theorem d5_8 : decode method_2_code 8 = .ok (.areturn, 1) := by decide +kernel
theorem d5_9 : decode method_2_code 9 = .ok (.iload_n 0, 1) := by decide +kernel
theorem d5_10 : decode method_2_code 10 = .ok (.iconst 2, 1) := by decide +kernel
theorem d5_11 : decode method_2_code 11 = .ok (.if_icmp .ne 7, 3) := by decide +kernel
theorem d5_14 : decode method_2_code 14 = .ok (.getstatic 13, 3) := by decide +kernel
theorem d5_17 : decode method_2_code 17 = .ok (.areturn, 1) := by decide +kernel
theorem d5_18 : decode method_2_code 18 = .ok (.iload_n 0, 1) := by decide +kernel
theorem d5_19 : decode method_2_code 19 = .ok (.iconst 3, 1) := by decide +kernel
theorem d5_20 : decode method_2_code 20 = .ok (.if_icmp .ne 7, 3) := by decide +kernel
theorem d5_23 : decode method_2_code 23 = .ok (.getstatic 16, 3) := by decide +kernel
theorem d5_26 : decode method_2_code 26 = .ok (.areturn, 1) := by decide +kernel
theorem d5_27 : decode method_2_code 27 = .ok (.iload_n 0, 1) := by decide +kernel
theorem d5_28 : decode method_2_code 28 = .ok (.iconst 4, 1) := by decide +kernel
theorem d5_29 : decode method_2_code 29 = .ok (.if_icmp .ne 5, 3) := by decide +kernel
theorem d5_32 : decode method_2_code 32 = .ok (.aload_n 1, 1) := by decide +kernel
theorem d5_33 : decode method_2_code 33 = .ok (.areturn, 1) := by decide +kernel
theorem d5_34 : decode method_2_code 34 = .ok (.aconst_null, 1) := by decide +kernel
theorem d5_35 : decode method_2_code 35 = .ok (.areturn, 1) := by decide +kernel
theorem pn5 : plainFor (⟨"com/example/limbstride/limbstride/FrontierPopFrontPinLaw", "markOf", "(ILjava/lang/Object;)Ljava/lang/Object;"⟩ : MethodName) = true := plainFor_of_name (show plainName "com/example/limbstride/limbstride/FrontierPopFrontPinLaw" = true by first | (simp [plainName, overriddenIn]; done) | decide +kernel)
theorem pd5 : parseMethodDescriptor "(ILjava/lang/Object;)Ljava/lang/Object;" = some ⟨[.int, (.object "java/lang/Object")], (some (.object "java/lang/Object"))⟩ := by decide +kernel
theorem d6_0 : decode jdk_33_method_22_code 0 = .ok (.iload_n 0, 1) := by decide +kernel
theorem d6_1 : decode jdk_33_method_22_code 1 = .ok (.bipush (-128), 2) := by decide +kernel
theorem d6_3 : decode jdk_33_method_22_code 3 = .ok (.if_icmp .lt 20, 3) := by decide +kernel
theorem d6_6 : decode jdk_33_method_22_code 6 = .ok (.iload_n 0, 1) := by decide +kernel
theorem d6_7 : decode jdk_33_method_22_code 7 = .ok (.getstatic 191, 3) := by decide +kernel
theorem d6_10 : decode jdk_33_method_22_code 10 = .ok (.if_icmp .gt 13, 3) := by decide +kernel
theorem d6_13 : decode jdk_33_method_22_code 13 = .ok (.getstatic 195, 3) := by decide +kernel
theorem d6_16 : decode jdk_33_method_22_code 16 = .ok (.iload_n 0, 1) := by decide +kernel
theorem d6_17 : decode jdk_33_method_22_code 17 = .ok (.sipush 128, 3) := by decide +kernel
theorem d6_20 : decode jdk_33_method_22_code 20 = .ok (.iadd, 1) := by decide +kernel
theorem d6_21 : decode jdk_33_method_22_code 21 = .ok (.aaload, 1) := by decide +kernel
theorem d6_22 : decode jdk_33_method_22_code 22 = .ok (.areturn, 1) := by decide +kernel
theorem d6_23 : decode jdk_33_method_22_code 23 = .ok (.new 1, 3) := by decide +kernel
theorem d6_26 : decode jdk_33_method_22_code 26 = .ok (.dup, 1) := by decide +kernel
theorem d6_27 : decode jdk_33_method_22_code 27 = .ok (.iload_n 0, 1) := by decide +kernel
theorem d6_28 : decode jdk_33_method_22_code 28 = .ok (.invokespecial 199, 3) := by decide +kernel
theorem d6_31 : decode jdk_33_method_22_code 31 = .ok (.areturn, 1) := by decide +kernel
theorem pn6 : plainFor (⟨"java/lang/Integer", "valueOf", "(I)Ljava/lang/Integer;"⟩ : MethodName) = true := plainFor_of_name (show plainName "java/lang/Integer" = true by first | (simp [plainName, overriddenIn]; done) | decide +kernel)
theorem pd6 : parseMethodDescriptor "(I)Ljava/lang/Integer;" = some ⟨[.int], (some (.object "java/lang/Integer"))⟩ := by decide +kernel
theorem d7_0 : decode prog_9_method_1_code 0 = .ok (.aload_n 0, 1) := by decide +kernel
theorem d7_1 : decode prog_9_method_1_code 1 = .ok (.invokespecial 1, 3) := by decide +kernel
theorem d7_4 : decode prog_9_method_1_code 4 = .ok (.aload_n 0, 1) := by decide +kernel
theorem d7_5 : decode prog_9_method_1_code 5 = .ok (.bipush 16, 2) := by decide +kernel
theorem d7_7 : decode prog_9_method_1_code 7 = .ok (.invokevirtual 9, 3) := by decide +kernel
theorem d7_10 : decode prog_9_method_1_code 10 = .ok (.return_, 1) := by decide +kernel
theorem pn7 : plainFor (⟨"com/example/limbstride/limbstride/Frontier", "<init>", "()V"⟩ : MethodName) = true := plainFor_of_name (show plainName "com/example/limbstride/limbstride/Frontier" = true by first | (simp [plainName, overriddenIn]; done) | decide +kernel)
theorem pd7 : parseMethodDescriptor "()V" = some ⟨[], none⟩ := by decide +kernel
theorem d8_0 : decode prog_9_method_2_code 0 = .ok (.aload_n 0, 1) := by decide +kernel
theorem d8_1 : decode prog_9_method_2_code 1 = .ok (.iload_n 1, 1) := by decide +kernel
theorem d8_2 : decode prog_9_method_2_code 2 = .ok (.anewarray 2, 3) := by decide +kernel
theorem d8_5 : decode prog_9_method_2_code 5 = .ok (.putfield 13, 3) := by decide +kernel
theorem d8_8 : decode prog_9_method_2_code 8 = .ok (.aload_n 0, 1) := by decide +kernel
theorem d8_9 : decode prog_9_method_2_code 9 = .ok (.iload_n 1, 1) := by decide +kernel
theorem d8_10 : decode prog_9_method_2_code 10 = .ok (.newarray .int, 2) := by decide +kernel
theorem d8_12 : decode prog_9_method_2_code 12 = .ok (.putfield 17, 3) := by decide +kernel
theorem d8_15 : decode prog_9_method_2_code 15 = .ok (.aload_n 0, 1) := by decide +kernel
theorem d8_16 : decode prog_9_method_2_code 16 = .ok (.iload_n 1, 1) := by decide +kernel
theorem d8_17 : decode prog_9_method_2_code 17 = .ok (.anewarray 2, 3) := by decide +kernel
theorem d8_20 : decode prog_9_method_2_code 20 = .ok (.putfield 21, 3) := by decide +kernel
theorem d8_23 : decode prog_9_method_2_code 23 = .ok (.aload_n 0, 1) := by decide +kernel
theorem d8_24 : decode prog_9_method_2_code 24 = .ok (.iload_n 1, 1) := by decide +kernel
theorem d8_25 : decode prog_9_method_2_code 25 = .ok (.newarray .int, 2) := by decide +kernel
theorem d8_27 : decode prog_9_method_2_code 27 = .ok (.putfield 24, 3) := by decide +kernel
theorem d8_30 : decode prog_9_method_2_code 30 = .ok (.aload_n 0, 1) := by decide +kernel
theorem d8_31 : decode prog_9_method_2_code 31 = .ok (.iconst 0, 1) := by decide +kernel
theorem d8_32 : decode prog_9_method_2_code 32 = .ok (.putfield 27, 3) := by decide +kernel
theorem d8_35 : decode prog_9_method_2_code 35 = .ok (.aload_n 0, 1) := by decide +kernel
theorem d8_36 : decode prog_9_method_2_code 36 = .ok (.iconst 0, 1) := by decide +kernel
theorem d8_37 : decode prog_9_method_2_code 37 = .ok (.putfield 31, 3) := by decide +kernel
theorem d8_40 : decode prog_9_method_2_code 40 = .ok (.return_, 1) := by decide +kernel
theorem pn8 : plainFor (⟨"com/example/limbstride/limbstride/Frontier", "allocate", "(I)V"⟩ : MethodName) = true := plainFor_of_name (show plainName "com/example/limbstride/limbstride/Frontier" = true by first | (simp [plainName, overriddenIn]; done) | decide +kernel)
theorem pd8 : parseMethodDescriptor "(I)V" = some ⟨[.int], none⟩ := by decide +kernel
theorem d9_0 : decode prog_9_method_19_code 0 = .ok (.aload_n 0, 1) := by decide +kernel
theorem d9_1 : decode prog_9_method_19_code 1 = .ok (.getfield 13, 3) := by decide +kernel
theorem d9_4 : decode prog_9_method_19_code 4 = .ok (.aload_n 0, 1) := by decide +kernel
theorem d9_5 : decode prog_9_method_19_code 5 = .ok (.getfield 31, 3) := by decide +kernel
theorem d9_8 : decode prog_9_method_19_code 8 = .ok (.aload_n 2, 1) := by decide +kernel
theorem d9_9 : decode prog_9_method_19_code 9 = .ok (.aastore, 1) := by decide +kernel
theorem d9_10 : decode prog_9_method_19_code 10 = .ok (.aload_n 0, 1) := by decide +kernel
theorem d9_11 : decode prog_9_method_19_code 11 = .ok (.getfield 17, 3) := by decide +kernel
theorem d9_14 : decode prog_9_method_19_code 14 = .ok (.aload_n 0, 1) := by decide +kernel
theorem d9_15 : decode prog_9_method_19_code 15 = .ok (.getfield 31, 3) := by decide +kernel
theorem d9_18 : decode prog_9_method_19_code 18 = .ok (.iload_n 3, 1) := by decide +kernel
theorem d9_19 : decode prog_9_method_19_code 19 = .ok (.iastore, 1) := by decide +kernel
theorem d9_20 : decode prog_9_method_19_code 20 = .ok (.aload_n 0, 1) := by decide +kernel
theorem d9_21 : decode prog_9_method_19_code 21 = .ok (.getfield 21, 3) := by decide +kernel
theorem d9_24 : decode prog_9_method_19_code 24 = .ok (.aload_n 0, 1) := by decide +kernel
theorem d9_25 : decode prog_9_method_19_code 25 = .ok (.getfield 31, 3) := by decide +kernel
theorem d9_28 : decode prog_9_method_19_code 28 = .ok (.aload_n 1, 1) := by decide +kernel
theorem d9_29 : decode prog_9_method_19_code 29 = .ok (.aastore, 1) := by decide +kernel
theorem d9_30 : decode prog_9_method_19_code 30 = .ok (.aload_n 0, 1) := by decide +kernel
theorem d9_31 : decode prog_9_method_19_code 31 = .ok (.getfield 24, 3) := by decide +kernel
theorem d9_34 : decode prog_9_method_19_code 34 = .ok (.aload_n 0, 1) := by decide +kernel
theorem d9_35 : decode prog_9_method_19_code 35 = .ok (.getfield 31, 3) := by decide +kernel
theorem d9_38 : decode prog_9_method_19_code 38 = .ok (.iload 4, 2) := by decide +kernel
theorem d9_40 : decode prog_9_method_19_code 40 = .ok (.iastore, 1) := by decide +kernel
theorem d9_41 : decode prog_9_method_19_code 41 = .ok (.aload_n 0, 1) := by decide +kernel
theorem d9_42 : decode prog_9_method_19_code 42 = .ok (.aload_n 0, 1) := by decide +kernel
theorem d9_43 : decode prog_9_method_19_code 43 = .ok (.getfield 31, 3) := by decide +kernel
theorem d9_46 : decode prog_9_method_19_code 46 = .ok (.iconst 1, 1) := by decide +kernel
theorem d9_47 : decode prog_9_method_19_code 47 = .ok (.iadd, 1) := by decide +kernel
theorem d9_48 : decode prog_9_method_19_code 48 = .ok (.aload_n 0, 1) := by decide +kernel
theorem d9_49 : decode prog_9_method_19_code 49 = .ok (.getfield 13, 3) := by decide +kernel
theorem d9_52 : decode prog_9_method_19_code 52 = .ok (.arraylength, 1) := by decide +kernel
theorem d9_53 : decode prog_9_method_19_code 53 = .ok (.iconst 1, 1) := by decide +kernel
theorem d9_54 : decode prog_9_method_19_code 54 = .ok (.isub, 1) := by decide +kernel
theorem d9_55 : decode prog_9_method_19_code 55 = .ok (.iand, 1) := by decide +kernel
theorem d9_56 : decode prog_9_method_19_code 56 = .ok (.putfield 31, 3) := by decide +kernel
theorem d9_59 : decode prog_9_method_19_code 59 = .ok (.aload_n 0, 1) := by decide +kernel
theorem d9_60 : decode prog_9_method_19_code 60 = .ok (.getfield 27, 3) := by decide +kernel
theorem d9_63 : decode prog_9_method_19_code 63 = .ok (.aload_n 0, 1) := by decide +kernel
theorem d9_64 : decode prog_9_method_19_code 64 = .ok (.getfield 31, 3) := by decide +kernel
theorem d9_67 : decode prog_9_method_19_code 67 = .ok (.if_icmp .ne 7, 3) := by decide +kernel
theorem d9_74 : decode prog_9_method_19_code 74 = .ok (.return_, 1) := by decide +kernel
theorem pn9 : plainFor (⟨"com/example/limbstride/limbstride/Frontier", "pushMarkedBack", "(Ljava/lang/Object;Ljava/lang/Object;II)V"⟩ : MethodName) = true := plainFor_of_name (show plainName "com/example/limbstride/limbstride/Frontier" = true by first | (simp [plainName, overriddenIn]; done) | decide +kernel)
theorem pd9 : parseMethodDescriptor "(Ljava/lang/Object;Ljava/lang/Object;II)V" = some ⟨[(.object "java/lang/Object"), (.object "java/lang/Object"), .int, .int], none⟩ := by decide +kernel
theorem d10_0 : decode prog_9_method_20_code 0 = .ok (.aload_n 0, 1) := by decide +kernel
theorem d10_1 : decode prog_9_method_20_code 1 = .ok (.getfield 13, 3) := by decide +kernel
theorem d10_4 : decode prog_9_method_20_code 4 = .ok (.aload_n 0, 1) := by decide +kernel
theorem d10_5 : decode prog_9_method_20_code 5 = .ok (.getfield 27, 3) := by decide +kernel
theorem d10_8 : decode prog_9_method_20_code 8 = .ok (.aconst_null, 1) := by decide +kernel
theorem d10_9 : decode prog_9_method_20_code 9 = .ok (.aastore, 1) := by decide +kernel
theorem d10_10 : decode prog_9_method_20_code 10 = .ok (.aload_n 0, 1) := by decide +kernel
theorem d10_11 : decode prog_9_method_20_code 11 = .ok (.getfield 21, 3) := by decide +kernel
theorem d10_14 : decode prog_9_method_20_code 14 = .ok (.aload_n 0, 1) := by decide +kernel
theorem d10_15 : decode prog_9_method_20_code 15 = .ok (.getfield 27, 3) := by decide +kernel
theorem d10_18 : decode prog_9_method_20_code 18 = .ok (.aaload, 1) := by decide +kernel
theorem d10_19 : decode prog_9_method_20_code 19 = .ok (.ifnull 13, 3) := by decide +kernel
theorem d10_22 : decode prog_9_method_20_code 22 = .ok (.aload_n 0, 1) := by decide +kernel
theorem d10_23 : decode prog_9_method_20_code 23 = .ok (.getfield 21, 3) := by decide +kernel
theorem d10_26 : decode prog_9_method_20_code 26 = .ok (.aload_n 0, 1) := by decide +kernel
theorem d10_27 : decode prog_9_method_20_code 27 = .ok (.getfield 27, 3) := by decide +kernel
theorem d10_30 : decode prog_9_method_20_code 30 = .ok (.aconst_null, 1) := by decide +kernel
theorem d10_31 : decode prog_9_method_20_code 31 = .ok (.aastore, 1) := by decide +kernel
theorem d10_32 : decode prog_9_method_20_code 32 = .ok (.aload_n 0, 1) := by decide +kernel
theorem d10_33 : decode prog_9_method_20_code 33 = .ok (.aload_n 0, 1) := by decide +kernel
theorem d10_34 : decode prog_9_method_20_code 34 = .ok (.getfield 27, 3) := by decide +kernel
theorem d10_37 : decode prog_9_method_20_code 37 = .ok (.iconst 1, 1) := by decide +kernel
theorem d10_38 : decode prog_9_method_20_code 38 = .ok (.iadd, 1) := by decide +kernel
theorem d10_39 : decode prog_9_method_20_code 39 = .ok (.aload_n 0, 1) := by decide +kernel
theorem d10_40 : decode prog_9_method_20_code 40 = .ok (.getfield 13, 3) := by decide +kernel
theorem d10_43 : decode prog_9_method_20_code 43 = .ok (.arraylength, 1) := by decide +kernel
theorem d10_44 : decode prog_9_method_20_code 44 = .ok (.iconst 1, 1) := by decide +kernel
theorem d10_45 : decode prog_9_method_20_code 45 = .ok (.isub, 1) := by decide +kernel
theorem d10_46 : decode prog_9_method_20_code 46 = .ok (.iand, 1) := by decide +kernel
theorem d10_47 : decode prog_9_method_20_code 47 = .ok (.putfield 27, 3) := by decide +kernel
theorem d10_50 : decode prog_9_method_20_code 50 = .ok (.return_, 1) := by decide +kernel
theorem pn10 : plainFor (⟨"com/example/limbstride/limbstride/Frontier", "popFront", "()V"⟩ : MethodName) = true := plainFor_of_name (show plainName "com/example/limbstride/limbstride/Frontier" = true by first | (simp [plainName, overriddenIn]; done) | decide +kernel)
theorem pd10 : parseMethodDescriptor "()V" = some ⟨[], none⟩ := by decide +kernel
theorem d11_0 : decode prog_9_method_3_code 0 = .ok (.aload_n 0, 1) := by decide +kernel
theorem d11_1 : decode prog_9_method_3_code 1 = .ok (.getfield 31, 3) := by decide +kernel
theorem d11_4 : decode prog_9_method_3_code 4 = .ok (.aload_n 0, 1) := by decide +kernel
theorem d11_5 : decode prog_9_method_3_code 5 = .ok (.getfield 27, 3) := by decide +kernel
theorem d11_8 : decode prog_9_method_3_code 8 = .ok (.isub, 1) := by decide +kernel
theorem d11_9 : decode prog_9_method_3_code 9 = .ok (.aload_n 0, 1) := by decide +kernel
theorem d11_10 : decode prog_9_method_3_code 10 = .ok (.getfield 13, 3) := by decide +kernel
theorem d11_13 : decode prog_9_method_3_code 13 = .ok (.arraylength, 1) := by decide +kernel
theorem d11_14 : decode prog_9_method_3_code 14 = .ok (.iconst 1, 1) := by decide +kernel
theorem d11_15 : decode prog_9_method_3_code 15 = .ok (.isub, 1) := by decide +kernel
theorem d11_16 : decode prog_9_method_3_code 16 = .ok (.iand, 1) := by decide +kernel
theorem d11_17 : decode prog_9_method_3_code 17 = .ok (.ireturn, 1) := by decide +kernel
theorem pn11 : plainFor (⟨"com/example/limbstride/limbstride/Frontier", "size", "()I"⟩ : MethodName) = true := plainFor_of_name (show plainName "com/example/limbstride/limbstride/Frontier" = true by first | (simp [plainName, overriddenIn]; done) | decide +kernel)
theorem pd11 : parseMethodDescriptor "()I" = some ⟨[], (some .int)⟩ := by decide +kernel
theorem d12_0 : decode prog_9_method_5_code 0 = .ok (.aload_n 0, 1) := by decide +kernel
theorem d12_1 : decode prog_9_method_5_code 1 = .ok (.getfield 13, 3) := by decide +kernel
theorem d12_4 : decode prog_9_method_5_code 4 = .ok (.aload_n 0, 1) := by decide +kernel
theorem d12_5 : decode prog_9_method_5_code 5 = .ok (.iload_n 1, 1) := by decide +kernel
theorem d12_6 : decode prog_9_method_5_code 6 = .ok (.invokevirtual 34, 3) := by decide +kernel
theorem d12_9 : decode prog_9_method_5_code 9 = .ok (.aaload, 1) := by decide +kernel
theorem d12_10 : decode prog_9_method_5_code 10 = .ok (.areturn, 1) := by decide +kernel
theorem pn12 : plainFor (⟨"com/example/limbstride/limbstride/Frontier", "node", "(I)Ljava/lang/Object;"⟩ : MethodName) = true := plainFor_of_name (show plainName "com/example/limbstride/limbstride/Frontier" = true by first | (simp [plainName, overriddenIn]; done) | decide +kernel)
theorem pd12 : parseMethodDescriptor "(I)Ljava/lang/Object;" = some ⟨[.int], (some (.object "java/lang/Object"))⟩ := by decide +kernel
theorem d13_0 : decode prog_9_method_28_code 0 = .ok (.aload_n 0, 1) := by decide +kernel
theorem d13_1 : decode prog_9_method_28_code 1 = .ok (.getfield 27, 3) := by decide +kernel
theorem d13_4 : decode prog_9_method_28_code 4 = .ok (.iload_n 1, 1) := by decide +kernel
theorem d13_5 : decode prog_9_method_28_code 5 = .ok (.iadd, 1) := by decide +kernel
theorem d13_6 : decode prog_9_method_28_code 6 = .ok (.aload_n 0, 1) := by decide +kernel
theorem d13_7 : decode prog_9_method_28_code 7 = .ok (.getfield 13, 3) := by decide +kernel
theorem d13_10 : decode prog_9_method_28_code 10 = .ok (.arraylength, 1) := by decide +kernel
theorem d13_11 : decode prog_9_method_28_code 11 = .ok (.iconst 1, 1) := by decide +kernel
theorem d13_12 : decode prog_9_method_28_code 12 = .ok (.isub, 1) := by decide +kernel
theorem d13_13 : decode prog_9_method_28_code 13 = .ok (.iand, 1) := by decide +kernel
theorem d13_14 : decode prog_9_method_28_code 14 = .ok (.ireturn, 1) := by decide +kernel
theorem pn13 : plainFor (⟨"com/example/limbstride/limbstride/Frontier", "slot", "(I)I"⟩ : MethodName) = true := plainFor_of_name (show plainName "com/example/limbstride/limbstride/Frontier" = true by first | (simp [plainName, overriddenIn]; done) | decide +kernel)
theorem pd13 : parseMethodDescriptor "(I)I" = some ⟨[.int], (some .int)⟩ := by decide +kernel
theorem d14_0 : decode prog_9_method_7_code 0 = .ok (.aload_n 0, 1) := by decide +kernel
theorem d14_1 : decode prog_9_method_7_code 1 = .ok (.getfield 21, 3) := by decide +kernel
theorem d14_4 : decode prog_9_method_7_code 4 = .ok (.aload_n 0, 1) := by decide +kernel
theorem d14_5 : decode prog_9_method_7_code 5 = .ok (.iload_n 1, 1) := by decide +kernel
theorem d14_6 : decode prog_9_method_7_code 6 = .ok (.invokevirtual 34, 3) := by decide +kernel
theorem d14_9 : decode prog_9_method_7_code 9 = .ok (.aaload, 1) := by decide +kernel
theorem d14_10 : decode prog_9_method_7_code 10 = .ok (.areturn, 1) := by decide +kernel
theorem pn14 : plainFor (⟨"com/example/limbstride/limbstride/Frontier", "mark", "(I)Ljava/lang/Object;"⟩ : MethodName) = true := plainFor_of_name (show plainName "com/example/limbstride/limbstride/Frontier" = true by first | (simp [plainName, overriddenIn]; done) | decide +kernel)
theorem pd14 : parseMethodDescriptor "(I)Ljava/lang/Object;" = some ⟨[.int], (some (.object "java/lang/Object"))⟩ := by decide +kernel
theorem d15_0 : decode prog_9_method_9_code 0 = .ok (.aload_n 0, 1) := by decide +kernel
theorem d15_1 : decode prog_9_method_9_code 1 = .ok (.getfield 13, 3) := by decide +kernel
theorem d15_4 : decode prog_9_method_9_code 4 = .ok (.aload_n 0, 1) := by decide +kernel
theorem d15_5 : decode prog_9_method_9_code 5 = .ok (.getfield 27, 3) := by decide +kernel
theorem d15_8 : decode prog_9_method_9_code 8 = .ok (.aaload, 1) := by decide +kernel
theorem d15_9 : decode prog_9_method_9_code 9 = .ok (.areturn, 1) := by decide +kernel
theorem pn15 : plainFor (⟨"com/example/limbstride/limbstride/Frontier", "frontNode", "()Ljava/lang/Object;"⟩ : MethodName) = true := plainFor_of_name (show plainName "com/example/limbstride/limbstride/Frontier" = true by first | (simp [plainName, overriddenIn]; done) | decide +kernel)
theorem pd15 : parseMethodDescriptor "()Ljava/lang/Object;" = some ⟨[], (some (.object "java/lang/Object"))⟩ := by decide +kernel
theorem d16_0 : decode method_3_code 0 = .ok (.aload_n 0, 1) := by decide +kernel
theorem d16_1 : decode method_3_code 1 = .ok (.ifnull 15, 3) := by decide +kernel
theorem d16_4 : decode method_3_code 4 = .ok (.aload_n 0, 1) := by decide +kernel
theorem d16_5 : decode method_3_code 5 = .ok (.invokevirtual 19, 3) := by decide +kernel
theorem d16_8 : decode method_3_code 8 = .ok (.iload_n 1, 1) := by decide +kernel
theorem d16_9 : decode method_3_code 9 = .ok (.if_icmp .ne 7, 3) := by decide +kernel
theorem d16_12 : decode method_3_code 12 = .ok (.iconst 1, 1) := by decide +kernel
theorem d16_13 : decode method_3_code 13 = .ok (.goto 4, 3) := by decide +kernel
theorem d16_17 : decode method_3_code 17 = .ok (.ireturn, 1) := by decide +kernel
theorem pn16 : plainFor (⟨"com/example/limbstride/limbstride/FrontierPopFrontPinLaw", "holds", "(Ljava/lang/Integer;I)Z"⟩ : MethodName) = true := plainFor_of_name (show plainName "com/example/limbstride/limbstride/FrontierPopFrontPinLaw" = true by first | (simp [plainName, overriddenIn]; done) | decide +kernel)
theorem pd16 : parseMethodDescriptor "(Ljava/lang/Integer;I)Z" = some ⟨[(.object "java/lang/Integer"), .int], (some .boolean)⟩ := by decide +kernel
theorem d17_0 : decode jdk_33_method_27_code 0 = .ok (.aload_n 0, 1) := by decide +kernel
theorem d17_1 : decode jdk_33_method_27_code 1 = .ok (.getfield 205, 3) := by decide +kernel
theorem d17_4 : decode jdk_33_method_27_code 4 = .ok (.ireturn, 1) := by decide +kernel
theorem pn17 : plainFor (⟨"java/lang/Integer", "intValue", "()I"⟩ : MethodName) = true := plainFor_of_name (show plainName "java/lang/Integer" = true by first | (simp [plainName, overriddenIn]; done) | decide +kernel)
theorem pd17 : parseMethodDescriptor "()I" = some ⟨[], (some .int)⟩ := by decide +kernel
theorem d18_0 : decode prog_9_method_10_code 0 = .ok (.aload_n 0, 1) := by decide +kernel
theorem d18_1 : decode prog_9_method_10_code 1 = .ok (.getfield 17, 3) := by decide +kernel
theorem d18_4 : decode prog_9_method_10_code 4 = .ok (.aload_n 0, 1) := by decide +kernel
theorem d18_5 : decode prog_9_method_10_code 5 = .ok (.getfield 27, 3) := by decide +kernel
theorem d18_8 : decode prog_9_method_10_code 8 = .ok (.iaload, 1) := by decide +kernel
theorem d18_9 : decode prog_9_method_10_code 9 = .ok (.ireturn, 1) := by decide +kernel
theorem pn18 : plainFor (⟨"com/example/limbstride/limbstride/Frontier", "frontDepth", "()I"⟩ : MethodName) = true := plainFor_of_name (show plainName "com/example/limbstride/limbstride/Frontier" = true by first | (simp [plainName, overriddenIn]; done) | decide +kernel)
theorem pd18 : parseMethodDescriptor "()I" = some ⟨[], (some .int)⟩ := by decide +kernel
theorem d19_0 : decode prog_9_method_11_code 0 = .ok (.aload_n 0, 1) := by decide +kernel
theorem d19_1 : decode prog_9_method_11_code 1 = .ok (.getfield 21, 3) := by decide +kernel
theorem d19_4 : decode prog_9_method_11_code 4 = .ok (.aload_n 0, 1) := by decide +kernel
theorem d19_5 : decode prog_9_method_11_code 5 = .ok (.getfield 27, 3) := by decide +kernel
theorem d19_8 : decode prog_9_method_11_code 8 = .ok (.aaload, 1) := by decide +kernel
theorem d19_9 : decode prog_9_method_11_code 9 = .ok (.areturn, 1) := by decide +kernel
theorem pn19 : plainFor (⟨"com/example/limbstride/limbstride/Frontier", "frontMark", "()Ljava/lang/Object;"⟩ : MethodName) = true := plainFor_of_name (show plainName "com/example/limbstride/limbstride/Frontier" = true by first | (simp [plainName, overriddenIn]; done) | decide +kernel)
theorem pd19 : parseMethodDescriptor "()Ljava/lang/Object;" = some ⟨[], (some (.object "java/lang/Object"))⟩ := by decide +kernel
theorem d20_0 : decode prog_9_method_12_code 0 = .ok (.aload_n 0, 1) := by decide +kernel
theorem d20_1 : decode prog_9_method_12_code 1 = .ok (.getfield 24, 3) := by decide +kernel
theorem d20_4 : decode prog_9_method_12_code 4 = .ok (.aload_n 0, 1) := by decide +kernel
theorem d20_5 : decode prog_9_method_12_code 5 = .ok (.getfield 27, 3) := by decide +kernel
theorem d20_8 : decode prog_9_method_12_code 8 = .ok (.iaload, 1) := by decide +kernel
theorem d20_9 : decode prog_9_method_12_code 9 = .ok (.ireturn, 1) := by decide +kernel
theorem pn20 : plainFor (⟨"com/example/limbstride/limbstride/Frontier", "frontIndex", "()I"⟩ : MethodName) = true := plainFor_of_name (show plainName "com/example/limbstride/limbstride/Frontier" = true by first | (simp [plainName, overriddenIn]; done) | decide +kernel)
theorem pd20 : parseMethodDescriptor "()I" = some ⟨[], (some .int)⟩ := by decide +kernel
theorem d21_0 : decode jdk_33_method_23_code 0 = .ok (.aload_n 0, 1) := by decide +kernel
theorem d21_1 : decode jdk_33_method_23_code 1 = .ok (.invokespecial 202, 3) := by decide +kernel
theorem d21_4 : decode jdk_33_method_23_code 4 = .ok (.aload_n 0, 1) := by decide +kernel
theorem d21_5 : decode jdk_33_method_23_code 5 = .ok (.iload_n 1, 1) := by decide +kernel
theorem d21_6 : decode jdk_33_method_23_code 6 = .ok (.putfield 205, 3) := by decide +kernel
theorem d21_9 : decode jdk_33_method_23_code 9 = .ok (.return_, 1) := by decide +kernel
theorem pn21 : plainFor (⟨"java/lang/Integer", "<init>", "(I)V"⟩ : MethodName) = true := plainFor_of_name (show plainName "java/lang/Integer" = true by first | (simp [plainName, overriddenIn]; done) | decide +kernel)
theorem pd21 : parseMethodDescriptor "(I)V" = some ⟨[.int], none⟩ := by decide +kernel
theorem d22_0 : decode jdk_18_method_1_code 0 = .ok (.aload_n 0, 1) := by decide +kernel
theorem d22_1 : decode jdk_18_method_1_code 1 = .ok (.invokespecial 1, 3) := by decide +kernel
theorem d22_4 : decode jdk_18_method_1_code 4 = .ok (.return_, 1) := by decide +kernel
theorem pn22 : plainFor (⟨"java/lang/Number", "<init>", "()V"⟩ : MethodName) = true := plainFor_of_name (show plainName "java/lang/Number" = true by first | (simp [plainName, overriddenIn]; done) | decide +kernel)
theorem pd22 : parseMethodDescriptor "()V" = some ⟨[], none⟩ := by decide +kernel
theorem d23_0 : decode prog_9_method_18_code 0 = .ok (.aload_n 0, 1) := by decide +kernel
theorem d23_1 : decode prog_9_method_18_code 1 = .ok (.aload_n 0, 1) := by decide +kernel
theorem d23_2 : decode prog_9_method_18_code 2 = .ok (.getfield 27, 3) := by decide +kernel
theorem d23_5 : decode prog_9_method_18_code 5 = .ok (.iconst 1, 1) := by decide +kernel
theorem d23_6 : decode prog_9_method_18_code 6 = .ok (.isub, 1) := by decide +kernel
theorem d23_7 : decode prog_9_method_18_code 7 = .ok (.aload_n 0, 1) := by decide +kernel
theorem d23_8 : decode prog_9_method_18_code 8 = .ok (.getfield 13, 3) := by decide +kernel
theorem d23_11 : decode prog_9_method_18_code 11 = .ok (.arraylength, 1) := by decide +kernel
theorem d23_12 : decode prog_9_method_18_code 12 = .ok (.iconst 1, 1) := by decide +kernel
theorem d23_13 : decode prog_9_method_18_code 13 = .ok (.isub, 1) := by decide +kernel
theorem d23_14 : decode prog_9_method_18_code 14 = .ok (.iand, 1) := by decide +kernel
theorem d23_15 : decode prog_9_method_18_code 15 = .ok (.putfield 27, 3) := by decide +kernel
theorem d23_18 : decode prog_9_method_18_code 18 = .ok (.aload_n 0, 1) := by decide +kernel
theorem d23_19 : decode prog_9_method_18_code 19 = .ok (.getfield 13, 3) := by decide +kernel
theorem d23_22 : decode prog_9_method_18_code 22 = .ok (.aload_n 0, 1) := by decide +kernel
theorem d23_23 : decode prog_9_method_18_code 23 = .ok (.getfield 27, 3) := by decide +kernel
theorem d23_26 : decode prog_9_method_18_code 26 = .ok (.aload_n 2, 1) := by decide +kernel
theorem d23_27 : decode prog_9_method_18_code 27 = .ok (.aastore, 1) := by decide +kernel
theorem d23_28 : decode prog_9_method_18_code 28 = .ok (.aload_n 0, 1) := by decide +kernel
theorem d23_29 : decode prog_9_method_18_code 29 = .ok (.getfield 17, 3) := by decide +kernel
theorem d23_32 : decode prog_9_method_18_code 32 = .ok (.aload_n 0, 1) := by decide +kernel
theorem d23_33 : decode prog_9_method_18_code 33 = .ok (.getfield 27, 3) := by decide +kernel
theorem d23_36 : decode prog_9_method_18_code 36 = .ok (.iload_n 3, 1) := by decide +kernel
theorem d23_37 : decode prog_9_method_18_code 37 = .ok (.iastore, 1) := by decide +kernel
theorem d23_38 : decode prog_9_method_18_code 38 = .ok (.aload_n 0, 1) := by decide +kernel
theorem d23_39 : decode prog_9_method_18_code 39 = .ok (.getfield 21, 3) := by decide +kernel
theorem d23_42 : decode prog_9_method_18_code 42 = .ok (.aload_n 0, 1) := by decide +kernel
theorem d23_43 : decode prog_9_method_18_code 43 = .ok (.getfield 27, 3) := by decide +kernel
theorem d23_46 : decode prog_9_method_18_code 46 = .ok (.aload_n 1, 1) := by decide +kernel
theorem d23_47 : decode prog_9_method_18_code 47 = .ok (.aastore, 1) := by decide +kernel
theorem d23_48 : decode prog_9_method_18_code 48 = .ok (.aload_n 0, 1) := by decide +kernel
theorem d23_49 : decode prog_9_method_18_code 49 = .ok (.getfield 24, 3) := by decide +kernel
theorem d23_52 : decode prog_9_method_18_code 52 = .ok (.aload_n 0, 1) := by decide +kernel
theorem d23_53 : decode prog_9_method_18_code 53 = .ok (.getfield 27, 3) := by decide +kernel
theorem d23_56 : decode prog_9_method_18_code 56 = .ok (.iload 4, 2) := by decide +kernel
theorem d23_58 : decode prog_9_method_18_code 58 = .ok (.iastore, 1) := by decide +kernel
theorem d23_59 : decode prog_9_method_18_code 59 = .ok (.aload_n 0, 1) := by decide +kernel
theorem d23_60 : decode prog_9_method_18_code 60 = .ok (.getfield 27, 3) := by decide +kernel
theorem d23_63 : decode prog_9_method_18_code 63 = .ok (.aload_n 0, 1) := by decide +kernel
theorem d23_64 : decode prog_9_method_18_code 64 = .ok (.getfield 31, 3) := by decide +kernel
theorem d23_67 : decode prog_9_method_18_code 67 = .ok (.if_icmp .ne 7, 3) := by decide +kernel
theorem d23_74 : decode prog_9_method_18_code 74 = .ok (.return_, 1) := by decide +kernel
theorem pn23 : plainFor (⟨"com/example/limbstride/limbstride/Frontier", "pushMarked", "(Ljava/lang/Object;Ljava/lang/Object;II)V"⟩ : MethodName) = true := plainFor_of_name (show plainName "com/example/limbstride/limbstride/Frontier" = true by first | (simp [plainName, overriddenIn]; done) | decide +kernel)
theorem pd23 : parseMethodDescriptor "(Ljava/lang/Object;Ljava/lang/Object;II)V" = some ⟨[(.object "java/lang/Object"), (.object "java/lang/Object"), .int, .int], none⟩ := by decide +kernel
theorem all_elemR {args : Array Value} {s : State} {t : Term} {a b : Addr} {ty : FieldType} {cA : ClassId} {vs : List Value} {i : Nat} (ev : t.eval args s none [i] s = some (.ref a)) (A : Ar s s.heap a ty cA vs) (hi : i < 2 ^ 31) (e : (Term.elem t (.index 0)).eval args s none [i] s = some (.ref b)) : vs[i]? = some (.ref b) := by
  obtain ⟨c, hc, r, -⟩ := A.at_start
  simp only [Term.eval, ev, hc, Option.bind_eq_bind, Option.bind_some, List.getElem?_cons_zero, Option.map_some] at e
  split at e
  · simp at e
  · rw [← r]; rw [nat_small hi] at e; simpa using e
def Facts (Z : State) (a_LINKED a_ASK a_FINISH a_cache a_dce : Addr) (k_cache : ClassId) (vs_cache : List Value) : Prop := (Sta Z Z.heap "com/example/limbstride/limbstride/Frontier" "LINKED" "Ljava/lang/Object;" (.ref a_LINKED)) ∧ (Exa Z Z.heap a_LINKED "java/lang/Object") ∧ (Sta Z Z.heap "com/example/limbstride/limbstride/Frontier" "ASK" "Ljava/lang/Object;" (.ref a_ASK)) ∧ (Exa Z Z.heap a_ASK "java/lang/Object") ∧ (Sta Z Z.heap "com/example/limbstride/limbstride/Frontier" "FINISH" "Ljava/lang/Object;" (.ref a_FINISH)) ∧ (Exa Z Z.heap a_FINISH "java/lang/Object") ∧ (Sta Z Z.heap "java/lang/Integer$IntegerCache" "high" "I" (.int 127)) ∧ (Sta Z Z.heap "java/lang/Integer$IntegerCache" "cache" "[Ljava/lang/Integer;" (.ref a_cache)) ∧ (Ar Z Z.heap a_cache (.object "java/lang/Integer") k_cache vs_cache) ∧ (vs_cache.length = 256) ∧ (∀ i, i < 256 → ∃ b, vs_cache[i]? = some (.ref b) ∧ Exa Z Z.heap b "java/lang/Integer" ∧ Fld Z Z.heap b "java/lang/Integer" "value" "I" (.int (i.toInt32 - 128))) ∧ (Sta Z Z.heap "java/util/ArrayList" "DEFAULTCAPACITY_EMPTY_ELEMENTDATA" "[Ljava/lang/Object;" (.ref a_dce))
theorem Facts.S_LINKED {Z : State} {a_LINKED a_ASK a_FINISH a_cache a_dce : Addr} {k_cache : ClassId} {vs_cache : List Value} (F : Facts Z a_LINKED a_ASK a_FINISH a_cache a_dce k_cache vs_cache) : Sta Z Z.heap "com/example/limbstride/limbstride/Frontier" "LINKED" "Ljava/lang/Object;" (.ref a_LINKED) := F.1
theorem Facts.E_LINKED {Z : State} {a_LINKED a_ASK a_FINISH a_cache a_dce : Addr} {k_cache : ClassId} {vs_cache : List Value} (F : Facts Z a_LINKED a_ASK a_FINISH a_cache a_dce k_cache vs_cache) : Exa Z Z.heap a_LINKED "java/lang/Object" := F.2.1
theorem Facts.S_ASK {Z : State} {a_LINKED a_ASK a_FINISH a_cache a_dce : Addr} {k_cache : ClassId} {vs_cache : List Value} (F : Facts Z a_LINKED a_ASK a_FINISH a_cache a_dce k_cache vs_cache) : Sta Z Z.heap "com/example/limbstride/limbstride/Frontier" "ASK" "Ljava/lang/Object;" (.ref a_ASK) := F.2.2.1
theorem Facts.E_ASK {Z : State} {a_LINKED a_ASK a_FINISH a_cache a_dce : Addr} {k_cache : ClassId} {vs_cache : List Value} (F : Facts Z a_LINKED a_ASK a_FINISH a_cache a_dce k_cache vs_cache) : Exa Z Z.heap a_ASK "java/lang/Object" := F.2.2.2.1
theorem Facts.S_FINISH {Z : State} {a_LINKED a_ASK a_FINISH a_cache a_dce : Addr} {k_cache : ClassId} {vs_cache : List Value} (F : Facts Z a_LINKED a_ASK a_FINISH a_cache a_dce k_cache vs_cache) : Sta Z Z.heap "com/example/limbstride/limbstride/Frontier" "FINISH" "Ljava/lang/Object;" (.ref a_FINISH) := F.2.2.2.2.1
theorem Facts.E_FINISH {Z : State} {a_LINKED a_ASK a_FINISH a_cache a_dce : Addr} {k_cache : ClassId} {vs_cache : List Value} (F : Facts Z a_LINKED a_ASK a_FINISH a_cache a_dce k_cache vs_cache) : Exa Z Z.heap a_FINISH "java/lang/Object" := F.2.2.2.2.2.1
theorem Facts.S_high {Z : State} {a_LINKED a_ASK a_FINISH a_cache a_dce : Addr} {k_cache : ClassId} {vs_cache : List Value} (F : Facts Z a_LINKED a_ASK a_FINISH a_cache a_dce k_cache vs_cache) : Sta Z Z.heap "java/lang/Integer$IntegerCache" "high" "I" (.int 127) := F.2.2.2.2.2.2.1
theorem Facts.S_cache {Z : State} {a_LINKED a_ASK a_FINISH a_cache a_dce : Addr} {k_cache : ClassId} {vs_cache : List Value} (F : Facts Z a_LINKED a_ASK a_FINISH a_cache a_dce k_cache vs_cache) : Sta Z Z.heap "java/lang/Integer$IntegerCache" "cache" "[Ljava/lang/Integer;" (.ref a_cache) := F.2.2.2.2.2.2.2.1
theorem Facts.A_cache {Z : State} {a_LINKED a_ASK a_FINISH a_cache a_dce : Addr} {k_cache : ClassId} {vs_cache : List Value} (F : Facts Z a_LINKED a_ASK a_FINISH a_cache a_dce k_cache vs_cache) : Ar Z Z.heap a_cache (.object "java/lang/Integer") k_cache vs_cache := F.2.2.2.2.2.2.2.2.1
theorem Facts.N_cache {Z : State} {a_LINKED a_ASK a_FINISH a_cache a_dce : Addr} {k_cache : ClassId} {vs_cache : List Value} (F : Facts Z a_LINKED a_ASK a_FINISH a_cache a_dce k_cache vs_cache) : vs_cache.length = 256 := F.2.2.2.2.2.2.2.2.2.1
theorem Facts.V_cache {Z : State} {a_LINKED a_ASK a_FINISH a_cache a_dce : Addr} {k_cache : ClassId} {vs_cache : List Value} (F : Facts Z a_LINKED a_ASK a_FINISH a_cache a_dce k_cache vs_cache) : ∀ i, i < 256 → ∃ b, vs_cache[i]? = some (.ref b) ∧ Exa Z Z.heap b "java/lang/Integer" ∧ Fld Z Z.heap b "java/lang/Integer" "value" "I" (.int (i.toInt32 - 128)) := F.2.2.2.2.2.2.2.2.2.2.1
theorem Facts.S_dce {Z : State} {a_LINKED a_ASK a_FINISH a_cache a_dce : Addr} {k_cache : ClassId} {vs_cache : List Value} (F : Facts Z a_LINKED a_ASK a_FINISH a_cache a_dce k_cache vs_cache) : Sta Z Z.heap "java/util/ArrayList" "DEFAULTCAPACITY_EMPTY_ELEMENTDATA" "[Ljava/lang/Object;" (.ref a_dce) := F.2.2.2.2.2.2.2.2.2.2.2
abbrev FRC : String := "com/example/limbstride/limbstride/Frontier"
abbrev OBJ : String := "java/lang/Object"
theorem catI (v : Int32) : (Value.int v).category = 1 := rfl
theorem catL (v : Int64) : (Value.long v).category = 2 := rfl
theorem catR (a : Addr) : (Value.ref a).category = 1 := rfl
theorem catN : Value.null.category = 1 := rfl
/-- a value that an Object[] takes -/
def Ob (Z : State) (h : Heap) (v : Value) : Prop := v = .null ∨ ∃ b, v = .ref b ∧ Ins Z h b OBJ true
theorem Ob.isRef {Z : State} {h : Heap} {v : Value} (o : Ob Z h v) : v.isRef = true := by rcases o with rfl | ⟨b, rfl, -⟩ <;> rfl
theorem Ob.ext {Z : State} {h h' : Heap} {v : Value} (o : Ob Z h v) (E : Ext h h') : Ob Z h' v := o.imp id fun ⟨b, e, i⟩ => ⟨b, e, i.ext E⟩
theorem Ob.wr {Z : State} {h h' : Heap} {v w : Value} {a : Addr} {sl : Nat} (o : Ob Z h v) (W : Wr h h' a sl w) : Ob Z h' v := o.imp id fun ⟨b, e, i⟩ => ⟨b, e, i.wr W⟩
theorem sto_ob {Z : State} {h : Heap} {v : Value} {a : Addr} {ty : FieldType} {cA : ClassId} {vs : List Value} (A : Ar Z h a ty cA vs) (O : Ovr Z cA OBJ) (o : Ob Z h v) : Sto Z h a v := by
  rcases o with rfl | ⟨b, rfl, i⟩
  · exact Or.inl rfl
  · exact sto_of A O i
def FR (Z : State) (h : Heap) (n0 : Nat) (f a1 a2 a3 a4 : Addr) (k1 k2 k3 k4 : ClassId) (hd tl : Int32) (ns ds ms is : List Value) : Prop :=
  (Old Z n0 h ∧ Exa Z h f FRC) ∧ (n0 ≤ f ∧ n0 ≤ a1 ∧ n0 ≤ a2 ∧ n0 ≤ a3 ∧ n0 ≤ a4) ∧ (f ≠ a1 ∧ f ≠ a2 ∧ f ≠ a3 ∧ f ≠ a4 ∧ a1 ≠ a2 ∧ a1 ≠ a3 ∧ a1 ≠ a4 ∧ a2 ≠ a3 ∧ a2 ≠ a4 ∧ a3 ≠ a4) ∧
  (Fld Z h f FRC "nodes" "[Ljava/lang/Object;" (.ref a1) ∧ Fld Z h f FRC "depths" "[I" (.ref a2) ∧ Fld Z h f FRC "marks" "[Ljava/lang/Object;" (.ref a3) ∧ Fld Z h f FRC "indexes" "[I" (.ref a4) ∧ Fld Z h f FRC "head" "I" (.int hd) ∧ Fld Z h f FRC "tail" "I" (.int tl)) ∧
  (Ar Z h a1 (.object OBJ) k1 ns ∧ Ovr Z k1 OBJ) ∧ Ar Z h a2 .int k2 ds ∧ (Ar Z h a3 (.object OBJ) k3 ms ∧ Ovr Z k3 OBJ) ∧ Ar Z h a4 .int k4 is ∧ ns.length = 16 ∧ ds.length = 16 ∧ ms.length = 16 ∧ is.length = 16
theorem pTo : parseFieldDescriptor "[Ljava/lang/Object;" = some (.array (.object "java/lang/Object")) := by decide +kernel
theorem pTi : parseFieldDescriptor "[I" = some (.array .int) := by decide +kernel
theorem pTn : parseFieldDescriptor "I" = some .int := by decide +kernel
theorem FR.w1 {Z : State} {h h' : Heap} {n0 : Nat} {f a1 a2 a3 a4 : Addr} {k1 k2 k3 k4 : ClassId} {hd tl : Int32} {ns ds ms is : List Value} {i : Nat} {v : Value} (S : FR Z h n0 f a1 a2 a3 a4 k1 k2 k3 k4 hd tl ns ds ms is) (W : Wr h h' a1 i v) : FR Z h' n0 f a1 a2 a3 a4 k1 k2 k3 k4 hd tl (ns.set i v) ds ms is := by
  obtain ⟨⟨o, e⟩, n, d, ⟨f1, f2, f3, f4, f5, f6⟩, ⟨A1, V1⟩, A2, ⟨A3, V3⟩, A4, l1, l2, l3, l4⟩ := S
  exact ⟨⟨o.wr W n.2.1, e.wr W⟩, n, d, ⟨f1.other W (Or.inl d.1), f2.other W (Or.inl d.1), f3.other W (Or.inl d.1), f4.other W (Or.inl d.1), f5.other W (Or.inl d.1), f6.other W (Or.inl d.1)⟩, ⟨A1.set W, V1⟩, A2.other W (Ne.symm d.2.2.2.2.1), ⟨A3.other W (Ne.symm d.2.2.2.2.2.1), V3⟩, A4.other W (Ne.symm d.2.2.2.2.2.2.1), by rw [List.length_set]; exact l1, l2, l3, l4⟩
theorem FR.w2 {Z : State} {h h' : Heap} {n0 : Nat} {f a1 a2 a3 a4 : Addr} {k1 k2 k3 k4 : ClassId} {hd tl : Int32} {ns ds ms is : List Value} {i : Nat} {v : Value} (S : FR Z h n0 f a1 a2 a3 a4 k1 k2 k3 k4 hd tl ns ds ms is) (W : Wr h h' a2 i v) : FR Z h' n0 f a1 a2 a3 a4 k1 k2 k3 k4 hd tl ns (ds.set i v) ms is := by
  obtain ⟨⟨o, e⟩, n, d, ⟨f1, f2, f3, f4, f5, f6⟩, ⟨A1, V1⟩, A2, ⟨A3, V3⟩, A4, l1, l2, l3, l4⟩ := S
  exact ⟨⟨o.wr W n.2.2.1, e.wr W⟩, n, d, ⟨f1.other W (Or.inl d.2.1), f2.other W (Or.inl d.2.1), f3.other W (Or.inl d.2.1), f4.other W (Or.inl d.2.1), f5.other W (Or.inl d.2.1), f6.other W (Or.inl d.2.1)⟩, ⟨A1.other W d.2.2.2.2.1, V1⟩, A2.set W, ⟨A3.other W (Ne.symm d.2.2.2.2.2.2.2.1), V3⟩, A4.other W (Ne.symm d.2.2.2.2.2.2.2.2.1), l1, by rw [List.length_set]; exact l2, l3, l4⟩
theorem FR.w3 {Z : State} {h h' : Heap} {n0 : Nat} {f a1 a2 a3 a4 : Addr} {k1 k2 k3 k4 : ClassId} {hd tl : Int32} {ns ds ms is : List Value} {i : Nat} {v : Value} (S : FR Z h n0 f a1 a2 a3 a4 k1 k2 k3 k4 hd tl ns ds ms is) (W : Wr h h' a3 i v) : FR Z h' n0 f a1 a2 a3 a4 k1 k2 k3 k4 hd tl ns ds (ms.set i v) is := by
  obtain ⟨⟨o, e⟩, n, d, ⟨f1, f2, f3, f4, f5, f6⟩, ⟨A1, V1⟩, A2, ⟨A3, V3⟩, A4, l1, l2, l3, l4⟩ := S
  exact ⟨⟨o.wr W n.2.2.2.1, e.wr W⟩, n, d, ⟨f1.other W (Or.inl d.2.2.1), f2.other W (Or.inl d.2.2.1), f3.other W (Or.inl d.2.2.1), f4.other W (Or.inl d.2.2.1), f5.other W (Or.inl d.2.2.1), f6.other W (Or.inl d.2.2.1)⟩, ⟨A1.other W d.2.2.2.2.2.1, V1⟩, A2.other W d.2.2.2.2.2.2.2.1, ⟨A3.set W, V3⟩, A4.other W (Ne.symm d.2.2.2.2.2.2.2.2.2), l1, l2, by rw [List.length_set]; exact l3, l4⟩
theorem FR.w4 {Z : State} {h h' : Heap} {n0 : Nat} {f a1 a2 a3 a4 : Addr} {k1 k2 k3 k4 : ClassId} {hd tl : Int32} {ns ds ms is : List Value} {i : Nat} {v : Value} (S : FR Z h n0 f a1 a2 a3 a4 k1 k2 k3 k4 hd tl ns ds ms is) (W : Wr h h' a4 i v) : FR Z h' n0 f a1 a2 a3 a4 k1 k2 k3 k4 hd tl ns ds ms (is.set i v) := by
  obtain ⟨⟨o, e⟩, n, d, ⟨f1, f2, f3, f4, f5, f6⟩, ⟨A1, V1⟩, A2, ⟨A3, V3⟩, A4, l1, l2, l3, l4⟩ := S
  exact ⟨⟨o.wr W n.2.2.2.2, e.wr W⟩, n, d, ⟨f1.other W (Or.inl d.2.2.2.1), f2.other W (Or.inl d.2.2.2.1), f3.other W (Or.inl d.2.2.2.1), f4.other W (Or.inl d.2.2.2.1), f5.other W (Or.inl d.2.2.2.1), f6.other W (Or.inl d.2.2.2.1)⟩, ⟨A1.other W d.2.2.2.2.2.2.1, V1⟩, A2.other W d.2.2.2.2.2.2.2.2.1, ⟨A3.other W d.2.2.2.2.2.2.2.2.2, V3⟩, A4.set W, l1, l2, l3, by rw [List.length_set]; exact l4⟩
theorem FR.head {Z : State} {h h' : Heap} {n0 : Nat} {f a1 a2 a3 a4 : Addr} {k1 k2 k3 k4 : ClassId} {hd tl : Int32} {ns ds ms is : List Value} {a0 : Array Value} (hw : Hw a0 Z) {v : Int32} (S : FR Z h n0 f a1 a2 a3 a4 k1 k2 k3 k4 hd tl ns ds ms is) (W : Wr h h' f (RoadKit.slotOf Z FRC "head" "I") (.int v)) : FR Z h' n0 f a1 a2 a3 a4 k1 k2 k3 k4 v tl ns ds ms is := by
  obtain ⟨⟨o, e⟩, n, d, ⟨f1, f2, f3, f4, f5, f6⟩, ⟨A1, V1⟩, A2, ⟨A3, V3⟩, A4, l1, l2, l3, l4⟩ := S
  exact ⟨⟨o.wr W n.1, e.wr W⟩, n, d, ⟨f1.nxt W (Or.inl (w51 hw)) (Or.inl (w60 hw)) (by decide) pTo pTn, f2.nxt W (Or.inl (w54 hw)) (Or.inl (w60 hw)) (by decide) pTi pTn, f3.nxt W (Or.inl (w56 hw)) (Or.inl (w60 hw)) (by decide) pTo pTn, f4.nxt W (Or.inl (w58 hw)) (Or.inl (w60 hw)) (by decide) pTi pTn, f5.same W, f6.nxt W (Or.inl (w62 hw)) (Or.inl (w60 hw)) (by decide) pTn pTn⟩, ⟨A1.other W (Ne.symm d.1), V1⟩, A2.other W (Ne.symm d.2.1), ⟨A3.other W (Ne.symm d.2.2.1), V3⟩, A4.other W (Ne.symm d.2.2.2.1), l1, l2, l3, l4⟩
theorem FR.tail {Z : State} {h h' : Heap} {n0 : Nat} {f a1 a2 a3 a4 : Addr} {k1 k2 k3 k4 : ClassId} {hd tl : Int32} {ns ds ms is : List Value} {a0 : Array Value} (hw : Hw a0 Z) {v : Int32} (S : FR Z h n0 f a1 a2 a3 a4 k1 k2 k3 k4 hd tl ns ds ms is) (W : Wr h h' f (RoadKit.slotOf Z FRC "tail" "I") (.int v)) : FR Z h' n0 f a1 a2 a3 a4 k1 k2 k3 k4 hd v ns ds ms is := by
  obtain ⟨⟨o, e⟩, n, d, ⟨f1, f2, f3, f4, f5, f6⟩, ⟨A1, V1⟩, A2, ⟨A3, V3⟩, A4, l1, l2, l3, l4⟩ := S
  exact ⟨⟨o.wr W n.1, e.wr W⟩, n, d, ⟨f1.nxt W (Or.inl (w51 hw)) (Or.inl (w62 hw)) (by decide) pTo pTn, f2.nxt W (Or.inl (w54 hw)) (Or.inl (w62 hw)) (by decide) pTi pTn, f3.nxt W (Or.inl (w56 hw)) (Or.inl (w62 hw)) (by decide) pTo pTn, f4.nxt W (Or.inl (w58 hw)) (Or.inl (w62 hw)) (by decide) pTi pTn, f5.nxt W (Or.inl (w60 hw)) (Or.inl (w62 hw)) (by decide) pTn pTn, f6.same W⟩, ⟨A1.other W (Ne.symm d.1), V1⟩, A2.other W (Ne.symm d.2.1), ⟨A3.other W (Ne.symm d.2.2.1), V3⟩, A4.other W (Ne.symm d.2.2.2.1), l1, l2, l3, l4⟩
def R16 (x : Int32) : Prop := ¬ x < 0 ∧ x.toNatClampNeg < 16
theorem r16_and (x : Int32) : R16 (x &&& ((16 : Int32) - (1 : Int32))) := by
  have e := c_mask x 15 4 (by decide) (by decide)
  have q : (16 : Int32) - (1 : Int32) = 15 := by decide
  rw [q]
  refine ⟨nonneg_iff.mpr (by omega), ?_⟩
  show (x &&& 15).toInt.toNat < 16
  omega
theorem FR.ext {Z : State} {h h' : Heap} {n0 : Nat} {f a1 a2 a3 a4 : Addr} {k1 k2 k3 k4 : ClassId} {hd tl : Int32} {ns ds ms is : List Value} (S : FR Z h n0 f a1 a2 a3 a4 k1 k2 k3 k4 hd tl ns ds ms is) (E : Ext h h') : FR Z h' n0 f a1 a2 a3 a4 k1 k2 k3 k4 hd tl ns ds ms is := by
  obtain ⟨⟨o, e⟩, n, d, ⟨f1, f2, f3, f4, f5, f6⟩, ⟨A1, V1⟩, A2, ⟨A3, V3⟩, A4, l1, l2, l3, l4⟩ := S
  exact ⟨⟨o.ext E, e.ext E⟩, n, d, ⟨f1.ext E, f2.ext E, f3.ext E, f4.ext E, f5.ext E, f6.ext E⟩, ⟨A1.ext E, V1⟩, A2.ext E, ⟨A3.ext E, V3⟩, A4.ext E, l1, l2, l3, l4⟩

set_option maxRecDepth 65536 in
set_option maxHeartbeats 40000000 in
theorem fr_size (l : Launch) (Z : State) (a0 : Array Value) (hw : Hw a0 Z) (n0 : Nat) (h : Heap) {f a1 a2 a3 a4 : Addr} {k1 k2 k3 k4 : ClassId} {hd tl : Int32} {ns ds ms is : List Value} (S : FR Z h n0 f a1 a2 a3 a4 k1 k2 k3 k4 hd tl ns ds ms is) {Q : Option Value → Heap → Prop} (hQ : Q (some (.int ((tl - hd) &&& ((16 : Int32) - (1 : Int32))))) h) :
    Go l Z (⟨"com/example/limbstride/limbstride/Frontier", "size", "()I"⟩ : MethodName) prog_9_method_3_code 1 (some .int) ({ frames := 0, cells := 0, slots := 0, locals := 0 } : Room) n0 Q h 0 0 0 #[.val (.ref f)] [] := by
  refine Go.aloadN d11_0 (q := 1) rfl rfl rfl ?_
  refine Go.getF d11_1 (q := 4) rfl (host := "") (Or.inl (w61 hw)) Via.refl S.2.2.2.1.2.2.2.2.2 ?_
  refine Go.aloadN d11_4 (q := 5) rfl rfl rfl ?_
  refine Go.getF d11_5 (q := 8) rfl (host := "") (Or.inl (w59 hw)) Via.refl S.2.2.2.1.2.2.2.2.1 ?_
  refine Go.isub d11_8 (q := 9) rfl ?_
  refine Go.aloadN d11_9 (q := 10) rfl rfl rfl ?_
  refine Go.getF d11_10 (q := 13) rfl (host := "") (Or.inl (w50 hw)) Via.refl S.2.2.2.1.1 ?_
  refine Go.arraylength d11_13 (q := 14) rfl S.2.2.2.2.1.1 (z := 16) (by rw [S.2.2.2.2.2.2.2.2.1]; rfl) ?_
  refine Go.iconst d11_14 (q := 15) rfl (x := (1 : Int32)) (by decide) ?_
  refine Go.isub d11_15 (q := 16) rfl ?_
  refine Go.iand d11_16 (q := 17) rfl ?_
  refine Go.ireturn d11_17 (by decide) (by decide) ?_
  exact hQ
set_option maxRecDepth 65536 in
set_option maxHeartbeats 40000000 in
theorem fr_pushMarked (l : Launch) (Z : State) (a0 : Array Value) (hw : Hw a0 Z) (n0 : Nat) (h : Heap) {f a1 a2 a3 a4 : Addr} {k1 k2 k3 k4 : ClassId} {hd tl : Int32} {ns ds ms is : List Value} (m x : Value) (d i : Int32) (rh : R16 hd) (rt : R16 tl) (S : FR Z h n0 f a1 a2 a3 a4 k1 k2 k3 k4 hd tl ns ds ms is) (o_m : Ob Z h m) (o_x : Ob Z h x) (ne : ¬ ((hd - (1 : Int32)) &&& ((16 : Int32) - (1 : Int32))) = tl) {Q : Option Value → Heap → Prop} (hQ : ∀ h', FR Z h' n0 f a1 a2 a3 a4 k1 k2 k3 k4 ((hd - (1 : Int32)) &&& ((16 : Int32) - (1 : Int32))) tl (ns.set ((hd - (1 : Int32)) &&& ((16 : Int32) - (1 : Int32))).toNatClampNeg x) (ds.set ((hd - (1 : Int32)) &&& ((16 : Int32) - (1 : Int32))).toNatClampNeg (.int d)) (ms.set ((hd - (1 : Int32)) &&& ((16 : Int32) - (1 : Int32))).toNatClampNeg m) (is.set ((hd - (1 : Int32)) &&& ((16 : Int32) - (1 : Int32))).toNatClampNeg (.int i)) → Keep h h' [f, a1, a2, a3, a4] → Q none h') :
    Go l Z (⟨"com/example/limbstride/limbstride/Frontier", "pushMarked", "(Ljava/lang/Object;Ljava/lang/Object;II)V"⟩ : MethodName) prog_9_method_18_code 5 none ({ frames := 0, cells := 0, slots := 0, locals := 0 } : Room) n0 Q h 0 0 0 #[.val (.ref f), .val m, .val x, .val (.int d), .val (.int i)] [] := by
  refine Go.aloadN d23_0 (q := 1) rfl rfl rfl ?_
  refine Go.aloadN d23_1 (q := 2) rfl rfl rfl ?_
  refine Go.getF d23_2 (q := 5) rfl (host := "") (Or.inl (w59 hw)) Via.refl S.2.2.2.1.2.2.2.2.1 ?_
  refine Go.iconst d23_5 (q := 6) rfl (x := (1 : Int32)) (by decide) ?_
  refine Go.isub d23_6 (q := 7) rfl ?_
  refine Go.aloadN d23_7 (q := 8) rfl rfl rfl ?_
  refine Go.getF d23_8 (q := 11) rfl (host := "") (Or.inl (w50 hw)) Via.refl S.2.2.2.1.1 ?_
  refine Go.arraylength d23_11 (q := 12) rfl S.2.2.2.2.1.1 (z := 16) (by rw [S.2.2.2.2.2.2.2.2.1]; rfl) ?_
  refine Go.iconst d23_12 (q := 13) rfl (x := (1 : Int32)) (by decide) ?_
  refine Go.isub d23_13 (q := 14) rfl ?_
  refine Go.iand d23_14 (q := 15) rfl ?_
  refine Go.putF d23_15 (q := 18) rfl (host := "") (Or.inl (w59 hw)) Via.refl S.2.2.2.1.2.2.2.2.1 S.1.2 (Or.inl (w60 hw)) (w38 hw) pTn rfl rfl S.2.1.1 ?_
  intro g1 W1
  have S1s := S.head hw W1
  have Kp1 := (Keep.refl h [f, a1, a2, a3, a4]).wr W1 (Or.inl (by simp))
  have o_x1 := o_x.wr W1
  have o_m1 := o_m.wr W1
  refine Go.aloadN d23_18 (q := 19) rfl rfl rfl ?_
  refine Go.getF d23_19 (q := 22) rfl (host := "") (Or.inl (w50 hw)) Via.refl S1s.2.2.2.1.1 ?_
  refine Go.aloadN d23_22 (q := 23) rfl rfl rfl ?_
  refine Go.getF d23_23 (q := 26) rfl (host := "") (Or.inl (w59 hw)) Via.refl S1s.2.2.2.1.2.2.2.2.1 ?_
  refine Go.aloadN d23_26 (q := 27) rfl rfl o_x.isRef ?_
  refine Go.aastore d23_27 (q := 28) rfl S1s.2.2.2.2.1.1 rfl (r16_and _).1 (by rw [S1s.2.2.2.2.2.2.2.2.1]; exact (r16_and _).2) (sto_ob S1s.2.2.2.2.1.1 S1s.2.2.2.2.1.2 o_x1) S1s.2.1.2.1 ?_
  intro g2 W2
  have S2s := S1s.w1 W2
  have Kp2 := Kp1.wr W2 (Or.inl (by simp))
  have o_x12 := o_x1.wr W2
  have o_m12 := o_m1.wr W2
  refine Go.aloadN d23_28 (q := 29) rfl rfl rfl ?_
  refine Go.getF d23_29 (q := 32) rfl (host := "") (Or.inl (w53 hw)) Via.refl S2s.2.2.2.1.2.1 ?_
  refine Go.aloadN d23_32 (q := 33) rfl rfl rfl ?_
  refine Go.getF d23_33 (q := 36) rfl (host := "") (Or.inl (w59 hw)) Via.refl S2s.2.2.2.1.2.2.2.2.1 ?_
  refine Go.iloadN d23_36 (q := 37) rfl rfl ?_
  refine Go.iastore d23_37 (q := 38) rfl S2s.2.2.2.2.2.1 (r16_and _).1 (by rw [S2s.2.2.2.2.2.2.2.2.2.1]; exact (r16_and _).2) S2s.2.1.2.2.1 ?_
  intro g3 W3
  have S3s := S2s.w2 W3
  have Kp3 := Kp2.wr W3 (Or.inl (by simp))
  have o_x123 := o_x12.wr W3
  have o_m123 := o_m12.wr W3
  refine Go.aloadN d23_38 (q := 39) rfl rfl rfl ?_
  refine Go.getF d23_39 (q := 42) rfl (host := "") (Or.inl (w55 hw)) Via.refl S3s.2.2.2.1.2.2.1 ?_
  refine Go.aloadN d23_42 (q := 43) rfl rfl rfl ?_
  refine Go.getF d23_43 (q := 46) rfl (host := "") (Or.inl (w59 hw)) Via.refl S3s.2.2.2.1.2.2.2.2.1 ?_
  refine Go.aloadN d23_46 (q := 47) rfl rfl o_m.isRef ?_
  refine Go.aastore d23_47 (q := 48) rfl S3s.2.2.2.2.2.2.1.1 rfl (r16_and _).1 (by rw [S3s.2.2.2.2.2.2.2.2.2.2.1]; exact (r16_and _).2) (sto_ob S3s.2.2.2.2.2.2.1.1 S3s.2.2.2.2.2.2.1.2 o_m123) S3s.2.1.2.2.2.1 ?_
  intro g4 W4
  have S4s := S3s.w3 W4
  have Kp4 := Kp3.wr W4 (Or.inl (by simp))
  have o_x1234 := o_x123.wr W4
  have o_m1234 := o_m123.wr W4
  refine Go.aloadN d23_48 (q := 49) rfl rfl rfl ?_
  refine Go.getF d23_49 (q := 52) rfl (host := "") (Or.inl (w57 hw)) Via.refl S4s.2.2.2.1.2.2.2.1 ?_
  refine Go.aloadN d23_52 (q := 53) rfl rfl rfl ?_
  refine Go.getF d23_53 (q := 56) rfl (host := "") (Or.inl (w59 hw)) Via.refl S4s.2.2.2.1.2.2.2.2.1 ?_
  refine Go.iload d23_56 (q := 58) rfl rfl ?_
  refine Go.iastore d23_58 (q := 59) rfl S4s.2.2.2.2.2.2.2.1 (r16_and _).1 (by rw [S4s.2.2.2.2.2.2.2.2.2.2.2]; exact (r16_and _).2) S4s.2.1.2.2.2.2 ?_
  intro g5 W5
  have S5s := S4s.w4 W5
  have Kp5 := Kp4.wr W5 (Or.inl (by simp))
  have o_x12345 := o_x1234.wr W5
  have o_m12345 := o_m1234.wr W5
  refine Go.aloadN d23_59 (q := 60) rfl rfl rfl ?_
  refine Go.getF d23_60 (q := 63) rfl (host := "") (Or.inl (w59 hw)) Via.refl S5s.2.2.2.1.2.2.2.2.1 ?_
  refine Go.aloadN d23_63 (q := 64) rfl rfl rfl ?_
  refine Go.getF d23_64 (q := 67) rfl (host := "") (Or.inl (w61 hw)) Via.refl S5s.2.2.2.1.2.2.2.2.2 ?_
  refine Go.icmp_ne d23_67 (q := 74) (q' := 70) (by decide) rfl rfl (fun _ => ?_) (fun c_ => absurd c_ ne)
  refine Go.vreturn d23_74 (by decide) (by decide) ?_
  exact hQ _ S5s Kp5
set_option maxRecDepth 65536 in
set_option maxHeartbeats 40000000 in
theorem fr_pushMarkedBack (l : Launch) (Z : State) (a0 : Array Value) (hw : Hw a0 Z) (n0 : Nat) (h : Heap) {f a1 a2 a3 a4 : Addr} {k1 k2 k3 k4 : ClassId} {hd tl : Int32} {ns ds ms is : List Value} (m x : Value) (d i : Int32) (rh : R16 hd) (rt : R16 tl) (S : FR Z h n0 f a1 a2 a3 a4 k1 k2 k3 k4 hd tl ns ds ms is) (o_m : Ob Z h m) (o_x : Ob Z h x) (ne : ¬ hd = ((tl + (1 : Int32)) &&& ((16 : Int32) - (1 : Int32)))) {Q : Option Value → Heap → Prop} (hQ : ∀ h', FR Z h' n0 f a1 a2 a3 a4 k1 k2 k3 k4 hd ((tl + (1 : Int32)) &&& ((16 : Int32) - (1 : Int32))) (ns.set tl.toNatClampNeg x) (ds.set tl.toNatClampNeg (.int d)) (ms.set tl.toNatClampNeg m) (is.set tl.toNatClampNeg (.int i)) → Keep h h' [f, a1, a2, a3, a4] → Q none h') :
    Go l Z (⟨"com/example/limbstride/limbstride/Frontier", "pushMarkedBack", "(Ljava/lang/Object;Ljava/lang/Object;II)V"⟩ : MethodName) prog_9_method_19_code 5 none ({ frames := 0, cells := 0, slots := 0, locals := 0 } : Room) n0 Q h 0 0 0 #[.val (.ref f), .val m, .val x, .val (.int d), .val (.int i)] [] := by
  refine Go.aloadN d9_0 (q := 1) rfl rfl rfl ?_
  refine Go.getF d9_1 (q := 4) rfl (host := "") (Or.inl (w50 hw)) Via.refl S.2.2.2.1.1 ?_
  refine Go.aloadN d9_4 (q := 5) rfl rfl rfl ?_
  refine Go.getF d9_5 (q := 8) rfl (host := "") (Or.inl (w61 hw)) Via.refl S.2.2.2.1.2.2.2.2.2 ?_
  refine Go.aloadN d9_8 (q := 9) rfl rfl o_x.isRef ?_
  refine Go.aastore d9_9 (q := 10) rfl S.2.2.2.2.1.1 rfl rt.1 (by rw [S.2.2.2.2.2.2.2.2.1]; exact rt.2) (sto_ob S.2.2.2.2.1.1 S.2.2.2.2.1.2 o_x) S.2.1.2.1 ?_
  intro g1 W1
  have S1s := S.w1 W1
  have Kp1 := (Keep.refl h [f, a1, a2, a3, a4]).wr W1 (Or.inl (by simp))
  have o_x1 := o_x.wr W1
  have o_m1 := o_m.wr W1
  refine Go.aloadN d9_10 (q := 11) rfl rfl rfl ?_
  refine Go.getF d9_11 (q := 14) rfl (host := "") (Or.inl (w53 hw)) Via.refl S1s.2.2.2.1.2.1 ?_
  refine Go.aloadN d9_14 (q := 15) rfl rfl rfl ?_
  refine Go.getF d9_15 (q := 18) rfl (host := "") (Or.inl (w61 hw)) Via.refl S1s.2.2.2.1.2.2.2.2.2 ?_
  refine Go.iloadN d9_18 (q := 19) rfl rfl ?_
  refine Go.iastore d9_19 (q := 20) rfl S1s.2.2.2.2.2.1 rt.1 (by rw [S1s.2.2.2.2.2.2.2.2.2.1]; exact rt.2) S1s.2.1.2.2.1 ?_
  intro g2 W2
  have S2s := S1s.w2 W2
  have Kp2 := Kp1.wr W2 (Or.inl (by simp))
  have o_x12 := o_x1.wr W2
  have o_m12 := o_m1.wr W2
  refine Go.aloadN d9_20 (q := 21) rfl rfl rfl ?_
  refine Go.getF d9_21 (q := 24) rfl (host := "") (Or.inl (w55 hw)) Via.refl S2s.2.2.2.1.2.2.1 ?_
  refine Go.aloadN d9_24 (q := 25) rfl rfl rfl ?_
  refine Go.getF d9_25 (q := 28) rfl (host := "") (Or.inl (w61 hw)) Via.refl S2s.2.2.2.1.2.2.2.2.2 ?_
  refine Go.aloadN d9_28 (q := 29) rfl rfl o_m.isRef ?_
  refine Go.aastore d9_29 (q := 30) rfl S2s.2.2.2.2.2.2.1.1 rfl rt.1 (by rw [S2s.2.2.2.2.2.2.2.2.2.2.1]; exact rt.2) (sto_ob S2s.2.2.2.2.2.2.1.1 S2s.2.2.2.2.2.2.1.2 o_m12) S2s.2.1.2.2.2.1 ?_
  intro g3 W3
  have S3s := S2s.w3 W3
  have Kp3 := Kp2.wr W3 (Or.inl (by simp))
  have o_x123 := o_x12.wr W3
  have o_m123 := o_m12.wr W3
  refine Go.aloadN d9_30 (q := 31) rfl rfl rfl ?_
  refine Go.getF d9_31 (q := 34) rfl (host := "") (Or.inl (w57 hw)) Via.refl S3s.2.2.2.1.2.2.2.1 ?_
  refine Go.aloadN d9_34 (q := 35) rfl rfl rfl ?_
  refine Go.getF d9_35 (q := 38) rfl (host := "") (Or.inl (w61 hw)) Via.refl S3s.2.2.2.1.2.2.2.2.2 ?_
  refine Go.iload d9_38 (q := 40) rfl rfl ?_
  refine Go.iastore d9_40 (q := 41) rfl S3s.2.2.2.2.2.2.2.1 rt.1 (by rw [S3s.2.2.2.2.2.2.2.2.2.2.2]; exact rt.2) S3s.2.1.2.2.2.2 ?_
  intro g4 W4
  have S4s := S3s.w4 W4
  have Kp4 := Kp3.wr W4 (Or.inl (by simp))
  have o_x1234 := o_x123.wr W4
  have o_m1234 := o_m123.wr W4
  refine Go.aloadN d9_41 (q := 42) rfl rfl rfl ?_
  refine Go.aloadN d9_42 (q := 43) rfl rfl rfl ?_
  refine Go.getF d9_43 (q := 46) rfl (host := "") (Or.inl (w61 hw)) Via.refl S4s.2.2.2.1.2.2.2.2.2 ?_
  refine Go.iconst d9_46 (q := 47) rfl (x := (1 : Int32)) (by decide) ?_
  refine Go.iadd d9_47 (q := 48) rfl ?_
  refine Go.aloadN d9_48 (q := 49) rfl rfl rfl ?_
  refine Go.getF d9_49 (q := 52) rfl (host := "") (Or.inl (w50 hw)) Via.refl S4s.2.2.2.1.1 ?_
  refine Go.arraylength d9_52 (q := 53) rfl S4s.2.2.2.2.1.1 (z := 16) (by rw [S4s.2.2.2.2.2.2.2.2.1]; rfl) ?_
  refine Go.iconst d9_53 (q := 54) rfl (x := (1 : Int32)) (by decide) ?_
  refine Go.isub d9_54 (q := 55) rfl ?_
  refine Go.iand d9_55 (q := 56) rfl ?_
  refine Go.putF d9_56 (q := 59) rfl (host := "") (Or.inl (w61 hw)) Via.refl S4s.2.2.2.1.2.2.2.2.2 S4s.1.2 (Or.inl (w62 hw)) (w38 hw) pTn rfl rfl S4s.2.1.1 ?_
  intro g5 W5
  have S5s := S4s.tail hw W5
  have Kp5 := Kp4.wr W5 (Or.inl (by simp))
  have o_x12345 := o_x1234.wr W5
  have o_m12345 := o_m1234.wr W5
  refine Go.aloadN d9_59 (q := 60) rfl rfl rfl ?_
  refine Go.getF d9_60 (q := 63) rfl (host := "") (Or.inl (w59 hw)) Via.refl S5s.2.2.2.1.2.2.2.2.1 ?_
  refine Go.aloadN d9_63 (q := 64) rfl rfl rfl ?_
  refine Go.getF d9_64 (q := 67) rfl (host := "") (Or.inl (w61 hw)) Via.refl S5s.2.2.2.1.2.2.2.2.2 ?_
  refine Go.icmp_ne d9_67 (q := 74) (q' := 70) (by decide) rfl rfl (fun _ => ?_) (fun c_ => absurd c_ ne)
  refine Go.vreturn d9_74 (by decide) (by decide) ?_
  exact hQ _ S5s Kp5
set_option maxRecDepth 65536 in
set_option maxHeartbeats 40000000 in
theorem fr_popFront (l : Launch) (Z : State) (a0 : Array Value) (hw : Hw a0 Z) (n0 : Nat) (h : Heap) {f a1 a2 a3 a4 : Addr} {k1 k2 k3 k4 : ClassId} {hd tl : Int32} {ns ds ms is : List Value} (rh : R16 hd) (S : FR Z h n0 f a1 a2 a3 a4 k1 k2 k3 k4 hd tl ns ds ms is) {v : Value} (hm : ms[hd.toNatClampNeg]? = some v) (hv : v.isRef = true) {Q : Option Value → Heap → Prop} (hQ : ∀ h', FR Z h' n0 f a1 a2 a3 a4 k1 k2 k3 k4 ((hd + (1 : Int32)) &&& ((16 : Int32) - (1 : Int32))) tl (ns.set hd.toNatClampNeg .null) ds (ms.set hd.toNatClampNeg .null) is → Keep h h' [f, a1, a2, a3, a4] → Q none h') :
    Go l Z (⟨"com/example/limbstride/limbstride/Frontier", "popFront", "()V"⟩ : MethodName) prog_9_method_20_code 1 none ({ frames := 0, cells := 0, slots := 0, locals := 0 } : Room) n0 Q h 0 0 0 #[.val (.ref f)] [] := by
  refine Go.aloadN d10_0 (q := 1) rfl rfl rfl ?_
  refine Go.getF d10_1 (q := 4) rfl (host := "") (Or.inl (w50 hw)) Via.refl S.2.2.2.1.1 ?_
  refine Go.aloadN d10_4 (q := 5) rfl rfl rfl ?_
  refine Go.getF d10_5 (q := 8) rfl (host := "") (Or.inl (w59 hw)) Via.refl S.2.2.2.1.2.2.2.2.1 ?_
  refine Go.aconstNull d10_8 (q := 9) rfl ?_
  refine Go.aastore d10_9 (q := 10) rfl S.2.2.2.2.1.1 rfl rh.1 (by rw [S.2.2.2.2.2.2.2.2.1]; exact rh.2) (sto_ob S.2.2.2.2.1.1 S.2.2.2.2.1.2 (Or.inl rfl)) S.2.1.2.1 ?_
  intro g1 W1
  have S1s := S.w1 W1
  have Kp1 := (Keep.refl h [f, a1, a2, a3, a4]).wr W1 (Or.inl (by simp))
  refine Go.aloadN d10_10 (q := 11) rfl rfl rfl ?_
  refine Go.getF d10_11 (q := 14) rfl (host := "") (Or.inl (w55 hw)) Via.refl S1s.2.2.2.1.2.2.1 ?_
  refine Go.aloadN d10_14 (q := 15) rfl rfl rfl ?_
  refine Go.getF d10_15 (q := 18) rfl (host := "") (Or.inl (w59 hw)) Via.refl S1s.2.2.2.1.2.2.2.2.1 ?_
  refine Go.aaload d10_18 (q := 19) rfl S1s.2.2.2.2.2.2.1.1 rfl rh.1 hm ?_
  refine Go.ifnull d10_19 (q := 32) (q' := 22) (by decide) rfl rfl hv (fun c => ?_) (fun _ _ => ?_)
  · skip
    have Sx : FR Z g1 n0 f a1 a2 a3 a4 k1 k2 k3 k4 hd tl (ns.set hd.toNatClampNeg .null) ds (ms.set hd.toNatClampNeg .null) is := by
      have e : ms.set hd.toNatClampNeg .null = ms := by
        apply List.ext_getElem?; intro k
        by_cases q : k = hd.toNatClampNeg
        · subst q; rw [List.getElem?_set_self (by rw [S.2.2.2.2.2.2.2.2.2.2.1]; exact rh.2), hm, c]
        · rw [List.getElem?_set_ne (fun z => q z.symm)]
      rw [e]; exact S1s
    refine Go.aloadN d10_32 (q := 33) rfl rfl rfl ?_
    refine Go.aloadN d10_33 (q := 34) rfl rfl rfl ?_
    refine Go.getF d10_34 (q := 37) rfl (host := "") (Or.inl (w59 hw)) Via.refl Sx.2.2.2.1.2.2.2.2.1 ?_
    refine Go.iconst d10_37 (q := 38) rfl (x := (1 : Int32)) (by decide) ?_
    refine Go.iadd d10_38 (q := 39) rfl ?_
    refine Go.aloadN d10_39 (q := 40) rfl rfl rfl ?_
    refine Go.getF d10_40 (q := 43) rfl (host := "") (Or.inl (w50 hw)) Via.refl Sx.2.2.2.1.1 ?_
    refine Go.arraylength d10_43 (q := 44) rfl Sx.2.2.2.2.1.1 (z := 16) (by rw [Sx.2.2.2.2.2.2.2.2.1]; rfl) ?_
    refine Go.iconst d10_44 (q := 45) rfl (x := (1 : Int32)) (by decide) ?_
    refine Go.isub d10_45 (q := 46) rfl ?_
    refine Go.iand d10_46 (q := 47) rfl ?_
    refine Go.putF d10_47 (q := 50) rfl (host := "") (Or.inl (w59 hw)) Via.refl Sx.2.2.2.1.2.2.2.2.1 Sx.1.2 (Or.inl (w60 hw)) (w38 hw) pTn rfl rfl Sx.2.1.1 ?_
    intro g2 W2
    have S2s := Sx.head hw W2
    have Kp2 := Kp1.wr W2 (Or.inl (by simp))
    refine Go.vreturn d10_50 (by decide) (by decide) ?_
    exact hQ _ S2s Kp2
  · skip
    refine Go.aloadN d10_22 (q := 23) rfl rfl rfl ?_
    refine Go.getF d10_23 (q := 26) rfl (host := "") (Or.inl (w55 hw)) Via.refl S1s.2.2.2.1.2.2.1 ?_
    refine Go.aloadN d10_26 (q := 27) rfl rfl rfl ?_
    refine Go.getF d10_27 (q := 30) rfl (host := "") (Or.inl (w59 hw)) Via.refl S1s.2.2.2.1.2.2.2.2.1 ?_
    refine Go.aconstNull d10_30 (q := 31) rfl ?_
    refine Go.aastore d10_31 (q := 32) rfl S1s.2.2.2.2.2.2.1.1 rfl rh.1 (by rw [S1s.2.2.2.2.2.2.2.2.2.2.1]; exact rh.2) (sto_ob S1s.2.2.2.2.2.2.1.1 S1s.2.2.2.2.2.2.1.2 (Or.inl rfl)) S1s.2.1.2.2.2.1 ?_
    intro g2 W2
    have S2s := S1s.w3 W2
    have Kp2 := Kp1.wr W2 (Or.inl (by simp))
    refine Go.aloadN d10_32 (q := 33) rfl rfl rfl ?_
    refine Go.aloadN d10_33 (q := 34) rfl rfl rfl ?_
    refine Go.getF d10_34 (q := 37) rfl (host := "") (Or.inl (w59 hw)) Via.refl S2s.2.2.2.1.2.2.2.2.1 ?_
    refine Go.iconst d10_37 (q := 38) rfl (x := (1 : Int32)) (by decide) ?_
    refine Go.iadd d10_38 (q := 39) rfl ?_
    refine Go.aloadN d10_39 (q := 40) rfl rfl rfl ?_
    refine Go.getF d10_40 (q := 43) rfl (host := "") (Or.inl (w50 hw)) Via.refl S2s.2.2.2.1.1 ?_
    refine Go.arraylength d10_43 (q := 44) rfl S2s.2.2.2.2.1.1 (z := 16) (by rw [S2s.2.2.2.2.2.2.2.2.1]; rfl) ?_
    refine Go.iconst d10_44 (q := 45) rfl (x := (1 : Int32)) (by decide) ?_
    refine Go.isub d10_45 (q := 46) rfl ?_
    refine Go.iand d10_46 (q := 47) rfl ?_
    refine Go.putF d10_47 (q := 50) rfl (host := "") (Or.inl (w59 hw)) Via.refl S2s.2.2.2.1.2.2.2.2.1 S2s.1.2 (Or.inl (w60 hw)) (w38 hw) pTn rfl rfl S2s.2.1.1 ?_
    intro g3 W3
    have S3s := S2s.head hw W3
    have Kp3 := Kp2.wr W3 (Or.inl (by simp))
    refine Go.vreturn d10_50 (by decide) (by decide) ?_
    exact hQ _ S3s Kp3
set_option maxRecDepth 65536 in
set_option maxHeartbeats 40000000 in
theorem fr_slot (l : Launch) (Z : State) (a0 : Array Value) (hw : Hw a0 Z) (n0 : Nat) (h : Heap) {f a1 a2 a3 a4 : Addr} {k1 k2 k3 k4 : ClassId} {hd tl : Int32} {ns ds ms is : List Value} (i : Int32) (S : FR Z h n0 f a1 a2 a3 a4 k1 k2 k3 k4 hd tl ns ds ms is) {Q : Option Value → Heap → Prop} (hQ : Q (some (.int ((hd + i) &&& ((16 : Int32) - (1 : Int32))))) h) :
    Go l Z (⟨"com/example/limbstride/limbstride/Frontier", "slot", "(I)I"⟩ : MethodName) prog_9_method_28_code 2 (some .int) ({ frames := 0, cells := 0, slots := 0, locals := 0 } : Room) n0 Q h 0 0 0 #[.val (.ref f), .val (.int i)] [] := by
  refine Go.aloadN d13_0 (q := 1) rfl rfl rfl ?_
  refine Go.getF d13_1 (q := 4) rfl (host := "") (Or.inl (w59 hw)) Via.refl S.2.2.2.1.2.2.2.2.1 ?_
  refine Go.iloadN d13_4 (q := 5) rfl rfl ?_
  refine Go.iadd d13_5 (q := 6) rfl ?_
  refine Go.aloadN d13_6 (q := 7) rfl rfl rfl ?_
  refine Go.getF d13_7 (q := 10) rfl (host := "") (Or.inl (w50 hw)) Via.refl S.2.2.2.1.1 ?_
  refine Go.arraylength d13_10 (q := 11) rfl S.2.2.2.2.1.1 (z := 16) (by rw [S.2.2.2.2.2.2.2.2.1]; rfl) ?_
  refine Go.iconst d13_11 (q := 12) rfl (x := (1 : Int32)) (by decide) ?_
  refine Go.isub d13_12 (q := 13) rfl ?_
  refine Go.iand d13_13 (q := 14) rfl ?_
  refine Go.ireturn d13_14 (by decide) (by decide) ?_
  exact hQ
set_option maxRecDepth 65536 in
set_option maxHeartbeats 40000000 in
theorem fr_node (l : Launch) (Z : State) (a0 : Array Value) (hw : Hw a0 Z) (n0 : Nat) (h : Heap) {f a1 a2 a3 a4 : Addr} {k1 k2 k3 k4 : ClassId} {hd tl : Int32} {ns ds ms is : List Value} (i : Int32) (v : Value) (hr : v.isRef = true) (S : FR Z h n0 f a1 a2 a3 a4 k1 k2 k3 k4 hd tl ns ds ms is) (hv : ns[((hd + i) &&& ((16 : Int32) - (1 : Int32))).toNatClampNeg]? = some v) {Q : Option Value → Heap → Prop} (hQ : Q (some v) h) :
    Go l Z (⟨"com/example/limbstride/limbstride/Frontier", "node", "(I)Ljava/lang/Object;"⟩ : MethodName) prog_9_method_5_code 2 (some (.object "java/lang/Object")) ({ frames := 1, cells := 0, slots := 0, locals := 14 } : Room) n0 Q h 0 0 0 #[.val (.ref f), .val (.int i)] [] := by
  refine Go.aloadN d12_0 (q := 1) rfl rfl rfl ?_
  refine Go.getF d12_1 (q := 4) rfl (host := "") (Or.inl (w50 hw)) Via.refl S.2.2.2.1.1 ?_
  refine Go.aloadN d12_4 (q := 5) rfl rfl rfl ?_
  refine Go.iloadN d12_5 (q := 6) rfl rfl ?_
  refine Go.callPV (P := fun w h' => w = .int ((hd + i) &&& ((16 : Int32) - (1 : Int32))) ∧ h = h') (argsL := [(.int i)]) (rest := [(.ref a1)]) (wd := 1) (Ls1 := #[.val (.ref f), .val (.int i)]) d12_6 (q := 9) rfl (w84 hw) (w86 hw) (w66 hw) rfl (w85 hw) (w87 hw) (w39 hw) (by decide) pn13 pd13 rfl rfl S.1.2 (fun m_ => by simp [entryFrame, mkF, argsToLocals, Value.category]) rfl (by decide) rfl (by decide) (by decide) (by decide) (fr_slot l Z a0 hw n0 h i S (Q := RV (fun w h' => w = .int ((hd + i) &&& ((16 : Int32) - (1 : Int32))) ∧ h = h')) ⟨_, rfl, rfl, rfl⟩) ?_
  rintro _ _ ⟨rfl, rfl⟩
  refine Go.aaload d12_9 (q := 10) rfl S.2.2.2.2.1.1 rfl (r16_and _).1 hv ?_
  refine Go.areturn d12_10 (by decide) (by decide) rfl hr ?_
  exact hQ
set_option maxRecDepth 65536 in
set_option maxHeartbeats 40000000 in
theorem fr_mark (l : Launch) (Z : State) (a0 : Array Value) (hw : Hw a0 Z) (n0 : Nat) (h : Heap) {f a1 a2 a3 a4 : Addr} {k1 k2 k3 k4 : ClassId} {hd tl : Int32} {ns ds ms is : List Value} (i : Int32) (v : Value) (hr : v.isRef = true) (S : FR Z h n0 f a1 a2 a3 a4 k1 k2 k3 k4 hd tl ns ds ms is) (hv : ms[((hd + i) &&& ((16 : Int32) - (1 : Int32))).toNatClampNeg]? = some v) {Q : Option Value → Heap → Prop} (hQ : Q (some v) h) :
    Go l Z (⟨"com/example/limbstride/limbstride/Frontier", "mark", "(I)Ljava/lang/Object;"⟩ : MethodName) prog_9_method_7_code 2 (some (.object "java/lang/Object")) ({ frames := 1, cells := 0, slots := 0, locals := 14 } : Room) n0 Q h 0 0 0 #[.val (.ref f), .val (.int i)] [] := by
  refine Go.aloadN d14_0 (q := 1) rfl rfl rfl ?_
  refine Go.getF d14_1 (q := 4) rfl (host := "") (Or.inl (w55 hw)) Via.refl S.2.2.2.1.2.2.1 ?_
  refine Go.aloadN d14_4 (q := 5) rfl rfl rfl ?_
  refine Go.iloadN d14_5 (q := 6) rfl rfl ?_
  refine Go.callPV (P := fun w h' => w = .int ((hd + i) &&& ((16 : Int32) - (1 : Int32))) ∧ h = h') (argsL := [(.int i)]) (rest := [(.ref a3)]) (wd := 1) (Ls1 := #[.val (.ref f), .val (.int i)]) d14_6 (q := 9) rfl (w84 hw) (w86 hw) (w66 hw) rfl (w85 hw) (w87 hw) (w39 hw) (by decide) pn13 pd13 rfl rfl S.1.2 (fun m_ => by simp [entryFrame, mkF, argsToLocals, Value.category]) rfl (by decide) rfl (by decide) (by decide) (by decide) (fr_slot l Z a0 hw n0 h i S (Q := RV (fun w h' => w = .int ((hd + i) &&& ((16 : Int32) - (1 : Int32))) ∧ h = h')) ⟨_, rfl, rfl, rfl⟩) ?_
  rintro _ _ ⟨rfl, rfl⟩
  refine Go.aaload d14_9 (q := 10) rfl S.2.2.2.2.2.2.1.1 rfl (r16_and _).1 hv ?_
  refine Go.areturn d14_10 (by decide) (by decide) rfl hr ?_
  exact hQ
set_option maxRecDepth 65536 in
set_option maxHeartbeats 40000000 in
theorem fr_frontNode (l : Launch) (Z : State) (a0 : Array Value) (hw : Hw a0 Z) (n0 : Nat) (h : Heap) {f a1 a2 a3 a4 : Addr} {k1 k2 k3 k4 : ClassId} {hd tl : Int32} {ns ds ms is : List Value} (v : Value) (hr : v.isRef = true) (rh : R16 hd) (S : FR Z h n0 f a1 a2 a3 a4 k1 k2 k3 k4 hd tl ns ds ms is) (hv : ns[hd.toNatClampNeg]? = some v) {Q : Option Value → Heap → Prop} (hQ : Q (some v) h) :
    Go l Z (⟨"com/example/limbstride/limbstride/Frontier", "frontNode", "()Ljava/lang/Object;"⟩ : MethodName) prog_9_method_9_code 1 (some (.object "java/lang/Object")) ({ frames := 0, cells := 0, slots := 0, locals := 0 } : Room) n0 Q h 0 0 0 #[.val (.ref f)] [] := by
  refine Go.aloadN d15_0 (q := 1) rfl rfl rfl ?_
  refine Go.getF d15_1 (q := 4) rfl (host := "") (Or.inl (w50 hw)) Via.refl S.2.2.2.1.1 ?_
  refine Go.aloadN d15_4 (q := 5) rfl rfl rfl ?_
  refine Go.getF d15_5 (q := 8) rfl (host := "") (Or.inl (w59 hw)) Via.refl S.2.2.2.1.2.2.2.2.1 ?_
  refine Go.aaload d15_8 (q := 9) rfl S.2.2.2.2.1.1 rfl rh.1 hv ?_
  refine Go.areturn d15_9 (by decide) (by decide) rfl hr ?_
  exact hQ
set_option maxRecDepth 65536 in
set_option maxHeartbeats 40000000 in
theorem fr_frontMark (l : Launch) (Z : State) (a0 : Array Value) (hw : Hw a0 Z) (n0 : Nat) (h : Heap) {f a1 a2 a3 a4 : Addr} {k1 k2 k3 k4 : ClassId} {hd tl : Int32} {ns ds ms is : List Value} (v : Value) (hr : v.isRef = true) (rh : R16 hd) (S : FR Z h n0 f a1 a2 a3 a4 k1 k2 k3 k4 hd tl ns ds ms is) (hv : ms[hd.toNatClampNeg]? = some v) {Q : Option Value → Heap → Prop} (hQ : Q (some v) h) :
    Go l Z (⟨"com/example/limbstride/limbstride/Frontier", "frontMark", "()Ljava/lang/Object;"⟩ : MethodName) prog_9_method_11_code 1 (some (.object "java/lang/Object")) ({ frames := 0, cells := 0, slots := 0, locals := 0 } : Room) n0 Q h 0 0 0 #[.val (.ref f)] [] := by
  refine Go.aloadN d19_0 (q := 1) rfl rfl rfl ?_
  refine Go.getF d19_1 (q := 4) rfl (host := "") (Or.inl (w55 hw)) Via.refl S.2.2.2.1.2.2.1 ?_
  refine Go.aloadN d19_4 (q := 5) rfl rfl rfl ?_
  refine Go.getF d19_5 (q := 8) rfl (host := "") (Or.inl (w59 hw)) Via.refl S.2.2.2.1.2.2.2.2.1 ?_
  refine Go.aaload d19_8 (q := 9) rfl S.2.2.2.2.2.2.1.1 rfl rh.1 hv ?_
  refine Go.areturn d19_9 (by decide) (by decide) rfl hr ?_
  exact hQ
set_option maxRecDepth 65536 in
set_option maxHeartbeats 40000000 in
theorem fr_frontDepth (l : Launch) (Z : State) (a0 : Array Value) (hw : Hw a0 Z) (n0 : Nat) (h : Heap) {f a1 a2 a3 a4 : Addr} {k1 k2 k3 k4 : ClassId} {hd tl : Int32} {ns ds ms is : List Value} (v : Int32) (rh : R16 hd) (S : FR Z h n0 f a1 a2 a3 a4 k1 k2 k3 k4 hd tl ns ds ms is) (hv : ds[hd.toNatClampNeg]? = some (.int v)) {Q : Option Value → Heap → Prop} (hQ : Q (some (.int v)) h) :
    Go l Z (⟨"com/example/limbstride/limbstride/Frontier", "frontDepth", "()I"⟩ : MethodName) prog_9_method_10_code 1 (some .int) ({ frames := 0, cells := 0, slots := 0, locals := 0 } : Room) n0 Q h 0 0 0 #[.val (.ref f)] [] := by
  refine Go.aloadN d18_0 (q := 1) rfl rfl rfl ?_
  refine Go.getF d18_1 (q := 4) rfl (host := "") (Or.inl (w53 hw)) Via.refl S.2.2.2.1.2.1 ?_
  refine Go.aloadN d18_4 (q := 5) rfl rfl rfl ?_
  refine Go.getF d18_5 (q := 8) rfl (host := "") (Or.inl (w59 hw)) Via.refl S.2.2.2.1.2.2.2.2.1 ?_
  refine Go.iaload d18_8 (q := 9) rfl S.2.2.2.2.2.1 rh.1 hv ?_
  refine Go.ireturn d18_9 (by decide) (by decide) ?_
  exact hQ
set_option maxRecDepth 65536 in
set_option maxHeartbeats 40000000 in
theorem fr_frontIndex (l : Launch) (Z : State) (a0 : Array Value) (hw : Hw a0 Z) (n0 : Nat) (h : Heap) {f a1 a2 a3 a4 : Addr} {k1 k2 k3 k4 : ClassId} {hd tl : Int32} {ns ds ms is : List Value} (v : Int32) (rh : R16 hd) (S : FR Z h n0 f a1 a2 a3 a4 k1 k2 k3 k4 hd tl ns ds ms is) (hv : is[hd.toNatClampNeg]? = some (.int v)) {Q : Option Value → Heap → Prop} (hQ : Q (some (.int v)) h) :
    Go l Z (⟨"com/example/limbstride/limbstride/Frontier", "frontIndex", "()I"⟩ : MethodName) prog_9_method_12_code 1 (some .int) ({ frames := 0, cells := 0, slots := 0, locals := 0 } : Room) n0 Q h 0 0 0 #[.val (.ref f)] [] := by
  refine Go.aloadN d20_0 (q := 1) rfl rfl rfl ?_
  refine Go.getF d20_1 (q := 4) rfl (host := "") (Or.inl (w57 hw)) Via.refl S.2.2.2.1.2.2.2.1 ?_
  refine Go.aloadN d20_4 (q := 5) rfl rfl rfl ?_
  refine Go.getF d20_5 (q := 8) rfl (host := "") (Or.inl (w59 hw)) Via.refl S.2.2.2.1.2.2.2.2.1 ?_
  refine Go.iaload d20_8 (q := 9) rfl S.2.2.2.2.2.2.2.1 rh.1 hv ?_
  refine Go.ireturn d20_9 (by decide) (by decide) ?_
  exact hQ
set_option maxRecDepth 65536 in
set_option maxHeartbeats 40000000 in
theorem fr_alloc (l : Launch) (Z : State) (a0 : Array Value) (hw : Hw a0 Z) (n0 : Nat) (h : Heap) (O : Old Z n0 h) (f : Addr) (nf : n0 ≤ f) (E : Exa Z h f FRC) (F1 : Fld Z h f FRC "nodes" "[Ljava/lang/Object;" .null) (F2 : Fld Z h f FRC "depths" "[I" .null) (F3 : Fld Z h f FRC "marks" "[Ljava/lang/Object;" .null) (F4 : Fld Z h f FRC "indexes" "[I" .null) (F5 : Fld Z h f FRC "head" "I" (.int 0)) (F6 : Fld Z h f FRC "tail" "I" (.int 0)) {Q : Option Value → Heap → Prop} (hQ : ∀ h' a1 a2 a3 a4 k1 k2 k3 k4, FR Z h' n0 f a1 a2 a3 a4 k1 k2 k3 k4 0 0 (List.replicate 16 Value.null) (List.replicate 16 (Value.int 0)) (List.replicate 16 Value.null) (List.replicate 16 (Value.int 0)) → Keep h h' [f] → Q none h') :
    Go l Z (⟨"com/example/limbstride/limbstride/Frontier", "allocate", "(I)V"⟩ : MethodName) prog_9_method_2_code 2 none ({ frames := 0, cells := 4, slots := 64, locals := 0 } : Room) n0 Q h 0 0 0 #[.val (.ref f), .val (.int (16 : Int32))] [] := by
  refine Go.aloadN d8_0 (q := 1) rfl rfl rfl ?_
  refine Go.iloadN d8_1 (q := 2) rfl rfl ?_
  refine Go.anewarray (cap := 16) d8_2 (q := 5) rfl (w48 hw) (w49 hw) (by decide) (by decide) (by decide) (by decide) (by decide) ?_
  intro x1 a1 k1 e1 X1 A1 V1
  have Kq1 := (Keep.refl h [f]).ext X1
  have ne1t : f ≠ a1 := new_ne E.lt e1
  have nl2t : n0 ≤ a1 := new_le (O.1 ▸ O.2.1) e1
  have O3t := O.ext X1
  have E4t := E.ext X1
  have F5t := F1.ext X1
  have F6t := F2.ext X1
  have F7t := F3.ext X1
  have F8t := F4.ext X1
  have F9t := F5.ext X1
  have F10t := F6.ext X1
  refine Go.putF d8_5 (q := 8) rfl (host := "") (Or.inl (w50 hw)) Via.refl F5t E4t (Or.inl (w51 hw)) (w38 hw) pTo rfl rfl nf ?_
  intro y1 W1
  have Kq2 := Kq1.wr W1 (Or.inl (by simp))
  have O11t := O3t.wr W1 nf
  have E12t := E4t.wr W1
  have F13t := F5t.same W1
  have F14t := F6t.nxt W1 (Or.inl (w54 hw)) (Or.inl (w51 hw)) (by decide) pTi pTo
  have F15t := F7t.nxt W1 (Or.inl (w56 hw)) (Or.inl (w51 hw)) (by decide) pTo pTo
  have F16t := F8t.nxt W1 (Or.inl (w58 hw)) (Or.inl (w51 hw)) (by decide) pTi pTo
  have F17t := F9t.nxt W1 (Or.inl (w60 hw)) (Or.inl (w51 hw)) (by decide) pTn pTo
  have F18t := F10t.nxt W1 (Or.inl (w62 hw)) (Or.inl (w51 hw)) (by decide) pTn pTo
  have A19t := A1.other W1 (Ne.symm ne1t)
  refine Go.aloadN d8_8 (q := 9) rfl rfl rfl ?_
  refine Go.iloadN d8_9 (q := 10) rfl rfl ?_
  refine Go.newarray (cap := 16) d8_10 (q := 12) rfl (w52 hw) (by decide) (by decide) (by decide) (by decide) (by decide) ?_
  intro x2 a2 k2 e2 X2 A2
  have Kq3 := Kq2.ext X2
  have ne20t : f ≠ a2 := new_ne E12t.lt e2
  have ne21t : a1 ≠ a2 := new_ne A19t.lt e2
  have nl22t : n0 ≤ a2 := new_le (O11t.1 ▸ O11t.2.1) e2
  have O23t := O11t.ext X2
  have E24t := E12t.ext X2
  have F25t := F13t.ext X2
  have F26t := F14t.ext X2
  have F27t := F15t.ext X2
  have F28t := F16t.ext X2
  have F29t := F17t.ext X2
  have F30t := F18t.ext X2
  have A31t := A19t.ext X2
  refine Go.putF d8_12 (q := 15) rfl (host := "") (Or.inl (w53 hw)) Via.refl F26t E24t (Or.inl (w54 hw)) (w38 hw) pTi rfl rfl nf ?_
  intro y2 W2
  have Kq4 := Kq3.wr W2 (Or.inl (by simp))
  have O32t := O23t.wr W2 nf
  have E33t := E24t.wr W2
  have F34t := F25t.nxt W2 (Or.inl (w51 hw)) (Or.inl (w54 hw)) (by decide) pTo pTi
  have F35t := F26t.same W2
  have F36t := F27t.nxt W2 (Or.inl (w56 hw)) (Or.inl (w54 hw)) (by decide) pTo pTi
  have F37t := F28t.nxt W2 (Or.inl (w58 hw)) (Or.inl (w54 hw)) (by decide) pTi pTi
  have F38t := F29t.nxt W2 (Or.inl (w60 hw)) (Or.inl (w54 hw)) (by decide) pTn pTi
  have F39t := F30t.nxt W2 (Or.inl (w62 hw)) (Or.inl (w54 hw)) (by decide) pTn pTi
  have A40t := A31t.other W2 (Ne.symm ne1t)
  have A41t := A2.other W2 (Ne.symm ne20t)
  refine Go.aloadN d8_15 (q := 16) rfl rfl rfl ?_
  refine Go.iloadN d8_16 (q := 17) rfl rfl ?_
  refine Go.anewarray (cap := 16) d8_17 (q := 20) rfl (w48 hw) (w49 hw) (by decide) (by decide) (by decide) (by decide) (by decide) ?_
  intro x3 a3 k3 e3 X3 A3 V3
  have Kq5 := Kq4.ext X3
  have ne42t : f ≠ a3 := new_ne E33t.lt e3
  have ne43t : a1 ≠ a3 := new_ne A40t.lt e3
  have ne44t : a2 ≠ a3 := new_ne A41t.lt e3
  have nl45t : n0 ≤ a3 := new_le (O32t.1 ▸ O32t.2.1) e3
  have O46t := O32t.ext X3
  have E47t := E33t.ext X3
  have F48t := F34t.ext X3
  have F49t := F35t.ext X3
  have F50t := F36t.ext X3
  have F51t := F37t.ext X3
  have F52t := F38t.ext X3
  have F53t := F39t.ext X3
  have A54t := A40t.ext X3
  have A55t := A41t.ext X3
  refine Go.putF d8_20 (q := 23) rfl (host := "") (Or.inl (w55 hw)) Via.refl F50t E47t (Or.inl (w56 hw)) (w38 hw) pTo rfl rfl nf ?_
  intro y3 W3
  have Kq6 := Kq5.wr W3 (Or.inl (by simp))
  have O56t := O46t.wr W3 nf
  have E57t := E47t.wr W3
  have F58t := F48t.nxt W3 (Or.inl (w51 hw)) (Or.inl (w56 hw)) (by decide) pTo pTo
  have F59t := F49t.nxt W3 (Or.inl (w54 hw)) (Or.inl (w56 hw)) (by decide) pTi pTo
  have F60t := F50t.same W3
  have F61t := F51t.nxt W3 (Or.inl (w58 hw)) (Or.inl (w56 hw)) (by decide) pTi pTo
  have F62t := F52t.nxt W3 (Or.inl (w60 hw)) (Or.inl (w56 hw)) (by decide) pTn pTo
  have F63t := F53t.nxt W3 (Or.inl (w62 hw)) (Or.inl (w56 hw)) (by decide) pTn pTo
  have A64t := A54t.other W3 (Ne.symm ne1t)
  have A65t := A55t.other W3 (Ne.symm ne20t)
  have A66t := A3.other W3 (Ne.symm ne42t)
  refine Go.aloadN d8_23 (q := 24) rfl rfl rfl ?_
  refine Go.iloadN d8_24 (q := 25) rfl rfl ?_
  refine Go.newarray (cap := 16) d8_25 (q := 27) rfl (w52 hw) (by decide) (by decide) (by decide) (by decide) (by decide) ?_
  intro x4 a4 k4 e4 X4 A4
  have Kq7 := Kq6.ext X4
  have ne67t : f ≠ a4 := new_ne E57t.lt e4
  have ne68t : a1 ≠ a4 := new_ne A64t.lt e4
  have ne69t : a2 ≠ a4 := new_ne A65t.lt e4
  have ne70t : a3 ≠ a4 := new_ne A66t.lt e4
  have nl71t : n0 ≤ a4 := new_le (O56t.1 ▸ O56t.2.1) e4
  have O72t := O56t.ext X4
  have E73t := E57t.ext X4
  have F74t := F58t.ext X4
  have F75t := F59t.ext X4
  have F76t := F60t.ext X4
  have F77t := F61t.ext X4
  have F78t := F62t.ext X4
  have F79t := F63t.ext X4
  have A80t := A64t.ext X4
  have A81t := A65t.ext X4
  have A82t := A66t.ext X4
  refine Go.putF d8_27 (q := 30) rfl (host := "") (Or.inl (w57 hw)) Via.refl F77t E73t (Or.inl (w58 hw)) (w38 hw) pTi rfl rfl nf ?_
  intro y4 W4
  have Kq8 := Kq7.wr W4 (Or.inl (by simp))
  have O83t := O72t.wr W4 nf
  have E84t := E73t.wr W4
  have F85t := F74t.nxt W4 (Or.inl (w51 hw)) (Or.inl (w58 hw)) (by decide) pTo pTi
  have F86t := F75t.nxt W4 (Or.inl (w54 hw)) (Or.inl (w58 hw)) (by decide) pTi pTi
  have F87t := F76t.nxt W4 (Or.inl (w56 hw)) (Or.inl (w58 hw)) (by decide) pTo pTi
  have F88t := F77t.same W4
  have F89t := F78t.nxt W4 (Or.inl (w60 hw)) (Or.inl (w58 hw)) (by decide) pTn pTi
  have F90t := F79t.nxt W4 (Or.inl (w62 hw)) (Or.inl (w58 hw)) (by decide) pTn pTi
  have A91t := A80t.other W4 (Ne.symm ne1t)
  have A92t := A81t.other W4 (Ne.symm ne20t)
  have A93t := A82t.other W4 (Ne.symm ne42t)
  have A94t := A4.other W4 (Ne.symm ne67t)
  refine Go.aloadN d8_30 (q := 31) rfl rfl rfl ?_
  refine Go.iconst d8_31 (q := 32) rfl (x := (0 : Int32)) (by decide) ?_
  refine Go.putF d8_32 (q := 35) rfl (host := "") (Or.inl (w59 hw)) Via.refl F89t E84t (Or.inl (w60 hw)) (w38 hw) pTn rfl rfl nf ?_
  intro y5 W5
  have Kq9 := Kq8.wr W5 (Or.inl (by simp))
  have O95t := O83t.wr W5 nf
  have E96t := E84t.wr W5
  have F97t := F85t.nxt W5 (Or.inl (w51 hw)) (Or.inl (w60 hw)) (by decide) pTo pTn
  have F98t := F86t.nxt W5 (Or.inl (w54 hw)) (Or.inl (w60 hw)) (by decide) pTi pTn
  have F99t := F87t.nxt W5 (Or.inl (w56 hw)) (Or.inl (w60 hw)) (by decide) pTo pTn
  have F100t := F88t.nxt W5 (Or.inl (w58 hw)) (Or.inl (w60 hw)) (by decide) pTi pTn
  have F101t := F89t.same W5
  have F102t := F90t.nxt W5 (Or.inl (w62 hw)) (Or.inl (w60 hw)) (by decide) pTn pTn
  have A103t := A91t.other W5 (Ne.symm ne1t)
  have A104t := A92t.other W5 (Ne.symm ne20t)
  have A105t := A93t.other W5 (Ne.symm ne42t)
  have A106t := A94t.other W5 (Ne.symm ne67t)
  refine Go.aloadN d8_35 (q := 36) rfl rfl rfl ?_
  refine Go.iconst d8_36 (q := 37) rfl (x := (0 : Int32)) (by decide) ?_
  refine Go.putF d8_37 (q := 40) rfl (host := "") (Or.inl (w61 hw)) Via.refl F102t E96t (Or.inl (w62 hw)) (w38 hw) pTn rfl rfl nf ?_
  intro y6 W6
  have Kq10 := Kq9.wr W6 (Or.inl (by simp))
  have O107t := O95t.wr W6 nf
  have E108t := E96t.wr W6
  have F109t := F97t.nxt W6 (Or.inl (w51 hw)) (Or.inl (w62 hw)) (by decide) pTo pTn
  have F110t := F98t.nxt W6 (Or.inl (w54 hw)) (Or.inl (w62 hw)) (by decide) pTi pTn
  have F111t := F99t.nxt W6 (Or.inl (w56 hw)) (Or.inl (w62 hw)) (by decide) pTo pTn
  have F112t := F100t.nxt W6 (Or.inl (w58 hw)) (Or.inl (w62 hw)) (by decide) pTi pTn
  have F113t := F101t.nxt W6 (Or.inl (w60 hw)) (Or.inl (w62 hw)) (by decide) pTn pTn
  have F114t := F102t.same W6
  have A115t := A103t.other W6 (Ne.symm ne1t)
  have A116t := A104t.other W6 (Ne.symm ne20t)
  have A117t := A105t.other W6 (Ne.symm ne42t)
  have A118t := A106t.other W6 (Ne.symm ne67t)
  refine Go.vreturn d8_40 (by decide) (by decide) ?_
  refine hQ _ a1 a2 a3 a4 k1 k2 k3 k4 ⟨⟨O107t, E108t⟩, ⟨nf, nl2t, nl22t, nl45t, nl71t⟩, ⟨ne1t, ne20t, ne42t, ne67t, ne21t, ne43t, ne68t, ne44t, ne69t, ne70t⟩, ⟨F109t, F110t, F111t, F112t, F113t, F114t⟩, ⟨A115t, V1⟩, A116t, ⟨A117t, V3⟩, A118t, rfl, rfl, rfl, rfl⟩ Kq10
set_option maxRecDepth 65536 in
set_option maxHeartbeats 40000000 in
theorem fr_init (l : Launch) (Z : State) (a0 : Array Value) (hw : Hw a0 Z) (n0 : Nat) (h : Heap) (O : Old Z n0 h) (f : Addr) (nf : n0 ≤ f) (E : Exa Z h f FRC) (F1 : Fld Z h f FRC "nodes" "[Ljava/lang/Object;" .null) (F2 : Fld Z h f FRC "depths" "[I" .null) (F3 : Fld Z h f FRC "marks" "[Ljava/lang/Object;" .null) (F4 : Fld Z h f FRC "indexes" "[I" .null) (F5 : Fld Z h f FRC "head" "I" (.int 0)) (F6 : Fld Z h f FRC "tail" "I" (.int 0)) {Q : Option Value → Heap → Prop} (hQ : ∀ h' a1 a2 a3 a4 k1 k2 k3 k4, FR Z h' n0 f a1 a2 a3 a4 k1 k2 k3 k4 0 0 (List.replicate 16 Value.null) (List.replicate 16 (Value.int 0)) (List.replicate 16 Value.null) (List.replicate 16 (Value.int 0)) → Keep h h' [f] → Q none h') :
    Go l Z (⟨"com/example/limbstride/limbstride/Frontier", "<init>", "()V"⟩ : MethodName) prog_9_method_1_code 1 none ({ frames := 1, cells := 4, slots := 64, locals := 13 } : Room) n0 Q h 0 0 0 #[.val (.ref f)] [] := by
  refine Go.aloadN d7_0 (q := 1) rfl rfl rfl ?_
  refine Go.initObj d7_1 (q := 4) rfl (w43 hw) (w19 hw) (w20 hw) rfl (by decide) rfl (by decide) ?_
  refine Go.aloadN d7_4 (q := 5) rfl rfl rfl ?_
  refine Go.bipush d7_5 (q := 7) rfl (x := (16 : Int32)) (by decide) ?_
  refine Go.callPN (P := fun h' => ∃ a1 a2 a3 a4 k1 k2 k3 k4, FR Z h' n0 f a1 a2 a3 a4 k1 k2 k3 k4 0 0 (List.replicate 16 Value.null) (List.replicate 16 (Value.int 0)) (List.replicate 16 Value.null) (List.replicate 16 (Value.int 0)) ∧ Keep h h' [f]) (argsL := [(.int (16 : Int32))]) (rest := []) (wd := 0) (Ls1 := #[.val (.ref f), .val (.int (16 : Int32))]) d7_7 (q := 10) rfl (w44 hw) (w46 hw) (w66 hw) rfl (w45 hw) (w47 hw) (w39 hw) (by decide) pn8 pd8 rfl rfl E (fun m_ => by simp [entryFrame, mkF, argsToLocals, Value.category]) rfl (by decide) rfl (by decide) (by decide) (by decide) (fr_alloc l Z a0 hw n0 h O f nf E F1 F2 F3 F4 F5 F6 (Q := RN (fun h' => ∃ a1 a2 a3 a4 k1 k2 k3 k4, FR Z h' n0 f a1 a2 a3 a4 k1 k2 k3 k4 0 0 (List.replicate 16 Value.null) (List.replicate 16 (Value.int 0)) (List.replicate 16 Value.null) (List.replicate 16 (Value.int 0)) ∧ Keep h h' [f])) (fun h' a1 a2 a3 a4 k1 k2 k3 k4 q kq => ⟨rfl, a1, a2, a3, a4, k1, k2, k3, k4, q, kq⟩)) ?_
  rintro h1 ⟨a1, a2, a3, a4, k1, k2, k3, k4, S, Kq⟩
  refine Go.vreturn d7_10 (by decide) (by decide) ?_
  exact hQ _ _ _ _ _ _ _ _ _ S Kq
/-- an Integer of value v -/
def BX (Z : State) (h : Heap) (b : Addr) (v : Int32) : Prop := Exa Z h b "java/lang/Integer" ∧ Fld Z h b "java/lang/Integer" "value" "I" (.int v)
theorem BX.ext {Z : State} {h h' : Heap} {b : Addr} {v : Int32} (B : BX Z h b v) (E : Ext h h') : BX Z h' b v := ⟨B.1.ext E, B.2.ext E⟩
theorem BX.keep {Z : State} {h h' : Heap} {b : Addr} {v : Int32} {ws : List Addr} (B : BX Z h b v) (K : Keep h h' ws) (q : b ∉ ws) : BX Z h' b v := ⟨B.1.keep K, B.2.keep K q⟩
theorem ext_of_keep {h h' : Heap} (K : Keep h h' []) : Ext h h' := ⟨K.1, fun a c q => K.2.1 a c q (by simp)⟩
theorem pTn' : parseFieldDescriptor "I" = some .int := by decide +kernel
set_option maxRecDepth 65536 in
set_option maxHeartbeats 40000000 in
theorem num_init (l : Launch) (Z : State) (a0 : Array Value) (hw : Hw a0 Z) (n0 : Nat) (h : Heap) (o : Addr) {Q : Option Value → Heap → Prop} (hQ : Q none h) :
    Go l Z (⟨"java/lang/Number", "<init>", "()V"⟩ : MethodName) jdk_18_method_1_code 1 none ({ frames := 1, cells := 0, slots := 0, locals := 13 } : Room) n0 Q h 0 0 0 #[.val (.ref o)] [] := by
  refine Go.aloadN d22_0 (q := 1) rfl rfl rfl ?_
  refine Go.initObj d22_1 (q := 4) rfl (w140 hw) (w19 hw) (w20 hw) rfl (by decide) rfl (by decide) ?_
  refine Go.vreturn d22_4 (by decide) (by decide) ?_
  exact hQ
set_option maxRecDepth 65536 in
set_option maxHeartbeats 40000000 in
theorem int_init (l : Launch) (Z : State) (a0 : Array Value) (hw : Hw a0 Z) (n0 : Nat) (h : Heap) (b : Addr) (v : Int32) (nb : n0 ≤ b) (E : Exa Z h b "java/lang/Integer") (Fv : Fld Z h b "java/lang/Integer" "value" "I" (.int 0)) {Q : Option Value → Heap → Prop} (hQ : ∀ h', Keep h h' [b] → BX Z h' b v → Q none h') :
    Go l Z (⟨"java/lang/Integer", "<init>", "(I)V"⟩ : MethodName) jdk_33_method_23_code 2 none ({ frames := 2, cells := 0, slots := 0, locals := 30 } : Room) n0 Q h 0 0 0 #[.val (.ref b), .val (.int v)] [] := by
  refine Go.aloadN d21_0 (q := 1) rfl rfl rfl ?_
  refine Go.callIN (P := fun h' => h = h') (argsL := []) (rest := []) (wd := 0) (Ls1 := #[.val (.ref b)]) d21_1 (q := 4) rfl rfl (w134 hw) (w135 hw) (w138 hw) (w139 hw) (by decide) pn22 pd22 rfl rfl (fun m_ => by simp [entryFrame, mkF, argsToLocals, Value.category]) rfl (by decide) rfl (by decide) (by decide) (by decide) (num_init l Z a0 hw n0 h b (Q := RN (fun h' => h = h')) ⟨rfl, rfl⟩) ?_
  rintro _ rfl
  refine Go.aloadN d21_4 (q := 5) rfl rfl rfl ?_
  refine Go.iloadN d21_5 (q := 6) rfl rfl ?_
  refine Go.putF d21_6 (q := 9) rfl (host := "") (Or.inl (w112 hw)) Via.refl Fv E (Or.inr ⟨(w113 hw), rfl, rfl⟩) (w130 hw) pTn' rfl rfl nb ?_
  intro h1 W1
  refine Go.vreturn d21_9 (by decide) (by decide) ?_
  exact hQ _ (Keep.of_wr W1) ⟨E.wr W1, Fv.same W1⟩
theorem cache_ix {v : Int32} (c1 : ¬ v < -128) (c2 : ¬ (127 : Int32) < v) : (¬ (v + 128) < 0 ∧ (v + 128).toNatClampNeg < 256) ∧ (v + 128).toNatClampNeg.toInt32 - 128 = v := by
  have e := c_iadd v 128
  have r := rng32 (v + 128)
  have e1 : (128 : Int32).toInt = 128 := rfl
  have e2 : (-128 : Int32).toInt = -128 := rfl
  have e3 : (127 : Int32).toInt = 127 := rfl
  rw [Int32.lt_iff_toInt_lt] at c1 c2
  have n : ¬ (v + 128) < 0 := nonneg_iff.mpr (by omega)
  refine ⟨⟨n, by show (v + 128).toInt.toNat < 256; omega⟩, ?_⟩
  have b : (v + 128).toNatClampNeg.toInt32 = v + 128 := (back32 n).1
  rw [b]
  rw [← Int32.toInt_inj]
  have e' := c_isub (v + 128) 128
  have r' := rng32 ((v + 128) - 128)
  have r2 := rng32 v
  omega
set_option maxRecDepth 65536 in
set_option maxHeartbeats 40000000 in
theorem valueOf (l : Launch) (Z : State) (a0 : Array Value) (hw : Hw a0 Z) (n0 : Nat) (h : Heap) (O : Old Z n0 h) (v : Int32) (a_LINKED a_ASK a_FINISH a_cache a_dce : Addr) (k_cache : ClassId) (vs_cache : List Value) (F : Facts Z a_LINKED a_ASK a_FINISH a_cache a_dce k_cache vs_cache) {Q : Option Value → Heap → Prop} (hQ : ∀ b h', Ext h h' → BX Z h' b v → Q (some (.ref b)) h') :
    Go l Z (⟨"java/lang/Integer", "valueOf", "(I)Ljava/lang/Integer;"⟩ : MethodName) jdk_33_method_22_code 1 (some (.object "java/lang/Integer")) ({ frames := 3, cells := 1, slots := 1, locals := 48 } : Room) n0 Q h 0 0 0 #[.val (.int v)] [] := by
  refine Go.iloadN d6_0 (q := 1) rfl rfl ?_
  refine Go.bipush d6_1 (q := 3) rfl (x := ((-128) : Int32)) (by decide) ?_
  refine Go.icmp_lt d6_3 (q := 23) (q' := 6) (by decide) rfl rfl (fun c3 => ?_) (fun c3 => ?_)
  · skip
    refine Go.new d6_23 (q := 26) rfl (w129 hw) (w130 hw) (w32 hw) (by decide) (by decide) ?_
    intro h1 b e1 X1 E1 D1
    have nb : n0 ≤ b := by rw [e1]; exact O.1 ▸ O.2.1
    refine Go.dup d6_26 (q := 27) rfl rfl ?_
    refine Go.iloadN d6_27 (q := 28) rfl rfl ?_
    refine Go.callIN (P := fun h' => Keep h1 h' [b] ∧ BX Z h' b v) (argsL := [(.int v)]) (rest := [(.ref b)]) (wd := 1) (Ls1 := #[.val (.ref b), .val (.int v)]) d6_28 (q := 31) rfl rfl (w131 hw) (w132 hw) (w32 hw) (w133 hw) (by decide) pn21 pd21 rfl rfl (fun m_ => by simp [entryFrame, mkF, argsToLocals, Value.category]) rfl (by decide) rfl (by decide) (by decide) (by decide) (int_init l Z a0 hw n0 h1 b v nb E1 (D1 (Or.inr (w113 hw)) pTn') (Q := RN (fun h' => Keep h1 h' [b] ∧ BX Z h' b v)) (fun h' q1 q2 => ⟨rfl, q1, q2⟩)) ?_
    rintro h2 ⟨K2, B2⟩
    refine Go.areturn d6_31 (by decide) (by decide) rfl rfl ?_
    exact hQ b h2 (ext_of_keep (((Keep.refl h []).ext X1).trans K2 (fun y hy => by cases List.mem_singleton.mp hy; exact Or.inr (Nat.le_of_eq e1.symm)))) B2
  · skip
    refine Go.iloadN d6_6 (q := 7) rfl rfl ?_
    refine Go.getS d6_7 (q := 10) rfl (w34 hw) (F.S_high.ext O.2) ?_
    refine Go.icmp_gt d6_10 (q := 23) (q' := 13) (by decide) rfl rfl (fun c4 => ?_) (fun c4 => ?_)
    · skip
      refine Go.new d6_23 (q := 26) rfl (w129 hw) (w130 hw) (w32 hw) (by decide) (by decide) ?_
      intro h1 b e1 X1 E1 D1
      have nb : n0 ≤ b := by rw [e1]; exact O.1 ▸ O.2.1
      refine Go.dup d6_26 (q := 27) rfl rfl ?_
      refine Go.iloadN d6_27 (q := 28) rfl rfl ?_
      refine Go.callIN (P := fun h' => Keep h1 h' [b] ∧ BX Z h' b v) (argsL := [(.int v)]) (rest := [(.ref b)]) (wd := 1) (Ls1 := #[.val (.ref b), .val (.int v)]) d6_28 (q := 31) rfl rfl (w131 hw) (w132 hw) (w32 hw) (w133 hw) (by decide) pn21 pd21 rfl rfl (fun m_ => by simp [entryFrame, mkF, argsToLocals, Value.category]) rfl (by decide) rfl (by decide) (by decide) (by decide) (int_init l Z a0 hw n0 h1 b v nb E1 (D1 (Or.inr (w113 hw)) pTn') (Q := RN (fun h' => Keep h1 h' [b] ∧ BX Z h' b v)) (fun h' q1 q2 => ⟨rfl, q1, q2⟩)) ?_
      rintro h2 ⟨K2, B2⟩
      refine Go.areturn d6_31 (by decide) (by decide) rfl rfl ?_
      exact hQ b h2 (ext_of_keep (((Keep.refl h []).ext X1).trans K2 (fun y hy => by cases List.mem_singleton.mp hy; exact Or.inr (Nat.le_of_eq e1.symm)))) B2
    · skip
      refine Go.getS d6_13 (q := 16) rfl (w36 hw) (F.S_cache.ext O.2) ?_
      refine Go.iloadN d6_16 (q := 17) rfl rfl ?_
      refine Go.sipush d6_17 (q := 20) rfl (x := (128 : Int32)) (by decide) ?_
      refine Go.iadd d6_20 (q := 21) rfl ?_
      obtain ⟨hi, ev⟩ := cache_ix c3 c4
      obtain ⟨b, hb, Be, Bv⟩ := F.V_cache _ hi.2
      rw [ev] at Bv
      refine Go.aaload d6_21 (q := 22) rfl (F.A_cache.ext O.2) rfl hi.1 hb ?_
      refine Go.areturn d6_22 (by decide) (by decide) rfl rfl ?_
      exact hQ b h ⟨Nat.le_refl _, fun _ _ q => q⟩ (BX.ext ⟨Be, Bv⟩ O.2)
set_option maxRecDepth 65536 in
set_option maxHeartbeats 40000000 in
theorem intValue (l : Launch) (Z : State) (a0 : Array Value) (hw : Hw a0 Z) (n0 : Nat) (h : Heap) (b : Addr) (v : Int32) (B : BX Z h b v) {Q : Option Value → Heap → Prop} (hQ : Q (some (.int v)) h) :
    Go l Z (⟨"java/lang/Integer", "intValue", "()I"⟩ : MethodName) jdk_33_method_27_code 1 (some .int) ({ frames := 0, cells := 0, slots := 0, locals := 0 } : Room) n0 Q h 0 0 0 #[.val (.ref b)] [] := by
  refine Go.aloadN d17_0 (q := 1) rfl rfl rfl ?_
  refine Go.getF d17_1 (q := 4) rfl (host := "") (Or.inl (w112 hw)) Via.refl B.2 ?_
  refine Go.ireturn d17_4 (by decide) (by decide) ?_
  exact hQ
theorem cls_notin {Z : State} {h : Heap} {n0 : Nat} {a0 : Array Value} (hw : Hw a0 Z) {f a1 a2 a3 a4 : Addr} {k1 k2 k3 k4 : ClassId} {hd tl : Int32} {ns ds ms is : List Value} {b : Addr} {K : String} {k : Nat} (S : FR Z h n0 f a1 a2 a3 a4 k1 k2 k3 k4 hd tl ns ds ms is) (B : Exa Z h b K) (wi : (Jvm.Cond.instantiable K k).before a0 Z = true) (hn : K ≠ FRC) : b ∉ [f, a1, a2, a3, a4] := by
  simp only [List.mem_cons, List.not_mem_nil, or_false, not_or]
  exact ⟨ne_exa B S.1.2 hn, Ar.ne B wi S.2.2.2.2.1.1, Ar.ne B wi S.2.2.2.2.2.1, Ar.ne B wi S.2.2.2.2.2.2.1.1, Ar.ne B wi S.2.2.2.2.2.2.2.1⟩
theorem BX.ob {Z : State} {h : Heap} {a0 : Array Value} (hw : Hw a0 Z) {b : Addr} {v : Int32} (B : BX Z h b v) : Ob Z h (.ref b) := Or.inr ⟨b, rfl, Ins.of_exa B.1 (w68 hw)⟩
/-- a mark: null, one of the case's own, or the list -/
def Mk (Z : State) (o : Addr) (m : Value) : Prop := Ob Z Z.heap m ∨ m = .ref o
theorem Mk.isRef {Z : State} {o : Addr} {m : Value} (M : Mk Z o m) : m.isRef = true := by
  rcases M with M | rfl
  · exact M.isRef
  · rfl
theorem Mk.ob {Z : State} {h : Heap} {a0 : Array Value} (hw : Hw a0 Z) {o : Addr} {m : Value} (M : Mk Z o m) (E : Ext Z.heap h) (L : Exa Z h o "java/util/ArrayList") : Ob Z h m := by
  rcases M with M | rfl
  · exact M.ext E
  · exact Or.inr ⟨o, rfl, Ins.of_exa L (w93 hw)⟩
set_option maxRecDepth 65536 in
set_option maxHeartbeats 40000000 in
theorem ac_init (l : Launch) (Z : State) (a0 : Array Value) (hw : Hw a0 Z) (n0 : Nat) (h : Heap) (o : Addr) {Q : Option Value → Heap → Prop} (hQ : Q none h) :
    Go l Z (⟨"java/util/AbstractCollection", "<init>", "()V"⟩ : MethodName) jdk_22_method_1_code 1 none ({ frames := 1, cells := 0, slots := 0, locals := 13 } : Room) n0 Q h 0 0 0 #[.val (.ref o)] [] := by
  refine Go.aloadN d3_0 (q := 1) rfl rfl rfl ?_
  refine Go.initObj d3_1 (q := 4) rfl (w18 hw) (w19 hw) (w20 hw) rfl (by decide) rfl (by decide) ?_
  refine Go.vreturn d3_4 (by decide) (by decide) ?_
  exact hQ
set_option maxRecDepth 65536 in
set_option maxHeartbeats 40000000 in
theorem ab_init (l : Launch) (Z : State) (a0 : Array Value) (hw : Hw a0 Z) (n0 : Nat) (h : Heap) (o : Addr) (nb : n0 ≤ o) (E : Exa Z h o "java/util/ArrayList") (Fv : Fld Z h o "java/util/AbstractList" "modCount" "I" (.int 0)) {Q : Option Value → Heap → Prop} (hQ : ∀ h', Wr h h' o (RoadKit.slotOf Z "java/util/AbstractList" "modCount" "I") (.int 0) → Q none h') :
    Go l Z (⟨"java/util/AbstractList", "<init>", "()V"⟩ : MethodName) jdk_39_method_1_code 1 none ({ frames := 2, cells := 0, slots := 0, locals := 30 } : Room) n0 Q h 0 0 0 #[.val (.ref o)] [] := by
  refine Go.aloadN d2_0 (q := 1) rfl rfl rfl ?_
  refine Go.callIN (P := fun h' => h = h') (argsL := []) (rest := []) (wd := 0) (Ls1 := #[.val (.ref o)]) d2_1 (q := 4) rfl rfl (w12 hw) (w13 hw) (w16 hw) (w17 hw) (by decide) pn3 pd3 rfl rfl (fun m_ => by simp [entryFrame, mkF, argsToLocals, Value.category]) rfl (by decide) rfl (by decide) (by decide) (by decide) (ac_init l Z a0 hw n0 h o (Q := RN (fun h' => h = h')) ⟨rfl, rfl⟩) ?_
  rintro _ rfl
  refine Go.aloadN d2_4 (q := 5) rfl rfl rfl ?_
  refine Go.iconst d2_5 (q := 6) rfl (x := (0 : Int32)) (by decide) ?_
  refine Go.putF d2_6 (q := 9) rfl (host := "") (Or.inl (w21 hw)) Via.refl Fv E (Or.inl (w22 hw)) (w1 hw) pTn rfl rfl nb ?_
  intro h1 W1
  refine Go.vreturn d2_9 (by decide) (by decide) ?_
  exact hQ _ W1
set_option maxRecDepth 65536 in
set_option maxHeartbeats 40000000 in
theorem al_init (l : Launch) (Z : State) (a0 : Array Value) (hw : Hw a0 Z) (n0 : Nat) (h : Heap) (O : Old Z n0 h) (o : Addr) (nb : n0 ≤ o) (E : Exa Z h o "java/util/ArrayList") (Fm : Fld Z h o "java/util/AbstractList" "modCount" "I" (.int 0)) (Fe : Fld Z h o "java/util/ArrayList" "elementData" "[Ljava/lang/Object;" .null) (a_LINKED a_ASK a_FINISH a_cache a_dce : Addr) (k_cache : ClassId) (vs_cache : List Value) (F : Facts Z a_LINKED a_ASK a_FINISH a_cache a_dce k_cache vs_cache) {Q : Option Value → Heap → Prop} (hQ : ∀ h', Old Z n0 h' → Exa Z h' o "java/util/ArrayList" → Q none h') :
    Go l Z (⟨"java/util/ArrayList", "<init>", "()V"⟩ : MethodName) jdk_38_method_2_code 1 none ({ frames := 3, cells := 0, slots := 0, locals := 48 } : Room) n0 Q h 0 0 0 #[.val (.ref o)] [] := by
  refine Go.aloadN d1_0 (q := 1) rfl rfl rfl ?_
  refine Go.callIN (P := fun h' => Wr h h' o (RoadKit.slotOf Z "java/util/AbstractList" "modCount" "I") (.int 0)) (argsL := []) (rest := []) (wd := 0) (Ls1 := #[.val (.ref o)]) d1_1 (q := 4) rfl rfl (w6 hw) (w7 hw) (w10 hw) (w11 hw) (by decide) pn2 pd2 rfl rfl (fun m_ => by simp [entryFrame, mkF, argsToLocals, Value.category]) rfl (by decide) rfl (by decide) (by decide) (by decide) (ab_init l Z a0 hw n0 h o nb E Fm (Q := RN (fun h' => Wr h h' o (RoadKit.slotOf Z "java/util/AbstractList" "modCount" "I") (.int 0))) (fun h' q => ⟨rfl, q⟩)) ?_
  intro h1 W1
  have Fe1 := Fe.other W1 (Or.inr (RoadKit.slot_ne (Or.inl (w25 hw)) (Or.inl (w22 hw)) (by decide) pTo pTn))
  have E1 := E.wr W1
  have O1 := O.wr W1 nb
  refine Go.aloadN d1_4 (q := 5) rfl rfl rfl ?_
  refine Go.getS d1_5 (q := 8) rfl (w23 hw) (F.S_dce.ext O1.2) ?_
  refine Go.putF d1_8 (q := 11) rfl (host := "") (Or.inl (w24 hw)) Via.refl Fe1 E1 (Or.inl (w25 hw)) (w1 hw) pTo rfl rfl nb ?_
  intro h2 W2
  refine Go.vreturn d1_11 (by decide) (by decide) ?_
  exact hQ _ (O1.wr W2 nb) (E1.wr W2)
set_option maxRecDepth 65536 in
set_option maxHeartbeats 40000000 in
theorem markOf (l : Launch) (Z : State) (a0 : Array Value) (hw : Hw a0 Z) (n0 : Nat) (h : Heap) (O : Old Z n0 h) (k : Int32) (o : Addr) (a_LINKED a_ASK a_FINISH a_cache a_dce : Addr) (k_cache : ClassId) (vs_cache : List Value) (F : Facts Z a_LINKED a_ASK a_FINISH a_cache a_dce k_cache vs_cache) {Q : Option Value → Heap → Prop} (hQ : ∀ m, Mk Z o m → Q (some m) h) :
    Go l Z (⟨"com/example/limbstride/limbstride/FrontierPopFrontPinLaw", "markOf", "(ILjava/lang/Object;)Ljava/lang/Object;"⟩ : MethodName) method_2_code 2 (some (.object "java/lang/Object")) ({ frames := 0, cells := 0, slots := 0, locals := 0 } : Room) n0 Q h 0 0 0 #[.val (.int k), .val (.ref o)] [] := by
  refine Go.iloadN d5_0 (q := 1) rfl rfl ?_
  refine Go.iconst d5_1 (q := 2) rfl (x := (1 : Int32)) (by decide) ?_
  refine Go.icmp_ne d5_2 (q := 9) (q' := 5) (by decide) rfl rfl (fun c5 => ?_) (fun c5 => ?_)
  · skip
    refine Go.iloadN d5_9 (q := 10) rfl rfl ?_
    refine Go.iconst d5_10 (q := 11) rfl (x := (2 : Int32)) (by decide) ?_
    refine Go.icmp_ne d5_11 (q := 18) (q' := 14) (by decide) rfl rfl (fun c6 => ?_) (fun c6 => ?_)
    · skip
      refine Go.iloadN d5_18 (q := 19) rfl rfl ?_
      refine Go.iconst d5_19 (q := 20) rfl (x := (3 : Int32)) (by decide) ?_
      refine Go.icmp_ne d5_20 (q := 27) (q' := 23) (by decide) rfl rfl (fun c7 => ?_) (fun c7 => ?_)
      · skip
        refine Go.iloadN d5_27 (q := 28) rfl rfl ?_
        refine Go.iconst d5_28 (q := 29) rfl (x := (4 : Int32)) (by decide) ?_
        refine Go.icmp_ne d5_29 (q := 34) (q' := 32) (by decide) rfl rfl (fun c8 => ?_) (fun c8 => ?_)
        · skip
          refine Go.aconstNull d5_34 (q := 35) rfl ?_
          refine Go.areturn d5_35 (by decide) (by decide) rfl rfl ?_
          exact hQ _ (Or.inl (Or.inl rfl))
        · skip
          refine Go.aloadN d5_32 (q := 33) rfl rfl rfl ?_
          refine Go.areturn d5_33 (by decide) (by decide) rfl rfl ?_
          exact hQ _ (Or.inr rfl)
      · skip
        refine Go.getS d5_23 (q := 26) rfl (w94 hw) (F.S_LINKED.ext O.2) ?_
        refine Go.areturn d5_26 (by decide) (by decide) rfl rfl ?_
        exact hQ _ (Or.inl (Or.inr ⟨_, rfl, Ins.self F.E_LINKED⟩))
    · skip
      refine Go.getS d5_14 (q := 17) rfl (w148 hw) (F.S_FINISH.ext O.2) ?_
      refine Go.areturn d5_17 (by decide) (by decide) rfl rfl ?_
      exact hQ _ (Or.inl (Or.inr ⟨_, rfl, Ins.self F.E_FINISH⟩))
  · skip
    refine Go.getS d5_5 (q := 8) rfl (w146 hw) (F.S_ASK.ext O.2) ?_
    refine Go.areturn d5_8 (by decide) (by decide) rfl rfl ?_
    exact hQ _ (Or.inl (Or.inr ⟨_, rfl, Ins.self F.E_ASK⟩))
set_option maxRecDepth 65536 in
set_option maxHeartbeats 40000000 in
theorem holds (l : Launch) (Z : State) (a0 : Array Value) (hw : Hw a0 Z) (n0 : Nat) (h : Heap) (b : Addr) (v : Int32) (B : BX Z h b v) {Q : Option Value → Heap → Prop} (hQ : Q (some (.int 1)) h) :
    Go l Z (⟨"com/example/limbstride/limbstride/FrontierPopFrontPinLaw", "holds", "(Ljava/lang/Integer;I)Z"⟩ : MethodName) method_3_code 2 (some .boolean) ({ frames := 1, cells := 0, slots := 0, locals := 14 } : Room) n0 Q h 0 0 0 #[.val (.ref b), .val (.int v)] [] := by
  refine Go.aloadN d16_0 (q := 1) rfl rfl rfl ?_
  refine Go.ifnull d16_1 (q := 16) (q' := 4) (by decide) rfl rfl rfl (fun e => by cases e) (fun _ _ => ?_)
  refine Go.aloadN d16_4 (q := 5) rfl rfl rfl ?_
  refine Go.callVV (P := fun w h' => w = .int v ∧ h = h') (argsL := []) (rest := []) (wd := 0) (Ls1 := #[.val (.ref b)]) d16_5 (q := 8) rfl (w107 hw) (w108 hw) (w110 hw) (w109 hw) (w111 hw) (w32 hw) (by decide) pn17 pd17 rfl rfl B.1 (fun m_ => by simp [entryFrame, mkF, argsToLocals, Value.category]) rfl (by decide) rfl (by decide) (by decide) (by decide) (intValue l Z a0 hw n0 h b v B (Q := RV (fun w h' => w = .int v ∧ h = h')) ⟨_, rfl, rfl, rfl⟩) ?_
  rintro _ _ ⟨rfl, rfl⟩
  refine Go.iloadN d16_8 (q := 9) rfl rfl ?_
  refine Go.icmp_ne d16_9 (q := 16) (q' := 12) (by decide) rfl rfl (fun c_ => absurd rfl c_) (fun _ => ?_)
  refine Go.iconst d16_12 (q := 13) rfl (x := (1 : Int32)) (by decide) ?_
  refine Go.goto d16_13 (q := 17) (by decide) rfl ?_
  refine Go.zreturn d16_17 (by decide) (by decide) (by decide) ?_
  exact hQ
set_option maxRecDepth 65536 in
set_option maxHeartbeats 40000000 in
theorem tail00 (l : Launch) (Z : State) (a0 : Array Value) (hw : Hw a0 Z) (n0 : Nat) (h : Heap) (O : Old Z n0 h) (mo nd dA dB iA iB : Int32) (o : Addr) (L : Exa Z h o "java/util/ArrayList") (mA mB : Value) (MA : Mk Z o mA) (MB : Mk Z o mB) (a_LINKED a_ASK a_FINISH a_cache a_dce : Addr) (k_cache : ClassId) (vs_cache : List Value) (F : Facts Z a_LINKED a_ASK a_FINISH a_cache a_dce k_cache vs_cache) :
    Go l Z x code maxLocals ret room_1 n0 (fun v _ => v = some (.int 1)) h 1 3 65 #[.val (.int mo), .val (.int nd), .val (.int dA), .val (.int dB), .val (.int iA), .val (.int iB), .val (.ref o), .val mA, .val mB, .val (.int (0 : Int32)), .val (.int (0 : Int32)), .unset, .unset, .unset, .unset] [] := by
  refine Go.iloadN at_65 (q := 66) rfl rfl ?_
  refine Go.callSV (P := fun w h' => ∃ b, w = .ref b ∧ Ext h h' ∧ BX Z h' b nd) (argsL := [(.int nd)]) (rest := []) (wd := 0) (Ls1 := #[.val (.int nd)]) at_66 (q := 69) rfl (w30 hw) (w31 hw) (w32 hw) (w33 hw) (by decide) pn6 pd6 rfl rfl (fun m_ => by simp [entryFrame, mkF, argsToLocals, Value.category]) rfl (by decide) rfl (by decide) (by decide) (by decide) (valueOf l Z a0 hw n0 h O nd a_LINKED a_ASK a_FINISH a_cache a_dce k_cache vs_cache F (Q := RV (fun w h' => ∃ b, w = .ref b ∧ Ext h h' ∧ BX Z h' b nd)) (fun b h' q1 q2 => ⟨_, rfl, b, rfl, q1, q2⟩)) ?_
  rintro _ v1h ⟨b1, rfl, Xv1h, Bb1⟩
  have Ov1h := O.ext Xv1h
  have L_v1 := L.ext Xv1h
  refine Go.astore at_69 (q := 71) rfl rfl (Ls' := #[.val (.int mo), .val (.int nd), .val (.int dA), .val (.int dB), .val (.int iA), .val (.int iB), .val (.ref o), .val mA, .val mB, .val (.int (0 : Int32)), .val (.int (0 : Int32)), .val (.ref b1), .unset, .unset, .unset]) rfl ?_
  refine Go.iloadN at_71 (q := 72) rfl rfl ?_
  refine Go.iconst at_72 (q := 73) rfl (x := ((-1) : Int32)) (by decide) ?_
  refine Go.ixor at_73 (q := 74) rfl ?_
  refine Go.callSV (P := fun w h' => ∃ b, w = .ref b ∧ Ext v1h h' ∧ BX Z h' b (nd ^^^ ((-1) : Int32))) (argsL := [(.int (nd ^^^ ((-1) : Int32)))]) (rest := []) (wd := 0) (Ls1 := #[.val (.int (nd ^^^ ((-1) : Int32)))]) at_74 (q := 77) rfl (w30 hw) (w31 hw) (w32 hw) (w33 hw) (by decide) pn6 pd6 rfl rfl (fun m_ => by simp [entryFrame, mkF, argsToLocals, Value.category]) rfl (by decide) rfl (by decide) (by decide) (by decide) (valueOf l Z a0 hw n0 v1h Ov1h (nd ^^^ ((-1) : Int32)) a_LINKED a_ASK a_FINISH a_cache a_dce k_cache vs_cache F (Q := RV (fun w h' => ∃ b, w = .ref b ∧ Ext v1h h' ∧ BX Z h' b (nd ^^^ ((-1) : Int32)))) (fun b h' q1 q2 => ⟨_, rfl, b, rfl, q1, q2⟩)) ?_
  rintro _ v2h ⟨b2, rfl, Xv2h, Bb2⟩
  have Ov2h := Ov1h.ext Xv2h
  have Bb1_v2 := Bb1.ext Xv2h
  have L_v1_v2 := L_v1.ext Xv2h
  refine Go.astore at_77 (q := 79) rfl rfl (Ls' := #[.val (.int mo), .val (.int nd), .val (.int dA), .val (.int dB), .val (.int iA), .val (.int iB), .val (.ref o), .val mA, .val mB, .val (.int (0 : Int32)), .val (.int (0 : Int32)), .val (.ref b1), .val (.ref b2), .unset, .unset]) rfl ?_
  refine Go.new at_79 (q := 82) rfl (w37 hw) (w38 hw) (w39 hw) (by decide) (by decide) ?_
  intro h1 f e1 X1 E1 D1
  have nf : n0 ≤ f := by rw [e1]; exact Ov2h.1 ▸ Ov2h.2.1
  have O1 := Ov2h.ext X1
  have Bb1_v2_f := Bb1_v2.ext X1
  have Bb2_f := Bb2.ext X1
  have L_v1_v2_f := L_v1_v2.ext X1
  refine Go.dup at_82 (q := 83) rfl rfl ?_
  refine Go.callIN (P := fun h' => (∃ a1 a2 a3 a4 k1 k2 k3 k4, FR Z h' n0 f a1 a2 a3 a4 k1 k2 k3 k4 (0 : Int32) (0 : Int32) [.null, .null, .null, .null, .null, .null, .null, .null, .null, .null, .null, .null, .null, .null, .null, .null] [(.int 0), (.int 0), (.int 0), (.int 0), (.int 0), (.int 0), (.int 0), (.int 0), (.int 0), (.int 0), (.int 0), (.int 0), (.int 0), (.int 0), (.int 0), (.int 0)] [.null, .null, .null, .null, .null, .null, .null, .null, .null, .null, .null, .null, .null, .null, .null, .null] [(.int 0), (.int 0), (.int 0), (.int 0), (.int 0), (.int 0), (.int 0), (.int 0), (.int 0), (.int 0), (.int 0), (.int 0), (.int 0), (.int 0), (.int 0), (.int 0)]) ∧ Keep h1 h' [f]) (argsL := []) (rest := [(.ref f)]) (wd := 1) (Ls1 := #[.val (.ref f)]) at_83 (q := 86) rfl rfl (w40 hw) (w41 hw) (w39 hw) (w42 hw) (by decide) pn7 pd7 rfl rfl (fun m_ => by simp [entryFrame, mkF, argsToLocals, Value.category]) rfl (by decide) rfl (by decide) (by decide) (by decide) (fr_init l Z a0 hw n0 h1 O1 f nf E1 (D1 (Or.inl (w51 hw)) pTo) (D1 (Or.inl (w54 hw)) pTi) (D1 (Or.inl (w56 hw)) pTo) (D1 (Or.inl (w58 hw)) pTi) (D1 (Or.inl (w60 hw)) pTn) (D1 (Or.inl (w62 hw)) pTn) (Q := RN (fun h' => (∃ a1 a2 a3 a4 k1 k2 k3 k4, FR Z h' n0 f a1 a2 a3 a4 k1 k2 k3 k4 (0 : Int32) (0 : Int32) [.null, .null, .null, .null, .null, .null, .null, .null, .null, .null, .null, .null, .null, .null, .null, .null] [(.int 0), (.int 0), (.int 0), (.int 0), (.int 0), (.int 0), (.int 0), (.int 0), (.int 0), (.int 0), (.int 0), (.int 0), (.int 0), (.int 0), (.int 0), (.int 0)] [.null, .null, .null, .null, .null, .null, .null, .null, .null, .null, .null, .null, .null, .null, .null, .null] [(.int 0), (.int 0), (.int 0), (.int 0), (.int 0), (.int 0), (.int 0), (.int 0), (.int 0), (.int 0), (.int 0), (.int 0), (.int 0), (.int 0), (.int 0), (.int 0)]) ∧ Keep h1 h' [f])) (fun h' a1 a2 a3 a4 k1 k2 k3 k4 q kq => ⟨rfl, ⟨a1, a2, a3, a4, k1, k2, k3, k4, q⟩, kq⟩)) ?_
  rintro i0 ⟨⟨a1, a2, a3, a4, k1, k2, k3, k4, S0⟩, K0⟩
  have Bb1_v2_f_i := Bb1_v2_f.keep K0 (by simpa using ne_exa Bb1_v2_f.1 E1 (by decide))
  have Bb2_f_i := Bb2_f.keep K0 (by simpa using ne_exa Bb2_f.1 E1 (by decide))
  have L_v1_v2_f_i := L_v1_v2_f.keep K0
  refine Go.astore at_86 (q := 88) rfl rfl (Ls' := #[.val (.int mo), .val (.int nd), .val (.int dA), .val (.int dB), .val (.int iA), .val (.int iB), .val (.ref o), .val mA, .val mB, .val (.int (0 : Int32)), .val (.int (0 : Int32)), .val (.ref b1), .val (.ref b2), .val (.ref f), .unset]) rfl ?_
  refine Go.iload at_88 (q := 90) rfl rfl ?_
  refine Go.if_eq at_90 (q := 125) (q' := 93) (by decide) rfl rfl (fun _ => ?_) (fun c_ => absurd (by decide) c_)
  refine Go.aload at_125 (q := 127) rfl rfl rfl ?_
  refine Go.aload at_127 (q := 129) rfl rfl (MA.isRef) ?_
  refine Go.aload at_129 (q := 131) rfl rfl rfl ?_
  refine Go.iloadN at_131 (q := 132) rfl rfl ?_
  refine Go.iload at_132 (q := 134) rfl rfl ?_
  refine Go.callVN (P := fun h' => FR Z h' n0 f a1 a2 a3 a4 k1 k2 k3 k4 (0 : Int32) (1 : Int32) [(.ref b1), .null, .null, .null, .null, .null, .null, .null, .null, .null, .null, .null, .null, .null, .null, .null] [(.int dA), (.int 0), (.int 0), (.int 0), (.int 0), (.int 0), (.int 0), (.int 0), (.int 0), (.int 0), (.int 0), (.int 0), (.int 0), (.int 0), (.int 0), (.int 0)] [mA, .null, .null, .null, .null, .null, .null, .null, .null, .null, .null, .null, .null, .null, .null, .null] [(.int iA), (.int 0), (.int 0), (.int 0), (.int 0), (.int 0), (.int 0), (.int 0), (.int 0), (.int 0), (.int 0), (.int 0), (.int 0), (.int 0), (.int 0), (.int 0)] ∧ Keep i0 h' [f, a1, a2, a3, a4]) (argsL := [mA, (.ref b1), (.int dA), (.int iA)]) (rest := []) (wd := 0) (Ls1 := #[.val (.ref f), .val mA, .val (.ref b1), .val (.int dA), .val (.int iA)]) at_134 (q := 137) rfl (w63 hw) (w64 hw) (w66 hw) (w65 hw) (w67 hw) (w39 hw) (by decide) pn9 pd9 rfl rfl S0.1.2 (fun m_ => by simp [entryFrame, mkF, argsToLocals, catI, catR, catN, catL, cat_ref (MA.isRef)]) rfl (by decide) rfl (by decide) (by decide) (by decide) (fr_pushMarkedBack l Z a0 hw n0 i0 mA (.ref b1) dA iA (by unfold R16; decide) (by unfold R16; decide) S0 (MA.ob hw S0.1.1.2 L_v1_v2_f_i) (BX.ob hw Bb1_v2_f_i) (by decide) (Q := RN (fun h' => FR Z h' n0 f a1 a2 a3 a4 k1 k2 k3 k4 (0 : Int32) (1 : Int32) [(.ref b1), .null, .null, .null, .null, .null, .null, .null, .null, .null, .null, .null, .null, .null, .null, .null] [(.int dA), (.int 0), (.int 0), (.int 0), (.int 0), (.int 0), (.int 0), (.int 0), (.int 0), (.int 0), (.int 0), (.int 0), (.int 0), (.int 0), (.int 0), (.int 0)] [mA, .null, .null, .null, .null, .null, .null, .null, .null, .null, .null, .null, .null, .null, .null, .null] [(.int iA), (.int 0), (.int 0), (.int 0), (.int 0), (.int 0), (.int 0), (.int 0), (.int 0), (.int 0), (.int 0), (.int 0), (.int 0), (.int 0), (.int 0), (.int 0)] ∧ Keep i0 h' [f, a1, a2, a3, a4])) (fun h' q kp => ⟨rfl, q, kp⟩)) ?_
  rintro g1 ⟨S1, K1⟩
  have Bb1_v2_f_i_g1 := Bb1_v2_f_i.keep K1 (cls_notin hw S0 Bb1_v2_f_i.1 (w130 hw) (by decide))
  have Bb2_f_i_g1 := Bb2_f_i.keep K1 (cls_notin hw S0 Bb2_f_i.1 (w130 hw) (by decide))
  have L_v1_v2_f_i_g1 := L_v1_v2_f_i.keep K1
  refine Go.iload at_137 (q := 139) rfl rfl ?_
  refine Go.if_eq at_139 (q := 154) (q' := 142) (by decide) rfl rfl (fun _ => ?_) (fun c_ => absurd (by decide) c_)
  refine Go.aload at_154 (q := 156) rfl rfl rfl ?_
  refine Go.callVN (P := fun h' => FR Z h' n0 f a1 a2 a3 a4 k1 k2 k3 k4 (1 : Int32) (1 : Int32) [.null, .null, .null, .null, .null, .null, .null, .null, .null, .null, .null, .null, .null, .null, .null, .null] [(.int dA), (.int 0), (.int 0), (.int 0), (.int 0), (.int 0), (.int 0), (.int 0), (.int 0), (.int 0), (.int 0), (.int 0), (.int 0), (.int 0), (.int 0), (.int 0)] [.null, .null, .null, .null, .null, .null, .null, .null, .null, .null, .null, .null, .null, .null, .null, .null] [(.int iA), (.int 0), (.int 0), (.int 0), (.int 0), (.int 0), (.int 0), (.int 0), (.int 0), (.int 0), (.int 0), (.int 0), (.int 0), (.int 0), (.int 0), (.int 0)] ∧ Keep g1 h' [f, a1, a2, a3, a4]) (argsL := []) (rest := []) (wd := 0) (Ls1 := #[.val (.ref f)]) at_156 (q := 159) rfl (w69 hw) (w70 hw) (w72 hw) (w71 hw) (w73 hw) (w39 hw) (by decide) pn10 pd10 rfl rfl S1.1.2 (fun m_ => by simp [entryFrame, mkF, argsToLocals, Value.category]) rfl (by decide) rfl (by decide) (by decide) (by decide) (fr_popFront l Z a0 hw n0 g1 (by unfold R16; decide) S1 (v := mA) rfl MA.isRef (Q := RN (fun h' => FR Z h' n0 f a1 a2 a3 a4 k1 k2 k3 k4 (1 : Int32) (1 : Int32) [.null, .null, .null, .null, .null, .null, .null, .null, .null, .null, .null, .null, .null, .null, .null, .null] [(.int dA), (.int 0), (.int 0), (.int 0), (.int 0), (.int 0), (.int 0), (.int 0), (.int 0), (.int 0), (.int 0), (.int 0), (.int 0), (.int 0), (.int 0), (.int 0)] [.null, .null, .null, .null, .null, .null, .null, .null, .null, .null, .null, .null, .null, .null, .null, .null] [(.int iA), (.int 0), (.int 0), (.int 0), (.int 0), (.int 0), (.int 0), (.int 0), (.int 0), (.int 0), (.int 0), (.int 0), (.int 0), (.int 0), (.int 0), (.int 0)] ∧ Keep g1 h' [f, a1, a2, a3, a4])) (fun h' q kp => ⟨rfl, q, kp⟩)) ?_
  rintro g2 ⟨S2, K2⟩
  have Bb1_v2_f_i_g1_g2 := Bb1_v2_f_i_g1.keep K2 (cls_notin hw S1 Bb1_v2_f_i_g1.1 (w130 hw) (by decide))
  have Bb2_f_i_g1_g2 := Bb2_f_i_g1.keep K2 (cls_notin hw S1 Bb2_f_i_g1.1 (w130 hw) (by decide))
  have L_v1_v2_f_i_g1_g2 := L_v1_v2_f_i_g1.keep K2
  refine Go.aload at_159 (q := 161) rfl rfl rfl ?_
  refine Go.callVV (P := fun w h' => w = .int (0 : Int32) ∧ g2 = h') (argsL := []) (rest := []) (wd := 0) (Ls1 := #[.val (.ref f)]) at_161 (q := 164) rfl (w74 hw) (w75 hw) (w77 hw) (w76 hw) (w78 hw) (w39 hw) (by decide) pn11 pd11 rfl rfl S2.1.2 (fun m_ => by simp [entryFrame, mkF, argsToLocals, Value.category]) rfl (by decide) rfl (by decide) (by decide) (by decide) (fr_size l Z a0 hw n0 g2 S2 (Q := RV (fun w h' => w = .int (0 : Int32) ∧ g2 = h')) ⟨_, rfl, rfl, rfl⟩) ?_
  rintro _ _ ⟨rfl, rfl⟩
  refine Go.iload at_164 (q := 166) rfl rfl ?_
  refine Go.if_eq at_166 (q := 173) (q' := 169) (by decide) rfl rfl (fun _ => ?_) (fun c_ => absurd (by decide) c_)
  refine Go.iconst at_173 (q := 174) rfl (x := (0 : Int32)) (by decide) ?_
  refine Go.icmp_ne at_174 (q := 181) (q' := 177) (by decide) rfl rfl (fun c_ => absurd (by decide) c_) (fun _ => ?_)
  refine Go.iconst at_177 (q := 178) rfl (x := (1 : Int32)) (by decide) ?_
  refine Go.goto at_178 (q := 182) (by decide) rfl ?_
  refine Go.istore at_182 (q := 184) rfl (Ls' := #[.val (.int mo), .val (.int nd), .val (.int dA), .val (.int dB), .val (.int iA), .val (.int iB), .val (.ref o), .val mA, .val mB, .val (.int (0 : Int32)), .val (.int (0 : Int32)), .val (.ref b1), .val (.ref b2), .val (.ref f), .val (.int (1 : Int32))]) rfl ?_
  refine Go.iload at_184 (q := 186) rfl rfl ?_
  refine Go.if_eq at_186 (q := 211) (q' := 189) (by decide) rfl rfl (fun c_ => absurd c_ (by decide)) (fun _ => ?_)
  refine Go.aload at_189 (q := 191) rfl rfl rfl ?_
  refine Go.iconst at_191 (q := 192) rfl (x := ((-1) : Int32)) (by decide) ?_
  refine Go.callVV (P := fun w h' => Value.null = w ∧ g2 = h') (argsL := [(.int ((-1) : Int32))]) (rest := []) (wd := 0) (Ls1 := #[.val (.ref f), .val (.int ((-1) : Int32))]) at_192 (q := 195) rfl (w79 hw) (w80 hw) (w82 hw) (w81 hw) (w83 hw) (w39 hw) (by decide) pn12 pd12 rfl rfl S2.1.2 (fun m_ => by simp [entryFrame, mkF, argsToLocals, Value.category]) rfl (by decide) rfl (by decide) (by decide) (by decide) (fr_node l Z a0 hw n0 g2 ((-1) : Int32) .null rfl S2 rfl (Q := RV (fun w h' => Value.null = w ∧ g2 = h')) ⟨_, rfl, rfl, rfl⟩) ?_
  rintro _ _ ⟨rfl, rfl⟩
  refine Go.ifnonnull at_195 (q := 211) (q' := 198) (by decide) rfl rfl rfl (fun _ e => by cases e) (fun _ => ?_)
  refine Go.aload at_198 (q := 200) rfl rfl rfl ?_
  refine Go.iconst at_200 (q := 201) rfl (x := ((-1) : Int32)) (by decide) ?_
  refine Go.callVV (P := fun w h' => Value.null = w ∧ g2 = h') (argsL := [(.int ((-1) : Int32))]) (rest := []) (wd := 0) (Ls1 := #[.val (.ref f), .val (.int ((-1) : Int32))]) at_201 (q := 204) rfl (w88 hw) (w89 hw) (w91 hw) (w90 hw) (w92 hw) (w39 hw) (by decide) pn14 pd14 rfl rfl S2.1.2 (fun m_ => by simp [entryFrame, mkF, argsToLocals, Value.category]) rfl (by decide) rfl (by decide) (by decide) (by decide) (fr_mark l Z a0 hw n0 g2 ((-1) : Int32) .null rfl S2 rfl (Q := RV (fun w h' => Value.null = w ∧ g2 = h')) ⟨_, rfl, rfl, rfl⟩) ?_
  rintro _ _ ⟨rfl, rfl⟩
  refine Go.ifnonnull at_204 (q := 211) (q' := 207) (by decide) rfl rfl rfl (fun _ e => by cases e) (fun _ => ?_)
  refine Go.iconst at_207 (q := 208) rfl (x := (1 : Int32)) (by decide) ?_
  refine Go.goto at_208 (q := 212) (by decide) rfl ?_
  refine Go.istore at_212 (q := 214) rfl (Ls' := #[.val (.int mo), .val (.int nd), .val (.int dA), .val (.int dB), .val (.int iA), .val (.int iB), .val (.ref o), .val mA, .val mB, .val (.int (0 : Int32)), .val (.int (0 : Int32)), .val (.ref b1), .val (.ref b2), .val (.ref f), .val (.int (1 : Int32))]) rfl ?_
  refine Go.iload at_214 (q := 216) rfl rfl ?_
  refine Go.if_eq at_216 (q := 277) (q' := 219) (by decide) rfl rfl (fun _ => ?_) (fun c_ => absurd (by decide) c_)
  refine Go.iload at_277 (q := 279) rfl rfl ?_
  refine Go.zreturn at_279 (by decide) (by decide) (by decide) ?_
  rfl
set_option maxRecDepth 65536 in
set_option maxHeartbeats 40000000 in
theorem tail01 (l : Launch) (Z : State) (a0 : Array Value) (hw : Hw a0 Z) (n0 : Nat) (h : Heap) (O : Old Z n0 h) (mo nd dA dB iA iB : Int32) (o : Addr) (L : Exa Z h o "java/util/ArrayList") (mA mB : Value) (MA : Mk Z o mA) (MB : Mk Z o mB) (a_LINKED a_ASK a_FINISH a_cache a_dce : Addr) (k_cache : ClassId) (vs_cache : List Value) (F : Facts Z a_LINKED a_ASK a_FINISH a_cache a_dce k_cache vs_cache) :
    Go l Z x code maxLocals ret room_1 n0 (fun v _ => v = some (.int 1)) h 1 3 65 #[.val (.int mo), .val (.int nd), .val (.int dA), .val (.int dB), .val (.int iA), .val (.int iB), .val (.ref o), .val mA, .val mB, .val (.int (0 : Int32)), .val (.int (1 : Int32)), .unset, .unset, .unset, .unset] [] := by
  refine Go.iloadN at_65 (q := 66) rfl rfl ?_
  refine Go.callSV (P := fun w h' => ∃ b, w = .ref b ∧ Ext h h' ∧ BX Z h' b nd) (argsL := [(.int nd)]) (rest := []) (wd := 0) (Ls1 := #[.val (.int nd)]) at_66 (q := 69) rfl (w30 hw) (w31 hw) (w32 hw) (w33 hw) (by decide) pn6 pd6 rfl rfl (fun m_ => by simp [entryFrame, mkF, argsToLocals, Value.category]) rfl (by decide) rfl (by decide) (by decide) (by decide) (valueOf l Z a0 hw n0 h O nd a_LINKED a_ASK a_FINISH a_cache a_dce k_cache vs_cache F (Q := RV (fun w h' => ∃ b, w = .ref b ∧ Ext h h' ∧ BX Z h' b nd)) (fun b h' q1 q2 => ⟨_, rfl, b, rfl, q1, q2⟩)) ?_
  rintro _ v1h ⟨b1, rfl, Xv1h, Bb1⟩
  have Ov1h := O.ext Xv1h
  have L_v1 := L.ext Xv1h
  refine Go.astore at_69 (q := 71) rfl rfl (Ls' := #[.val (.int mo), .val (.int nd), .val (.int dA), .val (.int dB), .val (.int iA), .val (.int iB), .val (.ref o), .val mA, .val mB, .val (.int (0 : Int32)), .val (.int (1 : Int32)), .val (.ref b1), .unset, .unset, .unset]) rfl ?_
  refine Go.iloadN at_71 (q := 72) rfl rfl ?_
  refine Go.iconst at_72 (q := 73) rfl (x := ((-1) : Int32)) (by decide) ?_
  refine Go.ixor at_73 (q := 74) rfl ?_
  refine Go.callSV (P := fun w h' => ∃ b, w = .ref b ∧ Ext v1h h' ∧ BX Z h' b (nd ^^^ ((-1) : Int32))) (argsL := [(.int (nd ^^^ ((-1) : Int32)))]) (rest := []) (wd := 0) (Ls1 := #[.val (.int (nd ^^^ ((-1) : Int32)))]) at_74 (q := 77) rfl (w30 hw) (w31 hw) (w32 hw) (w33 hw) (by decide) pn6 pd6 rfl rfl (fun m_ => by simp [entryFrame, mkF, argsToLocals, Value.category]) rfl (by decide) rfl (by decide) (by decide) (by decide) (valueOf l Z a0 hw n0 v1h Ov1h (nd ^^^ ((-1) : Int32)) a_LINKED a_ASK a_FINISH a_cache a_dce k_cache vs_cache F (Q := RV (fun w h' => ∃ b, w = .ref b ∧ Ext v1h h' ∧ BX Z h' b (nd ^^^ ((-1) : Int32)))) (fun b h' q1 q2 => ⟨_, rfl, b, rfl, q1, q2⟩)) ?_
  rintro _ v2h ⟨b2, rfl, Xv2h, Bb2⟩
  have Ov2h := Ov1h.ext Xv2h
  have Bb1_v2 := Bb1.ext Xv2h
  have L_v1_v2 := L_v1.ext Xv2h
  refine Go.astore at_77 (q := 79) rfl rfl (Ls' := #[.val (.int mo), .val (.int nd), .val (.int dA), .val (.int dB), .val (.int iA), .val (.int iB), .val (.ref o), .val mA, .val mB, .val (.int (0 : Int32)), .val (.int (1 : Int32)), .val (.ref b1), .val (.ref b2), .unset, .unset]) rfl ?_
  refine Go.new at_79 (q := 82) rfl (w37 hw) (w38 hw) (w39 hw) (by decide) (by decide) ?_
  intro h1 f e1 X1 E1 D1
  have nf : n0 ≤ f := by rw [e1]; exact Ov2h.1 ▸ Ov2h.2.1
  have O1 := Ov2h.ext X1
  have Bb1_v2_f := Bb1_v2.ext X1
  have Bb2_f := Bb2.ext X1
  have L_v1_v2_f := L_v1_v2.ext X1
  refine Go.dup at_82 (q := 83) rfl rfl ?_
  refine Go.callIN (P := fun h' => (∃ a1 a2 a3 a4 k1 k2 k3 k4, FR Z h' n0 f a1 a2 a3 a4 k1 k2 k3 k4 (0 : Int32) (0 : Int32) [.null, .null, .null, .null, .null, .null, .null, .null, .null, .null, .null, .null, .null, .null, .null, .null] [(.int 0), (.int 0), (.int 0), (.int 0), (.int 0), (.int 0), (.int 0), (.int 0), (.int 0), (.int 0), (.int 0), (.int 0), (.int 0), (.int 0), (.int 0), (.int 0)] [.null, .null, .null, .null, .null, .null, .null, .null, .null, .null, .null, .null, .null, .null, .null, .null] [(.int 0), (.int 0), (.int 0), (.int 0), (.int 0), (.int 0), (.int 0), (.int 0), (.int 0), (.int 0), (.int 0), (.int 0), (.int 0), (.int 0), (.int 0), (.int 0)]) ∧ Keep h1 h' [f]) (argsL := []) (rest := [(.ref f)]) (wd := 1) (Ls1 := #[.val (.ref f)]) at_83 (q := 86) rfl rfl (w40 hw) (w41 hw) (w39 hw) (w42 hw) (by decide) pn7 pd7 rfl rfl (fun m_ => by simp [entryFrame, mkF, argsToLocals, Value.category]) rfl (by decide) rfl (by decide) (by decide) (by decide) (fr_init l Z a0 hw n0 h1 O1 f nf E1 (D1 (Or.inl (w51 hw)) pTo) (D1 (Or.inl (w54 hw)) pTi) (D1 (Or.inl (w56 hw)) pTo) (D1 (Or.inl (w58 hw)) pTi) (D1 (Or.inl (w60 hw)) pTn) (D1 (Or.inl (w62 hw)) pTn) (Q := RN (fun h' => (∃ a1 a2 a3 a4 k1 k2 k3 k4, FR Z h' n0 f a1 a2 a3 a4 k1 k2 k3 k4 (0 : Int32) (0 : Int32) [.null, .null, .null, .null, .null, .null, .null, .null, .null, .null, .null, .null, .null, .null, .null, .null] [(.int 0), (.int 0), (.int 0), (.int 0), (.int 0), (.int 0), (.int 0), (.int 0), (.int 0), (.int 0), (.int 0), (.int 0), (.int 0), (.int 0), (.int 0), (.int 0)] [.null, .null, .null, .null, .null, .null, .null, .null, .null, .null, .null, .null, .null, .null, .null, .null] [(.int 0), (.int 0), (.int 0), (.int 0), (.int 0), (.int 0), (.int 0), (.int 0), (.int 0), (.int 0), (.int 0), (.int 0), (.int 0), (.int 0), (.int 0), (.int 0)]) ∧ Keep h1 h' [f])) (fun h' a1 a2 a3 a4 k1 k2 k3 k4 q kq => ⟨rfl, ⟨a1, a2, a3, a4, k1, k2, k3, k4, q⟩, kq⟩)) ?_
  rintro i0 ⟨⟨a1, a2, a3, a4, k1, k2, k3, k4, S0⟩, K0⟩
  have Bb1_v2_f_i := Bb1_v2_f.keep K0 (by simpa using ne_exa Bb1_v2_f.1 E1 (by decide))
  have Bb2_f_i := Bb2_f.keep K0 (by simpa using ne_exa Bb2_f.1 E1 (by decide))
  have L_v1_v2_f_i := L_v1_v2_f.keep K0
  refine Go.astore at_86 (q := 88) rfl rfl (Ls' := #[.val (.int mo), .val (.int nd), .val (.int dA), .val (.int dB), .val (.int iA), .val (.int iB), .val (.ref o), .val mA, .val mB, .val (.int (0 : Int32)), .val (.int (1 : Int32)), .val (.ref b1), .val (.ref b2), .val (.ref f), .unset]) rfl ?_
  refine Go.iload at_88 (q := 90) rfl rfl ?_
  refine Go.if_eq at_90 (q := 125) (q' := 93) (by decide) rfl rfl (fun c_ => absurd c_ (by decide)) (fun _ => ?_)
  refine Go.iload at_93 (q := 95) rfl rfl ?_
  refine Go.if_eq at_95 (q := 110) (q' := 98) (by decide) rfl rfl (fun _ => ?_) (fun c_ => absurd (by decide) c_)
  refine Go.aload at_110 (q := 112) rfl rfl rfl ?_
  refine Go.aload at_112 (q := 114) rfl rfl (MA.isRef) ?_
  refine Go.aload at_114 (q := 116) rfl rfl rfl ?_
  refine Go.iloadN at_116 (q := 117) rfl rfl ?_
  refine Go.iload at_117 (q := 119) rfl rfl ?_
  refine Go.callVN (P := fun h' => FR Z h' n0 f a1 a2 a3 a4 k1 k2 k3 k4 (15 : Int32) (0 : Int32) [.null, .null, .null, .null, .null, .null, .null, .null, .null, .null, .null, .null, .null, .null, .null, (.ref b1)] [(.int 0), (.int 0), (.int 0), (.int 0), (.int 0), (.int 0), (.int 0), (.int 0), (.int 0), (.int 0), (.int 0), (.int 0), (.int 0), (.int 0), (.int 0), (.int dA)] [.null, .null, .null, .null, .null, .null, .null, .null, .null, .null, .null, .null, .null, .null, .null, mA] [(.int 0), (.int 0), (.int 0), (.int 0), (.int 0), (.int 0), (.int 0), (.int 0), (.int 0), (.int 0), (.int 0), (.int 0), (.int 0), (.int 0), (.int 0), (.int iA)] ∧ Keep i0 h' [f, a1, a2, a3, a4]) (argsL := [mA, (.ref b1), (.int dA), (.int iA)]) (rest := []) (wd := 0) (Ls1 := #[.val (.ref f), .val mA, .val (.ref b1), .val (.int dA), .val (.int iA)]) at_119 (q := 122) rfl (w141 hw) (w142 hw) (w144 hw) (w143 hw) (w145 hw) (w39 hw) (by decide) pn23 pd23 rfl rfl S0.1.2 (fun m_ => by simp [entryFrame, mkF, argsToLocals, catI, catR, catN, catL, cat_ref (MA.isRef)]) rfl (by decide) rfl (by decide) (by decide) (by decide) (fr_pushMarked l Z a0 hw n0 i0 mA (.ref b1) dA iA (by unfold R16; decide) (by unfold R16; decide) S0 (MA.ob hw S0.1.1.2 L_v1_v2_f_i) (BX.ob hw Bb1_v2_f_i) (by decide) (Q := RN (fun h' => FR Z h' n0 f a1 a2 a3 a4 k1 k2 k3 k4 (15 : Int32) (0 : Int32) [.null, .null, .null, .null, .null, .null, .null, .null, .null, .null, .null, .null, .null, .null, .null, (.ref b1)] [(.int 0), (.int 0), (.int 0), (.int 0), (.int 0), (.int 0), (.int 0), (.int 0), (.int 0), (.int 0), (.int 0), (.int 0), (.int 0), (.int 0), (.int 0), (.int dA)] [.null, .null, .null, .null, .null, .null, .null, .null, .null, .null, .null, .null, .null, .null, .null, mA] [(.int 0), (.int 0), (.int 0), (.int 0), (.int 0), (.int 0), (.int 0), (.int 0), (.int 0), (.int 0), (.int 0), (.int 0), (.int 0), (.int 0), (.int 0), (.int iA)] ∧ Keep i0 h' [f, a1, a2, a3, a4])) (fun h' q kp => ⟨rfl, q, kp⟩)) ?_
  rintro g1 ⟨S1, K1⟩
  have Bb1_v2_f_i_g1 := Bb1_v2_f_i.keep K1 (cls_notin hw S0 Bb1_v2_f_i.1 (w130 hw) (by decide))
  have Bb2_f_i_g1 := Bb2_f_i.keep K1 (cls_notin hw S0 Bb2_f_i.1 (w130 hw) (by decide))
  have L_v1_v2_f_i_g1 := L_v1_v2_f_i.keep K1
  refine Go.goto at_122 (q := 154) (by decide) rfl ?_
  refine Go.aload at_154 (q := 156) rfl rfl rfl ?_
  refine Go.callVN (P := fun h' => FR Z h' n0 f a1 a2 a3 a4 k1 k2 k3 k4 (0 : Int32) (0 : Int32) [.null, .null, .null, .null, .null, .null, .null, .null, .null, .null, .null, .null, .null, .null, .null, .null] [(.int 0), (.int 0), (.int 0), (.int 0), (.int 0), (.int 0), (.int 0), (.int 0), (.int 0), (.int 0), (.int 0), (.int 0), (.int 0), (.int 0), (.int 0), (.int dA)] [.null, .null, .null, .null, .null, .null, .null, .null, .null, .null, .null, .null, .null, .null, .null, .null] [(.int 0), (.int 0), (.int 0), (.int 0), (.int 0), (.int 0), (.int 0), (.int 0), (.int 0), (.int 0), (.int 0), (.int 0), (.int 0), (.int 0), (.int 0), (.int iA)] ∧ Keep g1 h' [f, a1, a2, a3, a4]) (argsL := []) (rest := []) (wd := 0) (Ls1 := #[.val (.ref f)]) at_156 (q := 159) rfl (w69 hw) (w70 hw) (w72 hw) (w71 hw) (w73 hw) (w39 hw) (by decide) pn10 pd10 rfl rfl S1.1.2 (fun m_ => by simp [entryFrame, mkF, argsToLocals, Value.category]) rfl (by decide) rfl (by decide) (by decide) (by decide) (fr_popFront l Z a0 hw n0 g1 (by unfold R16; decide) S1 (v := mA) rfl MA.isRef (Q := RN (fun h' => FR Z h' n0 f a1 a2 a3 a4 k1 k2 k3 k4 (0 : Int32) (0 : Int32) [.null, .null, .null, .null, .null, .null, .null, .null, .null, .null, .null, .null, .null, .null, .null, .null] [(.int 0), (.int 0), (.int 0), (.int 0), (.int 0), (.int 0), (.int 0), (.int 0), (.int 0), (.int 0), (.int 0), (.int 0), (.int 0), (.int 0), (.int 0), (.int dA)] [.null, .null, .null, .null, .null, .null, .null, .null, .null, .null, .null, .null, .null, .null, .null, .null] [(.int 0), (.int 0), (.int 0), (.int 0), (.int 0), (.int 0), (.int 0), (.int 0), (.int 0), (.int 0), (.int 0), (.int 0), (.int 0), (.int 0), (.int 0), (.int iA)] ∧ Keep g1 h' [f, a1, a2, a3, a4])) (fun h' q kp => ⟨rfl, q, kp⟩)) ?_
  rintro g2 ⟨S2, K2⟩
  have Bb1_v2_f_i_g1_g2 := Bb1_v2_f_i_g1.keep K2 (cls_notin hw S1 Bb1_v2_f_i_g1.1 (w130 hw) (by decide))
  have Bb2_f_i_g1_g2 := Bb2_f_i_g1.keep K2 (cls_notin hw S1 Bb2_f_i_g1.1 (w130 hw) (by decide))
  have L_v1_v2_f_i_g1_g2 := L_v1_v2_f_i_g1.keep K2
  refine Go.aload at_159 (q := 161) rfl rfl rfl ?_
  refine Go.callVV (P := fun w h' => w = .int (0 : Int32) ∧ g2 = h') (argsL := []) (rest := []) (wd := 0) (Ls1 := #[.val (.ref f)]) at_161 (q := 164) rfl (w74 hw) (w75 hw) (w77 hw) (w76 hw) (w78 hw) (w39 hw) (by decide) pn11 pd11 rfl rfl S2.1.2 (fun m_ => by simp [entryFrame, mkF, argsToLocals, Value.category]) rfl (by decide) rfl (by decide) (by decide) (by decide) (fr_size l Z a0 hw n0 g2 S2 (Q := RV (fun w h' => w = .int (0 : Int32) ∧ g2 = h')) ⟨_, rfl, rfl, rfl⟩) ?_
  rintro _ _ ⟨rfl, rfl⟩
  refine Go.iload at_164 (q := 166) rfl rfl ?_
  refine Go.if_eq at_166 (q := 173) (q' := 169) (by decide) rfl rfl (fun _ => ?_) (fun c_ => absurd (by decide) c_)
  refine Go.iconst at_173 (q := 174) rfl (x := (0 : Int32)) (by decide) ?_
  refine Go.icmp_ne at_174 (q := 181) (q' := 177) (by decide) rfl rfl (fun c_ => absurd (by decide) c_) (fun _ => ?_)
  refine Go.iconst at_177 (q := 178) rfl (x := (1 : Int32)) (by decide) ?_
  refine Go.goto at_178 (q := 182) (by decide) rfl ?_
  refine Go.istore at_182 (q := 184) rfl (Ls' := #[.val (.int mo), .val (.int nd), .val (.int dA), .val (.int dB), .val (.int iA), .val (.int iB), .val (.ref o), .val mA, .val mB, .val (.int (0 : Int32)), .val (.int (1 : Int32)), .val (.ref b1), .val (.ref b2), .val (.ref f), .val (.int (1 : Int32))]) rfl ?_
  refine Go.iload at_184 (q := 186) rfl rfl ?_
  refine Go.if_eq at_186 (q := 211) (q' := 189) (by decide) rfl rfl (fun c_ => absurd c_ (by decide)) (fun _ => ?_)
  refine Go.aload at_189 (q := 191) rfl rfl rfl ?_
  refine Go.iconst at_191 (q := 192) rfl (x := ((-1) : Int32)) (by decide) ?_
  refine Go.callVV (P := fun w h' => Value.null = w ∧ g2 = h') (argsL := [(.int ((-1) : Int32))]) (rest := []) (wd := 0) (Ls1 := #[.val (.ref f), .val (.int ((-1) : Int32))]) at_192 (q := 195) rfl (w79 hw) (w80 hw) (w82 hw) (w81 hw) (w83 hw) (w39 hw) (by decide) pn12 pd12 rfl rfl S2.1.2 (fun m_ => by simp [entryFrame, mkF, argsToLocals, Value.category]) rfl (by decide) rfl (by decide) (by decide) (by decide) (fr_node l Z a0 hw n0 g2 ((-1) : Int32) .null rfl S2 rfl (Q := RV (fun w h' => Value.null = w ∧ g2 = h')) ⟨_, rfl, rfl, rfl⟩) ?_
  rintro _ _ ⟨rfl, rfl⟩
  refine Go.ifnonnull at_195 (q := 211) (q' := 198) (by decide) rfl rfl rfl (fun _ e => by cases e) (fun _ => ?_)
  refine Go.aload at_198 (q := 200) rfl rfl rfl ?_
  refine Go.iconst at_200 (q := 201) rfl (x := ((-1) : Int32)) (by decide) ?_
  refine Go.callVV (P := fun w h' => Value.null = w ∧ g2 = h') (argsL := [(.int ((-1) : Int32))]) (rest := []) (wd := 0) (Ls1 := #[.val (.ref f), .val (.int ((-1) : Int32))]) at_201 (q := 204) rfl (w88 hw) (w89 hw) (w91 hw) (w90 hw) (w92 hw) (w39 hw) (by decide) pn14 pd14 rfl rfl S2.1.2 (fun m_ => by simp [entryFrame, mkF, argsToLocals, Value.category]) rfl (by decide) rfl (by decide) (by decide) (by decide) (fr_mark l Z a0 hw n0 g2 ((-1) : Int32) .null rfl S2 rfl (Q := RV (fun w h' => Value.null = w ∧ g2 = h')) ⟨_, rfl, rfl, rfl⟩) ?_
  rintro _ _ ⟨rfl, rfl⟩
  refine Go.ifnonnull at_204 (q := 211) (q' := 207) (by decide) rfl rfl rfl (fun _ e => by cases e) (fun _ => ?_)
  refine Go.iconst at_207 (q := 208) rfl (x := (1 : Int32)) (by decide) ?_
  refine Go.goto at_208 (q := 212) (by decide) rfl ?_
  refine Go.istore at_212 (q := 214) rfl (Ls' := #[.val (.int mo), .val (.int nd), .val (.int dA), .val (.int dB), .val (.int iA), .val (.int iB), .val (.ref o), .val mA, .val mB, .val (.int (0 : Int32)), .val (.int (1 : Int32)), .val (.ref b1), .val (.ref b2), .val (.ref f), .val (.int (1 : Int32))]) rfl ?_
  refine Go.iload at_214 (q := 216) rfl rfl ?_
  refine Go.if_eq at_216 (q := 277) (q' := 219) (by decide) rfl rfl (fun _ => ?_) (fun c_ => absurd (by decide) c_)
  refine Go.iload at_277 (q := 279) rfl rfl ?_
  refine Go.zreturn at_279 (by decide) (by decide) (by decide) ?_
  rfl
set_option maxRecDepth 65536 in
set_option maxHeartbeats 40000000 in
theorem tail10 (l : Launch) (Z : State) (a0 : Array Value) (hw : Hw a0 Z) (n0 : Nat) (h : Heap) (O : Old Z n0 h) (mo nd dA dB iA iB : Int32) (o : Addr) (L : Exa Z h o "java/util/ArrayList") (mA mB : Value) (MA : Mk Z o mA) (MB : Mk Z o mB) (a_LINKED a_ASK a_FINISH a_cache a_dce : Addr) (k_cache : ClassId) (vs_cache : List Value) (F : Facts Z a_LINKED a_ASK a_FINISH a_cache a_dce k_cache vs_cache) :
    Go l Z x code maxLocals ret room_1 n0 (fun v _ => v = some (.int 1)) h 1 3 65 #[.val (.int mo), .val (.int nd), .val (.int dA), .val (.int dB), .val (.int iA), .val (.int iB), .val (.ref o), .val mA, .val mB, .val (.int (1 : Int32)), .val (.int (0 : Int32)), .unset, .unset, .unset, .unset] [] := by
  refine Go.iloadN at_65 (q := 66) rfl rfl ?_
  refine Go.callSV (P := fun w h' => ∃ b, w = .ref b ∧ Ext h h' ∧ BX Z h' b nd) (argsL := [(.int nd)]) (rest := []) (wd := 0) (Ls1 := #[.val (.int nd)]) at_66 (q := 69) rfl (w30 hw) (w31 hw) (w32 hw) (w33 hw) (by decide) pn6 pd6 rfl rfl (fun m_ => by simp [entryFrame, mkF, argsToLocals, Value.category]) rfl (by decide) rfl (by decide) (by decide) (by decide) (valueOf l Z a0 hw n0 h O nd a_LINKED a_ASK a_FINISH a_cache a_dce k_cache vs_cache F (Q := RV (fun w h' => ∃ b, w = .ref b ∧ Ext h h' ∧ BX Z h' b nd)) (fun b h' q1 q2 => ⟨_, rfl, b, rfl, q1, q2⟩)) ?_
  rintro _ v1h ⟨b1, rfl, Xv1h, Bb1⟩
  have Ov1h := O.ext Xv1h
  have L_v1 := L.ext Xv1h
  refine Go.astore at_69 (q := 71) rfl rfl (Ls' := #[.val (.int mo), .val (.int nd), .val (.int dA), .val (.int dB), .val (.int iA), .val (.int iB), .val (.ref o), .val mA, .val mB, .val (.int (1 : Int32)), .val (.int (0 : Int32)), .val (.ref b1), .unset, .unset, .unset]) rfl ?_
  refine Go.iloadN at_71 (q := 72) rfl rfl ?_
  refine Go.iconst at_72 (q := 73) rfl (x := ((-1) : Int32)) (by decide) ?_
  refine Go.ixor at_73 (q := 74) rfl ?_
  refine Go.callSV (P := fun w h' => ∃ b, w = .ref b ∧ Ext v1h h' ∧ BX Z h' b (nd ^^^ ((-1) : Int32))) (argsL := [(.int (nd ^^^ ((-1) : Int32)))]) (rest := []) (wd := 0) (Ls1 := #[.val (.int (nd ^^^ ((-1) : Int32)))]) at_74 (q := 77) rfl (w30 hw) (w31 hw) (w32 hw) (w33 hw) (by decide) pn6 pd6 rfl rfl (fun m_ => by simp [entryFrame, mkF, argsToLocals, Value.category]) rfl (by decide) rfl (by decide) (by decide) (by decide) (valueOf l Z a0 hw n0 v1h Ov1h (nd ^^^ ((-1) : Int32)) a_LINKED a_ASK a_FINISH a_cache a_dce k_cache vs_cache F (Q := RV (fun w h' => ∃ b, w = .ref b ∧ Ext v1h h' ∧ BX Z h' b (nd ^^^ ((-1) : Int32)))) (fun b h' q1 q2 => ⟨_, rfl, b, rfl, q1, q2⟩)) ?_
  rintro _ v2h ⟨b2, rfl, Xv2h, Bb2⟩
  have Ov2h := Ov1h.ext Xv2h
  have Bb1_v2 := Bb1.ext Xv2h
  have L_v1_v2 := L_v1.ext Xv2h
  refine Go.astore at_77 (q := 79) rfl rfl (Ls' := #[.val (.int mo), .val (.int nd), .val (.int dA), .val (.int dB), .val (.int iA), .val (.int iB), .val (.ref o), .val mA, .val mB, .val (.int (1 : Int32)), .val (.int (0 : Int32)), .val (.ref b1), .val (.ref b2), .unset, .unset]) rfl ?_
  refine Go.new at_79 (q := 82) rfl (w37 hw) (w38 hw) (w39 hw) (by decide) (by decide) ?_
  intro h1 f e1 X1 E1 D1
  have nf : n0 ≤ f := by rw [e1]; exact Ov2h.1 ▸ Ov2h.2.1
  have O1 := Ov2h.ext X1
  have Bb1_v2_f := Bb1_v2.ext X1
  have Bb2_f := Bb2.ext X1
  have L_v1_v2_f := L_v1_v2.ext X1
  refine Go.dup at_82 (q := 83) rfl rfl ?_
  refine Go.callIN (P := fun h' => (∃ a1 a2 a3 a4 k1 k2 k3 k4, FR Z h' n0 f a1 a2 a3 a4 k1 k2 k3 k4 (0 : Int32) (0 : Int32) [.null, .null, .null, .null, .null, .null, .null, .null, .null, .null, .null, .null, .null, .null, .null, .null] [(.int 0), (.int 0), (.int 0), (.int 0), (.int 0), (.int 0), (.int 0), (.int 0), (.int 0), (.int 0), (.int 0), (.int 0), (.int 0), (.int 0), (.int 0), (.int 0)] [.null, .null, .null, .null, .null, .null, .null, .null, .null, .null, .null, .null, .null, .null, .null, .null] [(.int 0), (.int 0), (.int 0), (.int 0), (.int 0), (.int 0), (.int 0), (.int 0), (.int 0), (.int 0), (.int 0), (.int 0), (.int 0), (.int 0), (.int 0), (.int 0)]) ∧ Keep h1 h' [f]) (argsL := []) (rest := [(.ref f)]) (wd := 1) (Ls1 := #[.val (.ref f)]) at_83 (q := 86) rfl rfl (w40 hw) (w41 hw) (w39 hw) (w42 hw) (by decide) pn7 pd7 rfl rfl (fun m_ => by simp [entryFrame, mkF, argsToLocals, Value.category]) rfl (by decide) rfl (by decide) (by decide) (by decide) (fr_init l Z a0 hw n0 h1 O1 f nf E1 (D1 (Or.inl (w51 hw)) pTo) (D1 (Or.inl (w54 hw)) pTi) (D1 (Or.inl (w56 hw)) pTo) (D1 (Or.inl (w58 hw)) pTi) (D1 (Or.inl (w60 hw)) pTn) (D1 (Or.inl (w62 hw)) pTn) (Q := RN (fun h' => (∃ a1 a2 a3 a4 k1 k2 k3 k4, FR Z h' n0 f a1 a2 a3 a4 k1 k2 k3 k4 (0 : Int32) (0 : Int32) [.null, .null, .null, .null, .null, .null, .null, .null, .null, .null, .null, .null, .null, .null, .null, .null] [(.int 0), (.int 0), (.int 0), (.int 0), (.int 0), (.int 0), (.int 0), (.int 0), (.int 0), (.int 0), (.int 0), (.int 0), (.int 0), (.int 0), (.int 0), (.int 0)] [.null, .null, .null, .null, .null, .null, .null, .null, .null, .null, .null, .null, .null, .null, .null, .null] [(.int 0), (.int 0), (.int 0), (.int 0), (.int 0), (.int 0), (.int 0), (.int 0), (.int 0), (.int 0), (.int 0), (.int 0), (.int 0), (.int 0), (.int 0), (.int 0)]) ∧ Keep h1 h' [f])) (fun h' a1 a2 a3 a4 k1 k2 k3 k4 q kq => ⟨rfl, ⟨a1, a2, a3, a4, k1, k2, k3, k4, q⟩, kq⟩)) ?_
  rintro i0 ⟨⟨a1, a2, a3, a4, k1, k2, k3, k4, S0⟩, K0⟩
  have Bb1_v2_f_i := Bb1_v2_f.keep K0 (by simpa using ne_exa Bb1_v2_f.1 E1 (by decide))
  have Bb2_f_i := Bb2_f.keep K0 (by simpa using ne_exa Bb2_f.1 E1 (by decide))
  have L_v1_v2_f_i := L_v1_v2_f.keep K0
  refine Go.astore at_86 (q := 88) rfl rfl (Ls' := #[.val (.int mo), .val (.int nd), .val (.int dA), .val (.int dB), .val (.int iA), .val (.int iB), .val (.ref o), .val mA, .val mB, .val (.int (1 : Int32)), .val (.int (0 : Int32)), .val (.ref b1), .val (.ref b2), .val (.ref f), .unset]) rfl ?_
  refine Go.iload at_88 (q := 90) rfl rfl ?_
  refine Go.if_eq at_90 (q := 125) (q' := 93) (by decide) rfl rfl (fun _ => ?_) (fun c_ => absurd (by decide) c_)
  refine Go.aload at_125 (q := 127) rfl rfl rfl ?_
  refine Go.aload at_127 (q := 129) rfl rfl (MA.isRef) ?_
  refine Go.aload at_129 (q := 131) rfl rfl rfl ?_
  refine Go.iloadN at_131 (q := 132) rfl rfl ?_
  refine Go.iload at_132 (q := 134) rfl rfl ?_
  refine Go.callVN (P := fun h' => FR Z h' n0 f a1 a2 a3 a4 k1 k2 k3 k4 (0 : Int32) (1 : Int32) [(.ref b1), .null, .null, .null, .null, .null, .null, .null, .null, .null, .null, .null, .null, .null, .null, .null] [(.int dA), (.int 0), (.int 0), (.int 0), (.int 0), (.int 0), (.int 0), (.int 0), (.int 0), (.int 0), (.int 0), (.int 0), (.int 0), (.int 0), (.int 0), (.int 0)] [mA, .null, .null, .null, .null, .null, .null, .null, .null, .null, .null, .null, .null, .null, .null, .null] [(.int iA), (.int 0), (.int 0), (.int 0), (.int 0), (.int 0), (.int 0), (.int 0), (.int 0), (.int 0), (.int 0), (.int 0), (.int 0), (.int 0), (.int 0), (.int 0)] ∧ Keep i0 h' [f, a1, a2, a3, a4]) (argsL := [mA, (.ref b1), (.int dA), (.int iA)]) (rest := []) (wd := 0) (Ls1 := #[.val (.ref f), .val mA, .val (.ref b1), .val (.int dA), .val (.int iA)]) at_134 (q := 137) rfl (w63 hw) (w64 hw) (w66 hw) (w65 hw) (w67 hw) (w39 hw) (by decide) pn9 pd9 rfl rfl S0.1.2 (fun m_ => by simp [entryFrame, mkF, argsToLocals, catI, catR, catN, catL, cat_ref (MA.isRef)]) rfl (by decide) rfl (by decide) (by decide) (by decide) (fr_pushMarkedBack l Z a0 hw n0 i0 mA (.ref b1) dA iA (by unfold R16; decide) (by unfold R16; decide) S0 (MA.ob hw S0.1.1.2 L_v1_v2_f_i) (BX.ob hw Bb1_v2_f_i) (by decide) (Q := RN (fun h' => FR Z h' n0 f a1 a2 a3 a4 k1 k2 k3 k4 (0 : Int32) (1 : Int32) [(.ref b1), .null, .null, .null, .null, .null, .null, .null, .null, .null, .null, .null, .null, .null, .null, .null] [(.int dA), (.int 0), (.int 0), (.int 0), (.int 0), (.int 0), (.int 0), (.int 0), (.int 0), (.int 0), (.int 0), (.int 0), (.int 0), (.int 0), (.int 0), (.int 0)] [mA, .null, .null, .null, .null, .null, .null, .null, .null, .null, .null, .null, .null, .null, .null, .null] [(.int iA), (.int 0), (.int 0), (.int 0), (.int 0), (.int 0), (.int 0), (.int 0), (.int 0), (.int 0), (.int 0), (.int 0), (.int 0), (.int 0), (.int 0), (.int 0)] ∧ Keep i0 h' [f, a1, a2, a3, a4])) (fun h' q kp => ⟨rfl, q, kp⟩)) ?_
  rintro g1 ⟨S1, K1⟩
  have Bb1_v2_f_i_g1 := Bb1_v2_f_i.keep K1 (cls_notin hw S0 Bb1_v2_f_i.1 (w130 hw) (by decide))
  have Bb2_f_i_g1 := Bb2_f_i.keep K1 (cls_notin hw S0 Bb2_f_i.1 (w130 hw) (by decide))
  have L_v1_v2_f_i_g1 := L_v1_v2_f_i.keep K1
  refine Go.iload at_137 (q := 139) rfl rfl ?_
  refine Go.if_eq at_139 (q := 154) (q' := 142) (by decide) rfl rfl (fun c_ => absurd c_ (by decide)) (fun _ => ?_)
  refine Go.aload at_142 (q := 144) rfl rfl rfl ?_
  refine Go.aload at_144 (q := 146) rfl rfl (MB.isRef) ?_
  refine Go.aload at_146 (q := 148) rfl rfl rfl ?_
  refine Go.iloadN at_148 (q := 149) rfl rfl ?_
  refine Go.iload at_149 (q := 151) rfl rfl ?_
  refine Go.callVN (P := fun h' => FR Z h' n0 f a1 a2 a3 a4 k1 k2 k3 k4 (0 : Int32) (2 : Int32) [(.ref b1), (.ref b2), .null, .null, .null, .null, .null, .null, .null, .null, .null, .null, .null, .null, .null, .null] [(.int dA), (.int dB), (.int 0), (.int 0), (.int 0), (.int 0), (.int 0), (.int 0), (.int 0), (.int 0), (.int 0), (.int 0), (.int 0), (.int 0), (.int 0), (.int 0)] [mA, mB, .null, .null, .null, .null, .null, .null, .null, .null, .null, .null, .null, .null, .null, .null] [(.int iA), (.int iB), (.int 0), (.int 0), (.int 0), (.int 0), (.int 0), (.int 0), (.int 0), (.int 0), (.int 0), (.int 0), (.int 0), (.int 0), (.int 0), (.int 0)] ∧ Keep g1 h' [f, a1, a2, a3, a4]) (argsL := [mB, (.ref b2), (.int dB), (.int iB)]) (rest := []) (wd := 0) (Ls1 := #[.val (.ref f), .val mB, .val (.ref b2), .val (.int dB), .val (.int iB)]) at_151 (q := 154) rfl (w63 hw) (w64 hw) (w66 hw) (w65 hw) (w67 hw) (w39 hw) (by decide) pn9 pd9 rfl rfl S1.1.2 (fun m_ => by simp [entryFrame, mkF, argsToLocals, catI, catR, catN, catL, cat_ref (MB.isRef)]) rfl (by decide) rfl (by decide) (by decide) (by decide) (fr_pushMarkedBack l Z a0 hw n0 g1 mB (.ref b2) dB iB (by unfold R16; decide) (by unfold R16; decide) S1 (MB.ob hw S1.1.1.2 L_v1_v2_f_i_g1) (BX.ob hw Bb2_f_i_g1) (by decide) (Q := RN (fun h' => FR Z h' n0 f a1 a2 a3 a4 k1 k2 k3 k4 (0 : Int32) (2 : Int32) [(.ref b1), (.ref b2), .null, .null, .null, .null, .null, .null, .null, .null, .null, .null, .null, .null, .null, .null] [(.int dA), (.int dB), (.int 0), (.int 0), (.int 0), (.int 0), (.int 0), (.int 0), (.int 0), (.int 0), (.int 0), (.int 0), (.int 0), (.int 0), (.int 0), (.int 0)] [mA, mB, .null, .null, .null, .null, .null, .null, .null, .null, .null, .null, .null, .null, .null, .null] [(.int iA), (.int iB), (.int 0), (.int 0), (.int 0), (.int 0), (.int 0), (.int 0), (.int 0), (.int 0), (.int 0), (.int 0), (.int 0), (.int 0), (.int 0), (.int 0)] ∧ Keep g1 h' [f, a1, a2, a3, a4])) (fun h' q kp => ⟨rfl, q, kp⟩)) ?_
  rintro g2 ⟨S2, K2⟩
  have Bb1_v2_f_i_g1_g2 := Bb1_v2_f_i_g1.keep K2 (cls_notin hw S1 Bb1_v2_f_i_g1.1 (w130 hw) (by decide))
  have Bb2_f_i_g1_g2 := Bb2_f_i_g1.keep K2 (cls_notin hw S1 Bb2_f_i_g1.1 (w130 hw) (by decide))
  have L_v1_v2_f_i_g1_g2 := L_v1_v2_f_i_g1.keep K2
  refine Go.aload at_154 (q := 156) rfl rfl rfl ?_
  refine Go.callVN (P := fun h' => FR Z h' n0 f a1 a2 a3 a4 k1 k2 k3 k4 (1 : Int32) (2 : Int32) [.null, (.ref b2), .null, .null, .null, .null, .null, .null, .null, .null, .null, .null, .null, .null, .null, .null] [(.int dA), (.int dB), (.int 0), (.int 0), (.int 0), (.int 0), (.int 0), (.int 0), (.int 0), (.int 0), (.int 0), (.int 0), (.int 0), (.int 0), (.int 0), (.int 0)] [.null, mB, .null, .null, .null, .null, .null, .null, .null, .null, .null, .null, .null, .null, .null, .null] [(.int iA), (.int iB), (.int 0), (.int 0), (.int 0), (.int 0), (.int 0), (.int 0), (.int 0), (.int 0), (.int 0), (.int 0), (.int 0), (.int 0), (.int 0), (.int 0)] ∧ Keep g2 h' [f, a1, a2, a3, a4]) (argsL := []) (rest := []) (wd := 0) (Ls1 := #[.val (.ref f)]) at_156 (q := 159) rfl (w69 hw) (w70 hw) (w72 hw) (w71 hw) (w73 hw) (w39 hw) (by decide) pn10 pd10 rfl rfl S2.1.2 (fun m_ => by simp [entryFrame, mkF, argsToLocals, Value.category]) rfl (by decide) rfl (by decide) (by decide) (by decide) (fr_popFront l Z a0 hw n0 g2 (by unfold R16; decide) S2 (v := mA) rfl MA.isRef (Q := RN (fun h' => FR Z h' n0 f a1 a2 a3 a4 k1 k2 k3 k4 (1 : Int32) (2 : Int32) [.null, (.ref b2), .null, .null, .null, .null, .null, .null, .null, .null, .null, .null, .null, .null, .null, .null] [(.int dA), (.int dB), (.int 0), (.int 0), (.int 0), (.int 0), (.int 0), (.int 0), (.int 0), (.int 0), (.int 0), (.int 0), (.int 0), (.int 0), (.int 0), (.int 0)] [.null, mB, .null, .null, .null, .null, .null, .null, .null, .null, .null, .null, .null, .null, .null, .null] [(.int iA), (.int iB), (.int 0), (.int 0), (.int 0), (.int 0), (.int 0), (.int 0), (.int 0), (.int 0), (.int 0), (.int 0), (.int 0), (.int 0), (.int 0), (.int 0)] ∧ Keep g2 h' [f, a1, a2, a3, a4])) (fun h' q kp => ⟨rfl, q, kp⟩)) ?_
  rintro g3 ⟨S3, K3⟩
  have Bb1_v2_f_i_g1_g2_g3 := Bb1_v2_f_i_g1_g2.keep K3 (cls_notin hw S2 Bb1_v2_f_i_g1_g2.1 (w130 hw) (by decide))
  have Bb2_f_i_g1_g2_g3 := Bb2_f_i_g1_g2.keep K3 (cls_notin hw S2 Bb2_f_i_g1_g2.1 (w130 hw) (by decide))
  have L_v1_v2_f_i_g1_g2_g3 := L_v1_v2_f_i_g1_g2.keep K3
  refine Go.aload at_159 (q := 161) rfl rfl rfl ?_
  refine Go.callVV (P := fun w h' => w = .int (1 : Int32) ∧ g3 = h') (argsL := []) (rest := []) (wd := 0) (Ls1 := #[.val (.ref f)]) at_161 (q := 164) rfl (w74 hw) (w75 hw) (w77 hw) (w76 hw) (w78 hw) (w39 hw) (by decide) pn11 pd11 rfl rfl S3.1.2 (fun m_ => by simp [entryFrame, mkF, argsToLocals, Value.category]) rfl (by decide) rfl (by decide) (by decide) (by decide) (fr_size l Z a0 hw n0 g3 S3 (Q := RV (fun w h' => w = .int (1 : Int32) ∧ g3 = h')) ⟨_, rfl, rfl, rfl⟩) ?_
  rintro _ _ ⟨rfl, rfl⟩
  refine Go.iload at_164 (q := 166) rfl rfl ?_
  refine Go.if_eq at_166 (q := 173) (q' := 169) (by decide) rfl rfl (fun c_ => absurd c_ (by decide)) (fun _ => ?_)
  refine Go.iconst at_169 (q := 170) rfl (x := (1 : Int32)) (by decide) ?_
  refine Go.goto at_170 (q := 174) (by decide) rfl ?_
  refine Go.icmp_ne at_174 (q := 181) (q' := 177) (by decide) rfl rfl (fun c_ => absurd (by decide) c_) (fun _ => ?_)
  refine Go.iconst at_177 (q := 178) rfl (x := (1 : Int32)) (by decide) ?_
  refine Go.goto at_178 (q := 182) (by decide) rfl ?_
  refine Go.istore at_182 (q := 184) rfl (Ls' := #[.val (.int mo), .val (.int nd), .val (.int dA), .val (.int dB), .val (.int iA), .val (.int iB), .val (.ref o), .val mA, .val mB, .val (.int (1 : Int32)), .val (.int (0 : Int32)), .val (.ref b1), .val (.ref b2), .val (.ref f), .val (.int (1 : Int32))]) rfl ?_
  refine Go.iload at_184 (q := 186) rfl rfl ?_
  refine Go.if_eq at_186 (q := 211) (q' := 189) (by decide) rfl rfl (fun c_ => absurd c_ (by decide)) (fun _ => ?_)
  refine Go.aload at_189 (q := 191) rfl rfl rfl ?_
  refine Go.iconst at_191 (q := 192) rfl (x := ((-1) : Int32)) (by decide) ?_
  refine Go.callVV (P := fun w h' => Value.null = w ∧ g3 = h') (argsL := [(.int ((-1) : Int32))]) (rest := []) (wd := 0) (Ls1 := #[.val (.ref f), .val (.int ((-1) : Int32))]) at_192 (q := 195) rfl (w79 hw) (w80 hw) (w82 hw) (w81 hw) (w83 hw) (w39 hw) (by decide) pn12 pd12 rfl rfl S3.1.2 (fun m_ => by simp [entryFrame, mkF, argsToLocals, Value.category]) rfl (by decide) rfl (by decide) (by decide) (by decide) (fr_node l Z a0 hw n0 g3 ((-1) : Int32) .null rfl S3 rfl (Q := RV (fun w h' => Value.null = w ∧ g3 = h')) ⟨_, rfl, rfl, rfl⟩) ?_
  rintro _ _ ⟨rfl, rfl⟩
  refine Go.ifnonnull at_195 (q := 211) (q' := 198) (by decide) rfl rfl rfl (fun _ e => by cases e) (fun _ => ?_)
  refine Go.aload at_198 (q := 200) rfl rfl rfl ?_
  refine Go.iconst at_200 (q := 201) rfl (x := ((-1) : Int32)) (by decide) ?_
  refine Go.callVV (P := fun w h' => Value.null = w ∧ g3 = h') (argsL := [(.int ((-1) : Int32))]) (rest := []) (wd := 0) (Ls1 := #[.val (.ref f), .val (.int ((-1) : Int32))]) at_201 (q := 204) rfl (w88 hw) (w89 hw) (w91 hw) (w90 hw) (w92 hw) (w39 hw) (by decide) pn14 pd14 rfl rfl S3.1.2 (fun m_ => by simp [entryFrame, mkF, argsToLocals, Value.category]) rfl (by decide) rfl (by decide) (by decide) (by decide) (fr_mark l Z a0 hw n0 g3 ((-1) : Int32) .null rfl S3 rfl (Q := RV (fun w h' => Value.null = w ∧ g3 = h')) ⟨_, rfl, rfl, rfl⟩) ?_
  rintro _ _ ⟨rfl, rfl⟩
  refine Go.ifnonnull at_204 (q := 211) (q' := 207) (by decide) rfl rfl rfl (fun _ e => by cases e) (fun _ => ?_)
  refine Go.iconst at_207 (q := 208) rfl (x := (1 : Int32)) (by decide) ?_
  refine Go.goto at_208 (q := 212) (by decide) rfl ?_
  refine Go.istore at_212 (q := 214) rfl (Ls' := #[.val (.int mo), .val (.int nd), .val (.int dA), .val (.int dB), .val (.int iA), .val (.int iB), .val (.ref o), .val mA, .val mB, .val (.int (1 : Int32)), .val (.int (0 : Int32)), .val (.ref b1), .val (.ref b2), .val (.ref f), .val (.int (1 : Int32))]) rfl ?_
  refine Go.iload at_214 (q := 216) rfl rfl ?_
  refine Go.if_eq at_216 (q := 277) (q' := 219) (by decide) rfl rfl (fun c_ => absurd c_ (by decide)) (fun _ => ?_)
  refine Go.iload at_219 (q := 221) rfl rfl ?_
  refine Go.if_eq at_221 (q := 274) (q' := 224) (by decide) rfl rfl (fun c_ => absurd c_ (by decide)) (fun _ => ?_)
  refine Go.aload at_224 (q := 226) rfl rfl rfl ?_
  refine Go.callVV (P := fun w h' => (Value.ref b2) = w ∧ g3 = h') (argsL := []) (rest := []) (wd := 0) (Ls1 := #[.val (.ref f)]) at_226 (q := 229) rfl (w97 hw) (w98 hw) (w100 hw) (w99 hw) (w101 hw) (w39 hw) (by decide) pn15 pd15 rfl rfl S3.1.2 (fun m_ => by simp [entryFrame, mkF, argsToLocals, Value.category]) rfl (by decide) rfl (by decide) (by decide) (by decide) (fr_frontNode l Z a0 hw n0 g3 (.ref b2) rfl (by unfold R16; decide) S3 rfl (Q := RV (fun w h' => (Value.ref b2) = w ∧ g3 = h')) ⟨_, rfl, rfl, rfl⟩) ?_
  rintro _ _ ⟨rfl, rfl⟩
  refine Go.cast at_229 (q := 232) rfl (w102 hw) (Ins.self Bb2_f_i_g1_g2_g3.1) ?_
  refine Go.iloadN at_232 (q := 233) rfl rfl ?_
  refine Go.iconst at_233 (q := 234) rfl (x := ((-1) : Int32)) (by decide) ?_
  refine Go.ixor at_234 (q := 235) rfl ?_
  refine Go.callSV (P := fun w h' => w = .int (1 : Int32) ∧ g3 = h') (argsL := [(.ref b2), (.int (nd ^^^ ((-1) : Int32)))]) (rest := []) (wd := 0) (Ls1 := #[.val (.ref b2), .val (.int (nd ^^^ ((-1) : Int32)))]) at_235 (q := 238) rfl (w104 hw) (w105 hw) (w28 hw) (w106 hw) (by decide) pn16 pd16 rfl rfl (fun m_ => by simp [entryFrame, mkF, argsToLocals, Value.category]) rfl (by decide) rfl (by decide) (by decide) (by decide) (holds l Z a0 hw n0 g3 b2 (nd ^^^ ((-1) : Int32)) Bb2_f_i_g1_g2_g3 (Q := RV (fun w h' => w = .int (1 : Int32) ∧ g3 = h')) ⟨_, rfl, rfl, rfl⟩) ?_
  rintro _ _ ⟨rfl, rfl⟩
  refine Go.if_eq at_238 (q := 274) (q' := 241) (by decide) rfl rfl (fun c_ => absurd c_ (by decide)) (fun _ => ?_)
  refine Go.aload at_241 (q := 243) rfl rfl rfl ?_
  refine Go.callVV (P := fun w h' => (Value.int dB) = w ∧ g3 = h') (argsL := []) (rest := []) (wd := 0) (Ls1 := #[.val (.ref f)]) at_243 (q := 246) rfl (w114 hw) (w115 hw) (w117 hw) (w116 hw) (w118 hw) (w39 hw) (by decide) pn18 pd18 rfl rfl S3.1.2 (fun m_ => by simp [entryFrame, mkF, argsToLocals, Value.category]) rfl (by decide) rfl (by decide) (by decide) (by decide) (fr_frontDepth l Z a0 hw n0 g3 dB (by unfold R16; decide) S3 rfl (Q := RV (fun w h' => (Value.int dB) = w ∧ g3 = h')) ⟨_, rfl, rfl, rfl⟩) ?_
  rintro _ _ ⟨rfl, rfl⟩
  refine Go.iloadN at_246 (q := 247) rfl rfl ?_
  refine Go.icmp_ne at_247 (q := 274) (q' := 250) (by decide) rfl rfl (fun c_ => absurd rfl c_) (fun _ => ?_)
  refine Go.aload at_250 (q := 252) rfl rfl rfl ?_
  refine Go.callVV (P := fun w h' => mB = w ∧ g3 = h') (argsL := []) (rest := []) (wd := 0) (Ls1 := #[.val (.ref f)]) at_252 (q := 255) rfl (w119 hw) (w120 hw) (w122 hw) (w121 hw) (w123 hw) (w39 hw) (by decide) pn19 pd19 rfl rfl S3.1.2 (fun m_ => by simp [entryFrame, mkF, argsToLocals, Value.category]) rfl (by decide) rfl (by decide) (by decide) (by decide) (fr_frontMark l Z a0 hw n0 g3 mB (MB.isRef) (by unfold R16; decide) S3 rfl (Q := RV (fun w h' => mB = w ∧ g3 = h')) ⟨_, rfl, rfl, rfl⟩) ?_
  rintro _ _ ⟨rfl, rfl⟩
  refine Go.aload at_255 (q := 257) rfl rfl (MB.isRef) ?_
  refine Go.acmp_ne at_257 (q := 274) (q' := 260) (by decide) rfl rfl (MB.isRef) (MB.isRef) (fun c_ => absurd rfl c_) (fun _ => ?_)
  refine Go.aload at_260 (q := 262) rfl rfl rfl ?_
  refine Go.callVV (P := fun w h' => (Value.int iB) = w ∧ g3 = h') (argsL := []) (rest := []) (wd := 0) (Ls1 := #[.val (.ref f)]) at_262 (q := 265) rfl (w124 hw) (w125 hw) (w127 hw) (w126 hw) (w128 hw) (w39 hw) (by decide) pn20 pd20 rfl rfl S3.1.2 (fun m_ => by simp [entryFrame, mkF, argsToLocals, Value.category]) rfl (by decide) rfl (by decide) (by decide) (by decide) (fr_frontIndex l Z a0 hw n0 g3 iB (by unfold R16; decide) S3 rfl (Q := RV (fun w h' => (Value.int iB) = w ∧ g3 = h')) ⟨_, rfl, rfl, rfl⟩) ?_
  rintro _ _ ⟨rfl, rfl⟩
  refine Go.iload at_265 (q := 267) rfl rfl ?_
  refine Go.icmp_ne at_267 (q := 274) (q' := 270) (by decide) rfl rfl (fun c_ => absurd rfl c_) (fun _ => ?_)
  refine Go.iconst at_270 (q := 271) rfl (x := (1 : Int32)) (by decide) ?_
  refine Go.goto at_271 (q := 275) (by decide) rfl ?_
  refine Go.istore at_275 (q := 277) rfl (Ls' := #[.val (.int mo), .val (.int nd), .val (.int dA), .val (.int dB), .val (.int iA), .val (.int iB), .val (.ref o), .val mA, .val mB, .val (.int (1 : Int32)), .val (.int (0 : Int32)), .val (.ref b1), .val (.ref b2), .val (.ref f), .val (.int (1 : Int32))]) rfl ?_
  refine Go.iload at_277 (q := 279) rfl rfl ?_
  refine Go.zreturn at_279 (by decide) (by decide) (by decide) ?_
  rfl
set_option maxRecDepth 65536 in
set_option maxHeartbeats 40000000 in
theorem tail11 (l : Launch) (Z : State) (a0 : Array Value) (hw : Hw a0 Z) (n0 : Nat) (h : Heap) (O : Old Z n0 h) (mo nd dA dB iA iB : Int32) (o : Addr) (L : Exa Z h o "java/util/ArrayList") (mA mB : Value) (MA : Mk Z o mA) (MB : Mk Z o mB) (a_LINKED a_ASK a_FINISH a_cache a_dce : Addr) (k_cache : ClassId) (vs_cache : List Value) (F : Facts Z a_LINKED a_ASK a_FINISH a_cache a_dce k_cache vs_cache) :
    Go l Z x code maxLocals ret room_1 n0 (fun v _ => v = some (.int 1)) h 1 3 65 #[.val (.int mo), .val (.int nd), .val (.int dA), .val (.int dB), .val (.int iA), .val (.int iB), .val (.ref o), .val mA, .val mB, .val (.int (1 : Int32)), .val (.int (1 : Int32)), .unset, .unset, .unset, .unset] [] := by
  refine Go.iloadN at_65 (q := 66) rfl rfl ?_
  refine Go.callSV (P := fun w h' => ∃ b, w = .ref b ∧ Ext h h' ∧ BX Z h' b nd) (argsL := [(.int nd)]) (rest := []) (wd := 0) (Ls1 := #[.val (.int nd)]) at_66 (q := 69) rfl (w30 hw) (w31 hw) (w32 hw) (w33 hw) (by decide) pn6 pd6 rfl rfl (fun m_ => by simp [entryFrame, mkF, argsToLocals, Value.category]) rfl (by decide) rfl (by decide) (by decide) (by decide) (valueOf l Z a0 hw n0 h O nd a_LINKED a_ASK a_FINISH a_cache a_dce k_cache vs_cache F (Q := RV (fun w h' => ∃ b, w = .ref b ∧ Ext h h' ∧ BX Z h' b nd)) (fun b h' q1 q2 => ⟨_, rfl, b, rfl, q1, q2⟩)) ?_
  rintro _ v1h ⟨b1, rfl, Xv1h, Bb1⟩
  have Ov1h := O.ext Xv1h
  have L_v1 := L.ext Xv1h
  refine Go.astore at_69 (q := 71) rfl rfl (Ls' := #[.val (.int mo), .val (.int nd), .val (.int dA), .val (.int dB), .val (.int iA), .val (.int iB), .val (.ref o), .val mA, .val mB, .val (.int (1 : Int32)), .val (.int (1 : Int32)), .val (.ref b1), .unset, .unset, .unset]) rfl ?_
  refine Go.iloadN at_71 (q := 72) rfl rfl ?_
  refine Go.iconst at_72 (q := 73) rfl (x := ((-1) : Int32)) (by decide) ?_
  refine Go.ixor at_73 (q := 74) rfl ?_
  refine Go.callSV (P := fun w h' => ∃ b, w = .ref b ∧ Ext v1h h' ∧ BX Z h' b (nd ^^^ ((-1) : Int32))) (argsL := [(.int (nd ^^^ ((-1) : Int32)))]) (rest := []) (wd := 0) (Ls1 := #[.val (.int (nd ^^^ ((-1) : Int32)))]) at_74 (q := 77) rfl (w30 hw) (w31 hw) (w32 hw) (w33 hw) (by decide) pn6 pd6 rfl rfl (fun m_ => by simp [entryFrame, mkF, argsToLocals, Value.category]) rfl (by decide) rfl (by decide) (by decide) (by decide) (valueOf l Z a0 hw n0 v1h Ov1h (nd ^^^ ((-1) : Int32)) a_LINKED a_ASK a_FINISH a_cache a_dce k_cache vs_cache F (Q := RV (fun w h' => ∃ b, w = .ref b ∧ Ext v1h h' ∧ BX Z h' b (nd ^^^ ((-1) : Int32)))) (fun b h' q1 q2 => ⟨_, rfl, b, rfl, q1, q2⟩)) ?_
  rintro _ v2h ⟨b2, rfl, Xv2h, Bb2⟩
  have Ov2h := Ov1h.ext Xv2h
  have Bb1_v2 := Bb1.ext Xv2h
  have L_v1_v2 := L_v1.ext Xv2h
  refine Go.astore at_77 (q := 79) rfl rfl (Ls' := #[.val (.int mo), .val (.int nd), .val (.int dA), .val (.int dB), .val (.int iA), .val (.int iB), .val (.ref o), .val mA, .val mB, .val (.int (1 : Int32)), .val (.int (1 : Int32)), .val (.ref b1), .val (.ref b2), .unset, .unset]) rfl ?_
  refine Go.new at_79 (q := 82) rfl (w37 hw) (w38 hw) (w39 hw) (by decide) (by decide) ?_
  intro h1 f e1 X1 E1 D1
  have nf : n0 ≤ f := by rw [e1]; exact Ov2h.1 ▸ Ov2h.2.1
  have O1 := Ov2h.ext X1
  have Bb1_v2_f := Bb1_v2.ext X1
  have Bb2_f := Bb2.ext X1
  have L_v1_v2_f := L_v1_v2.ext X1
  refine Go.dup at_82 (q := 83) rfl rfl ?_
  refine Go.callIN (P := fun h' => (∃ a1 a2 a3 a4 k1 k2 k3 k4, FR Z h' n0 f a1 a2 a3 a4 k1 k2 k3 k4 (0 : Int32) (0 : Int32) [.null, .null, .null, .null, .null, .null, .null, .null, .null, .null, .null, .null, .null, .null, .null, .null] [(.int 0), (.int 0), (.int 0), (.int 0), (.int 0), (.int 0), (.int 0), (.int 0), (.int 0), (.int 0), (.int 0), (.int 0), (.int 0), (.int 0), (.int 0), (.int 0)] [.null, .null, .null, .null, .null, .null, .null, .null, .null, .null, .null, .null, .null, .null, .null, .null] [(.int 0), (.int 0), (.int 0), (.int 0), (.int 0), (.int 0), (.int 0), (.int 0), (.int 0), (.int 0), (.int 0), (.int 0), (.int 0), (.int 0), (.int 0), (.int 0)]) ∧ Keep h1 h' [f]) (argsL := []) (rest := [(.ref f)]) (wd := 1) (Ls1 := #[.val (.ref f)]) at_83 (q := 86) rfl rfl (w40 hw) (w41 hw) (w39 hw) (w42 hw) (by decide) pn7 pd7 rfl rfl (fun m_ => by simp [entryFrame, mkF, argsToLocals, Value.category]) rfl (by decide) rfl (by decide) (by decide) (by decide) (fr_init l Z a0 hw n0 h1 O1 f nf E1 (D1 (Or.inl (w51 hw)) pTo) (D1 (Or.inl (w54 hw)) pTi) (D1 (Or.inl (w56 hw)) pTo) (D1 (Or.inl (w58 hw)) pTi) (D1 (Or.inl (w60 hw)) pTn) (D1 (Or.inl (w62 hw)) pTn) (Q := RN (fun h' => (∃ a1 a2 a3 a4 k1 k2 k3 k4, FR Z h' n0 f a1 a2 a3 a4 k1 k2 k3 k4 (0 : Int32) (0 : Int32) [.null, .null, .null, .null, .null, .null, .null, .null, .null, .null, .null, .null, .null, .null, .null, .null] [(.int 0), (.int 0), (.int 0), (.int 0), (.int 0), (.int 0), (.int 0), (.int 0), (.int 0), (.int 0), (.int 0), (.int 0), (.int 0), (.int 0), (.int 0), (.int 0)] [.null, .null, .null, .null, .null, .null, .null, .null, .null, .null, .null, .null, .null, .null, .null, .null] [(.int 0), (.int 0), (.int 0), (.int 0), (.int 0), (.int 0), (.int 0), (.int 0), (.int 0), (.int 0), (.int 0), (.int 0), (.int 0), (.int 0), (.int 0), (.int 0)]) ∧ Keep h1 h' [f])) (fun h' a1 a2 a3 a4 k1 k2 k3 k4 q kq => ⟨rfl, ⟨a1, a2, a3, a4, k1, k2, k3, k4, q⟩, kq⟩)) ?_
  rintro i0 ⟨⟨a1, a2, a3, a4, k1, k2, k3, k4, S0⟩, K0⟩
  have Bb1_v2_f_i := Bb1_v2_f.keep K0 (by simpa using ne_exa Bb1_v2_f.1 E1 (by decide))
  have Bb2_f_i := Bb2_f.keep K0 (by simpa using ne_exa Bb2_f.1 E1 (by decide))
  have L_v1_v2_f_i := L_v1_v2_f.keep K0
  refine Go.astore at_86 (q := 88) rfl rfl (Ls' := #[.val (.int mo), .val (.int nd), .val (.int dA), .val (.int dB), .val (.int iA), .val (.int iB), .val (.ref o), .val mA, .val mB, .val (.int (1 : Int32)), .val (.int (1 : Int32)), .val (.ref b1), .val (.ref b2), .val (.ref f), .unset]) rfl ?_
  refine Go.iload at_88 (q := 90) rfl rfl ?_
  refine Go.if_eq at_90 (q := 125) (q' := 93) (by decide) rfl rfl (fun c_ => absurd c_ (by decide)) (fun _ => ?_)
  refine Go.iload at_93 (q := 95) rfl rfl ?_
  refine Go.if_eq at_95 (q := 110) (q' := 98) (by decide) rfl rfl (fun c_ => absurd c_ (by decide)) (fun _ => ?_)
  refine Go.aload at_98 (q := 100) rfl rfl rfl ?_
  refine Go.aload at_100 (q := 102) rfl rfl (MB.isRef) ?_
  refine Go.aload at_102 (q := 104) rfl rfl rfl ?_
  refine Go.iloadN at_104 (q := 105) rfl rfl ?_
  refine Go.iload at_105 (q := 107) rfl rfl ?_
  refine Go.callVN (P := fun h' => FR Z h' n0 f a1 a2 a3 a4 k1 k2 k3 k4 (0 : Int32) (1 : Int32) [(.ref b2), .null, .null, .null, .null, .null, .null, .null, .null, .null, .null, .null, .null, .null, .null, .null] [(.int dB), (.int 0), (.int 0), (.int 0), (.int 0), (.int 0), (.int 0), (.int 0), (.int 0), (.int 0), (.int 0), (.int 0), (.int 0), (.int 0), (.int 0), (.int 0)] [mB, .null, .null, .null, .null, .null, .null, .null, .null, .null, .null, .null, .null, .null, .null, .null] [(.int iB), (.int 0), (.int 0), (.int 0), (.int 0), (.int 0), (.int 0), (.int 0), (.int 0), (.int 0), (.int 0), (.int 0), (.int 0), (.int 0), (.int 0), (.int 0)] ∧ Keep i0 h' [f, a1, a2, a3, a4]) (argsL := [mB, (.ref b2), (.int dB), (.int iB)]) (rest := []) (wd := 0) (Ls1 := #[.val (.ref f), .val mB, .val (.ref b2), .val (.int dB), .val (.int iB)]) at_107 (q := 110) rfl (w63 hw) (w64 hw) (w66 hw) (w65 hw) (w67 hw) (w39 hw) (by decide) pn9 pd9 rfl rfl S0.1.2 (fun m_ => by simp [entryFrame, mkF, argsToLocals, catI, catR, catN, catL, cat_ref (MB.isRef)]) rfl (by decide) rfl (by decide) (by decide) (by decide) (fr_pushMarkedBack l Z a0 hw n0 i0 mB (.ref b2) dB iB (by unfold R16; decide) (by unfold R16; decide) S0 (MB.ob hw S0.1.1.2 L_v1_v2_f_i) (BX.ob hw Bb2_f_i) (by decide) (Q := RN (fun h' => FR Z h' n0 f a1 a2 a3 a4 k1 k2 k3 k4 (0 : Int32) (1 : Int32) [(.ref b2), .null, .null, .null, .null, .null, .null, .null, .null, .null, .null, .null, .null, .null, .null, .null] [(.int dB), (.int 0), (.int 0), (.int 0), (.int 0), (.int 0), (.int 0), (.int 0), (.int 0), (.int 0), (.int 0), (.int 0), (.int 0), (.int 0), (.int 0), (.int 0)] [mB, .null, .null, .null, .null, .null, .null, .null, .null, .null, .null, .null, .null, .null, .null, .null] [(.int iB), (.int 0), (.int 0), (.int 0), (.int 0), (.int 0), (.int 0), (.int 0), (.int 0), (.int 0), (.int 0), (.int 0), (.int 0), (.int 0), (.int 0), (.int 0)] ∧ Keep i0 h' [f, a1, a2, a3, a4])) (fun h' q kp => ⟨rfl, q, kp⟩)) ?_
  rintro g1 ⟨S1, K1⟩
  have Bb1_v2_f_i_g1 := Bb1_v2_f_i.keep K1 (cls_notin hw S0 Bb1_v2_f_i.1 (w130 hw) (by decide))
  have Bb2_f_i_g1 := Bb2_f_i.keep K1 (cls_notin hw S0 Bb2_f_i.1 (w130 hw) (by decide))
  have L_v1_v2_f_i_g1 := L_v1_v2_f_i.keep K1
  refine Go.aload at_110 (q := 112) rfl rfl rfl ?_
  refine Go.aload at_112 (q := 114) rfl rfl (MA.isRef) ?_
  refine Go.aload at_114 (q := 116) rfl rfl rfl ?_
  refine Go.iloadN at_116 (q := 117) rfl rfl ?_
  refine Go.iload at_117 (q := 119) rfl rfl ?_
  refine Go.callVN (P := fun h' => FR Z h' n0 f a1 a2 a3 a4 k1 k2 k3 k4 (15 : Int32) (1 : Int32) [(.ref b2), .null, .null, .null, .null, .null, .null, .null, .null, .null, .null, .null, .null, .null, .null, (.ref b1)] [(.int dB), (.int 0), (.int 0), (.int 0), (.int 0), (.int 0), (.int 0), (.int 0), (.int 0), (.int 0), (.int 0), (.int 0), (.int 0), (.int 0), (.int 0), (.int dA)] [mB, .null, .null, .null, .null, .null, .null, .null, .null, .null, .null, .null, .null, .null, .null, mA] [(.int iB), (.int 0), (.int 0), (.int 0), (.int 0), (.int 0), (.int 0), (.int 0), (.int 0), (.int 0), (.int 0), (.int 0), (.int 0), (.int 0), (.int 0), (.int iA)] ∧ Keep g1 h' [f, a1, a2, a3, a4]) (argsL := [mA, (.ref b1), (.int dA), (.int iA)]) (rest := []) (wd := 0) (Ls1 := #[.val (.ref f), .val mA, .val (.ref b1), .val (.int dA), .val (.int iA)]) at_119 (q := 122) rfl (w141 hw) (w142 hw) (w144 hw) (w143 hw) (w145 hw) (w39 hw) (by decide) pn23 pd23 rfl rfl S1.1.2 (fun m_ => by simp [entryFrame, mkF, argsToLocals, catI, catR, catN, catL, cat_ref (MA.isRef)]) rfl (by decide) rfl (by decide) (by decide) (by decide) (fr_pushMarked l Z a0 hw n0 g1 mA (.ref b1) dA iA (by unfold R16; decide) (by unfold R16; decide) S1 (MA.ob hw S1.1.1.2 L_v1_v2_f_i_g1) (BX.ob hw Bb1_v2_f_i_g1) (by decide) (Q := RN (fun h' => FR Z h' n0 f a1 a2 a3 a4 k1 k2 k3 k4 (15 : Int32) (1 : Int32) [(.ref b2), .null, .null, .null, .null, .null, .null, .null, .null, .null, .null, .null, .null, .null, .null, (.ref b1)] [(.int dB), (.int 0), (.int 0), (.int 0), (.int 0), (.int 0), (.int 0), (.int 0), (.int 0), (.int 0), (.int 0), (.int 0), (.int 0), (.int 0), (.int 0), (.int dA)] [mB, .null, .null, .null, .null, .null, .null, .null, .null, .null, .null, .null, .null, .null, .null, mA] [(.int iB), (.int 0), (.int 0), (.int 0), (.int 0), (.int 0), (.int 0), (.int 0), (.int 0), (.int 0), (.int 0), (.int 0), (.int 0), (.int 0), (.int 0), (.int iA)] ∧ Keep g1 h' [f, a1, a2, a3, a4])) (fun h' q kp => ⟨rfl, q, kp⟩)) ?_
  rintro g2 ⟨S2, K2⟩
  have Bb1_v2_f_i_g1_g2 := Bb1_v2_f_i_g1.keep K2 (cls_notin hw S1 Bb1_v2_f_i_g1.1 (w130 hw) (by decide))
  have Bb2_f_i_g1_g2 := Bb2_f_i_g1.keep K2 (cls_notin hw S1 Bb2_f_i_g1.1 (w130 hw) (by decide))
  have L_v1_v2_f_i_g1_g2 := L_v1_v2_f_i_g1.keep K2
  refine Go.goto at_122 (q := 154) (by decide) rfl ?_
  refine Go.aload at_154 (q := 156) rfl rfl rfl ?_
  refine Go.callVN (P := fun h' => FR Z h' n0 f a1 a2 a3 a4 k1 k2 k3 k4 (0 : Int32) (1 : Int32) [(.ref b2), .null, .null, .null, .null, .null, .null, .null, .null, .null, .null, .null, .null, .null, .null, .null] [(.int dB), (.int 0), (.int 0), (.int 0), (.int 0), (.int 0), (.int 0), (.int 0), (.int 0), (.int 0), (.int 0), (.int 0), (.int 0), (.int 0), (.int 0), (.int dA)] [mB, .null, .null, .null, .null, .null, .null, .null, .null, .null, .null, .null, .null, .null, .null, .null] [(.int iB), (.int 0), (.int 0), (.int 0), (.int 0), (.int 0), (.int 0), (.int 0), (.int 0), (.int 0), (.int 0), (.int 0), (.int 0), (.int 0), (.int 0), (.int iA)] ∧ Keep g2 h' [f, a1, a2, a3, a4]) (argsL := []) (rest := []) (wd := 0) (Ls1 := #[.val (.ref f)]) at_156 (q := 159) rfl (w69 hw) (w70 hw) (w72 hw) (w71 hw) (w73 hw) (w39 hw) (by decide) pn10 pd10 rfl rfl S2.1.2 (fun m_ => by simp [entryFrame, mkF, argsToLocals, Value.category]) rfl (by decide) rfl (by decide) (by decide) (by decide) (fr_popFront l Z a0 hw n0 g2 (by unfold R16; decide) S2 (v := mA) rfl MA.isRef (Q := RN (fun h' => FR Z h' n0 f a1 a2 a3 a4 k1 k2 k3 k4 (0 : Int32) (1 : Int32) [(.ref b2), .null, .null, .null, .null, .null, .null, .null, .null, .null, .null, .null, .null, .null, .null, .null] [(.int dB), (.int 0), (.int 0), (.int 0), (.int 0), (.int 0), (.int 0), (.int 0), (.int 0), (.int 0), (.int 0), (.int 0), (.int 0), (.int 0), (.int 0), (.int dA)] [mB, .null, .null, .null, .null, .null, .null, .null, .null, .null, .null, .null, .null, .null, .null, .null] [(.int iB), (.int 0), (.int 0), (.int 0), (.int 0), (.int 0), (.int 0), (.int 0), (.int 0), (.int 0), (.int 0), (.int 0), (.int 0), (.int 0), (.int 0), (.int iA)] ∧ Keep g2 h' [f, a1, a2, a3, a4])) (fun h' q kp => ⟨rfl, q, kp⟩)) ?_
  rintro g3 ⟨S3, K3⟩
  have Bb1_v2_f_i_g1_g2_g3 := Bb1_v2_f_i_g1_g2.keep K3 (cls_notin hw S2 Bb1_v2_f_i_g1_g2.1 (w130 hw) (by decide))
  have Bb2_f_i_g1_g2_g3 := Bb2_f_i_g1_g2.keep K3 (cls_notin hw S2 Bb2_f_i_g1_g2.1 (w130 hw) (by decide))
  have L_v1_v2_f_i_g1_g2_g3 := L_v1_v2_f_i_g1_g2.keep K3
  refine Go.aload at_159 (q := 161) rfl rfl rfl ?_
  refine Go.callVV (P := fun w h' => w = .int (1 : Int32) ∧ g3 = h') (argsL := []) (rest := []) (wd := 0) (Ls1 := #[.val (.ref f)]) at_161 (q := 164) rfl (w74 hw) (w75 hw) (w77 hw) (w76 hw) (w78 hw) (w39 hw) (by decide) pn11 pd11 rfl rfl S3.1.2 (fun m_ => by simp [entryFrame, mkF, argsToLocals, Value.category]) rfl (by decide) rfl (by decide) (by decide) (by decide) (fr_size l Z a0 hw n0 g3 S3 (Q := RV (fun w h' => w = .int (1 : Int32) ∧ g3 = h')) ⟨_, rfl, rfl, rfl⟩) ?_
  rintro _ _ ⟨rfl, rfl⟩
  refine Go.iload at_164 (q := 166) rfl rfl ?_
  refine Go.if_eq at_166 (q := 173) (q' := 169) (by decide) rfl rfl (fun c_ => absurd c_ (by decide)) (fun _ => ?_)
  refine Go.iconst at_169 (q := 170) rfl (x := (1 : Int32)) (by decide) ?_
  refine Go.goto at_170 (q := 174) (by decide) rfl ?_
  refine Go.icmp_ne at_174 (q := 181) (q' := 177) (by decide) rfl rfl (fun c_ => absurd (by decide) c_) (fun _ => ?_)
  refine Go.iconst at_177 (q := 178) rfl (x := (1 : Int32)) (by decide) ?_
  refine Go.goto at_178 (q := 182) (by decide) rfl ?_
  refine Go.istore at_182 (q := 184) rfl (Ls' := #[.val (.int mo), .val (.int nd), .val (.int dA), .val (.int dB), .val (.int iA), .val (.int iB), .val (.ref o), .val mA, .val mB, .val (.int (1 : Int32)), .val (.int (1 : Int32)), .val (.ref b1), .val (.ref b2), .val (.ref f), .val (.int (1 : Int32))]) rfl ?_
  refine Go.iload at_184 (q := 186) rfl rfl ?_
  refine Go.if_eq at_186 (q := 211) (q' := 189) (by decide) rfl rfl (fun c_ => absurd c_ (by decide)) (fun _ => ?_)
  refine Go.aload at_189 (q := 191) rfl rfl rfl ?_
  refine Go.iconst at_191 (q := 192) rfl (x := ((-1) : Int32)) (by decide) ?_
  refine Go.callVV (P := fun w h' => Value.null = w ∧ g3 = h') (argsL := [(.int ((-1) : Int32))]) (rest := []) (wd := 0) (Ls1 := #[.val (.ref f), .val (.int ((-1) : Int32))]) at_192 (q := 195) rfl (w79 hw) (w80 hw) (w82 hw) (w81 hw) (w83 hw) (w39 hw) (by decide) pn12 pd12 rfl rfl S3.1.2 (fun m_ => by simp [entryFrame, mkF, argsToLocals, Value.category]) rfl (by decide) rfl (by decide) (by decide) (by decide) (fr_node l Z a0 hw n0 g3 ((-1) : Int32) .null rfl S3 rfl (Q := RV (fun w h' => Value.null = w ∧ g3 = h')) ⟨_, rfl, rfl, rfl⟩) ?_
  rintro _ _ ⟨rfl, rfl⟩
  refine Go.ifnonnull at_195 (q := 211) (q' := 198) (by decide) rfl rfl rfl (fun _ e => by cases e) (fun _ => ?_)
  refine Go.aload at_198 (q := 200) rfl rfl rfl ?_
  refine Go.iconst at_200 (q := 201) rfl (x := ((-1) : Int32)) (by decide) ?_
  refine Go.callVV (P := fun w h' => Value.null = w ∧ g3 = h') (argsL := [(.int ((-1) : Int32))]) (rest := []) (wd := 0) (Ls1 := #[.val (.ref f), .val (.int ((-1) : Int32))]) at_201 (q := 204) rfl (w88 hw) (w89 hw) (w91 hw) (w90 hw) (w92 hw) (w39 hw) (by decide) pn14 pd14 rfl rfl S3.1.2 (fun m_ => by simp [entryFrame, mkF, argsToLocals, Value.category]) rfl (by decide) rfl (by decide) (by decide) (by decide) (fr_mark l Z a0 hw n0 g3 ((-1) : Int32) .null rfl S3 rfl (Q := RV (fun w h' => Value.null = w ∧ g3 = h')) ⟨_, rfl, rfl, rfl⟩) ?_
  rintro _ _ ⟨rfl, rfl⟩
  refine Go.ifnonnull at_204 (q := 211) (q' := 207) (by decide) rfl rfl rfl (fun _ e => by cases e) (fun _ => ?_)
  refine Go.iconst at_207 (q := 208) rfl (x := (1 : Int32)) (by decide) ?_
  refine Go.goto at_208 (q := 212) (by decide) rfl ?_
  refine Go.istore at_212 (q := 214) rfl (Ls' := #[.val (.int mo), .val (.int nd), .val (.int dA), .val (.int dB), .val (.int iA), .val (.int iB), .val (.ref o), .val mA, .val mB, .val (.int (1 : Int32)), .val (.int (1 : Int32)), .val (.ref b1), .val (.ref b2), .val (.ref f), .val (.int (1 : Int32))]) rfl ?_
  refine Go.iload at_214 (q := 216) rfl rfl ?_
  refine Go.if_eq at_216 (q := 277) (q' := 219) (by decide) rfl rfl (fun c_ => absurd c_ (by decide)) (fun _ => ?_)
  refine Go.iload at_219 (q := 221) rfl rfl ?_
  refine Go.if_eq at_221 (q := 274) (q' := 224) (by decide) rfl rfl (fun c_ => absurd c_ (by decide)) (fun _ => ?_)
  refine Go.aload at_224 (q := 226) rfl rfl rfl ?_
  refine Go.callVV (P := fun w h' => (Value.ref b2) = w ∧ g3 = h') (argsL := []) (rest := []) (wd := 0) (Ls1 := #[.val (.ref f)]) at_226 (q := 229) rfl (w97 hw) (w98 hw) (w100 hw) (w99 hw) (w101 hw) (w39 hw) (by decide) pn15 pd15 rfl rfl S3.1.2 (fun m_ => by simp [entryFrame, mkF, argsToLocals, Value.category]) rfl (by decide) rfl (by decide) (by decide) (by decide) (fr_frontNode l Z a0 hw n0 g3 (.ref b2) rfl (by unfold R16; decide) S3 rfl (Q := RV (fun w h' => (Value.ref b2) = w ∧ g3 = h')) ⟨_, rfl, rfl, rfl⟩) ?_
  rintro _ _ ⟨rfl, rfl⟩
  refine Go.cast at_229 (q := 232) rfl (w102 hw) (Ins.self Bb2_f_i_g1_g2_g3.1) ?_
  refine Go.iloadN at_232 (q := 233) rfl rfl ?_
  refine Go.iconst at_233 (q := 234) rfl (x := ((-1) : Int32)) (by decide) ?_
  refine Go.ixor at_234 (q := 235) rfl ?_
  refine Go.callSV (P := fun w h' => w = .int (1 : Int32) ∧ g3 = h') (argsL := [(.ref b2), (.int (nd ^^^ ((-1) : Int32)))]) (rest := []) (wd := 0) (Ls1 := #[.val (.ref b2), .val (.int (nd ^^^ ((-1) : Int32)))]) at_235 (q := 238) rfl (w104 hw) (w105 hw) (w28 hw) (w106 hw) (by decide) pn16 pd16 rfl rfl (fun m_ => by simp [entryFrame, mkF, argsToLocals, Value.category]) rfl (by decide) rfl (by decide) (by decide) (by decide) (holds l Z a0 hw n0 g3 b2 (nd ^^^ ((-1) : Int32)) Bb2_f_i_g1_g2_g3 (Q := RV (fun w h' => w = .int (1 : Int32) ∧ g3 = h')) ⟨_, rfl, rfl, rfl⟩) ?_
  rintro _ _ ⟨rfl, rfl⟩
  refine Go.if_eq at_238 (q := 274) (q' := 241) (by decide) rfl rfl (fun c_ => absurd c_ (by decide)) (fun _ => ?_)
  refine Go.aload at_241 (q := 243) rfl rfl rfl ?_
  refine Go.callVV (P := fun w h' => (Value.int dB) = w ∧ g3 = h') (argsL := []) (rest := []) (wd := 0) (Ls1 := #[.val (.ref f)]) at_243 (q := 246) rfl (w114 hw) (w115 hw) (w117 hw) (w116 hw) (w118 hw) (w39 hw) (by decide) pn18 pd18 rfl rfl S3.1.2 (fun m_ => by simp [entryFrame, mkF, argsToLocals, Value.category]) rfl (by decide) rfl (by decide) (by decide) (by decide) (fr_frontDepth l Z a0 hw n0 g3 dB (by unfold R16; decide) S3 rfl (Q := RV (fun w h' => (Value.int dB) = w ∧ g3 = h')) ⟨_, rfl, rfl, rfl⟩) ?_
  rintro _ _ ⟨rfl, rfl⟩
  refine Go.iloadN at_246 (q := 247) rfl rfl ?_
  refine Go.icmp_ne at_247 (q := 274) (q' := 250) (by decide) rfl rfl (fun c_ => absurd rfl c_) (fun _ => ?_)
  refine Go.aload at_250 (q := 252) rfl rfl rfl ?_
  refine Go.callVV (P := fun w h' => mB = w ∧ g3 = h') (argsL := []) (rest := []) (wd := 0) (Ls1 := #[.val (.ref f)]) at_252 (q := 255) rfl (w119 hw) (w120 hw) (w122 hw) (w121 hw) (w123 hw) (w39 hw) (by decide) pn19 pd19 rfl rfl S3.1.2 (fun m_ => by simp [entryFrame, mkF, argsToLocals, Value.category]) rfl (by decide) rfl (by decide) (by decide) (by decide) (fr_frontMark l Z a0 hw n0 g3 mB (MB.isRef) (by unfold R16; decide) S3 rfl (Q := RV (fun w h' => mB = w ∧ g3 = h')) ⟨_, rfl, rfl, rfl⟩) ?_
  rintro _ _ ⟨rfl, rfl⟩
  refine Go.aload at_255 (q := 257) rfl rfl (MB.isRef) ?_
  refine Go.acmp_ne at_257 (q := 274) (q' := 260) (by decide) rfl rfl (MB.isRef) (MB.isRef) (fun c_ => absurd rfl c_) (fun _ => ?_)
  refine Go.aload at_260 (q := 262) rfl rfl rfl ?_
  refine Go.callVV (P := fun w h' => (Value.int iB) = w ∧ g3 = h') (argsL := []) (rest := []) (wd := 0) (Ls1 := #[.val (.ref f)]) at_262 (q := 265) rfl (w124 hw) (w125 hw) (w127 hw) (w126 hw) (w128 hw) (w39 hw) (by decide) pn20 pd20 rfl rfl S3.1.2 (fun m_ => by simp [entryFrame, mkF, argsToLocals, Value.category]) rfl (by decide) rfl (by decide) (by decide) (by decide) (fr_frontIndex l Z a0 hw n0 g3 iB (by unfold R16; decide) S3 rfl (Q := RV (fun w h' => (Value.int iB) = w ∧ g3 = h')) ⟨_, rfl, rfl, rfl⟩) ?_
  rintro _ _ ⟨rfl, rfl⟩
  refine Go.iload at_265 (q := 267) rfl rfl ?_
  refine Go.icmp_ne at_267 (q := 274) (q' := 270) (by decide) rfl rfl (fun c_ => absurd rfl c_) (fun _ => ?_)
  refine Go.iconst at_270 (q := 271) rfl (x := (1 : Int32)) (by decide) ?_
  refine Go.goto at_271 (q := 275) (by decide) rfl ?_
  refine Go.istore at_275 (q := 277) rfl (Ls' := #[.val (.int mo), .val (.int nd), .val (.int dA), .val (.int dB), .val (.int iA), .val (.int iB), .val (.ref o), .val mA, .val mB, .val (.int (1 : Int32)), .val (.int (1 : Int32)), .val (.ref b1), .val (.ref b2), .val (.ref f), .val (.int (1 : Int32))]) rfl ?_
  refine Go.iload at_277 (q := 279) rfl rfl ?_
  refine Go.zreturn at_279 (by decide) (by decide) (by decide) ?_
  rfl
set_option maxRecDepth 65536 in
set_option maxHeartbeats 40000000 in
theorem b0 (l : Launch) (Z : State) (a0 : Array Value) (hw : Hw a0 Z) (n0 : Nat) (h : Heap) (O : Old Z n0 h) (mo nd dA dB iA iB : Int32) (a_LINKED a_ASK a_FINISH a_cache a_dce : Addr) (k_cache : ClassId) (vs_cache : List Value) (F : Facts Z a_LINKED a_ASK a_FINISH a_cache a_dce k_cache vs_cache) :
    Go l Z x code maxLocals ret room_1 n0 (fun v _ => v = some (.int 1)) h 0 0 0 #[.val (.int mo), .val (.int nd), .val (.int dA), .val (.int dB), .val (.int iA), .val (.int iB), .unset, .unset, .unset, .unset, .unset, .unset, .unset, .unset, .unset] [] := by
  refine Go.new at_0 (q := 3) rfl (w0 hw) (w1 hw) (w2 hw) (by decide) (by decide) ?_
  intro h1 o e1 X1 E1 D1
  have nb : n0 ≤ o := by rw [e1]; exact O.1 ▸ O.2.1
  refine Go.dup at_3 (q := 4) rfl rfl ?_
  refine Go.callIN (P := fun h' => Old Z n0 h' ∧ Exa Z h' o "java/util/ArrayList") (argsL := []) (rest := [(.ref o)]) (wd := 1) (Ls1 := #[.val (.ref o)]) at_4 (q := 7) rfl rfl (w3 hw) (w4 hw) (w2 hw) (w5 hw) (by decide) pn1 pd1 rfl rfl (fun m_ => by simp [entryFrame, mkF, argsToLocals, Value.category]) rfl (by decide) rfl (by decide) (by decide) (by decide) (al_init l Z a0 hw n0 h1 (O.ext X1) o nb E1 (D1 (Or.inl (w22 hw)) pTn) (D1 (Or.inl (w25 hw)) pTo) a_LINKED a_ASK a_FINISH a_cache a_dce k_cache vs_cache F (Q := RN (fun h' => Old Z n0 h' ∧ Exa Z h' o "java/util/ArrayList")) (fun h' q1 q2 => ⟨rfl, q1, q2⟩)) ?_
  rintro h2 ⟨O2, L2⟩
  refine Go.astore at_7 (q := 9) rfl rfl (Ls' := #[.val (.int mo), .val (.int nd), .val (.int dA), .val (.int dB), .val (.int iA), .val (.int iB), .val (.ref o), .unset, .unset, .unset, .unset, .unset, .unset, .unset, .unset]) rfl ?_
  refine Go.iloadN at_9 (q := 10) rfl rfl ?_
  refine Go.bipush at_10 (q := 12) rfl (x := (7 : Int32)) (by decide) ?_
  refine Go.iand at_12 (q := 13) rfl ?_
  refine Go.aload at_13 (q := 15) rfl rfl rfl ?_
  refine Go.callSV (P := fun w h' => Mk Z o w ∧ h2 = h') (argsL := [(.int (mo &&& (7 : Int32))), (.ref o)]) (rest := []) (wd := 0) (Ls1 := #[.val (.int (mo &&& (7 : Int32))), .val (.ref o)]) at_15 (q := 18) rfl (w26 hw) (w27 hw) (w28 hw) (w29 hw) (by decide) pn5 pd5 rfl rfl (fun m_ => by simp [entryFrame, mkF, argsToLocals, Value.category]) rfl (by decide) rfl (by decide) (by decide) (by decide) (markOf l Z a0 hw n0 h2 O2 (mo &&& (7 : Int32)) o a_LINKED a_ASK a_FINISH a_cache a_dce k_cache vs_cache F (Q := RV (fun w h' => Mk Z o w ∧ h2 = h')) (fun m q => ⟨_, rfl, q, rfl⟩)) ?_
  rintro mA _ ⟨MA, rfl⟩
  refine Go.astore at_18 (q := 20) rfl (MA.isRef) (Ls' := #[.val (.int mo), .val (.int nd), .val (.int dA), .val (.int dB), .val (.int iA), .val (.int iB), .val (.ref o), .val mA, .unset, .unset, .unset, .unset, .unset, .unset, .unset]) (by rcases ref_cases (MA.isRef) with e_ | ⟨_, e_⟩ <;> rw [e_] <;> rfl) ?_
  refine Go.iloadN at_20 (q := 21) rfl rfl ?_
  refine Go.iconst at_21 (q := 22) rfl (x := (3 : Int32)) (by decide) ?_
  refine Go.iushr at_22 (q := 23) rfl ?_
  refine Go.bipush at_23 (q := 25) rfl (x := (7 : Int32)) (by decide) ?_
  refine Go.iand at_25 (q := 26) rfl ?_
  refine Go.aload at_26 (q := 28) rfl rfl rfl ?_
  refine Go.callSV (P := fun w h' => Mk Z o w ∧ h2 = h') (argsL := [(.int ((XT.ushr mo (3 : Int32)) &&& (7 : Int32))), (.ref o)]) (rest := []) (wd := 0) (Ls1 := #[.val (.int ((XT.ushr mo (3 : Int32)) &&& (7 : Int32))), .val (.ref o)]) at_28 (q := 31) rfl (w26 hw) (w27 hw) (w28 hw) (w29 hw) (by decide) pn5 pd5 rfl rfl (fun m_ => by simp [entryFrame, mkF, argsToLocals, Value.category]) rfl (by decide) rfl (by decide) (by decide) (by decide) (markOf l Z a0 hw n0 h2 O2 ((XT.ushr mo (3 : Int32)) &&& (7 : Int32)) o a_LINKED a_ASK a_FINISH a_cache a_dce k_cache vs_cache F (Q := RV (fun w h' => Mk Z o w ∧ h2 = h')) (fun m q => ⟨_, rfl, q, rfl⟩)) ?_
  rintro mB _ ⟨MB, rfl⟩
  refine Go.astore at_31 (q := 33) rfl (MB.isRef) (Ls' := #[.val (.int mo), .val (.int nd), .val (.int dA), .val (.int dB), .val (.int iA), .val (.int iB), .val (.ref o), .val mA, .val mB, .unset, .unset, .unset, .unset, .unset, .unset]) (by rcases ref_cases (MB.isRef) with e_ | ⟨_, e_⟩ <;> rw [e_] <;> rfl) ?_
  refine Go.iloadN at_33 (q := 34) rfl rfl ?_
  refine Go.bipush at_34 (q := 36) rfl (x := (6 : Int32)) (by decide) ?_
  refine Go.iushr at_36 (q := 37) rfl ?_
  refine Go.iconst at_37 (q := 38) rfl (x := (1 : Int32)) (by decide) ?_
  refine Go.iand at_38 (q := 39) rfl ?_
  refine Go.if_eq at_39 (q := 46) (q' := 42) (by decide) rfl rfl (fun c53 => ?_) (fun c53 => ?_)
  · skip
    refine Go.iconst at_46 (q := 47) rfl (x := (0 : Int32)) (by decide) ?_
    refine Go.istore at_47 (q := 49) rfl (Ls' := #[.val (.int mo), .val (.int nd), .val (.int dA), .val (.int dB), .val (.int iA), .val (.int iB), .val (.ref o), .val mA, .val mB, .val (.int (0 : Int32)), .unset, .unset, .unset, .unset, .unset]) rfl ?_
    refine Go.iloadN at_49 (q := 50) rfl rfl ?_
    refine Go.bipush at_50 (q := 52) rfl (x := (7 : Int32)) (by decide) ?_
    refine Go.iushr at_52 (q := 53) rfl ?_
    refine Go.iconst at_53 (q := 54) rfl (x := (1 : Int32)) (by decide) ?_
    refine Go.iand at_54 (q := 55) rfl ?_
    refine Go.if_eq at_55 (q := 62) (q' := 58) (by decide) rfl rfl (fun c54 => ?_) (fun c54 => ?_)
    · skip
      refine Go.iconst at_62 (q := 63) rfl (x := (0 : Int32)) (by decide) ?_
      refine Go.istore at_63 (q := 65) rfl (Ls' := #[.val (.int mo), .val (.int nd), .val (.int dA), .val (.int dB), .val (.int iA), .val (.int iB), .val (.ref o), .val mA, .val mB, .val (.int (0 : Int32)), .val (.int (0 : Int32)), .unset, .unset, .unset, .unset]) rfl ?_
      exact tail00 l Z a0 hw n0 h2 O2 mo nd dA dB iA iB o L2 mA mB MA MB a_LINKED a_ASK a_FINISH a_cache a_dce k_cache vs_cache F
    · skip
      refine Go.iconst at_58 (q := 59) rfl (x := (1 : Int32)) (by decide) ?_
      refine Go.goto at_59 (q := 63) (by decide) rfl ?_
      refine Go.istore at_63 (q := 65) rfl (Ls' := #[.val (.int mo), .val (.int nd), .val (.int dA), .val (.int dB), .val (.int iA), .val (.int iB), .val (.ref o), .val mA, .val mB, .val (.int (0 : Int32)), .val (.int (1 : Int32)), .unset, .unset, .unset, .unset]) rfl ?_
      exact tail01 l Z a0 hw n0 h2 O2 mo nd dA dB iA iB o L2 mA mB MA MB a_LINKED a_ASK a_FINISH a_cache a_dce k_cache vs_cache F
  · skip
    refine Go.iconst at_42 (q := 43) rfl (x := (1 : Int32)) (by decide) ?_
    refine Go.goto at_43 (q := 47) (by decide) rfl ?_
    refine Go.istore at_47 (q := 49) rfl (Ls' := #[.val (.int mo), .val (.int nd), .val (.int dA), .val (.int dB), .val (.int iA), .val (.int iB), .val (.ref o), .val mA, .val mB, .val (.int (1 : Int32)), .unset, .unset, .unset, .unset, .unset]) rfl ?_
    refine Go.iloadN at_49 (q := 50) rfl rfl ?_
    refine Go.bipush at_50 (q := 52) rfl (x := (7 : Int32)) (by decide) ?_
    refine Go.iushr at_52 (q := 53) rfl ?_
    refine Go.iconst at_53 (q := 54) rfl (x := (1 : Int32)) (by decide) ?_
    refine Go.iand at_54 (q := 55) rfl ?_
    refine Go.if_eq at_55 (q := 62) (q' := 58) (by decide) rfl rfl (fun c55 => ?_) (fun c55 => ?_)
    · skip
      refine Go.iconst at_62 (q := 63) rfl (x := (0 : Int32)) (by decide) ?_
      refine Go.istore at_63 (q := 65) rfl (Ls' := #[.val (.int mo), .val (.int nd), .val (.int dA), .val (.int dB), .val (.int iA), .val (.int iB), .val (.ref o), .val mA, .val mB, .val (.int (1 : Int32)), .val (.int (0 : Int32)), .unset, .unset, .unset, .unset]) rfl ?_
      exact tail10 l Z a0 hw n0 h2 O2 mo nd dA dB iA iB o L2 mA mB MA MB a_LINKED a_ASK a_FINISH a_cache a_dce k_cache vs_cache F
    · skip
      refine Go.iconst at_58 (q := 59) rfl (x := (1 : Int32)) (by decide) ?_
      refine Go.goto at_59 (q := 63) (by decide) rfl ?_
      refine Go.istore at_63 (q := 65) rfl (Ls' := #[.val (.int mo), .val (.int nd), .val (.int dA), .val (.int dB), .val (.int iA), .val (.int iB), .val (.ref o), .val mA, .val mB, .val (.int (1 : Int32)), .val (.int (1 : Int32)), .unset, .unset, .unset, .unset]) rfl ?_
      exact tail11 l Z a0 hw n0 h2 O2 mo nd dA dB iA iB o L2 mA mB MA MB a_LINKED a_ASK a_FINISH a_cache a_dce k_cache vs_cache F
set_option maxRecDepth 65536 in
set_option maxHeartbeats 40000000 in
theorem comes_1 {Post : Tables → Env → Array Value → State → Outcome → State → Prop} (hpost : ∀ tb e args s v u, (limb_1_1.after args s (.returned v) u = true ∧ limb_1_2.after args s (.returned v) u = true ∧ True) → FrameEnd s (.returned v) u (Jvm.fieldLocs frame_1_writes args s ++ Jvm.arrayLocs frame_1_arrays args s ++ Jvm.staticLocs frame_1_statics s) 24 256 → Post tb e args s (.returned v) u) :
    ArmFor flags0 classFile x code maxLocals ret World_1 tables_1 room_1 Calls_1 rest_1 Pre_1 Post := by
  intro l hfl _ _ p e ha hc hk s m args below hf hA hF happ hP
  obtain ⟨hcalls, hrest, hpre⟩ := hP
  obtain ⟨-, -, -, hnamed, -, -, -, hat⟩ := (Spec.applies_iff hf).mp happ
  obtain ⟨hg, hn⟩ := and_e (Jvm.Cond.before_iff.mp (show (Jvm.Cond.and given_1 narrow_1).before args s = true from hpre))
  obtain ⟨g0, hg⟩ := and_e hg
  obtain ⟨g1, hg⟩ := and_e hg
  obtain ⟨g2, hg⟩ := and_e hg
  obtain ⟨g3, hg⟩ := and_e hg
  obtain ⟨g4, hg⟩ := and_e hg
  obtain ⟨g5, hg⟩ := and_e hg
  have g6 := hg
  obtain ⟨v0, v1, v2, v3, v4, v5, rfl⟩ : ∃ v0 v1 v2 v3 v4 v5 : Value, args = #[v0, v1, v2, v3, v4, v5] := by
    have hs : args.size = 6 := by simpa [Jvm.Cond.value, given_1] using g0
    obtain ⟨L⟩ := args
    match L, hs with
    | [v0, v1, v2, v3, v4, v5], _ => exact ⟨v0, v1, v2, v3, v4, v5, rfl⟩
  have hw : Hw _ s := fun d (hd : d ∈ tables_1) => atoms_spec (ws := Jvm.Cond.code x code maxLocals ret :: tables_1) hat d (List.mem_cons_of_mem _ hd)
  have hfit : Fit s := fun {y c} hc i hi => by
    obtain ⟨ha, rfl⟩ := Array.getElem?_eq_some_iff.mp hc
    have q := List.all_eq_true.mp ((Array.all_eq_true_iff_forall_mem.mp hF) _ (Array.getElem_mem ha)) i (List.mem_range.mpr hi)
    simpa [Array.getElem?_eq_getElem hi] using q
  obtain ⟨x0, e0⟩ := is_v g1
  obtain rfl : v0 = (.int x0) := Option.some.inj e0
  obtain ⟨x1, e1⟩ := is_v g2
  obtain rfl : v1 = (.int x1) := Option.some.inj e1
  obtain ⟨x2, e2⟩ := is_v g3
  obtain rfl : v2 = (.int x2) := Option.some.inj e2
  obtain ⟨x3, e3⟩ := is_v g4
  obtain rfl : v3 = (.int x3) := Option.some.inj e3
  obtain ⟨x4, e4⟩ := is_v g5
  obtain rfl : v4 = (.int x4) := Option.some.inj e4
  obtain ⟨x5, e5⟩ := is_v g6
  obtain rfl : v5 = (.int x5) := Option.some.inj e5
  obtain ⟨q0, hn⟩ := and_e hn
  obtain ⟨q1, hn⟩ := and_e hn
  have q2 := hn
  obtain ⟨a_LINKED, ev_LINKED, S_LINKED, E_LINKED⟩ := sta_ref q0 (w39 hw) (w95 hw)
  obtain ⟨a_ASK, ev_ASK, S_ASK, E_ASK⟩ := sta_ref q1 (w39 hw) (w147 hw)
  obtain ⟨a_FINISH, ev_FINISH, S_FINISH, E_FINISH⟩ := sta_ref q2 (w39 hw) (w149 hw)
  obtain ⟨hsets, hown0⟩ := atoms_of _ (rest_1_c_eq ▸ (show rest_1_c.before _ s = true from hrest))
  have hHi := eq_int (Jvm.Cond.before_iff.mp (hsets _ (List.mem_of_getElem? (i := 12) rfl)))
  have S_high : Sta s s.heap "java/lang/Integer$IntegerCache" "high" "I" (.int 127) := Sta.start hHi (Or.inr ⟨(w35 hw), (hsets _ (List.mem_of_getElem? (i := 9) rfl))⟩)
  obtain ⟨a_cache, k_cache, vs_cache, ev_cache, S_cache, A_cache⟩ := sta_arr (Jvm.Cond.before_iff.mp (hsets _ (List.mem_of_getElem? (i := 13) rfl))) (w35 hw) (hsets _ (List.mem_of_getElem? (i := 11) rfl))
  have N_cache : vs_cache.length = 256 := arr_len ev_cache A_cache (Jvm.Cond.before_iff.mp (hsets _ (List.mem_of_getElem? (i := 15) rfl)))
  have V_cache : ∀ i, i < 256 → ∃ b, vs_cache[i]? = some (.ref b) ∧ Exa s s.heap b "java/lang/Integer" ∧ Fld s s.heap b "java/lang/Integer" "value" "I" (.int (i.toInt32 - 128)) := by
    intro i hi
    obtain ⟨r1, r2⟩ := and_e (arr_all ev_cache A_cache (Jvm.Cond.before_iff.mp (hsets _ (List.mem_of_getElem? (i := 16) rfl))) i (by rw [N_cache]; exact hi))
    obtain ⟨b, eb⟩ := exa_v r1
    have hb : vs_cache[i]? = some (.ref b) := all_elemR (sta_idx ev_cache) A_cache (by omega) eb
    refine ⟨b, hb, exa_at eb r1, ?_⟩
    exact Fld.start ((fld_at eb).symm.trans (eqv_i (by show (Term.sub (Term.index 0) (Term.int 128)).eval _ _ _ _ _ = _; simp [Term.eval]) r2))
  obtain ⟨a_dce, k_dce, vs_dce, ev_dce, S_dce, A_dce⟩ := sta_arr (Jvm.Cond.before_iff.mp (hsets _ (List.mem_of_getElem? (i := 6) rfl))) (w2 hw) (hsets _ (List.mem_of_getElem? (i := 2) rfl))
  have G := b0 l s _ hw s.heap.size s.heap (Old.start s) x0 x1 x2 x3 x4 x5 a_LINKED a_ASK a_FINISH a_cache a_dce k_cache vs_cache (show Facts s a_LINKED a_ASK a_FINISH a_cache a_dce k_cache vs_cache from ⟨S_LINKED, E_LINKED, S_ASK, E_ASK, S_FINISH, E_FINISH, S_high, S_cache, A_cache, N_cache, V_cache, S_dce⟩)
  obtain ⟨n, o, h1, h2, h3, _, L, rfl, ⟨N, rfl⟩, hq⟩ := (G.met pn0 (fun m => by simp [entryFrame, mkF, argsToLocals, Value.category, maxLocals]) tables_1) p e ha hc hk s m _ below hf ((Spec.applies_iff_loose hf).mp happ).1 ⟨rfl, State.Warmed39.refl s, rfl⟩ trivial
  refine ⟨n, _, h1, h2, h3, hpost _ _ _ _ _ _ ⟨Jvm.Cond.after_iff.mpr rfl, Jvm.Cond.after_iff.mpr (eq_i res_at (Term.int_eval (1)) rfl), trivial⟩ ⟨hq.1, hq.2.1, (hq.2.2.sift fun y hy => Or.inr (N y hy)).mono (by decide) (by decide)⟩⟩
theorem main_1_1 : Claimed_1_1 := comes_1 fun _ _ _ _ _ _ h hF => ⟨h.1, hF⟩
theorem main_1_2 : Claimed_1_2 := comes_1 fun _ _ _ _ _ _ h hF => ⟨h.2.1, hF⟩
end Jvm.Pilot.@@N@@
namespace Jvm.Pilot.@@N@@
open Jvm Jvm.ClassFile Sem Op Lib Jvm.Free Jvm.Stand Jvm.Pilot.@@N@@.Jvm.D
/-! MADE BY PROGRAM (witnessworld.py) out of the Statement's table words and the real class files: 25 classes; the members and pool entries that the words name. The judged class is class 1, her method 3. -/
namespace start1
open Jvm.ClassFile
def u (s : String) : CpInfo := .utf8 (stringToUtf16 s)
/-- a pool by its gaps: so many unusable entries, then the entry; so many at the end -/
def gap : Nat → List CpInfo → List CpInfo
  | 0, r => r
  | n + 1, r => .unusable :: gap n r
def poolList (es : List (Nat × CpInfo)) (last : Nat) : List CpInfo := es.foldr (fun e r => gap e.1 (e.2 :: r)) (gap last [])
def pool (es : List (Nat × CpInfo)) (last : Nat) : Array CpInfo := ⟨poolList es last⟩
def fileOf (pool : Array CpInfo) (this : Nat) (attrs : Array Attribute := #[]) (ms : Array MethodInfo := #[]) (fl : Nat := 33) (sup : Nat := 0) (ifs : Array Nat := #[]) (fds : Array FieldInfo := #[]) : ClassFile where
  minorVersion := 0
  majorVersion := 65
  constantPool := pool
  accessFlags := fl
  thisClass := this
  superClass := sup
  interfaces := ifs
  fields := fds
  methods := ms
  attributes := attrs
def plain (name : String) (sup : Option ClassId) : Class where
  name := name
  kind := .ordinary
  loader := none
  accessFlags := 33
  super := sup
  interfaces := #[]
  cf := none
  fields := #[]
  methods := #[]
  instanceTypes := #[]
  staticTypes := #[]
  resolved := #[]
  callSites := []
  init := .initialized
  statics := none
  mirror := none

def pool0 : Array CpInfo := pool [(5, u "<init>"), (0, u "()V"), (1, .class_ 10), (1, u "java/lang/Object")] 113

def k0c0 : Code := { maxStack := 0, maxLocals := 1, code := object_method_1_code, exceptionTable := #[], attributes := #[] }
def k0m0 : Method := { name := "<init>", desc := "()V", sig := { parameters := [], returnType := none }, accessFlags := 1, code := some k0c0 }
/-- java/lang/Object -/
def k0 : Class := { plain "java/lang/Object" none with
  accessFlags := 33
  interfaces := #[]
  cf := some (fileOf pool0 8 #[] #[{ accessFlags := 1, nameIndex := 5, descriptorIndex := 6, attributes := #[] }] 33 0 #[] #[])
  fields := #[]
  methods := #[k0m0]
  instanceTypes := #[]
  staticTypes := #[]
  resolved := Array.replicate 124 none
  statics := none }

def pool1 : Array CpInfo := pool [(2, .class_ 4), (0, .nameAndType 5 6), (0, u "java/lang/Object"), (0, u "<init>"), (0, u "()V"), (0, .fieldref 8 9), (0, .class_ 10), (0, .nameAndType 11 12), (0, u "com/example/limbstride/limbstride/Frontier"), (0, u "ASK"), (0, u "Ljava/lang/Object;"), (0, .fieldref 8 14), (0, .nameAndType 15 12), (0, u "FINISH"), (0, .fieldref 8 17), (0, .nameAndType 18 12), (0, u "LINKED"), (0, .methodref 20 21), (0, .class_ 22), (0, .nameAndType 23 24), (0, u "java/lang/Integer"), (0, u "intValue"), (0, u "()I"), (0, .class_ 26), (0, u "java/util/ArrayList"), (0, .methodref 25 3), (0, .methodref 29 30), (0, .class_ 31), (0, .nameAndType 32 33), (0, u "com/example/limbstride/limbstride/FrontierPopFrontPinLaw"), (0, u "markOf"), (0, u "(ILjava/lang/Object;)Ljava/lang/Object;"), (0, .methodref 20 35), (0, .nameAndType 36 37), (0, u "valueOf"), (0, u "(I)Ljava/lang/Integer;"), (0, .methodref 8 3), (0, .methodref 8 40), (0, .nameAndType 41 42), (0, u "pushMarkedBack"), (0, u "(Ljava/lang/Object;Ljava/lang/Object;II)V"), (0, .methodref 8 44), (0, .nameAndType 45 42), (0, u "pushMarked"), (0, .methodref 8 47), (0, .nameAndType 48 6), (0, u "popFront"), (0, .methodref 8 50), (0, .nameAndType 51 24), (0, u "size"), (0, .methodref 8 53), (0, .nameAndType 54 55), (0, u "node"), (0, u "(I)Ljava/lang/Object;"), (0, .methodref 8 57), (0, .nameAndType 58 55), (0, u "mark"), (0, .methodref 8 60), (0, .nameAndType 61 62), (0, u "frontNode"), (0, u "()Ljava/lang/Object;"), (0, .methodref 29 64), (0, .nameAndType 65 66), (0, u "holds"), (0, u "(Ljava/lang/Integer;I)Z"), (0, .methodref 8 68), (0, .nameAndType 69 24), (0, u "frontDepth"), (0, .methodref 8 71), (0, .nameAndType 72 62), (0, u "frontMark"), (0, .methodref 8 74), (0, .nameAndType 75 24), (0, u "frontIndex"), (3, u "law"), (0, u "(IIIIII)Z")] 2

def k1m0 : Method := { name := "<init>", desc := "()V", sig := { parameters := [], returnType := none }, accessFlags := 2, code := none }
def k1c1 : Code := { maxStack := 2, maxLocals := 2, code := method_2_code, exceptionTable := #[], attributes := #[] }
def k1m1 : Method := { name := "markOf", desc := "(ILjava/lang/Object;)Ljava/lang/Object;", sig := { parameters := [.int, (.object "java/lang/Object")], returnType := some (.object "java/lang/Object") }, accessFlags := 10, code := some k1c1 }
def k1c2 : Code := { maxStack := 2, maxLocals := 2, code := method_3_code, exceptionTable := #[], attributes := #[] }
def k1m2 : Method := { name := "holds", desc := "(Ljava/lang/Integer;I)Z", sig := { parameters := [(.object "java/lang/Integer"), .int], returnType := some .boolean }, accessFlags := 10, code := some k1c2 }
def k1c3 : Code := { maxStack := 5, maxLocals := 15, code := code, exceptionTable := #[], attributes := #[] }
def k1m3 : Method := { name := "law", desc := "(IIIIII)Z", sig := { parameters := [.int, .int, .int, .int, .int, .int], returnType := some .boolean }, accessFlags := 9, code := some k1c3 }
/-- com/example/limbstride/limbstride/FrontierPopFrontPinLaw -/
def k1 : Class := { plain "com/example/limbstride/limbstride/FrontierPopFrontPinLaw" (some 0) with
  accessFlags := 49
  interfaces := #[]
  cf := some (fileOf pool1 29 #[] #[{ accessFlags := 2, nameIndex := 5, descriptorIndex := 6, attributes := #[] }, { accessFlags := 10, nameIndex := 32, descriptorIndex := 33, attributes := #[] }, { accessFlags := 10, nameIndex := 65, descriptorIndex := 66, attributes := #[] }, { accessFlags := 9, nameIndex := 79, descriptorIndex := 80, attributes := #[] }] 49 2 #[] #[])
  fields := #[]
  methods := #[k1m0, k1m1, k1m2, k1m3]
  instanceTypes := #[]
  staticTypes := #[]
  resolved := Array.replicate 83 none
  statics := none }

def pool2 : Array CpInfo := pool [(8, .class_ 10), (1, u "java/lang/Iterable"), (24, .class_ 36), (0, u "java/lang/Object")] 25

/-- java/lang/Iterable -/
def k2 : Class := { plain "java/lang/Iterable" (some 0) with
  accessFlags := 1537
  interfaces := #[]
  cf := some (fileOf pool2 8 #[] #[] 1537 35 #[] #[])
  fields := #[]
  methods := #[]
  instanceTypes := #[]
  staticTypes := #[]
  resolved := Array.replicate 62 none
  statics := none }

def pool3 : Array CpInfo := pool [(10, .class_ 12), (1, u "java/util/Collection"), (47, .class_ 61), (0, u "java/lang/Object"), (0, .class_ 63), (0, u "java/lang/Iterable")] 51

/-- java/util/Collection -/
def k3 : Class := { plain "java/util/Collection" (some 0) with
  accessFlags := 1537
  interfaces := #[2]
  cf := some (fileOf pool3 10 #[] #[] 1537 60 #[62] #[])
  fields := #[]
  methods := #[]
  instanceTypes := #[]
  staticTypes := #[]
  resolved := Array.replicate 115 none
  statics := none }

def pool4 : Array CpInfo := pool [(1, .methodref 2 3), (0, .class_ 4), (0, .nameAndType 5 6), (0, u "java/lang/Object"), (0, u "<init>"), (0, u "()V"), (1, .class_ 10), (1, u "java/util/AbstractCollection"), (66, .class_ 78), (0, u "java/util/Collection")] 81

def k4c0 : Code := { maxStack := 1, maxLocals := 1, code := jdk_22_method_1_code, exceptionTable := #[], attributes := #[] }
def k4m0 : Method := { name := "<init>", desc := "()V", sig := { parameters := [], returnType := none }, accessFlags := 4, code := some k4c0 }
/-- java/util/AbstractCollection -/
def k4 : Class := { plain "java/util/AbstractCollection" (some 0) with
  accessFlags := 1057
  interfaces := #[3]
  cf := some (fileOf pool4 8 #[] #[{ accessFlags := 4, nameIndex := 5, descriptorIndex := 6, attributes := #[] }] 1057 2 #[77] #[])
  fields := #[]
  methods := #[k4m0]
  instanceTypes := #[]
  staticTypes := #[]
  resolved := Array.replicate 160 none
  statics := none }

def pool5 : Array CpInfo := pool [(8, .class_ 10), (1, u "java/util/SequencedCollection"), (15, .class_ 27), (0, u "java/lang/Object"), (0, .class_ 29), (0, u "java/util/Collection")] 27

/-- java/util/SequencedCollection -/
def k5 : Class := { plain "java/util/SequencedCollection" (some 0) with
  accessFlags := 1537
  interfaces := #[3]
  cf := some (fileOf pool5 8 #[] #[] 1537 26 #[28] #[])
  fields := #[]
  methods := #[]
  instanceTypes := #[]
  staticTypes := #[]
  resolved := Array.replicate 57 none
  statics := none }

def pool6 : Array CpInfo := pool [(8, .class_ 10), (1, u "java/util/List"), (92, .class_ 104), (0, u "java/lang/Object"), (15, .class_ 121), (0, u "java/util/SequencedCollection")] 129

/-- java/util/List -/
def k6 : Class := { plain "java/util/List" (some 0) with
  accessFlags := 1537
  interfaces := #[5]
  cf := some (fileOf pool6 8 #[] #[] 1537 103 #[120] #[])
  fields := #[]
  methods := #[]
  instanceTypes := #[]
  staticTypes := #[]
  resolved := Array.replicate 251 none
  statics := none }

def pool7 : Array CpInfo := pool [(1, .methodref 2 3), (0, .class_ 4), (0, .nameAndType 5 6), (0, u "java/util/AbstractCollection"), (0, u "<init>"), (0, u "()V"), (0, .fieldref 8 9), (0, .class_ 10), (0, .nameAndType 11 12), (0, u "java/util/AbstractList"), (0, u "modCount"), (0, u "I"), (64, .class_ 78), (0, u "java/util/AbstractList$Itr"), (3, .class_ 83), (0, u "java/util/AbstractList$ListItr"), (9, .class_ 94), (0, u "java/util/AbstractList$RandomAccessSubList"), (3, .class_ 99), (0, u "java/util/AbstractList$SubList"), (33, .class_ 134), (0, u "java/util/List"), (73, .class_ 209), (0, u "java/util/AbstractList$SubList$1"), (0, .class_ 211), (0, u "java/util/AbstractList$RandomAccessSpliterator")] 6

def k7c0 : Code := { maxStack := 2, maxLocals := 1, code := jdk_39_method_1_code, exceptionTable := #[], attributes := #[] }
def k7m0 : Method := { name := "<init>", desc := "()V", sig := { parameters := [], returnType := none }, accessFlags := 4, code := some k7c0 }
/-- java/util/AbstractList -/
def k7 : Class := { plain "java/util/AbstractList" (some 4) with
  accessFlags := 1057
  interfaces := #[6]
  cf := some (fileOf pool7 8 #[.nestMembers #[93, 98, 208, 210, 82, 77]] #[{ accessFlags := 4, nameIndex := 5, descriptorIndex := 6, attributes := #[] }] 1057 2 #[133] #[{ accessFlags := 132, nameIndex := 11, descriptorIndex := 12, attributes := #[] }])
  fields := #[{ name := "modCount", type := .int, accessFlags := 132, slot := 0, constantValue := 0 }]
  methods := #[k7m0]
  instanceTypes := #[.int]
  staticTypes := #[]
  resolved := Array.replicate 218 none
  statics := none }

def pool8 : Array CpInfo := pool [(1, .class_ 2), (0, u "java/util/RandomAccess"), (0, .class_ 4), (0, u "java/lang/Object")] 2

/-- java/util/RandomAccess -/
def k8 : Class := { plain "java/util/RandomAccess" (some 0) with
  accessFlags := 1537
  interfaces := #[]
  cf := some (fileOf pool8 1 #[] #[] 1537 3 #[] #[])
  fields := #[]
  methods := #[]
  instanceTypes := #[]
  staticTypes := #[]
  resolved := Array.replicate 7 none
  statics := none }

def pool9 : Array CpInfo := pool [(1, .class_ 2), (0, u "java/lang/Cloneable"), (0, .class_ 4), (0, u "java/lang/Object")] 2

/-- java/lang/Cloneable -/
def k9 : Class := { plain "java/lang/Cloneable" (some 0) with
  accessFlags := 1537
  interfaces := #[]
  cf := some (fileOf pool9 1 #[] #[] 1537 3 #[] #[])
  fields := #[]
  methods := #[]
  instanceTypes := #[]
  staticTypes := #[]
  resolved := Array.replicate 7 none
  statics := none }

def pool10 : Array CpInfo := pool [(1, .class_ 2), (0, u "java/io/Serializable"), (0, .class_ 4), (0, u "java/lang/Object")] 2

/-- java/io/Serializable -/
def k10 : Class := { plain "java/io/Serializable" (some 0) with
  accessFlags := 1537
  interfaces := #[]
  cf := some (fileOf pool10 1 #[] #[] 1537 3 #[] #[])
  fields := #[]
  methods := #[]
  instanceTypes := #[]
  staticTypes := #[]
  resolved := Array.replicate 7 none
  statics := none }

def pool11 : Array CpInfo := pool [(1, .methodref 2 3), (0, .class_ 4), (0, .nameAndType 5 6), (0, u "java/util/AbstractList"), (0, u "<init>"), (0, u "()V"), (2, .fieldref 10 11), (0, .class_ 12), (0, .nameAndType 13 14), (0, u "java/util/ArrayList"), (0, u "elementData"), (0, u "[Ljava/lang/Object;"), (2, u "EMPTY_ELEMENTDATA"), (21, .fieldref 10 40), (0, .nameAndType 41 14), (0, u "DEFAULTCAPACITY_EMPTY_ELEMENTDATA"), (8, u "size"), (0, u "I"), (96, .class_ 149), (0, u "java/util/List"), (112, .class_ 263), (0, u "java/util/ArrayList$ListItr"), (3, .class_ 268), (0, u "java/util/ArrayList$Itr"), (7, .class_ 277), (0, u "java/util/ArrayList$SubList"), (12, .class_ 291), (0, u "java/util/ArrayList$ArrayListSpliterator"), (37, .class_ 330), (0, u "java/util/RandomAccess"), (0, .class_ 332), (0, u "java/lang/Cloneable"), (0, .class_ 334), (0, u "java/io/Serializable"), (0, u "serialVersionUID"), (0, u "J"), (3, u "DEFAULT_CAPACITY"), (159, .class_ 501), (0, u "java/util/ArrayList$SubList$2"), (0, .class_ 503), (0, u "java/util/ArrayList$SubList$1")] 5

def k11c0 : Code := { maxStack := 2, maxLocals := 1, code := jdk_38_method_2_code, exceptionTable := #[], attributes := #[] }
def k11m0 : Method := { name := "<init>", desc := "()V", sig := { parameters := [], returnType := none }, accessFlags := 1, code := some k11c0 }
/-- java/util/ArrayList -/
def k11 : Class := { plain "java/util/ArrayList" (some 7) with
  accessFlags := 33
  interfaces := #[6, 8, 9, 10]
  cf := some (fileOf pool11 10 #[.nestMembers #[290, 276, 500, 502, 262, 267]] #[{ accessFlags := 1, nameIndex := 5, descriptorIndex := 6, attributes := #[] }] 33 2 #[148, 329, 331, 333] #[{ accessFlags := 26, nameIndex := 335, descriptorIndex := 336, attributes := #[] }, { accessFlags := 26, nameIndex := 340, descriptorIndex := 51, attributes := #[] }, { accessFlags := 26, nameIndex := 17, descriptorIndex := 14, attributes := #[] }, { accessFlags := 26, nameIndex := 41, descriptorIndex := 14, attributes := #[] }, { accessFlags := 128, nameIndex := 13, descriptorIndex := 14, attributes := #[] }, { accessFlags := 2, nameIndex := 50, descriptorIndex := 51, attributes := #[] }])
  fields := #[{ name := "serialVersionUID", type := .long, accessFlags := 26, slot := 0, constantValue := 0 }, { name := "DEFAULT_CAPACITY", type := .int, accessFlags := 26, slot := 1, constantValue := 0 }, { name := "EMPTY_ELEMENTDATA", type := (.array (.object "java/lang/Object")), accessFlags := 26, slot := 2, constantValue := 0 }, { name := "DEFAULTCAPACITY_EMPTY_ELEMENTDATA", type := (.array (.object "java/lang/Object")), accessFlags := 26, slot := 3, constantValue := 0 }, { name := "elementData", type := (.array (.object "java/lang/Object")), accessFlags := 128, slot := 1, constantValue := 0 }, { name := "size", type := .int, accessFlags := 2, slot := 2, constantValue := 0 }]
  methods := #[k11m0]
  instanceTypes := #[.int, (.array (.object "java/lang/Object")), .int]
  staticTypes := #[.long, .int, (.array (.object "java/lang/Object")), (.array (.object "java/lang/Object"))]
  resolved := Array.replicate 509 none
  statics := some 0 }

def pool12 : Array CpInfo := pool [(1, .methodref 2 3), (0, .class_ 4), (0, .nameAndType 5 6), (0, u "java/lang/Object"), (0, u "<init>"), (0, u "()V"), (1, .class_ 10), (1, u "java/lang/Number"), (2, .class_ 14), (0, u "java/io/Serializable"), (0, u "serialVersionUID"), (0, u "J")] 20

def k12c0 : Code := { maxStack := 1, maxLocals := 1, code := jdk_18_method_1_code, exceptionTable := #[], attributes := #[] }
def k12m0 : Method := { name := "<init>", desc := "()V", sig := { parameters := [], returnType := none }, accessFlags := 1, code := some k12c0 }
/-- java/lang/Number -/
def k12 : Class := { plain "java/lang/Number" (some 0) with
  accessFlags := 1057
  interfaces := #[10]
  cf := some (fileOf pool12 8 #[] #[{ accessFlags := 1, nameIndex := 5, descriptorIndex := 6, attributes := #[] }] 1057 2 #[13] #[{ accessFlags := 26, nameIndex := 15, descriptorIndex := 16, attributes := #[] }])
  fields := #[{ name := "serialVersionUID", type := .long, accessFlags := 26, slot := 0, constantValue := 0 }]
  methods := #[k12m0]
  instanceTypes := #[]
  staticTypes := #[.long]
  resolved := Array.replicate 37 none
  statics := none }

def pool13 : Array CpInfo := pool [(1, .class_ 2), (0, u "java/lang/Comparable"), (0, .class_ 4), (0, u "java/lang/Object")] 7

/-- java/lang/Comparable -/
def k13 : Class := { plain "java/lang/Comparable" (some 0) with
  accessFlags := 1537
  interfaces := #[]
  cf := some (fileOf pool13 1 #[] #[] 1537 3 #[] #[])
  fields := #[]
  methods := #[]
  instanceTypes := #[]
  staticTypes := #[]
  resolved := Array.replicate 12 none
  statics := none }

def pool14 : Array CpInfo := pool [(1, .class_ 2), (0, u "java/lang/constant/Constable"), (0, .class_ 4), (0, u "java/lang/Object")] 6

/-- java/lang/constant/Constable -/
def k14 : Class := { plain "java/lang/constant/Constable" (some 0) with
  accessFlags := 1537
  interfaces := #[]
  cf := some (fileOf pool14 1 #[] #[] 1537 3 #[] #[])
  fields := #[]
  methods := #[]
  instanceTypes := #[]
  staticTypes := #[]
  resolved := Array.replicate 11 none
  statics := none }

def pool15 : Array CpInfo := pool [(1, .class_ 2), (0, u "java/lang/constant/ConstantDesc"), (0, .class_ 4), (0, u "java/lang/Object")] 32

/-- java/lang/constant/ConstantDesc -/
def k15 : Class := { plain "java/lang/constant/ConstantDesc" (some 0) with
  accessFlags := 1537
  interfaces := #[]
  cf := some (fileOf pool15 1 #[] #[] 1537 3 #[] #[])
  fields := #[]
  methods := #[]
  instanceTypes := #[]
  staticTypes := #[]
  resolved := Array.replicate 37 none
  statics := none }

def pool16 : Array CpInfo := pool [(1, .class_ 2), (0, u "java/lang/Integer"), (16, u "digits"), (0, u "[C"), (46, u "<init>"), (17, u "DigitOnes"), (0, u "[B"), (2, u "DigitTens"), (10, .nameAndType 67 101), (0, u "()V"), (19, u "()I"), (65, u "valueOf"), (0, u "(I)Ljava/lang/Integer;"), (0, .class_ 190), (0, u "java/lang/Integer$IntegerCache"), (0, .fieldref 189 192), (0, .nameAndType 193 194), (0, u "high"), (0, u "I"), (0, .fieldref 189 196), (0, .nameAndType 197 198), (0, u "cache"), (0, u "[Ljava/lang/Integer;"), (0, .methodref 1 200), (0, .nameAndType 67 201), (0, u "(I)V"), (0, .methodref 203 100), (0, .class_ 204), (0, u "java/lang/Number"), (0, .fieldref 1 206), (0, .nameAndType 207 194), (0, u "value"), (5, u "intValue"), (88, u "TYPE"), (0, u "Ljava/lang/Class;"), (0, .class_ 305), (0, u "java/lang/Comparable"), (0, .class_ 307), (0, u "java/lang/constant/Constable"), (0, .class_ 309), (0, u "java/lang/constant/ConstantDesc"), (0, u "MIN_VALUE"), (1, u "MAX_VALUE"), (3, u "SIZE"), (1, u "BYTES"), (1, u "serialVersionUID"), (0, u "J")] 131

def k16c0 : Code := { maxStack := 3, maxLocals := 1, code := jdk_33_method_22_code, exceptionTable := #[], attributes := #[] }
def k16m0 : Method := { name := "valueOf", desc := "(I)Ljava/lang/Integer;", sig := { parameters := [.int], returnType := some (.object "java/lang/Integer") }, accessFlags := 9, code := some k16c0 }
def k16c1 : Code := { maxStack := 2, maxLocals := 2, code := jdk_33_method_23_code, exceptionTable := #[], attributes := #[] }
def k16m1 : Method := { name := "<init>", desc := "(I)V", sig := { parameters := [.int], returnType := none }, accessFlags := 1, code := some k16c1 }
def k16c2 : Code := { maxStack := 1, maxLocals := 1, code := jdk_33_method_27_code, exceptionTable := #[], attributes := #[] }
def k16m2 : Method := { name := "intValue", desc := "()I", sig := { parameters := [], returnType := some .int }, accessFlags := 1, code := some k16c2 }
/-- java/lang/Integer -/
def k16 : Class := { plain "java/lang/Integer" (some 12) with
  accessFlags := 49
  interfaces := #[13, 14, 15]
  cf := some (fileOf pool16 1 #[.nestMembers #[189]] #[{ accessFlags := 9, nameIndex := 187, descriptorIndex := 188, attributes := #[] }, { accessFlags := 1, nameIndex := 67, descriptorIndex := 201, attributes := #[] }, { accessFlags := 1, nameIndex := 213, descriptorIndex := 121, attributes := #[] }] 49 203 #[304, 306, 308] #[{ accessFlags := 25, nameIndex := 310, descriptorIndex := 194, attributes := #[] }, { accessFlags := 25, nameIndex := 312, descriptorIndex := 194, attributes := #[] }, { accessFlags := 25, nameIndex := 302, descriptorIndex := 303, attributes := #[] }, { accessFlags := 24, nameIndex := 19, descriptorIndex := 20, attributes := #[] }, { accessFlags := 24, nameIndex := 89, descriptorIndex := 86, attributes := #[] }, { accessFlags := 24, nameIndex := 85, descriptorIndex := 86, attributes := #[] }, { accessFlags := 18, nameIndex := 207, descriptorIndex := 194, attributes := #[] }, { accessFlags := 25, nameIndex := 316, descriptorIndex := 194, attributes := #[] }, { accessFlags := 25, nameIndex := 318, descriptorIndex := 194, attributes := #[] }, { accessFlags := 26, nameIndex := 320, descriptorIndex := 321, attributes := #[] }])
  fields := #[{ name := "MIN_VALUE", type := .int, accessFlags := 25, slot := 0, constantValue := 0 }, { name := "MAX_VALUE", type := .int, accessFlags := 25, slot := 1, constantValue := 0 }, { name := "TYPE", type := (.object "java/lang/Class"), accessFlags := 25, slot := 2, constantValue := 0 }, { name := "digits", type := (.array .char), accessFlags := 24, slot := 3, constantValue := 0 }, { name := "DigitTens", type := (.array .byte), accessFlags := 24, slot := 4, constantValue := 0 }, { name := "DigitOnes", type := (.array .byte), accessFlags := 24, slot := 5, constantValue := 0 }, { name := "value", type := .int, accessFlags := 18, slot := 0, constantValue := 0 }, { name := "SIZE", type := .int, accessFlags := 25, slot := 6, constantValue := 0 }, { name := "BYTES", type := .int, accessFlags := 25, slot := 7, constantValue := 0 }, { name := "serialVersionUID", type := .long, accessFlags := 26, slot := 8, constantValue := 0 }]
  methods := #[k16m0, k16m1, k16m2]
  instanceTypes := #[.int]
  staticTypes := #[.int, .int, (.object "java/lang/Class"), (.array .char), (.array .byte), (.array .byte), .int, .int, .long]
  resolved := Array.replicate 453 none
  statics := none }

def pool17 : Array CpInfo := pool [(2, .class_ 4), (1, u "java/lang/Object"), (0, u "<init>"), (0, u "()V"), (0, .class_ 8), (0, u "java/lang/Integer"), (7, .class_ 18), (1, u "java/lang/Integer$IntegerCache"), (0, u "$assertionsDisabled"), (0, u "Z"), (26, u "high"), (0, u "I"), (8, u "archivedCache"), (0, u "[Ljava/lang/Integer;"), (12, u "cache"), (0, u "low")] 27

def k17m0 : Method := { name := "<init>", desc := "()V", sig := { parameters := [], returnType := none }, accessFlags := 2, code := none }
/-- java/lang/Integer$IntegerCache -/
def k17 : Class := { plain "java/lang/Integer$IntegerCache" (some 0) with
  accessFlags := 48
  interfaces := #[]
  cf := some (fileOf pool17 16 #[.nestHost 7] #[{ accessFlags := 2, nameIndex := 5, descriptorIndex := 6, attributes := #[] }] 48 2 #[] #[{ accessFlags := 24, nameIndex := 72, descriptorIndex := 48, attributes := #[] }, { accessFlags := 24, nameIndex := 47, descriptorIndex := 48, attributes := #[] }, { accessFlags := 24, nameIndex := 71, descriptorIndex := 58, attributes := #[] }, { accessFlags := 8, nameIndex := 57, descriptorIndex := 58, attributes := #[] }, { accessFlags := 4120, nameIndex := 19, descriptorIndex := 20, attributes := #[] }])
  fields := #[{ name := "low", type := .int, accessFlags := 24, slot := 0, constantValue := 0 }, { name := "high", type := .int, accessFlags := 24, slot := 1, constantValue := 0 }, { name := "cache", type := (.array (.object "java/lang/Integer")), accessFlags := 24, slot := 2, constantValue := 0 }, { name := "archivedCache", type := (.array (.object "java/lang/Integer")), accessFlags := 8, slot := 3, constantValue := 0 }, { name := "$assertionsDisabled", type := .boolean, accessFlags := 4120, slot := 4, constantValue := 0 }]
  methods := #[k17m0]
  instanceTypes := #[]
  staticTypes := #[.int, .int, (.array (.object "java/lang/Integer")), (.array (.object "java/lang/Integer")), .boolean]
  resolved := Array.replicate 100 none
  statics := some 1 }

def pool18 : Array CpInfo := pool [(1, .methodref 2 3), (0, .class_ 4), (0, .nameAndType 5 6), (0, u "java/lang/Object"), (0, u "<init>"), (0, u "()V"), (0, .class_ 8), (0, u "com/example/limbstride/limbstride/Frontier"), (0, .methodref 7 10), (0, .nameAndType 11 12), (0, u "allocate"), (0, u "(I)V"), (0, .fieldref 7 14), (0, .nameAndType 15 16), (0, u "nodes"), (0, u "[Ljava/lang/Object;"), (0, .fieldref 7 18), (0, .nameAndType 19 20), (0, u "depths"), (0, u "[I"), (0, .fieldref 7 22), (0, .nameAndType 23 16), (0, u "marks"), (0, .fieldref 7 25), (0, .nameAndType 26 20), (0, u "indexes"), (0, .fieldref 7 28), (0, .nameAndType 29 30), (0, u "head"), (0, u "I"), (0, .fieldref 7 32), (0, .nameAndType 33 30), (0, u "tail"), (0, .methodref 7 35), (0, .nameAndType 36 37), (0, u "slot"), (0, u "(I)I"), (5, u "LINKED"), (0, u "Ljava/lang/Object;"), (2, u "frontNode"), (0, u "()Ljava/lang/Object;"), (2, u "popFront"), (6, .class_ 59), (0, u "com/example/limbstride/limbstride/Frontier$Iterated"), (21, u "frontIndex"), (0, u "()I"), (3, u "(I)Ljava/lang/Object;"), (2, u "size"), (35, u "ASK"), (2, u "FINISH"), (0, u "FIRST_CAPACITY"), (6, u "node"), (3, u "mark"), (2, u "frontDepth"), (0, u "frontMark"), (9, u "pushMarked"), (0, u "(Ljava/lang/Object;Ljava/lang/Object;II)V"), (1, u "pushMarkedBack")] 16

def k18c0 : Code := { maxStack := 2, maxLocals := 1, code := prog_9_method_1_code, exceptionTable := #[], attributes := #[] }
def k18m0 : Method := { name := "<init>", desc := "()V", sig := { parameters := [], returnType := none }, accessFlags := 0, code := some k18c0 }
def k18c1 : Code := { maxStack := 2, maxLocals := 2, code := prog_9_method_2_code, exceptionTable := #[], attributes := #[] }
def k18m1 : Method := { name := "allocate", desc := "(I)V", sig := { parameters := [.int], returnType := none }, accessFlags := 2, code := some k18c1 }
def k18c2 : Code := { maxStack := 3, maxLocals := 1, code := prog_9_method_3_code, exceptionTable := #[], attributes := #[] }
def k18m2 : Method := { name := "size", desc := "()I", sig := { parameters := [], returnType := some .int }, accessFlags := 0, code := some k18c2 }
def k18c3 : Code := { maxStack := 3, maxLocals := 2, code := prog_9_method_5_code, exceptionTable := #[], attributes := #[] }
def k18m3 : Method := { name := "node", desc := "(I)Ljava/lang/Object;", sig := { parameters := [.int], returnType := some (.object "java/lang/Object") }, accessFlags := 0, code := some k18c3 }
def k18c4 : Code := { maxStack := 3, maxLocals := 2, code := prog_9_method_7_code, exceptionTable := #[], attributes := #[] }
def k18m4 : Method := { name := "mark", desc := "(I)Ljava/lang/Object;", sig := { parameters := [.int], returnType := some (.object "java/lang/Object") }, accessFlags := 0, code := some k18c4 }
def k18c5 : Code := { maxStack := 2, maxLocals := 1, code := prog_9_method_9_code, exceptionTable := #[], attributes := #[] }
def k18m5 : Method := { name := "frontNode", desc := "()Ljava/lang/Object;", sig := { parameters := [], returnType := some (.object "java/lang/Object") }, accessFlags := 0, code := some k18c5 }
def k18c6 : Code := { maxStack := 2, maxLocals := 1, code := prog_9_method_10_code, exceptionTable := #[], attributes := #[] }
def k18m6 : Method := { name := "frontDepth", desc := "()I", sig := { parameters := [], returnType := some .int }, accessFlags := 0, code := some k18c6 }
def k18c7 : Code := { maxStack := 2, maxLocals := 1, code := prog_9_method_11_code, exceptionTable := #[], attributes := #[] }
def k18m7 : Method := { name := "frontMark", desc := "()Ljava/lang/Object;", sig := { parameters := [], returnType := some (.object "java/lang/Object") }, accessFlags := 0, code := some k18c7 }
def k18c8 : Code := { maxStack := 2, maxLocals := 1, code := prog_9_method_12_code, exceptionTable := #[], attributes := #[] }
def k18m8 : Method := { name := "frontIndex", desc := "()I", sig := { parameters := [], returnType := some .int }, accessFlags := 0, code := some k18c8 }
def k18c9 : Code := { maxStack := 4, maxLocals := 5, code := prog_9_method_18_code, exceptionTable := #[], attributes := #[] }
def k18m9 : Method := { name := "pushMarked", desc := "(Ljava/lang/Object;Ljava/lang/Object;II)V", sig := { parameters := [(.object "java/lang/Object"), (.object "java/lang/Object"), .int, .int], returnType := none }, accessFlags := 0, code := some k18c9 }
def k18c10 : Code := { maxStack := 4, maxLocals := 5, code := prog_9_method_19_code, exceptionTable := #[], attributes := #[] }
def k18m10 : Method := { name := "pushMarkedBack", desc := "(Ljava/lang/Object;Ljava/lang/Object;II)V", sig := { parameters := [(.object "java/lang/Object"), (.object "java/lang/Object"), .int, .int], returnType := none }, accessFlags := 0, code := some k18c10 }
def k18c11 : Code := { maxStack := 4, maxLocals := 1, code := prog_9_method_20_code, exceptionTable := #[], attributes := #[] }
def k18m11 : Method := { name := "popFront", desc := "()V", sig := { parameters := [], returnType := none }, accessFlags := 0, code := some k18c11 }
def k18c12 : Code := { maxStack := 3, maxLocals := 2, code := prog_9_method_28_code, exceptionTable := #[], attributes := #[] }
def k18m12 : Method := { name := "slot", desc := "(I)I", sig := { parameters := [.int], returnType := some .int }, accessFlags := 2, code := some k18c12 }
/-- com/example/limbstride/limbstride/Frontier -/
def k18 : Class := { plain "com/example/limbstride/limbstride/Frontier" (some 0) with
  accessFlags := 32
  interfaces := #[]
  cf := some (fileOf pool18 7 #[.nestMembers #[58]] #[{ accessFlags := 0, nameIndex := 5, descriptorIndex := 6, attributes := #[] }, { accessFlags := 2, nameIndex := 11, descriptorIndex := 12, attributes := #[] }, { accessFlags := 0, nameIndex := 89, descriptorIndex := 82, attributes := #[] }, { accessFlags := 0, nameIndex := 136, descriptorIndex := 86, attributes := #[] }, { accessFlags := 0, nameIndex := 140, descriptorIndex := 86, attributes := #[] }, { accessFlags := 0, nameIndex := 47, descriptorIndex := 48, attributes := #[] }, { accessFlags := 0, nameIndex := 143, descriptorIndex := 82, attributes := #[] }, { accessFlags := 0, nameIndex := 144, descriptorIndex := 48, attributes := #[] }, { accessFlags := 0, nameIndex := 81, descriptorIndex := 82, attributes := #[] }, { accessFlags := 0, nameIndex := 154, descriptorIndex := 155, attributes := #[] }, { accessFlags := 0, nameIndex := 157, descriptorIndex := 155, attributes := #[] }, { accessFlags := 0, nameIndex := 51, descriptorIndex := 6, attributes := #[] }, { accessFlags := 2, nameIndex := 36, descriptorIndex := 37, attributes := #[] }] 32 2 #[] #[{ accessFlags := 24, nameIndex := 125, descriptorIndex := 44, attributes := #[] }, { accessFlags := 24, nameIndex := 128, descriptorIndex := 44, attributes := #[] }, { accessFlags := 24, nameIndex := 43, descriptorIndex := 44, attributes := #[] }, { accessFlags := 26, nameIndex := 129, descriptorIndex := 30, attributes := #[] }, { accessFlags := 2, nameIndex := 15, descriptorIndex := 16, attributes := #[] }, { accessFlags := 2, nameIndex := 19, descriptorIndex := 20, attributes := #[] }, { accessFlags := 2, nameIndex := 23, descriptorIndex := 16, attributes := #[] }, { accessFlags := 2, nameIndex := 26, descriptorIndex := 20, attributes := #[] }, { accessFlags := 2, nameIndex := 29, descriptorIndex := 30, attributes := #[] }, { accessFlags := 2, nameIndex := 33, descriptorIndex := 30, attributes := #[] }])
  fields := #[{ name := "ASK", type := (.object "java/lang/Object"), accessFlags := 24, slot := 0, constantValue := 0 }, { name := "FINISH", type := (.object "java/lang/Object"), accessFlags := 24, slot := 1, constantValue := 0 }, { name := "LINKED", type := (.object "java/lang/Object"), accessFlags := 24, slot := 2, constantValue := 0 }, { name := "FIRST_CAPACITY", type := .int, accessFlags := 26, slot := 3, constantValue := 0 }, { name := "nodes", type := (.array (.object "java/lang/Object")), accessFlags := 2, slot := 0, constantValue := 0 }, { name := "depths", type := (.array .int), accessFlags := 2, slot := 1, constantValue := 0 }, { name := "marks", type := (.array (.object "java/lang/Object")), accessFlags := 2, slot := 2, constantValue := 0 }, { name := "indexes", type := (.array .int), accessFlags := 2, slot := 3, constantValue := 0 }, { name := "head", type := .int, accessFlags := 2, slot := 4, constantValue := 0 }, { name := "tail", type := .int, accessFlags := 2, slot := 5, constantValue := 0 }]
  methods := #[k18m0, k18m1, k18m2, k18m3, k18m4, k18m5, k18m6, k18m7, k18m8, k18m9, k18m10, k18m11, k18m12]
  instanceTypes := #[(.array (.object "java/lang/Object")), (.array .int), (.array (.object "java/lang/Object")), (.array .int), .int, .int]
  staticTypes := #[(.object "java/lang/Object"), (.object "java/lang/Object"), (.object "java/lang/Object"), .int]
  resolved := Array.replicate 174 none
  statics := some 2 }

/-- the primitive byte -/
def k19 : Class := { plain "byte" none with kind := .primitive 'B', accessFlags := 0x411 }
/-- [B -/
def k20 : Class := { plain "[B" (some 0) with kind := .array 19 .byte, interfaces := #[9, 10], accessFlags := 1041 }

/-- the primitive int -/
def k21 : Class := { plain "int" none with kind := .primitive 'I', accessFlags := 0x411 }
/-- [I -/
def k22 : Class := { plain "[I" (some 0) with kind := .array 21 .int, interfaces := #[9, 10], accessFlags := 1041 }

/-- [Ljava/lang/Integer; -/
def k23 : Class := { plain "[Ljava/lang/Integer;" (some 0) with kind := .array 16 (.object "java/lang/Integer"), interfaces := #[9, 10], accessFlags := 1041 }

/-- [Ljava/lang/Object; -/
def k24 : Class := { plain "[Ljava/lang/Object;" (some 0) with kind := .array 0 (.object "java/lang/Object"), interfaces := #[9, 10], accessFlags := 1041 }

def heap : Heap := #[{ cls := 11, slots := #[.long 0, .int 0, .ref 263, .ref 264], vm := .statics 11 },
  { cls := 17, slots := #[.int 0, .int 127, .ref 6, .null, .int 0], vm := .statics 17 },
  { cls := 18, slots := #[.ref 4, .ref 5, .ref 3, .int 0], vm := .statics 18 },
  { cls := 0, slots := #[], vm := .none },
  { cls := 0, slots := #[], vm := .none },
  { cls := 0, slots := #[], vm := .none },
  { cls := 23, slots := #[.ref 7, .ref 8, .ref 9, .ref 10, .ref 11, .ref 12, .ref 13, .ref 14, .ref 15, .ref 16, .ref 17, .ref 18, .ref 19, .ref 20, .ref 21, .ref 22, .ref 23, .ref 24, .ref 25, .ref 26, .ref 27, .ref 28, .ref 29, .ref 30, .ref 31, .ref 32, .ref 33, .ref 34, .ref 35, .ref 36, .ref 37, .ref 38, .ref 39, .ref 40, .ref 41, .ref 42, .ref 43, .ref 44, .ref 45, .ref 46, .ref 47, .ref 48, .ref 49, .ref 50, .ref 51, .ref 52, .ref 53, .ref 54, .ref 55, .ref 56, .ref 57, .ref 58, .ref 59, .ref 60, .ref 61, .ref 62, .ref 63, .ref 64, .ref 65, .ref 66, .ref 67, .ref 68, .ref 69, .ref 70, .ref 71, .ref 72, .ref 73, .ref 74, .ref 75, .ref 76, .ref 77, .ref 78, .ref 79, .ref 80, .ref 81, .ref 82, .ref 83, .ref 84, .ref 85, .ref 86, .ref 87, .ref 88, .ref 89, .ref 90, .ref 91, .ref 92, .ref 93, .ref 94, .ref 95, .ref 96, .ref 97, .ref 98, .ref 99, .ref 100, .ref 101, .ref 102, .ref 103, .ref 104, .ref 105, .ref 106, .ref 107, .ref 108, .ref 109, .ref 110, .ref 111, .ref 112, .ref 113, .ref 114, .ref 115, .ref 116, .ref 117, .ref 118, .ref 119, .ref 120, .ref 121, .ref 122, .ref 123, .ref 124, .ref 125, .ref 126, .ref 127, .ref 128, .ref 129, .ref 130, .ref 131, .ref 132, .ref 133, .ref 134, .ref 135, .ref 136, .ref 137, .ref 138, .ref 139, .ref 140, .ref 141, .ref 142, .ref 143, .ref 144, .ref 145, .ref 146, .ref 147, .ref 148, .ref 149, .ref 150, .ref 151, .ref 152, .ref 153, .ref 154, .ref 155, .ref 156, .ref 157, .ref 158, .ref 159, .ref 160, .ref 161, .ref 162, .ref 163, .ref 164, .ref 165, .ref 166, .ref 167, .ref 168, .ref 169, .ref 170, .ref 171, .ref 172, .ref 173, .ref 174, .ref 175, .ref 176, .ref 177, .ref 178, .ref 179, .ref 180, .ref 181, .ref 182, .ref 183, .ref 184, .ref 185, .ref 186, .ref 187, .ref 188, .ref 189, .ref 190, .ref 191, .ref 192, .ref 193, .ref 194, .ref 195, .ref 196, .ref 197, .ref 198, .ref 199, .ref 200, .ref 201, .ref 202, .ref 203, .ref 204, .ref 205, .ref 206, .ref 207, .ref 208, .ref 209, .ref 210, .ref 211, .ref 212, .ref 213, .ref 214, .ref 215, .ref 216, .ref 217, .ref 218, .ref 219, .ref 220, .ref 221, .ref 222, .ref 223, .ref 224, .ref 225, .ref 226, .ref 227, .ref 228, .ref 229, .ref 230, .ref 231, .ref 232, .ref 233, .ref 234, .ref 235, .ref 236, .ref 237, .ref 238, .ref 239, .ref 240, .ref 241, .ref 242, .ref 243, .ref 244, .ref 245, .ref 246, .ref 247, .ref 248, .ref 249, .ref 250, .ref 251, .ref 252, .ref 253, .ref 254, .ref 255, .ref 256, .ref 257, .ref 258, .ref 259, .ref 260, .ref 261, .ref 262], vm := .none },
  { cls := 16, slots := #[.int (-128)], vm := .none },
  { cls := 16, slots := #[.int (-127)], vm := .none },
  { cls := 16, slots := #[.int (-126)], vm := .none },
  { cls := 16, slots := #[.int (-125)], vm := .none },
  { cls := 16, slots := #[.int (-124)], vm := .none },
  { cls := 16, slots := #[.int (-123)], vm := .none },
  { cls := 16, slots := #[.int (-122)], vm := .none },
  { cls := 16, slots := #[.int (-121)], vm := .none },
  { cls := 16, slots := #[.int (-120)], vm := .none },
  { cls := 16, slots := #[.int (-119)], vm := .none },
  { cls := 16, slots := #[.int (-118)], vm := .none },
  { cls := 16, slots := #[.int (-117)], vm := .none },
  { cls := 16, slots := #[.int (-116)], vm := .none },
  { cls := 16, slots := #[.int (-115)], vm := .none },
  { cls := 16, slots := #[.int (-114)], vm := .none },
  { cls := 16, slots := #[.int (-113)], vm := .none },
  { cls := 16, slots := #[.int (-112)], vm := .none },
  { cls := 16, slots := #[.int (-111)], vm := .none },
  { cls := 16, slots := #[.int (-110)], vm := .none },
  { cls := 16, slots := #[.int (-109)], vm := .none },
  { cls := 16, slots := #[.int (-108)], vm := .none },
  { cls := 16, slots := #[.int (-107)], vm := .none },
  { cls := 16, slots := #[.int (-106)], vm := .none },
  { cls := 16, slots := #[.int (-105)], vm := .none },
  { cls := 16, slots := #[.int (-104)], vm := .none },
  { cls := 16, slots := #[.int (-103)], vm := .none },
  { cls := 16, slots := #[.int (-102)], vm := .none },
  { cls := 16, slots := #[.int (-101)], vm := .none },
  { cls := 16, slots := #[.int (-100)], vm := .none },
  { cls := 16, slots := #[.int (-99)], vm := .none },
  { cls := 16, slots := #[.int (-98)], vm := .none },
  { cls := 16, slots := #[.int (-97)], vm := .none },
  { cls := 16, slots := #[.int (-96)], vm := .none },
  { cls := 16, slots := #[.int (-95)], vm := .none },
  { cls := 16, slots := #[.int (-94)], vm := .none },
  { cls := 16, slots := #[.int (-93)], vm := .none },
  { cls := 16, slots := #[.int (-92)], vm := .none },
  { cls := 16, slots := #[.int (-91)], vm := .none },
  { cls := 16, slots := #[.int (-90)], vm := .none },
  { cls := 16, slots := #[.int (-89)], vm := .none },
  { cls := 16, slots := #[.int (-88)], vm := .none },
  { cls := 16, slots := #[.int (-87)], vm := .none },
  { cls := 16, slots := #[.int (-86)], vm := .none },
  { cls := 16, slots := #[.int (-85)], vm := .none },
  { cls := 16, slots := #[.int (-84)], vm := .none },
  { cls := 16, slots := #[.int (-83)], vm := .none },
  { cls := 16, slots := #[.int (-82)], vm := .none },
  { cls := 16, slots := #[.int (-81)], vm := .none },
  { cls := 16, slots := #[.int (-80)], vm := .none },
  { cls := 16, slots := #[.int (-79)], vm := .none },
  { cls := 16, slots := #[.int (-78)], vm := .none },
  { cls := 16, slots := #[.int (-77)], vm := .none },
  { cls := 16, slots := #[.int (-76)], vm := .none },
  { cls := 16, slots := #[.int (-75)], vm := .none },
  { cls := 16, slots := #[.int (-74)], vm := .none },
  { cls := 16, slots := #[.int (-73)], vm := .none },
  { cls := 16, slots := #[.int (-72)], vm := .none },
  { cls := 16, slots := #[.int (-71)], vm := .none },
  { cls := 16, slots := #[.int (-70)], vm := .none },
  { cls := 16, slots := #[.int (-69)], vm := .none },
  { cls := 16, slots := #[.int (-68)], vm := .none },
  { cls := 16, slots := #[.int (-67)], vm := .none },
  { cls := 16, slots := #[.int (-66)], vm := .none },
  { cls := 16, slots := #[.int (-65)], vm := .none },
  { cls := 16, slots := #[.int (-64)], vm := .none },
  { cls := 16, slots := #[.int (-63)], vm := .none },
  { cls := 16, slots := #[.int (-62)], vm := .none },
  { cls := 16, slots := #[.int (-61)], vm := .none },
  { cls := 16, slots := #[.int (-60)], vm := .none },
  { cls := 16, slots := #[.int (-59)], vm := .none },
  { cls := 16, slots := #[.int (-58)], vm := .none },
  { cls := 16, slots := #[.int (-57)], vm := .none },
  { cls := 16, slots := #[.int (-56)], vm := .none },
  { cls := 16, slots := #[.int (-55)], vm := .none },
  { cls := 16, slots := #[.int (-54)], vm := .none },
  { cls := 16, slots := #[.int (-53)], vm := .none },
  { cls := 16, slots := #[.int (-52)], vm := .none },
  { cls := 16, slots := #[.int (-51)], vm := .none },
  { cls := 16, slots := #[.int (-50)], vm := .none },
  { cls := 16, slots := #[.int (-49)], vm := .none },
  { cls := 16, slots := #[.int (-48)], vm := .none },
  { cls := 16, slots := #[.int (-47)], vm := .none },
  { cls := 16, slots := #[.int (-46)], vm := .none },
  { cls := 16, slots := #[.int (-45)], vm := .none },
  { cls := 16, slots := #[.int (-44)], vm := .none },
  { cls := 16, slots := #[.int (-43)], vm := .none },
  { cls := 16, slots := #[.int (-42)], vm := .none },
  { cls := 16, slots := #[.int (-41)], vm := .none },
  { cls := 16, slots := #[.int (-40)], vm := .none },
  { cls := 16, slots := #[.int (-39)], vm := .none },
  { cls := 16, slots := #[.int (-38)], vm := .none },
  { cls := 16, slots := #[.int (-37)], vm := .none },
  { cls := 16, slots := #[.int (-36)], vm := .none },
  { cls := 16, slots := #[.int (-35)], vm := .none },
  { cls := 16, slots := #[.int (-34)], vm := .none },
  { cls := 16, slots := #[.int (-33)], vm := .none },
  { cls := 16, slots := #[.int (-32)], vm := .none },
  { cls := 16, slots := #[.int (-31)], vm := .none },
  { cls := 16, slots := #[.int (-30)], vm := .none },
  { cls := 16, slots := #[.int (-29)], vm := .none },
  { cls := 16, slots := #[.int (-28)], vm := .none },
  { cls := 16, slots := #[.int (-27)], vm := .none },
  { cls := 16, slots := #[.int (-26)], vm := .none },
  { cls := 16, slots := #[.int (-25)], vm := .none },
  { cls := 16, slots := #[.int (-24)], vm := .none },
  { cls := 16, slots := #[.int (-23)], vm := .none },
  { cls := 16, slots := #[.int (-22)], vm := .none },
  { cls := 16, slots := #[.int (-21)], vm := .none },
  { cls := 16, slots := #[.int (-20)], vm := .none },
  { cls := 16, slots := #[.int (-19)], vm := .none },
  { cls := 16, slots := #[.int (-18)], vm := .none },
  { cls := 16, slots := #[.int (-17)], vm := .none },
  { cls := 16, slots := #[.int (-16)], vm := .none },
  { cls := 16, slots := #[.int (-15)], vm := .none },
  { cls := 16, slots := #[.int (-14)], vm := .none },
  { cls := 16, slots := #[.int (-13)], vm := .none },
  { cls := 16, slots := #[.int (-12)], vm := .none },
  { cls := 16, slots := #[.int (-11)], vm := .none },
  { cls := 16, slots := #[.int (-10)], vm := .none },
  { cls := 16, slots := #[.int (-9)], vm := .none },
  { cls := 16, slots := #[.int (-8)], vm := .none },
  { cls := 16, slots := #[.int (-7)], vm := .none },
  { cls := 16, slots := #[.int (-6)], vm := .none },
  { cls := 16, slots := #[.int (-5)], vm := .none },
  { cls := 16, slots := #[.int (-4)], vm := .none },
  { cls := 16, slots := #[.int (-3)], vm := .none },
  { cls := 16, slots := #[.int (-2)], vm := .none },
  { cls := 16, slots := #[.int (-1)], vm := .none },
  { cls := 16, slots := #[.int 0], vm := .none },
  { cls := 16, slots := #[.int 1], vm := .none },
  { cls := 16, slots := #[.int 2], vm := .none },
  { cls := 16, slots := #[.int 3], vm := .none },
  { cls := 16, slots := #[.int 4], vm := .none },
  { cls := 16, slots := #[.int 5], vm := .none },
  { cls := 16, slots := #[.int 6], vm := .none },
  { cls := 16, slots := #[.int 7], vm := .none },
  { cls := 16, slots := #[.int 8], vm := .none },
  { cls := 16, slots := #[.int 9], vm := .none },
  { cls := 16, slots := #[.int 10], vm := .none },
  { cls := 16, slots := #[.int 11], vm := .none },
  { cls := 16, slots := #[.int 12], vm := .none },
  { cls := 16, slots := #[.int 13], vm := .none },
  { cls := 16, slots := #[.int 14], vm := .none },
  { cls := 16, slots := #[.int 15], vm := .none },
  { cls := 16, slots := #[.int 16], vm := .none },
  { cls := 16, slots := #[.int 17], vm := .none },
  { cls := 16, slots := #[.int 18], vm := .none },
  { cls := 16, slots := #[.int 19], vm := .none },
  { cls := 16, slots := #[.int 20], vm := .none },
  { cls := 16, slots := #[.int 21], vm := .none },
  { cls := 16, slots := #[.int 22], vm := .none },
  { cls := 16, slots := #[.int 23], vm := .none },
  { cls := 16, slots := #[.int 24], vm := .none },
  { cls := 16, slots := #[.int 25], vm := .none },
  { cls := 16, slots := #[.int 26], vm := .none },
  { cls := 16, slots := #[.int 27], vm := .none },
  { cls := 16, slots := #[.int 28], vm := .none },
  { cls := 16, slots := #[.int 29], vm := .none },
  { cls := 16, slots := #[.int 30], vm := .none },
  { cls := 16, slots := #[.int 31], vm := .none },
  { cls := 16, slots := #[.int 32], vm := .none },
  { cls := 16, slots := #[.int 33], vm := .none },
  { cls := 16, slots := #[.int 34], vm := .none },
  { cls := 16, slots := #[.int 35], vm := .none },
  { cls := 16, slots := #[.int 36], vm := .none },
  { cls := 16, slots := #[.int 37], vm := .none },
  { cls := 16, slots := #[.int 38], vm := .none },
  { cls := 16, slots := #[.int 39], vm := .none },
  { cls := 16, slots := #[.int 40], vm := .none },
  { cls := 16, slots := #[.int 41], vm := .none },
  { cls := 16, slots := #[.int 42], vm := .none },
  { cls := 16, slots := #[.int 43], vm := .none },
  { cls := 16, slots := #[.int 44], vm := .none },
  { cls := 16, slots := #[.int 45], vm := .none },
  { cls := 16, slots := #[.int 46], vm := .none },
  { cls := 16, slots := #[.int 47], vm := .none },
  { cls := 16, slots := #[.int 48], vm := .none },
  { cls := 16, slots := #[.int 49], vm := .none },
  { cls := 16, slots := #[.int 50], vm := .none },
  { cls := 16, slots := #[.int 51], vm := .none },
  { cls := 16, slots := #[.int 52], vm := .none },
  { cls := 16, slots := #[.int 53], vm := .none },
  { cls := 16, slots := #[.int 54], vm := .none },
  { cls := 16, slots := #[.int 55], vm := .none },
  { cls := 16, slots := #[.int 56], vm := .none },
  { cls := 16, slots := #[.int 57], vm := .none },
  { cls := 16, slots := #[.int 58], vm := .none },
  { cls := 16, slots := #[.int 59], vm := .none },
  { cls := 16, slots := #[.int 60], vm := .none },
  { cls := 16, slots := #[.int 61], vm := .none },
  { cls := 16, slots := #[.int 62], vm := .none },
  { cls := 16, slots := #[.int 63], vm := .none },
  { cls := 16, slots := #[.int 64], vm := .none },
  { cls := 16, slots := #[.int 65], vm := .none },
  { cls := 16, slots := #[.int 66], vm := .none },
  { cls := 16, slots := #[.int 67], vm := .none },
  { cls := 16, slots := #[.int 68], vm := .none },
  { cls := 16, slots := #[.int 69], vm := .none },
  { cls := 16, slots := #[.int 70], vm := .none },
  { cls := 16, slots := #[.int 71], vm := .none },
  { cls := 16, slots := #[.int 72], vm := .none },
  { cls := 16, slots := #[.int 73], vm := .none },
  { cls := 16, slots := #[.int 74], vm := .none },
  { cls := 16, slots := #[.int 75], vm := .none },
  { cls := 16, slots := #[.int 76], vm := .none },
  { cls := 16, slots := #[.int 77], vm := .none },
  { cls := 16, slots := #[.int 78], vm := .none },
  { cls := 16, slots := #[.int 79], vm := .none },
  { cls := 16, slots := #[.int 80], vm := .none },
  { cls := 16, slots := #[.int 81], vm := .none },
  { cls := 16, slots := #[.int 82], vm := .none },
  { cls := 16, slots := #[.int 83], vm := .none },
  { cls := 16, slots := #[.int 84], vm := .none },
  { cls := 16, slots := #[.int 85], vm := .none },
  { cls := 16, slots := #[.int 86], vm := .none },
  { cls := 16, slots := #[.int 87], vm := .none },
  { cls := 16, slots := #[.int 88], vm := .none },
  { cls := 16, slots := #[.int 89], vm := .none },
  { cls := 16, slots := #[.int 90], vm := .none },
  { cls := 16, slots := #[.int 91], vm := .none },
  { cls := 16, slots := #[.int 92], vm := .none },
  { cls := 16, slots := #[.int 93], vm := .none },
  { cls := 16, slots := #[.int 94], vm := .none },
  { cls := 16, slots := #[.int 95], vm := .none },
  { cls := 16, slots := #[.int 96], vm := .none },
  { cls := 16, slots := #[.int 97], vm := .none },
  { cls := 16, slots := #[.int 98], vm := .none },
  { cls := 16, slots := #[.int 99], vm := .none },
  { cls := 16, slots := #[.int 100], vm := .none },
  { cls := 16, slots := #[.int 101], vm := .none },
  { cls := 16, slots := #[.int 102], vm := .none },
  { cls := 16, slots := #[.int 103], vm := .none },
  { cls := 16, slots := #[.int 104], vm := .none },
  { cls := 16, slots := #[.int 105], vm := .none },
  { cls := 16, slots := #[.int 106], vm := .none },
  { cls := 16, slots := #[.int 107], vm := .none },
  { cls := 16, slots := #[.int 108], vm := .none },
  { cls := 16, slots := #[.int 109], vm := .none },
  { cls := 16, slots := #[.int 110], vm := .none },
  { cls := 16, slots := #[.int 111], vm := .none },
  { cls := 16, slots := #[.int 112], vm := .none },
  { cls := 16, slots := #[.int 113], vm := .none },
  { cls := 16, slots := #[.int 114], vm := .none },
  { cls := 16, slots := #[.int 115], vm := .none },
  { cls := 16, slots := #[.int 116], vm := .none },
  { cls := 16, slots := #[.int 117], vm := .none },
  { cls := 16, slots := #[.int 118], vm := .none },
  { cls := 16, slots := #[.int 119], vm := .none },
  { cls := 16, slots := #[.int 120], vm := .none },
  { cls := 16, slots := #[.int 121], vm := .none },
  { cls := 16, slots := #[.int 122], vm := .none },
  { cls := 16, slots := #[.int 123], vm := .none },
  { cls := 16, slots := #[.int 124], vm := .none },
  { cls := 16, slots := #[.int 125], vm := .none },
  { cls := 16, slots := #[.int 126], vm := .none },
  { cls := 16, slots := #[.int 127], vm := .none },
  { cls := 24, slots := #[], vm := .none },
  { cls := 24, slots := #[], vm := .none }]
def classes : Array Class := #[k0, k1, k2, k3, k4, k5, k6, k7, k8, k9, k10, k11, k12, k13, k14, k15, k16, k17, k18, k19, k20, k21, k22, k23, k24]
def interned : List (Array UInt16 × Addr) := []
def slotsUsed : Nat := 525
def theMethod : MethodId := ⟨1, 3⟩
def args0 : Array Value := #[.int 5, .int 7, .int 1, .int 2, .int 3, .int 4]
def aboutOver (below : List Frame) : State where
  vm := { classes := classes, interned := interned.toArray }
  heap := heap
  slotsUsed := slotsUsed
  threads := #[{ frames := .invoking theMethod args0 :: below }]
def below0 : List Frame := [.native { method := ⟨0, 0⟩, args := #[] }]
def about1 : State := aboutOver below0
def p0 : Program := .bare "" "" ""
def e0 : Env := launch0.env 0 0 0
theorem w_frames : about1.frames = Frame.invoking theMethod args0 :: below0 := rfl
set_option maxRecDepth 65536 in
theorem w_args : argsFit about1.vm theMethod args0 = true := by decide +kernel
set_option maxRecDepth 65536 in
theorem w_heap : heapFits about1 = true := by decide +kernel
set_option maxRecDepth 65536 in
theorem w_runnable : about1.curStatus? = some .runnable := by decide +kernel
set_option maxRecDepth 65536 in
theorem w_alone : about1.alone = true := by decide +kernel
set_option maxRecDepth 65536 in
theorem w_named : about1.methodNamed? x = some theMethod := by decide +kernel
set_option maxRecDepth 65536 in
theorem w_hears : about1.hears theMethod below0 = true := by decide +kernel
set_option maxRecDepth 65536 in
theorem w_ripe : about1.ripe theMethod args0 below0 = true := by decide +kernel
theorem w_running : about1.status = .running := rfl
set_option maxRecDepth 65536 in
theorem w_room : about1.hasRoom e0.platform room_1 = true :=
  launch0.hasRoom_least _ room_1 (by decide +kernel) (by decide +kernel) (by decide +kernel) (by decide +kernel) (by decide +kernel) (by decide +kernel)
theorem allAtoms_all (ts : List Jvm.Cond) (a : Array Jvm.Value) (st : Jvm.State) : (allAtoms ts).before a st = ts.all (fun c => c.before a st) := by
  induction ts with
  | nil => rfl
  | cons c t ih =>
    show (Jvm.Cond.and c (allAtoms t)).before a st = _
    rw [Jvm.Cond.before_and, ih, List.all_cons]
def words1 : List Jvm.Cond := Jvm.Cond.code x code maxLocals ret :: tables_1
/-- a 'code' word, met by the world's own term for the bytes: nothing is compared byte by byte -/
theorem code_word {y : MethodName} {bytes : ByteArray} {mx : Nat} {rt : Option FieldType} {a : Array Value} {s : State} {m : MethodId} {meth : Method} {c : Code} (h1 : s.methodNamed? y = some m) (h2 : s.vm.method? m = some meth) (h3 : meth.code = some c) (h4 : c.code = bytes)
    (h5 : (c.maxLocals == mx && c.exceptionTable.isEmpty && decide (c.maxStack ≤ mostOperands) && decide (meth.sig.returnType = rt) && !meth.locks && decide (parseMethodDescriptor y.desc = some meth.sig)) = true) : (Jvm.Cond.code y bytes mx rt).before a s = true := by
  simp only [Bool.and_eq_true, beq_iff_eq, Bool.not_eq_true', decide_eq_true_eq] at h5
  obtain ⟨⟨⟨⟨⟨g1, g2⟩, g3⟩, g4⟩, g5⟩, g6⟩ := h5
  simp [Cond.before, Cond.holds, Cond.value, h1, h2, h3, h4, g1, g2, g3, g4, g5, g6]
def isCode : Jvm.Cond → Bool
  | .code _ _ _ _ => true
  | _ => false
theorem all_split {L : List Jvm.Cond} {P : Jvm.Cond → Bool} (h1 : L.all (fun c => isCode c || P c) = true) (h2 : ∀ c ∈ L.filter isCode, P c = true) : L.all P = true := by
  refine List.all_eq_true.mpr fun c hc => ?_
  have h := List.all_eq_true.mp h1 c hc
  rcases Bool.eq_false_or_eq_true (isCode c) with hi | hi
  · exact h2 c (List.mem_filter.mpr ⟨hc, hi⟩)
  · simpa [hi] using h
set_option maxRecDepth 65536 in
theorem w_c0 : (Jvm.Cond.code x code maxLocals ret).before args0 about1 = true := code_word (m := ⟨1, 3⟩) (meth := k1m3) (c := k1c3) (by decide +kernel) rfl rfl rfl (by decide +kernel)
set_option maxRecDepth 65536 in
theorem w_c1 : (Jvm.Cond.code ({ cls := "java/util/ArrayList", name := "<init>", desc := "()V" } : Jvm.MethodName) jdk_38_method_2_code (1 : Nat) (Option.none : Option Jvm.ClassFile.FieldType)).before args0 about1 = true := code_word (m := ⟨11, 0⟩) (meth := k11m0) (c := k11c0) (by decide +kernel) rfl rfl rfl (by decide +kernel)
set_option maxRecDepth 65536 in
theorem w_c2 : (Jvm.Cond.code ({ cls := "java/util/AbstractList", name := "<init>", desc := "()V" } : Jvm.MethodName) jdk_39_method_1_code (1 : Nat) (Option.none : Option Jvm.ClassFile.FieldType)).before args0 about1 = true := code_word (m := ⟨7, 0⟩) (meth := k7m0) (c := k7c0) (by decide +kernel) rfl rfl rfl (by decide +kernel)
set_option maxRecDepth 65536 in
theorem w_c3 : (Jvm.Cond.code ({ cls := "java/util/AbstractCollection", name := "<init>", desc := "()V" } : Jvm.MethodName) jdk_22_method_1_code (1 : Nat) (Option.none : Option Jvm.ClassFile.FieldType)).before args0 about1 = true := code_word (m := ⟨4, 0⟩) (meth := k4m0) (c := k4c0) (by decide +kernel) rfl rfl rfl (by decide +kernel)
set_option maxRecDepth 65536 in
theorem w_c4 : (Jvm.Cond.code ({ cls := "java/lang/Object", name := "<init>", desc := "()V" } : Jvm.MethodName) object_method_1_code (1 : Nat) (Option.none : Option Jvm.ClassFile.FieldType)).before args0 about1 = true := code_word (m := ⟨0, 0⟩) (meth := k0m0) (c := k0c0) (by decide +kernel) rfl rfl rfl (by decide +kernel)
set_option maxRecDepth 65536 in
theorem w_c5 : (Jvm.Cond.code ({ cls := "com/example/limbstride/limbstride/FrontierPopFrontPinLaw", name := "markOf", desc := "(ILjava/lang/Object;)Ljava/lang/Object;" } : Jvm.MethodName) method_2_code (2 : Nat) (Option.some (Jvm.ClassFile.FieldType.object "java/lang/Object"))).before args0 about1 = true := code_word (m := ⟨1, 1⟩) (meth := k1m1) (c := k1c1) (by decide +kernel) rfl rfl rfl (by decide +kernel)
set_option maxRecDepth 65536 in
theorem w_c6 : (Jvm.Cond.code ({ cls := "java/lang/Integer", name := "valueOf", desc := "(I)Ljava/lang/Integer;" } : Jvm.MethodName) jdk_33_method_22_code (1 : Nat) (Option.some (Jvm.ClassFile.FieldType.object "java/lang/Integer"))).before args0 about1 = true := code_word (m := ⟨16, 0⟩) (meth := k16m0) (c := k16c0) (by decide +kernel) rfl rfl rfl (by decide +kernel)
set_option maxRecDepth 65536 in
theorem w_c7 : (Jvm.Cond.code ({ cls := "com/example/limbstride/limbstride/Frontier", name := "<init>", desc := "()V" } : Jvm.MethodName) prog_9_method_1_code (1 : Nat) (Option.none : Option Jvm.ClassFile.FieldType)).before args0 about1 = true := code_word (m := ⟨18, 0⟩) (meth := k18m0) (c := k18c0) (by decide +kernel) rfl rfl rfl (by decide +kernel)
set_option maxRecDepth 65536 in
theorem w_c8 : (Jvm.Cond.code ({ cls := "com/example/limbstride/limbstride/Frontier", name := "allocate", desc := "(I)V" } : Jvm.MethodName) prog_9_method_2_code (2 : Nat) (Option.none : Option Jvm.ClassFile.FieldType)).before args0 about1 = true := code_word (m := ⟨18, 1⟩) (meth := k18m1) (c := k18c1) (by decide +kernel) rfl rfl rfl (by decide +kernel)
set_option maxRecDepth 65536 in
theorem w_c9 : (Jvm.Cond.code ({ cls := "com/example/limbstride/limbstride/Frontier", name := "pushMarkedBack", desc := "(Ljava/lang/Object;Ljava/lang/Object;II)V" } : Jvm.MethodName) prog_9_method_19_code (5 : Nat) (Option.none : Option Jvm.ClassFile.FieldType)).before args0 about1 = true := code_word (m := ⟨18, 10⟩) (meth := k18m10) (c := k18c10) (by decide +kernel) rfl rfl rfl (by decide +kernel)
set_option maxRecDepth 65536 in
theorem w_c10 : (Jvm.Cond.code ({ cls := "com/example/limbstride/limbstride/Frontier", name := "popFront", desc := "()V" } : Jvm.MethodName) prog_9_method_20_code (1 : Nat) (Option.none : Option Jvm.ClassFile.FieldType)).before args0 about1 = true := code_word (m := ⟨18, 11⟩) (meth := k18m11) (c := k18c11) (by decide +kernel) rfl rfl rfl (by decide +kernel)
set_option maxRecDepth 65536 in
theorem w_c11 : (Jvm.Cond.code ({ cls := "com/example/limbstride/limbstride/Frontier", name := "size", desc := "()I" } : Jvm.MethodName) prog_9_method_3_code (1 : Nat) (Option.some Jvm.ClassFile.FieldType.int)).before args0 about1 = true := code_word (m := ⟨18, 2⟩) (meth := k18m2) (c := k18c2) (by decide +kernel) rfl rfl rfl (by decide +kernel)
set_option maxRecDepth 65536 in
theorem w_c12 : (Jvm.Cond.code ({ cls := "com/example/limbstride/limbstride/Frontier", name := "node", desc := "(I)Ljava/lang/Object;" } : Jvm.MethodName) prog_9_method_5_code (2 : Nat) (Option.some (Jvm.ClassFile.FieldType.object "java/lang/Object"))).before args0 about1 = true := code_word (m := ⟨18, 3⟩) (meth := k18m3) (c := k18c3) (by decide +kernel) rfl rfl rfl (by decide +kernel)
set_option maxRecDepth 65536 in
theorem w_c13 : (Jvm.Cond.code ({ cls := "com/example/limbstride/limbstride/Frontier", name := "slot", desc := "(I)I" } : Jvm.MethodName) prog_9_method_28_code (2 : Nat) (Option.some Jvm.ClassFile.FieldType.int)).before args0 about1 = true := code_word (m := ⟨18, 12⟩) (meth := k18m12) (c := k18c12) (by decide +kernel) rfl rfl rfl (by decide +kernel)
set_option maxRecDepth 65536 in
theorem w_c14 : (Jvm.Cond.code ({ cls := "com/example/limbstride/limbstride/Frontier", name := "mark", desc := "(I)Ljava/lang/Object;" } : Jvm.MethodName) prog_9_method_7_code (2 : Nat) (Option.some (Jvm.ClassFile.FieldType.object "java/lang/Object"))).before args0 about1 = true := code_word (m := ⟨18, 4⟩) (meth := k18m4) (c := k18c4) (by decide +kernel) rfl rfl rfl (by decide +kernel)
set_option maxRecDepth 65536 in
theorem w_c15 : (Jvm.Cond.code ({ cls := "com/example/limbstride/limbstride/Frontier", name := "frontNode", desc := "()Ljava/lang/Object;" } : Jvm.MethodName) prog_9_method_9_code (1 : Nat) (Option.some (Jvm.ClassFile.FieldType.object "java/lang/Object"))).before args0 about1 = true := code_word (m := ⟨18, 5⟩) (meth := k18m5) (c := k18c5) (by decide +kernel) rfl rfl rfl (by decide +kernel)
set_option maxRecDepth 65536 in
theorem w_c16 : (Jvm.Cond.code ({ cls := "com/example/limbstride/limbstride/FrontierPopFrontPinLaw", name := "holds", desc := "(Ljava/lang/Integer;I)Z" } : Jvm.MethodName) method_3_code (2 : Nat) (Option.some Jvm.ClassFile.FieldType.boolean)).before args0 about1 = true := code_word (m := ⟨1, 2⟩) (meth := k1m2) (c := k1c2) (by decide +kernel) rfl rfl rfl (by decide +kernel)
set_option maxRecDepth 65536 in
theorem w_c17 : (Jvm.Cond.code ({ cls := "java/lang/Integer", name := "intValue", desc := "()I" } : Jvm.MethodName) jdk_33_method_27_code (1 : Nat) (Option.some Jvm.ClassFile.FieldType.int)).before args0 about1 = true := code_word (m := ⟨16, 2⟩) (meth := k16m2) (c := k16c2) (by decide +kernel) rfl rfl rfl (by decide +kernel)
set_option maxRecDepth 65536 in
theorem w_c18 : (Jvm.Cond.code ({ cls := "com/example/limbstride/limbstride/Frontier", name := "frontDepth", desc := "()I" } : Jvm.MethodName) prog_9_method_10_code (1 : Nat) (Option.some Jvm.ClassFile.FieldType.int)).before args0 about1 = true := code_word (m := ⟨18, 6⟩) (meth := k18m6) (c := k18c6) (by decide +kernel) rfl rfl rfl (by decide +kernel)
set_option maxRecDepth 65536 in
theorem w_c19 : (Jvm.Cond.code ({ cls := "com/example/limbstride/limbstride/Frontier", name := "frontMark", desc := "()Ljava/lang/Object;" } : Jvm.MethodName) prog_9_method_11_code (1 : Nat) (Option.some (Jvm.ClassFile.FieldType.object "java/lang/Object"))).before args0 about1 = true := code_word (m := ⟨18, 7⟩) (meth := k18m7) (c := k18c7) (by decide +kernel) rfl rfl rfl (by decide +kernel)
set_option maxRecDepth 65536 in
theorem w_c20 : (Jvm.Cond.code ({ cls := "com/example/limbstride/limbstride/Frontier", name := "frontIndex", desc := "()I" } : Jvm.MethodName) prog_9_method_12_code (1 : Nat) (Option.some Jvm.ClassFile.FieldType.int)).before args0 about1 = true := code_word (m := ⟨18, 8⟩) (meth := k18m8) (c := k18c8) (by decide +kernel) rfl rfl rfl (by decide +kernel)
set_option maxRecDepth 65536 in
theorem w_c21 : (Jvm.Cond.code ({ cls := "java/lang/Integer", name := "<init>", desc := "(I)V" } : Jvm.MethodName) jdk_33_method_23_code (2 : Nat) (Option.none : Option Jvm.ClassFile.FieldType)).before args0 about1 = true := code_word (m := ⟨16, 1⟩) (meth := k16m1) (c := k16c1) (by decide +kernel) rfl rfl rfl (by decide +kernel)
set_option maxRecDepth 65536 in
theorem w_c22 : (Jvm.Cond.code ({ cls := "java/lang/Number", name := "<init>", desc := "()V" } : Jvm.MethodName) jdk_18_method_1_code (1 : Nat) (Option.none : Option Jvm.ClassFile.FieldType)).before args0 about1 = true := code_word (m := ⟨12, 0⟩) (meth := k12m0) (c := k12c0) (by decide +kernel) rfl rfl rfl (by decide +kernel)
set_option maxRecDepth 65536 in
theorem w_c23 : (Jvm.Cond.code ({ cls := "com/example/limbstride/limbstride/Frontier", name := "pushMarked", desc := "(Ljava/lang/Object;Ljava/lang/Object;II)V" } : Jvm.MethodName) prog_9_method_18_code (5 : Nat) (Option.none : Option Jvm.ClassFile.FieldType)).before args0 about1 = true := code_word (m := ⟨18, 9⟩) (meth := k18m9) (c := k18c9) (by decide +kernel) rfl rfl rfl (by decide +kernel)
def codes1 : List Jvm.Cond := [Jvm.Cond.code x code maxLocals ret, Jvm.Cond.code ({ cls := "java/util/ArrayList", name := "<init>", desc := "()V" } : Jvm.MethodName) jdk_38_method_2_code (1 : Nat) (Option.none : Option Jvm.ClassFile.FieldType), Jvm.Cond.code ({ cls := "java/util/AbstractList", name := "<init>", desc := "()V" } : Jvm.MethodName) jdk_39_method_1_code (1 : Nat) (Option.none : Option Jvm.ClassFile.FieldType), Jvm.Cond.code ({ cls := "java/util/AbstractCollection", name := "<init>", desc := "()V" } : Jvm.MethodName) jdk_22_method_1_code (1 : Nat) (Option.none : Option Jvm.ClassFile.FieldType), Jvm.Cond.code ({ cls := "java/lang/Object", name := "<init>", desc := "()V" } : Jvm.MethodName) object_method_1_code (1 : Nat) (Option.none : Option Jvm.ClassFile.FieldType), Jvm.Cond.code ({ cls := "com/example/limbstride/limbstride/FrontierPopFrontPinLaw", name := "markOf", desc := "(ILjava/lang/Object;)Ljava/lang/Object;" } : Jvm.MethodName) method_2_code (2 : Nat) (Option.some (Jvm.ClassFile.FieldType.object "java/lang/Object")), Jvm.Cond.code ({ cls := "java/lang/Integer", name := "valueOf", desc := "(I)Ljava/lang/Integer;" } : Jvm.MethodName) jdk_33_method_22_code (1 : Nat) (Option.some (Jvm.ClassFile.FieldType.object "java/lang/Integer")), Jvm.Cond.code ({ cls := "com/example/limbstride/limbstride/Frontier", name := "<init>", desc := "()V" } : Jvm.MethodName) prog_9_method_1_code (1 : Nat) (Option.none : Option Jvm.ClassFile.FieldType), Jvm.Cond.code ({ cls := "com/example/limbstride/limbstride/Frontier", name := "allocate", desc := "(I)V" } : Jvm.MethodName) prog_9_method_2_code (2 : Nat) (Option.none : Option Jvm.ClassFile.FieldType), Jvm.Cond.code ({ cls := "com/example/limbstride/limbstride/Frontier", name := "pushMarkedBack", desc := "(Ljava/lang/Object;Ljava/lang/Object;II)V" } : Jvm.MethodName) prog_9_method_19_code (5 : Nat) (Option.none : Option Jvm.ClassFile.FieldType), Jvm.Cond.code ({ cls := "com/example/limbstride/limbstride/Frontier", name := "popFront", desc := "()V" } : Jvm.MethodName) prog_9_method_20_code (1 : Nat) (Option.none : Option Jvm.ClassFile.FieldType), Jvm.Cond.code ({ cls := "com/example/limbstride/limbstride/Frontier", name := "size", desc := "()I" } : Jvm.MethodName) prog_9_method_3_code (1 : Nat) (Option.some Jvm.ClassFile.FieldType.int), Jvm.Cond.code ({ cls := "com/example/limbstride/limbstride/Frontier", name := "node", desc := "(I)Ljava/lang/Object;" } : Jvm.MethodName) prog_9_method_5_code (2 : Nat) (Option.some (Jvm.ClassFile.FieldType.object "java/lang/Object")), Jvm.Cond.code ({ cls := "com/example/limbstride/limbstride/Frontier", name := "slot", desc := "(I)I" } : Jvm.MethodName) prog_9_method_28_code (2 : Nat) (Option.some Jvm.ClassFile.FieldType.int), Jvm.Cond.code ({ cls := "com/example/limbstride/limbstride/Frontier", name := "mark", desc := "(I)Ljava/lang/Object;" } : Jvm.MethodName) prog_9_method_7_code (2 : Nat) (Option.some (Jvm.ClassFile.FieldType.object "java/lang/Object")), Jvm.Cond.code ({ cls := "com/example/limbstride/limbstride/Frontier", name := "frontNode", desc := "()Ljava/lang/Object;" } : Jvm.MethodName) prog_9_method_9_code (1 : Nat) (Option.some (Jvm.ClassFile.FieldType.object "java/lang/Object")), Jvm.Cond.code ({ cls := "com/example/limbstride/limbstride/FrontierPopFrontPinLaw", name := "holds", desc := "(Ljava/lang/Integer;I)Z" } : Jvm.MethodName) method_3_code (2 : Nat) (Option.some Jvm.ClassFile.FieldType.boolean), Jvm.Cond.code ({ cls := "java/lang/Integer", name := "intValue", desc := "()I" } : Jvm.MethodName) jdk_33_method_27_code (1 : Nat) (Option.some Jvm.ClassFile.FieldType.int), Jvm.Cond.code ({ cls := "com/example/limbstride/limbstride/Frontier", name := "frontDepth", desc := "()I" } : Jvm.MethodName) prog_9_method_10_code (1 : Nat) (Option.some Jvm.ClassFile.FieldType.int), Jvm.Cond.code ({ cls := "com/example/limbstride/limbstride/Frontier", name := "frontMark", desc := "()Ljava/lang/Object;" } : Jvm.MethodName) prog_9_method_11_code (1 : Nat) (Option.some (Jvm.ClassFile.FieldType.object "java/lang/Object")), Jvm.Cond.code ({ cls := "com/example/limbstride/limbstride/Frontier", name := "frontIndex", desc := "()I" } : Jvm.MethodName) prog_9_method_12_code (1 : Nat) (Option.some Jvm.ClassFile.FieldType.int), Jvm.Cond.code ({ cls := "java/lang/Integer", name := "<init>", desc := "(I)V" } : Jvm.MethodName) jdk_33_method_23_code (2 : Nat) (Option.none : Option Jvm.ClassFile.FieldType), Jvm.Cond.code ({ cls := "java/lang/Number", name := "<init>", desc := "()V" } : Jvm.MethodName) jdk_18_method_1_code (1 : Nat) (Option.none : Option Jvm.ClassFile.FieldType), Jvm.Cond.code ({ cls := "com/example/limbstride/limbstride/Frontier", name := "pushMarked", desc := "(Ljava/lang/Object;Ljava/lang/Object;II)V" } : Jvm.MethodName) prog_9_method_18_code (5 : Nat) (Option.none : Option Jvm.ClassFile.FieldType)]
set_option maxRecDepth 65536 in
theorem codes_eq : words1.filter isCode = codes1 := rfl
theorem w_codes : ∀ c ∈ words1.filter isCode, c.before args0 about1 = true := by
  rw [codes_eq]
  intro c hc
  simp only [codes1, List.mem_cons, List.not_mem_nil, or_false] at hc
  rcases hc with rfl | rfl | rfl | rfl | rfl | rfl | rfl | rfl | rfl | rfl | rfl | rfl | rfl | rfl | rfl | rfl | rfl | rfl | rfl | rfl | rfl | rfl | rfl | rfl
  · exact w_c0
  · exact w_c1
  · exact w_c2
  · exact w_c3
  · exact w_c4
  · exact w_c5
  · exact w_c6
  · exact w_c7
  · exact w_c8
  · exact w_c9
  · exact w_c10
  · exact w_c11
  · exact w_c12
  · exact w_c13
  · exact w_c14
  · exact w_c15
  · exact w_c16
  · exact w_c17
  · exact w_c18
  · exact w_c19
  · exact w_c20
  · exact w_c21
  · exact w_c22
  · exact w_c23
set_option maxRecDepth 65536 in
theorem w_t1 : (words1.take 24).all (fun c => isCode c || c.before args0 about1) = true := by decide +kernel
set_option maxRecDepth 65536 in
theorem w_t2 : ((words1.drop 24).take 24).all (fun c => isCode c || c.before args0 about1) = true := by decide +kernel
set_option maxRecDepth 65536 in
theorem w_t3 : (((words1.drop 24).drop 24).take 24).all (fun c => isCode c || c.before args0 about1) = true := by decide +kernel
set_option maxRecDepth 65536 in
theorem w_t4 : ((((words1.drop 24).drop 24).drop 24).take 24).all (fun c => isCode c || c.before args0 about1) = true := by decide +kernel
set_option maxRecDepth 65536 in
theorem w_t5 : (((((words1.drop 24).drop 24).drop 24).drop 24).take 24).all (fun c => isCode c || c.before args0 about1) = true := by decide +kernel
set_option maxRecDepth 65536 in
theorem w_t6 : ((((((words1.drop 24).drop 24).drop 24).drop 24).drop 24).take 24).all (fun c => isCode c || c.before args0 about1) = true := by decide +kernel
set_option maxRecDepth 65536 in
theorem w_t7 : ((((((words1.drop 24).drop 24).drop 24).drop 24).drop 24).drop 24).all (fun c => isCode c || c.before args0 about1) = true := by decide +kernel
theorem w_tables : (allAtoms (Jvm.Cond.code x code maxLocals ret :: tables_1)).before args0 about1 = true := by
  rw [allAtoms_all]
  show words1.all (fun c => c.before args0 about1) = true
  refine all_split ?_ w_codes
  rw [← List.take_append_drop 24 words1, List.all_append, w_t1, ← List.take_append_drop 24 (words1.drop 24), List.all_append, w_t2, ← List.take_append_drop 24 ((words1.drop 24).drop 24), List.all_append, w_t3, ← List.take_append_drop 24 (((words1.drop 24).drop 24).drop 24), List.all_append, w_t4, ← List.take_append_drop 24 ((((words1.drop 24).drop 24).drop 24).drop 24), List.all_append, w_t5, ← List.take_append_drop 24 (((((words1.drop 24).drop 24).drop 24).drop 24).drop 24), List.all_append, w_t6, w_t7]
  rfl
set_option maxRecDepth 65536 in
theorem w_rest : rest_1_c.before args0 about1 = true := by decide +kernel
set_option maxRecDepth 65536 in
theorem w_case : (Jvm.Cond.and given_1 narrow_1).before args0 about1 = true := by decide +kernel
theorem w_applies : (headSpec (Jvm.Cond.code x code maxLocals ret :: tables_1) room_1).applies x e0.platform about1 = true :=
  (Spec.applies_iff w_frames).mpr ⟨w_running, w_runnable, w_alone, w_named, w_hears, w_ripe, w_room, w_tables⟩
theorem atStart : AtStart classFile x code maxLocals ret World_1 tables_1 room_1 Calls_1 rest_1 Pre_1 launch0 p0 e0 about1 theMethod args0 below0 :=
  ⟨lists_1, trivial, launch0.admits_env _ _ _, launch0.least_env, fairChoices_fair.cas, fairChoices_fair.clock, w_frames, w_args, w_heap, w_applies, trivial, w_rest, w_case⟩
end start1
theorem witness_1 : WitnessClaimed_1 := ⟨start1.p0, start1.e0, start1.about1, start1.theMethod, start1.args0, start1.below0, start1.atStart⟩
end Jvm.Pilot.@@N@@
