import JvmDerived
import JvmDerived.Pilot.@@N@@Statement
import JvmDerived.Pilot.@@N@@Code
set_option linter.unusedVariables false
set_option linter.unusedSimpArgs false
namespace Jvm.OwnKit
open Jvm Jvm.ClassFile Sem Op Lib Jvm.Free Jvm.Stand Jvm.LawKit Jvm.RoadKit
/-- the run from here ends in a return that answers Q, having written new cells alone -/
def Ends (p : Program) (e : Env) (below : List Frame) (s : State) (n0 : Nat) (Q : Option Value → Heap → Prop) (k n : Nat) (T : State) (g : JFrame) : Prop :=
  ∃ s₂ o, Steps p.tables e below (T.setTop g) s₂ ∧ s₂.status = .running ∧ Ended s₂ below o ∧ ∃ v L, o = .returned v ∧ (Fr n0 L ∧ Q v s₂.heap) ∧ FrameEnd s o s₂ L k n
theorem Ends.step {p : Program} {e : Env} {below : List Frame} {s : State} {n0 : Nat} {Q : Option Value → Heap → Prop} {k n : Nat} {T T' : State} {g g' : JFrame} (K : Ends p e below s n0 Q k n T' g') (f : ∀ t, Steps p.tables e below (T'.setTop g') t → Steps p.tables e below (T.setTop g) t) : Ends p e below s n0 Q k n T g := by
  obtain ⟨s2, o, h, r⟩ := K
  exact ⟨s2, o, f _ h, r⟩
/-- what is the same through a whole body -/
def Cx (Z : State) (mn : MethodName) (code : ByteArray) (maxL : Nat) (ret : Option FieldType) (p : Program) (s : State) (m : MethodId) (meth : Method) (c : Code) : Prop :=
  p.tables.exec = Jvm.exec ∧ Z.Warmed39 s.vm ∧ c.code = code ∧ c.maxLocals = maxL ∧ s.vm.findClass mn.cls = some m.cls ∧ meth.sig.returnType = ret ∧ meth.locks = false ∧ meth.name = mn.name
/-- from this pc, these locals and this stack, over the heap h, at most k cells and n slots made so far, the body ends as Q says -/
def Go (l : Launch) (Z : State) (mn : MethodName) (code : ByteArray) (maxL : Nat) (ret : Option FieldType) (R : Room) (n0 : Nat) (Q : Option Value → Heap → Prop) (h : Heap) (k n : Nat) (pc : Nat) (Ls : Array Slot) (st : List Value) : Prop :=
  ∀ (p : Program) (e : Env) (s : State) (m : MethodId) (args : Array Value) (below : List Frame) (meth : Method) (c : Code) (T : State) (locs : List Loc) (k' n' : Nat),
    Cx Z mn code maxL ret p s m meth c → Stand p l e R s m args below meth c T locs k' n' → k' ≤ k → n' ≤ n → Fr n0 locs → T.heap = h → Ends p e below s n0 Q R.cells R.slots T (mkF m pc Ls st)
/-- the answer of a body that returns a value | nothing -/
def RV (P : Value → Heap → Prop) : Option Value → Heap → Prop := fun v h => ∃ w, v = some w ∧ P w h
def RN (P : Heap → Prop) : Option Value → Heap → Prop := fun v h => v = none ∧ P h
section Laws
variable {l : Launch} {Z : State} {mn : MethodName} {code : ByteArray} {maxL : Nat} {ret : Option FieldType} {R : Room} {n0 : Nat} {Q : Option Value → Heap → Prop} {h : Heap} {k n pc q : Nat} {Ls Ls' : Array Slot} {st st' : List Value} {a0 : Array Value}
theorem Go.plain (K : Go l Z mn code maxL ret R n0 Q h k n q Ls' st') (f : ∀ (p : Program) (e : Env) (s : State) (m : MethodId) (args : Array Value) (below : List Frame) (meth : Method) (c : Code) (T : State) (locs : List Loc) (k' n' : Nat), p.tables.exec = Jvm.exec → c.code = code → Stand p l e R s m args below meth c T locs k' n' → ∀ t, Steps p.tables e below (T.setTop (mkF m q Ls' st')) t → Steps p.tables e below (T.setTop (mkF m pc Ls st)) t) : Go l Z mn code maxL ret R n0 Q h k n pc Ls st :=
  fun p e s m args below meth c T locs k' n' C X hk hn N eT => (K p e s m args below meth c T locs k' n' C X hk hn N eT).step (f p e s m args below meth c T locs k' n' C.1 C.2.2.1 X)
theorem Go.mono {k1 n1 : Nat} (K : Go l Z mn code maxL ret R n0 Q h k n pc Ls st) (h1 : k1 ≤ k) (h2 : n1 ≤ n) : Go l Z mn code maxL ret R n0 Q h k1 n1 pc Ls st :=
  fun p e s m args below meth c T locs k' n' C X hk hn N eT => K p e s m args below meth c T locs k' n' C X (Nat.le_trans hk h1) (Nat.le_trans hn h2) N eT
theorem Go.imp {Q' : Option Value → Heap → Prop} (K : Go l Z mn code maxL ret R n0 Q h k n pc Ls st) (f : ∀ v h, Q v h → Q' v h) : Go l Z mn code maxL ret R n0 Q' h k n pc Ls st :=
  fun p e s m args below meth c T locs k' n' C X hk hn N eT => by
    obtain ⟨s2, o, h1, h2, h3, v, L, h4, h5, h6⟩ := K p e s m args below meth c T locs k' n' C X hk hn N eT
    exact ⟨s2, o, h1, h2, h3, v, L, h4, ⟨h5.1, f _ _ h5.2⟩, h6⟩
theorem Go.met {as : Array Value} (pn : plainFor mn = true) (hef : ∀ m, entryFrame m as maxL = mkF m 0 Ls []) (G : Go l Z mn code maxL ret R n0 Q h 0 0 0 Ls []) (ws : List Jvm.Cond) :
    MetFree l mn (head1 (Jvm.Cond.code mn code maxL ret :: ws) R) (fun a U => a = as ∧ Z.Warmed39 U.vm ∧ U.heap = h) (fun _ _ _ _ _ => True) (fun _ U o U' => ∃ v L, o = .returned v ∧ (Fr n0 L ∧ Q v U'.heap) ∧ FrameEnd U o U' L R.cells R.slots) := by
  refine MetFree.of_bodySF pn hisR ?_
  intro p e s m args below meth c s₁ Bd hml0 hP hK
  obtain ⟨rfl, hZ, hh⟩ := hP
  have e0 : s₁.heap = h := by rw [← hh, Bd.state]; rfl
  rw [hef]
  exact G p e s m _ below meth c s₁ [] 0 0 ⟨Bd.exec, hZ, Bd.bytes, hml0, findClass_of_methodNamed Bd.named, Bd.returns, BodyLoose.notSynchronized Bd, (name_of_methodNamed Bd.named Bd.method).1⟩ (Stand.of_body Bd) (Nat.le_refl _) (Nat.le_refl _) (Fr.nil n0) e0

theorem Go.iloadN {i : Fin 4} {v : Int32} (hd : decode code pc = .ok (.iload_n i, 1)) (hq : q = pc + 1) (hl : Ls[i.val]? = some (.val (.int v))) (K : Go l Z mn code maxL ret R n0 Q h k n q Ls (.int v :: st)) : Go l Z mn code maxL ret R n0 Q h k n pc Ls (st) := by
  subst hq
  exact K.plain fun p e s m args below meth c T locs k' n' hx hby X t r => XS.iloadN X.here hx rfl (hb hby hd) hl r
theorem Go.iload {i : Nat} {v : Int32} (hd : decode code pc = .ok (.iload i, 2)) (hq : q = pc + 2) (hl : Ls[i]? = some (.val (.int v))) (K : Go l Z mn code maxL ret R n0 Q h k n q Ls (.int v :: st)) : Go l Z mn code maxL ret R n0 Q h k n pc Ls (st) := by
  subst hq
  exact K.plain fun p e s m args below meth c T locs k' n' hx hby X t r => XS.iload X.here hx rfl (hb hby hd) hl r
theorem Go.lloadN {i : Fin 4} {v : Int64} (hd : decode code pc = .ok (.lload_n i, 1)) (hq : q = pc + 1) (hl : Ls[i.val]? = some (.val (.long v))) (K : Go l Z mn code maxL ret R n0 Q h k n q Ls (.long v :: st)) : Go l Z mn code maxL ret R n0 Q h k n pc Ls (st) := by
  subst hq
  exact K.plain fun p e s m args below meth c T locs k' n' hx hby X t r => XT.lloadN X.here hx rfl (hb hby hd) hl r
theorem Go.lload {i : Nat} {v : Int64} (hd : decode code pc = .ok (.lload i, 2)) (hq : q = pc + 2) (hl : Ls[i]? = some (.val (.long v))) (K : Go l Z mn code maxL ret R n0 Q h k n q Ls (.long v :: st)) : Go l Z mn code maxL ret R n0 Q h k n pc Ls (st) := by
  subst hq
  exact K.plain fun p e s m args below meth c T locs k' n' hx hby X t r => XT.lload X.here hx rfl (hb hby hd) hl r
theorem Go.aloadN {i : Fin 4} {v : Value} (hd : decode code pc = .ok (.aload_n i, 1)) (hq : q = pc + 1) (hl : Ls[i.val]? = some (.val v)) (hv : v.isRef = true) (K : Go l Z mn code maxL ret R n0 Q h k n q Ls (v :: st)) : Go l Z mn code maxL ret R n0 Q h k n pc Ls (st) := by
  subst hq
  exact K.plain fun p e s m args below meth c T locs k' n' hx hby X t r => XS.aloadN X.here hx rfl (hb hby hd) hl hv r
theorem Go.aload {i : Nat} {v : Value} (hd : decode code pc = .ok (.aload i, 2)) (hq : q = pc + 2) (hl : Ls[i]? = some (.val v)) (hv : v.isRef = true) (K : Go l Z mn code maxL ret R n0 Q h k n q Ls (v :: st)) : Go l Z mn code maxL ret R n0 Q h k n pc Ls (st) := by
  subst hq
  exact K.plain fun p e s m args below meth c T locs k' n' hx hby X t r => XS.aload X.here hx rfl (hb hby hd) hl hv r
theorem Go.istoreN {i : Fin 4} {v : Int32} (hd : decode code pc = .ok (.istore_n i, 1)) (hq : q = pc + 1) (hl : storeLocals Ls i.val (.int v) = some Ls') (K : Go l Z mn code maxL ret R n0 Q h k n q Ls' (st)) : Go l Z mn code maxL ret R n0 Q h k n pc Ls (.int v :: st) := by
  subst hq
  exact K.plain fun p e s m args below meth c T locs k' n' hx hby X t r => XS.istoreN X.here hx rfl (hb hby hd) rfl hl r
theorem Go.istore {i : Nat} {v : Int32} (hd : decode code pc = .ok (.istore i, 2)) (hq : q = pc + 2) (hl : storeLocals Ls i (.int v) = some Ls') (K : Go l Z mn code maxL ret R n0 Q h k n q Ls' (st)) : Go l Z mn code maxL ret R n0 Q h k n pc Ls (.int v :: st) := by
  subst hq
  exact K.plain fun p e s m args below meth c T locs k' n' hx hby X t r => XS.istore X.here hx rfl (hb hby hd) rfl hl r
theorem Go.lstoreN {i : Fin 4} {v : Int64} (hd : decode code pc = .ok (.lstore_n i, 1)) (hq : q = pc + 1) (hl : storeLocals Ls i.val (.long v) = some Ls') (K : Go l Z mn code maxL ret R n0 Q h k n q Ls' (st)) : Go l Z mn code maxL ret R n0 Q h k n pc Ls (.long v :: st) := by
  subst hq
  exact K.plain fun p e s m args below meth c T locs k' n' hx hby X t r => XT.lstoreN X.here hx rfl (hb hby hd) rfl hl r
theorem Go.lstore {i : Nat} {v : Int64} (hd : decode code pc = .ok (.lstore i, 2)) (hq : q = pc + 2) (hl : storeLocals Ls i (.long v) = some Ls') (K : Go l Z mn code maxL ret R n0 Q h k n q Ls' (st)) : Go l Z mn code maxL ret R n0 Q h k n pc Ls (.long v :: st) := by
  subst hq
  exact K.plain fun p e s m args below meth c T locs k' n' hx hby X t r => XT.lstore X.here hx rfl (hb hby hd) rfl hl r
theorem Go.astoreN {i : Fin 4} {v : Value} (hd : decode code pc = .ok (.astore_n i, 1)) (hq : q = pc + 1) (hv : v.isRef = true) (hl : storeLocals Ls i.val v = some Ls') (K : Go l Z mn code maxL ret R n0 Q h k n q Ls' (st)) : Go l Z mn code maxL ret R n0 Q h k n pc Ls (v :: st) := by
  subst hq
  exact K.plain fun p e s m args below meth c T locs k' n' hx hby X t r => XS.astoreN X.here hx rfl (hb hby hd) rfl hv hl r
theorem Go.astore {i : Nat} {v : Value} (hd : decode code pc = .ok (.astore i, 2)) (hq : q = pc + 2) (hv : v.isRef = true) (hl : storeLocals Ls i v = some Ls') (K : Go l Z mn code maxL ret R n0 Q h k n q Ls' (st)) : Go l Z mn code maxL ret R n0 Q h k n pc Ls (v :: st) := by
  subst hq
  exact K.plain fun p e s m args below meth c T locs k' n' hx hby X t r => XS.astore X.here hx rfl (hb hby hd) rfl hv hl r
theorem Go.iconst {i : Int} {x : Int32} (hd : decode code pc = .ok (.iconst i, 1)) (hq : q = pc + 1) (hi : Int32.ofInt i = x) (K : Go l Z mn code maxL ret R n0 Q h k n q Ls (.int x :: st)) : Go l Z mn code maxL ret R n0 Q h k n pc Ls (st) := by
  subst hq
  exact K.plain fun p e s m args below meth c T locs k' n' hx hby X t r => XS.iconst X.here hx rfl (hb hby hd) (by rw [hi]; exact r)
theorem Go.bipush {i : Int} {x : Int32} (hd : decode code pc = .ok (.bipush i, 2)) (hq : q = pc + 2) (hi : (Int8.ofInt i).toInt32 = x) (K : Go l Z mn code maxL ret R n0 Q h k n q Ls (.int x :: st)) : Go l Z mn code maxL ret R n0 Q h k n pc Ls (st) := by
  subst hq
  exact K.plain fun p e s m args below meth c T locs k' n' hx hby X t r => XS.bipush X.here hx rfl (hb hby hd) (by rw [hi]; exact r)
theorem Go.sipush {i : Int} {x : Int32} (hd : decode code pc = .ok (.sipush i, 3)) (hq : q = pc + 3) (hi : (Int16.ofInt i).toInt32 = x) (K : Go l Z mn code maxL ret R n0 Q h k n q Ls (.int x :: st)) : Go l Z mn code maxL ret R n0 Q h k n pc Ls (st) := by
  subst hq
  exact K.plain fun p e s m args below meth c T locs k' n' hx hby X t r => XS.sipush X.here hx rfl (hb hby hd) (by rw [hi]; exact r)
theorem Go.lconst {i : Fin 2} {x : Int64} (hd : decode code pc = .ok (.lconst i, 1)) (hq : q = pc + 1) (hi : Int64.ofNat i = x) (K : Go l Z mn code maxL ret R n0 Q h k n q Ls (.long x :: st)) : Go l Z mn code maxL ret R n0 Q h k n pc Ls (st) := by
  subst hq
  exact K.plain fun p e s m args below meth c T locs k' n' hx hby X t r => XT.lconst X.here hx rfl (hb hby hd) (by rw [hi]; exact r)
theorem Go.aconstNull (hd : decode code pc = .ok (.aconst_null, 1)) (hq : q = pc + 1) (K : Go l Z mn code maxL ret R n0 Q h k n q Ls (.null :: st)) : Go l Z mn code maxL ret R n0 Q h k n pc Ls (st) := by
  subst hq
  exact K.plain fun p e s m args below meth c T locs k' n' hx hby X t r => XS.aconstNull X.here hx rfl (hb hby hd) r
theorem Go.iadd {x y : Int32} (hd : decode code pc = .ok (.iadd, 1)) (hq : q = pc + 1) (K : Go l Z mn code maxL ret R n0 Q h k n q Ls (.int (x + y) :: st)) : Go l Z mn code maxL ret R n0 Q h k n pc Ls (.int y :: .int x :: st) := by
  subst hq
  exact K.plain fun p e s m args below meth c T locs k' n' hx hby X t r => XS.iadd X.here hx rfl (hb hby hd) rfl r
theorem Go.isub {x y : Int32} (hd : decode code pc = .ok (.isub, 1)) (hq : q = pc + 1) (K : Go l Z mn code maxL ret R n0 Q h k n q Ls (.int (x - y) :: st)) : Go l Z mn code maxL ret R n0 Q h k n pc Ls (.int y :: .int x :: st) := by
  subst hq
  exact K.plain fun p e s m args below meth c T locs k' n' hx hby X t r => XS.isub X.here hx rfl (hb hby hd) rfl r
theorem Go.iand {x y : Int32} (hd : decode code pc = .ok (.iand, 1)) (hq : q = pc + 1) (K : Go l Z mn code maxL ret R n0 Q h k n q Ls (.int (x &&& y) :: st)) : Go l Z mn code maxL ret R n0 Q h k n pc Ls (.int y :: .int x :: st) := by
  subst hq
  exact K.plain fun p e s m args below meth c T locs k' n' hx hby X t r => XS.iand X.here hx rfl (hb hby hd) rfl r
theorem Go.imul {x y : Int32} (hd : decode code pc = .ok (.imul, 1)) (hq : q = pc + 1) (K : Go l Z mn code maxL ret R n0 Q h k n q Ls (.int (x * y) :: st)) : Go l Z mn code maxL ret R n0 Q h k n pc Ls (.int y :: .int x :: st) := by
  subst hq
  exact K.plain fun p e s m args below meth c T locs k' n' hx hby X t r => XS.imul X.here hx rfl (hb hby hd) rfl r
theorem Go.ixor {x y : Int32} (hd : decode code pc = .ok (.ixor, 1)) (hq : q = pc + 1) (K : Go l Z mn code maxL ret R n0 Q h k n q Ls (.int (x ^^^ y) :: st)) : Go l Z mn code maxL ret R n0 Q h k n pc Ls (.int y :: .int x :: st) := by
  subst hq
  exact K.plain fun p e s m args below meth c T locs k' n' hx hby X t r => XT.ixor X.here hx rfl (hb hby hd) rfl r
theorem Go.ior {x y : Int32} (hd : decode code pc = .ok (.ior, 1)) (hq : q = pc + 1) (K : Go l Z mn code maxL ret R n0 Q h k n q Ls (.int (x ||| y) :: st)) : Go l Z mn code maxL ret R n0 Q h k n pc Ls (.int y :: .int x :: st) := by
  subst hq
  exact K.plain fun p e s m args below meth c T locs k' n' hx hby X t r => XT.ior X.here hx rfl (hb hby hd) rfl r
theorem Go.ishl {x y : Int32} (hd : decode code pc = .ok (.ishl, 1)) (hq : q = pc + 1) (K : Go l Z mn code maxL ret R n0 Q h k n q Ls (.int (x <<< (y &&& 31)) :: st)) : Go l Z mn code maxL ret R n0 Q h k n pc Ls (.int y :: .int x :: st) := by
  subst hq
  exact K.plain fun p e s m args below meth c T locs k' n' hx hby X t r => XT.ishl X.here hx rfl (hb hby hd) rfl r
theorem Go.ishr {x y : Int32} (hd : decode code pc = .ok (.ishr, 1)) (hq : q = pc + 1) (K : Go l Z mn code maxL ret R n0 Q h k n q Ls (.int (x >>> (y &&& 31)) :: st)) : Go l Z mn code maxL ret R n0 Q h k n pc Ls (.int y :: .int x :: st) := by
  subst hq
  exact K.plain fun p e s m args below meth c T locs k' n' hx hby X t r => XT.ishr X.here hx rfl (hb hby hd) rfl r
theorem Go.iushr {x y : Int32} (hd : decode code pc = .ok (.iushr, 1)) (hq : q = pc + 1) (K : Go l Z mn code maxL ret R n0 Q h k n q Ls (.int (XT.ushr x y) :: st)) : Go l Z mn code maxL ret R n0 Q h k n pc Ls (.int y :: .int x :: st) := by
  subst hq
  exact K.plain fun p e s m args below meth c T locs k' n' hx hby X t r => XT.iushr X.here hx rfl (hb hby hd) rfl r
theorem Go.ladd {x y : Int64} (hd : decode code pc = .ok (.ladd, 1)) (hq : q = pc + 1) (K : Go l Z mn code maxL ret R n0 Q h k n q Ls (.long (x + y) :: st)) : Go l Z mn code maxL ret R n0 Q h k n pc Ls (.long y :: .long x :: st) := by
  subst hq
  exact K.plain fun p e s m args below meth c T locs k' n' hx hby X t r => XT.ladd X.here hx rfl (hb hby hd) rfl r
theorem Go.lsub {x y : Int64} (hd : decode code pc = .ok (.lsub, 1)) (hq : q = pc + 1) (K : Go l Z mn code maxL ret R n0 Q h k n q Ls (.long (x - y) :: st)) : Go l Z mn code maxL ret R n0 Q h k n pc Ls (.long y :: .long x :: st) := by
  subst hq
  exact K.plain fun p e s m args below meth c T locs k' n' hx hby X t r => XT.lsub X.here hx rfl (hb hby hd) rfl r
theorem Go.lmul {x y : Int64} (hd : decode code pc = .ok (.lmul, 1)) (hq : q = pc + 1) (K : Go l Z mn code maxL ret R n0 Q h k n q Ls (.long (x * y) :: st)) : Go l Z mn code maxL ret R n0 Q h k n pc Ls (.long y :: .long x :: st) := by
  subst hq
  exact K.plain fun p e s m args below meth c T locs k' n' hx hby X t r => XT.lmul X.here hx rfl (hb hby hd) rfl r
theorem Go.land {x y : Int64} (hd : decode code pc = .ok (.land, 1)) (hq : q = pc + 1) (K : Go l Z mn code maxL ret R n0 Q h k n q Ls (.long (x &&& y) :: st)) : Go l Z mn code maxL ret R n0 Q h k n pc Ls (.long y :: .long x :: st) := by
  subst hq
  exact K.plain fun p e s m args below meth c T locs k' n' hx hby X t r => XT.land X.here hx rfl (hb hby hd) rfl r
theorem Go.lor {x y : Int64} (hd : decode code pc = .ok (.lor, 1)) (hq : q = pc + 1) (K : Go l Z mn code maxL ret R n0 Q h k n q Ls (.long (x ||| y) :: st)) : Go l Z mn code maxL ret R n0 Q h k n pc Ls (.long y :: .long x :: st) := by
  subst hq
  exact K.plain fun p e s m args below meth c T locs k' n' hx hby X t r => XT.lor X.here hx rfl (hb hby hd) rfl r
theorem Go.lxor {x y : Int64} (hd : decode code pc = .ok (.lxor, 1)) (hq : q = pc + 1) (K : Go l Z mn code maxL ret R n0 Q h k n q Ls (.long (x ^^^ y) :: st)) : Go l Z mn code maxL ret R n0 Q h k n pc Ls (.long y :: .long x :: st) := by
  subst hq
  exact K.plain fun p e s m args below meth c T locs k' n' hx hby X t r => XT.lxor X.here hx rfl (hb hby hd) rfl r
theorem Go.lshl {x : Int64} {y : Int32} (hd : decode code pc = .ok (.lshl, 1)) (hq : q = pc + 1) (K : Go l Z mn code maxL ret R n0 Q h k n q Ls (.long (x <<< (y.toInt64 &&& 63)) :: st)) : Go l Z mn code maxL ret R n0 Q h k n pc Ls (.int y :: .long x :: st) := by
  subst hq
  exact K.plain fun p e s m args below meth c T locs k' n' hx hby X t r => XT.lshl X.here hx rfl (hb hby hd) rfl r
theorem Go.lshr {x : Int64} {y : Int32} (hd : decode code pc = .ok (.lshr, 1)) (hq : q = pc + 1) (K : Go l Z mn code maxL ret R n0 Q h k n q Ls (.long (x >>> (y.toInt64 &&& 63)) :: st)) : Go l Z mn code maxL ret R n0 Q h k n pc Ls (.int y :: .long x :: st) := by
  subst hq
  exact K.plain fun p e s m args below meth c T locs k' n' hx hby X t r => XT.lshr X.here hx rfl (hb hby hd) rfl r
theorem Go.lushr {x : Int64} {y : Int32} (hd : decode code pc = .ok (.lushr, 1)) (hq : q = pc + 1) (K : Go l Z mn code maxL ret R n0 Q h k n q Ls (.long (XT.ushrL x y) :: st)) : Go l Z mn code maxL ret R n0 Q h k n pc Ls (.int y :: .long x :: st) := by
  subst hq
  exact K.plain fun p e s m args below meth c T locs k' n' hx hby X t r => XT.lushr X.here hx rfl (hb hby hd) rfl r
theorem Go.idiv {x y : Int32} (hd : decode code pc = .ok (.idiv, 1)) (hq : q = pc + 1) (hy : y ≠ 0) (K : Go l Z mn code maxL ret R n0 Q h k n q Ls (.int (x / y) :: st)) : Go l Z mn code maxL ret R n0 Q h k n pc Ls (.int y :: .int x :: st) := by
  subst hq
  exact K.plain fun p e s m args below meth c T locs k' n' hx hby X t r => XS.idiv X.here hx rfl (hb hby hd) rfl hy r
theorem Go.irem {x y : Int32} (hd : decode code pc = .ok (.irem, 1)) (hq : q = pc + 1) (hy : y ≠ 0) (K : Go l Z mn code maxL ret R n0 Q h k n q Ls (.int (x % y) :: st)) : Go l Z mn code maxL ret R n0 Q h k n pc Ls (.int y :: .int x :: st) := by
  subst hq
  exact K.plain fun p e s m args below meth c T locs k' n' hx hby X t r => XS.irem X.here hx rfl (hb hby hd) rfl hy (by rw [irem_eq_mod]; exact r)
theorem Go.lrem {x y : Int64} (hd : decode code pc = .ok (.lrem, 1)) (hq : q = pc + 1) (hy : y ≠ 0) (K : Go l Z mn code maxL ret R n0 Q h k n q Ls (.long (x % y) :: st)) : Go l Z mn code maxL ret R n0 Q h k n pc Ls (.long y :: .long x :: st) := by
  subst hq
  exact K.plain fun p e s m args below meth c T locs k' n' hx hby X t r => XT.lrem X.here hx rfl (hb hby hd) rfl hy (by rw [lrem_mod]; exact r)
theorem Go.ineg {x : Int32} (hd : decode code pc = .ok (.ineg, 1)) (hq : q = pc + 1) (K : Go l Z mn code maxL ret R n0 Q h k n q Ls (.int (-x) :: st)) : Go l Z mn code maxL ret R n0 Q h k n pc Ls (.int x :: st) := by
  subst hq
  exact K.plain fun p e s m args below meth c T locs k' n' hx hby X t r => XS.ineg X.here hx rfl (hb hby hd) rfl r
theorem Go.lneg {x : Int64} (hd : decode code pc = .ok (.lneg, 1)) (hq : q = pc + 1) (K : Go l Z mn code maxL ret R n0 Q h k n q Ls (.long (-x) :: st)) : Go l Z mn code maxL ret R n0 Q h k n pc Ls (.long x :: st) := by
  subst hq
  exact K.plain fun p e s m args below meth c T locs k' n' hx hby X t r => XT.lneg X.here hx rfl (hb hby hd) rfl r
theorem Go.i2l {x : Int32} (hd : decode code pc = .ok (.i2l, 1)) (hq : q = pc + 1) (K : Go l Z mn code maxL ret R n0 Q h k n q Ls (.long x.toInt64 :: st)) : Go l Z mn code maxL ret R n0 Q h k n pc Ls (.int x :: st) := by
  subst hq
  exact K.plain fun p e s m args below meth c T locs k' n' hx hby X t r => XT.i2l X.here hx rfl (hb hby hd) rfl r
theorem Go.l2i {x : Int64} (hd : decode code pc = .ok (.l2i, 1)) (hq : q = pc + 1) (K : Go l Z mn code maxL ret R n0 Q h k n q Ls (.int x.toInt32 :: st)) : Go l Z mn code maxL ret R n0 Q h k n pc Ls (.long x :: st) := by
  subst hq
  exact K.plain fun p e s m args below meth c T locs k' n' hx hby X t r => XT.l2i X.here hx rfl (hb hby hd) rfl r
theorem Go.i2b {x : Int32} (hd : decode code pc = .ok (.i2b, 1)) (hq : q = pc + 1) (K : Go l Z mn code maxL ret R n0 Q h k n q Ls (.int x.toInt8.toInt32 :: st)) : Go l Z mn code maxL ret R n0 Q h k n pc Ls (.int x :: st) := by
  subst hq
  exact K.plain fun p e s m args below meth c T locs k' n' hx hby X t r => XT.i2b X.here hx rfl (hb hby hd) rfl r
theorem Go.i2s {x : Int32} (hd : decode code pc = .ok (.i2s, 1)) (hq : q = pc + 1) (K : Go l Z mn code maxL ret R n0 Q h k n q Ls (.int x.toInt16.toInt32 :: st)) : Go l Z mn code maxL ret R n0 Q h k n pc Ls (.int x :: st) := by
  subst hq
  exact K.plain fun p e s m args below meth c T locs k' n' hx hby X t r => XT.i2s X.here hx rfl (hb hby hd) rfl r
theorem Go.i2c {x : Int32} (hd : decode code pc = .ok (.i2c, 1)) (hq : q = pc + 1) (K : Go l Z mn code maxL ret R n0 Q h k n q Ls (.int x.toUInt32.toUInt16.toUInt32.toInt32 :: st)) : Go l Z mn code maxL ret R n0 Q h k n pc Ls (.int x :: st) := by
  subst hq
  exact K.plain fun p e s m args below meth c T locs k' n' hx hby X t r => XT.i2c X.here hx rfl (hb hby hd) rfl r
theorem Go.lcmp {x y : Int64} (hd : decode code pc = .ok (.lcmp, 1)) (hq : q = pc + 1) (K : Go l Z mn code maxL ret R n0 Q h k n q Ls (.int (XT.cmpL x y) :: st)) : Go l Z mn code maxL ret R n0 Q h k n pc Ls (.long y :: .long x :: st) := by
  subst hq
  exact K.plain fun p e s m args below meth c T locs k' n' hx hby X t r => XT.lcmp X.here hx rfl (hb hby hd) rfl r
theorem Go.iinc {i : Nat} {cst : Int} {x w : Int32} (hd : decode code pc = .ok (.iinc i cst, 3)) (hq : q = pc + 3) (hl : Ls[i]? = some (.val (.int x))) (hw : x + Int32.ofInt cst = w) (hl' : storeLocals Ls i (.int w) = some Ls') (K : Go l Z mn code maxL ret R n0 Q h k n q Ls' (st)) : Go l Z mn code maxL ret R n0 Q h k n pc Ls (st) := by
  subst hq
  exact K.plain fun p e s m args below meth c T locs k' n' hx hby X t r => XS.iinc X.here hx rfl (hb hby hd) hl (by rw [hw]; exact hl') r
theorem Go.dup {v : Value} (hd : decode code pc = .ok (.dup, 1)) (hq : q = pc + 1) (hc : v.category = 1) (K : Go l Z mn code maxL ret R n0 Q h k n q Ls (v :: v :: st)) : Go l Z mn code maxL ret R n0 Q h k n pc Ls (v :: st) := by
  subst hq
  exact K.plain fun p e s m args below meth c T locs k' n' hx hby X t r => XS.dup X.here hx rfl (hb hby hd) rfl hc r
theorem Go.pop {v : Value} (hd : decode code pc = .ok (.pop, 1)) (hq : q = pc + 1) (hc : v.category = 1) (K : Go l Z mn code maxL ret R n0 Q h k n q Ls (st)) : Go l Z mn code maxL ret R n0 Q h k n pc Ls (v :: st) := by
  subst hq
  exact K.plain fun p e s m args below meth c T locs k' n' hx hby X t r => XT.pop X.here hx rfl (hb hby hd) rfl hc r
theorem Go.dupX1 {v w : Value} (hd : decode code pc = .ok (.dup_x1, 1)) (hq : q = pc + 1) (hc : v.category = 1) (hc' : w.category = 1) (K : Go l Z mn code maxL ret R n0 Q h k n q Ls (v :: w :: v :: st)) : Go l Z mn code maxL ret R n0 Q h k n pc Ls (v :: w :: st) := by
  subst hq
  exact K.plain fun p e s m args below meth c T locs k' n' hx hby X t r => XT.dupX1 X.here hx rfl (hb hby hd) rfl hc hc' r
theorem Go.dup2 {v w : Value} (hd : decode code pc = .ok (.dup2, 1)) (hq : q = pc + 1) (hc : v.category = 1) (hc' : w.category = 1) (K : Go l Z mn code maxL ret R n0 Q h k n q Ls (v :: w :: v :: w :: st)) : Go l Z mn code maxL ret R n0 Q h k n pc Ls (v :: w :: st) := by
  subst hq
  exact K.plain fun p e s m args below meth c T locs k' n' hx hby X t r => XT.dup2 X.here hx rfl (hb hby hd) rfl hc hc' r
theorem Go.dup2L {x : Int64} (hd : decode code pc = .ok (.dup2, 1)) (hq : q = pc + 1) (K : Go l Z mn code maxL ret R n0 Q h k n q Ls (.long x :: .long x :: st)) : Go l Z mn code maxL ret R n0 Q h k n pc Ls (.long x :: st) := by
  subst hq
  exact K.plain fun p e s m args below meth c T locs k' n' hx hby X t r => XT.dup2L X.here hx rfl (hb hby hd) rfl r
theorem Go.goto {o : Int} (hd : decode code pc = .ok (.goto o, 3)) (ho : 0 ≤ (pc : Int) + o) (hq : ((pc : Int) + o).toNat = q) (K : Go l Z mn code maxL ret R n0 Q h k n q Ls st) : Go l Z mn code maxL ret R n0 Q h k n pc Ls st :=
  K.plain fun p e s m args below meth c T locs k' n' hx hby X t r => XS.goto X.here hx rfl rfl (hb hby hd) ho hq r
theorem Go.icmp_eq {x y' : Int32} {o : Int} {q' : Nat} (hd : decode code pc = .ok (.if_icmp .eq o, 3)) (ho : 0 ≤ (pc : Int) + o) (hq : ((pc : Int) + o).toNat = q) (hq' : q' = pc + 3) (K1 : x = y' → Go l Z mn code maxL ret R n0 Q h k n q Ls st) (K2 : ¬ x = y' → Go l Z mn code maxL ret R n0 Q h k n q' Ls st) : Go l Z mn code maxL ret R n0 Q h k n pc Ls (.int y' :: .int x :: st) := by
  subst hq'
  by_cases hc : x = y'
  · exact (K1 hc).plain fun p e s m args below meth c T locs k' n' hx hby X t r => XS.icmpYes X.here hx rfl rfl (hb hby hd) rfl (teq hc).1 ho hq r
  · exact (K2 (hc)).plain fun p e s m args below meth c T locs k' n' hx hby X t r => XS.icmpNo X.here hx rfl (hb hby hd) rfl (feq (hc)).1 r
theorem Go.if_eq {x : Int32} {o : Int} {q' : Nat} (hd : decode code pc = .ok (.ifCond .eq o, 3)) (ho : 0 ≤ (pc : Int) + o) (hq : ((pc : Int) + o).toNat = q) (hq' : q' = pc + 3) (K1 : x = 0 → Go l Z mn code maxL ret R n0 Q h k n q Ls st) (K2 : ¬ x = 0 → Go l Z mn code maxL ret R n0 Q h k n q' Ls st) : Go l Z mn code maxL ret R n0 Q h k n pc Ls (.int x :: st) := by
  subst hq'
  by_cases hc : x = 0
  · exact (K1 hc).plain fun p e s m args below meth c T locs k' n' hx hby X t r => XS.ifYes X.here hx rfl rfl (hb hby hd) rfl ((if0 _ _).trans (teq hc).1) ho hq r
  · exact (K2 (hc)).plain fun p e s m args below meth c T locs k' n' hx hby X t r => XS.ifNo X.here hx rfl (hb hby hd) rfl ((if0 _ _).trans (feq (hc)).1) r
theorem Go.icmp_ne {x y' : Int32} {o : Int} {q' : Nat} (hd : decode code pc = .ok (.if_icmp .ne o, 3)) (ho : 0 ≤ (pc : Int) + o) (hq : ((pc : Int) + o).toNat = q) (hq' : q' = pc + 3) (K1 : ¬ x = y' → Go l Z mn code maxL ret R n0 Q h k n q Ls st) (K2 : x = y' → Go l Z mn code maxL ret R n0 Q h k n q' Ls st) : Go l Z mn code maxL ret R n0 Q h k n pc Ls (.int y' :: .int x :: st) := by
  subst hq'
  by_cases hc : ¬ x = y'
  · exact (K1 hc).plain fun p e s m args below meth c T locs k' n' hx hby X t r => XS.icmpYes X.here hx rfl rfl (hb hby hd) rfl (feq hc).2 ho hq r
  · exact (K2 (Decidable.not_not.mp hc)).plain fun p e s m args below meth c T locs k' n' hx hby X t r => XS.icmpNo X.here hx rfl (hb hby hd) rfl (teq (Decidable.not_not.mp hc)).2 r
theorem Go.if_ne {x : Int32} {o : Int} {q' : Nat} (hd : decode code pc = .ok (.ifCond .ne o, 3)) (ho : 0 ≤ (pc : Int) + o) (hq : ((pc : Int) + o).toNat = q) (hq' : q' = pc + 3) (K1 : ¬ x = 0 → Go l Z mn code maxL ret R n0 Q h k n q Ls st) (K2 : x = 0 → Go l Z mn code maxL ret R n0 Q h k n q' Ls st) : Go l Z mn code maxL ret R n0 Q h k n pc Ls (.int x :: st) := by
  subst hq'
  by_cases hc : ¬ x = 0
  · exact (K1 hc).plain fun p e s m args below meth c T locs k' n' hx hby X t r => XS.ifYes X.here hx rfl rfl (hb hby hd) rfl ((if0 _ _).trans (feq hc).2) ho hq r
  · exact (K2 (Decidable.not_not.mp hc)).plain fun p e s m args below meth c T locs k' n' hx hby X t r => XS.ifNo X.here hx rfl (hb hby hd) rfl ((if0 _ _).trans (teq (Decidable.not_not.mp hc)).2) r
theorem Go.icmp_lt {x y' : Int32} {o : Int} {q' : Nat} (hd : decode code pc = .ok (.if_icmp .lt o, 3)) (ho : 0 ≤ (pc : Int) + o) (hq : ((pc : Int) + o).toNat = q) (hq' : q' = pc + 3) (K1 : x < y' → Go l Z mn code maxL ret R n0 Q h k n q Ls st) (K2 : ¬ x < y' → Go l Z mn code maxL ret R n0 Q h k n q' Ls st) : Go l Z mn code maxL ret R n0 Q h k n pc Ls (.int y' :: .int x :: st) := by
  subst hq'
  by_cases hc : x < y'
  · exact (K1 hc).plain fun p e s m args below meth c T locs k' n' hx hby X t r => XS.icmpYes X.here hx rfl rfl (hb hby hd) rfl (tlt hc).1 ho hq r
  · exact (K2 (hc)).plain fun p e s m args below meth c T locs k' n' hx hby X t r => XS.icmpNo X.here hx rfl (hb hby hd) rfl (flt (hc)).1 r
theorem Go.if_lt {x : Int32} {o : Int} {q' : Nat} (hd : decode code pc = .ok (.ifCond .lt o, 3)) (ho : 0 ≤ (pc : Int) + o) (hq : ((pc : Int) + o).toNat = q) (hq' : q' = pc + 3) (K1 : x < 0 → Go l Z mn code maxL ret R n0 Q h k n q Ls st) (K2 : ¬ x < 0 → Go l Z mn code maxL ret R n0 Q h k n q' Ls st) : Go l Z mn code maxL ret R n0 Q h k n pc Ls (.int x :: st) := by
  subst hq'
  by_cases hc : x < 0
  · exact (K1 hc).plain fun p e s m args below meth c T locs k' n' hx hby X t r => XS.ifYes X.here hx rfl rfl (hb hby hd) rfl ((if0 _ _).trans (tlt hc).1) ho hq r
  · exact (K2 (hc)).plain fun p e s m args below meth c T locs k' n' hx hby X t r => XS.ifNo X.here hx rfl (hb hby hd) rfl ((if0 _ _).trans (flt (hc)).1) r
theorem Go.icmp_ge {x y' : Int32} {o : Int} {q' : Nat} (hd : decode code pc = .ok (.if_icmp .ge o, 3)) (ho : 0 ≤ (pc : Int) + o) (hq : ((pc : Int) + o).toNat = q) (hq' : q' = pc + 3) (K1 : ¬ x < y' → Go l Z mn code maxL ret R n0 Q h k n q Ls st) (K2 : x < y' → Go l Z mn code maxL ret R n0 Q h k n q' Ls st) : Go l Z mn code maxL ret R n0 Q h k n pc Ls (.int y' :: .int x :: st) := by
  subst hq'
  by_cases hc : ¬ x < y'
  · exact (K1 hc).plain fun p e s m args below meth c T locs k' n' hx hby X t r => XS.icmpYes X.here hx rfl rfl (hb hby hd) rfl (flt hc).2.1 ho hq r
  · exact (K2 (Decidable.not_not.mp hc)).plain fun p e s m args below meth c T locs k' n' hx hby X t r => XS.icmpNo X.here hx rfl (hb hby hd) rfl (tlt (Decidable.not_not.mp hc)).2.1 r
theorem Go.if_ge {x : Int32} {o : Int} {q' : Nat} (hd : decode code pc = .ok (.ifCond .ge o, 3)) (ho : 0 ≤ (pc : Int) + o) (hq : ((pc : Int) + o).toNat = q) (hq' : q' = pc + 3) (K1 : ¬ x < 0 → Go l Z mn code maxL ret R n0 Q h k n q Ls st) (K2 : x < 0 → Go l Z mn code maxL ret R n0 Q h k n q' Ls st) : Go l Z mn code maxL ret R n0 Q h k n pc Ls (.int x :: st) := by
  subst hq'
  by_cases hc : ¬ x < 0
  · exact (K1 hc).plain fun p e s m args below meth c T locs k' n' hx hby X t r => XS.ifYes X.here hx rfl rfl (hb hby hd) rfl ((if0 _ _).trans (flt hc).2.1) ho hq r
  · exact (K2 (Decidable.not_not.mp hc)).plain fun p e s m args below meth c T locs k' n' hx hby X t r => XS.ifNo X.here hx rfl (hb hby hd) rfl ((if0 _ _).trans (tlt (Decidable.not_not.mp hc)).2.1) r
theorem Go.icmp_gt {x y' : Int32} {o : Int} {q' : Nat} (hd : decode code pc = .ok (.if_icmp .gt o, 3)) (ho : 0 ≤ (pc : Int) + o) (hq : ((pc : Int) + o).toNat = q) (hq' : q' = pc + 3) (K1 : y' < x → Go l Z mn code maxL ret R n0 Q h k n q Ls st) (K2 : ¬ y' < x → Go l Z mn code maxL ret R n0 Q h k n q' Ls st) : Go l Z mn code maxL ret R n0 Q h k n pc Ls (.int y' :: .int x :: st) := by
  subst hq'
  by_cases hc : y' < x
  · exact (K1 hc).plain fun p e s m args below meth c T locs k' n' hx hby X t r => XS.icmpYes X.here hx rfl rfl (hb hby hd) rfl (tlt hc).2.2.1 ho hq r
  · exact (K2 (hc)).plain fun p e s m args below meth c T locs k' n' hx hby X t r => XS.icmpNo X.here hx rfl (hb hby hd) rfl (flt (hc)).2.2.1 r
theorem Go.if_gt {x : Int32} {o : Int} {q' : Nat} (hd : decode code pc = .ok (.ifCond .gt o, 3)) (ho : 0 ≤ (pc : Int) + o) (hq : ((pc : Int) + o).toNat = q) (hq' : q' = pc + 3) (K1 : 0 < x → Go l Z mn code maxL ret R n0 Q h k n q Ls st) (K2 : ¬ 0 < x → Go l Z mn code maxL ret R n0 Q h k n q' Ls st) : Go l Z mn code maxL ret R n0 Q h k n pc Ls (.int x :: st) := by
  subst hq'
  by_cases hc : 0 < x
  · exact (K1 hc).plain fun p e s m args below meth c T locs k' n' hx hby X t r => XS.ifYes X.here hx rfl rfl (hb hby hd) rfl ((if0 _ _).trans (tlt hc).2.2.1) ho hq r
  · exact (K2 (hc)).plain fun p e s m args below meth c T locs k' n' hx hby X t r => XS.ifNo X.here hx rfl (hb hby hd) rfl ((if0 _ _).trans (flt (hc)).2.2.1) r
theorem Go.icmp_le {x y' : Int32} {o : Int} {q' : Nat} (hd : decode code pc = .ok (.if_icmp .le o, 3)) (ho : 0 ≤ (pc : Int) + o) (hq : ((pc : Int) + o).toNat = q) (hq' : q' = pc + 3) (K1 : ¬ y' < x → Go l Z mn code maxL ret R n0 Q h k n q Ls st) (K2 : y' < x → Go l Z mn code maxL ret R n0 Q h k n q' Ls st) : Go l Z mn code maxL ret R n0 Q h k n pc Ls (.int y' :: .int x :: st) := by
  subst hq'
  by_cases hc : ¬ y' < x
  · exact (K1 hc).plain fun p e s m args below meth c T locs k' n' hx hby X t r => XS.icmpYes X.here hx rfl rfl (hb hby hd) rfl (flt hc).2.2.2 ho hq r
  · exact (K2 (Decidable.not_not.mp hc)).plain fun p e s m args below meth c T locs k' n' hx hby X t r => XS.icmpNo X.here hx rfl (hb hby hd) rfl (tlt (Decidable.not_not.mp hc)).2.2.2 r
theorem Go.if_le {x : Int32} {o : Int} {q' : Nat} (hd : decode code pc = .ok (.ifCond .le o, 3)) (ho : 0 ≤ (pc : Int) + o) (hq : ((pc : Int) + o).toNat = q) (hq' : q' = pc + 3) (K1 : ¬ 0 < x → Go l Z mn code maxL ret R n0 Q h k n q Ls st) (K2 : 0 < x → Go l Z mn code maxL ret R n0 Q h k n q' Ls st) : Go l Z mn code maxL ret R n0 Q h k n pc Ls (.int x :: st) := by
  subst hq'
  by_cases hc : ¬ 0 < x
  · exact (K1 hc).plain fun p e s m args below meth c T locs k' n' hx hby X t r => XS.ifYes X.here hx rfl rfl (hb hby hd) rfl ((if0 _ _).trans (flt hc).2.2.2) ho hq r
  · exact (K2 (Decidable.not_not.mp hc)).plain fun p e s m args below meth c T locs k' n' hx hby X t r => XS.ifNo X.here hx rfl (hb hby hd) rfl ((if0 _ _).trans (tlt (Decidable.not_not.mp hc)).2.2.2) r
theorem Go.ifnull {v : Value} {o : Int} {q' : Nat} (hd : decode code pc = .ok (.ifnull o, 3)) (ho : 0 ≤ (pc : Int) + o) (hq : ((pc : Int) + o).toNat = q) (hq' : q' = pc + 3) (hv : v.isRef = true) (K1 : v = .null → Go l Z mn code maxL ret R n0 Q h k n q Ls st) (K2 : ∀ a, v = .ref a → Go l Z mn code maxL ret R n0 Q h k n q' Ls st) : Go l Z mn code maxL ret R n0 Q h k n pc Ls (v :: st) := by
  subst hq'
  rcases ref_cases hv with rfl | ⟨a, rfl⟩
  · exact (K1 rfl).plain fun p e s m args below meth c T locs k' n' hx hby X t r => XS.ifnullYes X.here hx rfl rfl (hb hby hd) rfl ho hq r
  · exact (K2 a rfl).plain fun p e s m args below meth c T locs k' n' hx hby X t r => XS.ifnullNo X.here hx rfl (hb hby hd) rfl r
theorem Go.ifnonnull {v : Value} {o : Int} {q' : Nat} (hd : decode code pc = .ok (.ifnonnull o, 3)) (ho : 0 ≤ (pc : Int) + o) (hq : ((pc : Int) + o).toNat = q) (hq' : q' = pc + 3) (hv : v.isRef = true) (K1 : ∀ a, v = .ref a → Go l Z mn code maxL ret R n0 Q h k n q Ls st) (K2 : v = .null → Go l Z mn code maxL ret R n0 Q h k n q' Ls st) : Go l Z mn code maxL ret R n0 Q h k n pc Ls (v :: st) := by
  subst hq'
  rcases ref_cases hv with rfl | ⟨a, rfl⟩
  · exact (K2 rfl).plain fun p e s m args below meth c T locs k' n' hx hby X t r => XT.ifnonnullNo X.here hx rfl (hb hby hd) rfl r
  · exact (K1 a rfl).plain fun p e s m args below meth c T locs k' n' hx hby X t r => XT.ifnonnullYes X.here hx rfl rfl (hb hby hd) rfl ho hq r
theorem Go.acmp_eq {v w : Value} {o : Int} {q' : Nat} (hd : decode code pc = .ok (.if_acmp .eq o, 3)) (ho : 0 ≤ (pc : Int) + o) (hq : ((pc : Int) + o).toNat = q) (hq' : q' = pc + 3) (hv : v.isRef = true) (hw : w.isRef = true) (K1 : v = w → Go l Z mn code maxL ret R n0 Q h k n q Ls st) (K2 : ¬ v = w → Go l Z mn code maxL ret R n0 Q h k n q' Ls st) : Go l Z mn code maxL ret R n0 Q h k n pc Ls (w :: v :: st) := by
  subst hq'
  by_cases hc : v = w
  · exact (K1 hc).plain fun p e s m args below meth c T locs k' n' hx hby X t r => RoadKit.acmp X hx rfl hv hw rfl (hb hby hd) rfl (same := true) (by simp [hc]) ho (by simp [acV, hq]) r
  · exact (K2 hc).plain fun p e s m args below meth c T locs k' n' hx hby X t r => RoadKit.acmp X hx rfl hv hw rfl (hb hby hd) rfl (same := false) (by simp [hc]) ho (by simp [acV]) r
theorem Go.acmp_ne {v w : Value} {o : Int} {q' : Nat} (hd : decode code pc = .ok (.if_acmp .ne o, 3)) (ho : 0 ≤ (pc : Int) + o) (hq : ((pc : Int) + o).toNat = q) (hq' : q' = pc + 3) (hv : v.isRef = true) (hw : w.isRef = true) (K1 : ¬ v = w → Go l Z mn code maxL ret R n0 Q h k n q Ls st) (K2 : v = w → Go l Z mn code maxL ret R n0 Q h k n q' Ls st) : Go l Z mn code maxL ret R n0 Q h k n pc Ls (w :: v :: st) := by
  subst hq'
  by_cases hc : v = w
  · exact (K2 hc).plain fun p e s m args below meth c T locs k' n' hx hby X t r => RoadKit.acmp X hx rfl hv hw rfl (hb hby hd) rfl (same := true) (by simp [hc]) ho (by simp [acV]) r
  · exact (K1 hc).plain fun p e s m args below meth c T locs k' n' hx hby X t r => RoadKit.acmp X hx rfl hv hw rfl (hb hby hd) rfl (same := false) (by simp [hc]) ho (by simp [acV, hq]) r
/-! constants of the pool -/
theorem Go.ldc {i : Nat} {v : Int32} (hd : decode code pc = .ok (.ldc i, 2)) (hq : q = pc + 2) (w : (Jvm.Cond.constant mn.cls i v).before a0 Z = true) (K : Go l Z mn code maxL ret R n0 Q h k n q Ls (.int v :: st)) : Go l Z mn code maxL ret R n0 Q h k n pc Ls st := by
  subst hq
  exact fun p e s m args below meth c T locs k' n' C X hk hn N eT => (K p e s m args below meth c T locs k' n' C X hk hn N eT).step fun t r => X.ldcI C.1 C.2.2.2.2.1 (mvT C.2.1 w) rfl (hb C.2.2.1 hd) r
theorem Go.ldcW {i : Nat} {v : Int32} (hd : decode code pc = .ok (.ldc_w i, 3)) (hq : q = pc + 3) (w : (Jvm.Cond.constant mn.cls i v).before a0 Z = true) (K : Go l Z mn code maxL ret R n0 Q h k n q Ls (.int v :: st)) : Go l Z mn code maxL ret R n0 Q h k n pc Ls st := by
  subst hq
  exact fun p e s m args below meth c T locs k' n' C X hk hn N eT => (K p e s m args below meth c T locs k' n' C X hk hn N eT).step fun t r => X.ldcWI C.1 C.2.2.2.2.1 (mvT C.2.1 w) rfl (hb C.2.2.1 hd) r
theorem Go.ldc2 {i : Nat} {v : Int64} (hd : decode code pc = .ok (.ldc2_w i, 3)) (hq : q = pc + 3) (w : (Jvm.Cond.constantLong mn.cls i v).before a0 Z = true) (K : Go l Z mn code maxL ret R n0 Q h k n q Ls (.long v :: st)) : Go l Z mn code maxL ret R n0 Q h k n pc Ls st := by
  subst hq
  exact fun p e s m args below meth c T locs k' n' C X hk hn N eT => (K p e s m args below meth c T locs k' n' C X hk hn N eT).step fun t r => X.ldc2J C.1 C.2.2.2.2.1 (mvT C.2.1 w) rfl (hb C.2.2.1 hd) r
/-! statics and fields -/
theorem Go.getS {i : Nat} {O nm d : String} {v : Value} (hd : decode code pc = .ok (.getstatic i, 3)) (hq : q = pc + 3) (w : (Jvm.Cond.fieldLink mn.cls i O nm d).before a0 Z = true) (F : Sta Z h O nm d v) (K : Go l Z mn code maxL ret R n0 Q h k n q Ls (v :: st)) : Go l Z mn code maxL ret R n0 Q h k n pc Ls st := by
  subst hq
  intro p e s m args below meth c T locs k' n' C X hk hn N eT
  obtain ⟨T', X', e', f⟩ := RoadKit.getS (host := "") X C.1 C.2.1 C.2.2.2.2.1 w Via.refl eT F (g := mkF m pc Ls st) rfl (hb C.2.2.1 hd)
  exact (K p e s m args below meth c T' locs k' n' C X' hk hn N e').step f
theorem Go.getF {i : Nat} {R0 O nm d host : String} {a : Addr} {v : Value} (hd : decode code pc = .ok (.getfield i, 3)) (hq : q = pc + 3) (w : (Jvm.Cond.fieldLink mn.cls i R0 nm d).before a0 Z = true ∨ (Jvm.Cond.fieldLinkNest mn.cls i R0 nm d host).before a0 Z = true) (via : Via Z R0 O nm d) (F : Fld Z h a O nm d v) (K : Go l Z mn code maxL ret R n0 Q h k n q Ls (v :: st)) : Go l Z mn code maxL ret R n0 Q h k n pc Ls (.ref a :: st) := by
  subst hq
  intro p e s m args below meth c T locs k' n' C X hk hn N eT
  obtain ⟨T', X', e', f⟩ := RoadKit.getF X C.1 C.2.1 C.2.2.2.2.1 w via eT F (g := mkF m pc Ls (.ref a :: st)) rfl rfl (hb C.2.2.1 hd)
  exact (K p e s m args below meth c T' locs k' n' C X' hk hn N e').step f
theorem Go.putF {i kk : Nat} {R0 O nm d host C : String} {a : Addr} {v old : Value} {ty : FieldType} (hd : decode code pc = .ok (.putfield i, 3)) (hq : q = pc + 3) (w : (Jvm.Cond.fieldLink mn.cls i R0 nm d).before a0 Z = true ∨ (Jvm.Cond.fieldLinkNest mn.cls i R0 nm d host).before a0 Z = true) (via : Via Z R0 O nm d) (F : Fld Z h a O nm d old) (E : Exa Z h a C) (L : (Jvm.Cond.lays C O nm d).before a0 Z = true ∨ ((Jvm.Cond.laysFinal C O nm d).before a0 Z = true ∧ mn.cls = O ∧ mn.name = "<init>")) (wi : (Jvm.Cond.instantiable C kk).before a0 Z = true)
    (hty : parseFieldDescriptor d = some ty) (hna : narrow ty v = v) (hf : fits ty v = true) (ha : n0 ≤ a) (K : ∀ h', Wr h h' a (RoadKit.slotOf Z O nm d) v → Go l Z mn code maxL ret R n0 Q h' k n q Ls st) : Go l Z mn code maxL ret R n0 Q h k n pc Ls (v :: .ref a :: st) := by
  subst hq
  intro p e s m args below meth c T locs k' n' Cc X hk hn N eT
  obtain ⟨T', h', X', e', W, f⟩ := RoadKit.putF X Cc.1 Cc.2.1 Cc.2.2.2.2.1 w via eT F E (L.imp id fun q => ⟨q.1, q.2.1, Cc.2.2.2.2.2.2.2.trans q.2.2⟩) wi hty hna hf (g := mkF m pc Ls (v :: .ref a :: st)) rfl rfl (hb Cc.2.2.1 hd)
  exact (K h' W p e s m args below meth c T' _ k' n' Cc X' hk hn (Fr.snoc X' N ha) e').step f
theorem Go.cast {i : Nat} {Kc : String} {a : Addr} (hd : decode code pc = .ok (.checkcast i, 3)) (hq : q = pc + 3) (w : (Jvm.Cond.classLink mn.cls i Kc).before a0 Z = true) (F : Ins Z h a Kc true) (K : Go l Z mn code maxL ret R n0 Q h k n q Ls (.ref a :: st)) : Go l Z mn code maxL ret R n0 Q h k n pc Ls (.ref a :: st) := by
  subst hq
  intro p e s m args below meth c T locs k' n' C X hk hn N eT
  obtain ⟨T', X', e', f⟩ := castY X C.1 C.2.1 C.2.2.2.2.1 w eT F (g := mkF m pc Ls (.ref a :: st)) rfl rfl (hb C.2.2.1 hd)
  exact (K p e s m args below meth c T' locs k' n' C X' hk hn N e').step f
/-! new, arrays -/
theorem Go.new {i kk : Nat} {C : String} (hd : decode code pc = .ok (.new i, 3)) (hq : q = pc + 3) (w : (Jvm.Cond.classLink mn.cls i C).before a0 Z = true) (wi : (Jvm.Cond.instantiable C kk).before a0 Z = true) (wz : (Jvm.Cond.initialized C).before a0 Z = true) (hc : k + 1 ≤ R.cells) (hs : n + kk ≤ R.slots)
    (K : ∀ h' a, a = h.size → Ext h h' → Exa Z h' a C → (∀ {O nm d : String} {ty : FieldType}, Laid Z a0 C O nm d → parseFieldDescriptor d = some ty → Fld Z h' a O nm d (defaultValue ty)) → Go l Z mn code maxL ret R n0 Q h' (k + 1) (n + kk) q Ls (.ref a :: st)) : Go l Z mn code maxL ret R n0 Q h k n pc Ls st := by
  subst hq
  intro p e s m args below meth c T locs k' n' Cc X hk hn N eT
  obtain ⟨T', h', X', e', E, A, D, -, f⟩ := newO X Cc.1 Cc.2.1 Cc.2.2.2.2.1 w wi wz eT (g := mkF m pc Ls st) rfl (hb Cc.2.2.1 hd) (by omega) (by omega)
  exact (K h' h.size rfl E A (fun L t => D L t) p e s m args below meth c T' locs _ _ Cc X' (by omega) (by omega) N e').step f
theorem Go.initObj {i wd : Nat} {a : Addr} (hd : decode code pc = .ok (.invokespecial i, 3)) (hq : q = pc + 3) (w1 : (Jvm.Cond.methodLink mn.cls i Lib.objectInit).before a0 Z = true) (w2 : (Jvm.Cond.instanceMethod Lib.objectInit).before a0 Z = true) (w3 : (Jvm.Cond.code Lib.objectInit ⟨#[0xb1]⟩ 1 none).before a0 Z = true) (hsz : Ls.size = maxL) (hf : 1 ≤ R.frames) (hW : (st.map fun v => v.category).sum = wd) (hl : wd + 12 ≤ R.locals) (K : Go l Z mn code maxL ret R n0 Q h k n q Ls st) : Go l Z mn code maxL ret R n0 Q h k n pc Ls (.ref a :: st) := by
  subst hq
  intro p e s m args below meth c T locs k' n' C X hk hn N eT
  obtain ⟨T', X', e', f⟩ := initO X C.1 C.2.1 C.2.2.2.2.1 w1 w2 w3 eT (g := mkF m pc Ls (.ref a :: st)) rfl (by rw [C.2.2.2.1]; exact hsz) rfl (hb C.2.2.1 hd) hf (W := wd) (by simp [hW]) hl
  exact (K p e s m args below meth c T' locs k' n' C X' hk hn N e').step f

end Laws
theorem cmpL_eq (x y : Int64) : XT.cmpL x y = 0 ↔ x = y := by
  unfold XT.cmpL
  by_cases h1 : y < x
  · rw [if_pos h1]; constructor
    · intro e; exact absurd e (by decide)
    · rintro rfl; exact absurd h1 Int64.lt_irrefl
  · rw [if_neg h1]
    by_cases h2 : x = y
    · simp [h2]
    · rw [if_neg h2]; constructor
      · intro e; exact absurd e (by decide)
      · intro e; exact absurd e h2
theorem cmpL_lt (x y : Int64) : XT.cmpL x y < 0 ↔ x < y := by
  unfold XT.cmpL
  by_cases h1 : y < x
  · rw [if_pos h1]; constructor
    · intro e; exact absurd e (by decide)
    · intro e; rw [Int64.lt_iff_toInt_lt] at e h1; omega
  · rw [if_neg h1]
    by_cases h2 : x = y
    · rw [if_pos h2]; constructor
      · intro e; exact absurd e (by decide)
      · intro e; rw [h2] at e; exact absurd e Int64.lt_irrefl
    · rw [if_neg h2]; constructor
      · intro _; rw [Int64.lt_iff_toInt_lt] at h1 ⊢; rw [← Int64.toInt_inj] at h2; omega
      · intro _; decide
theorem cmpL_gt (x y : Int64) : 0 < XT.cmpL x y ↔ y < x := by
  unfold XT.cmpL
  by_cases h1 : y < x
  · rw [if_pos h1]; constructor
    · intro _; exact h1
    · intro _; decide
  · rw [if_neg h1]
    by_cases h2 : x = y
    · rw [if_pos h2]; constructor
      · intro e; exact absurd e (by decide)
      · intro e; exact absurd e h1
    · rw [if_neg h2]; constructor
      · intro e; exact absurd e (by decide)
      · intro e; exact absurd e h1
section Laws2
variable {l : Launch} {Z : State} {mn : MethodName} {code : ByteArray} {maxL : Nat} {ret : Option FieldType} {R : Room} {n0 : Nat} {Q : Option Value → Heap → Prop} {h : Heap} {k n pc q : Nat} {Ls Ls' : Array Slot} {st st' : List Value} {a0 : Array Value}
theorem Go.lif_eq {x y' : Int64} {o : Int} {q' : Nat} (hd : decode code pc = .ok (.ifCond .eq o, 3)) (ho : 0 ≤ (pc : Int) + o) (hq : ((pc : Int) + o).toNat = q) (hq' : q' = pc + 3) (K1 : x = y' → Go l Z mn code maxL ret R n0 Q h k n q Ls st) (K2 : ¬ x = y' → Go l Z mn code maxL ret R n0 Q h k n q' Ls st) : Go l Z mn code maxL ret R n0 Q h k n pc Ls (.int (XT.cmpL x y') :: st) :=
  Go.if_eq hd ho hq hq' (fun c => K1 ((cmpL_eq _ _).mp c)) (fun c => K2 fun e => c ((cmpL_eq _ _).mpr e))
theorem Go.lif_ne {x y' : Int64} {o : Int} {q' : Nat} (hd : decode code pc = .ok (.ifCond .ne o, 3)) (ho : 0 ≤ (pc : Int) + o) (hq : ((pc : Int) + o).toNat = q) (hq' : q' = pc + 3) (K1 : ¬ x = y' → Go l Z mn code maxL ret R n0 Q h k n q Ls st) (K2 : x = y' → Go l Z mn code maxL ret R n0 Q h k n q' Ls st) : Go l Z mn code maxL ret R n0 Q h k n pc Ls (.int (XT.cmpL x y') :: st) :=
  Go.if_ne hd ho hq hq' (fun c => K1 fun e => c ((cmpL_eq _ _).mpr e)) (fun c => K2 ((cmpL_eq _ _).mp c))
theorem Go.lif_lt {x y' : Int64} {o : Int} {q' : Nat} (hd : decode code pc = .ok (.ifCond .lt o, 3)) (ho : 0 ≤ (pc : Int) + o) (hq : ((pc : Int) + o).toNat = q) (hq' : q' = pc + 3) (K1 : x < y' → Go l Z mn code maxL ret R n0 Q h k n q Ls st) (K2 : ¬ x < y' → Go l Z mn code maxL ret R n0 Q h k n q' Ls st) : Go l Z mn code maxL ret R n0 Q h k n pc Ls (.int (XT.cmpL x y') :: st) :=
  Go.if_lt hd ho hq hq' (fun c => K1 ((cmpL_lt _ _).mp c)) (fun c => K2 fun e => c ((cmpL_lt _ _).mpr e))
theorem Go.lif_ge {x y' : Int64} {o : Int} {q' : Nat} (hd : decode code pc = .ok (.ifCond .ge o, 3)) (ho : 0 ≤ (pc : Int) + o) (hq : ((pc : Int) + o).toNat = q) (hq' : q' = pc + 3) (K1 : ¬ x < y' → Go l Z mn code maxL ret R n0 Q h k n q Ls st) (K2 : x < y' → Go l Z mn code maxL ret R n0 Q h k n q' Ls st) : Go l Z mn code maxL ret R n0 Q h k n pc Ls (.int (XT.cmpL x y') :: st) :=
  Go.if_ge hd ho hq hq' (fun c => K1 fun e => c ((cmpL_lt _ _).mpr e)) (fun c => K2 ((cmpL_lt _ _).mp c))
theorem Go.lif_gt {x y' : Int64} {o : Int} {q' : Nat} (hd : decode code pc = .ok (.ifCond .gt o, 3)) (ho : 0 ≤ (pc : Int) + o) (hq : ((pc : Int) + o).toNat = q) (hq' : q' = pc + 3) (K1 : y' < x → Go l Z mn code maxL ret R n0 Q h k n q Ls st) (K2 : ¬ y' < x → Go l Z mn code maxL ret R n0 Q h k n q' Ls st) : Go l Z mn code maxL ret R n0 Q h k n pc Ls (.int (XT.cmpL x y') :: st) :=
  Go.if_gt hd ho hq hq' (fun c => K1 ((cmpL_gt _ _).mp c)) (fun c => K2 fun e => c ((cmpL_gt _ _).mpr e))
theorem Go.lif_le {x y' : Int64} {o : Int} {q' : Nat} (hd : decode code pc = .ok (.ifCond .le o, 3)) (ho : 0 ≤ (pc : Int) + o) (hq : ((pc : Int) + o).toNat = q) (hq' : q' = pc + 3) (K1 : ¬ y' < x → Go l Z mn code maxL ret R n0 Q h k n q Ls st) (K2 : y' < x → Go l Z mn code maxL ret R n0 Q h k n q' Ls st) : Go l Z mn code maxL ret R n0 Q h k n pc Ls (.int (XT.cmpL x y') :: st) :=
  Go.if_le hd ho hq hq' (fun c => K1 fun e => c ((cmpL_gt _ _).mpr e)) (fun c => K2 ((cmpL_gt _ _).mp c))
end Laws2
end Jvm.OwnKit

namespace Jvm.OwnKit
open Jvm Jvm.ClassFile Sem Op Lib Jvm.Free Jvm.Stand Jvm.LawKit Jvm.RoadKit
section Calls
variable {l : Launch} {Z : State} {mn : MethodName} {code : ByteArray} {maxL : Nat} {ret : Option FieldType} {R : Room} {n0 : Nat} {Q : Option Value → Heap → Prop} {h : Heap} {k n pc q : Nat} {Ls Ls' : Array Slot} {st st' : List Value} {a0 : Array Value}
  {y' : MethodName} {code' : ByteArray} {maxL' : Nat} {ret' : Option FieldType} {R' : Room} {Q' : Option Value → Heap → Prop} {argsL rest : List Value} {Ls1 : Array Slot} {ps : List FieldType} {r : Option FieldType} {i wd : Nat}
theorem Go.callS (hd : decode code pc = .ok (.invokestatic i, 3)) (hq : q = pc + 3) (w1 : (Jvm.Cond.methodLink mn.cls i y').before a0 Z = true) (w2 : (Jvm.Cond.static y').before a0 Z = true) (w3 : (Jvm.Cond.initialized y'.cls).before a0 Z = true) (w4 : (Jvm.Cond.code y' code' maxL' ret').before a0 Z = true)
    (hy : y'.cls ≠ "java/lang/invoke/MethodHandle" ∧ y'.cls ≠ "java/lang/invoke/VarHandle") (pn : plainFor y' = true) (pd : parseMethodDescriptor y'.desc = some ⟨ps, r⟩) (hl : argsL.length = ps.length) (hst : st = argsL.reverse ++ rest) (hef : ∀ m, entryFrame m argsL.toArray maxL' = mkF m 0 Ls1 []) (hsz : Ls.size = maxL)
    (hR1 : R'.frames + 1 ≤ R.frames) (hW : (rest.map fun v => v.category).sum = wd) (hR2 : wd + (maxL' + 11) + R'.locals ≤ R.locals) (hc : k + R'.cells ≤ R.cells) (hs : n + R'.slots ≤ R.slots)
    (G : Go l Z y' code' maxL' ret' R' n0 Q' h 0 0 0 Ls1 []) (K : ∀ v h', Q' v h' → Go l Z mn code maxL ret R n0 Q h' (k + R'.cells) (n + R'.slots) q Ls (v.toList ++ rest)) : Go l Z mn code maxL ret R n0 Q h k n pc Ls st := by
  subst hq hst hW
  intro p e s m args below meth c T locs k' n' C X hk hn N eT
  obtain ⟨v, vm1, ⟨T1, L1, k1, n1⟩, -, X1, ⟨Lc, hQ, e1, e2, e3⟩, f⟩ := Jvm.LawKit.callS X C.1 (y := y') C.2.2.2.2.1 (mvT C.2.1 w1) (mvT C.2.1 w2) (mvT C.2.1 w3) (mvT C.2.1 w4) hy (backOf (W := (rest.map fun v => v.category).sum) (Q := fun v h L => Fr n0 L ∧ Q' v h) (G.met pn hef []) C.2.1 w4 w3 hR1 hR2) (g := mkF m pc Ls (argsL.reverse ++ rest)) rfl (by rw [C.2.2.2.1]; exact hsz) (argsL := argsL) (rest := rest) (lenOf pd hl) rfl (by simp) (hb C.2.2.1 hd) (fun _ _ => ⟨rfl, eT, by show k' + _ ≤ _; omega, by show n' + _ ≤ _; omega⟩)
  dsimp only [Pt.U, Pt.locs, Pt.cells, Pt.slots] at X1 e1 e2 e3 f hQ
  subst e1 e2 e3
  exact (K v T1.heap hQ.2 p e s m args below meth c T1 _ _ _ C X1 (by omega) (by omega) (Fr.app N hQ.1) rfl).step f
theorem Go.callV {C : String} {a : Addr} (hd : decode code pc = .ok (.invokevirtual i, 3)) (hq : q = pc + 3) (w1 : (Jvm.Cond.methodLink mn.cls i y').before a0 Z = true) (w2 : (Jvm.Cond.declares y').before a0 Z = true) (w3 : (Jvm.Cond.selects C y' y').before a0 Z = true) (w4 : (Jvm.Cond.instanceMethod y').before a0 Z = true) (w5 : (Jvm.Cond.code y' code' maxL' ret').before a0 Z = true) (w6 : (Jvm.Cond.initialized y'.cls).before a0 Z = true)
    (hy : y'.cls ≠ "java/lang/invoke/MethodHandle" ∧ y'.cls ≠ "java/lang/invoke/VarHandle") (pn : plainFor y' = true) (pd : parseMethodDescriptor y'.desc = some ⟨ps, r⟩) (hl : argsL.length = ps.length) (hst : st = argsL.reverse ++ .ref a :: rest) (E : Exa Z h a C) (hef : ∀ m, entryFrame m (.ref a :: argsL).toArray maxL' = mkF m 0 Ls1 []) (hsz : Ls.size = maxL)
    (hR1 : R'.frames + 1 ≤ R.frames) (hW : (rest.map fun v => v.category).sum = wd) (hR2 : wd + (maxL' + 11) + R'.locals ≤ R.locals) (hc : k + R'.cells ≤ R.cells) (hs : n + R'.slots ≤ R.slots)
    (G : Go l Z y' code' maxL' ret' R' n0 Q' h 0 0 0 Ls1 []) (K : ∀ v h', Q' v h' → Go l Z mn code maxL ret R n0 Q h' (k + R'.cells) (n + R'.slots) q Ls (v.toList ++ rest)) : Go l Z mn code maxL ret R n0 Q h k n pc Ls st := by
  subst hq hst hW
  intro p e s m args below meth c T locs k' n' Cc X hk hn N eT
  obtain ⟨cq, kq, qa, qb, qc⟩ := isOf Cc.2.1 eT E
  obtain ⟨v, vm1, ⟨T1, L1, k1, n1⟩, -, X1, ⟨Lc, hQ, e1, e2, e3⟩, f⟩ := X.virtualBack Cc.1 (y := y') (z := y') Cc.2.2.2.2.1 (mvT Cc.2.1 w1) (mvT Cc.2.1 w2) (notFace_of_selects (args := #[]) (mvT Cc.2.1 w3)) (mvT Cc.2.1 w3) (mvT Cc.2.1 w4) hy (backOf (W := (rest.map fun v => v.category).sum) (Q := fun v h L => Fr n0 L ∧ Q' v h) (G.met pn hef []) Cc.2.1 w5 w6 hR1 hR2) qa qc (g := mkF m pc Ls (argsL.reverse ++ .ref a :: rest)) rfl (by rw [Cc.2.2.2.1]; exact hsz) (Steps.refl _) (argsL := argsL) (rest := rest) (lenOf pd hl) rfl (by simp) (hb Cc.2.2.1 hd) (fun _ _ => ⟨rfl, eT, by show k' + _ ≤ _; omega, by show n' + _ ≤ _; omega⟩)
  dsimp only [Pt.U, Pt.locs, Pt.cells, Pt.slots] at X1 e1 e2 e3 f hQ
  subst e1 e2 e3
  exact (K v T1.heap hQ.2 p e s m args below meth c T1 _ _ _ Cc X1 (by omega) (by omega) (Fr.app N hQ.1) rfl).step fun t r => f.trans r
theorem Go.callI {a : Addr} (hd : decode code pc = .ok (.invokespecial i, 3)) (hq : q = pc + 3) (hn1 : y'.name = "<init>") (w1 : (Jvm.Cond.methodLink mn.cls i y').before a0 Z = true) (w2 : (Jvm.Cond.instanceMethod y').before a0 Z = true) (w3 : (Jvm.Cond.initialized y'.cls).before a0 Z = true) (w4 : (Jvm.Cond.code y' code' maxL' none).before a0 Z = true)
    (hy : y'.cls ≠ "java/lang/invoke/MethodHandle" ∧ y'.cls ≠ "java/lang/invoke/VarHandle") (pn : plainFor y' = true) (pd : parseMethodDescriptor y'.desc = some ⟨ps, r⟩) (hl : argsL.length = ps.length) (hst : st = argsL.reverse ++ .ref a :: rest) (hef : ∀ m, entryFrame m (.ref a :: argsL).toArray maxL' = mkF m 0 Ls1 []) (hsz : Ls.size = maxL)
    (hR1 : R'.frames + 1 ≤ R.frames) (hW : (rest.map fun v => v.category).sum = wd) (hR2 : wd + (maxL' + 11) + R'.locals ≤ R.locals) (hc : k + R'.cells ≤ R.cells) (hs : n + R'.slots ≤ R.slots)
    (G : Go l Z y' code' maxL' none R' n0 Q' h 0 0 0 Ls1 []) (K : ∀ v h', Q' v h' → Go l Z mn code maxL ret R n0 Q h' (k + R'.cells) (n + R'.slots) q Ls (v.toList ++ rest)) : Go l Z mn code maxL ret R n0 Q h k n pc Ls st := by
  subst hq hst hW
  intro p e s m args below meth c T locs k' n' Cc X hk hn N eT
  obtain ⟨v, vm1, ⟨T1, L1, k1, n1⟩, -, X1, ⟨Lc, hQ, e1, e2, e3⟩, f⟩ := X.specialBack Cc.1 (y := y') hn1 Cc.2.2.2.2.1 (mvT Cc.2.1 w1) (mvT Cc.2.1 w2) (mvT Cc.2.1 w4) hy (backOf (W := (rest.map fun v => v.category).sum) (Q := fun v h L => Fr n0 L ∧ Q' v h) (G.met pn hef []) Cc.2.1 w4 w3 hR1 hR2) (g := mkF m pc Ls (argsL.reverse ++ .ref a :: rest)) rfl (by rw [Cc.2.2.2.1]; exact hsz) (Steps.refl _) (a := a) (argsL := argsL) (rest := rest) (lenOf pd hl) rfl (by simp) (hb Cc.2.2.1 hd) (fun _ _ => ⟨rfl, eT, by show k' + _ ≤ _; omega, by show n' + _ ≤ _; omega⟩)
  dsimp only [Pt.U, Pt.locs, Pt.cells, Pt.slots] at X1 e1 e2 e3 f hQ
  subst e1 e2 e3
  exact (K v T1.heap hQ.2 p e s m args below meth c T1 _ _ _ Cc X1 (by omega) (by omega) (Fr.app N hQ.1) rfl).step fun t r => f.trans r
theorem Go.callSV {P : Value → Heap → Prop} (hd : decode code pc = .ok (.invokestatic i, 3)) (hq : q = pc + 3) (w1 : (Jvm.Cond.methodLink mn.cls i y').before a0 Z = true) (w2 : (Jvm.Cond.static y').before a0 Z = true) (w3 : (Jvm.Cond.initialized y'.cls).before a0 Z = true) (w4 : (Jvm.Cond.code y' code' maxL' ret').before a0 Z = true)
    (hy : y'.cls ≠ "java/lang/invoke/MethodHandle" ∧ y'.cls ≠ "java/lang/invoke/VarHandle") (pn : plainFor y' = true) (pd : parseMethodDescriptor y'.desc = some ⟨ps, r⟩) (hl : argsL.length = ps.length) (hst : st = argsL.reverse ++ rest) (hef : ∀ m, entryFrame m argsL.toArray maxL' = mkF m 0 Ls1 []) (hsz : Ls.size = maxL)
    (hR1 : R'.frames + 1 ≤ R.frames) (hW : (rest.map fun v => v.category).sum = wd) (hR2 : wd + (maxL' + 11) + R'.locals ≤ R.locals) (hc : k + R'.cells ≤ R.cells) (hs : n + R'.slots ≤ R.slots)
    (G : Go l Z y' code' maxL' ret' R' n0 (RV P) h 0 0 0 Ls1 []) (K : ∀ w h', P w h' → Go l Z mn code maxL ret R n0 Q h' (k + R'.cells) (n + R'.slots) q Ls (w :: rest)) : Go l Z mn code maxL ret R n0 Q h k n pc Ls st :=
  Go.callS hd hq w1 w2 w3 w4 hy pn pd hl hst hef hsz hR1 hW hR2 hc hs G fun v h' ⟨w, e, q⟩ => by subst e; exact K w h' q
theorem Go.callSN {P : Heap → Prop} (hd : decode code pc = .ok (.invokestatic i, 3)) (hq : q = pc + 3) (w1 : (Jvm.Cond.methodLink mn.cls i y').before a0 Z = true) (w2 : (Jvm.Cond.static y').before a0 Z = true) (w3 : (Jvm.Cond.initialized y'.cls).before a0 Z = true) (w4 : (Jvm.Cond.code y' code' maxL' ret').before a0 Z = true)
    (hy : y'.cls ≠ "java/lang/invoke/MethodHandle" ∧ y'.cls ≠ "java/lang/invoke/VarHandle") (pn : plainFor y' = true) (pd : parseMethodDescriptor y'.desc = some ⟨ps, r⟩) (hl : argsL.length = ps.length) (hst : st = argsL.reverse ++ rest) (hef : ∀ m, entryFrame m argsL.toArray maxL' = mkF m 0 Ls1 []) (hsz : Ls.size = maxL)
    (hR1 : R'.frames + 1 ≤ R.frames) (hW : (rest.map fun v => v.category).sum = wd) (hR2 : wd + (maxL' + 11) + R'.locals ≤ R.locals) (hc : k + R'.cells ≤ R.cells) (hs : n + R'.slots ≤ R.slots)
    (G : Go l Z y' code' maxL' ret' R' n0 (RN P) h 0 0 0 Ls1 []) (K : ∀ h', P h' → Go l Z mn code maxL ret R n0 Q h' (k + R'.cells) (n + R'.slots) q Ls rest) : Go l Z mn code maxL ret R n0 Q h k n pc Ls st :=
  Go.callS hd hq w1 w2 w3 w4 hy pn pd hl hst hef hsz hR1 hW hR2 hc hs G fun v h' ⟨e, q⟩ => by subst e; exact K h' q
theorem Go.callVV {P : Value → Heap → Prop} {C : String} {a : Addr} (hd : decode code pc = .ok (.invokevirtual i, 3)) (hq : q = pc + 3) (w1 : (Jvm.Cond.methodLink mn.cls i y').before a0 Z = true) (w2 : (Jvm.Cond.declares y').before a0 Z = true) (w3 : (Jvm.Cond.selects C y' y').before a0 Z = true) (w4 : (Jvm.Cond.instanceMethod y').before a0 Z = true) (w5 : (Jvm.Cond.code y' code' maxL' ret').before a0 Z = true) (w6 : (Jvm.Cond.initialized y'.cls).before a0 Z = true)
    (hy : y'.cls ≠ "java/lang/invoke/MethodHandle" ∧ y'.cls ≠ "java/lang/invoke/VarHandle") (pn : plainFor y' = true) (pd : parseMethodDescriptor y'.desc = some ⟨ps, r⟩) (hl : argsL.length = ps.length) (hst : st = argsL.reverse ++ .ref a :: rest) (E : Exa Z h a C) (hef : ∀ m, entryFrame m (.ref a :: argsL).toArray maxL' = mkF m 0 Ls1 []) (hsz : Ls.size = maxL)
    (hR1 : R'.frames + 1 ≤ R.frames) (hW : (rest.map fun v => v.category).sum = wd) (hR2 : wd + (maxL' + 11) + R'.locals ≤ R.locals) (hc : k + R'.cells ≤ R.cells) (hs : n + R'.slots ≤ R.slots)
    (G : Go l Z y' code' maxL' ret' R' n0 (RV P) h 0 0 0 Ls1 []) (K : ∀ w h', P w h' → Go l Z mn code maxL ret R n0 Q h' (k + R'.cells) (n + R'.slots) q Ls (w :: rest)) : Go l Z mn code maxL ret R n0 Q h k n pc Ls st :=
  Go.callV hd hq w1 w2 w3 w4 w5 w6 hy pn pd hl hst E hef hsz hR1 hW hR2 hc hs G fun v h' ⟨w, e, q⟩ => by subst e; exact K w h' q
theorem Go.callVN {P : Heap → Prop} {C : String} {a : Addr} (hd : decode code pc = .ok (.invokevirtual i, 3)) (hq : q = pc + 3) (w1 : (Jvm.Cond.methodLink mn.cls i y').before a0 Z = true) (w2 : (Jvm.Cond.declares y').before a0 Z = true) (w3 : (Jvm.Cond.selects C y' y').before a0 Z = true) (w4 : (Jvm.Cond.instanceMethod y').before a0 Z = true) (w5 : (Jvm.Cond.code y' code' maxL' ret').before a0 Z = true) (w6 : (Jvm.Cond.initialized y'.cls).before a0 Z = true)
    (hy : y'.cls ≠ "java/lang/invoke/MethodHandle" ∧ y'.cls ≠ "java/lang/invoke/VarHandle") (pn : plainFor y' = true) (pd : parseMethodDescriptor y'.desc = some ⟨ps, r⟩) (hl : argsL.length = ps.length) (hst : st = argsL.reverse ++ .ref a :: rest) (E : Exa Z h a C) (hef : ∀ m, entryFrame m (.ref a :: argsL).toArray maxL' = mkF m 0 Ls1 []) (hsz : Ls.size = maxL)
    (hR1 : R'.frames + 1 ≤ R.frames) (hW : (rest.map fun v => v.category).sum = wd) (hR2 : wd + (maxL' + 11) + R'.locals ≤ R.locals) (hc : k + R'.cells ≤ R.cells) (hs : n + R'.slots ≤ R.slots)
    (G : Go l Z y' code' maxL' ret' R' n0 (RN P) h 0 0 0 Ls1 []) (K : ∀ h', P h' → Go l Z mn code maxL ret R n0 Q h' (k + R'.cells) (n + R'.slots) q Ls rest) : Go l Z mn code maxL ret R n0 Q h k n pc Ls st :=
  Go.callV hd hq w1 w2 w3 w4 w5 w6 hy pn pd hl hst E hef hsz hR1 hW hR2 hc hs G fun v h' ⟨e, q⟩ => by subst e; exact K h' q
theorem Go.callIN {P : Heap → Prop} {a : Addr} (hd : decode code pc = .ok (.invokespecial i, 3)) (hq : q = pc + 3) (hn1 : y'.name = "<init>") (w1 : (Jvm.Cond.methodLink mn.cls i y').before a0 Z = true) (w2 : (Jvm.Cond.instanceMethod y').before a0 Z = true) (w3 : (Jvm.Cond.initialized y'.cls).before a0 Z = true) (w4 : (Jvm.Cond.code y' code' maxL' none).before a0 Z = true)
    (hy : y'.cls ≠ "java/lang/invoke/MethodHandle" ∧ y'.cls ≠ "java/lang/invoke/VarHandle") (pn : plainFor y' = true) (pd : parseMethodDescriptor y'.desc = some ⟨ps, r⟩) (hl : argsL.length = ps.length) (hst : st = argsL.reverse ++ .ref a :: rest) (hef : ∀ m, entryFrame m (.ref a :: argsL).toArray maxL' = mkF m 0 Ls1 []) (hsz : Ls.size = maxL)
    (hR1 : R'.frames + 1 ≤ R.frames) (hW : (rest.map fun v => v.category).sum = wd) (hR2 : wd + (maxL' + 11) + R'.locals ≤ R.locals) (hc : k + R'.cells ≤ R.cells) (hs : n + R'.slots ≤ R.slots)
    (G : Go l Z y' code' maxL' none R' n0 (RN P) h 0 0 0 Ls1 []) (K : ∀ h', P h' → Go l Z mn code maxL ret R n0 Q h' (k + R'.cells) (n + R'.slots) q Ls rest) : Go l Z mn code maxL ret R n0 Q h k n pc Ls st :=
  Go.callI hd hq hn1 w1 w2 w3 w4 hy pn pd hl hst hef hsz hR1 hW hR2 hc hs G fun v h' ⟨e, q⟩ => by subst e; exact K h' q
end Calls
section Rets
variable {l : Launch} {Z : State} {mn : MethodName} {code : ByteArray} {maxL : Nat} {R : Room} {n0 : Nat} {Q : Option Value → Heap → Prop} {h : Heap} {k n pc q : Nat} {Ls : Array Slot} {st : List Value}
theorem Go.retOut {w : Value} {t : FieldType} {i : Instr} (hd : decode code pc = .ok (i, 1)) (hna : narrow t w = w)
    (hi : (i = .ireturn ∧ (t = .int ∨ t = .boolean ∨ t = .byte ∨ t = .char ∨ t = .short) ∧ ∃ z, w = .int z) ∨ (i = .lreturn ∧ t = .long ∧ ∃ z, w = .long z) ∨ (i = .dreturn ∧ t = .double ∧ ∃ z, w = .double z) ∨ (i = .freturn ∧ t = .float ∧ ∃ z, w = .float z) ∨ (i = .areturn ∧ t.isReference = true ∧ w.isRef = true))
    (hk : k ≤ R.cells) (hn : n ≤ R.slots) (hQ : Q (some w) h) : Go l Z mn code maxL (some t) R n0 Q h k n pc Ls (w :: st) := by
  intro p e s m args below meth c T locs k' n' C X hk' hn' N eT
  obtain ⟨fs, hr, hrun, hended, hW, hsame⟩ := X.leave (v := some w) (fun hh => by rw [C.2.2.2.2.2.1] at hh; cases hh) C.2.2.2.2.2.2.1
  exact ⟨_, _, RoadKit.retOut X C.1 C.2.2.2.2.2.1 hna hi (hb C.2.2.1 hd) hr, hrun, hended, _, locs, rfl, ⟨N, by show Q _ T.heap; rw [eT]; exact hQ⟩, ⟨_, rfl⟩, hW, hsame.mono (by omega) (by omega)⟩
theorem Go.ireturn {z : Int32} (hd : decode code pc = .ok (.ireturn, 1)) (hk : k ≤ R.cells) (hn : n ≤ R.slots) (hQ : Q (some (.int z)) h) : Go l Z mn code maxL (some .int) R n0 Q h k n pc Ls (.int z :: st) :=
  Go.retOut hd rfl (Or.inl ⟨rfl, Or.inl rfl, z, rfl⟩) hk hn hQ
theorem Go.zreturn {z : Int32} (hd : decode code pc = .ok (.ireturn, 1)) (hk : k ≤ R.cells) (hn : n ≤ R.slots) (hz : z = 0 ∨ z = 1) (hQ : Q (some (.int z)) h) : Go l Z mn code maxL (some .boolean) R n0 Q h k n pc Ls (.int z :: st) :=
  Go.retOut hd (by rcases hz with rfl | rfl <;> rfl) (Or.inl ⟨rfl, Or.inr (Or.inl rfl), z, rfl⟩) hk hn hQ
theorem Go.creturn {z : Int32} (hd : decode code pc = .ok (.ireturn, 1)) (hk : k ≤ R.cells) (hn : n ≤ R.slots) (hz : narrow .char (.int z) = .int z) (hQ : Q (some (.int z)) h) : Go l Z mn code maxL (some .char) R n0 Q h k n pc Ls (.int z :: st) :=
  Go.retOut hd hz (Or.inl ⟨rfl, Or.inr (Or.inr (Or.inr (Or.inl rfl))), z, rfl⟩) hk hn hQ
theorem Go.lreturn {z : Int64} (hd : decode code pc = .ok (.lreturn, 1)) (hk : k ≤ R.cells) (hn : n ≤ R.slots) (hQ : Q (some (.long z)) h) : Go l Z mn code maxL (some .long) R n0 Q h k n pc Ls (.long z :: st) :=
  Go.retOut hd rfl (Or.inr (Or.inl ⟨rfl, rfl, z, rfl⟩)) hk hn hQ
theorem Go.areturn {w : Value} {t : FieldType} (hd : decode code pc = .ok (.areturn, 1)) (hk : k ≤ R.cells) (hn : n ≤ R.slots) (ht : t.isReference = true) (hw : w.isRef = true) (hQ : Q (some w) h) : Go l Z mn code maxL (some t) R n0 Q h k n pc Ls (w :: st) :=
  Go.retOut hd (by rcases ref_cases hw with rfl | ⟨a, rfl⟩ <;> cases t <;> first | exact absurd ht (by decide) | rfl) (Or.inr (Or.inr (Or.inr (Or.inr ⟨rfl, ht, hw⟩)))) hk hn hQ
theorem Go.vreturn (hd : decode code pc = .ok (.return_, 1)) (hk : k ≤ R.cells) (hn : n ≤ R.slots) (hQ : Q none h) : Go l Z mn code maxL none R n0 Q h k n pc Ls [] := by
  intro p e s m args below meth c T locs k' n' C X hk' hn' N eT
  obtain ⟨fs, hr, hrun, hended, hW, hsame⟩ := X.leave (v := none) (fun _ => rfl) C.2.2.2.2.2.2.1
  exact ⟨_, _, X.returnOut C.1 C.2.2.2.2.2.1 (hb C.2.2.1 hd) hr, hrun, hended, _, locs, rfl, ⟨N, by show Q _ T.heap; rw [eT]; exact hQ⟩, ⟨_, rfl⟩, hW, hsame.mono (by omega) (by omega)⟩
end Rets
/-- an array's whole content -/
def Ar (Z : State) (h : Heap) (a : Addr) (ty : FieldType) (cA : ClassId) (vs : List Value) : Prop := ∃ c : Cell, Arr Z h a c ty ∧ c.cls = cA ∧ c.slots.toList = vs
section Arrs
variable {Z : State} {h h' : Heap} {a b : Addr} {ty : FieldType} {cA : ClassId} {vs : List Value} {sl : Nat} {v : Value} {ws : List Addr}
theorem Ar.lt (F : Ar Z h a ty cA vs) : a < h.size := by obtain ⟨c, A, -⟩ := F; exact A.lt
theorem Ar.ext (F : Ar Z h a ty cA vs) (E : Ext h h') : Ar Z h' a ty cA vs := by obtain ⟨c, A, r⟩ := F; exact ⟨c, A.ext E, r⟩
theorem Ar.other (F : Ar Z h b ty cA vs) (W : Wr h h' a sl v) (q : b ≠ a) : Ar Z h' b ty cA vs := by obtain ⟨c, A, r⟩ := F; exact ⟨c, A.other W q, r⟩
theorem Ar.keep (F : Ar Z h a ty cA vs) (K : Keep h h' ws) (q : a ∉ ws) : Ar Z h' a ty cA vs := by obtain ⟨c, A, r⟩ := F; exact ⟨c, ⟨K.2.1 a c A.1 q, A.2⟩, r⟩
theorem Ar.set (F : Ar Z h a ty cA vs) (W : Wr h h' a sl v) : Ar Z h' a ty cA (vs.set sl v) := by
  obtain ⟨c, A, r1, r2⟩ := F
  exact ⟨_, A.same W, r1, by simp [Cell.setSlot, r2]⟩
theorem Ar.size (F : Ar Z h a ty cA vs) {c : Cell} (hc : h[a]? = some c) : c.slots.size = vs.length := by
  obtain ⟨c', A, -, r⟩ := F
  cases hc.symm.trans A.1
  rw [← r]; simp
theorem Ar.ne {C : String} {k : Nat} {a0 : Array Value} (F : Exa Z h b C) (wi : (Jvm.Cond.instantiable C k).before a0 Z = true) (G : Ar Z h a ty cA vs) : b ≠ a := by
  obtain ⟨c, A, -⟩ := G; exact ne_arr F wi A
end Arrs
section ArrSteps
variable {l : Launch} {Z : State} {mn : MethodName} {code : ByteArray} {maxL : Nat} {ret : Option FieldType} {R : Room} {n0 : Nat} {Q : Option Value → Heap → Prop} {h : Heap} {k n pc q : Nat} {Ls : Array Slot} {st : List Value} {a0 : Array Value} {a : Addr} {ty : FieldType} {cA : ClassId} {vs : List Value} {v : Value} {j x : Int32}
theorem inb {c : Cell} (hj : ¬ j < 0) (r : c.slots.toList = vs) (hv : j.toNatClampNeg < vs.length) : ¬ (j < 0 ∨ c.slots.size ≤ j.toNatClampNeg) := by
  rintro (q | q)
  · exact hj q
  · rw [← r] at hv; simp at hv; omega
theorem at_l {c : Cell} {i : Nat} (r : c.slots.toList = vs) (hv : vs[i]? = some v) : c.slots[i]? = some v := by rw [← r] at hv; simpa using hv
theorem Go.arraylength (hd : decode code pc = .ok (.arraylength, 1)) (hq : q = pc + 1) (A : Ar Z h a ty cA vs) {z : Int32} (hz : vs.length.toInt32 = z) (K : Go l Z mn code maxL ret R n0 Q h k n q Ls (.int z :: st)) : Go l Z mn code maxL ret R n0 Q h k n pc Ls (.ref a :: st) := by
  subst hq hz
  intro p e s m args below meth c T locs k' n' C X hk hn N eT
  obtain ⟨cl, A, r1, r2⟩ := A
  exact (K p e s m args below meth c T locs k' n' C X hk hn N eT).step fun t r => X.arraylength (g := mkF m pc Ls (.ref a :: st)) C.1 (by rw [eT]; exact A.1) (State.isArrayOf_alike C.2.1.alike A.2.1) rfl rfl (hb C.2.2.1 hd) t (by rw [show cl.slots.size = vs.length by rw [← r2]; simp]; exact r)
theorem Go.iaload (hd : decode code pc = .ok (.iaload, 1)) (hq : q = pc + 1) (A : Ar Z h a .int cA vs) (hj : ¬ j < 0) (hv : vs[j.toNatClampNeg]? = some v) (K : Go l Z mn code maxL ret R n0 Q h k n q Ls (v :: st)) : Go l Z mn code maxL ret R n0 Q h k n pc Ls (.int j :: .ref a :: st) := by
  subst hq
  intro p e s m args below meth c T locs k' n' C X hk hn N eT
  obtain ⟨cl, A, r1, r2⟩ := A
  exact (K p e s m args below meth c T locs k' n' C X hk hn N eT).step fun t r => X.iaload (g := mkF m pc Ls (.int j :: .ref a :: st)) C.1 (by rw [eT]; exact A.1) (State.isArrayOf_alike C.2.1.alike A.2.1) A.2.2 (inb hj r2 (List.getElem?_eq_some_iff.mp hv).1) (at_l r2 hv) rfl rfl (hb C.2.2.1 hd) t r
theorem Go.laload (hd : decode code pc = .ok (.laload, 1)) (hq : q = pc + 1) (A : Ar Z h a .long cA vs) (hj : ¬ j < 0) (hv : vs[j.toNatClampNeg]? = some v) (K : Go l Z mn code maxL ret R n0 Q h k n q Ls (v :: st)) : Go l Z mn code maxL ret R n0 Q h k n pc Ls (.int j :: .ref a :: st) := by
  subst hq
  intro p e s m args below meth c T locs k' n' C X hk hn N eT
  obtain ⟨cl, A, r1, r2⟩ := A
  exact (K p e s m args below meth c T locs k' n' C X hk hn N eT).step fun t r => X.laload (g := mkF m pc Ls (.int j :: .ref a :: st)) C.1 (by rw [eT]; exact A.1) (State.isArrayOf_alike C.2.1.alike A.2.1) A.2.2 (inb hj r2 (List.getElem?_eq_some_iff.mp hv).1) (at_l r2 hv) rfl rfl (hb C.2.2.1 hd) t r
theorem Go.caload (hd : decode code pc = .ok (.caload, 1)) (hq : q = pc + 1) (A : Ar Z h a .char cA vs) (hj : ¬ j < 0) (hv : vs[j.toNatClampNeg]? = some v) (K : Go l Z mn code maxL ret R n0 Q h k n q Ls (v :: st)) : Go l Z mn code maxL ret R n0 Q h k n pc Ls (.int j :: .ref a :: st) := by
  subst hq
  intro p e s m args below meth c T locs k' n' C X hk hn N eT
  obtain ⟨cl, A, r1, r2⟩ := A
  exact (K p e s m args below meth c T locs k' n' C X hk hn N eT).step fun t r => X.caload (g := mkF m pc Ls (.int j :: .ref a :: st)) C.1 (by rw [eT]; exact A.1) (State.isArrayOf_alike C.2.1.alike A.2.1) A.2.2 (inb hj r2 (List.getElem?_eq_some_iff.mp hv).1) (at_l r2 hv) rfl rfl (hb C.2.2.1 hd) t r
theorem Go.zaload (hd : decode code pc = .ok (.baload, 1)) (hq : q = pc + 1) (A : Ar Z h a .boolean cA vs) (hj : ¬ j < 0) (hv : vs[j.toNatClampNeg]? = some v) (K : Go l Z mn code maxL ret R n0 Q h k n q Ls (v :: st)) : Go l Z mn code maxL ret R n0 Q h k n pc Ls (.int j :: .ref a :: st) := by
  subst hq
  intro p e s m args below meth c T locs k' n' C X hk hn N eT
  obtain ⟨cl, A, r1, r2⟩ := A
  exact (K p e s m args below meth c T locs k' n' C X hk hn N eT).step fun t r => X.baloadBooleans (g := mkF m pc Ls (.int j :: .ref a :: st)) C.1 (by rw [eT]; exact A.1) (State.isArrayOf_alike C.2.1.alike A.2.1) A.2.2 (inb hj r2 (List.getElem?_eq_some_iff.mp hv).1) (at_l r2 hv) rfl rfl (hb C.2.2.1 hd) t r
theorem Go.baload (hd : decode code pc = .ok (.baload, 1)) (hq : q = pc + 1) (A : Ar Z h a .byte cA vs) (hj : ¬ j < 0) (hv : vs[j.toNatClampNeg]? = some v) (K : Go l Z mn code maxL ret R n0 Q h k n q Ls (v :: st)) : Go l Z mn code maxL ret R n0 Q h k n pc Ls (.int j :: .ref a :: st) := by
  subst hq
  intro p e s m args below meth c T locs k' n' C X hk hn N eT
  obtain ⟨cl, A, r1, r2⟩ := A
  exact (K p e s m args below meth c T locs k' n' C X hk hn N eT).step fun t r => X.baloadBytes (g := mkF m pc Ls (.int j :: .ref a :: st)) C.1 (by rw [eT]; exact A.1) (State.isArrayOf_alike C.2.1.alike A.2.1) A.2.2 (inb hj r2 (List.getElem?_eq_some_iff.mp hv).1) (at_l r2 hv) rfl rfl (hb C.2.2.1 hd) t r
theorem Go.aaload (hd : decode code pc = .ok (.aaload, 1)) (hq : q = pc + 1) (A : Ar Z h a ty cA vs) (ht : ty.isReference = true) (hj : ¬ j < 0) (hv : vs[j.toNatClampNeg]? = some v) (K : Go l Z mn code maxL ret R n0 Q h k n q Ls (v :: st)) : Go l Z mn code maxL ret R n0 Q h k n pc Ls (.int j :: .ref a :: st) := by
  subst hq
  intro p e s m args below meth c T locs k' n' C X hk hn N eT
  obtain ⟨cl, A, r1, r2⟩ := A
  exact (K p e s m args below meth c T locs k' n' C X hk hn N eT).step fun t r => X.aaload (g := mkF m pc Ls (.int j :: .ref a :: st)) C.1 (by rw [eT]; exact A.1) (State.isArrayOf_alike C.2.1.alike A.2.1) ht A.2.2 (inb hj r2 (List.getElem?_eq_some_iff.mp hv).1) (at_l r2 hv) rfl rfl (hb C.2.2.1 hd) t r
theorem Go.iastore (hd : decode code pc = .ok (.iastore, 1)) (hq : q = pc + 1) (A : Ar Z h a .int cA vs) (hj : ¬ j < 0) (hv : j.toNatClampNeg < vs.length) (ha : n0 ≤ a) (K : ∀ h', Wr h h' a j.toNatClampNeg (.int x) → Go l Z mn code maxL ret R n0 Q h' k n q Ls st) : Go l Z mn code maxL ret R n0 Q h k n pc Ls (.int x :: .int j :: .ref a :: st) := by
  subst hq
  intro p e s m args below meth c T locs k' n' C X hk hn N eT
  obtain ⟨cl, A, r1, r2⟩ := A
  obtain ⟨T', h', X', e', W, f⟩ := stI X C.1 C.2.1 eT A (inb hj r2 hv) (g := mkF m pc Ls (.int x :: .int j :: .ref a :: st)) rfl rfl (hb C.2.2.1 hd)
  exact (K h' W p e s m args below meth c T' _ k' n' C X' hk hn (Fr.snoc X' N ha) e').step f
theorem Go.lastore {x : Int64} (hd : decode code pc = .ok (.lastore, 1)) (hq : q = pc + 1) (A : Ar Z h a .long cA vs) (hj : ¬ j < 0) (hv : j.toNatClampNeg < vs.length) (ha : n0 ≤ a) (K : ∀ h', Wr h h' a j.toNatClampNeg (.long x) → Go l Z mn code maxL ret R n0 Q h' k n q Ls st) : Go l Z mn code maxL ret R n0 Q h k n pc Ls (.long x :: .int j :: .ref a :: st) := by
  subst hq
  intro p e s m args below meth c T locs k' n' C X hk hn N eT
  obtain ⟨cl, A, r1, r2⟩ := A
  obtain ⟨T', h', X', e', W, f⟩ := stJ X C.1 C.2.1 eT A (inb hj r2 hv) (g := mkF m pc Ls (.long x :: .int j :: .ref a :: st)) rfl rfl (hb C.2.2.1 hd)
  exact (K h' W p e s m args below meth c T' _ k' n' C X' hk hn (Fr.snoc X' N ha) e').step f
theorem Go.castore (hd : decode code pc = .ok (.castore, 1)) (hq : q = pc + 1) (A : Ar Z h a .char cA vs) (hj : ¬ j < 0) (hv : j.toNatClampNeg < vs.length) (ha : n0 ≤ a) (K : ∀ h', Wr h h' a j.toNatClampNeg (.int (nar .char x)) → Go l Z mn code maxL ret R n0 Q h' k n q Ls st) : Go l Z mn code maxL ret R n0 Q h k n pc Ls (.int x :: .int j :: .ref a :: st) := by
  subst hq
  intro p e s m args below meth c T locs k' n' C X hk hn N eT
  obtain ⟨cl, A, r1, r2⟩ := A
  obtain ⟨T', h', X', e', W, f⟩ := stC X C.1 C.2.1 eT A (inb hj r2 hv) (g := mkF m pc Ls (.int x :: .int j :: .ref a :: st)) rfl rfl (hb C.2.2.1 hd)
  exact (K h' W p e s m args below meth c T' _ k' n' C X' hk hn (Fr.snoc X' N ha) e').step f
theorem Go.zastore (hd : decode code pc = .ok (.bastore, 1)) (hq : q = pc + 1) (A : Ar Z h a .boolean cA vs) (hj : ¬ j < 0) (hv : j.toNatClampNeg < vs.length) (ha : n0 ≤ a) (K : ∀ h', Wr h h' a j.toNatClampNeg (.int (nar .boolean x)) → Go l Z mn code maxL ret R n0 Q h' k n q Ls st) : Go l Z mn code maxL ret R n0 Q h k n pc Ls (.int x :: .int j :: .ref a :: st) := by
  subst hq
  intro p e s m args below meth c T locs k' n' C X hk hn N eT
  obtain ⟨cl, A, r1, r2⟩ := A
  obtain ⟨T', h', X', e', W, f⟩ := stZ X C.1 C.2.1 eT A (inb hj r2 hv) (g := mkF m pc Ls (.int x :: .int j :: .ref a :: st)) rfl rfl (hb C.2.2.1 hd)
  exact (K h' W p e s m args below meth c T' _ k' n' C X' hk hn (Fr.snoc X' N ha) e').step f
theorem Go.aastore (hd : decode code pc = .ok (.aastore, 1)) (hq : q = pc + 1) (A : Ar Z h a ty cA vs) (ht : ty.isReference = true) (hj : ¬ j < 0) (hv : j.toNatClampNeg < vs.length) (S : Sto Z h a v) (ha : n0 ≤ a) (K : ∀ h', Wr h h' a j.toNatClampNeg v → Go l Z mn code maxL ret R n0 Q h' k n q Ls st) : Go l Z mn code maxL ret R n0 Q h k n pc Ls (v :: .int j :: .ref a :: st) := by
  subst hq
  intro p e s m args below meth c T locs k' n' C X hk hn N eT
  obtain ⟨cl, A, r1, r2⟩ := A
  obtain ⟨T', h', X', e', W, f⟩ := stR X C.1 C.2.1 eT A (inb hj r2 hv) ht S (g := mkF m pc Ls (v :: .int j :: .ref a :: st)) rfl rfl (hb C.2.2.1 hd)
  exact (K h' W p e s m args below meth c T' _ k' n' C X' hk hn (Fr.snoc X' N ha) e').step f
theorem Go.newarray {aty : ArrayType} {z : Int32} {cap : Nat} (hd : decode code pc = .ok (.newarray aty, 2)) (hq : q = pc + 2) (w : (Jvm.Cond.arrayClass (newarray.typeOf aty)).before a0 Z = true) (hz : ¬ z < 0) (hcap : z.toNatClampNeg ≤ cap) (hb8 : cap * 8 ≤ 536870912) (hc : k + 1 ≤ R.cells) (hs : n + cap ≤ R.slots)
    (K : ∀ h' a cA, a = h.size → Ext h h' → Ar Z h' a (newarray.typeOf aty) cA (List.replicate z.toNatClampNeg (defaultValue (newarray.typeOf aty))) → Go l Z mn code maxL ret R n0 Q h' (k + 1) (n + cap) q Ls (.ref a :: st)) : Go l Z mn code maxL ret R n0 Q h k n pc Ls (.int z :: st) := by
  subst hq
  intro p e s m args below meth c T locs k' n' C X hk hn N eT
  obtain ⟨T', h', cA, X', e', E, A, f⟩ := newP X C.1 C.2.1 w eT (g := mkF m pc Ls (.int z :: st)) rfl (hb C.2.2.1 hd) rfl hz hcap hb8 (by omega) (by omega)
  exact (K h' h.size cA rfl E ⟨_, A, rfl, by simp [newA]⟩ p e s m args below meth c T' locs _ _ C X' (by omega) (by omega) N e').step f
theorem Go.anewarray {C : String} {i : Nat} {z : Int32} {cap : Nat} (hd : decode code pc = .ok (.anewarray i, 3)) (hq : q = pc + 3) (w1 : (Jvm.Cond.classLink mn.cls i C).before a0 Z = true) (w2 : (Jvm.Cond.arrayOver (.object C)).before a0 Z = true) (hz : ¬ z < 0) (hcap : z.toNatClampNeg ≤ cap) (hb8 : cap * 8 ≤ 536870912) (hc : k + 1 ≤ R.cells) (hs : n + cap ≤ R.slots)
    (K : ∀ h' a cA, a = h.size → Ext h h' → Ar Z h' a (.object C) cA (List.replicate z.toNatClampNeg .null) → Ovr Z cA C → Go l Z mn code maxL ret R n0 Q h' (k + 1) (n + cap) q Ls (.ref a :: st)) : Go l Z mn code maxL ret R n0 Q h k n pc Ls (.int z :: st) := by
  subst hq
  intro p e s m args below meth c T locs k' n' Cc X hk hn N eT
  obtain ⟨T', h', cA, X', e', E, A, O, f⟩ := newR X Cc.1 Cc.2.1 Cc.2.2.2.2.1 w1 w2 eT (g := mkF m pc Ls (.int z :: st)) rfl (hb Cc.2.2.1 hd) rfl hz hcap hb8 (by omega) (by omega)
  exact (K h' h.size cA rfl E ⟨_, A, rfl, by simp [newA, defaultValue]⟩ O p e s m args below meth c T' locs _ _ Cc X' (by omega) (by omega) N e').step f
theorem sto_of {C : String} {b : Addr} (A : Ar Z h a ty cA vs) (O : Ovr Z cA C) (I : Ins Z h b C true) : Sto Z h a (.ref b) := by
  obtain ⟨c, A, q, -⟩ := A
  exact Sto.ofV A q O I
end ArrSteps
end Jvm.OwnKit
namespace Jvm.OwnKit
open Jvm Jvm.ClassFile Sem Op Lib Jvm.Free Jvm.Stand Jvm.LawKit Jvm.RoadKit
section Case
variable {args : Array Value} {s : State} {idx : List Nat} {t u : Term} {a b : Addr} {ty : FieldType} {cA : ClassId} {vs : List Value} {O nm d C K : String}
theorem eq_int {v : Int32} (h : (Jvm.Cond.eq t (.int v)).value args s none s idx = some true) : t.eval args s none idx s = some (.int v) := by
  cases ha : t.eval args s none idx s with
  | none => simp [Jvm.Cond.value, ha] at h
  | some x => cases x <;> simp [Jvm.Cond.value, Term.eval, ha] at h ⊢ <;> exact h
theorem eq_long {v : Int64} (h : (Jvm.Cond.eq t (.long v)).value args s none s idx = some true) : t.eval args s none idx s = some (.long v) := by
  cases ha : t.eval args s none idx s with
  | none => simp [Jvm.Cond.value, ha] at h
  | some x => cases x <;> simp [Jvm.Cond.value, Term.eval, ha] at h ⊢ <;> exact h
theorem eq_ref (h : (Jvm.Cond.eq t u).value args s none s idx = some true) (hu : u.eval args s none idx s = some (.ref b)) : t.eval args s none idx s = some (.ref b) := by
  cases ha : t.eval args s none idx s with
  | none => simp [Jvm.Cond.value, ha] at h
  | some x => cases x <;> simp [Jvm.Cond.value, ha, hu] at h ⊢ <;> exact h
theorem sta_ref (h : (Jvm.Cond.exactly (.static C nm d) K).value args s none s [] = some true) (h1 : (Jvm.Cond.initialized C).before args s = true) (h2 : (Jvm.Cond.laysStatic C nm d).before args s = true) : ∃ a, (Term.static C nm d).eval args s none [] s = some (.ref a) ∧ Sta s s.heap C nm d (.ref a) ∧ Exa s s.heap a K := by
  obtain ⟨a, ea⟩ := exa_v h
  exact ⟨a, ea, Sta.start ea (Or.inr ⟨h1, h2⟩), Exa.start ea h⟩
theorem sta_arr (h : (Jvm.Cond.arrayOf (.static C nm d) ty).value args s none s [] = some true) (h1 : (Jvm.Cond.initialized C).before args s = true) (h2 : (Jvm.Cond.laysStatic C nm d).before args s = true) : ∃ a cA vs, (Term.static C nm d).eval args s none [] s = some (.ref a) ∧ Sta s s.heap C nm d (.ref a) ∧ Ar s s.heap a ty cA vs := by
  obtain ⟨a, ea⟩ := arr_v h
  obtain ⟨c, A⟩ := Arr.start ea h
  exact ⟨a, c.cls, c.slots.toList, ea, Sta.start ea (Or.inr ⟨h1, h2⟩), c, A, rfl, rfl⟩
theorem fld_int {v : Int32} (ev : t.eval args s none [] s = some (.ref a)) (h : (Jvm.Cond.eq (.field t O nm d) (.int v)).value args s none s [] = some true) : Fld s s.heap a O nm d (.int v) := Fld.start ((fld_at ev).symm.trans (eq_int h))
theorem fld_long {v : Int64} (ev : t.eval args s none [] s = some (.ref a)) (h : (Jvm.Cond.eq (.field t O nm d) (.long v)).value args s none s [] = some true) : Fld s s.heap a O nm d (.long v) := Fld.start ((fld_at ev).symm.trans (eq_long h))
theorem nat_small {m : Nat} (h : m < 2 ^ 31) : m.toInt32.toNatClampNeg = m := by
  show m.toInt32.toInt.toNat = m
  rw [len_toInt h]; rfl
theorem Ar.at_start (A : Ar s s.heap a ty cA vs) : ∃ c : Cell, s.arrayAt? a = some c ∧ c.slots.toList = vs ∧ c.slots.size = vs.length := by
  obtain ⟨c, A, -, r⟩ := A
  exact ⟨c, A.fin (Vm.Alike.refl _), r, by rw [← r]; simp⟩
theorem arr_len {z : Int32} (ev : t.eval args s none [] s = some (.ref a)) (A : Ar s s.heap a ty cA vs) (h : (Jvm.Cond.eq (.length t) (.int z)).value args s none s [] = some true) : vs.length = z.toNatClampNeg := by
  obtain ⟨c, hc, -, r⟩ := A.at_start
  have e := eq_int h
  simp only [Term.eval, ev, hc, Option.bind_eq_bind, Option.bind_some] at e
  split at e
  · rename_i q
    have e2 : c.slots.size.toInt32 = z := by simpa using e
    rw [← e2, nat_small q, r]
  · simp at e
theorem arr_elem {j : Int32} {v : Int32} (ev : t.eval args s none [] s = some (.ref a)) (A : Ar s s.heap a ty cA vs) (h : (Jvm.Cond.eq (.elem t (.int j)) (.int v)).value args s none s [] = some true) : vs[j.toNatClampNeg]? = some (.int v) := by
  obtain ⟨c, hc, r, -⟩ := A.at_start
  have e := eq_int h
  simp only [Term.eval, ev, hc, Option.bind_eq_bind, Option.bind_some] at e
  split at e
  · simp at e
  · rw [← r]; simpa using e
theorem arr_elemR {j : Int32} {u : Term} {b : Addr} (ev : t.eval args s none [] s = some (.ref a)) (A : Ar s s.heap a ty cA vs) (h : (Jvm.Cond.eq (.elem t (.int j)) u).value args s none s [] = some true) (hu : u.eval args s none [] s = some (.ref b)) : vs[j.toNatClampNeg]? = some (.ref b) := by
  obtain ⟨c, hc, r, -⟩ := A.at_start
  have e := eq_ref h hu
  simp only [Term.eval, ev, hc, Option.bind_eq_bind, Option.bind_some] at e
  split at e
  · simp at e
  · rw [← r]; simpa using e
theorem fold_no {f : Nat → Option Bool} {x : Option Bool} (hx : x ≠ some true) : ∀ L : List Nat, L.foldl (fun acc i => match acc with | some true => f i | x => x) x = x
  | [] => rfl
  | i :: L => by
    rw [List.foldl_cons]
    rcases x with _ | _ | _
    · exact fold_no hx L
    · exact fold_no hx L
    · exact absurd rfl hx
theorem fold_all {f : Nat → Option Bool} : ∀ L : List Nat, L.foldl (fun acc i => match acc with | some true => f i | x => x) (some true) = some true → ∀ i ∈ L, f i = some true
  | [], _, i, hi => nomatch hi
  | j :: L, h, i, hi => by
    rw [List.foldl_cons] at h
    by_cases hj : f j = some true
    · have h' : L.foldl (fun acc i => match acc with | some true => f i | x => x) (f j) = some true := h
      rw [hj] at h'
      rcases List.mem_cons.mp hi with rfl | hi
      · exact hj
      · exact fold_all L h' i hi
    · have h' : L.foldl (fun acc i => match acc with | some true => f i | x => x) (f j) = some true := h
      rw [fold_no hj L] at h'
      exact absurd h' hj
theorem arr_all {c : Jvm.Cond} (ev : t.eval args s none [] s = some (.ref a)) (A : Ar s s.heap a ty cA vs) (h : (Jvm.Cond.all t c).value args s none s [] = some true) : ∀ i, i < vs.length → c.value args s none s [i] = some true := by
  obtain ⟨cl, hc, -, r⟩ := A.at_start
  intro i hi
  simp only [Jvm.Cond.value, ev, hc] at h
  exact fold_all _ h i (List.mem_range.mpr (by omega))
theorem all_elem {i : Nat} {v : Int32} (ev : t.eval args s none [i] s = some (.ref a)) (A : Ar s s.heap a ty cA vs) (hi : i < 2 ^ 31) (h : (Jvm.Cond.eq (.elem t (.index 0)) (.int v)).value args s none s [i] = some true) : vs[i]? = some (.int v) := by
  obtain ⟨c, hc, r, -⟩ := A.at_start
  have e := eq_int h
  simp only [Term.eval, ev, hc, Option.bind_eq_bind, Option.bind_some, List.getElem?_cons_zero, Option.map_some] at e
  split at e
  · simp at e
  · rw [← r]; rw [nat_small hi] at e; simpa using e
theorem all_le {i : Nat} {v : Int32} {c : Jvm.Cond} (hi : i < 2 ^ 31) (h : (Jvm.Cond.or (.le (.int v) (.index 0)) c).value args s none s [i] = some true) : v.toInt ≤ i ∨ c.value args s none s [i] = some true := by
  simp only [Jvm.Cond.value, Term.eval, List.getElem?_cons_zero, Option.map_some] at h
  by_cases q : v ≤ i.toInt32
  · left; rw [Int32.le_iff_toInt_le, len_toInt hi] at q; exact q
  · right; simpa [q] using h
theorem all_lt {i : Nat} {v : Int32} {c : Jvm.Cond} (hi : i < 2 ^ 31) (h : (Jvm.Cond.or (.lt (.index 0) (.int v)) c).value args s none s [i] = some true) : (i : Int) < v.toInt ∨ c.value args s none s [i] = some true := by
  simp only [Jvm.Cond.value, Term.eval, List.getElem?_cons_zero, Option.map_some] at h
  by_cases q : i.toInt32 < v
  · left; rw [Int32.lt_iff_toInt_lt, len_toInt hi] at q; exact q
  · right; simpa [q] using h
theorem sta_idx {C nm d : String} {idx : List Nat} {v : Value} (ev : (Term.static C nm d).eval args s none [] s = some v) : (Term.static C nm d).eval args s none idx s = some v := ev
end Case
end Jvm.OwnKit
namespace Jvm.RoadKit
open ClassFile
theorem Fld.nxt {Z : State} {h : Heap} {a0 : Array Value} {o : Addr} {h' : Heap} {C nm d nm' d' : String} {v w : Value} {t t' : FieldType} (F : Fld Z h o C nm d v) (W : Wr h h' o (slotOf Z C nm' d') w) (L : Laid Z a0 C C nm d) (L' : Laid Z a0 C C nm' d') (hn : nm ≠ nm') (ht : parseFieldDescriptor d = some t) (ht' : parseFieldDescriptor d' = some t') : Fld Z h' o C nm d v :=
  F.other W (Or.inr (slot_ne L L' hn ht ht'))
end Jvm.RoadKit
namespace Jvm.OwnKit
open Jvm Jvm.ClassFile Sem Op Lib Jvm.Free Jvm.Stand Jvm.LawKit Jvm.RoadKit
section More
variable {l : Launch} {Z : State} {mn : MethodName} {code : ByteArray} {maxL : Nat} {ret : Option FieldType} {R : Room} {n0 : Nat} {Q : Option Value → Heap → Prop} {h : Heap} {k n pc q : Nat} {Ls : Array Slot} {st : List Value} {a0 : Array Value}
theorem Go.anewarrayA {C ad : String} {ty : FieldType} {i : Nat} {z : Int32} {cap : Nat} (hd : decode code pc = .ok (.anewarray i, 3)) (hq : q = pc + 3) (hC : (FieldType.array ty).toString = C) (had : "[" ++ C = ad) (w1 : (Jvm.Cond.classLink mn.cls i C).before a0 Z = true) (w2 : (Jvm.Cond.arrayOver (.array ty)).before a0 Z = true) (hz : ¬ z < 0) (hcap : z.toNatClampNeg ≤ cap) (hb8 : cap * 8 ≤ 536870912) (hc : k + 1 ≤ R.cells) (hs : n + cap ≤ R.slots)
    (K : ∀ h' a cA, a = h.size → Ext h h' → Ar Z h' a (.array ty) cA (List.replicate z.toNatClampNeg .null) → OvrA Z cA ty C → Exa Z h' a ad → Go l Z mn code maxL ret R n0 Q h' (k + 1) (n + cap) q Ls (.ref a :: st)) : Go l Z mn code maxL ret R n0 Q h k n pc Ls (.int z :: st) := by
  subst hq
  intro p e s m args below meth c T locs k' n' Cc X hk hn N eT
  obtain ⟨T', h', cA, X', e', E, A, E2, O, f⟩ := newRA X Cc.1 Cc.2.1 Cc.2.2.2.2.1 hC w1 w2 eT (g := mkF m pc Ls (.int z :: st)) rfl (hb Cc.2.2.1 hd) rfl hz hcap hb8 (by omega) (by omega) had
  exact (K h' h.size cA rfl E ⟨_, A, rfl, by simp [newA, defaultValue]⟩ O E2 p e s m args below meth c T' locs _ _ Cc X' (by omega) (by omega) N e').step f
theorem Go.newarrayE {aty : ArrayType} {z : Int32} {cap : Nat} {ad : String} (hd : decode code pc = .ok (.newarray aty, 2)) (hq : q = pc + 2) (had : "[" ++ (newarray.typeOf aty).toString = ad) (w : (Jvm.Cond.arrayClass (newarray.typeOf aty)).before a0 Z = true) (hz : ¬ z < 0) (hcap : z.toNatClampNeg ≤ cap) (hb8 : cap * 8 ≤ 536870912) (hc : k + 1 ≤ R.cells) (hs : n + cap ≤ R.slots)
    (K : ∀ h' a cA, a = h.size → Ext h h' → Ar Z h' a (newarray.typeOf aty) cA (List.replicate z.toNatClampNeg (defaultValue (newarray.typeOf aty))) → Exa Z h' a ad → Go l Z mn code maxL ret R n0 Q h' (k + 1) (n + cap) q Ls (.ref a :: st)) : Go l Z mn code maxL ret R n0 Q h k n pc Ls (.int z :: st) := by
  subst hq
  intro p e s m args below meth c T locs k' n' C X hk hn N eT
  obtain ⟨T', h', cA, X', e', E, A, E2, f⟩ := newPE X C.1 C.2.1 w eT (g := mkF m pc Ls (.int z :: st)) rfl (hb C.2.2.1 hd) rfl hz hcap hb8 (by omega) (by omega) had
  exact (K h' h.size cA rfl E ⟨_, A, rfl, by simp [newA]⟩ E2 p e s m args below meth c T' locs _ _ C X' (by omega) (by omega) N e').step f
theorem sto_ofA {a b : Addr} {t0 ty : FieldType} {cA : ClassId} {vs : List Value} {C : String} (A : Ar Z h a t0 cA vs) (O : OvrA Z cA ty C) (I : Ins Z h b C true) : Sto Z h a (.ref b) := by
  obtain ⟨c, A, q, -⟩ := A
  exact Sto.ofVA A q O I
theorem Ar.nel {a b : Addr} {ty : FieldType} {cA : ClassId} {vs : List Value} (F : Ar Z h a ty cA vs) (e : b = h.size) : a ≠ b := fun q => Nat.ne_of_lt F.lt (q.trans e)
theorem Ins.ofExa {a : Addr} {C : String} (E : Exa Z h a C) : Ins Z h a C true := Ins.self E
end More
theorem cat_ref {v : Value} (h : v.isRef = true) : v.category = 1 := by rcases ref_cases h with rfl | ⟨a, rfl⟩ <;> rfl
section Addrs
variable {h : Heap} {x b o : Addr} {n0 : Nat}
theorem new_ne (l : x < h.size) (e : b = h.size) : x ≠ b := fun q => Nat.ne_of_lt l (q.trans e)
theorem new_le (l : n0 ≤ h.size) (e : b = h.size) : n0 ≤ b := Nat.le_trans l (Nat.le_of_eq e.symm)
theorem le_size (l : o < h.size) (n : n0 ≤ o) : n0 ≤ h.size := Nat.le_trans n (Nat.le_of_lt l)
end Addrs
section Nums
theorem idiv_nat {x y : Int32} {d : Nat} (h0 : ¬ x < 0) (hy : y.toInt = d) (hd : 1 < d) : ¬ (x / y) < 0 ∧ (x / y).toNatClampNeg = x.toNatClampNeg / d := by
  have z : (0 : Int32).toInt = 0 := rfl
  have z1 : (-1 : Int32).toInt = -1 := rfl
  have p : 0 ≤ x.toInt := by rw [Int32.lt_iff_toInt_lt] at h0; omega
  have ny : y ≠ -1 := by
    intro q
    rw [q, z1] at hy
    omega
  have e := (c_idiv x y d hy ny).1 p
  have p' : 0 ≤ x.toInt / (d : Int) := Int.ediv_nonneg p (by omega)
  refine ⟨by rw [Int32.lt_iff_toInt_lt]; omega, ?_⟩
  show (x / y).toInt.toNat = x.toInt.toNat / d
  rw [e]
  obtain ⟨m, hm⟩ := Int.eq_ofNat_of_zero_le p
  rw [hm]; rfl
theorem irem_nat {x y : Int32} {d : Nat} (h0 : ¬ x < 0) (hy : y.toInt = d) (hd : 1 < d) : ¬ (x % y) < 0 ∧ (x % y).toNatClampNeg = x.toNatClampNeg % d := by
  have z : (0 : Int32).toInt = 0 := rfl
  have p : 0 ≤ x.toInt := by rw [Int32.lt_iff_toInt_lt] at h0; omega
  have e := (c_irem x y d hy).1 p
  have p' : 0 ≤ x.toInt % (d : Int) := Int.emod_nonneg _ (by omega)
  refine ⟨by rw [Int32.lt_iff_toInt_lt]; omega, ?_⟩
  show (x % y).toInt.toNat = x.toInt.toNat % d
  rw [e]
  obtain ⟨m, hm⟩ := Int.eq_ofNat_of_zero_le p
  rw [hm]; rfl
theorem nonneg_iff {x : Int32} : ¬ x < 0 ↔ 0 ≤ x.toInt := by
  rw [Int32.lt_iff_toInt_lt]; have : (0 : Int32).toInt = 0 := rfl; omega
end Nums
end Jvm.OwnKit
namespace Jvm.OwnKit
open Jvm Jvm.ClassFile Sem Op Lib Jvm.Free Jvm.Stand Jvm.LawKit Jvm.RoadKit
section Calls5
variable {l : Launch} {Z : State} {mn : MethodName} {code : ByteArray} {maxL : Nat} {ret : Option FieldType} {R : Room} {n0 : Nat} {Q : Option Value → Heap → Prop} {h : Heap} {k n pc q : Nat} {Ls Ls' : Array Slot} {st st' : List Value} {a0 : Array Value}
  {y' : MethodName} {code' : ByteArray} {maxL' : Nat} {ret' : Option FieldType} {R' : Room} {Q' : Option Value → Heap → Prop} {argsL rest : List Value} {Ls1 : Array Slot} {ps : List FieldType} {r : Option FieldType} {i wd : Nat}

theorem Go.callU {z : MethodName} {C owner : String} {a : Addr} (hd : decode code pc = .ok (.invokevirtual i, 3)) (hq : q = pc + 3) (w1 : (Jvm.Cond.methodLink mn.cls i y').before a0 Z = true) (ws : (Jvm.Cond.sameMethod y'.cls owner y'.name y'.desc).before a0 Z = true) (w2 : (Jvm.Cond.declares ⟨owner, y'.name, y'.desc⟩).before a0 Z = true) (w3 : (Jvm.Cond.selects C y' z).before a0 Z = true) (w4 : (Jvm.Cond.instanceMethod z).before a0 Z = true) (w5 : (Jvm.Cond.code z code' maxL' ret').before a0 Z = true) (w6 : (Jvm.Cond.initialized z.cls).before a0 Z = true) (hy : owner ≠ "java/lang/invoke/MethodHandle" ∧ owner ≠ "java/lang/invoke/VarHandle") (pn : plainFor z = true) (pd : parseMethodDescriptor y'.desc = some ⟨ps, r⟩) (hl : argsL.length = ps.length) (hst : st = argsL.reverse ++ .ref a :: rest) (E : Exa Z h a C) (hef : ∀ m, entryFrame m (.ref a :: argsL).toArray maxL' = mkF m 0 Ls1 []) (hsz : Ls.size = maxL) (hR1 : R'.frames + 1 ≤ R.frames) (hW : (rest.map fun v => v.category).sum = wd) (hR2 : wd + (maxL' + 11) + R'.locals ≤ R.locals) (hc : k + R'.cells ≤ R.cells) (hs : n + R'.slots ≤ R.slots) (G : Go l Z z code' maxL' ret' R' n0 Q' h 0 0 0 Ls1 []) (K : ∀ v h', Q' v h' → Go l Z mn code maxL ret R n0 Q h' (k + R'.cells) (n + R'.slots) q Ls (v.toList ++ rest)) : Go l Z mn code maxL ret R n0 Q h k n pc Ls st := by
  subst hq hst hW
  intro p e s m args below meth c T locs k' n' Cc X hk hn N eT
  obtain ⟨cq, kq, qa, qb, qc⟩ := isOf Cc.2.1 eT E
  obtain ⟨v, vm1, ⟨T1, L1, k1, n1⟩, -, X1, ⟨Lc, hQ, e1, e2, e3⟩, f⟩ := X.virtualBackUp Cc.1 (x := y') (y := z) (owner := owner) Cc.2.2.2.2.1 (mvT Cc.2.1 w1) (mvT Cc.2.1 ws) (mvT Cc.2.1 w2) hy (mvT Cc.2.1 w3) (mvT Cc.2.1 w4) (backOf (W := (rest.map fun v => v.category).sum) (Q := fun v h L => Fr n0 L ∧ Q' v h) (G.met pn hef []) Cc.2.1 w5 w6 hR1 hR2) qa qc (g := mkF m pc Ls (argsL.reverse ++ .ref a :: rest)) rfl (by rw [Cc.2.2.2.1]; exact hsz) (Steps.refl _) (argsL := argsL) (rest := rest) (lenOf pd hl) rfl (by simp) (hb Cc.2.2.1 hd) (fun _ _ => ⟨rfl, eT, by show k' + _ ≤ _; omega, by show n' + _ ≤ _; omega⟩)
  dsimp only [Pt.U, Pt.locs, Pt.cells, Pt.slots] at X1 e1 e2 e3 f hQ
  subst e1 e2 e3
  exact (K v T1.heap hQ.2 p e s m args below meth c T1 _ _ _ Cc X1 (by omega) (by omega) (Fr.app N hQ.1) rfl).step fun t r => f.trans r
theorem Go.callP {a : Addr} {C C2 : String} {y2 z2 : MethodName} (hd : decode code pc = .ok (.invokevirtual i, 3)) (hq : q = pc + 3) (w1 : (Jvm.Cond.methodLink mn.cls i y').before a0 Z = true) (w2 : (Jvm.Cond.privateMethod y').before a0 Z = true) (w3 : (Jvm.Cond.selects C2 y2 z2).before a0 Z = true) (hz2 : z2.cls = y'.cls) (w4 : (Jvm.Cond.instanceMethod y').before a0 Z = true) (w5 : (Jvm.Cond.code y' code' maxL' ret').before a0 Z = true) (w6 : (Jvm.Cond.initialized y'.cls).before a0 Z = true) (hy : y'.cls ≠ "java/lang/invoke/MethodHandle" ∧ y'.cls ≠ "java/lang/invoke/VarHandle") (pn : plainFor y' = true) (pd : parseMethodDescriptor y'.desc = some ⟨ps, r⟩) (hl : argsL.length = ps.length) (hst : st = argsL.reverse ++ .ref a :: rest) (E : Exa Z h a C) (hef : ∀ m, entryFrame m (.ref a :: argsL).toArray maxL' = mkF m 0 Ls1 []) (hsz : Ls.size = maxL) (hR1 : R'.frames + 1 ≤ R.frames) (hW : (rest.map fun v => v.category).sum = wd) (hR2 : wd + (maxL' + 11) + R'.locals ≤ R.locals) (hc : k + R'.cells ≤ R.cells) (hs : n + R'.slots ≤ R.slots) (G : Go l Z y' code' maxL' ret' R' n0 Q' h 0 0 0 Ls1 []) (K : ∀ v h', Q' v h' → Go l Z mn code maxL ret R n0 Q h' (k + R'.cells) (n + R'.slots) q Ls (v.toList ++ rest)) : Go l Z mn code maxL ret R n0 Q h k n pc Ls st := by
  subst hq hst hW
  intro p e s m args below meth c T locs k' n' Cc X hk hn N eT
  obtain ⟨cq, qa, qb⟩ := E.cell
  have hpr : s.PrivateAt y' := Jvm.Cond.privateMethod_at (mvP Cc.2.1 w2 (args := #[]))
  have hse : (Jvm.Cond.selects y'.cls y' y').before args s = true := by
    obtain ⟨c2, r2, m2, -, -, q3, -, kk, q5, q6⟩ := Jvm.Cond.selects_spec (mvT (args := args) Cc.2.1 w3)
    exact Jvm.Stand.selects_self_of_private (hz2 ▸ findClass_of_methodNamed q3) q5 q6 hpr (mvT Cc.2.1 w4) hy
  obtain ⟨v, vm1, ⟨T1, L1, k1, n1⟩, -, X1, ⟨Lc, hQ, e1, e2, e3⟩, f⟩ := X.privateBack Cc.1 (y := y') Cc.2.2.2.2.1 (mvT Cc.2.1 w1) (mvT Cc.2.1 w4) hse hpr (mvT Cc.2.1 w5) hy (backOf (W := (rest.map fun v => v.category).sum) (Q := fun v h L => Fr n0 L ∧ Q' v h) (G.met pn hef []) Cc.2.1 w5 w6 hR1 hR2) (g := mkF m pc Ls (argsL.reverse ++ .ref a :: rest)) rfl (by rw [Cc.2.2.2.1]; exact hsz) (Steps.refl _) (a := a) (by rw [eT]; exact qa) qb (argsL := argsL) (rest := rest) (lenOf pd hl) rfl (by simp) (hb Cc.2.2.1 hd) (fun _ _ => ⟨rfl, eT, by show k' + _ ≤ _; omega, by show n' + _ ≤ _; omega⟩)
  dsimp only [Pt.U, Pt.locs, Pt.cells, Pt.slots] at X1 e1 e2 e3 f hQ
  subst e1 e2 e3
  exact (K v T1.heap hQ.2 p e s m args below meth c T1 _ _ _ Cc X1 (by omega) (by omega) (Fr.app N hQ.1) rfl).step fun t r => f.trans r
theorem Go.callUV {P : Value → Heap → Prop} {z : MethodName} {C owner : String} {a : Addr} (hd : decode code pc = .ok (.invokevirtual i, 3)) (hq : q = pc + 3) (w1 : (Jvm.Cond.methodLink mn.cls i y').before a0 Z = true) (ws : (Jvm.Cond.sameMethod y'.cls owner y'.name y'.desc).before a0 Z = true) (w2 : (Jvm.Cond.declares ⟨owner, y'.name, y'.desc⟩).before a0 Z = true) (w3 : (Jvm.Cond.selects C y' z).before a0 Z = true) (w4 : (Jvm.Cond.instanceMethod z).before a0 Z = true) (w5 : (Jvm.Cond.code z code' maxL' ret').before a0 Z = true) (w6 : (Jvm.Cond.initialized z.cls).before a0 Z = true) (hy : owner ≠ "java/lang/invoke/MethodHandle" ∧ owner ≠ "java/lang/invoke/VarHandle") (pn : plainFor z = true) (pd : parseMethodDescriptor y'.desc = some ⟨ps, r⟩) (hl : argsL.length = ps.length) (hst : st = argsL.reverse ++ .ref a :: rest) (E : Exa Z h a C) (hef : ∀ m, entryFrame m (.ref a :: argsL).toArray maxL' = mkF m 0 Ls1 []) (hsz : Ls.size = maxL) (hR1 : R'.frames + 1 ≤ R.frames) (hW : (rest.map fun v => v.category).sum = wd) (hR2 : wd + (maxL' + 11) + R'.locals ≤ R.locals) (hc : k + R'.cells ≤ R.cells) (hs : n + R'.slots ≤ R.slots) (G : Go l Z z code' maxL' ret' R' n0 (RV P) h 0 0 0 Ls1 []) (K : ∀ w h', P w h' → Go l Z mn code maxL ret R n0 Q h' (k + R'.cells) (n + R'.slots) q Ls (w :: rest)) : Go l Z mn code maxL ret R n0 Q h k n pc Ls st :=
  Go.callU hd hq w1 ws w2 w3 w4 w5 w6 hy pn pd hl hst E hef hsz hR1 hW hR2 hc hs G fun v h' ⟨w, e, q⟩ => by subst e; exact K w h' q
theorem Go.callUN {P : Heap → Prop} {z : MethodName} {C owner : String} {a : Addr} (hd : decode code pc = .ok (.invokevirtual i, 3)) (hq : q = pc + 3) (w1 : (Jvm.Cond.methodLink mn.cls i y').before a0 Z = true) (ws : (Jvm.Cond.sameMethod y'.cls owner y'.name y'.desc).before a0 Z = true) (w2 : (Jvm.Cond.declares ⟨owner, y'.name, y'.desc⟩).before a0 Z = true) (w3 : (Jvm.Cond.selects C y' z).before a0 Z = true) (w4 : (Jvm.Cond.instanceMethod z).before a0 Z = true) (w5 : (Jvm.Cond.code z code' maxL' ret').before a0 Z = true) (w6 : (Jvm.Cond.initialized z.cls).before a0 Z = true) (hy : owner ≠ "java/lang/invoke/MethodHandle" ∧ owner ≠ "java/lang/invoke/VarHandle") (pn : plainFor z = true) (pd : parseMethodDescriptor y'.desc = some ⟨ps, r⟩) (hl : argsL.length = ps.length) (hst : st = argsL.reverse ++ .ref a :: rest) (E : Exa Z h a C) (hef : ∀ m, entryFrame m (.ref a :: argsL).toArray maxL' = mkF m 0 Ls1 []) (hsz : Ls.size = maxL) (hR1 : R'.frames + 1 ≤ R.frames) (hW : (rest.map fun v => v.category).sum = wd) (hR2 : wd + (maxL' + 11) + R'.locals ≤ R.locals) (hc : k + R'.cells ≤ R.cells) (hs : n + R'.slots ≤ R.slots) (G : Go l Z z code' maxL' ret' R' n0 (RN P) h 0 0 0 Ls1 []) (K : ∀ h', P h' → Go l Z mn code maxL ret R n0 Q h' (k + R'.cells) (n + R'.slots) q Ls rest) : Go l Z mn code maxL ret R n0 Q h k n pc Ls st :=
  Go.callU hd hq w1 ws w2 w3 w4 w5 w6 hy pn pd hl hst E hef hsz hR1 hW hR2 hc hs G fun v h' ⟨e, q⟩ => by subst e; exact K h' q
theorem Go.callPV {P : Value → Heap → Prop} {a : Addr} {C C2 : String} {y2 z2 : MethodName} (hd : decode code pc = .ok (.invokevirtual i, 3)) (hq : q = pc + 3) (w1 : (Jvm.Cond.methodLink mn.cls i y').before a0 Z = true) (w2 : (Jvm.Cond.privateMethod y').before a0 Z = true) (w3 : (Jvm.Cond.selects C2 y2 z2).before a0 Z = true) (hz2 : z2.cls = y'.cls) (w4 : (Jvm.Cond.instanceMethod y').before a0 Z = true) (w5 : (Jvm.Cond.code y' code' maxL' ret').before a0 Z = true) (w6 : (Jvm.Cond.initialized y'.cls).before a0 Z = true) (hy : y'.cls ≠ "java/lang/invoke/MethodHandle" ∧ y'.cls ≠ "java/lang/invoke/VarHandle") (pn : plainFor y' = true) (pd : parseMethodDescriptor y'.desc = some ⟨ps, r⟩) (hl : argsL.length = ps.length) (hst : st = argsL.reverse ++ .ref a :: rest) (E : Exa Z h a C) (hef : ∀ m, entryFrame m (.ref a :: argsL).toArray maxL' = mkF m 0 Ls1 []) (hsz : Ls.size = maxL) (hR1 : R'.frames + 1 ≤ R.frames) (hW : (rest.map fun v => v.category).sum = wd) (hR2 : wd + (maxL' + 11) + R'.locals ≤ R.locals) (hc : k + R'.cells ≤ R.cells) (hs : n + R'.slots ≤ R.slots) (G : Go l Z y' code' maxL' ret' R' n0 (RV P) h 0 0 0 Ls1 []) (K : ∀ w h', P w h' → Go l Z mn code maxL ret R n0 Q h' (k + R'.cells) (n + R'.slots) q Ls (w :: rest)) : Go l Z mn code maxL ret R n0 Q h k n pc Ls st :=
  Go.callP hd hq w1 w2 w3 hz2 w4 w5 w6 hy pn pd hl hst E hef hsz hR1 hW hR2 hc hs G fun v h' ⟨w, e, q⟩ => by subst e; exact K w h' q
theorem Go.callPN {P : Heap → Prop} {a : Addr} {C C2 : String} {y2 z2 : MethodName} (hd : decode code pc = .ok (.invokevirtual i, 3)) (hq : q = pc + 3) (w1 : (Jvm.Cond.methodLink mn.cls i y').before a0 Z = true) (w2 : (Jvm.Cond.privateMethod y').before a0 Z = true) (w3 : (Jvm.Cond.selects C2 y2 z2).before a0 Z = true) (hz2 : z2.cls = y'.cls) (w4 : (Jvm.Cond.instanceMethod y').before a0 Z = true) (w5 : (Jvm.Cond.code y' code' maxL' ret').before a0 Z = true) (w6 : (Jvm.Cond.initialized y'.cls).before a0 Z = true) (hy : y'.cls ≠ "java/lang/invoke/MethodHandle" ∧ y'.cls ≠ "java/lang/invoke/VarHandle") (pn : plainFor y' = true) (pd : parseMethodDescriptor y'.desc = some ⟨ps, r⟩) (hl : argsL.length = ps.length) (hst : st = argsL.reverse ++ .ref a :: rest) (E : Exa Z h a C) (hef : ∀ m, entryFrame m (.ref a :: argsL).toArray maxL' = mkF m 0 Ls1 []) (hsz : Ls.size = maxL) (hR1 : R'.frames + 1 ≤ R.frames) (hW : (rest.map fun v => v.category).sum = wd) (hR2 : wd + (maxL' + 11) + R'.locals ≤ R.locals) (hc : k + R'.cells ≤ R.cells) (hs : n + R'.slots ≤ R.slots) (G : Go l Z y' code' maxL' ret' R' n0 (RN P) h 0 0 0 Ls1 []) (K : ∀ h', P h' → Go l Z mn code maxL ret R n0 Q h' (k + R'.cells) (n + R'.slots) q Ls rest) : Go l Z mn code maxL ret R n0 Q h k n pc Ls st :=
  Go.callP hd hq w1 w2 w3 hz2 w4 w5 w6 hy pn pd hl hst E hef hsz hR1 hW hR2 hc hs G fun v h' ⟨e, q⟩ => by subst e; exact K h' q
/-- an array whose elements are of its type -/
def ArF (Z : State) (h : Heap) (a : Addr) (ty : FieldType) (cA : ClassId) (vs : List Value) : Prop := ∃ c : Cell, Arr Z h a c ty ∧ c.cls = cA ∧ c.slots.toList = vs ∧ FitC Z c
theorem ArF.ext {a : Addr} {ty : FieldType} {cA : ClassId} {vs : List Value} {h' : Heap} (F : ArF Z h a ty cA vs) (E : Ext h h') : ArF Z h' a ty cA vs := by obtain ⟨c, A, r⟩ := F; exact ⟨c, A.ext E, r⟩
theorem ArF.start {s : State} {a : Addr} {ty : FieldType} {cA : ClassId} {vs : List Value} (hf : Fit s) (A : Ar s s.heap a ty cA vs) : ArF s s.heap a ty cA vs := by
  obtain ⟨c, A, r1, r2⟩ := A; exact ⟨c, A, r1, r2, FitC.start hf A⟩
theorem Go.clone {ad : String} {a : Addr} {ty : FieldType} {cA : ClassId} {vs : List Value} {cap : Nat} (hd : decode code pc = .ok (.invokevirtual i, 3)) (hq : q = pc + 3) (w1 : (Jvm.Cond.methodLink mn.cls i ⟨ad, "clone", "()Ljava/lang/Object;"⟩).before a0 Z = true) (w2 : (Jvm.Cond.sameMethod ad "java/lang/Object" "clone" "()Ljava/lang/Object;").before a0 Z = true) (w3 : (Jvm.Cond.native ⟨"java/lang/Object", "clone", "()Ljava/lang/Object;"⟩).before a0 Z = true)
    (w4 : (Jvm.Cond.instanceMethod ⟨"java/lang/Object", "clone", "()Ljava/lang/Object;"⟩).before a0 Z = true) (w5 : (Jvm.Cond.selects ad ⟨ad, "clone", "()Ljava/lang/Object;"⟩ ⟨"java/lang/Object", "clone", "()Ljava/lang/Object;"⟩).before a0 Z = true) (w6 : (Jvm.Cond.castable ad "java/lang/Cloneable").before a0 Z = true)
    (A : ArF Z h a ty cA vs) (E : Exa Z h a ad) (hsz : Ls.size = maxL) (hf : 1 ≤ R.frames) (hW : (st.map fun v => v.category).sum = wd) (hl : wd + 14 ≤ R.locals) (hcap : vs.length ≤ cap) (hc : k + 1 ≤ R.cells) (hs : n + cap ≤ R.slots)
    (K : ∀ h' b, b = h.size → Ext h h' → Ar Z h' b ty cA vs → Exa Z h' b ad → Go l Z mn code maxL ret R n0 Q h' (k + 1) (n + cap) q Ls (.ref b :: st)) : Go l Z mn code maxL ret R n0 Q h k n pc Ls (.ref a :: st) := by
  subst hq
  intro p e s m args below meth c T locs k' n' C X hk hn N eT
  obtain ⟨cl, A, r1, r2, r3⟩ := A
  obtain ⟨T', h', X', e', X2, A2, E2, f⟩ := cloneA X C.1 C.2.1 C.2.2.2.2.1 w1 w2 w3 w4 w5 w6 eT A E r3 (g := mkF m pc Ls (.ref a :: st)) rfl (by rw [C.2.2.2.1]; exact hsz) rfl (hb C.2.2.1 hd) hf (W := wd) (cap := cap) (by simp [hW]) hl (by rw [← r2] at hcap; simpa using hcap) (by omega) (by omega)
  exact (K h' h.size rfl X2 ⟨_, A2, r1, r2⟩ E2 p e s m args below meth c T' locs _ _ C X' (by omega) (by omega) N e').step f
end Calls5
end Jvm.OwnKit
namespace Jvm.OwnKit
open Jvm Jvm.ClassFile Sem Op Lib Jvm.Free Jvm.Stand Jvm.LawKit Jvm.RoadKit
section Copy
variable {l : Launch} {Z : State} {mn : MethodName} {code : ByteArray} {maxL : Nat} {ret : Option FieldType} {R : Room} {n0 : Nat} {Q : Option Value → Heap → Prop} {h : Heap} {k n pc q : Nat} {Ls : Array Slot} {st : List Value} {a0 : Array Value} {i wd : Nat}
theorem arv_of {a : Addr} {cA : ClassId} {vs : List Value} {z : Int32} {dv : Value} (A : Ar Z h a .int cA vs) (hz : vs.length = z.toNatClampNeg) (h0 : ¬ z < 0) (hf : ∀ v ∈ vs, fits .int v = true) : Arv Z h a cA .int z vs dv := by
  obtain ⟨c, A, r1, r2⟩ := A
  have e : c.slots.size = vs.length := by rw [← r2]; simp
  refine ⟨c, A, r1, by omega, h0, fun j hj => ?_, fun j hj => ?_⟩
  · have q : vs[j]? = some (vs[j]'(by omega)) := List.getElem?_eq_getElem _
    rw [List.getD_eq_getElem?_getD, q]
    rw [← Array.getElem?_toList, r2, q]; rfl
  · have q : vs[j]? = some (vs[j]'(by omega)) := List.getElem?_eq_getElem _
    rw [List.getD_eq_getElem?_getD, q]
    exact hf _ (List.getElem_mem _)
theorem ar_of {a : Addr} {cA : ClassId} {vs : List Value} {z : Int32} {dv : Value} (A : Arv Z h a cA .int z vs dv) : ∃ ws, Ar Z h a .int cA ws ∧ ws.length = z.toNatClampNeg := by
  obtain ⟨c, A, r1, r2, -⟩ := A
  exact ⟨c.slots.toList, ⟨c, A, r1, rfl⟩, by simpa using r2⟩
/-- System.arraycopy of no element into a new int[8] -/
theorem Go.acopy0 {a b : Addr} {kA kB : ClassId} (hd : decode code pc = .ok (.invokestatic i, 3)) (hq : q = pc + 3) (w1 : (Jvm.Cond.methodLink mn.cls i Jvm.Stand.acN).before a0 Z = true) (w2 : (Jvm.Cond.native Jvm.Stand.acN).before a0 Z = true) (w3 : (Jvm.Cond.static Jvm.Stand.acN).before a0 Z = true) (w4 : (Jvm.Cond.initialized "java/lang/System").before a0 Z = true)
    (A : Ar Z h a .int kA []) (B : Ar Z h b .int kB (List.replicate 8 (.int 0))) (ge : n0 ≤ b) (hsz : Ls.size = maxL) (hf : 1 ≤ R.frames) (hW : (st.map fun v => v.category).sum = wd) (hl : wd + 18 ≤ R.locals)
    (K : ∀ h' ws, Keep h h' [b] → Ar Z h' b .int kB ws → ws.length = 8 → Go l Z mn code maxL ret R n0 Q h' k n q Ls st) : Go l Z mn code maxL ret R n0 Q h k n pc Ls (.int 0 :: .int 0 :: .ref b :: .int 0 :: .ref a :: st) := by
  subst hq
  intro p e s m args below meth c T locs k' n' C X hk hn N eT
  have A' : Arv Z h a kA .int 0 [] (.int 0) := arv_of A rfl (by decide) (fun v hv => by cases hv)
  have B' : Arv Z h b kB .int 8 (List.replicate 8 (.int 0)) (.int 0) := arv_of B rfl (by decide) (fun v hv => by rw [List.eq_of_mem_replicate hv]; rfl)
  obtain ⟨T', h', L, X', e', N', K', D, f⟩ := cpA X C.1 C.2.1 C.2.2.2.2.1 w1 w2 w3 w4 eT A' B' (Or.inl ⟨rfl, rfl⟩) (sp := 0) (dp := 0) (nn := 0) (by decide) (by decide) (by decide) (by decide) (by decide) (us := []) rfl (by decide) N ge (g := mkF m pc Ls (.int 0 :: .int 0 :: .ref b :: .int 0 :: .ref a :: st)) rfl (by rw [C.2.2.2.1]; exact hsz) (rest := st) rfl (hb C.2.2.1 hd) hf (W := wd) (by simp [hW]) (by simpa [nativeFrameWords] using hl)
  obtain ⟨ws, D2, D3⟩ := ar_of D
  exact (K h' ws K' D2 D3 p e s m args below meth c T' L _ _ C X' hk hn N' e').step f
end Copy
end Jvm.OwnKit
namespace Jvm.Pilot.@@N@@
open Jvm Jvm.ClassFile Sem Op Lib Jvm.Free Jvm.Stand Jvm.LawKit Jvm.RoadKit Bundle Jvm.OwnKit Jvm.Pilot.@@N@@.Jvm.D
def Hw (a0 : Array Value) (Z : State) : Prop := ∀ d ∈ tables_1, d.before a0 Z = true
theorem w0 {a0 : Array Value} {Z : State} (hw : Hw a0 Z) : ((Jvm.Cond.constant "com/example/parallel_el/parallelel/reasoning/ContextForgetNewFactsPinLaw" (7 : Nat) (2147483647 : Int32)) : Jvm.Cond).before a0 Z = true := hw _ (List.mem_of_getElem? (i := 0) rfl)
theorem w1 {a0 : Array Value} {Z : State} (hw : Hw a0 Z) : ((Jvm.Cond.classLink "com/example/parallel_el/parallelel/reasoning/ContextForgetNewFactsPinLaw" (8 : Nat) "com/example/parallel_el/parallelel/reasoning/Context") : Jvm.Cond).before a0 Z = true := hw _ (List.mem_of_getElem? (i := 1) rfl)
theorem w2 {a0 : Array Value} {Z : State} (hw : Hw a0 Z) : ((Jvm.Cond.instantiable "com/example/parallel_el/parallelel/reasoning/Context" (9 : Nat)) : Jvm.Cond).before a0 Z = true := hw _ (List.mem_of_getElem? (i := 2) rfl)
theorem w3 {a0 : Array Value} {Z : State} (hw : Hw a0 Z) : ((Jvm.Cond.initialized "com/example/parallel_el/parallelel/reasoning/Context") : Jvm.Cond).before a0 Z = true := hw _ (List.mem_of_getElem? (i := 3) rfl)
theorem w4 {a0 : Array Value} {Z : State} (hw : Hw a0 Z) : ((Jvm.Cond.methodLink "com/example/parallel_el/parallelel/reasoning/ContextForgetNewFactsPinLaw" (10 : Nat) ({ cls := "com/example/parallel_el/parallelel/reasoning/Context", name := "<init>", desc := "(II)V" } : Jvm.MethodName)) : Jvm.Cond).before a0 Z = true := hw _ (List.mem_of_getElem? (i := 4) rfl)
theorem w5 {a0 : Array Value} {Z : State} (hw : Hw a0 Z) : ((Jvm.Cond.instanceMethod ({ cls := "com/example/parallel_el/parallelel/reasoning/Context", name := "<init>", desc := "(II)V" } : Jvm.MethodName)) : Jvm.Cond).before a0 Z = true := hw _ (List.mem_of_getElem? (i := 5) rfl)
theorem w6 {a0 : Array Value} {Z : State} (hw : Hw a0 Z) : ((Jvm.Cond.code ({ cls := "com/example/parallel_el/parallelel/reasoning/Context", name := "<init>", desc := "(II)V" } : Jvm.MethodName) prog_7_method_1_code (3 : Nat) (Option.none : Option Jvm.ClassFile.FieldType)) : Jvm.Cond).before a0 Z = true := hw _ (List.mem_of_getElem? (i := 6) rfl)
theorem w7 {a0 : Array Value} {Z : State} (hw : Hw a0 Z) : ((Jvm.Cond.methodLink "com/example/parallel_el/parallelel/reasoning/Context" (1 : Nat) ({ cls := "java/lang/Object", name := "<init>", desc := "()V" } : Jvm.MethodName)) : Jvm.Cond).before a0 Z = true := hw _ (List.mem_of_getElem? (i := 7) rfl)
theorem w8 {a0 : Array Value} {Z : State} (hw : Hw a0 Z) : ((Jvm.Cond.instanceMethod ({ cls := "java/lang/Object", name := "<init>", desc := "()V" } : Jvm.MethodName)) : Jvm.Cond).before a0 Z = true := hw _ (List.mem_of_getElem? (i := 8) rfl)
theorem w9 {a0 : Array Value} {Z : State} (hw : Hw a0 Z) : ((Jvm.Cond.code ({ cls := "java/lang/Object", name := "<init>", desc := "()V" } : Jvm.MethodName) object_method_1_code (1 : Nat) (Option.none : Option Jvm.ClassFile.FieldType)) : Jvm.Cond).before a0 Z = true := hw _ (List.mem_of_getElem? (i := 9) rfl)
theorem w10 {a0 : Array Value} {Z : State} (hw : Hw a0 Z) : ((Jvm.Cond.classLink "com/example/parallel_el/parallelel/reasoning/Context" (7 : Nat) "com/example/parallel_el/parallelel/util/IntSet") : Jvm.Cond).before a0 Z = true := hw _ (List.mem_of_getElem? (i := 10) rfl)
theorem w11 {a0 : Array Value} {Z : State} (hw : Hw a0 Z) : ((Jvm.Cond.instantiable "com/example/parallel_el/parallelel/util/IntSet" (2 : Nat)) : Jvm.Cond).before a0 Z = true := hw _ (List.mem_of_getElem? (i := 11) rfl)
theorem w12 {a0 : Array Value} {Z : State} (hw : Hw a0 Z) : ((Jvm.Cond.initialized "com/example/parallel_el/parallelel/util/IntSet") : Jvm.Cond).before a0 Z = true := hw _ (List.mem_of_getElem? (i := 12) rfl)
theorem w13 {a0 : Array Value} {Z : State} (hw : Hw a0 Z) : ((Jvm.Cond.methodLink "com/example/parallel_el/parallelel/reasoning/Context" (9 : Nat) ({ cls := "com/example/parallel_el/parallelel/util/IntSet", name := "<init>", desc := "()V" } : Jvm.MethodName)) : Jvm.Cond).before a0 Z = true := hw _ (List.mem_of_getElem? (i := 13) rfl)
theorem w14 {a0 : Array Value} {Z : State} (hw : Hw a0 Z) : ((Jvm.Cond.instanceMethod ({ cls := "com/example/parallel_el/parallelel/util/IntSet", name := "<init>", desc := "()V" } : Jvm.MethodName)) : Jvm.Cond).before a0 Z = true := hw _ (List.mem_of_getElem? (i := 14) rfl)
theorem w15 {a0 : Array Value} {Z : State} (hw : Hw a0 Z) : ((Jvm.Cond.code ({ cls := "com/example/parallel_el/parallelel/util/IntSet", name := "<init>", desc := "()V" } : Jvm.MethodName) prog_26_method_1_code (1 : Nat) (Option.none : Option Jvm.ClassFile.FieldType)) : Jvm.Cond).before a0 Z = true := hw _ (List.mem_of_getElem? (i := 15) rfl)
theorem w16 {a0 : Array Value} {Z : State} (hw : Hw a0 Z) : ((Jvm.Cond.methodLink "com/example/parallel_el/parallelel/util/IntSet" (1 : Nat) ({ cls := "java/lang/Object", name := "<init>", desc := "()V" } : Jvm.MethodName)) : Jvm.Cond).before a0 Z = true := hw _ (List.mem_of_getElem? (i := 16) rfl)
theorem w17 {a0 : Array Value} {Z : State} (hw : Hw a0 Z) : ((Jvm.Cond.methodLink "com/example/parallel_el/parallelel/util/IntSet" (7 : Nat) ({ cls := "com/example/parallel_el/parallelel/util/IntSet", name := "newSlots", desc := "(I)[I" } : Jvm.MethodName)) : Jvm.Cond).before a0 Z = true := hw _ (List.mem_of_getElem? (i := 17) rfl)
theorem w18 {a0 : Array Value} {Z : State} (hw : Hw a0 Z) : ((Jvm.Cond.static ({ cls := "com/example/parallel_el/parallelel/util/IntSet", name := "newSlots", desc := "(I)[I" } : Jvm.MethodName)) : Jvm.Cond).before a0 Z = true := hw _ (List.mem_of_getElem? (i := 18) rfl)
theorem w19 {a0 : Array Value} {Z : State} (hw : Hw a0 Z) : ((Jvm.Cond.code ({ cls := "com/example/parallel_el/parallelel/util/IntSet", name := "newSlots", desc := "(I)[I" } : Jvm.MethodName) prog_26_method_9_code (2 : Nat) (Option.some (Jvm.ClassFile.FieldType.array Jvm.ClassFile.FieldType.int))) : Jvm.Cond).before a0 Z = true := hw _ (List.mem_of_getElem? (i := 19) rfl)
theorem w20 {a0 : Array Value} {Z : State} (hw : Hw a0 Z) : ((Jvm.Cond.arrayClass Jvm.ClassFile.FieldType.int) : Jvm.Cond).before a0 Z = true := hw _ (List.mem_of_getElem? (i := 20) rfl)
theorem w21 {a0 : Array Value} {Z : State} (hw : Hw a0 Z) : ((Jvm.Cond.methodLink "com/example/parallel_el/parallelel/util/IntSet" (52 : Nat) ({ cls := "java/util/Arrays", name := "fill", desc := "([II)V" } : Jvm.MethodName)) : Jvm.Cond).before a0 Z = true := hw _ (List.mem_of_getElem? (i := 21) rfl)
theorem w22 {a0 : Array Value} {Z : State} (hw : Hw a0 Z) : ((Jvm.Cond.static ({ cls := "java/util/Arrays", name := "fill", desc := "([II)V" } : Jvm.MethodName)) : Jvm.Cond).before a0 Z = true := hw _ (List.mem_of_getElem? (i := 22) rfl)
theorem w23 {a0 : Array Value} {Z : State} (hw : Hw a0 Z) : ((Jvm.Cond.initialized "java/util/Arrays") : Jvm.Cond).before a0 Z = true := hw _ (List.mem_of_getElem? (i := 23) rfl)
theorem w24 {a0 : Array Value} {Z : State} (hw : Hw a0 Z) : ((Jvm.Cond.code ({ cls := "java/util/Arrays", name := "fill", desc := "([II)V" } : Jvm.MethodName) jdk_65_method_103_code (4 : Nat) (Option.none : Option Jvm.ClassFile.FieldType)) : Jvm.Cond).before a0 Z = true := hw _ (List.mem_of_getElem? (i := 24) rfl)
theorem w25 {a0 : Array Value} {Z : State} (hw : Hw a0 Z) : ((Jvm.Cond.fieldLink "com/example/parallel_el/parallelel/util/IntSet" (13 : Nat) "com/example/parallel_el/parallelel/util/IntSet" "slots" "[I") : Jvm.Cond).before a0 Z = true := hw _ (List.mem_of_getElem? (i := 25) rfl)
theorem w26 {a0 : Array Value} {Z : State} (hw : Hw a0 Z) : ((Jvm.Cond.lays "com/example/parallel_el/parallelel/util/IntSet" "com/example/parallel_el/parallelel/util/IntSet" "slots" "[I") : Jvm.Cond).before a0 Z = true := hw _ (List.mem_of_getElem? (i := 26) rfl)
theorem w27 {a0 : Array Value} {Z : State} (hw : Hw a0 Z) : ((Jvm.Cond.fieldLink "com/example/parallel_el/parallelel/reasoning/Context" (10 : Nat) "com/example/parallel_el/parallelel/reasoning/Context" "subsumers" "Lcom/example/parallel_el/parallelel/util/IntSet;") : Jvm.Cond).before a0 Z = true := hw _ (List.mem_of_getElem? (i := 27) rfl)
theorem w28 {a0 : Array Value} {Z : State} (hw : Hw a0 Z) : ((Jvm.Cond.laysFinal "com/example/parallel_el/parallelel/reasoning/Context" "com/example/parallel_el/parallelel/reasoning/Context" "subsumers" "Lcom/example/parallel_el/parallelel/util/IntSet;") : Jvm.Cond).before a0 Z = true := hw _ (List.mem_of_getElem? (i := 28) rfl)
theorem w29 {a0 : Array Value} {Z : State} (hw : Hw a0 Z) : ((Jvm.Cond.classLink "com/example/parallel_el/parallelel/reasoning/Context" (16 : Nat) "com/example/parallel_el/parallelel/util/IntList") : Jvm.Cond).before a0 Z = true := hw _ (List.mem_of_getElem? (i := 29) rfl)
theorem w30 {a0 : Array Value} {Z : State} (hw : Hw a0 Z) : ((Jvm.Cond.instantiable "com/example/parallel_el/parallelel/util/IntList" (2 : Nat)) : Jvm.Cond).before a0 Z = true := hw _ (List.mem_of_getElem? (i := 30) rfl)
theorem w31 {a0 : Array Value} {Z : State} (hw : Hw a0 Z) : ((Jvm.Cond.initialized "com/example/parallel_el/parallelel/util/IntList") : Jvm.Cond).before a0 Z = true := hw _ (List.mem_of_getElem? (i := 31) rfl)
theorem w32 {a0 : Array Value} {Z : State} (hw : Hw a0 Z) : ((Jvm.Cond.methodLink "com/example/parallel_el/parallelel/reasoning/Context" (18 : Nat) ({ cls := "com/example/parallel_el/parallelel/util/IntList", name := "<init>", desc := "()V" } : Jvm.MethodName)) : Jvm.Cond).before a0 Z = true := hw _ (List.mem_of_getElem? (i := 32) rfl)
theorem w33 {a0 : Array Value} {Z : State} (hw : Hw a0 Z) : ((Jvm.Cond.instanceMethod ({ cls := "com/example/parallel_el/parallelel/util/IntList", name := "<init>", desc := "()V" } : Jvm.MethodName)) : Jvm.Cond).before a0 Z = true := hw _ (List.mem_of_getElem? (i := 33) rfl)
theorem w34 {a0 : Array Value} {Z : State} (hw : Hw a0 Z) : ((Jvm.Cond.code ({ cls := "com/example/parallel_el/parallelel/util/IntList", name := "<init>", desc := "()V" } : Jvm.MethodName) prog_25_method_1_code (1 : Nat) (Option.none : Option Jvm.ClassFile.FieldType)) : Jvm.Cond).before a0 Z = true := hw _ (List.mem_of_getElem? (i := 34) rfl)
theorem w35 {a0 : Array Value} {Z : State} (hw : Hw a0 Z) : ((Jvm.Cond.methodLink "com/example/parallel_el/parallelel/util/IntList" (1 : Nat) ({ cls := "java/lang/Object", name := "<init>", desc := "()V" } : Jvm.MethodName)) : Jvm.Cond).before a0 Z = true := hw _ (List.mem_of_getElem? (i := 35) rfl)
theorem w36 {a0 : Array Value} {Z : State} (hw : Hw a0 Z) : ((Jvm.Cond.fieldLink "com/example/parallel_el/parallelel/util/IntList" (7 : Nat) "com/example/parallel_el/parallelel/util/IntList" "NONE" "[I") : Jvm.Cond).before a0 Z = true := hw _ (List.mem_of_getElem? (i := 36) rfl)
theorem w37 {a0 : Array Value} {Z : State} (hw : Hw a0 Z) : ((Jvm.Cond.laysStatic "com/example/parallel_el/parallelel/util/IntList" "NONE" "[I") : Jvm.Cond).before a0 Z = true := hw _ (List.mem_of_getElem? (i := 37) rfl)
theorem w38 {a0 : Array Value} {Z : State} (hw : Hw a0 Z) : ((Jvm.Cond.fieldLink "com/example/parallel_el/parallelel/util/IntList" (13 : Nat) "com/example/parallel_el/parallelel/util/IntList" "values" "[I") : Jvm.Cond).before a0 Z = true := hw _ (List.mem_of_getElem? (i := 38) rfl)
theorem w39 {a0 : Array Value} {Z : State} (hw : Hw a0 Z) : ((Jvm.Cond.lays "com/example/parallel_el/parallelel/util/IntList" "com/example/parallel_el/parallelel/util/IntList" "values" "[I") : Jvm.Cond).before a0 Z = true := hw _ (List.mem_of_getElem? (i := 39) rfl)
theorem w40 {a0 : Array Value} {Z : State} (hw : Hw a0 Z) : ((Jvm.Cond.fieldLink "com/example/parallel_el/parallelel/reasoning/Context" (19 : Nat) "com/example/parallel_el/parallelel/reasoning/Context" "newSubsumers" "Lcom/example/parallel_el/parallelel/util/IntList;") : Jvm.Cond).before a0 Z = true := hw _ (List.mem_of_getElem? (i := 40) rfl)
theorem w41 {a0 : Array Value} {Z : State} (hw : Hw a0 Z) : ((Jvm.Cond.laysFinal "com/example/parallel_el/parallelel/reasoning/Context" "com/example/parallel_el/parallelel/reasoning/Context" "newSubsumers" "Lcom/example/parallel_el/parallelel/util/IntList;") : Jvm.Cond).before a0 Z = true := hw _ (List.mem_of_getElem? (i := 41) rfl)
theorem w42 {a0 : Array Value} {Z : State} (hw : Hw a0 Z) : ((Jvm.Cond.fieldLink "com/example/parallel_el/parallelel/reasoning/Context" (23 : Nat) "com/example/parallel_el/parallelel/reasoning/Context" "newPredecessors" "Lcom/example/parallel_el/parallelel/util/IntList;") : Jvm.Cond).before a0 Z = true := hw _ (List.mem_of_getElem? (i := 42) rfl)
theorem w43 {a0 : Array Value} {Z : State} (hw : Hw a0 Z) : ((Jvm.Cond.laysFinal "com/example/parallel_el/parallelel/reasoning/Context" "com/example/parallel_el/parallelel/reasoning/Context" "newPredecessors" "Lcom/example/parallel_el/parallelel/util/IntList;") : Jvm.Cond).before a0 Z = true := hw _ (List.mem_of_getElem? (i := 43) rfl)
theorem w44 {a0 : Array Value} {Z : State} (hw : Hw a0 Z) : ((Jvm.Cond.fieldLink "com/example/parallel_el/parallelel/reasoning/Context" (26 : Nat) "com/example/parallel_el/parallelel/reasoning/Context" "newSuccessors" "Lcom/example/parallel_el/parallelel/util/IntList;") : Jvm.Cond).before a0 Z = true := hw _ (List.mem_of_getElem? (i := 44) rfl)
theorem w45 {a0 : Array Value} {Z : State} (hw : Hw a0 Z) : ((Jvm.Cond.laysFinal "com/example/parallel_el/parallelel/reasoning/Context" "com/example/parallel_el/parallelel/reasoning/Context" "newSuccessors" "Lcom/example/parallel_el/parallelel/util/IntList;") : Jvm.Cond).before a0 Z = true := hw _ (List.mem_of_getElem? (i := 45) rfl)
theorem w46 {a0 : Array Value} {Z : State} (hw : Hw a0 Z) : ((Jvm.Cond.fieldLink "com/example/parallel_el/parallelel/reasoning/Context" (29 : Nat) "com/example/parallel_el/parallelel/reasoning/Context" "concept" "I") : Jvm.Cond).before a0 Z = true := hw _ (List.mem_of_getElem? (i := 46) rfl)
theorem w47 {a0 : Array Value} {Z : State} (hw : Hw a0 Z) : ((Jvm.Cond.laysFinal "com/example/parallel_el/parallelel/reasoning/Context" "com/example/parallel_el/parallelel/reasoning/Context" "concept" "I") : Jvm.Cond).before a0 Z = true := hw _ (List.mem_of_getElem? (i := 47) rfl)
theorem w48 {a0 : Array Value} {Z : State} (hw : Hw a0 Z) : ((Jvm.Cond.fieldLink "com/example/parallel_el/parallelel/reasoning/Context" (33 : Nat) "com/example/parallel_el/parallelel/reasoning/Context" "roleCount" "I") : Jvm.Cond).before a0 Z = true := hw _ (List.mem_of_getElem? (i := 48) rfl)
theorem w49 {a0 : Array Value} {Z : State} (hw : Hw a0 Z) : ((Jvm.Cond.laysFinal "com/example/parallel_el/parallelel/reasoning/Context" "com/example/parallel_el/parallelel/reasoning/Context" "roleCount" "I") : Jvm.Cond).before a0 Z = true := hw _ (List.mem_of_getElem? (i := 49) rfl)
theorem w50 {a0 : Array Value} {Z : State} (hw : Hw a0 Z) : ((Jvm.Cond.methodLink "com/example/parallel_el/parallelel/reasoning/ContextForgetNewFactsPinLaw" (17 : Nat) ({ cls := "com/example/parallel_el/parallelel/reasoning/Context", name := "addPredecessor", desc := "(II)Z" } : Jvm.MethodName)) : Jvm.Cond).before a0 Z = true := hw _ (List.mem_of_getElem? (i := 50) rfl)
theorem w51 {a0 : Array Value} {Z : State} (hw : Hw a0 Z) : ((Jvm.Cond.declares ({ cls := "com/example/parallel_el/parallelel/reasoning/Context", name := "addPredecessor", desc := "(II)Z" } : Jvm.MethodName)) : Jvm.Cond).before a0 Z = true := hw _ (List.mem_of_getElem? (i := 51) rfl)
theorem w52 {a0 : Array Value} {Z : State} (hw : Hw a0 Z) : ((Jvm.Cond.instanceMethod ({ cls := "com/example/parallel_el/parallelel/reasoning/Context", name := "addPredecessor", desc := "(II)Z" } : Jvm.MethodName)) : Jvm.Cond).before a0 Z = true := hw _ (List.mem_of_getElem? (i := 52) rfl)
theorem w53 {a0 : Array Value} {Z : State} (hw : Hw a0 Z) : ((Jvm.Cond.selects "com/example/parallel_el/parallelel/reasoning/Context" ({ cls := "com/example/parallel_el/parallelel/reasoning/Context", name := "addPredecessor", desc := "(II)Z" } : Jvm.MethodName) ({ cls := "com/example/parallel_el/parallelel/reasoning/Context", name := "addPredecessor", desc := "(II)Z" } : Jvm.MethodName)) : Jvm.Cond).before a0 Z = true := hw _ (List.mem_of_getElem? (i := 53) rfl)
theorem w54 {a0 : Array Value} {Z : State} (hw : Hw a0 Z) : ((Jvm.Cond.code ({ cls := "com/example/parallel_el/parallelel/reasoning/Context", name := "addPredecessor", desc := "(II)Z" } : Jvm.MethodName) prog_7_method_5_code (3 : Nat) (Option.some Jvm.ClassFile.FieldType.boolean)) : Jvm.Cond).before a0 Z = true := hw _ (List.mem_of_getElem? (i := 54) rfl)
theorem w55 {a0 : Array Value} {Z : State} (hw : Hw a0 Z) : ((Jvm.Cond.fieldLink "com/example/parallel_el/parallelel/reasoning/Context" (36 : Nat) "com/example/parallel_el/parallelel/reasoning/Context" "predecessors" "[Lcom/example/parallel_el/parallelel/util/IntSet;") : Jvm.Cond).before a0 Z = true := hw _ (List.mem_of_getElem? (i := 55) rfl)
theorem w56 {a0 : Array Value} {Z : State} (hw : Hw a0 Z) : ((Jvm.Cond.lays "com/example/parallel_el/parallelel/reasoning/Context" "com/example/parallel_el/parallelel/reasoning/Context" "predecessors" "[Lcom/example/parallel_el/parallelel/util/IntSet;") : Jvm.Cond).before a0 Z = true := hw _ (List.mem_of_getElem? (i := 56) rfl)
theorem w57 {a0 : Array Value} {Z : State} (hw : Hw a0 Z) : ((Jvm.Cond.arrayOver (Jvm.ClassFile.FieldType.object "com/example/parallel_el/parallelel/util/IntSet")) : Jvm.Cond).before a0 Z = true := hw _ (List.mem_of_getElem? (i := 57) rfl)
theorem w58 {a0 : Array Value} {Z : State} (hw : Hw a0 Z) : ((Jvm.Cond.methodLink "com/example/parallel_el/parallelel/reasoning/Context" (50 : Nat) ({ cls := "com/example/parallel_el/parallelel/reasoning/Context", name := "addLink", desc := "([Lcom/example/parallel_el/parallelel/util/IntSet;Lcom/example/parallel_el/parallelel/util/IntList;II)Z" } : Jvm.MethodName)) : Jvm.Cond).before a0 Z = true := hw _ (List.mem_of_getElem? (i := 58) rfl)
theorem w59 {a0 : Array Value} {Z : State} (hw : Hw a0 Z) : ((Jvm.Cond.static ({ cls := "com/example/parallel_el/parallelel/reasoning/Context", name := "addLink", desc := "([Lcom/example/parallel_el/parallelel/util/IntSet;Lcom/example/parallel_el/parallelel/util/IntList;II)Z" } : Jvm.MethodName)) : Jvm.Cond).before a0 Z = true := hw _ (List.mem_of_getElem? (i := 59) rfl)
theorem w60 {a0 : Array Value} {Z : State} (hw : Hw a0 Z) : ((Jvm.Cond.code ({ cls := "com/example/parallel_el/parallelel/reasoning/Context", name := "addLink", desc := "([Lcom/example/parallel_el/parallelel/util/IntSet;Lcom/example/parallel_el/parallelel/util/IntList;II)Z" } : Jvm.MethodName) prog_7_method_7_code (4 : Nat) (Option.some Jvm.ClassFile.FieldType.boolean)) : Jvm.Cond).before a0 Z = true := hw _ (List.mem_of_getElem? (i := 60) rfl)
theorem w62 {a0 : Array Value} {Z : State} (hw : Hw a0 Z) : ((Jvm.Cond.methodLink "com/example/parallel_el/parallelel/reasoning/Context" (43 : Nat) ({ cls := "com/example/parallel_el/parallelel/util/IntSet", name := "add", desc := "(I)Z" } : Jvm.MethodName)) : Jvm.Cond).before a0 Z = true := hw _ (List.mem_of_getElem? (i := 62) rfl)
theorem w63 {a0 : Array Value} {Z : State} (hw : Hw a0 Z) : ((Jvm.Cond.declares ({ cls := "com/example/parallel_el/parallelel/util/IntSet", name := "add", desc := "(I)Z" } : Jvm.MethodName)) : Jvm.Cond).before a0 Z = true := hw _ (List.mem_of_getElem? (i := 63) rfl)
theorem w64 {a0 : Array Value} {Z : State} (hw : Hw a0 Z) : ((Jvm.Cond.instanceMethod ({ cls := "com/example/parallel_el/parallelel/util/IntSet", name := "add", desc := "(I)Z" } : Jvm.MethodName)) : Jvm.Cond).before a0 Z = true := hw _ (List.mem_of_getElem? (i := 64) rfl)
theorem w65 {a0 : Array Value} {Z : State} (hw : Hw a0 Z) : ((Jvm.Cond.selects "com/example/parallel_el/parallelel/util/IntSet" ({ cls := "com/example/parallel_el/parallelel/util/IntSet", name := "add", desc := "(I)Z" } : Jvm.MethodName) ({ cls := "com/example/parallel_el/parallelel/util/IntSet", name := "add", desc := "(I)Z" } : Jvm.MethodName)) : Jvm.Cond).before a0 Z = true := hw _ (List.mem_of_getElem? (i := 65) rfl)
theorem w66 {a0 : Array Value} {Z : State} (hw : Hw a0 Z) : ((Jvm.Cond.code ({ cls := "com/example/parallel_el/parallelel/util/IntSet", name := "add", desc := "(I)Z" } : Jvm.MethodName) prog_26_method_2_code (3 : Nat) (Option.some Jvm.ClassFile.FieldType.boolean)) : Jvm.Cond).before a0 Z = true := hw _ (List.mem_of_getElem? (i := 66) rfl)
theorem w67 {a0 : Array Value} {Z : State} (hw : Hw a0 Z) : ((Jvm.Cond.fieldLink "com/example/parallel_el/parallelel/util/IntSet" (26 : Nat) "com/example/parallel_el/parallelel/util/IntSet" "size" "I") : Jvm.Cond).before a0 Z = true := hw _ (List.mem_of_getElem? (i := 67) rfl)
theorem w68 {a0 : Array Value} {Z : State} (hw : Hw a0 Z) : ((Jvm.Cond.lays "com/example/parallel_el/parallelel/util/IntSet" "com/example/parallel_el/parallelel/util/IntSet" "size" "I") : Jvm.Cond).before a0 Z = true := hw _ (List.mem_of_getElem? (i := 68) rfl)
theorem w69 {a0 : Array Value} {Z : State} (hw : Hw a0 Z) : ((Jvm.Cond.methodLink "com/example/parallel_el/parallelel/util/IntSet" (33 : Nat) ({ cls := "com/example/parallel_el/parallelel/util/IntSet", name := "slotOf", desc := "(I)I" } : Jvm.MethodName)) : Jvm.Cond).before a0 Z = true := hw _ (List.mem_of_getElem? (i := 69) rfl)
theorem w70 {a0 : Array Value} {Z : State} (hw : Hw a0 Z) : ((Jvm.Cond.instanceMethod ({ cls := "com/example/parallel_el/parallelel/util/IntSet", name := "slotOf", desc := "(I)I" } : Jvm.MethodName)) : Jvm.Cond).before a0 Z = true := hw _ (List.mem_of_getElem? (i := 70) rfl)
theorem w71 {a0 : Array Value} {Z : State} (hw : Hw a0 Z) : ((Jvm.Cond.privateMethod ({ cls := "com/example/parallel_el/parallelel/util/IntSet", name := "slotOf", desc := "(I)I" } : Jvm.MethodName)) : Jvm.Cond).before a0 Z = true := hw _ (List.mem_of_getElem? (i := 71) rfl)
theorem w72 {a0 : Array Value} {Z : State} (hw : Hw a0 Z) : ((Jvm.Cond.code ({ cls := "com/example/parallel_el/parallelel/util/IntSet", name := "slotOf", desc := "(I)I" } : Jvm.MethodName) prog_26_method_8_code (4 : Nat) (Option.some Jvm.ClassFile.FieldType.int)) : Jvm.Cond).before a0 Z = true := hw _ (List.mem_of_getElem? (i := 72) rfl)
theorem w73 {a0 : Array Value} {Z : State} (hw : Hw a0 Z) : ((Jvm.Cond.methodLink "com/example/parallel_el/parallelel/util/IntSet" (49 : Nat) ({ cls := "com/example/parallel_el/parallelel/util/IntSet", name := "hash", desc := "(I)I" } : Jvm.MethodName)) : Jvm.Cond).before a0 Z = true := hw _ (List.mem_of_getElem? (i := 73) rfl)
theorem w74 {a0 : Array Value} {Z : State} (hw : Hw a0 Z) : ((Jvm.Cond.static ({ cls := "com/example/parallel_el/parallelel/util/IntSet", name := "hash", desc := "(I)I" } : Jvm.MethodName)) : Jvm.Cond).before a0 Z = true := hw _ (List.mem_of_getElem? (i := 74) rfl)
theorem w75 {a0 : Array Value} {Z : State} (hw : Hw a0 Z) : ((Jvm.Cond.code ({ cls := "com/example/parallel_el/parallelel/util/IntSet", name := "hash", desc := "(I)I" } : Jvm.MethodName) prog_26_method_10_code (2 : Nat) (Option.some Jvm.ClassFile.FieldType.int)) : Jvm.Cond).before a0 Z = true := hw _ (List.mem_of_getElem? (i := 75) rfl)
theorem w76 {a0 : Array Value} {Z : State} (hw : Hw a0 Z) : ((Jvm.Cond.constant "com/example/parallel_el/parallelel/util/IntSet" (56 : Nat) (-1640531527 : Int32)) : Jvm.Cond).before a0 Z = true := hw _ (List.mem_of_getElem? (i := 76) rfl)
theorem w77 {a0 : Array Value} {Z : State} (hw : Hw a0 Z) : ((Jvm.Cond.methodLink "com/example/parallel_el/parallelel/reasoning/Context" (54 : Nat) ({ cls := "com/example/parallel_el/parallelel/util/IntList", name := "add", desc := "(II)V" } : Jvm.MethodName)) : Jvm.Cond).before a0 Z = true := hw _ (List.mem_of_getElem? (i := 77) rfl)
theorem w78 {a0 : Array Value} {Z : State} (hw : Hw a0 Z) : ((Jvm.Cond.declares ({ cls := "com/example/parallel_el/parallelel/util/IntList", name := "add", desc := "(II)V" } : Jvm.MethodName)) : Jvm.Cond).before a0 Z = true := hw _ (List.mem_of_getElem? (i := 78) rfl)
theorem w79 {a0 : Array Value} {Z : State} (hw : Hw a0 Z) : ((Jvm.Cond.instanceMethod ({ cls := "com/example/parallel_el/parallelel/util/IntList", name := "add", desc := "(II)V" } : Jvm.MethodName)) : Jvm.Cond).before a0 Z = true := hw _ (List.mem_of_getElem? (i := 79) rfl)
theorem w80 {a0 : Array Value} {Z : State} (hw : Hw a0 Z) : ((Jvm.Cond.selects "com/example/parallel_el/parallelel/util/IntList" ({ cls := "com/example/parallel_el/parallelel/util/IntList", name := "add", desc := "(II)V" } : Jvm.MethodName) ({ cls := "com/example/parallel_el/parallelel/util/IntList", name := "add", desc := "(II)V" } : Jvm.MethodName)) : Jvm.Cond).before a0 Z = true := hw _ (List.mem_of_getElem? (i := 80) rfl)
theorem w81 {a0 : Array Value} {Z : State} (hw : Hw a0 Z) : ((Jvm.Cond.code ({ cls := "com/example/parallel_el/parallelel/util/IntList", name := "add", desc := "(II)V" } : Jvm.MethodName) prog_25_method_3_code (3 : Nat) (Option.none : Option Jvm.ClassFile.FieldType)) : Jvm.Cond).before a0 Z = true := hw _ (List.mem_of_getElem? (i := 81) rfl)
theorem w82 {a0 : Array Value} {Z : State} (hw : Hw a0 Z) : ((Jvm.Cond.methodLink "com/example/parallel_el/parallelel/util/IntList" (32 : Nat) ({ cls := "com/example/parallel_el/parallelel/util/IntList", name := "add", desc := "(I)V" } : Jvm.MethodName)) : Jvm.Cond).before a0 Z = true := hw _ (List.mem_of_getElem? (i := 82) rfl)
theorem w83 {a0 : Array Value} {Z : State} (hw : Hw a0 Z) : ((Jvm.Cond.declares ({ cls := "com/example/parallel_el/parallelel/util/IntList", name := "add", desc := "(I)V" } : Jvm.MethodName)) : Jvm.Cond).before a0 Z = true := hw _ (List.mem_of_getElem? (i := 83) rfl)
theorem w84 {a0 : Array Value} {Z : State} (hw : Hw a0 Z) : ((Jvm.Cond.instanceMethod ({ cls := "com/example/parallel_el/parallelel/util/IntList", name := "add", desc := "(I)V" } : Jvm.MethodName)) : Jvm.Cond).before a0 Z = true := hw _ (List.mem_of_getElem? (i := 84) rfl)
theorem w85 {a0 : Array Value} {Z : State} (hw : Hw a0 Z) : ((Jvm.Cond.selects "com/example/parallel_el/parallelel/util/IntList" ({ cls := "com/example/parallel_el/parallelel/util/IntList", name := "add", desc := "(I)V" } : Jvm.MethodName) ({ cls := "com/example/parallel_el/parallelel/util/IntList", name := "add", desc := "(I)V" } : Jvm.MethodName)) : Jvm.Cond).before a0 Z = true := hw _ (List.mem_of_getElem? (i := 85) rfl)
theorem w86 {a0 : Array Value} {Z : State} (hw : Hw a0 Z) : ((Jvm.Cond.code ({ cls := "com/example/parallel_el/parallelel/util/IntList", name := "add", desc := "(I)V" } : Jvm.MethodName) prog_25_method_2_code (2 : Nat) (Option.none : Option Jvm.ClassFile.FieldType)) : Jvm.Cond).before a0 Z = true := hw _ (List.mem_of_getElem? (i := 86) rfl)
theorem w87 {a0 : Array Value} {Z : State} (hw : Hw a0 Z) : ((Jvm.Cond.fieldLink "com/example/parallel_el/parallelel/util/IntList" (16 : Nat) "com/example/parallel_el/parallelel/util/IntList" "size" "I") : Jvm.Cond).before a0 Z = true := hw _ (List.mem_of_getElem? (i := 87) rfl)
theorem w88 {a0 : Array Value} {Z : State} (hw : Hw a0 Z) : ((Jvm.Cond.lays "com/example/parallel_el/parallelel/util/IntList" "com/example/parallel_el/parallelel/util/IntList" "size" "I") : Jvm.Cond).before a0 Z = true := hw _ (List.mem_of_getElem? (i := 88) rfl)
theorem w89 {a0 : Array Value} {Z : State} (hw : Hw a0 Z) : ((Jvm.Cond.methodLink "com/example/parallel_el/parallelel/util/IntList" (20 : Nat) ({ cls := "java/lang/Math", name := "max", desc := "(II)I" } : Jvm.MethodName)) : Jvm.Cond).before a0 Z = true := hw _ (List.mem_of_getElem? (i := 89) rfl)
theorem w90 {a0 : Array Value} {Z : State} (hw : Hw a0 Z) : ((Jvm.Cond.static ({ cls := "java/lang/Math", name := "max", desc := "(II)I" } : Jvm.MethodName)) : Jvm.Cond).before a0 Z = true := hw _ (List.mem_of_getElem? (i := 90) rfl)
theorem w91 {a0 : Array Value} {Z : State} (hw : Hw a0 Z) : ((Jvm.Cond.initialized "java/lang/Math") : Jvm.Cond).before a0 Z = true := hw _ (List.mem_of_getElem? (i := 91) rfl)
theorem w92 {a0 : Array Value} {Z : State} (hw : Hw a0 Z) : ((Jvm.Cond.code ({ cls := "java/lang/Math", name := "max", desc := "(II)I" } : Jvm.MethodName) jdk_29_method_65_code (2 : Nat) (Option.some Jvm.ClassFile.FieldType.int)) : Jvm.Cond).before a0 Z = true := hw _ (List.mem_of_getElem? (i := 92) rfl)
theorem w93 {a0 : Array Value} {Z : State} (hw : Hw a0 Z) : ((Jvm.Cond.methodLink "com/example/parallel_el/parallelel/util/IntList" (26 : Nat) ({ cls := "java/util/Arrays", name := "copyOf", desc := "([II)[I" } : Jvm.MethodName)) : Jvm.Cond).before a0 Z = true := hw _ (List.mem_of_getElem? (i := 93) rfl)
theorem w94 {a0 : Array Value} {Z : State} (hw : Hw a0 Z) : ((Jvm.Cond.static ({ cls := "java/util/Arrays", name := "copyOf", desc := "([II)[I" } : Jvm.MethodName)) : Jvm.Cond).before a0 Z = true := hw _ (List.mem_of_getElem? (i := 94) rfl)
theorem w95 {a0 : Array Value} {Z : State} (hw : Hw a0 Z) : ((Jvm.Cond.code ({ cls := "java/util/Arrays", name := "copyOf", desc := "([II)[I" } : Jvm.MethodName) jdk_65_method_123_code (3 : Nat) (Option.some (Jvm.ClassFile.FieldType.array Jvm.ClassFile.FieldType.int))) : Jvm.Cond).before a0 Z = true := hw _ (List.mem_of_getElem? (i := 95) rfl)
theorem w96 {a0 : Array Value} {Z : State} (hw : Hw a0 Z) : ((Jvm.Cond.methodLink "java/util/Arrays" (304 : Nat) ({ cls := "java/lang/Math", name := "min", desc := "(II)I" } : Jvm.MethodName)) : Jvm.Cond).before a0 Z = true := hw _ (List.mem_of_getElem? (i := 96) rfl)
theorem w97 {a0 : Array Value} {Z : State} (hw : Hw a0 Z) : ((Jvm.Cond.static ({ cls := "java/lang/Math", name := "min", desc := "(II)I" } : Jvm.MethodName)) : Jvm.Cond).before a0 Z = true := hw _ (List.mem_of_getElem? (i := 97) rfl)
theorem w98 {a0 : Array Value} {Z : State} (hw : Hw a0 Z) : ((Jvm.Cond.code ({ cls := "java/lang/Math", name := "min", desc := "(II)I" } : Jvm.MethodName) jdk_29_method_69_code (2 : Nat) (Option.some Jvm.ClassFile.FieldType.int)) : Jvm.Cond).before a0 Z = true := hw _ (List.mem_of_getElem? (i := 98) rfl)
theorem w99 {a0 : Array Value} {Z : State} (hw : Hw a0 Z) : ((Jvm.Cond.methodLink "java/util/Arrays" (150 : Nat) ({ cls := "java/lang/System", name := "arraycopy", desc := "(Ljava/lang/Object;ILjava/lang/Object;II)V" } : Jvm.MethodName)) : Jvm.Cond).before a0 Z = true := hw _ (List.mem_of_getElem? (i := 99) rfl)
theorem w100 {a0 : Array Value} {Z : State} (hw : Hw a0 Z) : ((Jvm.Cond.static ({ cls := "java/lang/System", name := "arraycopy", desc := "(Ljava/lang/Object;ILjava/lang/Object;II)V" } : Jvm.MethodName)) : Jvm.Cond).before a0 Z = true := hw _ (List.mem_of_getElem? (i := 100) rfl)
theorem w101 {a0 : Array Value} {Z : State} (hw : Hw a0 Z) : ((Jvm.Cond.initialized "java/lang/System") : Jvm.Cond).before a0 Z = true := hw _ (List.mem_of_getElem? (i := 101) rfl)
theorem w102 {a0 : Array Value} {Z : State} (hw : Hw a0 Z) : ((Jvm.Cond.native ({ cls := "java/lang/System", name := "arraycopy", desc := "(Ljava/lang/Object;ILjava/lang/Object;II)V" } : Jvm.MethodName)) : Jvm.Cond).before a0 Z = true := hw _ (List.mem_of_getElem? (i := 102) rfl)
theorem w103 {a0 : Array Value} {Z : State} (hw : Hw a0 Z) : ((Jvm.Cond.methodLink "com/example/parallel_el/parallelel/reasoning/ContextForgetNewFactsPinLaw" (24 : Nat) ({ cls := "com/example/parallel_el/parallelel/reasoning/Context", name := "forgetNewFacts", desc := "()V" } : Jvm.MethodName)) : Jvm.Cond).before a0 Z = true := hw _ (List.mem_of_getElem? (i := 103) rfl)
theorem w104 {a0 : Array Value} {Z : State} (hw : Hw a0 Z) : ((Jvm.Cond.declares ({ cls := "com/example/parallel_el/parallelel/reasoning/Context", name := "forgetNewFacts", desc := "()V" } : Jvm.MethodName)) : Jvm.Cond).before a0 Z = true := hw _ (List.mem_of_getElem? (i := 104) rfl)
theorem w105 {a0 : Array Value} {Z : State} (hw : Hw a0 Z) : ((Jvm.Cond.instanceMethod ({ cls := "com/example/parallel_el/parallelel/reasoning/Context", name := "forgetNewFacts", desc := "()V" } : Jvm.MethodName)) : Jvm.Cond).before a0 Z = true := hw _ (List.mem_of_getElem? (i := 105) rfl)
theorem w106 {a0 : Array Value} {Z : State} (hw : Hw a0 Z) : ((Jvm.Cond.selects "com/example/parallel_el/parallelel/reasoning/Context" ({ cls := "com/example/parallel_el/parallelel/reasoning/Context", name := "forgetNewFacts", desc := "()V" } : Jvm.MethodName) ({ cls := "com/example/parallel_el/parallelel/reasoning/Context", name := "forgetNewFacts", desc := "()V" } : Jvm.MethodName)) : Jvm.Cond).before a0 Z = true := hw _ (List.mem_of_getElem? (i := 106) rfl)
theorem w107 {a0 : Array Value} {Z : State} (hw : Hw a0 Z) : ((Jvm.Cond.code ({ cls := "com/example/parallel_el/parallelel/reasoning/Context", name := "forgetNewFacts", desc := "()V" } : Jvm.MethodName) prog_7_method_8_code (1 : Nat) (Option.none : Option Jvm.ClassFile.FieldType)) : Jvm.Cond).before a0 Z = true := hw _ (List.mem_of_getElem? (i := 107) rfl)
theorem w108 {a0 : Array Value} {Z : State} (hw : Hw a0 Z) : ((Jvm.Cond.methodLink "com/example/parallel_el/parallelel/reasoning/Context" (57 : Nat) ({ cls := "com/example/parallel_el/parallelel/util/IntList", name := "clear", desc := "()V" } : Jvm.MethodName)) : Jvm.Cond).before a0 Z = true := hw _ (List.mem_of_getElem? (i := 108) rfl)
theorem w109 {a0 : Array Value} {Z : State} (hw : Hw a0 Z) : ((Jvm.Cond.declares ({ cls := "com/example/parallel_el/parallelel/util/IntList", name := "clear", desc := "()V" } : Jvm.MethodName)) : Jvm.Cond).before a0 Z = true := hw _ (List.mem_of_getElem? (i := 109) rfl)
theorem w110 {a0 : Array Value} {Z : State} (hw : Hw a0 Z) : ((Jvm.Cond.instanceMethod ({ cls := "com/example/parallel_el/parallelel/util/IntList", name := "clear", desc := "()V" } : Jvm.MethodName)) : Jvm.Cond).before a0 Z = true := hw _ (List.mem_of_getElem? (i := 110) rfl)
theorem w111 {a0 : Array Value} {Z : State} (hw : Hw a0 Z) : ((Jvm.Cond.selects "com/example/parallel_el/parallelel/util/IntList" ({ cls := "com/example/parallel_el/parallelel/util/IntList", name := "clear", desc := "()V" } : Jvm.MethodName) ({ cls := "com/example/parallel_el/parallelel/util/IntList", name := "clear", desc := "()V" } : Jvm.MethodName)) : Jvm.Cond).before a0 Z = true := hw _ (List.mem_of_getElem? (i := 111) rfl)
theorem w112 {a0 : Array Value} {Z : State} (hw : Hw a0 Z) : ((Jvm.Cond.code ({ cls := "com/example/parallel_el/parallelel/util/IntList", name := "clear", desc := "()V" } : Jvm.MethodName) prog_25_method_7_code (1 : Nat) (Option.none : Option Jvm.ClassFile.FieldType)) : Jvm.Cond).before a0 Z = true := hw _ (List.mem_of_getElem? (i := 112) rfl)
theorem w113 {a0 : Array Value} {Z : State} (hw : Hw a0 Z) : ((Jvm.Cond.fieldLink "com/example/parallel_el/parallelel/reasoning/ContextForgetNewFactsPinLaw" (27 : Nat) "com/example/parallel_el/parallelel/reasoning/Context" "newSubsumers" "Lcom/example/parallel_el/parallelel/util/IntList;") : Jvm.Cond).before a0 Z = true := hw _ (List.mem_of_getElem? (i := 113) rfl)
theorem w114 {a0 : Array Value} {Z : State} (hw : Hw a0 Z) : ((Jvm.Cond.methodLink "com/example/parallel_el/parallelel/reasoning/ContextForgetNewFactsPinLaw" (31 : Nat) ({ cls := "com/example/parallel_el/parallelel/util/IntList", name := "size", desc := "()I" } : Jvm.MethodName)) : Jvm.Cond).before a0 Z = true := hw _ (List.mem_of_getElem? (i := 114) rfl)
theorem w115 {a0 : Array Value} {Z : State} (hw : Hw a0 Z) : ((Jvm.Cond.declares ({ cls := "com/example/parallel_el/parallelel/util/IntList", name := "size", desc := "()I" } : Jvm.MethodName)) : Jvm.Cond).before a0 Z = true := hw _ (List.mem_of_getElem? (i := 115) rfl)
theorem w116 {a0 : Array Value} {Z : State} (hw : Hw a0 Z) : ((Jvm.Cond.instanceMethod ({ cls := "com/example/parallel_el/parallelel/util/IntList", name := "size", desc := "()I" } : Jvm.MethodName)) : Jvm.Cond).before a0 Z = true := hw _ (List.mem_of_getElem? (i := 116) rfl)
theorem w117 {a0 : Array Value} {Z : State} (hw : Hw a0 Z) : ((Jvm.Cond.selects "com/example/parallel_el/parallelel/util/IntList" ({ cls := "com/example/parallel_el/parallelel/util/IntList", name := "size", desc := "()I" } : Jvm.MethodName) ({ cls := "com/example/parallel_el/parallelel/util/IntList", name := "size", desc := "()I" } : Jvm.MethodName)) : Jvm.Cond).before a0 Z = true := hw _ (List.mem_of_getElem? (i := 117) rfl)
theorem w118 {a0 : Array Value} {Z : State} (hw : Hw a0 Z) : ((Jvm.Cond.code ({ cls := "com/example/parallel_el/parallelel/util/IntList", name := "size", desc := "()I" } : Jvm.MethodName) prog_25_method_6_code (1 : Nat) (Option.some Jvm.ClassFile.FieldType.int)) : Jvm.Cond).before a0 Z = true := hw _ (List.mem_of_getElem? (i := 118) rfl)
theorem w119 {a0 : Array Value} {Z : State} (hw : Hw a0 Z) : ((Jvm.Cond.fieldLink "com/example/parallel_el/parallelel/reasoning/ContextForgetNewFactsPinLaw" (37 : Nat) "com/example/parallel_el/parallelel/reasoning/Context" "newPredecessors" "Lcom/example/parallel_el/parallelel/util/IntList;") : Jvm.Cond).before a0 Z = true := hw _ (List.mem_of_getElem? (i := 119) rfl)
theorem w120 {a0 : Array Value} {Z : State} (hw : Hw a0 Z) : ((Jvm.Cond.fieldLink "com/example/parallel_el/parallelel/reasoning/ContextForgetNewFactsPinLaw" (40 : Nat) "com/example/parallel_el/parallelel/reasoning/Context" "newSuccessors" "Lcom/example/parallel_el/parallelel/util/IntList;") : Jvm.Cond).before a0 Z = true := hw _ (List.mem_of_getElem? (i := 120) rfl)
theorem w121 {a0 : Array Value} {Z : State} (hw : Hw a0 Z) : ((Jvm.Cond.fieldLink "com/example/parallel_el/parallelel/reasoning/ContextForgetNewFactsPinLaw" (43 : Nat) "com/example/parallel_el/parallelel/reasoning/Context" "subsumers" "Lcom/example/parallel_el/parallelel/util/IntSet;") : Jvm.Cond).before a0 Z = true := hw _ (List.mem_of_getElem? (i := 121) rfl)
theorem w122 {a0 : Array Value} {Z : State} (hw : Hw a0 Z) : ((Jvm.Cond.methodLink "com/example/parallel_el/parallelel/reasoning/ContextForgetNewFactsPinLaw" (47 : Nat) ({ cls := "com/example/parallel_el/parallelel/util/IntSet", name := "contains", desc := "(I)Z" } : Jvm.MethodName)) : Jvm.Cond).before a0 Z = true := hw _ (List.mem_of_getElem? (i := 122) rfl)
theorem w123 {a0 : Array Value} {Z : State} (hw : Hw a0 Z) : ((Jvm.Cond.declares ({ cls := "com/example/parallel_el/parallelel/util/IntSet", name := "contains", desc := "(I)Z" } : Jvm.MethodName)) : Jvm.Cond).before a0 Z = true := hw _ (List.mem_of_getElem? (i := 123) rfl)
theorem w124 {a0 : Array Value} {Z : State} (hw : Hw a0 Z) : ((Jvm.Cond.instanceMethod ({ cls := "com/example/parallel_el/parallelel/util/IntSet", name := "contains", desc := "(I)Z" } : Jvm.MethodName)) : Jvm.Cond).before a0 Z = true := hw _ (List.mem_of_getElem? (i := 124) rfl)
theorem w125 {a0 : Array Value} {Z : State} (hw : Hw a0 Z) : ((Jvm.Cond.selects "com/example/parallel_el/parallelel/util/IntSet" ({ cls := "com/example/parallel_el/parallelel/util/IntSet", name := "contains", desc := "(I)Z" } : Jvm.MethodName) ({ cls := "com/example/parallel_el/parallelel/util/IntSet", name := "contains", desc := "(I)Z" } : Jvm.MethodName)) : Jvm.Cond).before a0 Z = true := hw _ (List.mem_of_getElem? (i := 125) rfl)
theorem w126 {a0 : Array Value} {Z : State} (hw : Hw a0 Z) : ((Jvm.Cond.code ({ cls := "com/example/parallel_el/parallelel/util/IntSet", name := "contains", desc := "(I)Z" } : Jvm.MethodName) prog_26_method_3_code (2 : Nat) (Option.some Jvm.ClassFile.FieldType.boolean)) : Jvm.Cond).before a0 Z = true := hw _ (List.mem_of_getElem? (i := 126) rfl)
theorem w127 {a0 : Array Value} {Z : State} (hw : Hw a0 Z) : ((Jvm.Cond.methodLink "com/example/parallel_el/parallelel/reasoning/ContextForgetNewFactsPinLaw" (52 : Nat) ({ cls := "com/example/parallel_el/parallelel/util/IntSet", name := "size", desc := "()I" } : Jvm.MethodName)) : Jvm.Cond).before a0 Z = true := hw _ (List.mem_of_getElem? (i := 127) rfl)
theorem w128 {a0 : Array Value} {Z : State} (hw : Hw a0 Z) : ((Jvm.Cond.declares ({ cls := "com/example/parallel_el/parallelel/util/IntSet", name := "size", desc := "()I" } : Jvm.MethodName)) : Jvm.Cond).before a0 Z = true := hw _ (List.mem_of_getElem? (i := 128) rfl)
theorem w129 {a0 : Array Value} {Z : State} (hw : Hw a0 Z) : ((Jvm.Cond.instanceMethod ({ cls := "com/example/parallel_el/parallelel/util/IntSet", name := "size", desc := "()I" } : Jvm.MethodName)) : Jvm.Cond).before a0 Z = true := hw _ (List.mem_of_getElem? (i := 129) rfl)
theorem w130 {a0 : Array Value} {Z : State} (hw : Hw a0 Z) : ((Jvm.Cond.selects "com/example/parallel_el/parallelel/util/IntSet" ({ cls := "com/example/parallel_el/parallelel/util/IntSet", name := "size", desc := "()I" } : Jvm.MethodName) ({ cls := "com/example/parallel_el/parallelel/util/IntSet", name := "size", desc := "()I" } : Jvm.MethodName)) : Jvm.Cond).before a0 Z = true := hw _ (List.mem_of_getElem? (i := 130) rfl)
theorem w131 {a0 : Array Value} {Z : State} (hw : Hw a0 Z) : ((Jvm.Cond.code ({ cls := "com/example/parallel_el/parallelel/util/IntSet", name := "size", desc := "()I" } : Jvm.MethodName) prog_26_method_4_code (1 : Nat) (Option.some Jvm.ClassFile.FieldType.int)) : Jvm.Cond).before a0 Z = true := hw _ (List.mem_of_getElem? (i := 131) rfl)
theorem w132 {a0 : Array Value} {Z : State} (hw : Hw a0 Z) : ((Jvm.Cond.methodLink "com/example/parallel_el/parallelel/reasoning/ContextForgetNewFactsPinLaw" (53 : Nat) ({ cls := "com/example/parallel_el/parallelel/reasoning/Context", name := "predecessors", desc := "(I)Lcom/example/parallel_el/parallelel/util/IntSet;" } : Jvm.MethodName)) : Jvm.Cond).before a0 Z = true := hw _ (List.mem_of_getElem? (i := 132) rfl)
theorem w133 {a0 : Array Value} {Z : State} (hw : Hw a0 Z) : ((Jvm.Cond.declares ({ cls := "com/example/parallel_el/parallelel/reasoning/Context", name := "predecessors", desc := "(I)Lcom/example/parallel_el/parallelel/util/IntSet;" } : Jvm.MethodName)) : Jvm.Cond).before a0 Z = true := hw _ (List.mem_of_getElem? (i := 133) rfl)
theorem w134 {a0 : Array Value} {Z : State} (hw : Hw a0 Z) : ((Jvm.Cond.instanceMethod ({ cls := "com/example/parallel_el/parallelel/reasoning/Context", name := "predecessors", desc := "(I)Lcom/example/parallel_el/parallelel/util/IntSet;" } : Jvm.MethodName)) : Jvm.Cond).before a0 Z = true := hw _ (List.mem_of_getElem? (i := 134) rfl)
theorem w135 {a0 : Array Value} {Z : State} (hw : Hw a0 Z) : ((Jvm.Cond.selects "com/example/parallel_el/parallelel/reasoning/Context" ({ cls := "com/example/parallel_el/parallelel/reasoning/Context", name := "predecessors", desc := "(I)Lcom/example/parallel_el/parallelel/util/IntSet;" } : Jvm.MethodName) ({ cls := "com/example/parallel_el/parallelel/reasoning/Context", name := "predecessors", desc := "(I)Lcom/example/parallel_el/parallelel/util/IntSet;" } : Jvm.MethodName)) : Jvm.Cond).before a0 Z = true := hw _ (List.mem_of_getElem? (i := 135) rfl)
theorem w136 {a0 : Array Value} {Z : State} (hw : Hw a0 Z) : ((Jvm.Cond.code ({ cls := "com/example/parallel_el/parallelel/reasoning/Context", name := "predecessors", desc := "(I)Lcom/example/parallel_el/parallelel/util/IntSet;" } : Jvm.MethodName) prog_7_method_2_code (2 : Nat) (Option.some (Jvm.ClassFile.FieldType.object "com/example/parallel_el/parallelel/util/IntSet"))) : Jvm.Cond).before a0 Z = true := hw _ (List.mem_of_getElem? (i := 136) rfl)
theorem w137 {a0 : Array Value} {Z : State} (hw : Hw a0 Z) : ((Jvm.Cond.methodLink "com/example/parallel_el/parallelel/reasoning/ContextForgetNewFactsPinLaw" (57 : Nat) ({ cls := "com/example/parallel_el/parallelel/reasoning/Context", name := "successors", desc := "(I)Lcom/example/parallel_el/parallelel/util/IntSet;" } : Jvm.MethodName)) : Jvm.Cond).before a0 Z = true := hw _ (List.mem_of_getElem? (i := 137) rfl)
theorem w138 {a0 : Array Value} {Z : State} (hw : Hw a0 Z) : ((Jvm.Cond.declares ({ cls := "com/example/parallel_el/parallelel/reasoning/Context", name := "successors", desc := "(I)Lcom/example/parallel_el/parallelel/util/IntSet;" } : Jvm.MethodName)) : Jvm.Cond).before a0 Z = true := hw _ (List.mem_of_getElem? (i := 138) rfl)
theorem w139 {a0 : Array Value} {Z : State} (hw : Hw a0 Z) : ((Jvm.Cond.instanceMethod ({ cls := "com/example/parallel_el/parallelel/reasoning/Context", name := "successors", desc := "(I)Lcom/example/parallel_el/parallelel/util/IntSet;" } : Jvm.MethodName)) : Jvm.Cond).before a0 Z = true := hw _ (List.mem_of_getElem? (i := 139) rfl)
theorem w140 {a0 : Array Value} {Z : State} (hw : Hw a0 Z) : ((Jvm.Cond.selects "com/example/parallel_el/parallelel/reasoning/Context" ({ cls := "com/example/parallel_el/parallelel/reasoning/Context", name := "successors", desc := "(I)Lcom/example/parallel_el/parallelel/util/IntSet;" } : Jvm.MethodName) ({ cls := "com/example/parallel_el/parallelel/reasoning/Context", name := "successors", desc := "(I)Lcom/example/parallel_el/parallelel/util/IntSet;" } : Jvm.MethodName)) : Jvm.Cond).before a0 Z = true := hw _ (List.mem_of_getElem? (i := 140) rfl)
theorem w141 {a0 : Array Value} {Z : State} (hw : Hw a0 Z) : ((Jvm.Cond.code ({ cls := "com/example/parallel_el/parallelel/reasoning/Context", name := "successors", desc := "(I)Lcom/example/parallel_el/parallelel/util/IntSet;" } : Jvm.MethodName) prog_7_method_3_code (2 : Nat) (Option.some (Jvm.ClassFile.FieldType.object "com/example/parallel_el/parallelel/util/IntSet"))) : Jvm.Cond).before a0 Z = true := hw _ (List.mem_of_getElem? (i := 141) rfl)
theorem w142 {a0 : Array Value} {Z : State} (hw : Hw a0 Z) : ((Jvm.Cond.fieldLink "com/example/parallel_el/parallelel/reasoning/Context" (40 : Nat) "com/example/parallel_el/parallelel/reasoning/Context" "successors" "[Lcom/example/parallel_el/parallelel/util/IntSet;") : Jvm.Cond).before a0 Z = true := hw _ (List.mem_of_getElem? (i := 142) rfl)
theorem w143 {a0 : Array Value} {Z : State} (hw : Hw a0 Z) : ((Jvm.Cond.lays "com/example/parallel_el/parallelel/reasoning/Context" "com/example/parallel_el/parallelel/reasoning/Context" "successors" "[Lcom/example/parallel_el/parallelel/util/IntSet;") : Jvm.Cond).before a0 Z = true := hw _ (List.mem_of_getElem? (i := 143) rfl)
theorem w144 {a0 : Array Value} {Z : State} (hw : Hw a0 Z) : ((Jvm.Cond.fieldLink "com/example/parallel_el/parallelel/reasoning/ContextForgetNewFactsPinLaw" (60 : Nat) "com/example/parallel_el/parallelel/reasoning/Context" "concept" "I") : Jvm.Cond).before a0 Z = true := hw _ (List.mem_of_getElem? (i := 144) rfl)
theorem w145 {a0 : Array Value} {Z : State} (hw : Hw a0 Z) : ((Jvm.Cond.methodLink "com/example/parallel_el/parallelel/reasoning/ContextForgetNewFactsPinLaw" (13 : Nat) ({ cls := "com/example/parallel_el/parallelel/reasoning/Context", name := "addSubsumer", desc := "(I)Z" } : Jvm.MethodName)) : Jvm.Cond).before a0 Z = true := hw _ (List.mem_of_getElem? (i := 145) rfl)
theorem w146 {a0 : Array Value} {Z : State} (hw : Hw a0 Z) : ((Jvm.Cond.declares ({ cls := "com/example/parallel_el/parallelel/reasoning/Context", name := "addSubsumer", desc := "(I)Z" } : Jvm.MethodName)) : Jvm.Cond).before a0 Z = true := hw _ (List.mem_of_getElem? (i := 146) rfl)
theorem w147 {a0 : Array Value} {Z : State} (hw : Hw a0 Z) : ((Jvm.Cond.instanceMethod ({ cls := "com/example/parallel_el/parallelel/reasoning/Context", name := "addSubsumer", desc := "(I)Z" } : Jvm.MethodName)) : Jvm.Cond).before a0 Z = true := hw _ (List.mem_of_getElem? (i := 147) rfl)
theorem w148 {a0 : Array Value} {Z : State} (hw : Hw a0 Z) : ((Jvm.Cond.selects "com/example/parallel_el/parallelel/reasoning/Context" ({ cls := "com/example/parallel_el/parallelel/reasoning/Context", name := "addSubsumer", desc := "(I)Z" } : Jvm.MethodName) ({ cls := "com/example/parallel_el/parallelel/reasoning/Context", name := "addSubsumer", desc := "(I)Z" } : Jvm.MethodName)) : Jvm.Cond).before a0 Z = true := hw _ (List.mem_of_getElem? (i := 148) rfl)
theorem w149 {a0 : Array Value} {Z : State} (hw : Hw a0 Z) : ((Jvm.Cond.code ({ cls := "com/example/parallel_el/parallelel/reasoning/Context", name := "addSubsumer", desc := "(I)Z" } : Jvm.MethodName) prog_7_method_4_code (2 : Nat) (Option.some Jvm.ClassFile.FieldType.boolean)) : Jvm.Cond).before a0 Z = true := hw _ (List.mem_of_getElem? (i := 149) rfl)
theorem w150 {a0 : Array Value} {Z : State} (hw : Hw a0 Z) : ((Jvm.Cond.methodLink "com/example/parallel_el/parallelel/reasoning/Context" (47 : Nat) ({ cls := "com/example/parallel_el/parallelel/util/IntList", name := "add", desc := "(I)V" } : Jvm.MethodName)) : Jvm.Cond).before a0 Z = true := hw _ (List.mem_of_getElem? (i := 150) rfl)
theorem w151 {a0 : Array Value} {Z : State} (hw : Hw a0 Z) : ((Jvm.Cond.methodLink "com/example/parallel_el/parallelel/reasoning/ContextForgetNewFactsPinLaw" (21 : Nat) ({ cls := "com/example/parallel_el/parallelel/reasoning/Context", name := "addSuccessor", desc := "(II)Z" } : Jvm.MethodName)) : Jvm.Cond).before a0 Z = true := hw _ (List.mem_of_getElem? (i := 151) rfl)
theorem w152 {a0 : Array Value} {Z : State} (hw : Hw a0 Z) : ((Jvm.Cond.declares ({ cls := "com/example/parallel_el/parallelel/reasoning/Context", name := "addSuccessor", desc := "(II)Z" } : Jvm.MethodName)) : Jvm.Cond).before a0 Z = true := hw _ (List.mem_of_getElem? (i := 152) rfl)
theorem w153 {a0 : Array Value} {Z : State} (hw : Hw a0 Z) : ((Jvm.Cond.instanceMethod ({ cls := "com/example/parallel_el/parallelel/reasoning/Context", name := "addSuccessor", desc := "(II)Z" } : Jvm.MethodName)) : Jvm.Cond).before a0 Z = true := hw _ (List.mem_of_getElem? (i := 153) rfl)
theorem w154 {a0 : Array Value} {Z : State} (hw : Hw a0 Z) : ((Jvm.Cond.selects "com/example/parallel_el/parallelel/reasoning/Context" ({ cls := "com/example/parallel_el/parallelel/reasoning/Context", name := "addSuccessor", desc := "(II)Z" } : Jvm.MethodName) ({ cls := "com/example/parallel_el/parallelel/reasoning/Context", name := "addSuccessor", desc := "(II)Z" } : Jvm.MethodName)) : Jvm.Cond).before a0 Z = true := hw _ (List.mem_of_getElem? (i := 154) rfl)
theorem w155 {a0 : Array Value} {Z : State} (hw : Hw a0 Z) : ((Jvm.Cond.code ({ cls := "com/example/parallel_el/parallelel/reasoning/Context", name := "addSuccessor", desc := "(II)Z" } : Jvm.MethodName) prog_7_method_6_code (3 : Nat) (Option.some Jvm.ClassFile.FieldType.boolean)) : Jvm.Cond).before a0 Z = true := hw _ (List.mem_of_getElem? (i := 155) rfl)
theorem pn0 : plainFor x = true := plainFor_of_name (show plainName "com/example/parallel_el/parallelel/reasoning/ContextForgetNewFactsPinLaw" = true by first | (simp [plainName, overriddenIn]; done) | decide +kernel)
theorem pd0 : parseMethodDescriptor "(IIIIII)Z" = some ⟨[.int, .int, .int, .int, .int, .int], some .boolean⟩ := by decide +kernel
theorem d1_0 : decode prog_7_method_1_code 0 = .ok (.aload_n 0, 1) := by decide +kernel
theorem d1_1 : decode prog_7_method_1_code 1 = .ok (.invokespecial 1, 3) := by decide +kernel
theorem d1_4 : decode prog_7_method_1_code 4 = .ok (.aload_n 0, 1) := by decide +kernel
theorem d1_5 : decode prog_7_method_1_code 5 = .ok (.new 7, 3) := by decide +kernel
theorem d1_8 : decode prog_7_method_1_code 8 = .ok (.dup, 1) := by decide +kernel
theorem d1_9 : decode prog_7_method_1_code 9 = .ok (.invokespecial 9, 3) := by decide +kernel
theorem d1_12 : decode prog_7_method_1_code 12 = .ok (.putfield 10, 3) := by decide +kernel
theorem d1_15 : decode prog_7_method_1_code 15 = .ok (.aload_n 0, 1) := by decide +kernel
theorem d1_16 : decode prog_7_method_1_code 16 = .ok (.new 16, 3) := by decide +kernel
theorem d1_19 : decode prog_7_method_1_code 19 = .ok (.dup, 1) := by decide +kernel
theorem d1_20 : decode prog_7_method_1_code 20 = .ok (.invokespecial 18, 3) := by decide +kernel
theorem d1_23 : decode prog_7_method_1_code 23 = .ok (.putfield 19, 3) := by decide +kernel
theorem d1_26 : decode prog_7_method_1_code 26 = .ok (.aload_n 0, 1) := by decide +kernel
theorem d1_27 : decode prog_7_method_1_code 27 = .ok (.new 16, 3) := by decide +kernel
theorem d1_30 : decode prog_7_method_1_code 30 = .ok (.dup, 1) := by decide +kernel
theorem d1_31 : decode prog_7_method_1_code 31 = .ok (.invokespecial 18, 3) := by decide +kernel
theorem d1_34 : decode prog_7_method_1_code 34 = .ok (.putfield 23, 3) := by decide +kernel
theorem d1_37 : decode prog_7_method_1_code 37 = .ok (.aload_n 0, 1) := by decide +kernel
theorem d1_38 : decode prog_7_method_1_code 38 = .ok (.new 16, 3) := by decide +kernel
theorem d1_41 : decode prog_7_method_1_code 41 = .ok (.dup, 1) := by decide +kernel
theorem d1_42 : decode prog_7_method_1_code 42 = .ok (.invokespecial 18, 3) := by decide +kernel
theorem d1_45 : decode prog_7_method_1_code 45 = .ok (.putfield 26, 3) := by decide +kernel
theorem d1_48 : decode prog_7_method_1_code 48 = .ok (.aload_n 0, 1) := by decide +kernel
theorem d1_49 : decode prog_7_method_1_code 49 = .ok (.iload_n 1, 1) := by decide +kernel
theorem d1_50 : decode prog_7_method_1_code 50 = .ok (.putfield 29, 3) := by decide +kernel
theorem d1_53 : decode prog_7_method_1_code 53 = .ok (.aload_n 0, 1) := by decide +kernel
theorem d1_54 : decode prog_7_method_1_code 54 = .ok (.iload_n 2, 1) := by decide +kernel
theorem d1_55 : decode prog_7_method_1_code 55 = .ok (.putfield 33, 3) := by decide +kernel
theorem d1_58 : decode prog_7_method_1_code 58 = .ok (.return_, 1) := by decide +kernel
theorem pn1 : plainFor (⟨"com/example/parallel_el/parallelel/reasoning/Context", "<init>", "(II)V"⟩ : MethodName) = true := plainFor_of_name (show plainName "com/example/parallel_el/parallelel/reasoning/Context" = true by first | (simp [plainName, overriddenIn]; done) | decide +kernel)
theorem pd1 : parseMethodDescriptor "(II)V" = some ⟨[.int, .int], none⟩ := by decide +kernel
theorem d3_0 : decode prog_26_method_1_code 0 = .ok (.aload_n 0, 1) := by decide +kernel
theorem d3_1 : decode prog_26_method_1_code 1 = .ok (.invokespecial 1, 3) := by decide +kernel
theorem d3_4 : decode prog_26_method_1_code 4 = .ok (.aload_n 0, 1) := by decide +kernel
theorem d3_5 : decode prog_26_method_1_code 5 = .ok (.iconst 4, 1) := by decide +kernel
theorem d3_6 : decode prog_26_method_1_code 6 = .ok (.invokestatic 7, 3) := by decide +kernel
theorem d3_9 : decode prog_26_method_1_code 9 = .ok (.putfield 13, 3) := by decide +kernel
theorem d3_12 : decode prog_26_method_1_code 12 = .ok (.return_, 1) := by decide +kernel
theorem pn3 : plainFor (⟨"com/example/parallel_el/parallelel/util/IntSet", "<init>", "()V"⟩ : MethodName) = true := plainFor_of_name (show plainName "com/example/parallel_el/parallelel/util/IntSet" = true by first | (simp [plainName, overriddenIn]; done) | decide +kernel)
theorem pd3 : parseMethodDescriptor "()V" = some ⟨[], none⟩ := by decide +kernel
theorem d4_0 : decode prog_26_method_9_code 0 = .ok (.iload_n 0, 1) := by decide +kernel
theorem d4_1 : decode prog_26_method_9_code 1 = .ok (.newarray .int, 2) := by decide +kernel
theorem d4_3 : decode prog_26_method_9_code 3 = .ok (.astore_n 1, 1) := by decide +kernel
theorem d4_4 : decode prog_26_method_9_code 4 = .ok (.aload_n 1, 1) := by decide +kernel
theorem d4_5 : decode prog_26_method_9_code 5 = .ok (.iconst (-1), 1) := by decide +kernel
theorem d4_6 : decode prog_26_method_9_code 6 = .ok (.invokestatic 52, 3) := by decide +kernel
theorem d4_9 : decode prog_26_method_9_code 9 = .ok (.aload_n 1, 1) := by decide +kernel
theorem d4_10 : decode prog_26_method_9_code 10 = .ok (.areturn, 1) := by decide +kernel
theorem pn4 : plainFor (⟨"com/example/parallel_el/parallelel/util/IntSet", "newSlots", "(I)[I"⟩ : MethodName) = true := plainFor_of_name (show plainName "com/example/parallel_el/parallelel/util/IntSet" = true by first | (simp [plainName, overriddenIn]; done) | decide +kernel)
theorem pd4 : parseMethodDescriptor "(I)[I" = some ⟨[.int], (some (.array .int))⟩ := by decide +kernel
theorem d5_0 : decode jdk_65_method_103_code 0 = .ok (.iconst 0, 1) := by decide +kernel
theorem d5_1 : decode jdk_65_method_103_code 1 = .ok (.istore_n 2, 1) := by decide +kernel
theorem d5_2 : decode jdk_65_method_103_code 2 = .ok (.aload_n 0, 1) := by decide +kernel
theorem d5_3 : decode jdk_65_method_103_code 3 = .ok (.arraylength, 1) := by decide +kernel
theorem d5_4 : decode jdk_65_method_103_code 4 = .ok (.istore_n 3, 1) := by decide +kernel
theorem d5_5 : decode jdk_65_method_103_code 5 = .ok (.iload_n 2, 1) := by decide +kernel
theorem d5_6 : decode jdk_65_method_103_code 6 = .ok (.iload_n 3, 1) := by decide +kernel
theorem d5_7 : decode jdk_65_method_103_code 7 = .ok (.if_icmp .ge 13, 3) := by decide +kernel
theorem d5_10 : decode jdk_65_method_103_code 10 = .ok (.aload_n 0, 1) := by decide +kernel
theorem d5_11 : decode jdk_65_method_103_code 11 = .ok (.iload_n 2, 1) := by decide +kernel
theorem d5_12 : decode jdk_65_method_103_code 12 = .ok (.iload_n 1, 1) := by decide +kernel
theorem d5_13 : decode jdk_65_method_103_code 13 = .ok (.iastore, 1) := by decide +kernel
theorem d5_14 : decode jdk_65_method_103_code 14 = .ok (.iinc 2 1, 3) := by decide +kernel
theorem d5_17 : decode jdk_65_method_103_code 17 = .ok (.goto (-12), 3) := by decide +kernel
theorem d5_20 : decode jdk_65_method_103_code 20 = .ok (.return_, 1) := by decide +kernel
theorem pn5 : plainFor (⟨"java/util/Arrays", "fill", "([II)V"⟩ : MethodName) = true := plainFor_of_name (show plainName "java/util/Arrays" = true by first | (simp [plainName, overriddenIn]; done) | decide +kernel)
theorem pd5 : parseMethodDescriptor "([II)V" = some ⟨[(.array .int), .int], none⟩ := by decide +kernel
theorem d6_0 : decode prog_25_method_1_code 0 = .ok (.aload_n 0, 1) := by decide +kernel
theorem d6_1 : decode prog_25_method_1_code 1 = .ok (.invokespecial 1, 3) := by decide +kernel
theorem d6_4 : decode prog_25_method_1_code 4 = .ok (.aload_n 0, 1) := by decide +kernel
theorem d6_5 : decode prog_25_method_1_code 5 = .ok (.getstatic 7, 3) := by decide +kernel
theorem d6_8 : decode prog_25_method_1_code 8 = .ok (.putfield 13, 3) := by decide +kernel
theorem d6_11 : decode prog_25_method_1_code 11 = .ok (.return_, 1) := by decide +kernel
theorem pn6 : plainFor (⟨"com/example/parallel_el/parallelel/util/IntList", "<init>", "()V"⟩ : MethodName) = true := plainFor_of_name (show plainName "com/example/parallel_el/parallelel/util/IntList" = true by first | (simp [plainName, overriddenIn]; done) | decide +kernel)
theorem pd6 : parseMethodDescriptor "()V" = some ⟨[], none⟩ := by decide +kernel
theorem d7_0 : decode prog_7_method_5_code 0 = .ok (.aload_n 0, 1) := by decide +kernel
theorem d7_1 : decode prog_7_method_5_code 1 = .ok (.getfield 36, 3) := by decide +kernel
theorem d7_4 : decode prog_7_method_5_code 4 = .ok (.ifnonnull 14, 3) := by decide +kernel
theorem d7_7 : decode prog_7_method_5_code 7 = .ok (.aload_n 0, 1) := by decide +kernel
theorem d7_8 : decode prog_7_method_5_code 8 = .ok (.aload_n 0, 1) := by decide +kernel
theorem d7_9 : decode prog_7_method_5_code 9 = .ok (.getfield 33, 3) := by decide +kernel
theorem d7_12 : decode prog_7_method_5_code 12 = .ok (.anewarray 7, 3) := by decide +kernel
theorem d7_15 : decode prog_7_method_5_code 15 = .ok (.putfield 36, 3) := by decide +kernel
theorem d7_18 : decode prog_7_method_5_code 18 = .ok (.aload_n 0, 1) := by decide +kernel
theorem d7_19 : decode prog_7_method_5_code 19 = .ok (.getfield 36, 3) := by decide +kernel
theorem d7_22 : decode prog_7_method_5_code 22 = .ok (.aload_n 0, 1) := by decide +kernel
theorem d7_23 : decode prog_7_method_5_code 23 = .ok (.getfield 23, 3) := by decide +kernel
theorem d7_26 : decode prog_7_method_5_code 26 = .ok (.iload_n 1, 1) := by decide +kernel
theorem d7_27 : decode prog_7_method_5_code 27 = .ok (.iload_n 2, 1) := by decide +kernel
theorem d7_28 : decode prog_7_method_5_code 28 = .ok (.invokestatic 50, 3) := by decide +kernel
theorem d7_31 : decode prog_7_method_5_code 31 = .ok (.ireturn, 1) := by decide +kernel
theorem pn7 : plainFor (⟨"com/example/parallel_el/parallelel/reasoning/Context", "addPredecessor", "(II)Z"⟩ : MethodName) = true := plainFor_of_name (show plainName "com/example/parallel_el/parallelel/reasoning/Context" = true by first | (simp [plainName, overriddenIn]; done) | decide +kernel)
theorem pd7 : parseMethodDescriptor "(II)Z" = some ⟨[.int, .int], (some .boolean)⟩ := by decide +kernel
theorem d8_0 : decode prog_7_method_7_code 0 = .ok (.aload_n 0, 1) := by decide +kernel
theorem d8_1 : decode prog_7_method_7_code 1 = .ok (.iload_n 2, 1) := by decide +kernel
theorem d8_2 : decode prog_7_method_7_code 2 = .ok (.aaload, 1) := by decide +kernel
theorem d8_3 : decode prog_7_method_7_code 3 = .ok (.ifnonnull 13, 3) := by decide +kernel
theorem d8_6 : decode prog_7_method_7_code 6 = .ok (.aload_n 0, 1) := by decide +kernel
theorem d8_7 : decode prog_7_method_7_code 7 = .ok (.iload_n 2, 1) := by decide +kernel
theorem d8_8 : decode prog_7_method_7_code 8 = .ok (.new 7, 3) := by decide +kernel
theorem d8_11 : decode prog_7_method_7_code 11 = .ok (.dup, 1) := by decide +kernel
theorem d8_12 : decode prog_7_method_7_code 12 = .ok (.invokespecial 9, 3) := by decide +kernel
theorem d8_15 : decode prog_7_method_7_code 15 = .ok (.aastore, 1) := by decide +kernel
theorem d8_16 : decode prog_7_method_7_code 16 = .ok (.aload_n 0, 1) := by decide +kernel
theorem d8_17 : decode prog_7_method_7_code 17 = .ok (.iload_n 2, 1) := by decide +kernel
theorem d8_18 : decode prog_7_method_7_code 18 = .ok (.aaload, 1) := by decide +kernel
theorem d8_19 : decode prog_7_method_7_code 19 = .ok (.iload_n 3, 1) := by decide +kernel
theorem d8_20 : decode prog_7_method_7_code 20 = .ok (.invokevirtual 43, 3) := by decide +kernel
theorem d8_23 : decode prog_7_method_7_code 23 = .ok (.ifCond .ne 5, 3) := by decide +kernel
theorem d8_26 : decode prog_7_method_7_code 26 = .ok (.iconst 0, 1) := by decide +kernel
theorem d8_27 : decode prog_7_method_7_code 27 = .ok (.ireturn, 1) := by decide +kernel
theorem d8_28 : decode prog_7_method_7_code 28 = .ok (.aload_n 1, 1) := by decide +kernel
theorem d8_29 : decode prog_7_method_7_code 29 = .ok (.iload_n 2, 1) := by decide +kernel
theorem d8_30 : decode prog_7_method_7_code 30 = .ok (.iload_n 3, 1) := by decide +kernel
theorem d8_31 : decode prog_7_method_7_code 31 = .ok (.invokevirtual 54, 3) := by decide +kernel
theorem d8_34 : decode prog_7_method_7_code 34 = .ok (.iconst 1, 1) := by decide +kernel
theorem d8_35 : decode prog_7_method_7_code 35 = .ok (.ireturn, 1) := by decide +kernel
theorem pn8 : plainFor (⟨"com/example/parallel_el/parallelel/reasoning/Context", "addLink", "([Lcom/example/parallel_el/parallelel/util/IntSet;Lcom/example/parallel_el/parallelel/util/IntList;II)Z"⟩ : MethodName) = true := plainFor_of_name (show plainName "com/example/parallel_el/parallelel/reasoning/Context" = true by first | (simp [plainName, overriddenIn]; done) | decide +kernel)
theorem pd8 : parseMethodDescriptor "([Lcom/example/parallel_el/parallelel/util/IntSet;Lcom/example/parallel_el/parallelel/util/IntList;II)Z" = some ⟨[(.array (.object "com/example/parallel_el/parallelel/util/IntSet")), (.object "com/example/parallel_el/parallelel/util/IntList"), .int, .int], (some .boolean)⟩ := by decide +kernel
theorem d9_0 : decode prog_26_method_2_code 0 = .ok (.iload_n 1, 1) := by decide +kernel
theorem d9_1 : decode prog_26_method_2_code 1 = .ok (.ifCond .ge 17, 3) := by decide +kernel
theorem d9_18 : decode prog_26_method_2_code 18 = .ok (.iconst 4, 1) := by decide +kernel
theorem d9_19 : decode prog_26_method_2_code 19 = .ok (.aload_n 0, 1) := by decide +kernel
theorem d9_20 : decode prog_26_method_2_code 20 = .ok (.getfield 26, 3) := by decide +kernel
theorem d9_23 : decode prog_26_method_2_code 23 = .ok (.iconst 1, 1) := by decide +kernel
theorem d9_24 : decode prog_26_method_2_code 24 = .ok (.iadd, 1) := by decide +kernel
theorem d9_25 : decode prog_26_method_2_code 25 = .ok (.imul, 1) := by decide +kernel
theorem d9_26 : decode prog_26_method_2_code 26 = .ok (.iconst 3, 1) := by decide +kernel
theorem d9_27 : decode prog_26_method_2_code 27 = .ok (.aload_n 0, 1) := by decide +kernel
theorem d9_28 : decode prog_26_method_2_code 28 = .ok (.getfield 13, 3) := by decide +kernel
theorem d9_31 : decode prog_26_method_2_code 31 = .ok (.arraylength, 1) := by decide +kernel
theorem d9_32 : decode prog_26_method_2_code 32 = .ok (.imul, 1) := by decide +kernel
theorem d9_33 : decode prog_26_method_2_code 33 = .ok (.if_icmp .le 7, 3) := by decide +kernel
theorem d9_40 : decode prog_26_method_2_code 40 = .ok (.aload_n 0, 1) := by decide +kernel
theorem d9_41 : decode prog_26_method_2_code 41 = .ok (.iload_n 1, 1) := by decide +kernel
theorem d9_42 : decode prog_26_method_2_code 42 = .ok (.invokevirtual 33, 3) := by decide +kernel
theorem d9_45 : decode prog_26_method_2_code 45 = .ok (.istore_n 2, 1) := by decide +kernel
theorem d9_46 : decode prog_26_method_2_code 46 = .ok (.aload_n 0, 1) := by decide +kernel
theorem d9_47 : decode prog_26_method_2_code 47 = .ok (.getfield 13, 3) := by decide +kernel
theorem d9_50 : decode prog_26_method_2_code 50 = .ok (.iload_n 2, 1) := by decide +kernel
theorem d9_51 : decode prog_26_method_2_code 51 = .ok (.iaload, 1) := by decide +kernel
theorem d9_52 : decode prog_26_method_2_code 52 = .ok (.iload_n 1, 1) := by decide +kernel
theorem d9_53 : decode prog_26_method_2_code 53 = .ok (.if_icmp .ne 5, 3) := by decide +kernel
theorem d9_56 : decode prog_26_method_2_code 56 = .ok (.iconst 0, 1) := by decide +kernel
theorem d9_57 : decode prog_26_method_2_code 57 = .ok (.ireturn, 1) := by decide +kernel
theorem d9_58 : decode prog_26_method_2_code 58 = .ok (.aload_n 0, 1) := by decide +kernel
theorem d9_59 : decode prog_26_method_2_code 59 = .ok (.getfield 13, 3) := by decide +kernel
theorem d9_62 : decode prog_26_method_2_code 62 = .ok (.iload_n 2, 1) := by decide +kernel
theorem d9_63 : decode prog_26_method_2_code 63 = .ok (.iload_n 1, 1) := by decide +kernel
theorem d9_64 : decode prog_26_method_2_code 64 = .ok (.iastore, 1) := by decide +kernel
theorem d9_65 : decode prog_26_method_2_code 65 = .ok (.aload_n 0, 1) := by decide +kernel
theorem d9_66 : decode prog_26_method_2_code 66 = .ok (.dup, 1) := by decide +kernel
theorem d9_67 : decode prog_26_method_2_code 67 = .ok (.getfield 26, 3) := by decide +kernel
theorem d9_70 : decode prog_26_method_2_code 70 = .ok (.iconst 1, 1) := by decide +kernel
theorem d9_71 : decode prog_26_method_2_code 71 = .ok (.iadd, 1) := by decide +kernel
theorem d9_72 : decode prog_26_method_2_code 72 = .ok (.putfield 26, 3) := by decide +kernel
theorem d9_75 : decode prog_26_method_2_code 75 = .ok (.iconst 1, 1) := by decide +kernel
theorem d9_76 : decode prog_26_method_2_code 76 = .ok (.ireturn, 1) := by decide +kernel
theorem pn9 : plainFor (⟨"com/example/parallel_el/parallelel/util/IntSet", "add", "(I)Z"⟩ : MethodName) = true := plainFor_of_name (show plainName "com/example/parallel_el/parallelel/util/IntSet" = true by first | (simp [plainName, overriddenIn]; done) | decide +kernel)
theorem pd9 : parseMethodDescriptor "(I)Z" = some ⟨[.int], (some .boolean)⟩ := by decide +kernel
theorem d10_0 : decode prog_26_method_8_code 0 = .ok (.aload_n 0, 1) := by decide +kernel
theorem d10_1 : decode prog_26_method_8_code 1 = .ok (.getfield 13, 3) := by decide +kernel
theorem d10_4 : decode prog_26_method_8_code 4 = .ok (.arraylength, 1) := by decide +kernel
theorem d10_5 : decode prog_26_method_8_code 5 = .ok (.iconst 1, 1) := by decide +kernel
theorem d10_6 : decode prog_26_method_8_code 6 = .ok (.isub, 1) := by decide +kernel
theorem d10_7 : decode prog_26_method_8_code 7 = .ok (.istore_n 2, 1) := by decide +kernel
theorem d10_8 : decode prog_26_method_8_code 8 = .ok (.iload_n 1, 1) := by decide +kernel
theorem d10_9 : decode prog_26_method_8_code 9 = .ok (.invokestatic 49, 3) := by decide +kernel
theorem d10_12 : decode prog_26_method_8_code 12 = .ok (.iload_n 2, 1) := by decide +kernel
theorem d10_13 : decode prog_26_method_8_code 13 = .ok (.iand, 1) := by decide +kernel
theorem d10_14 : decode prog_26_method_8_code 14 = .ok (.istore_n 3, 1) := by decide +kernel
theorem d10_15 : decode prog_26_method_8_code 15 = .ok (.aload_n 0, 1) := by decide +kernel
theorem d10_16 : decode prog_26_method_8_code 16 = .ok (.getfield 13, 3) := by decide +kernel
theorem d10_19 : decode prog_26_method_8_code 19 = .ok (.iload_n 3, 1) := by decide +kernel
theorem d10_20 : decode prog_26_method_8_code 20 = .ok (.iaload, 1) := by decide +kernel
theorem d10_21 : decode prog_26_method_8_code 21 = .ok (.iconst (-1), 1) := by decide +kernel
theorem d10_22 : decode prog_26_method_8_code 22 = .ok (.if_icmp .eq 22, 3) := by decide +kernel
theorem d10_25 : decode prog_26_method_8_code 25 = .ok (.aload_n 0, 1) := by decide +kernel
theorem d10_26 : decode prog_26_method_8_code 26 = .ok (.getfield 13, 3) := by decide +kernel
theorem d10_29 : decode prog_26_method_8_code 29 = .ok (.iload_n 3, 1) := by decide +kernel
theorem d10_30 : decode prog_26_method_8_code 30 = .ok (.iaload, 1) := by decide +kernel
theorem d10_31 : decode prog_26_method_8_code 31 = .ok (.iload_n 1, 1) := by decide +kernel
theorem d10_32 : decode prog_26_method_8_code 32 = .ok (.if_icmp .eq 12, 3) := by decide +kernel
theorem d10_35 : decode prog_26_method_8_code 35 = .ok (.iload_n 3, 1) := by decide +kernel
theorem d10_36 : decode prog_26_method_8_code 36 = .ok (.iconst 1, 1) := by decide +kernel
theorem d10_37 : decode prog_26_method_8_code 37 = .ok (.iadd, 1) := by decide +kernel
theorem d10_38 : decode prog_26_method_8_code 38 = .ok (.iload_n 2, 1) := by decide +kernel
theorem d10_39 : decode prog_26_method_8_code 39 = .ok (.iand, 1) := by decide +kernel
theorem d10_40 : decode prog_26_method_8_code 40 = .ok (.istore_n 3, 1) := by decide +kernel
theorem d10_41 : decode prog_26_method_8_code 41 = .ok (.goto (-26), 3) := by decide +kernel
theorem d10_44 : decode prog_26_method_8_code 44 = .ok (.iload_n 3, 1) := by decide +kernel
theorem d10_45 : decode prog_26_method_8_code 45 = .ok (.ireturn, 1) := by decide +kernel
theorem pn10 : plainFor (⟨"com/example/parallel_el/parallelel/util/IntSet", "slotOf", "(I)I"⟩ : MethodName) = true := plainFor_of_name (show plainName "com/example/parallel_el/parallelel/util/IntSet" = true by first | (simp [plainName, overriddenIn]; done) | decide +kernel)
theorem pd10 : parseMethodDescriptor "(I)I" = some ⟨[.int], (some .int)⟩ := by decide +kernel
theorem d11_0 : decode prog_26_method_10_code 0 = .ok (.iload_n 0, 1) := by decide +kernel
theorem d11_1 : decode prog_26_method_10_code 1 = .ok (.ldc 56, 2) := by decide +kernel
theorem d11_3 : decode prog_26_method_10_code 3 = .ok (.imul, 1) := by decide +kernel
theorem d11_4 : decode prog_26_method_10_code 4 = .ok (.istore_n 1, 1) := by decide +kernel
theorem d11_5 : decode prog_26_method_10_code 5 = .ok (.iload_n 1, 1) := by decide +kernel
theorem d11_6 : decode prog_26_method_10_code 6 = .ok (.iload_n 1, 1) := by decide +kernel
theorem d11_7 : decode prog_26_method_10_code 7 = .ok (.bipush 16, 2) := by decide +kernel
theorem d11_9 : decode prog_26_method_10_code 9 = .ok (.iushr, 1) := by decide +kernel
theorem d11_10 : decode prog_26_method_10_code 10 = .ok (.ixor, 1) := by decide +kernel
theorem d11_11 : decode prog_26_method_10_code 11 = .ok (.ireturn, 1) := by decide +kernel
theorem pn11 : plainFor (⟨"com/example/parallel_el/parallelel/util/IntSet", "hash", "(I)I"⟩ : MethodName) = true := plainFor_of_name (show plainName "com/example/parallel_el/parallelel/util/IntSet" = true by first | (simp [plainName, overriddenIn]; done) | decide +kernel)
theorem pd11 : parseMethodDescriptor "(I)I" = some ⟨[.int], (some .int)⟩ := by decide +kernel
theorem d12_0 : decode prog_25_method_3_code 0 = .ok (.aload_n 0, 1) := by decide +kernel
theorem d12_1 : decode prog_25_method_3_code 1 = .ok (.iload_n 1, 1) := by decide +kernel
theorem d12_2 : decode prog_25_method_3_code 2 = .ok (.invokevirtual 32, 3) := by decide +kernel
theorem d12_5 : decode prog_25_method_3_code 5 = .ok (.aload_n 0, 1) := by decide +kernel
theorem d12_6 : decode prog_25_method_3_code 6 = .ok (.iload_n 2, 1) := by decide +kernel
theorem d12_7 : decode prog_25_method_3_code 7 = .ok (.invokevirtual 32, 3) := by decide +kernel
theorem d12_10 : decode prog_25_method_3_code 10 = .ok (.return_, 1) := by decide +kernel
theorem pn12 : plainFor (⟨"com/example/parallel_el/parallelel/util/IntList", "add", "(II)V"⟩ : MethodName) = true := plainFor_of_name (show plainName "com/example/parallel_el/parallelel/util/IntList" = true by first | (simp [plainName, overriddenIn]; done) | decide +kernel)
theorem pd12 : parseMethodDescriptor "(II)V" = some ⟨[.int, .int], none⟩ := by decide +kernel
theorem d13_0 : decode prog_25_method_2_code 0 = .ok (.aload_n 0, 1) := by decide +kernel
theorem d13_1 : decode prog_25_method_2_code 1 = .ok (.getfield 16, 3) := by decide +kernel
theorem d13_4 : decode prog_25_method_2_code 4 = .ok (.aload_n 0, 1) := by decide +kernel
theorem d13_5 : decode prog_25_method_2_code 5 = .ok (.getfield 13, 3) := by decide +kernel
theorem d13_8 : decode prog_25_method_2_code 8 = .ok (.arraylength, 1) := by decide +kernel
theorem d13_9 : decode prog_25_method_2_code 9 = .ok (.if_icmp .ne 25, 3) := by decide +kernel
theorem d13_12 : decode prog_25_method_2_code 12 = .ok (.aload_n 0, 1) := by decide +kernel
theorem d13_13 : decode prog_25_method_2_code 13 = .ok (.aload_n 0, 1) := by decide +kernel
theorem d13_14 : decode prog_25_method_2_code 14 = .ok (.getfield 13, 3) := by decide +kernel
theorem d13_17 : decode prog_25_method_2_code 17 = .ok (.bipush 8, 2) := by decide +kernel
theorem d13_19 : decode prog_25_method_2_code 19 = .ok (.iconst 2, 1) := by decide +kernel
theorem d13_20 : decode prog_25_method_2_code 20 = .ok (.aload_n 0, 1) := by decide +kernel
theorem d13_21 : decode prog_25_method_2_code 21 = .ok (.getfield 16, 3) := by decide +kernel
theorem d13_24 : decode prog_25_method_2_code 24 = .ok (.imul, 1) := by decide +kernel
theorem d13_25 : decode prog_25_method_2_code 25 = .ok (.invokestatic 20, 3) := by decide +kernel
theorem d13_28 : decode prog_25_method_2_code 28 = .ok (.invokestatic 26, 3) := by decide +kernel
theorem d13_31 : decode prog_25_method_2_code 31 = .ok (.putfield 13, 3) := by decide +kernel
theorem d13_34 : decode prog_25_method_2_code 34 = .ok (.aload_n 0, 1) := by decide +kernel
theorem d13_35 : decode prog_25_method_2_code 35 = .ok (.getfield 13, 3) := by decide +kernel
theorem d13_38 : decode prog_25_method_2_code 38 = .ok (.aload_n 0, 1) := by decide +kernel
theorem d13_39 : decode prog_25_method_2_code 39 = .ok (.dup, 1) := by decide +kernel
theorem d13_40 : decode prog_25_method_2_code 40 = .ok (.getfield 16, 3) := by decide +kernel
theorem d13_43 : decode prog_25_method_2_code 43 = .ok (.dup_x1, 1) := by decide +kernel
theorem d13_44 : decode prog_25_method_2_code 44 = .ok (.iconst 1, 1) := by decide +kernel
theorem d13_45 : decode prog_25_method_2_code 45 = .ok (.iadd, 1) := by decide +kernel
theorem d13_46 : decode prog_25_method_2_code 46 = .ok (.putfield 16, 3) := by decide +kernel
theorem d13_49 : decode prog_25_method_2_code 49 = .ok (.iload_n 1, 1) := by decide +kernel
theorem d13_50 : decode prog_25_method_2_code 50 = .ok (.iastore, 1) := by decide +kernel
theorem d13_51 : decode prog_25_method_2_code 51 = .ok (.return_, 1) := by decide +kernel
theorem pn13 : plainFor (⟨"com/example/parallel_el/parallelel/util/IntList", "add", "(I)V"⟩ : MethodName) = true := plainFor_of_name (show plainName "com/example/parallel_el/parallelel/util/IntList" = true by first | (simp [plainName, overriddenIn]; done) | decide +kernel)
theorem pd13 : parseMethodDescriptor "(I)V" = some ⟨[.int], none⟩ := by decide +kernel
theorem d14_0 : decode jdk_29_method_65_code 0 = .ok (.iload_n 0, 1) := by decide +kernel
theorem d14_1 : decode jdk_29_method_65_code 1 = .ok (.iload_n 1, 1) := by decide +kernel
theorem d14_2 : decode jdk_29_method_65_code 2 = .ok (.if_icmp .lt 7, 3) := by decide +kernel
theorem d14_5 : decode jdk_29_method_65_code 5 = .ok (.iload_n 0, 1) := by decide +kernel
theorem d14_6 : decode jdk_29_method_65_code 6 = .ok (.goto 4, 3) := by decide +kernel
theorem d14_9 : decode jdk_29_method_65_code 9 = .ok (.iload_n 1, 1) := by decide +kernel
theorem d14_10 : decode jdk_29_method_65_code 10 = .ok (.ireturn, 1) := by decide +kernel
theorem pn14 : plainFor (⟨"java/lang/Math", "max", "(II)I"⟩ : MethodName) = true := by decide +kernel
theorem pd14 : parseMethodDescriptor "(II)I" = some ⟨[.int, .int], (some .int)⟩ := by decide +kernel
theorem d15_0 : decode jdk_65_method_123_code 0 = .ok (.iload_n 1, 1) := by decide +kernel
theorem d15_1 : decode jdk_65_method_123_code 1 = .ok (.aload_n 0, 1) := by decide +kernel
theorem d15_2 : decode jdk_65_method_123_code 2 = .ok (.arraylength, 1) := by decide +kernel
theorem d15_3 : decode jdk_65_method_123_code 3 = .ok (.if_icmp .ne 11, 3) := by decide +kernel
theorem d15_14 : decode jdk_65_method_123_code 14 = .ok (.iload_n 1, 1) := by decide +kernel
theorem d15_15 : decode jdk_65_method_123_code 15 = .ok (.newarray .int, 2) := by decide +kernel
theorem d15_17 : decode jdk_65_method_123_code 17 = .ok (.astore_n 2, 1) := by decide +kernel
theorem d15_18 : decode jdk_65_method_123_code 18 = .ok (.aload_n 0, 1) := by decide +kernel
theorem d15_19 : decode jdk_65_method_123_code 19 = .ok (.iconst 0, 1) := by decide +kernel
theorem d15_20 : decode jdk_65_method_123_code 20 = .ok (.aload_n 2, 1) := by decide +kernel
theorem d15_21 : decode jdk_65_method_123_code 21 = .ok (.iconst 0, 1) := by decide +kernel
theorem d15_22 : decode jdk_65_method_123_code 22 = .ok (.aload_n 0, 1) := by decide +kernel
theorem d15_23 : decode jdk_65_method_123_code 23 = .ok (.arraylength, 1) := by decide +kernel
theorem d15_24 : decode jdk_65_method_123_code 24 = .ok (.iload_n 1, 1) := by decide +kernel
theorem d15_25 : decode jdk_65_method_123_code 25 = .ok (.invokestatic 304, 3) := by decide +kernel
theorem d15_28 : decode jdk_65_method_123_code 28 = .ok (.invokestatic 150, 3) := by decide +kernel
theorem d15_31 : decode jdk_65_method_123_code 31 = .ok (.aload_n 2, 1) := by decide +kernel
theorem d15_32 : decode jdk_65_method_123_code 32 = .ok (.areturn, 1) := by decide +kernel
theorem pn15 : plainFor (⟨"java/util/Arrays", "copyOf", "([II)[I"⟩ : MethodName) = true := plainFor_of_name (show plainName "java/util/Arrays" = true by first | (simp [plainName, overriddenIn]; done) | decide +kernel)
theorem pd15 : parseMethodDescriptor "([II)[I" = some ⟨[(.array .int), .int], (some (.array .int))⟩ := by decide +kernel
theorem d16_0 : decode jdk_29_method_69_code 0 = .ok (.iload_n 0, 1) := by decide +kernel
theorem d16_1 : decode jdk_29_method_69_code 1 = .ok (.iload_n 1, 1) := by decide +kernel
theorem d16_2 : decode jdk_29_method_69_code 2 = .ok (.if_icmp .gt 7, 3) := by decide +kernel
theorem d16_5 : decode jdk_29_method_69_code 5 = .ok (.iload_n 0, 1) := by decide +kernel
theorem d16_6 : decode jdk_29_method_69_code 6 = .ok (.goto 4, 3) := by decide +kernel
theorem d16_9 : decode jdk_29_method_69_code 9 = .ok (.iload_n 1, 1) := by decide +kernel
theorem d16_10 : decode jdk_29_method_69_code 10 = .ok (.ireturn, 1) := by decide +kernel
theorem pn16 : plainFor (⟨"java/lang/Math", "min", "(II)I"⟩ : MethodName) = true := by decide +kernel
theorem pd16 : parseMethodDescriptor "(II)I" = some ⟨[.int, .int], (some .int)⟩ := by decide +kernel
theorem d17_0 : decode prog_7_method_8_code 0 = .ok (.aload_n 0, 1) := by decide +kernel
theorem d17_1 : decode prog_7_method_8_code 1 = .ok (.getfield 19, 3) := by decide +kernel
theorem d17_4 : decode prog_7_method_8_code 4 = .ok (.invokevirtual 57, 3) := by decide +kernel
theorem d17_7 : decode prog_7_method_8_code 7 = .ok (.aload_n 0, 1) := by decide +kernel
theorem d17_8 : decode prog_7_method_8_code 8 = .ok (.getfield 23, 3) := by decide +kernel
theorem d17_11 : decode prog_7_method_8_code 11 = .ok (.invokevirtual 57, 3) := by decide +kernel
theorem d17_14 : decode prog_7_method_8_code 14 = .ok (.aload_n 0, 1) := by decide +kernel
theorem d17_15 : decode prog_7_method_8_code 15 = .ok (.getfield 26, 3) := by decide +kernel
theorem d17_18 : decode prog_7_method_8_code 18 = .ok (.invokevirtual 57, 3) := by decide +kernel
theorem d17_21 : decode prog_7_method_8_code 21 = .ok (.return_, 1) := by decide +kernel
theorem pn17 : plainFor (⟨"com/example/parallel_el/parallelel/reasoning/Context", "forgetNewFacts", "()V"⟩ : MethodName) = true := plainFor_of_name (show plainName "com/example/parallel_el/parallelel/reasoning/Context" = true by first | (simp [plainName, overriddenIn]; done) | decide +kernel)
theorem pd17 : parseMethodDescriptor "()V" = some ⟨[], none⟩ := by decide +kernel
theorem d18_0 : decode prog_25_method_7_code 0 = .ok (.aload_n 0, 1) := by decide +kernel
theorem d18_1 : decode prog_25_method_7_code 1 = .ok (.iconst 0, 1) := by decide +kernel
theorem d18_2 : decode prog_25_method_7_code 2 = .ok (.putfield 16, 3) := by decide +kernel
theorem d18_5 : decode prog_25_method_7_code 5 = .ok (.return_, 1) := by decide +kernel
theorem pn18 : plainFor (⟨"com/example/parallel_el/parallelel/util/IntList", "clear", "()V"⟩ : MethodName) = true := plainFor_of_name (show plainName "com/example/parallel_el/parallelel/util/IntList" = true by first | (simp [plainName, overriddenIn]; done) | decide +kernel)
theorem pd18 : parseMethodDescriptor "()V" = some ⟨[], none⟩ := by decide +kernel
theorem d19_0 : decode prog_25_method_6_code 0 = .ok (.aload_n 0, 1) := by decide +kernel
theorem d19_1 : decode prog_25_method_6_code 1 = .ok (.getfield 16, 3) := by decide +kernel
theorem d19_4 : decode prog_25_method_6_code 4 = .ok (.ireturn, 1) := by decide +kernel
theorem pn19 : plainFor (⟨"com/example/parallel_el/parallelel/util/IntList", "size", "()I"⟩ : MethodName) = true := plainFor_of_name (show plainName "com/example/parallel_el/parallelel/util/IntList" = true by first | (simp [plainName, overriddenIn]; done) | decide +kernel)
theorem pd19 : parseMethodDescriptor "()I" = some ⟨[], (some .int)⟩ := by decide +kernel
theorem d20_0 : decode prog_26_method_3_code 0 = .ok (.iload_n 1, 1) := by decide +kernel
theorem d20_1 : decode prog_26_method_3_code 1 = .ok (.ifCond .lt 21, 3) := by decide +kernel
theorem d20_4 : decode prog_26_method_3_code 4 = .ok (.aload_n 0, 1) := by decide +kernel
theorem d20_5 : decode prog_26_method_3_code 5 = .ok (.getfield 13, 3) := by decide +kernel
theorem d20_8 : decode prog_26_method_3_code 8 = .ok (.aload_n 0, 1) := by decide +kernel
theorem d20_9 : decode prog_26_method_3_code 9 = .ok (.iload_n 1, 1) := by decide +kernel
theorem d20_10 : decode prog_26_method_3_code 10 = .ok (.invokevirtual 33, 3) := by decide +kernel
theorem d20_13 : decode prog_26_method_3_code 13 = .ok (.iaload, 1) := by decide +kernel
theorem d20_14 : decode prog_26_method_3_code 14 = .ok (.iload_n 1, 1) := by decide +kernel
theorem d20_15 : decode prog_26_method_3_code 15 = .ok (.if_icmp .ne 7, 3) := by decide +kernel
theorem d20_18 : decode prog_26_method_3_code 18 = .ok (.iconst 1, 1) := by decide +kernel
theorem d20_19 : decode prog_26_method_3_code 19 = .ok (.goto 4, 3) := by decide +kernel
theorem d20_22 : decode prog_26_method_3_code 22 = .ok (.iconst 0, 1) := by decide +kernel
theorem d20_23 : decode prog_26_method_3_code 23 = .ok (.ireturn, 1) := by decide +kernel
theorem pn20 : plainFor (⟨"com/example/parallel_el/parallelel/util/IntSet", "contains", "(I)Z"⟩ : MethodName) = true := plainFor_of_name (show plainName "com/example/parallel_el/parallelel/util/IntSet" = true by first | (simp [plainName, overriddenIn]; done) | decide +kernel)
theorem pd20 : parseMethodDescriptor "(I)Z" = some ⟨[.int], (some .boolean)⟩ := by decide +kernel
theorem d21_0 : decode prog_26_method_4_code 0 = .ok (.aload_n 0, 1) := by decide +kernel
theorem d21_1 : decode prog_26_method_4_code 1 = .ok (.getfield 26, 3) := by decide +kernel
theorem d21_4 : decode prog_26_method_4_code 4 = .ok (.ireturn, 1) := by decide +kernel
theorem pn21 : plainFor (⟨"com/example/parallel_el/parallelel/util/IntSet", "size", "()I"⟩ : MethodName) = true := plainFor_of_name (show plainName "com/example/parallel_el/parallelel/util/IntSet" = true by first | (simp [plainName, overriddenIn]; done) | decide +kernel)
theorem pd21 : parseMethodDescriptor "()I" = some ⟨[], (some .int)⟩ := by decide +kernel
theorem d22_0 : decode prog_7_method_2_code 0 = .ok (.aload_n 0, 1) := by decide +kernel
theorem d22_1 : decode prog_7_method_2_code 1 = .ok (.getfield 36, 3) := by decide +kernel
theorem d22_4 : decode prog_7_method_2_code 4 = .ok (.ifnonnull 7, 3) := by decide +kernel
theorem d22_7 : decode prog_7_method_2_code 7 = .ok (.aconst_null, 1) := by decide +kernel
theorem d22_8 : decode prog_7_method_2_code 8 = .ok (.goto 9, 3) := by decide +kernel
theorem d22_11 : decode prog_7_method_2_code 11 = .ok (.aload_n 0, 1) := by decide +kernel
theorem d22_12 : decode prog_7_method_2_code 12 = .ok (.getfield 36, 3) := by decide +kernel
theorem d22_15 : decode prog_7_method_2_code 15 = .ok (.iload_n 1, 1) := by decide +kernel
theorem d22_16 : decode prog_7_method_2_code 16 = .ok (.aaload, 1) := by decide +kernel
theorem d22_17 : decode prog_7_method_2_code 17 = .ok (.areturn, 1) := by decide +kernel
theorem pn22 : plainFor (⟨"com/example/parallel_el/parallelel/reasoning/Context", "predecessors", "(I)Lcom/example/parallel_el/parallelel/util/IntSet;"⟩ : MethodName) = true := plainFor_of_name (show plainName "com/example/parallel_el/parallelel/reasoning/Context" = true by first | (simp [plainName, overriddenIn]; done) | decide +kernel)
theorem pd22 : parseMethodDescriptor "(I)Lcom/example/parallel_el/parallelel/util/IntSet;" = some ⟨[.int], (some (.object "com/example/parallel_el/parallelel/util/IntSet"))⟩ := by decide +kernel
theorem d23_0 : decode prog_7_method_3_code 0 = .ok (.aload_n 0, 1) := by decide +kernel
theorem d23_1 : decode prog_7_method_3_code 1 = .ok (.getfield 40, 3) := by decide +kernel
theorem d23_4 : decode prog_7_method_3_code 4 = .ok (.ifnonnull 7, 3) := by decide +kernel
theorem d23_7 : decode prog_7_method_3_code 7 = .ok (.aconst_null, 1) := by decide +kernel
theorem d23_8 : decode prog_7_method_3_code 8 = .ok (.goto 9, 3) := by decide +kernel
theorem d23_11 : decode prog_7_method_3_code 11 = .ok (.aload_n 0, 1) := by decide +kernel
theorem d23_12 : decode prog_7_method_3_code 12 = .ok (.getfield 40, 3) := by decide +kernel
theorem d23_15 : decode prog_7_method_3_code 15 = .ok (.iload_n 1, 1) := by decide +kernel
theorem d23_16 : decode prog_7_method_3_code 16 = .ok (.aaload, 1) := by decide +kernel
theorem d23_17 : decode prog_7_method_3_code 17 = .ok (.areturn, 1) := by decide +kernel
theorem pn23 : plainFor (⟨"com/example/parallel_el/parallelel/reasoning/Context", "successors", "(I)Lcom/example/parallel_el/parallelel/util/IntSet;"⟩ : MethodName) = true := plainFor_of_name (show plainName "com/example/parallel_el/parallelel/reasoning/Context" = true by first | (simp [plainName, overriddenIn]; done) | decide +kernel)
theorem pd23 : parseMethodDescriptor "(I)Lcom/example/parallel_el/parallelel/util/IntSet;" = some ⟨[.int], (some (.object "com/example/parallel_el/parallelel/util/IntSet"))⟩ := by decide +kernel
theorem d24_0 : decode prog_7_method_4_code 0 = .ok (.aload_n 0, 1) := by decide +kernel
theorem d24_1 : decode prog_7_method_4_code 1 = .ok (.getfield 10, 3) := by decide +kernel
theorem d24_4 : decode prog_7_method_4_code 4 = .ok (.iload_n 1, 1) := by decide +kernel
theorem d24_5 : decode prog_7_method_4_code 5 = .ok (.invokevirtual 43, 3) := by decide +kernel
theorem d24_8 : decode prog_7_method_4_code 8 = .ok (.ifCond .ne 5, 3) := by decide +kernel
theorem d24_13 : decode prog_7_method_4_code 13 = .ok (.aload_n 0, 1) := by decide +kernel
theorem d24_14 : decode prog_7_method_4_code 14 = .ok (.getfield 19, 3) := by decide +kernel
theorem d24_17 : decode prog_7_method_4_code 17 = .ok (.iload_n 1, 1) := by decide +kernel
theorem d24_18 : decode prog_7_method_4_code 18 = .ok (.invokevirtual 47, 3) := by decide +kernel
theorem d24_21 : decode prog_7_method_4_code 21 = .ok (.iconst 1, 1) := by decide +kernel
theorem d24_22 : decode prog_7_method_4_code 22 = .ok (.ireturn, 1) := by decide +kernel
theorem pn24 : plainFor (⟨"com/example/parallel_el/parallelel/reasoning/Context", "addSubsumer", "(I)Z"⟩ : MethodName) = true := plainFor_of_name (show plainName "com/example/parallel_el/parallelel/reasoning/Context" = true by first | (simp [plainName, overriddenIn]; done) | decide +kernel)
theorem pd24 : parseMethodDescriptor "(I)Z" = some ⟨[.int], (some .boolean)⟩ := by decide +kernel
theorem d25_0 : decode prog_7_method_6_code 0 = .ok (.aload_n 0, 1) := by decide +kernel
theorem d25_1 : decode prog_7_method_6_code 1 = .ok (.getfield 40, 3) := by decide +kernel
theorem d25_4 : decode prog_7_method_6_code 4 = .ok (.ifnonnull 14, 3) := by decide +kernel
theorem d25_7 : decode prog_7_method_6_code 7 = .ok (.aload_n 0, 1) := by decide +kernel
theorem d25_8 : decode prog_7_method_6_code 8 = .ok (.aload_n 0, 1) := by decide +kernel
theorem d25_9 : decode prog_7_method_6_code 9 = .ok (.getfield 33, 3) := by decide +kernel
theorem d25_12 : decode prog_7_method_6_code 12 = .ok (.anewarray 7, 3) := by decide +kernel
theorem d25_15 : decode prog_7_method_6_code 15 = .ok (.putfield 40, 3) := by decide +kernel
theorem d25_18 : decode prog_7_method_6_code 18 = .ok (.aload_n 0, 1) := by decide +kernel
theorem d25_19 : decode prog_7_method_6_code 19 = .ok (.getfield 40, 3) := by decide +kernel
theorem d25_22 : decode prog_7_method_6_code 22 = .ok (.aload_n 0, 1) := by decide +kernel
theorem d25_23 : decode prog_7_method_6_code 23 = .ok (.getfield 26, 3) := by decide +kernel
theorem d25_26 : decode prog_7_method_6_code 26 = .ok (.iload_n 1, 1) := by decide +kernel
theorem d25_27 : decode prog_7_method_6_code 27 = .ok (.iload_n 2, 1) := by decide +kernel
theorem d25_28 : decode prog_7_method_6_code 28 = .ok (.invokestatic 50, 3) := by decide +kernel
theorem d25_31 : decode prog_7_method_6_code 31 = .ok (.ireturn, 1) := by decide +kernel
theorem pn25 : plainFor (⟨"com/example/parallel_el/parallelel/reasoning/Context", "addSuccessor", "(II)Z"⟩ : MethodName) = true := plainFor_of_name (show plainName "com/example/parallel_el/parallelel/reasoning/Context" = true by first | (simp [plainName, overriddenIn]; done) | decide +kernel)
theorem pd25 : parseMethodDescriptor "(II)Z" = some ⟨[.int, .int], (some .boolean)⟩ := by decide +kernel
def Facts (Z : State) (a_NONE : Addr) (k_NONE : ClassId) (vs_NONE : List Value) : Prop := (Sta Z Z.heap "com/example/parallel_el/parallelel/util/IntList" "NONE" "[I" (.ref a_NONE)) ∧ (Ar Z Z.heap a_NONE .int k_NONE vs_NONE) ∧ (Exa Z Z.heap a_NONE "[I") ∧ (vs_NONE.length = 0)
theorem Facts.S_NONE {Z : State} {a_NONE : Addr} {k_NONE : ClassId} {vs_NONE : List Value} (F : Facts Z a_NONE k_NONE vs_NONE) : Sta Z Z.heap "com/example/parallel_el/parallelel/util/IntList" "NONE" "[I" (.ref a_NONE) := F.1
theorem Facts.A_NONE {Z : State} {a_NONE : Addr} {k_NONE : ClassId} {vs_NONE : List Value} (F : Facts Z a_NONE k_NONE vs_NONE) : Ar Z Z.heap a_NONE .int k_NONE vs_NONE := F.2.1
theorem Facts.E_NONE {Z : State} {a_NONE : Addr} {k_NONE : ClassId} {vs_NONE : List Value} (F : Facts Z a_NONE k_NONE vs_NONE) : Exa Z Z.heap a_NONE "[I" := F.2.2.1
theorem Facts.N_NONE {Z : State} {a_NONE : Addr} {k_NONE : ClassId} {vs_NONE : List Value} (F : Facts Z a_NONE k_NONE vs_NONE) : vs_NONE.length = 0 := F.2.2.2
abbrev ISN : String := "com/example/parallel_el/parallelel/util/IntSet"
abbrev ILN : String := "com/example/parallel_el/parallelel/util/IntList"
abbrev CXN : String := "com/example/parallel_el/parallelel/reasoning/Context"
theorem pTi : parseFieldDescriptor "[I" = some (.array .int) := by decide +kernel
theorem pTn : parseFieldDescriptor "I" = some .int := by decide +kernel
def L4 (g : Nat → Int32) : List Value := [.int (g 0), .int (g 1), .int (g 2), .int (g 3)]
def up (g : Nat → Int32) (j : Nat) (v : Int32) : Nat → Int32 := fun i => if i = j then v else g i
theorem L4_get (g : Nat → Int32) {j : Nat} (hj : j < 4) : (L4 g)[j]? = some (.int (g j)) := by
  match j, hj with
  | 0, _ => rfl
  | 1, _ => rfl
  | 2, _ => rfl
  | 3, _ => rfl
theorem L4_set (g : Nat → Int32) {j : Nat} (hj : j < 4) (v : Int32) : (L4 g).set j (.int v) = L4 (up g j v) := by
  match j, hj with
  | 0, _ => rfl
  | 1, _ => rfl
  | 2, _ => rfl
  | 3, _ => rfl
theorem L4_len (g : Nat → Int32) : (L4 g).length = 4 := rfl
/-- an IntSet of four slots -/
def IS (Z : State) (h : Heap) (n0 : Nat) (s ar : Addr) (z : Int32) (g : Nat → Int32) : Prop :=
  (Exa Z h s ISN ∧ n0 ≤ s ∧ n0 ≤ ar) ∧ Fld Z h s ISN "slots" "[I" (.ref ar) ∧ Fld Z h s ISN "size" "I" (.int z) ∧ ∃ kA, Ar Z h ar .int kA (L4 g)
theorem IS.ext {Z : State} {h h' : Heap} {n0 : Nat} {s ar : Addr} {z : Int32} {g : Nat → Int32} (S : IS Z h n0 s ar z g) (E : Ext h h') : IS Z h' n0 s ar z g := by
  obtain ⟨⟨e, n⟩, f1, f2, kA, A⟩ := S
  exact ⟨⟨e.ext E, n⟩, f1.ext E, f2.ext E, kA, A.ext E⟩
theorem IS.keep {Z : State} {h h' : Heap} {n0 : Nat} {s ar : Addr} {z : Int32} {g : Nat → Int32} {ws : List Addr} (S : IS Z h n0 s ar z g) (K : Keep h h' ws) (q1 : s ∉ ws) (q2 : ar ∉ ws) : IS Z h' n0 s ar z g := by
  obtain ⟨⟨e, n⟩, f1, f2, kA, A⟩ := S
  exact ⟨⟨e.keep K, n⟩, f1.keep K q1, f2.keep K q1, kA, A.keep K q2⟩
theorem IS.lt {Z : State} {h : Heap} {n0 : Nat} {s ar : Addr} {z : Int32} {g : Nat → Int32} (S : IS Z h n0 s ar z g) : s < h.size ∧ ar < h.size := by
  obtain ⟨⟨e, n⟩, f1, f2, kA, A⟩ := S
  exact ⟨e.lt, A.lt⟩
def R4 (v : Int32) : Prop := ¬ v < 0 ∧ v.toNatClampNeg < 4
theorem r4_and (v : Int32) : R4 (v &&& ((4 : Int32) - (1 : Int32))) := by
  have e := c_mask v 3 2 (by decide) (by decide)
  have q : (4 : Int32) - (1 : Int32) = 3 := by decide
  rw [q]
  refine ⟨nonneg_iff.mpr (by omega), ?_⟩
  show (v &&& 3).toInt.toNat < 4
  omega
/-- the probe stops here -/
abbrev stp (g : Nat → Int32) (u i : Int32) : Prop := g i.toNatClampNeg = (-1) ∨ g i.toNatClampNeg = u
def nx (i : Int32) : Int32 := ((i + (1 : Int32)) &&& ((4 : Int32) - (1 : Int32)))
theorem ext_of_keep {h h' : Heap} (K : Keep h h' []) : Ext h h' := ⟨K.1, fun a c q => K.2.1 a c q (by simp)⟩
/-- an IntList: none yet, or eight places -/
def IL (Z : State) (h : Heap) (n0 : Nat) (aN q va : Addr) (z : Int32) : Prop :=
  (Exa Z h q ILN ∧ n0 ≤ q) ∧ Fld Z h q ILN "values" "[I" (.ref va) ∧ Fld Z h q ILN "size" "I" (.int z) ∧ ((va = aN ∧ z = 0) ∨ (n0 ≤ va ∧ (∃ kA ws, Ar Z h va .int kA ws ∧ ws.length = 8) ∧ ¬ z < 0 ∧ z.toNatClampNeg ≤ 8))
theorem IL.ext {Z : State} {h h' : Heap} {n0 : Nat} {aN q va : Addr} {z : Int32} (S : IL Z h n0 aN q va z) (E : Ext h h') : IL Z h' n0 aN q va z := by
  obtain ⟨⟨e, n⟩, f1, f2, d⟩ := S
  exact ⟨⟨e.ext E, n⟩, f1.ext E, f2.ext E, d.imp id fun ⟨r, ⟨kA, ws, A, w⟩, t⟩ => ⟨r, ⟨kA, ws, A.ext E, w⟩, t⟩⟩
theorem IL.keep {Z : State} {h h' : Heap} {n0 : Nat} {aN q va : Addr} {z : Int32} {ws : List Addr} (S : IL Z h n0 aN q va z) (K : Keep h h' ws) (q1 : q ∉ ws) (q2 : n0 ≤ va → va ∉ ws) : IL Z h' n0 aN q va z := by
  obtain ⟨⟨e, n⟩, f1, f2, d⟩ := S
  exact ⟨⟨e.keep K, n⟩, f1.keep K q1, f2.keep K q1, d.imp id fun ⟨r, ⟨kA, vs, A, w⟩, t⟩ => ⟨r, ⟨kA, vs, A.keep K (q2 r), w⟩, t⟩⟩

set_option maxRecDepth 65536 in
set_option maxHeartbeats 40000000 in
theorem fill4 (l : Launch) (Z : State) (a0 : Array Value) (hw : Hw a0 Z) (n0 : Nat) (h : Heap) (a : Addr) (kA : ClassId) (na : n0 ≤ a) (A : Ar Z h a .int kA [(.int (-1)), (.int (-1)), (.int (-1)), (.int (-1))]) {Q : Option Value → Heap → Prop} (hQ : ∀ h', Keep h h' [a] → Ar Z h' a .int kA [(.int (-1)), (.int (-1)), (.int (-1)), (.int (-1))] → Q none h') :
    Go l Z (⟨"java/util/Arrays", "fill", "([II)V"⟩ : MethodName) jdk_65_method_103_code 4 none ({ frames := 0, cells := 0, slots := 0, locals := 0 } : Room) n0 Q h 0 0 5 #[.val (.ref a), .val (.int (-1 : Int32)), .val (.int (4 : Int32)), .val (.int (4 : Int32))] [] := by
  refine Go.iloadN d5_5 (q := 6) rfl rfl ?_
  refine Go.iloadN d5_6 (q := 7) rfl rfl ?_
  refine Go.icmp_ge d5_7 (q := 20) (q' := 10) (by decide) rfl rfl (fun _ => ?_) (fun c_ => absurd c_ (by decide))
  refine Go.vreturn d5_20 (by decide) (by decide) ?_
  exact hQ h (Keep.refl h _) A
set_option maxRecDepth 65536 in
set_option maxHeartbeats 40000000 in
theorem fill3 (l : Launch) (Z : State) (a0 : Array Value) (hw : Hw a0 Z) (n0 : Nat) (h : Heap) (a : Addr) (kA : ClassId) (na : n0 ≤ a) (A : Ar Z h a .int kA [(.int (-1)), (.int (-1)), (.int (-1)), (.int 0)]) {Q : Option Value → Heap → Prop} (hQ : ∀ h', Keep h h' [a] → Ar Z h' a .int kA [(.int (-1)), (.int (-1)), (.int (-1)), (.int (-1))] → Q none h') :
    Go l Z (⟨"java/util/Arrays", "fill", "([II)V"⟩ : MethodName) jdk_65_method_103_code 4 none ({ frames := 0, cells := 0, slots := 0, locals := 0 } : Room) n0 Q h 0 0 5 #[.val (.ref a), .val (.int (-1 : Int32)), .val (.int (3 : Int32)), .val (.int (4 : Int32))] [] := by
  refine Go.iloadN d5_5 (q := 6) rfl rfl ?_
  refine Go.iloadN d5_6 (q := 7) rfl rfl ?_
  refine Go.icmp_ge d5_7 (q := 20) (q' := 10) (by decide) rfl rfl (fun c_ => absurd (by decide) c_) (fun _ => ?_)
  refine Go.aloadN d5_10 (q := 11) rfl rfl rfl ?_
  refine Go.iloadN d5_11 (q := 12) rfl rfl ?_
  refine Go.iloadN d5_12 (q := 13) rfl rfl ?_
  refine Go.iastore d5_13 (q := 14) rfl A (by decide) (by decide) na ?_
  intro h1 W1
  have A1 : Ar Z h1 a .int kA [(.int (-1)), (.int (-1)), (.int (-1)), (.int (-1))] := A.set W1
  refine Go.iinc d5_14 (q := 17) rfl rfl (w := ((3 : Int32) + (1 : Int32))) rfl (Ls' := #[.val (.ref a), .val (.int (-1 : Int32)), .val (.int ((3 : Int32) + (1 : Int32))), .val (.int (4 : Int32))]) rfl ?_
  refine Go.goto d5_17 (q := 5) (by decide) rfl ?_
  exact fill4 l Z a0 hw n0 h1 a kA na A1 (fun h' K q => hQ h' ((Keep.of_wr W1).trans K (fun y hy => Or.inl hy)) q)
set_option maxRecDepth 65536 in
set_option maxHeartbeats 40000000 in
theorem fill2 (l : Launch) (Z : State) (a0 : Array Value) (hw : Hw a0 Z) (n0 : Nat) (h : Heap) (a : Addr) (kA : ClassId) (na : n0 ≤ a) (A : Ar Z h a .int kA [(.int (-1)), (.int (-1)), (.int 0), (.int 0)]) {Q : Option Value → Heap → Prop} (hQ : ∀ h', Keep h h' [a] → Ar Z h' a .int kA [(.int (-1)), (.int (-1)), (.int (-1)), (.int (-1))] → Q none h') :
    Go l Z (⟨"java/util/Arrays", "fill", "([II)V"⟩ : MethodName) jdk_65_method_103_code 4 none ({ frames := 0, cells := 0, slots := 0, locals := 0 } : Room) n0 Q h 0 0 5 #[.val (.ref a), .val (.int (-1 : Int32)), .val (.int (2 : Int32)), .val (.int (4 : Int32))] [] := by
  refine Go.iloadN d5_5 (q := 6) rfl rfl ?_
  refine Go.iloadN d5_6 (q := 7) rfl rfl ?_
  refine Go.icmp_ge d5_7 (q := 20) (q' := 10) (by decide) rfl rfl (fun c_ => absurd (by decide) c_) (fun _ => ?_)
  refine Go.aloadN d5_10 (q := 11) rfl rfl rfl ?_
  refine Go.iloadN d5_11 (q := 12) rfl rfl ?_
  refine Go.iloadN d5_12 (q := 13) rfl rfl ?_
  refine Go.iastore d5_13 (q := 14) rfl A (by decide) (by decide) na ?_
  intro h1 W1
  have A1 : Ar Z h1 a .int kA [(.int (-1)), (.int (-1)), (.int (-1)), (.int 0)] := A.set W1
  refine Go.iinc d5_14 (q := 17) rfl rfl (w := ((2 : Int32) + (1 : Int32))) rfl (Ls' := #[.val (.ref a), .val (.int (-1 : Int32)), .val (.int ((2 : Int32) + (1 : Int32))), .val (.int (4 : Int32))]) rfl ?_
  refine Go.goto d5_17 (q := 5) (by decide) rfl ?_
  exact fill3 l Z a0 hw n0 h1 a kA na A1 (fun h' K q => hQ h' ((Keep.of_wr W1).trans K (fun y hy => Or.inl hy)) q)
set_option maxRecDepth 65536 in
set_option maxHeartbeats 40000000 in
theorem fill1 (l : Launch) (Z : State) (a0 : Array Value) (hw : Hw a0 Z) (n0 : Nat) (h : Heap) (a : Addr) (kA : ClassId) (na : n0 ≤ a) (A : Ar Z h a .int kA [(.int (-1)), (.int 0), (.int 0), (.int 0)]) {Q : Option Value → Heap → Prop} (hQ : ∀ h', Keep h h' [a] → Ar Z h' a .int kA [(.int (-1)), (.int (-1)), (.int (-1)), (.int (-1))] → Q none h') :
    Go l Z (⟨"java/util/Arrays", "fill", "([II)V"⟩ : MethodName) jdk_65_method_103_code 4 none ({ frames := 0, cells := 0, slots := 0, locals := 0 } : Room) n0 Q h 0 0 5 #[.val (.ref a), .val (.int (-1 : Int32)), .val (.int (1 : Int32)), .val (.int (4 : Int32))] [] := by
  refine Go.iloadN d5_5 (q := 6) rfl rfl ?_
  refine Go.iloadN d5_6 (q := 7) rfl rfl ?_
  refine Go.icmp_ge d5_7 (q := 20) (q' := 10) (by decide) rfl rfl (fun c_ => absurd (by decide) c_) (fun _ => ?_)
  refine Go.aloadN d5_10 (q := 11) rfl rfl rfl ?_
  refine Go.iloadN d5_11 (q := 12) rfl rfl ?_
  refine Go.iloadN d5_12 (q := 13) rfl rfl ?_
  refine Go.iastore d5_13 (q := 14) rfl A (by decide) (by decide) na ?_
  intro h1 W1
  have A1 : Ar Z h1 a .int kA [(.int (-1)), (.int (-1)), (.int 0), (.int 0)] := A.set W1
  refine Go.iinc d5_14 (q := 17) rfl rfl (w := ((1 : Int32) + (1 : Int32))) rfl (Ls' := #[.val (.ref a), .val (.int (-1 : Int32)), .val (.int ((1 : Int32) + (1 : Int32))), .val (.int (4 : Int32))]) rfl ?_
  refine Go.goto d5_17 (q := 5) (by decide) rfl ?_
  exact fill2 l Z a0 hw n0 h1 a kA na A1 (fun h' K q => hQ h' ((Keep.of_wr W1).trans K (fun y hy => Or.inl hy)) q)
set_option maxRecDepth 65536 in
set_option maxHeartbeats 40000000 in
theorem fill0 (l : Launch) (Z : State) (a0 : Array Value) (hw : Hw a0 Z) (n0 : Nat) (h : Heap) (a : Addr) (kA : ClassId) (na : n0 ≤ a) (A : Ar Z h a .int kA [(.int 0), (.int 0), (.int 0), (.int 0)]) {Q : Option Value → Heap → Prop} (hQ : ∀ h', Keep h h' [a] → Ar Z h' a .int kA [(.int (-1)), (.int (-1)), (.int (-1)), (.int (-1))] → Q none h') :
    Go l Z (⟨"java/util/Arrays", "fill", "([II)V"⟩ : MethodName) jdk_65_method_103_code 4 none ({ frames := 0, cells := 0, slots := 0, locals := 0 } : Room) n0 Q h 0 0 5 #[.val (.ref a), .val (.int (-1 : Int32)), .val (.int (0 : Int32)), .val (.int (4 : Int32))] [] := by
  refine Go.iloadN d5_5 (q := 6) rfl rfl ?_
  refine Go.iloadN d5_6 (q := 7) rfl rfl ?_
  refine Go.icmp_ge d5_7 (q := 20) (q' := 10) (by decide) rfl rfl (fun c_ => absurd (by decide) c_) (fun _ => ?_)
  refine Go.aloadN d5_10 (q := 11) rfl rfl rfl ?_
  refine Go.iloadN d5_11 (q := 12) rfl rfl ?_
  refine Go.iloadN d5_12 (q := 13) rfl rfl ?_
  refine Go.iastore d5_13 (q := 14) rfl A (by decide) (by decide) na ?_
  intro h1 W1
  have A1 : Ar Z h1 a .int kA [(.int (-1)), (.int 0), (.int 0), (.int 0)] := A.set W1
  refine Go.iinc d5_14 (q := 17) rfl rfl (w := ((0 : Int32) + (1 : Int32))) rfl (Ls' := #[.val (.ref a), .val (.int (-1 : Int32)), .val (.int ((0 : Int32) + (1 : Int32))), .val (.int (4 : Int32))]) rfl ?_
  refine Go.goto d5_17 (q := 5) (by decide) rfl ?_
  exact fill1 l Z a0 hw n0 h1 a kA na A1 (fun h' K q => hQ h' ((Keep.of_wr W1).trans K (fun y hy => Or.inl hy)) q)
set_option maxRecDepth 65536 in
set_option maxHeartbeats 40000000 in
theorem fill (l : Launch) (Z : State) (a0 : Array Value) (hw : Hw a0 Z) (n0 : Nat) (h : Heap) (a : Addr) (kA : ClassId) (na : n0 ≤ a) (A : Ar Z h a .int kA [(.int 0), (.int 0), (.int 0), (.int 0)]) {Q : Option Value → Heap → Prop} (hQ : ∀ h', Keep h h' [a] → Ar Z h' a .int kA [(.int (-1)), (.int (-1)), (.int (-1)), (.int (-1))] → Q none h') :
    Go l Z (⟨"java/util/Arrays", "fill", "([II)V"⟩ : MethodName) jdk_65_method_103_code 4 none ({ frames := 0, cells := 0, slots := 0, locals := 0 } : Room) n0 Q h 0 0 0 #[.val (.ref a), .val (.int (-1 : Int32)), .unset, .unset] [] := by
  refine Go.iconst d5_0 (q := 1) rfl (x := (0 : Int32)) (by decide) ?_
  refine Go.istoreN d5_1 (q := 2) rfl (Ls' := #[.val (.ref a), .val (.int (-1 : Int32)), .val (.int (0 : Int32)), .unset]) rfl ?_
  refine Go.aloadN d5_2 (q := 3) rfl rfl rfl ?_
  refine Go.arraylength d5_3 (q := 4) rfl A (z := 4) rfl ?_
  refine Go.istoreN d5_4 (q := 5) rfl (Ls' := #[.val (.ref a), .val (.int (-1 : Int32)), .val (.int (0 : Int32)), .val (.int (4 : Int32))]) rfl ?_
  exact fill0 l Z a0 hw n0 h a kA na A hQ
set_option maxRecDepth 65536 in
set_option maxHeartbeats 40000000 in
theorem newSlots (l : Launch) (Z : State) (a0 : Array Value) (hw : Hw a0 Z) (n0 : Nat) (h : Heap) (O : Old Z n0 h) {Q : Option Value → Heap → Prop} (hQ : ∀ h' a kA, a = h.size → Ext h h' → Ar Z h' a .int kA (L4 fun _ => -1) → Q (some (.ref a)) h') :
    Go l Z (⟨"com/example/parallel_el/parallelel/util/IntSet", "newSlots", "(I)[I"⟩ : MethodName) prog_26_method_9_code 2 (some (.array .int)) ({ frames := 1, cells := 1, slots := 4, locals := 20 } : Room) n0 Q h 0 0 0 #[.val (.int (4 : Int32)), .unset] [] := by
  refine Go.iloadN d4_0 (q := 1) rfl rfl ?_
  refine Go.newarray (cap := 4) d4_1 (q := 3) rfl (w20 hw) (by decide) (by decide) (by decide) (by decide) (by decide) ?_
  intro h1 a kA e1 X1 A1
  have na : n0 ≤ a := new_le (O.1 ▸ O.2.1) e1
  refine Go.astoreN d4_3 (q := 4) rfl rfl (Ls' := #[.val (.int (4 : Int32)), .val (.ref a)]) rfl ?_
  refine Go.aloadN d4_4 (q := 5) rfl rfl rfl ?_
  refine Go.iconst d4_5 (q := 6) rfl (x := ((-1) : Int32)) (by decide) ?_
  refine Go.callSN (P := fun h' => Keep h1 h' [a] ∧ Ar Z h' a .int kA (L4 fun _ => -1)) (argsL := [(.ref a), (.int (-1 : Int32))]) (rest := []) (wd := 0) (Ls1 := #[.val (.ref a), .val (.int (-1 : Int32)), .unset, .unset]) d4_6 (q := 9) rfl (w21 hw) (w22 hw) (w23 hw) (w24 hw) (by decide) pn5 pd5 rfl rfl (fun m_ => by simp [entryFrame, mkF, argsToLocals, Value.category]) rfl (by decide) rfl (by decide) (by decide) (by decide) (fill l Z a0 hw n0 h1 a kA na A1 (Q := RN (fun h' => Keep h1 h' [a] ∧ Ar Z h' a .int kA (L4 fun _ => -1))) (fun h' q1 q2 => ⟨rfl, q1, q2⟩)) ?_
  rintro h2 ⟨K2, A2⟩
  refine Go.aloadN d4_9 (q := 10) rfl rfl rfl ?_
  refine Go.areturn d4_10 (by decide) (by decide) rfl rfl ?_
  exact hQ h2 a kA e1 (ext_of_keep (((Keep.refl h []).ext X1).trans K2 (fun y hy => by cases List.mem_singleton.mp hy; exact Or.inr (Nat.le_of_eq e1.symm)))) A2
set_option maxRecDepth 65536 in
set_option maxHeartbeats 40000000 in
theorem is_init (l : Launch) (Z : State) (a0 : Array Value) (hw : Hw a0 Z) (n0 : Nat) (h : Heap) (O : Old Z n0 h) (s : Addr) (ns : n0 ≤ s) (E : Exa Z h s ISN) (F1 : Fld Z h s ISN "slots" "[I" .null) (F2 : Fld Z h s ISN "size" "I" (.int 0)) {Q : Option Value → Heap → Prop} (hQ : ∀ h' ar, h.size ≤ ar → Keep h h' [s] → Old Z n0 h' → IS Z h' n0 s ar 0 (fun _ => -1) → Q none h') :
    Go l Z (⟨"com/example/parallel_el/parallelel/util/IntSet", "<init>", "()V"⟩ : MethodName) prog_26_method_1_code 1 none ({ frames := 2, cells := 1, slots := 4, locals := 40 } : Room) n0 Q h 0 0 0 #[.val (.ref s)] [] := by
  refine Go.aloadN d3_0 (q := 1) rfl rfl rfl ?_
  refine Go.initObj d3_1 (q := 4) rfl (w16 hw) (w8 hw) (w9 hw) rfl (by decide) rfl (by decide) ?_
  refine Go.aloadN d3_4 (q := 5) rfl rfl rfl ?_
  refine Go.iconst d3_5 (q := 6) rfl (x := (4 : Int32)) (by decide) ?_
  refine Go.callSV (P := fun w h' => ∃ a kA, w = .ref a ∧ a = h.size ∧ Ext h h' ∧ Ar Z h' a .int kA (L4 fun _ => -1)) (argsL := [(.int (4 : Int32))]) (rest := [(.ref s)]) (wd := 1) (Ls1 := #[.val (.int (4 : Int32)), .unset]) d3_6 (q := 9) rfl (w17 hw) (w18 hw) (w12 hw) (w19 hw) (by decide) pn4 pd4 rfl rfl (fun m_ => by simp [entryFrame, mkF, argsToLocals, Value.category]) rfl (by decide) rfl (by decide) (by decide) (by decide) (newSlots l Z a0 hw n0 h O (Q := RV (fun w h' => ∃ a kA, w = .ref a ∧ a = h.size ∧ Ext h h' ∧ Ar Z h' a .int kA (L4 fun _ => -1))) (fun h' a kA q1 q2 q3 => ⟨_, rfl, a, kA, rfl, q1, q2, q3⟩)) ?_
  rintro _ h1 ⟨ar, kA, rfl, e1, X1, A1⟩
  refine Go.putF d3_9 (q := 12) rfl (host := "") (Or.inl (w25 hw)) Via.refl (F1.ext X1) (E.ext X1) (Or.inl (w26 hw)) (w11 hw) pTi rfl rfl ns ?_
  intro h2 W2
  refine Go.vreturn d3_12 (by decide) (by decide) ?_
  have nar : n0 ≤ ar := new_le (O.1 ▸ O.2.1) e1
  exact hQ h2 ar (Nat.le_of_eq e1.symm) (((Keep.refl h [s]).ext X1).wr W2 (Or.inl (by simp))) ((O.ext X1).wr W2 ns) ⟨⟨(E.ext X1).wr W2, ns, nar⟩, (F1.ext X1).same W2, (F2.ext X1).nxt W2 (Or.inl (w68 hw)) (Or.inl (w26 hw)) (by decide) pTn pTi, kA, A1.other W2 (Ne.symm (new_ne E.lt e1))⟩
def hashF (u : Int32) : Int32 :=
  ((u * (-1640531527 : Int32)) ^^^ (XT.ushr (u * (-1640531527 : Int32)) (16 : Int32)))
set_option maxRecDepth 65536 in
set_option maxHeartbeats 40000000 in
theorem b11 (l : Launch) (Z : State) (a0 : Array Value) (hw : Hw a0 Z) (n0 : Nat) (h : Heap) (u : Int32) {Q : Option Value → Heap → Prop} (hQ : Q (some (.int (hashF u))) h) :
    Go l Z (⟨"com/example/parallel_el/parallelel/util/IntSet", "hash", "(I)I"⟩ : MethodName) prog_26_method_10_code 2 (some .int) ({ frames := 0, cells := 0, slots := 0, locals := 0 } : Room) n0 Q h 0 0 0 #[.val (.int u), .unset] [] := by
  refine Go.iloadN d11_0 (q := 1) rfl rfl ?_
  refine Go.ldc d11_1 (q := 3) rfl (v := (-1640531527 : Int32)) (w76 hw) ?_
  refine Go.imul d11_3 (q := 4) rfl ?_
  refine Go.istoreN d11_4 (q := 5) rfl (Ls' := #[.val (.int u), .val (.int (u * (-1640531527 : Int32)))]) rfl ?_
  refine Go.iloadN d11_5 (q := 6) rfl rfl ?_
  refine Go.iloadN d11_6 (q := 7) rfl rfl ?_
  refine Go.bipush d11_7 (q := 9) rfl (x := (16 : Int32)) (by decide) ?_
  refine Go.iushr d11_9 (q := 10) rfl ?_
  refine Go.ixor d11_10 (q := 11) rfl ?_
  refine Go.ireturn d11_11 (by decide) (by decide) ?_
  unfold hashF at hQ
  exact hQ
def i0 (u : Int32) : Int32 := (hashF u &&& ((4 : Int32) - (1 : Int32)))
def slotF (g : Nat → Int32) (u : Int32) : Int32 := if stp g u (i0 u) then i0 u else if stp g u (nx (i0 u)) then nx (i0 u) else nx (nx (i0 u))
theorem slotF_r4 (g : Nat → Int32) (u : Int32) : R4 (slotF g u) := by
  unfold slotF
  split
  · exact r4_and _
  · split
    · exact r4_and _
    · exact r4_and _
/-- the probe of u comes to its end -/
def fin3 (g : Nat → Int32) (u : Int32) : Prop := ¬ stp g u (i0 u) → ¬ stp g u (nx (i0 u)) → stp g u (nx (nx (i0 u)))
set_option maxRecDepth 65536 in
set_option maxHeartbeats 40000000 in
theorem probe (l : Launch) (Z : State) (a0 : Array Value) (hw : Hw a0 Z) (n0 : Nat) (h : Heap) (s ar : Addr) (z : Int32) (g : Nat → Int32) (S : IS Z h n0 s ar z g) (u : Int32) (i : Int32) (r : R4 i) {Q : Option Value → Heap → Prop} (D : stp g u i → Q (some (.int i)) h) (K : ¬ stp g u i → Go l Z (⟨"com/example/parallel_el/parallelel/util/IntSet", "slotOf", "(I)I"⟩ : MethodName) prog_26_method_8_code 4 (some .int) ({ frames := 1, cells := 0, slots := 0, locals := 16 } : Room) n0 Q h 0 0 15 #[.val (.ref s), .val (.int u), .val (.int ((4 : Int32) - (1 : Int32))), .val (.int (nx i))] []) :
    Go l Z (⟨"com/example/parallel_el/parallelel/util/IntSet", "slotOf", "(I)I"⟩ : MethodName) prog_26_method_8_code 4 (some .int) ({ frames := 1, cells := 0, slots := 0, locals := 16 } : Room) n0 Q h 0 0 15 #[.val (.ref s), .val (.int u), .val (.int ((4 : Int32) - (1 : Int32))), .val (.int i)] [] := by
  have S' := S
  obtain ⟨-, -, -, kA, Aa⟩ := S'
  refine Go.aloadN d10_15 (q := 16) rfl rfl rfl ?_
  refine Go.getF d10_16 (q := 19) rfl (host := "") (Or.inl (w25 hw)) Via.refl S.2.1 ?_
  refine Go.iloadN d10_19 (q := 20) rfl rfl ?_
  refine Go.iaload d10_20 (q := 21) rfl Aa r.1 (L4_get g r.2) ?_
  refine Go.iconst d10_21 (q := 22) rfl (x := ((-1) : Int32)) (by decide) ?_
  refine Go.icmp_eq d10_22 (q := 44) (q' := 25) (by decide) rfl rfl (fun c6 => ?_) (fun c6 => ?_)
  · skip
    refine Go.iloadN d10_44 (q := 45) rfl rfl ?_
    refine Go.ireturn d10_45 (by decide) (by decide) ?_
    exact D (Or.inl c6)
  · skip
    refine Go.aloadN d10_25 (q := 26) rfl rfl rfl ?_
    refine Go.getF d10_26 (q := 29) rfl (host := "") (Or.inl (w25 hw)) Via.refl S.2.1 ?_
    refine Go.iloadN d10_29 (q := 30) rfl rfl ?_
    refine Go.iaload d10_30 (q := 31) rfl Aa r.1 (L4_get g r.2) ?_
    refine Go.iloadN d10_31 (q := 32) rfl rfl ?_
    refine Go.icmp_eq d10_32 (q := 44) (q' := 35) (by decide) rfl rfl (fun c7 => ?_) (fun c7 => ?_)
    · skip
      refine Go.iloadN d10_44 (q := 45) rfl rfl ?_
      refine Go.ireturn d10_45 (by decide) (by decide) ?_
      exact D (Or.inr c7)
    · skip
      refine Go.iloadN d10_35 (q := 36) rfl rfl ?_
      refine Go.iconst d10_36 (q := 37) rfl (x := (1 : Int32)) (by decide) ?_
      refine Go.iadd d10_37 (q := 38) rfl ?_
      refine Go.iloadN d10_38 (q := 39) rfl rfl ?_
      refine Go.iand d10_39 (q := 40) rfl ?_
      refine Go.istoreN d10_40 (q := 41) rfl (Ls' := #[.val (.ref s), .val (.int u), .val (.int ((4 : Int32) - (1 : Int32))), .val (.int ((i + (1 : Int32)) &&& ((4 : Int32) - (1 : Int32))))]) rfl ?_
      refine Go.goto d10_41 (q := 15) (by decide) rfl ?_
      exact K (fun e => e.elim c6 c7)
set_option maxRecDepth 65536 in
set_option maxHeartbeats 40000000 in
theorem slotOf (l : Launch) (Z : State) (a0 : Array Value) (hw : Hw a0 Z) (n0 : Nat) (h : Heap) (s ar : Addr) (z : Int32) (g : Nat → Int32) (S : IS Z h n0 s ar z g) (u : Int32) (hs : fin3 g u) {Q : Option Value → Heap → Prop} (hQ : Q (some (.int (slotF g u))) h) :
    Go l Z (⟨"com/example/parallel_el/parallelel/util/IntSet", "slotOf", "(I)I"⟩ : MethodName) prog_26_method_8_code 4 (some .int) ({ frames := 1, cells := 0, slots := 0, locals := 16 } : Room) n0 Q h 0 0 0 #[.val (.ref s), .val (.int u), .unset, .unset] [] := by
  have S' := S
  obtain ⟨-, -, -, kA, Aa⟩ := S'
  refine Go.aloadN d10_0 (q := 1) rfl rfl rfl ?_
  refine Go.getF d10_1 (q := 4) rfl (host := "") (Or.inl (w25 hw)) Via.refl S.2.1 ?_
  refine Go.arraylength d10_4 (q := 5) rfl Aa (z := 4) rfl ?_
  refine Go.iconst d10_5 (q := 6) rfl (x := (1 : Int32)) (by decide) ?_
  refine Go.isub d10_6 (q := 7) rfl ?_
  refine Go.istoreN d10_7 (q := 8) rfl (Ls' := #[.val (.ref s), .val (.int u), .val (.int ((4 : Int32) - (1 : Int32))), .unset]) rfl ?_
  refine Go.iloadN d10_8 (q := 9) rfl rfl ?_
  refine Go.callSV (P := fun w h' => w = .int (hashF u) ∧ h = h') (argsL := [(.int u)]) (rest := []) (wd := 0) (Ls1 := #[.val (.int u), .unset]) d10_9 (q := 12) rfl (w73 hw) (w74 hw) (w12 hw) (w75 hw) (by decide) pn11 pd11 rfl rfl (fun m_ => by simp [entryFrame, mkF, argsToLocals, Value.category]) rfl (by decide) rfl (by decide) (by decide) (by decide) (b11 l Z a0 hw n0 h u (Q := RV (fun w h' => w = .int (hashF u) ∧ h = h')) ⟨_, rfl, rfl, rfl⟩) ?_
  rintro _ _ ⟨rfl, rfl⟩
  refine Go.iloadN d10_12 (q := 13) rfl rfl ?_
  refine Go.iand d10_13 (q := 14) rfl ?_
  refine Go.istoreN d10_14 (q := 15) rfl (Ls' := #[.val (.ref s), .val (.int u), .val (.int ((4 : Int32) - (1 : Int32))), .val (.int ((hashF u) &&& ((4 : Int32) - (1 : Int32))))]) rfl ?_
  refine probe l Z a0 hw n0 h s ar z g S u (i0 u) (r4_and _) (fun d => by rw [slotF, if_pos d] at hQ; exact hQ) (fun d => ?_)
  refine probe l Z a0 hw n0 h s ar z g S u (nx (i0 u)) (r4_and _) (fun e => by rw [slotF, if_neg d, if_pos e] at hQ; exact hQ) (fun e => ?_)
  exact probe l Z a0 hw n0 h s ar z g S u (nx (nx (i0 u))) (r4_and _) (fun _ => by rw [slotF, if_neg d, if_neg e] at hQ; exact hQ) (fun e3 => absurd (hs d e) e3)
set_option maxRecDepth 65536 in
set_option maxHeartbeats 40000000 in
theorem contains (l : Launch) (Z : State) (a0 : Array Value) (hw : Hw a0 Z) (n0 : Nat) (h : Heap) (s ar : Addr) (z : Int32) (g : Nat → Int32) (S : IS Z h n0 s ar z g) (u : Int32) (h0 : ¬ u < 0) (hs : fin3 g u) {Q : Option Value → Heap → Prop} (hQ : Q (some (.int (if g (slotF g u).toNatClampNeg = u then 1 else 0))) h) :
    Go l Z (⟨"com/example/parallel_el/parallelel/util/IntSet", "contains", "(I)Z"⟩ : MethodName) prog_26_method_3_code 2 (some .boolean) ({ frames := 2, cells := 0, slots := 0, locals := 34 } : Room) n0 Q h 0 0 0 #[.val (.ref s), .val (.int u)] [] := by
  have S' := S
  obtain ⟨-, -, -, kA, Aa⟩ := S'
  refine Go.iloadN d20_0 (q := 1) rfl rfl ?_
  refine Go.if_lt d20_1 (q := 22) (q' := 4) (by decide) rfl rfl (fun c_ => absurd c_ h0) (fun _ => ?_)
  refine Go.aloadN d20_4 (q := 5) rfl rfl rfl ?_
  refine Go.getF d20_5 (q := 8) rfl (host := "") (Or.inl (w25 hw)) Via.refl S.2.1 ?_
  refine Go.aloadN d20_8 (q := 9) rfl rfl rfl ?_
  refine Go.iloadN d20_9 (q := 10) rfl rfl ?_
  refine Go.callPV (P := fun w h' => w = .int (slotF g u) ∧ h = h') (argsL := [(.int u)]) (rest := [(.ref ar)]) (wd := 1) (Ls1 := #[.val (.ref s), .val (.int u), .unset, .unset]) d20_10 (q := 13) rfl (w69 hw) (w71 hw) (w65 hw) rfl (w70 hw) (w72 hw) (w12 hw) (by decide) pn10 pd10 rfl rfl S.1.1 (fun m_ => by simp [entryFrame, mkF, argsToLocals, Value.category]) rfl (by decide) rfl (by decide) (by decide) (by decide) (slotOf l Z a0 hw n0 h s ar z g S u hs (Q := RV (fun w h' => w = .int (slotF g u) ∧ h = h')) ⟨_, rfl, rfl, rfl⟩) ?_
  rintro _ _ ⟨rfl, rfl⟩
  refine Go.iaload d20_13 (q := 14) rfl Aa (slotF_r4 g u).1 (L4_get g (slotF_r4 g u).2) ?_
  refine Go.iloadN d20_14 (q := 15) rfl rfl ?_
  refine Go.icmp_ne d20_15 (q := 22) (q' := 18) (by decide) rfl rfl (fun c9 => ?_) (fun c9 => ?_)
  · skip
    refine Go.iconst d20_22 (q := 23) rfl (x := (0 : Int32)) (by decide) ?_
    refine Go.zreturn d20_23 (by decide) (by decide) (by decide) ?_
    rw [if_neg c9] at hQ
    exact hQ
  · skip
    refine Go.iconst d20_18 (q := 19) rfl (x := (1 : Int32)) (by decide) ?_
    refine Go.goto d20_19 (q := 23) (by decide) rfl ?_
    refine Go.zreturn d20_23 (by decide) (by decide) (by decide) ?_
    rw [if_pos c9] at hQ
    exact hQ
set_option maxRecDepth 65536 in
set_option maxHeartbeats 40000000 in
theorem is_size (l : Launch) (Z : State) (a0 : Array Value) (hw : Hw a0 Z) (n0 : Nat) (h : Heap) (s ar : Addr) (z : Int32) (g : Nat → Int32) (S : IS Z h n0 s ar z g) {Q : Option Value → Heap → Prop} (hQ : Q (some (.int z)) h) :
    Go l Z (⟨"com/example/parallel_el/parallelel/util/IntSet", "size", "()I"⟩ : MethodName) prog_26_method_4_code 1 (some .int) ({ frames := 0, cells := 0, slots := 0, locals := 0 } : Room) n0 Q h 0 0 0 #[.val (.ref s)] [] := by
  refine Go.aloadN d21_0 (q := 1) rfl rfl rfl ?_
  refine Go.getF d21_1 (q := 4) rfl (host := "") (Or.inl (w67 hw)) Via.refl S.2.2.1 ?_
  refine Go.ireturn d21_4 (by decide) (by decide) ?_
  exact hQ
set_option maxRecDepth 65536 in
set_option maxHeartbeats 40000000 in
theorem is_add (l : Launch) (Z : State) (a0 : Array Value) (hw : Hw a0 Z) (n0 : Nat) (h : Heap) (s ar : Addr) (z : Int32) (g : Nat → Int32) (S : IS Z h n0 s ar z g) (u : Int32) (h0 : ¬ u < 0) (hs : fin3 g u) (hz : ¬ ((3 : Int32) * (4 : Int32)) < ((4 : Int32) * (z + (1 : Int32)))) {Q : Option Value → Heap → Prop} (hQ0 : g (slotF g u).toNatClampNeg = u → Q (some (.int 0)) h) (hQ1 : ¬ g (slotF g u).toNatClampNeg = u → ∀ h', IS Z h' n0 s ar (z + 1) (up g (slotF g u).toNatClampNeg u) → Keep h h' [s, ar] → Q (some (.int 1)) h') :
    Go l Z (⟨"com/example/parallel_el/parallelel/util/IntSet", "add", "(I)Z"⟩ : MethodName) prog_26_method_2_code 3 (some .boolean) ({ frames := 2, cells := 0, slots := 0, locals := 34 } : Room) n0 Q h 0 0 0 #[.val (.ref s), .val (.int u), .unset] [] := by
  have S' := S
  obtain ⟨-, -, -, kA, Aa⟩ := S'
  refine Go.iloadN d9_0 (q := 1) rfl rfl ?_
  refine Go.if_ge d9_1 (q := 18) (q' := 4) (by decide) rfl rfl (fun _ => ?_) (fun c_ => absurd c_ h0)
  refine Go.iconst d9_18 (q := 19) rfl (x := (4 : Int32)) (by decide) ?_
  refine Go.aloadN d9_19 (q := 20) rfl rfl rfl ?_
  refine Go.getF d9_20 (q := 23) rfl (host := "") (Or.inl (w67 hw)) Via.refl S.2.2.1 ?_
  refine Go.iconst d9_23 (q := 24) rfl (x := (1 : Int32)) (by decide) ?_
  refine Go.iadd d9_24 (q := 25) rfl ?_
  refine Go.imul d9_25 (q := 26) rfl ?_
  refine Go.iconst d9_26 (q := 27) rfl (x := (3 : Int32)) (by decide) ?_
  refine Go.aloadN d9_27 (q := 28) rfl rfl rfl ?_
  refine Go.getF d9_28 (q := 31) rfl (host := "") (Or.inl (w25 hw)) Via.refl S.2.1 ?_
  refine Go.arraylength d9_31 (q := 32) rfl Aa (z := 4) rfl ?_
  refine Go.imul d9_32 (q := 33) rfl ?_
  refine Go.icmp_le d9_33 (q := 40) (q' := 36) (by decide) rfl rfl (fun _ => ?_) (fun c_ => absurd c_ hz)
  refine Go.aloadN d9_40 (q := 41) rfl rfl rfl ?_
  refine Go.iloadN d9_41 (q := 42) rfl rfl ?_
  refine Go.callPV (P := fun w h' => w = .int (slotF g u) ∧ h = h') (argsL := [(.int u)]) (rest := []) (wd := 0) (Ls1 := #[.val (.ref s), .val (.int u), .unset, .unset]) d9_42 (q := 45) rfl (w69 hw) (w71 hw) (w65 hw) rfl (w70 hw) (w72 hw) (w12 hw) (by decide) pn10 pd10 rfl rfl S.1.1 (fun m_ => by simp [entryFrame, mkF, argsToLocals, Value.category]) rfl (by decide) rfl (by decide) (by decide) (by decide) (slotOf l Z a0 hw n0 h s ar z g S u hs (Q := RV (fun w h' => w = .int (slotF g u) ∧ h = h')) ⟨_, rfl, rfl, rfl⟩) ?_
  rintro _ _ ⟨rfl, rfl⟩
  refine Go.istoreN d9_45 (q := 46) rfl (Ls' := #[.val (.ref s), .val (.int u), .val (.int (slotF g u))]) rfl ?_
  refine Go.aloadN d9_46 (q := 47) rfl rfl rfl ?_
  refine Go.getF d9_47 (q := 50) rfl (host := "") (Or.inl (w25 hw)) Via.refl S.2.1 ?_
  refine Go.iloadN d9_50 (q := 51) rfl rfl ?_
  refine Go.iaload d9_51 (q := 52) rfl Aa (slotF_r4 g u).1 (L4_get g (slotF_r4 g u).2) ?_
  refine Go.iloadN d9_52 (q := 53) rfl rfl ?_
  refine Go.icmp_ne d9_53 (q := 58) (q' := 56) (by decide) rfl rfl (fun c12 => ?_) (fun c12 => ?_)
  · skip
    refine Go.aloadN d9_58 (q := 59) rfl rfl rfl ?_
    refine Go.getF d9_59 (q := 62) rfl (host := "") (Or.inl (w25 hw)) Via.refl S.2.1 ?_
    refine Go.iloadN d9_62 (q := 63) rfl rfl ?_
    refine Go.iloadN d9_63 (q := 64) rfl rfl ?_
    refine Go.iastore d9_64 (q := 65) rfl Aa (slotF_r4 g u).1 (by rw [L4_len]; exact (slotF_r4 g u).2) S.1.2.2 ?_
    intro h1 W1
    have nsa : s ≠ ar := Ar.ne S.1.1 (w11 hw) Aa
    have A1 := Aa.set W1
    rw [L4_set g (slotF_r4 g u).2] at A1
    refine Go.aloadN d9_65 (q := 66) rfl rfl rfl ?_
    refine Go.dup d9_66 (q := 67) rfl rfl ?_
    refine Go.getF d9_67 (q := 70) rfl (host := "") (Or.inl (w67 hw)) Via.refl (S.2.2.1.other W1 (Or.inl nsa)) ?_
    refine Go.iconst d9_70 (q := 71) rfl (x := (1 : Int32)) (by decide) ?_
    refine Go.iadd d9_71 (q := 72) rfl ?_
    refine Go.putF d9_72 (q := 75) rfl (host := "") (Or.inl (w67 hw)) Via.refl (S.2.2.1.other W1 (Or.inl nsa)) (S.1.1.wr W1) (Or.inl (w68 hw)) (w11 hw) pTn rfl rfl S.1.2.1 ?_
    intro h2 W2
    refine Go.iconst d9_75 (q := 76) rfl (x := (1 : Int32)) (by decide) ?_
    refine Go.zreturn d9_76 (by decide) (by decide) (by decide) ?_
    exact hQ1 c12 h2 ⟨⟨(S.1.1.wr W1).wr W2, S.1.2⟩, (S.2.1.other W1 (Or.inl nsa)).nxt W2 (Or.inl (w26 hw)) (Or.inl (w68 hw)) (by decide) pTi pTn, (S.2.2.1.other W1 (Or.inl nsa)).same W2, kA, A1.other W2 (Ne.symm nsa)⟩ (((Keep.refl h [s, ar]).wr W1 (Or.inl (by simp))).wr W2 (Or.inl (by simp)))
  · skip
    refine Go.iconst d9_56 (q := 57) rfl (x := (0 : Int32)) (by decide) ?_
    refine Go.zreturn d9_57 (by decide) (by decide) (by decide) ?_
    exact hQ0 c12
def maxF (u : Int32) (v : Int32) : Int32 :=
  if u < v then v else
  u
set_option maxRecDepth 65536 in
set_option maxHeartbeats 40000000 in
theorem b14 (l : Launch) (Z : State) (a0 : Array Value) (hw : Hw a0 Z) (n0 : Nat) (h : Heap) (u : Int32) (v : Int32) {Q : Option Value → Heap → Prop} (hQ : Q (some (.int (maxF u v))) h) :
    Go l Z (⟨"java/lang/Math", "max", "(II)I"⟩ : MethodName) jdk_29_method_65_code 2 (some .int) ({ frames := 0, cells := 0, slots := 0, locals := 0 } : Room) n0 Q h 0 0 0 #[.val (.int u), .val (.int v)] [] := by
  refine Go.iloadN d14_0 (q := 1) rfl rfl ?_
  refine Go.iloadN d14_1 (q := 2) rfl rfl ?_
  refine Go.icmp_lt d14_2 (q := 9) (q' := 5) (by decide) rfl rfl (fun c13 => ?_) (fun c13 => ?_)
  · skip
    refine Go.iloadN d14_9 (q := 10) rfl rfl ?_
    refine Go.ireturn d14_10 (by decide) (by decide) ?_
    unfold maxF at hQ
    rw [if_pos c13] at hQ
    exact hQ
  · skip
    refine Go.iloadN d14_5 (q := 6) rfl rfl ?_
    refine Go.goto d14_6 (q := 10) (by decide) rfl ?_
    refine Go.ireturn d14_10 (by decide) (by decide) ?_
    unfold maxF at hQ
    rw [if_neg c13] at hQ
    exact hQ
def minF (u : Int32) (v : Int32) : Int32 :=
  if v < u then v else
  u
set_option maxRecDepth 65536 in
set_option maxHeartbeats 40000000 in
theorem b16 (l : Launch) (Z : State) (a0 : Array Value) (hw : Hw a0 Z) (n0 : Nat) (h : Heap) (u : Int32) (v : Int32) {Q : Option Value → Heap → Prop} (hQ : Q (some (.int (minF u v))) h) :
    Go l Z (⟨"java/lang/Math", "min", "(II)I"⟩ : MethodName) jdk_29_method_69_code 2 (some .int) ({ frames := 0, cells := 0, slots := 0, locals := 0 } : Room) n0 Q h 0 0 0 #[.val (.int u), .val (.int v)] [] := by
  refine Go.iloadN d16_0 (q := 1) rfl rfl ?_
  refine Go.iloadN d16_1 (q := 2) rfl rfl ?_
  refine Go.icmp_gt d16_2 (q := 9) (q' := 5) (by decide) rfl rfl (fun c14 => ?_) (fun c14 => ?_)
  · skip
    refine Go.iloadN d16_9 (q := 10) rfl rfl ?_
    refine Go.ireturn d16_10 (by decide) (by decide) ?_
    unfold minF at hQ
    rw [if_pos c14] at hQ
    exact hQ
  · skip
    refine Go.iloadN d16_5 (q := 6) rfl rfl ?_
    refine Go.goto d16_6 (q := 10) (by decide) rfl ?_
    refine Go.ireturn d16_10 (by decide) (by decide) ?_
    unfold minF at hQ
    rw [if_neg c14] at hQ
    exact hQ
set_option maxRecDepth 65536 in
set_option maxHeartbeats 40000000 in
theorem copyOf0 (l : Launch) (Z : State) (a0 : Array Value) (hw : Hw a0 Z) (n0 : Nat) (h : Heap) (O : Old Z n0 h) (a : Addr) (kA : ClassId) (A0 : Ar Z h a .int kA []) {Q : Option Value → Heap → Prop} (hQ : ∀ h' b kB ws, b = h.size → Ext h h' → Ar Z h' b .int kB ws → ws.length = 8 → Q (some (.ref b)) h') :
    Go l Z (⟨"java/util/Arrays", "copyOf", "([II)[I"⟩ : MethodName) jdk_65_method_123_code 3 (some (.array .int)) ({ frames := 1, cells := 1, slots := 8, locals := 40 } : Room) n0 Q h 0 0 0 #[.val (.ref a), .val (.int (8 : Int32)), .unset] [] := by
  refine Go.iloadN d15_0 (q := 1) rfl rfl ?_
  refine Go.aloadN d15_1 (q := 2) rfl rfl rfl ?_
  refine Go.arraylength d15_2 (q := 3) rfl A0 (z := 0) rfl ?_
  refine Go.icmp_ne d15_3 (q := 14) (q' := 6) (by decide) rfl rfl (fun _ => ?_) (fun c_ => absurd c_ (by decide))
  refine Go.iloadN d15_14 (q := 15) rfl rfl ?_
  refine Go.newarray (cap := 8) d15_15 (q := 17) rfl (w20 hw) (by decide) (by decide) (by decide) (by decide) (by decide) ?_
  intro h1 b kB e1 X1 B1
  have nb : n0 ≤ b := new_le (O.1 ▸ O.2.1) e1
  refine Go.astoreN d15_17 (q := 18) rfl rfl (Ls' := #[.val (.ref a), .val (.int (8 : Int32)), .val (.ref b)]) rfl ?_
  refine Go.aloadN d15_18 (q := 19) rfl rfl rfl ?_
  refine Go.iconst d15_19 (q := 20) rfl (x := (0 : Int32)) (by decide) ?_
  refine Go.aloadN d15_20 (q := 21) rfl rfl rfl ?_
  refine Go.iconst d15_21 (q := 22) rfl (x := (0 : Int32)) (by decide) ?_
  refine Go.aloadN d15_22 (q := 23) rfl rfl rfl ?_
  refine Go.arraylength d15_23 (q := 24) rfl (A0.ext X1) (z := 0) rfl ?_
  refine Go.iloadN d15_24 (q := 25) rfl rfl ?_
  refine Go.callSV (P := fun w h' => w = .int (0 : Int32) ∧ h1 = h') (argsL := [(.int (0 : Int32)), (.int (8 : Int32))]) (rest := [(.int (0 : Int32)), (.ref b), (.int (0 : Int32)), (.ref a)]) (wd := 4) (Ls1 := #[.val (.int (0 : Int32)), .val (.int (8 : Int32))]) d15_25 (q := 28) rfl (w96 hw) (w97 hw) (w91 hw) (w98 hw) (by decide) pn16 pd16 rfl rfl (fun m_ => by simp [entryFrame, mkF, argsToLocals, Value.category]) rfl (by decide) rfl (by decide) (by decide) (by decide) (b16 l Z a0 hw n0 h1 (0 : Int32) (8 : Int32) (Q := RV (fun w h' => w = .int (0 : Int32) ∧ h1 = h')) ⟨_, rfl, rfl, rfl⟩) ?_
  rintro _ _ ⟨rfl, rfl⟩
  refine Go.acopy0 d15_28 (q := 31) rfl (w99 hw) (w102 hw) (w100 hw) (w101 hw) (A0.ext X1) B1 nb rfl (by decide) rfl (by decide) ?_
  intro h2 ws K2 B2 hl
  refine Go.aloadN d15_31 (q := 32) rfl rfl rfl ?_
  refine Go.areturn d15_32 (by decide) (by decide) rfl rfl ?_
  exact hQ h2 b kB ws e1 (ext_of_keep (((Keep.refl h []).ext X1).trans K2 (fun y hy => by cases List.mem_singleton.mp hy; exact Or.inr (Nat.le_of_eq e1.symm)))) B2 hl
set_option maxRecDepth 65536 in
set_option maxHeartbeats 40000000 in
theorem il_init (l : Launch) (Z : State) (a0 : Array Value) (hw : Hw a0 Z) (n0 : Nat) (h : Heap) (O : Old Z n0 h) (q : Addr) (nq : n0 ≤ q) (E : Exa Z h q ILN) (F1 : Fld Z h q ILN "values" "[I" .null) (F2 : Fld Z h q ILN "size" "I" (.int 0)) (a_NONE : Addr) (k_NONE : ClassId) (vs_NONE : List Value) (F : Facts Z a_NONE k_NONE vs_NONE) {Q : Option Value → Heap → Prop} (hQ : ∀ h', Keep h h' [q] → Old Z n0 h' → IL Z h' n0 a_NONE q a_NONE 0 → Q none h') :
    Go l Z (⟨"com/example/parallel_el/parallelel/util/IntList", "<init>", "()V"⟩ : MethodName) prog_25_method_1_code 1 none ({ frames := 1, cells := 0, slots := 0, locals := 13 } : Room) n0 Q h 0 0 0 #[.val (.ref q)] [] := by
  refine Go.aloadN d6_0 (q := 1) rfl rfl rfl ?_
  refine Go.initObj d6_1 (q := 4) rfl (w35 hw) (w8 hw) (w9 hw) rfl (by decide) rfl (by decide) ?_
  refine Go.aloadN d6_4 (q := 5) rfl rfl rfl ?_
  refine Go.getS d6_5 (q := 8) rfl (w36 hw) (F.S_NONE.ext O.2) ?_
  refine Go.putF d6_8 (q := 11) rfl (host := "") (Or.inl (w38 hw)) Via.refl F1 E (Or.inl (w39 hw)) (w30 hw) pTi rfl rfl nq ?_
  intro h2 W2
  refine Go.vreturn d6_11 (by decide) (by decide) ?_
  exact hQ h2 (Keep.of_wr W2) (O.wr W2 nq) ⟨⟨E.wr W2, nq⟩, F1.same W2, F2.nxt W2 (Or.inl (w88 hw)) (Or.inl (w39 hw)) (by decide) pTn pTi, Or.inl ⟨rfl, rfl⟩⟩
set_option maxRecDepth 65536 in
set_option maxHeartbeats 40000000 in
theorem il_addN (l : Launch) (Z : State) (a0 : Array Value) (hw : Hw a0 Z) (n0 : Nat) (h : Heap) (O : Old Z n0 h) (q va : Addr) (u : Int32) (a_NONE : Addr) (k_NONE : ClassId) (vs_NONE : List Value) (F : Facts Z a_NONE k_NONE vs_NONE) (S : IL Z h n0 a_NONE q a_NONE 0) (hv : va = a_NONE) {Q : Option Value → Heap → Prop} (hQ : ∀ h' va', Old Z n0 h' → IL Z h' n0 a_NONE q va' (0 + 1) → Keep h h' [q, va] → (va' = va ∨ h.size ≤ va') → n0 ≤ va' → Q none h') :
    Go l Z (⟨"com/example/parallel_el/parallelel/util/IntList", "add", "(I)V"⟩ : MethodName) prog_25_method_2_code 2 none ({ frames := 2, cells := 1, slots := 8, locals := 64 } : Room) n0 Q h 0 0 0 #[.val (.ref q), .val (.int u)] [] := by
  have A0 : Ar Z h a_NONE .int k_NONE [] := by
    have A := F.A_NONE.ext O.2
    rw [List.length_eq_zero_iff.mp F.N_NONE] at A
    exact A
  refine Go.aloadN d13_0 (q := 1) rfl rfl rfl ?_
  refine Go.getF d13_1 (q := 4) rfl (host := "") (Or.inl (w87 hw)) Via.refl S.2.2.1 ?_
  refine Go.aloadN d13_4 (q := 5) rfl rfl rfl ?_
  refine Go.getF d13_5 (q := 8) rfl (host := "") (Or.inl (w38 hw)) Via.refl S.2.1 ?_
  refine Go.arraylength d13_8 (q := 9) rfl A0 (z := 0) rfl ?_
  refine Go.icmp_ne d13_9 (q := 34) (q' := 12) (by decide) rfl rfl (fun c_ => absurd (by decide) c_) (fun _ => ?_)
  refine Go.aloadN d13_12 (q := 13) rfl rfl rfl ?_
  refine Go.aloadN d13_13 (q := 14) rfl rfl rfl ?_
  refine Go.getF d13_14 (q := 17) rfl (host := "") (Or.inl (w38 hw)) Via.refl S.2.1 ?_
  refine Go.bipush d13_17 (q := 19) rfl (x := (8 : Int32)) (by decide) ?_
  refine Go.iconst d13_19 (q := 20) rfl (x := (2 : Int32)) (by decide) ?_
  refine Go.aloadN d13_20 (q := 21) rfl rfl rfl ?_
  refine Go.getF d13_21 (q := 24) rfl (host := "") (Or.inl (w87 hw)) Via.refl S.2.2.1 ?_
  refine Go.imul d13_24 (q := 25) rfl ?_
  refine Go.callSV (P := fun w h' => w = .int (8 : Int32) ∧ h = h') (argsL := [(.int (8 : Int32)), (.int ((2 : Int32) * (0 : Int32)))]) (rest := [(.ref a_NONE), (.ref q)]) (wd := 2) (Ls1 := #[.val (.int (8 : Int32)), .val (.int ((2 : Int32) * (0 : Int32)))]) d13_25 (q := 28) rfl (w89 hw) (w90 hw) (w91 hw) (w92 hw) (by decide) pn14 pd14 rfl rfl (fun m_ => by simp [entryFrame, mkF, argsToLocals, Value.category]) rfl (by decide) rfl (by decide) (by decide) (by decide) (b14 l Z a0 hw n0 h (8 : Int32) ((2 : Int32) * (0 : Int32)) (Q := RV (fun w h' => w = .int (8 : Int32) ∧ h = h')) ⟨_, rfl, rfl, rfl⟩) ?_
  rintro _ _ ⟨rfl, rfl⟩
  refine Go.callSV (P := fun w h' => ∃ b kB ws, w = .ref b ∧ b = h.size ∧ Ext h h' ∧ Ar Z h' b .int kB ws ∧ ws.length = 8) (argsL := [(.ref a_NONE), (.int (8 : Int32))]) (rest := [(.ref q)]) (wd := 1) (Ls1 := #[.val (.ref a_NONE), .val (.int (8 : Int32)), .unset]) d13_28 (q := 31) rfl (w93 hw) (w94 hw) (w23 hw) (w95 hw) (by decide) pn15 pd15 rfl rfl (fun m_ => by simp [entryFrame, mkF, argsToLocals, Value.category]) rfl (by decide) rfl (by decide) (by decide) (by decide) (copyOf0 l Z a0 hw n0 h O a_NONE k_NONE A0 (Q := RV (fun w h' => ∃ b kB ws, w = .ref b ∧ b = h.size ∧ Ext h h' ∧ Ar Z h' b .int kB ws ∧ ws.length = 8)) (fun h' b kB ws q1 q2 q3 q4 => ⟨_, rfl, b, kB, ws, rfl, q1, q2, q3, q4⟩)) ?_
  rintro _ h1 ⟨b, kB, ws, rfl, e1, X1, B1, hl⟩
  have nb : n0 ≤ b := new_le (O.1 ▸ O.2.1) e1
  have nqb : q ≠ b := new_ne S.1.1.lt e1
  refine Go.putF d13_31 (q := 34) rfl (host := "") (Or.inl (w38 hw)) Via.refl (S.2.1.ext X1) (S.1.1.ext X1) (Or.inl (w39 hw)) (w30 hw) pTi rfl rfl S.1.2 ?_
  intro h2 W2
  have Fv := (S.2.1.ext X1).same W2
  have Fz := (S.2.2.1.ext X1).nxt W2 (Or.inl (w88 hw)) (Or.inl (w39 hw)) (by decide) pTn pTi
  have Eq := (S.1.1.ext X1).wr W2
  have B2 := B1.other W2 (Ne.symm nqb)
  have O2 := (O.ext X1).wr W2 S.1.2
  have K2 := ((Keep.refl h [q, va]).ext X1).wr W2 (Or.inl (by simp))
  refine Go.aloadN d13_34 (q := 35) rfl rfl rfl ?_
  refine Go.getF d13_35 (q := 38) rfl (host := "") (Or.inl (w38 hw)) Via.refl Fv ?_
  refine Go.aloadN d13_38 (q := 39) rfl rfl rfl ?_
  refine Go.dup d13_39 (q := 40) rfl rfl ?_
  refine Go.getF d13_40 (q := 43) rfl (host := "") (Or.inl (w87 hw)) Via.refl Fz ?_
  refine Go.dupX1 d13_43 (q := 44) rfl rfl rfl ?_
  refine Go.iconst d13_44 (q := 45) rfl (x := (1 : Int32)) (by decide) ?_
  refine Go.iadd d13_45 (q := 46) rfl ?_
  refine Go.putF d13_46 (q := 49) rfl (host := "") (Or.inl (w87 hw)) Via.refl Fz Eq (Or.inl (w88 hw)) (w30 hw) pTn rfl rfl S.1.2 ?_
  intro h3 W3
  have Fv3 := Fv.nxt W3 (Or.inl (w39 hw)) (Or.inl (w88 hw)) (by decide) pTi pTn
  have Fz3 := Fz.same W3
  have E3 := Eq.wr W3
  have B3 := B2.other W3 (Ne.symm nqb)
  have O3 := O2.wr W3 S.1.2
  have K3 := K2.wr W3 (Or.inl (by simp))
  refine Go.iloadN d13_49 (q := 50) rfl rfl ?_
  refine Go.iastore d13_50 (q := 51) rfl B3 (by decide) (by rw [hl]; decide) nb ?_
  intro h4 W4
  refine Go.vreturn d13_51 (by decide) (by decide) ?_
  exact hQ h4 b (O3.wr W4 nb) ⟨⟨E3.wr W4, S.1.2⟩, Fv3.other W4 (Or.inl nqb), Fz3.other W4 (Or.inl nqb), Or.inr ⟨nb, ⟨_, _, B3.set W4, by rw [List.length_set]; exact hl⟩, by decide, by decide⟩⟩ (K3.wr W4 (Or.inr (Nat.le_of_eq e1.symm))) (Or.inr (Nat.le_of_eq e1.symm)) nb
theorem inc8 {z : Int32} (r : ¬ z < 0 ∧ z.toNatClampNeg < 8) : ¬ (z + 1) < 0 ∧ (z + 1).toNatClampNeg ≤ 8 := by
  have e := c_iadd z 1
  have r' := rng32 (z + 1)
  have e1 : (1 : Int32).toInt = 1 := rfl
  have h0 := nonneg_iff.mp r.1
  have h1 : z.toInt.toNat < 8 := r.2
  refine ⟨nonneg_iff.mpr (by omega), ?_⟩
  show (z + 1).toInt.toNat ≤ 8
  omega
set_option maxRecDepth 65536 in
set_option maxHeartbeats 40000000 in
theorem il_addM (l : Launch) (Z : State) (a0 : Array Value) (hw : Hw a0 Z) (n0 : Nat) (h : Heap) (O : Old Z n0 h) (q va : Addr) (z u : Int32) (a_NONE : Addr) (k_NONE : ClassId) (vs_NONE : List Value) (F : Facts Z a_NONE k_NONE vs_NONE) (S : IL Z h n0 a_NONE q va z) (zr : ¬ z < 0 ∧ z.toNatClampNeg < 8) (nb : n0 ≤ va) (hB : ∃ kA ws, Ar Z h va .int kA ws ∧ ws.length = 8) {Q : Option Value → Heap → Prop} (hQ : ∀ h' va', Old Z n0 h' → IL Z h' n0 a_NONE q va' (z + 1) → Keep h h' [q, va] → (va' = va ∨ h.size ≤ va') → n0 ≤ va' → Q none h') :
    Go l Z (⟨"com/example/parallel_el/parallelel/util/IntList", "add", "(I)V"⟩ : MethodName) prog_25_method_2_code 2 none ({ frames := 2, cells := 1, slots := 8, locals := 64 } : Room) n0 Q h 0 0 0 #[.val (.ref q), .val (.int u)] [] := by
  obtain ⟨kA, ws, B2, hl⟩ := hB
  have z8 : ¬ z = 8 := by
    rintro rfl
    exact absurd zr.2 (by decide)
  have Fv := S.2.1
  have Fz := S.2.2.1
  have Eq := S.1.1
  have O2 := O
  have K2 := Keep.refl h [q, va]
  have nqb : q ≠ va := Ar.ne S.1.1 (w30 hw) B2
  refine Go.aloadN d13_0 (q := 1) rfl rfl rfl ?_
  refine Go.getF d13_1 (q := 4) rfl (host := "") (Or.inl (w87 hw)) Via.refl Fz ?_
  refine Go.aloadN d13_4 (q := 5) rfl rfl rfl ?_
  refine Go.getF d13_5 (q := 8) rfl (host := "") (Or.inl (w38 hw)) Via.refl Fv ?_
  refine Go.arraylength d13_8 (q := 9) rfl B2 (z := 8) (by rw [hl]; rfl) ?_
  refine Go.icmp_ne d13_9 (q := 34) (q' := 12) (by decide) rfl rfl (fun _ => ?_) (fun c_ => absurd c_ z8)
  refine Go.aloadN d13_34 (q := 35) rfl rfl rfl ?_
  refine Go.getF d13_35 (q := 38) rfl (host := "") (Or.inl (w38 hw)) Via.refl Fv ?_
  refine Go.aloadN d13_38 (q := 39) rfl rfl rfl ?_
  refine Go.dup d13_39 (q := 40) rfl rfl ?_
  refine Go.getF d13_40 (q := 43) rfl (host := "") (Or.inl (w87 hw)) Via.refl Fz ?_
  refine Go.dupX1 d13_43 (q := 44) rfl rfl rfl ?_
  refine Go.iconst d13_44 (q := 45) rfl (x := (1 : Int32)) (by decide) ?_
  refine Go.iadd d13_45 (q := 46) rfl ?_
  refine Go.putF d13_46 (q := 49) rfl (host := "") (Or.inl (w87 hw)) Via.refl Fz Eq (Or.inl (w88 hw)) (w30 hw) pTn rfl rfl S.1.2 ?_
  intro h3 W3
  have Fv3 := Fv.nxt W3 (Or.inl (w39 hw)) (Or.inl (w88 hw)) (by decide) pTi pTn
  have Fz3 := Fz.same W3
  have E3 := Eq.wr W3
  have B3 := B2.other W3 (Ne.symm nqb)
  have O3 := O2.wr W3 S.1.2
  have K3 := K2.wr W3 (Or.inl (by simp))
  refine Go.iloadN d13_49 (q := 50) rfl rfl ?_
  refine Go.iastore d13_50 (q := 51) rfl B3 zr.1 (by rw [hl]; exact zr.2) nb ?_
  intro h4 W4
  refine Go.vreturn d13_51 (by decide) (by decide) ?_
  exact hQ h4 va (O3.wr W4 nb) ⟨⟨E3.wr W4, S.1.2⟩, Fv3.other W4 (Or.inl nqb), Fz3.other W4 (Or.inl nqb), Or.inr ⟨nb, ⟨_, _, B3.set W4, by rw [List.length_set]; exact hl⟩, (inc8 zr).1, (inc8 zr).2⟩⟩ (K3.wr W4 (Or.inl (by simp))) (Or.inl rfl) nb
set_option maxRecDepth 65536 in
set_option maxHeartbeats 40000000 in
theorem il_add1 (l : Launch) (Z : State) (a0 : Array Value) (hw : Hw a0 Z) (n0 : Nat) (h : Heap) (O : Old Z n0 h) (q va : Addr) (z u : Int32) (a_NONE : Addr) (k_NONE : ClassId) (vs_NONE : List Value) (F : Facts Z a_NONE k_NONE vs_NONE) (S : IL Z h n0 a_NONE q va z) (zr : ¬ z < 0 ∧ z.toNatClampNeg < 8) {Q : Option Value → Heap → Prop} (hQ : ∀ h' va', Old Z n0 h' → IL Z h' n0 a_NONE q va' (z + 1) → Keep h h' [q, va] → (va' = va ∨ h.size ≤ va') → n0 ≤ va' → Q none h') :
    Go l Z (⟨"com/example/parallel_el/parallelel/util/IntList", "add", "(I)V"⟩ : MethodName) prog_25_method_2_code 2 none ({ frames := 2, cells := 1, slots := 8, locals := 64 } : Room) n0 Q h 0 0 0 #[.val (.ref q), .val (.int u)] [] := by
  rcases S.2.2.2 with ⟨rfl, rfl⟩ | ⟨nb, hB, -⟩
  · exact il_addN l Z a0 hw n0 h O q _ u _ _ _ F S rfl hQ
  · exact il_addM l Z a0 hw n0 h O q va z u a_NONE k_NONE vs_NONE F S zr nb hB hQ
theorem inc7 {z : Int32} (r : ¬ z < 0 ∧ z.toNatClampNeg < 7) : ¬ (z + 1) < 0 ∧ (z + 1).toNatClampNeg < 8 := by
  have e := c_iadd z 1
  have r' := rng32 (z + 1)
  have e1 : (1 : Int32).toInt = 1 := rfl
  have h0 := nonneg_iff.mp r.1
  have h1 : z.toInt.toNat < 7 := r.2
  refine ⟨nonneg_iff.mpr (by omega), ?_⟩
  show (z + 1).toInt.toNat < 8
  omega
set_option maxRecDepth 65536 in
set_option maxHeartbeats 40000000 in
theorem il_add2 (l : Launch) (Z : State) (a0 : Array Value) (hw : Hw a0 Z) (n0 : Nat) (h : Heap) (O : Old Z n0 h) (q va : Addr) (z u v : Int32) (a_NONE : Addr) (k_NONE : ClassId) (vs_NONE : List Value) (F : Facts Z a_NONE k_NONE vs_NONE) (S : IL Z h n0 a_NONE q va z) (zr : ¬ z < 0 ∧ z.toNatClampNeg < 7) {Q : Option Value → Heap → Prop} (hQ : ∀ h' va', Old Z n0 h' → IL Z h' n0 a_NONE q va' (z + 1 + 1) → Keep h h' [q, va] → (va' = va ∨ h.size ≤ va') → n0 ≤ va' → Q none h') :
    Go l Z (⟨"com/example/parallel_el/parallelel/util/IntList", "add", "(II)V"⟩ : MethodName) prog_25_method_3_code 3 none ({ frames := 3, cells := 2, slots := 16, locals := 84 } : Room) n0 Q h 0 0 0 #[.val (.ref q), .val (.int u), .val (.int v)] [] := by
  refine Go.aloadN d12_0 (q := 1) rfl rfl rfl ?_
  refine Go.iloadN d12_1 (q := 2) rfl rfl ?_
  refine Go.callVN (P := fun h' => ∃ va', Old Z n0 h' ∧ IL Z h' n0 a_NONE q va' (z + 1) ∧ Keep h h' [q, va] ∧ (va' = va ∨ h.size ≤ va') ∧ n0 ≤ va') (argsL := [(.int u)]) (rest := []) (wd := 0) (Ls1 := #[.val (.ref q), .val (.int u)]) d12_2 (q := 5) rfl (w82 hw) (w83 hw) (w85 hw) (w84 hw) (w86 hw) (w31 hw) (by decide) pn13 pd13 rfl rfl S.1.1 (fun m_ => by simp [entryFrame, mkF, argsToLocals, Value.category]) rfl (by decide) rfl (by decide) (by decide) (by decide) (il_add1 l Z a0 hw n0 h O q va z u a_NONE k_NONE vs_NONE F S (by refine ⟨zr.1, ?_⟩; omega) (Q := RN (fun h' => ∃ va', Old Z n0 h' ∧ IL Z h' n0 a_NONE q va' (z + 1) ∧ Keep h h' [q, va] ∧ (va' = va ∨ h.size ≤ va') ∧ n0 ≤ va')) (fun h' va' q1 q2 q3 q4 q5 => ⟨rfl, va', q1, q2, q3, q4, q5⟩)) ?_
  rintro h1 ⟨v1, O1, S1, K1, D1, n1⟩
  refine Go.aloadN d12_5 (q := 6) rfl rfl rfl ?_
  refine Go.iloadN d12_6 (q := 7) rfl rfl ?_
  refine Go.callVN (P := fun h' => ∃ va', Old Z n0 h' ∧ IL Z h' n0 a_NONE q va' (z + 1 + 1) ∧ Keep h1 h' [q, v1] ∧ (va' = v1 ∨ h1.size ≤ va') ∧ n0 ≤ va') (argsL := [(.int v)]) (rest := []) (wd := 0) (Ls1 := #[.val (.ref q), .val (.int v)]) d12_7 (q := 10) rfl (w82 hw) (w83 hw) (w85 hw) (w84 hw) (w86 hw) (w31 hw) (by decide) pn13 pd13 rfl rfl S1.1.1 (fun m_ => by simp [entryFrame, mkF, argsToLocals, Value.category]) rfl (by decide) rfl (by decide) (by decide) (by decide) (il_add1 l Z a0 hw n0 h1 O1 q v1 (z + 1) v a_NONE k_NONE vs_NONE F S1 (inc7 zr) (Q := RN (fun h' => ∃ va', Old Z n0 h' ∧ IL Z h' n0 a_NONE q va' (z + 1 + 1) ∧ Keep h1 h' [q, v1] ∧ (va' = v1 ∨ h1.size ≤ va') ∧ n0 ≤ va')) (fun h' va' q1 q2 q3 q4 q5 => ⟨rfl, va', q1, q2, q3, q4, q5⟩)) ?_
  rintro h2 ⟨v2, O2, S2, K2, D2, n2⟩
  refine Go.vreturn d12_10 (by decide) (by decide) ?_
  exact hQ h2 v2 O2 S2 (K1.trans K2 (fun y hy => by
    rcases List.mem_cons.mp hy with rfl | hy
    · exact Or.inl (by simp)
    · cases List.mem_singleton.mp hy
      rcases D1 with rfl | D1
      · exact Or.inl (by simp)
      · exact Or.inr D1)) (by
    rcases D2 with rfl | D2
    · exact D1
    · exact Or.inr (Nat.le_trans K1.1 D2)) n2
theorem i0_cases (u : Int32) : i0 u = 0 ∨ i0 u = 1 ∨ i0 u = 2 ∨ i0 u = 3 := by
  have r : R4 (i0 u) := r4_and _
  have h0 := nonneg_iff.mp r.1
  have h1 : (i0 u).toInt.toNat < 4 := r.2
  have e0 : (0 : Int32).toInt = 0 := rfl
  have e1 : (1 : Int32).toInt = 1 := rfl
  have e2 : (2 : Int32).toInt = 2 := rfl
  have e3 : (3 : Int32).toInt = 3 := rfl
  simp only [← Int32.toInt_inj]
  omega
theorem nx0 : nx 0 = 1 := by decide
theorem nx1 : nx 1 = 2 := by decide
theorem nx2 : nx 2 = 3 := by decide
theorem nx3 : nx 3 = 0 := by decide
theorem tn0 : (0 : Int32).toNatClampNeg = 0 := by decide
theorem tn1 : (1 : Int32).toNatClampNeg = 1 := by decide
theorem tn2 : (2 : Int32).toNatClampNeg = 2 := by decide
theorem tn3 : (3 : Int32).toNatClampNeg = 3 := by decide
/-- what the set holds after the adds of a list (the last one first) -/
def gOf : List Int32 → Nat → Int32
  | [] => fun _ => -1
  | u :: xs => up (gOf xs) (slotF (gOf xs) u).toNatClampNeg u
theorem nm1 {u : Int32} (h : ¬ u < 0) : ¬ u = -1 ∧ ¬ (-1) = u := ⟨by rintro rfl; exact h (by decide), by rintro rfl; exact h (by decide)⟩
theorem set0 (u : Int32) (hu : ¬ u < 0) : fin3 (gOf []) u ∧ (gOf [] (slotF (gOf []) u).toNatClampNeg = u ↔ u ∈ ([] : List Int32)) := by
  have nu := nm1 hu
  refine ⟨fun e => absurd (Or.inl rfl) e, ?_⟩
  simp [gOf, nu.2]
theorem gOf1 (a : Int32) : gOf [a] = up (fun _ => -1) (i0 a).toNatClampNeg a := by
  have e : slotF (gOf []) a = i0 a := if_pos (Or.inl rfl)
  show up (gOf []) (slotF (gOf []) a).toNatClampNeg a = _
  rw [e]; rfl
theorem set1 (a u : Int32) (ha : ¬ a < 0) (hu : ¬ u < 0) : fin3 (gOf [a]) u ∧ (gOf [a] (slotF (gOf [a]) u).toNatClampNeg = u ↔ u ∈ [a]) := by
  have na := nm1 ha
  have nu := nm1 hu
  rw [gOf1]
  by_cases q : u = a
  · subst q
    rcases i0_cases u with e | e | e | e <;>
      simp [fin3, slotF, stp, e, nx0, nx1, nx2, nx3, tn0, tn1, tn2, tn3, up, nu.1, nu.2]
  · have q' : ¬ a = u := fun z => q z.symm
    rcases i0_cases u with e | e | e | e <;> rcases i0_cases a with f | f | f | f <;>
      simp [fin3, slotF, stp, e, f, nx0, nx1, nx2, nx3, tn0, tn1, tn2, tn3, up, nu.1, nu.2, na.1, na.2, q, q']
theorem set2 (a b u : Int32) (ha : ¬ a < 0) (hb : ¬ b < 0) (hu : ¬ u < 0) (hab : ¬ b = a) : fin3 (gOf [b, a]) u ∧ (gOf [b, a] (slotF (gOf [b, a]) u).toNatClampNeg = u ↔ u ∈ [b, a]) := by
  have na := nm1 ha
  have nb := nm1 hb
  have nu := nm1 hu
  have hba : ¬ a = b := fun z => hab z.symm
  have g2 : gOf [b, a] = up (gOf [a]) (slotF (gOf [a]) b).toNatClampNeg b := rfl
  rw [g2, gOf1]
  by_cases q : u = a
  · subst q
    rcases i0_cases u with e | e | e | e <;> rcases i0_cases b with f | f | f | f <;>
      simp [fin3, slotF, stp, e, f, nx0, nx1, nx2, nx3, tn0, tn1, tn2, tn3, up, nu.1, nu.2, nb.1, nb.2, hab, hba]
  · have q' : ¬ a = u := fun z => q z.symm
    by_cases p : u = b
    · subst p
      rcases i0_cases u with e | e | e | e <;> rcases i0_cases a with f | f | f | f <;>
        simp [fin3, slotF, stp, e, f, nx0, nx1, nx2, nx3, tn0, tn1, tn2, tn3, up, nu.1, nu.2, na.1, na.2, q, q']
    · have p' : ¬ b = u := fun z => p z.symm
      rcases i0_cases u with e | e | e | e <;> rcases i0_cases a with f | f | f | f <;> rcases i0_cases b with d | d | d | d <;>
        simp [fin3, slotF, stp, e, f, d, nx0, nx1, nx2, nx3, tn0, tn1, tn2, tn3, up, nu.1, nu.2, na.1, na.2, nb.1, nb.2, q, q', p, p', hab, hba]
/-- an IntSet that holds xs -/
def SX (Z : State) (h : Heap) (n0 : Nat) (s ar : Addr) (xs : List Int32) : Prop := IS Z h n0 s ar (Int32.ofNat xs.length) (gOf xs)
def Small (xs : List Int32) : Prop := xs = [] ∨ ∃ a, xs = [a] ∧ ¬ a < 0
def Good (xs : List Int32) : Prop := Small xs ∨ ∃ a b, xs = [b, a] ∧ ¬ a < 0 ∧ ¬ b < 0 ∧ ¬ b = a
theorem good_spec {xs : List Int32} (G : Good xs) {u : Int32} (hu : ¬ u < 0) : fin3 (gOf xs) u ∧ (gOf xs (slotF (gOf xs) u).toNatClampNeg = u ↔ u ∈ xs) := by
  rcases G with (rfl | ⟨a, rfl, ha⟩) | ⟨a, b, rfl, ha, hb, hab⟩
  · exact set0 u hu
  · exact set1 a u ha hu
  · exact set2 a b u ha hb hu hab
def ins (u : Int32) (xs : List Int32) : List Int32 := if u ∈ xs then xs else u :: xs
theorem good_ins {xs : List Int32} (G : Small xs) {u : Int32} (hu : ¬ u < 0) : Good (ins u xs) := by
  rcases G with rfl | ⟨a, rfl, ha⟩
  · exact Or.inl (Or.inr ⟨u, rfl, hu⟩)
  · by_cases q : u = a
    · subst q
      rw [ins, if_pos (by simp)]
      exact Or.inl (Or.inr ⟨u, rfl, hu⟩)
    · rw [ins, if_neg (by simpa using q)]
      exact Or.inr ⟨a, u, rfl, ha, hu, q⟩
theorem small_z {xs : List Int32} (G : Small xs) : (¬ ((3 : Int32) * (4 : Int32)) < ((4 : Int32) * (Int32.ofNat xs.length + (1 : Int32)))) ∧ ∀ u : Int32, Int32.ofNat xs.length + 1 = Int32.ofNat (u :: xs).length := by
  rcases G with rfl | ⟨a, rfl, ha⟩
  · exact ⟨by decide, fun _ => by show (Int32.ofNat 0) + 1 = Int32.ofNat 1; decide⟩
  · exact ⟨by show ¬ ((3 : Int32) * (4 : Int32)) < ((4 : Int32) * (Int32.ofNat 1 + (1 : Int32))); decide, fun _ => by show (Int32.ofNat 1) + 1 = Int32.ofNat 2; decide⟩
theorem SX.of0 {Z : State} {h : Heap} {n0 : Nat} {s ar : Addr} (S : IS Z h n0 s ar 0 (fun _ => -1)) : SX Z h n0 s ar [] := S
theorem lt_ne {a b : Addr} {n : Nat} (l : a < n) (g : n ≤ b) : a ≠ b := Nat.ne_of_lt (Nat.lt_of_lt_of_le l g)
theorem nin1 {b a : Addr} (e : b ≠ a) : b ∉ [a] := by simpa using e
theorem nin2 {b a1 a2 : Addr} (e1 : b ≠ a1) (e2 : b ≠ a2) : b ∉ [a1, a2] := by simp [e1, e2]
theorem nin3 {b a1 a2 a3 : Addr} (e1 : b ≠ a1) (e2 : b ≠ a2) (e3 : b ≠ a3) : b ∉ [a1, a2, a3] := by simp [e1, e2, e3]
theorem nin4 {b a1 a2 a3 a4 : Addr} (e1 : b ≠ a1) (e2 : b ≠ a2) (e3 : b ≠ a3) (e4 : b ≠ a4) : b ∉ [a1, a2, a3, a4] := by simp [e1, e2, e3, e4]

theorem IL.vlt {Z : State} {h : Heap} {n0 : Nat} {a_NONE : Addr} {k_NONE : ClassId} {vs_NONE : List Value} {q va : Addr} {z : Int32} (O : Old Z n0 h) (F : Facts Z a_NONE k_NONE vs_NONE) (S : IL Z h n0 a_NONE q va z) : va < h.size := by
  rcases S.2.2.2 with ⟨rfl, -⟩ | ⟨-, ⟨kA, ws, A, -⟩, -⟩
  · exact (F.A_NONE.ext O.2).lt
  · exact A.lt
theorem IL.vne {Z : State} {h : Heap} {n0 : Nat} {a0 : Array Value} (hw : Hw a0 Z) {a_NONE : Addr} {k_NONE : ClassId} {vs_NONE : List Value} {q va : Addr} {z : Int32} {b : Addr} {K : String} {k : Nat} (O : Old Z n0 h) (F : Facts Z a_NONE k_NONE vs_NONE) (S : IL Z h n0 a_NONE q va z) (B : Exa Z h b K) (wi : (Jvm.Cond.instantiable K k).before a0 Z = true) : b ≠ va := by
  rcases S.2.2.2 with ⟨rfl, -⟩ | ⟨-, ⟨kA, ws, A, -⟩, -⟩
  · exact Ar.ne B wi (F.A_NONE.ext O.2)
  · exact Ar.ne B wi A
set_option maxRecDepth 65536 in
set_option maxHeartbeats 40000000 in
theorem sx_add (l : Launch) (Z : State) (a0 : Array Value) (hw : Hw a0 Z) (n0 : Nat) (h : Heap) (s ar : Addr) (xs : List Int32) (S : SX Z h n0 s ar xs) (u : Int32) (G : Small xs) (h0 : ¬ u < 0) {Q : Option Value → Heap → Prop} (hQ0 : u ∈ xs → Q (some (.int 0)) h) (hQ1 : ¬ u ∈ xs → ∀ h', SX Z h' n0 s ar (u :: xs) → Keep h h' [s, ar] → Q (some (.int 1)) h') :
    Go l Z (⟨"com/example/parallel_el/parallelel/util/IntSet", "add", "(I)Z"⟩ : MethodName) prog_26_method_2_code 3 (some .boolean) ({ frames := 2, cells := 0, slots := 0, locals := 34 } : Room) n0 Q h 0 0 0 #[.val (.ref s), .val (.int u), .unset] [] := by
  have sp := good_spec (Or.inl G) h0
  have sz := small_z G
  refine is_add l Z a0 hw n0 h s ar _ _ S u h0 sp.1 sz.1 (fun e => hQ0 (sp.2.mp e)) (fun e h' S' K => hQ1 (fun q => e (sp.2.mpr q)) h' ?_ K)
  rw [sz.2 u] at S'
  exact S'
set_option maxRecDepth 65536 in
set_option maxHeartbeats 40000000 in
theorem sx_contains (l : Launch) (Z : State) (a0 : Array Value) (hw : Hw a0 Z) (n0 : Nat) (h : Heap) (s ar : Addr) (xs : List Int32) (S : SX Z h n0 s ar xs) (u : Int32) (G : Good xs) (h0 : ¬ u < 0) {Q : Option Value → Heap → Prop} (hQ : Q (some (.int (if u ∈ xs then 1 else 0))) h) :
    Go l Z (⟨"com/example/parallel_el/parallelel/util/IntSet", "contains", "(I)Z"⟩ : MethodName) prog_26_method_3_code 2 (some .boolean) ({ frames := 2, cells := 0, slots := 0, locals := 34 } : Room) n0 Q h 0 0 0 #[.val (.ref s), .val (.int u)] [] := by
  have sp := good_spec G h0
  refine contains l Z a0 hw n0 h s ar _ _ S u h0 sp.1 ?_
  by_cases q : u ∈ xs
  · rw [if_pos q] at hQ
    rw [if_pos (sp.2.mpr q)]
    exact hQ
  · rw [if_neg q] at hQ
    rw [if_neg (fun e => q (sp.2.mp e))]
    exact hQ
set_option maxRecDepth 65536 in
set_option maxHeartbeats 40000000 in
theorem linkN (l : Launch) (Z : State) (a0 : Array Value) (hw : Hw a0 Z) (n0 : Nat) (h : Heap) (O : Old Z n0 h) (pa q va : Addr) (z r u : Int32) (kA : ClassId) (pv : List Value) (a_NONE : Addr) (k_NONE : ClassId) (vs_NONE : List Value) (F : Facts Z a_NONE k_NONE vs_NONE) (Aa : Ar Z h pa (.object ISN) kA pv) (V : Ovr Z kA ISN) (npa : n0 ≤ pa) (rr : ¬ r < 0 ∧ r.toNatClampNeg < pv.length) (L : IL Z h n0 a_NONE q va z) (zr : ¬ z < 0 ∧ z.toNatClampNeg < 7) (h0 : ¬ u < 0) (hpv : pa ≠ va) (hv : pv[r.toNatClampNeg]? = some .null) {Q : Option Value → Heap → Prop} (hQ : ∀ h' s ar va', Old Z n0 h' → h.size ≤ s → h.size ≤ ar → Ar Z h' pa (.object ISN) kA (pv.set r.toNatClampNeg (.ref s)) → SX Z h' n0 s ar [u] → IL Z h' n0 a_NONE q va' (z + 1 + 1) → Keep h h' [pa, q, va] → (va' = va ∨ h.size ≤ va') → n0 ≤ va' → va' ≠ ar → Q (some (.int 1)) h') :
    Go l Z (⟨"com/example/parallel_el/parallelel/reasoning/Context", "addLink", "([Lcom/example/parallel_el/parallelel/util/IntSet;Lcom/example/parallel_el/parallelel/util/IntList;II)Z"⟩ : MethodName) prog_7_method_7_code 4 (some .boolean) ({ frames := 4, cells := 4, slots := 22, locals := 110 } : Room) n0 Q h 0 0 0 #[.val (.ref pa), .val (.ref q), .val (.int r), .val (.int u)] [] := by
  refine Go.aloadN d8_0 (q := 1) rfl rfl rfl ?_
  refine Go.iloadN d8_1 (q := 2) rfl rfl ?_
  refine Go.aaload d8_2 (q := 3) rfl Aa rfl rr.1 hv ?_
  refine Go.ifnonnull d8_3 (q := 16) (q' := 6) (by decide) rfl rfl rfl (fun _ e => by cases e) (fun _ => ?_)
  refine Go.aloadN d8_6 (q := 7) rfl rfl rfl ?_
  refine Go.iloadN d8_7 (q := 8) rfl rfl ?_
  refine Go.new d8_8 (q := 11) rfl (w10 hw) (w11 hw) (w12 hw) (by decide) (by decide) ?_
  intro h1 s e1 X1 E1 D1
  have ns : n0 ≤ s := new_le (O.1 ▸ O.2.1) e1
  have ges : h.size ≤ s := Nat.le_of_eq e1.symm
  refine Go.dup d8_11 (q := 12) rfl rfl ?_
  refine Go.callIN (P := fun h' => ∃ ar, h1.size ≤ ar ∧ Keep h1 h' [s] ∧ Old Z n0 h' ∧ IS Z h' n0 s ar 0 (fun _ => -1)) (argsL := []) (rest := [(.ref s), (.int r), (.ref pa)]) (wd := 3) (Ls1 := #[.val (.ref s)]) d8_12 (q := 15) rfl rfl (w13 hw) (w14 hw) (w12 hw) (w15 hw) (by decide) pn3 pd3 rfl rfl (fun m_ => by simp [entryFrame, mkF, argsToLocals, Value.category]) rfl (by decide) rfl (by decide) (by decide) (by decide) (is_init l Z a0 hw n0 h1 (O.ext X1) s ns E1 (D1 (Or.inl (w26 hw)) pTi) (D1 (Or.inl (w68 hw)) pTn) (Q := RN (fun h' => ∃ ar, h1.size ≤ ar ∧ Keep h1 h' [s] ∧ Old Z n0 h' ∧ IS Z h' n0 s ar 0 (fun _ => -1))) (fun h' ar q1 q2 q3 q4 => ⟨rfl, ar, q1, q2, q3, q4⟩)) ?_
  rintro h2 ⟨ar, gar, K2, O2, S2⟩
  have gear : h.size ≤ ar := Nat.le_trans X1.1 gar
  have pas : pa ≠ s := lt_ne Aa.lt ges
  have paar : pa ≠ ar := lt_ne Aa.lt gear
  have qs : q ≠ s := lt_ne L.1.1.lt ges
  have qar : q ≠ ar := lt_ne L.1.1.lt gear
  have vl := L.vlt O F
  have vs_ : va ≠ s := lt_ne vl ges
  have var_ : va ≠ ar := lt_ne vl gear
  have qpa : q ≠ pa := Ar.ne L.1.1 (w30 hw) Aa
  have A2 := (Aa.ext X1).keep K2 (nin1 pas)
  have L2 := (L.ext X1).keep K2 (nin1 qs) (fun _ => nin1 vs_)
  have K02 := ((Keep.refl h [pa, q, va]).ext X1).trans K2 (fun y hy => by cases List.mem_singleton.mp hy; exact Or.inr ges)
  refine Go.aastore d8_15 (q := 16) rfl A2 rfl rr.1 rr.2 (sto_of A2 V (Ins.self S2.1.1)) npa ?_
  intro h3 W3
  have A3 := A2.set W3
  have S3 := (SX.of0 S2).keep (Keep.of_wr W3) (nin1 (Ne.symm pas)) (nin1 (Ne.symm paar))
  have L3 := L2.keep (Keep.of_wr W3) (nin1 qpa) (fun _ => nin1 (Ne.symm hpv))
  have O3 := O2.wr W3 npa
  have K03 := K02.wr W3 (Or.inl (by simp))
  refine Go.aloadN d8_16 (q := 17) rfl rfl rfl ?_
  refine Go.iloadN d8_17 (q := 18) rfl rfl ?_
  refine Go.aaload d8_18 (q := 19) rfl A3 rfl rr.1 (List.getElem?_set_self rr.2) ?_
  refine Go.iloadN d8_19 (q := 20) rfl rfl ?_
  refine Go.callVV (P := fun w h' => w = .int (1 : Int32) ∧ SX Z h' n0 s ar [u] ∧ Keep h3 h' [s, ar]) (argsL := [(.int u)]) (rest := []) (wd := 0) (Ls1 := #[.val (.ref s), .val (.int u), .unset]) d8_20 (q := 23) rfl (w62 hw) (w63 hw) (w65 hw) (w64 hw) (w66 hw) (w12 hw) (by decide) pn9 pd9 rfl rfl S3.1.1 (fun m_ => by simp [entryFrame, mkF, argsToLocals, Value.category]) rfl (by decide) rfl (by decide) (by decide) (by decide) (sx_add l Z a0 hw n0 h3 s ar [] S3 u (Or.inl rfl) h0 (Q := RV (fun w h' => w = .int (1 : Int32) ∧ SX Z h' n0 s ar [u] ∧ Keep h3 h' [s, ar])) (fun e => absurd e (by simp)) (fun _ h' q1 q2 => ⟨_, rfl, rfl, q1, q2⟩)) ?_
  rintro _ h4 ⟨rfl, S4, K4⟩
  have A4 := A3.keep K4 (nin2 pas paar)
  have L4_ := L3.keep K4 (nin2 qs qar) (fun _ => nin2 vs_ var_)
  have O4 := O3.keep K4 (fun y hy => by
    rcases List.mem_cons.mp hy with rfl | hy
    · exact ns
    · cases List.mem_singleton.mp hy; exact S3.1.2.2)
  have K04 := K03.trans K4 (fun y hy => by
    rcases List.mem_cons.mp hy with rfl | hy
    · exact Or.inr ges
    · cases List.mem_singleton.mp hy; exact Or.inr gear)
  refine Go.if_ne d8_23 (q := 28) (q' := 26) (by decide) rfl rfl (fun _ => ?_) (fun c_ => absurd c_ (by decide))
  refine Go.aloadN d8_28 (q := 29) rfl rfl rfl ?_
  refine Go.iloadN d8_29 (q := 30) rfl rfl ?_
  refine Go.iloadN d8_30 (q := 31) rfl rfl ?_
  refine Go.callVN (P := fun h' => ∃ va', Old Z n0 h' ∧ IL Z h' n0 a_NONE q va' (z + 1 + 1) ∧ Keep h4 h' [q, va] ∧ (va' = va ∨ h4.size ≤ va') ∧ n0 ≤ va') (argsL := [(.int r), (.int u)]) (rest := []) (wd := 0) (Ls1 := #[.val (.ref q), .val (.int r), .val (.int u)]) d8_31 (q := 34) rfl (w77 hw) (w78 hw) (w80 hw) (w79 hw) (w81 hw) (w31 hw) (by decide) pn12 pd12 rfl rfl L4_.1.1 (fun m_ => by simp [entryFrame, mkF, argsToLocals, Value.category]) rfl (by decide) rfl (by decide) (by decide) (by decide) (il_add2 l Z a0 hw n0 h4 O4 q va z r u a_NONE k_NONE vs_NONE F L4_ zr (Q := RN (fun h' => ∃ va', Old Z n0 h' ∧ IL Z h' n0 a_NONE q va' (z + 1 + 1) ∧ Keep h4 h' [q, va] ∧ (va' = va ∨ h4.size ≤ va') ∧ n0 ≤ va')) (fun h' va' q1 q2 q3 q4 q5 => ⟨rfl, va', q1, q2, q3, q4, q5⟩)) ?_
  rintro h5 ⟨v5, O5, L5, K5, D5, n5⟩
  refine Go.iconst d8_34 (q := 35) rfl (x := (1 : Int32)) (by decide) ?_
  refine Go.zreturn d8_35 (by decide) (by decide) (by decide) ?_
  have A5 := A4.keep K5 (nin2 (Ne.symm qpa) hpv)
  have S5 : SX Z h5 n0 s ar [u] := IS.keep S4 K5 (nin2 (Ne.symm qs) (Ne.symm vs_)) (nin2 (Ne.symm qar) (Ne.symm var_))
  exact hQ h5 s ar v5 O5 ges gear A5 S5 L5 (K04.trans K5 (fun y hy => Or.inl (List.mem_cons_of_mem _ hy))) (D5.imp id (fun d => Nat.le_trans K04.1 d)) n5 (by
    rcases D5 with rfl | d
    · exact var_
    · exact Ne.symm (lt_ne (IS.lt S4).2 d))
set_option maxRecDepth 65536 in
set_option maxHeartbeats 40000000 in
theorem linkO (l : Launch) (Z : State) (a0 : Array Value) (hw : Hw a0 Z) (n0 : Nat) (h : Heap) (O : Old Z n0 h) (pa q va : Addr) (z r u : Int32) (kA : ClassId) (pv : List Value) (a_NONE : Addr) (k_NONE : ClassId) (vs_NONE : List Value) (F : Facts Z a_NONE k_NONE vs_NONE) (Aa : Ar Z h pa (.object ISN) kA pv) (V : Ovr Z kA ISN) (npa : n0 ≤ pa) (rr : ¬ r < 0 ∧ r.toNatClampNeg < pv.length) (L : IL Z h n0 a_NONE q va z) (zr : ¬ z < 0 ∧ z.toNatClampNeg < 7) (h0 : ¬ u < 0) (s ar : Addr) (xs : List Int32) (S : SX Z h n0 s ar xs) (G : Small xs) (hav : ar ≠ va) (hv : pv[r.toNatClampNeg]? = some (.ref s)) {Q : Option Value → Heap → Prop} (hQ0 : u ∈ xs → Q (some (.int 0)) h) (hQ1 : ¬ u ∈ xs → ∀ h' va', Old Z n0 h' → SX Z h' n0 s ar (u :: xs) → IL Z h' n0 a_NONE q va' (z + 1 + 1) → Keep h h' [s, ar, q, va] → (va' = va ∨ h.size ≤ va') → n0 ≤ va' → Q (some (.int 1)) h') :
    Go l Z (⟨"com/example/parallel_el/parallelel/reasoning/Context", "addLink", "([Lcom/example/parallel_el/parallelel/util/IntSet;Lcom/example/parallel_el/parallelel/util/IntList;II)Z"⟩ : MethodName) prog_7_method_7_code 4 (some .boolean) ({ frames := 4, cells := 4, slots := 22, locals := 110 } : Room) n0 Q h 0 0 0 #[.val (.ref pa), .val (.ref q), .val (.int r), .val (.int u)] [] := by
  refine Go.aloadN d8_0 (q := 1) rfl rfl rfl ?_
  refine Go.iloadN d8_1 (q := 2) rfl rfl ?_
  refine Go.aaload d8_2 (q := 3) rfl Aa rfl rr.1 hv ?_
  refine Go.ifnonnull d8_3 (q := 16) (q' := 6) (by decide) rfl rfl rfl (fun _ _ => ?_) (fun e => by cases e)
  refine Go.aloadN d8_16 (q := 17) rfl rfl rfl ?_
  refine Go.iloadN d8_17 (q := 18) rfl rfl ?_
  refine Go.aaload d8_18 (q := 19) rfl Aa rfl rr.1 hv ?_
  refine Go.iloadN d8_19 (q := 20) rfl rfl ?_
  refine Go.callVV (P := fun w h' => (u ∈ xs ∧ w = .int (0 : Int32) ∧ h = h') ∨ (¬ u ∈ xs ∧ w = .int (1 : Int32) ∧ SX Z h' n0 s ar (u :: xs) ∧ Keep h h' [s, ar])) (argsL := [(.int u)]) (rest := []) (wd := 0) (Ls1 := #[.val (.ref s), .val (.int u), .unset]) d8_20 (q := 23) rfl (w62 hw) (w63 hw) (w65 hw) (w64 hw) (w66 hw) (w12 hw) (by decide) pn9 pd9 rfl rfl S.1.1 (fun m_ => by simp [entryFrame, mkF, argsToLocals, Value.category]) rfl (by decide) rfl (by decide) (by decide) (by decide) (sx_add l Z a0 hw n0 h s ar xs S u G h0 (Q := RV (fun w h' => (u ∈ xs ∧ w = .int (0 : Int32) ∧ h = h') ∨ (¬ u ∈ xs ∧ w = .int (1 : Int32) ∧ SX Z h' n0 s ar (u :: xs) ∧ Keep h h' [s, ar]))) (fun e => ⟨_, rfl, Or.inl ⟨e, rfl, rfl⟩⟩) (fun e h' q1 q2 => ⟨_, rfl, Or.inr ⟨e, rfl, q1, q2⟩⟩)) ?_
  rintro _ h4 (⟨hin, rfl, rfl⟩ | ⟨hin, rfl, S4, K4⟩)
  · skip
    refine Go.if_ne d8_23 (q := 28) (q' := 26) (by decide) rfl rfl (fun c_ => absurd (by decide) c_) (fun _ => ?_)
    refine Go.iconst d8_26 (q := 27) rfl (x := (0 : Int32)) (by decide) ?_
    refine Go.zreturn d8_27 (by decide) (by decide) (by decide) ?_
    exact hQ0 hin
  · skip
    have qpa : q ≠ pa := Ar.ne L.1.1 (w30 hw) Aa
    have qs : q ≠ s := ne_exa L.1.1 S.1.1 (by decide)
    have qar : q ≠ ar := by obtain ⟨-, -, -, kS, AS⟩ := S; exact Ar.ne L.1.1 (w30 hw) AS
    have sva : s ≠ va := L.vne hw O F S.1.1 (w11 hw)
    have L4_ := L.keep K4 (nin2 qs qar) (fun _ => nin2 (Ne.symm sva) (Ne.symm hav))
    have O4 := O.keep K4 (fun y hy => by
      rcases List.mem_cons.mp hy with rfl | hy
      · exact S.1.2.1
      · cases List.mem_singleton.mp hy; exact S.1.2.2)
    refine Go.if_ne d8_23 (q := 28) (q' := 26) (by decide) rfl rfl (fun _ => ?_) (fun c_ => absurd c_ (by decide))
    refine Go.aloadN d8_28 (q := 29) rfl rfl rfl ?_
    refine Go.iloadN d8_29 (q := 30) rfl rfl ?_
    refine Go.iloadN d8_30 (q := 31) rfl rfl ?_
    refine Go.callVN (P := fun h' => ∃ va', Old Z n0 h' ∧ IL Z h' n0 a_NONE q va' (z + 1 + 1) ∧ Keep h4 h' [q, va] ∧ (va' = va ∨ h4.size ≤ va') ∧ n0 ≤ va') (argsL := [(.int r), (.int u)]) (rest := []) (wd := 0) (Ls1 := #[.val (.ref q), .val (.int r), .val (.int u)]) d8_31 (q := 34) rfl (w77 hw) (w78 hw) (w80 hw) (w79 hw) (w81 hw) (w31 hw) (by decide) pn12 pd12 rfl rfl L4_.1.1 (fun m_ => by simp [entryFrame, mkF, argsToLocals, Value.category]) rfl (by decide) rfl (by decide) (by decide) (by decide) (il_add2 l Z a0 hw n0 h4 O4 q va z r u a_NONE k_NONE vs_NONE F L4_ zr (Q := RN (fun h' => ∃ va', Old Z n0 h' ∧ IL Z h' n0 a_NONE q va' (z + 1 + 1) ∧ Keep h4 h' [q, va] ∧ (va' = va ∨ h4.size ≤ va') ∧ n0 ≤ va')) (fun h' va' q1 q2 q3 q4 q5 => ⟨rfl, va', q1, q2, q3, q4, q5⟩)) ?_
    rintro h5 ⟨v5, O5, L5, K5, D5, n5⟩
    refine Go.iconst d8_34 (q := 35) rfl (x := (1 : Int32)) (by decide) ?_
    refine Go.zreturn d8_35 (by decide) (by decide) (by decide) ?_
    have S5 : SX Z h5 n0 s ar (u :: xs) := IS.keep S4 K5 (nin2 (Ne.symm qs) sva) (nin2 (Ne.symm qar) hav)
    exact hQ1 hin h5 v5 O5 S5 L5 (((Keep.refl h [s, ar, q, va]).trans K4 (fun y hy => Or.inl (by
      rcases List.mem_cons.mp hy with rfl | hy
      · simp
      · cases List.mem_singleton.mp hy; simp))).trans K5 (fun y hy => Or.inl (by
      rcases List.mem_cons.mp hy with rfl | hy
      · simp
      · cases List.mem_singleton.mp hy; simp))) (D5.imp id (fun d => Nat.le_trans K4.1 d)) n5
/-- the table's own marks -/
def nTB (k n : Nat) : Prop := n = 10 + k ∨ (20 ≤ n ∧ (n % 4 = 2 * k ∨ n % 4 = 2 * k + 1))
/-- one link table: none yet, or an array of sets; lab: a mark for each address -/
def EN (Z : State) (h : Heap) (n0 : Nat) (lab : Addr → Nat) (k : Nat) (pv : List Value) (m : Nat → List Int32) (i : Nat) : Prop :=
  (m i = [] ∧ pv[i]? = some .null) ∨ ∃ s ar, m i ≠ [] ∧ pv[i]? = some (.ref s) ∧ SX Z h n0 s ar (m i) ∧ Good (m i) ∧ lab s = 20 + 4 * i + 2 * k ∧ lab ar = 21 + 4 * i + 2 * k
def TA (Z : State) (h : Heap) (n0 : Nat) (lab : Addr → Nat) (k : Nat) (pa : Addr) (kA : ClassId) (pv : List Value) (rc : Nat) (m : Nat → List Int32) : Prop :=
  n0 ≤ pa ∧ lab pa = 10 + k ∧ Ar Z h pa (.object ISN) kA pv ∧ Ovr Z kA ISN ∧ pv.length = rc ∧ ∀ i, i < rc → EN Z h n0 lab k pv m i
def TB (Z : State) (h : Heap) (n0 : Nat) (lab : Addr → Nat) (k : Nat) (tv : Value) (rc : Nat) (m : Nat → List Int32) : Prop :=
  (tv = .null ∧ ∀ i, m i = []) ∨ ∃ pa kA pv, tv = .ref pa ∧ TA Z h n0 lab k pa kA pv rc m
section Tables
variable {Z : State} {h h' : Heap} {n0 : Nat} {lab lab' : Addr → Nat} {k : Nat} {rc : Nat} {m : Nat → List Int32} {ws : List Addr}
theorem EN.keep {pv : List Value} {i : Nat} (E : EN Z h n0 lab k pv m i) (K : Keep h h' ws) (ag : ∀ b, b < h.size → lab' b = lab b) (q : ∀ w ∈ ws, ¬ (lab w = 20 + 4 * i + 2 * k ∨ lab w = 21 + 4 * i + 2 * k)) : EN Z h' n0 lab' k pv m i := by
  rcases E with c | ⟨s, ar, c1, c2, S, G, ls, la⟩
  · exact Or.inl c
  · exact Or.inr ⟨s, ar, c1, c2, IS.keep S K (fun x => q _ x (Or.inl ls)) (fun x => q _ x (Or.inr la)), G, (ag _ (IS.lt S).1).trans ls, (ag _ (IS.lt S).2).trans la⟩
theorem TB.keep {tv : Value} (T : TB Z h n0 lab k tv rc m) (hk : k ≤ 1) (K : Keep h h' ws) (ag : ∀ b, b < h.size → lab' b = lab b) (q : ∀ w ∈ ws, ¬ nTB k (lab w)) : TB Z h' n0 lab' k tv rc m := by
  rcases T with c | ⟨pa, kA, pv, rfl, n1, lp, A, V, hl, hi⟩
  · exact Or.inl c
  · refine Or.inr ⟨pa, kA, pv, rfl, n1, (ag _ A.lt).trans lp, A.keep K (fun y => q _ y (Or.inl lp)), V, hl, fun i hi' => (hi i hi').keep K ag (fun w hw' c => q w hw' (Or.inr ?_))⟩
    omega
def upm (m : Nat → List Int32) (r : Nat) (xs : List Int32) : Nat → List Int32 := fun i => if i = r then xs else m i
theorem upm_same (m : Nat → List Int32) (r : Nat) (xs : List Int32) : upm m r xs r = xs := if_pos rfl
theorem upm_ne {m : Nat → List Int32} {r i : Nat} {xs : List Int32} (e : ¬ i = r) : upm m r xs i = m i := if_neg e
theorem upm_in {m : Nat → List Int32} {r : Nat} {u : Int32} (hin : u ∈ m r) : upm m r (ins u (m r)) = m := by
  funext i
  by_cases e : i = r
  · rw [e, upm_same, ins, if_pos hin]
  · exact upm_ne e
/-- the entry r is made or grown -/
theorem TA.put {pa : Addr} {kA : ClassId} {pv pv' : List Value} (T : TA Z h n0 lab k pa kA pv rc m) (hk : k ≤ 1) {r : Nat} {s ar : Addr} {xs : List Int32} (hv' : ∀ i, i ≠ r → pv'[i]? = pv[i]?) (hvr : pv'[r]? = some (.ref s)) (hl' : pv'.length = rc) (A' : Ar Z h' pa (.object ISN) kA pv') (S' : SX Z h' n0 s ar xs) (G' : Good xs) (ne : xs ≠ []) (ls : lab' s = 20 + 4 * r + 2 * k) (la : lab' ar = 21 + 4 * r + 2 * k) (K : Keep h h' ws) (ag : ∀ b, b < h.size → lab' b = lab b) (q : ∀ w ∈ ws, lab w < 20 ∨ lab w = 20 + 4 * r + 2 * k ∨ lab w = 21 + 4 * r + 2 * k) : TB Z h' n0 lab' k (.ref pa) rc (upm m r xs) := by
  obtain ⟨n1, lp, A, V, hl, hi⟩ := T
  refine Or.inr ⟨pa, kA, pv', rfl, n1, (ag _ A.lt).trans lp, A', V, hl', fun i hi' => ?_⟩
  by_cases e : i = r
  · subst e
    refine Or.inr ⟨s, ar, ?_, hvr, ?_, ?_, ls, la⟩
    · rw [upm_same]; exact ne
    · rw [upm_same]; exact S'
    · rw [upm_same]; exact G'
  · have E := (hi i hi').keep K ag (fun w hw' c => by have := q w hw'; omega)
    unfold EN at E ⊢
    rw [upm_ne e, hv' i e]
    exact E
/-- an IntList of mark n, of at most t numbers -/
def ILX (Z : State) (h : Heap) (n0 : Nat) (aN : Addr) (lab : Addr → Nat) (n t : Nat) (q va : Addr) (z : Int32) : Prop := IL Z h n0 aN q va z ∧ (¬ z < 0 ∧ z.toNatClampNeg ≤ t) ∧ lab q = n ∧ (va = aN ∨ lab va = n + 3)
theorem ILX.keep {aN q va : Addr} {n t : Nat} {z : Int32} (L : ILX Z h n0 aN lab n t q va z) (lN : aN < n0) (vl : va < h.size) (K : Keep h h' ws) (ag : ∀ b, b < h.size → lab' b = lab b) (p : ∀ w ∈ ws, ¬ (lab w = n ∨ lab w = n + 3)) : ILX Z h' n0 aN lab' n t q va z := by
  obtain ⟨S, zr, lq, lv⟩ := L
  refine ⟨S.keep K (fun y => p _ y (Or.inl lq)) (fun nv y => ?_), zr, (ag _ S.1.1.lt).trans lq, lv.imp id fun e => (ag _ vl).trans e⟩
  rcases lv with e | e
  · exact absurd nv (Nat.not_le.mpr (e ▸ lN))
  · exact p _ y (Or.inr e)
def SXL (Z : State) (h : Heap) (n0 : Nat) (lab : Addr → Nat) (ss sar : Addr) (xs : List Int32) : Prop := SX Z h n0 ss sar xs ∧ Good xs ∧ lab ss = 7 ∧ lab sar = 8
theorem SXL.keep {ss sar : Addr} {xs : List Int32} (S : SXL Z h n0 lab ss sar xs) (K : Keep h h' ws) (ag : ∀ b, b < h.size → lab' b = lab b) (p : ∀ w ∈ ws, ¬ (lab w = 7 ∨ lab w = 8)) : SXL Z h' n0 lab' ss sar xs := by
  obtain ⟨S, G, l1, l2⟩ := S
  exact ⟨IS.keep S K (fun y => p _ y (Or.inl l1)) (fun y => p _ y (Or.inr l2)), G, (ag _ (IS.lt S).1).trans l1, (ag _ (IS.lt S).2).trans l2⟩
/-- the Context's own fields -/
def FC (Z : State) (h : Heap) (c : Addr) (rc co : Int32) (l1 l2 l3 ss : Addr) (tp ts : Value) : Prop :=
  Fld Z h c CXN "subsumers" "Lcom/example/parallel_el/parallelel/util/IntSet;" (.ref ss) ∧ Fld Z h c CXN "newSubsumers" "Lcom/example/parallel_el/parallelel/util/IntList;" (.ref l1) ∧ Fld Z h c CXN "newPredecessors" "Lcom/example/parallel_el/parallelel/util/IntList;" (.ref l2) ∧ Fld Z h c CXN "newSuccessors" "Lcom/example/parallel_el/parallelel/util/IntList;" (.ref l3) ∧
  Fld Z h c CXN "predecessors" "[Lcom/example/parallel_el/parallelel/util/IntSet;" tp ∧ Fld Z h c CXN "successors" "[Lcom/example/parallel_el/parallelel/util/IntSet;" ts ∧ Fld Z h c CXN "roleCount" "I" (.int rc) ∧ Fld Z h c CXN "concept" "I" (.int co)
theorem FC.keep {c : Addr} {rc co : Int32} {l1 l2 l3 ss : Addr} {tp ts : Value} (F : FC Z h c rc co l1 l2 l3 ss tp ts) (K : Keep h h' ws) (q : c ∉ ws) : FC Z h' c rc co l1 l2 l3 ss tp ts := by
  obtain ⟨f1, f2, f3, f4, f5, f6, f7, f8⟩ := F
  exact ⟨f1.keep K q, f2.keep K q, f3.keep K q, f4.keep K q, f5.keep K q, f6.keep K q, f7.keep K q, f8.keep K q⟩
end Tables
theorem pTS : parseFieldDescriptor "Lcom/example/parallel_el/parallelel/util/IntSet;" = some (.object "com/example/parallel_el/parallelel/util/IntSet") := by decide +kernel
theorem pTL : parseFieldDescriptor "Lcom/example/parallel_el/parallelel/util/IntList;" = some (.object "com/example/parallel_el/parallelel/util/IntList") := by decide +kernel
theorem pTA : parseFieldDescriptor "[Lcom/example/parallel_el/parallelel/util/IntSet;" = some (.array (.object "com/example/parallel_el/parallelel/util/IntSet")) := by decide +kernel
def CT0 (Z : State) (h : Heap) (n0 : Nat) (aN c : Addr) (rc co : Int32) (n1 n2 n3 : Nat) (xs : List Int32) (mp ms : Nat → List Int32) (lab : Addr → Nat) (l1 l2 l3 v1 v2 v3 : Addr) (z1 z2 z3 : Int32) (ss sar : Addr) (tp ts : Value) : Prop :=
  (Old Z n0 h ∧ aN < n0 ∧ lab aN = 9) ∧ (Exa Z h c CXN ∧ n0 ≤ c ∧ lab c = 0) ∧ FC Z h c rc co l1 l2 l3 ss tp ts ∧ (¬ rc < 0 ∧ rc.toNatClampNeg ≤ 4) ∧ ILX Z h n0 aN lab 1 n1 l1 v1 z1 ∧ ILX Z h n0 aN lab 2 n2 l2 v2 z2 ∧ ILX Z h n0 aN lab 3 n3 l3 v3 z3 ∧ SXL Z h n0 lab ss sar xs ∧ TB Z h n0 lab 0 tp rc.toNatClampNeg mp ∧ TB Z h n0 lab 1 ts rc.toNatClampNeg ms
/-- a Context: its two link tables, its subsumers, and bounds for its three lists -/
def CT (Z : State) (h : Heap) (n0 : Nat) (aN c : Addr) (rc co : Int32) (n1 n2 n3 : Nat) (xs : List Int32) (mp ms : Nat → List Int32) : Prop :=
  ∃ lab l1 l2 l3 v1 v2 v3 z1 z2 z3 ss sar tp ts, CT0 Z h n0 aN c rc co n1 n2 n3 xs mp ms lab l1 l2 l3 v1 v2 v3 z1 z2 z3 ss sar tp ts
theorem mem1 {P : Addr → Prop} {a : Addr} (p : P a) : ∀ w ∈ [a], P w := by simpa using p
theorem mem3 {P : Addr → Prop} {a b c : Addr} (p : P a) (q : P b) (r : P c) : ∀ w ∈ [a, b, c], P w := by simp [p, q, r]
theorem mem4 {P : Addr → Prop} {a b c d : Addr} (p : P a) (q : P b) (r : P c) (t : P d) : ∀ w ∈ [a, b, c, d], P w := by simp [p, q, r, t]
theorem mk_lab (lab : Addr → Nat) (n : Nat) {s ar : Addr} (va : Addr) (A B D : Nat) (gs : n ≤ s) (gar : n ≤ ar) (e1 : s ≠ ar) (e2 : s ≠ va) (e3 : va ≠ ar) : ∃ lab' : Addr → Nat, (∀ b, b < n → lab' b = lab b) ∧ lab' s = A ∧ lab' ar = B ∧ (n ≤ va → lab' va = D) := by
  refine ⟨fun b => if b < n then lab b else if b = s then A else if b = ar then B else D, fun b hb => if_pos hb, ?_, ?_, fun g => ?_⟩
  · show (if s < n then lab s else if s = s then A else if s = ar then B else D) = A
    rw [if_neg (Nat.not_lt.mpr gs), if_pos rfl]
  · show (if ar < n then lab ar else if ar = s then A else if ar = ar then B else D) = B
    rw [if_neg (Nat.not_lt.mpr gar), if_neg (Ne.symm e1), if_pos rfl]
  · show (if va < n then lab va else if va = s then A else if va = ar then B else D) = D
    rw [if_neg (Nat.not_lt.mpr g), if_neg (Ne.symm e2), if_neg e3]
theorem mk_lab1 (lab : Addr → Nat) (n : Nat) (va : Addr) (D : Nat) : ∃ lab' : Addr → Nat, (∀ b, b < n → lab' b = lab b) ∧ (n ≤ va → lab' va = D) := by
  refine ⟨fun b => if b < n then lab b else D, fun b hb => if_pos hb, fun g => ?_⟩
  show (if va < n then lab va else D) = D
  rw [if_neg (Nat.not_lt.mpr g)]
theorem inc2 {z : Int32} {n : Nat} (r : ¬ z < 0 ∧ z.toNatClampNeg ≤ n) (hn : n ≤ 4) : ¬ (z + 1 + 1) < 0 ∧ (z + 1 + 1).toNatClampNeg ≤ n + 2 := by
  have e := c_iadd z 1
  have r' := rng32 (z + 1)
  have e' := c_iadd (z + 1) 1
  have r2 := rng32 (z + 1 + 1)
  have e1 : (1 : Int32).toInt = 1 := rfl
  have h0 := nonneg_iff.mp r.1
  have h1 : z.toInt.toNat ≤ n := r.2
  refine ⟨nonneg_iff.mpr (by omega), ?_⟩
  show (z + 1 + 1).toInt.toNat ≤ n + 2
  omega
theorem va_lab {h : Heap} {n0 k : Nat} {aN va va' : Addr} {lab lab' : Addr → Nat} (lN : aN < n0) (ag : ∀ b, b < h.size → lab' b = lab b) (vl : va < h.size) (lv : va = aN ∨ lab va = k + 3) (D : va' = va ∨ h.size ≤ va') (n : n0 ≤ va') (lv' : h.size ≤ va' → lab' va' = k + 3) : va' = aN ∨ lab' va' = k + 3 := by
  rcases D with rfl | D
  · exact lv.imp id fun e => (ag _ vl).trans e
  · exact Or.inr (lv' D)
theorem mk_lab7 {c l1 l2 l3 ss sar aN : Addr} (a1 : l1 ≠ c) (a2 : l2 ≠ c) (a3 : l2 ≠ l1) (a4 : l3 ≠ c) (a5 : l3 ≠ l1) (a6 : l3 ≠ l2) (a7 : ss ≠ c) (a8 : ss ≠ l1) (a9 : ss ≠ l2) (b1 : ss ≠ l3) (b2 : sar ≠ c) (b3 : sar ≠ l1) (b4 : sar ≠ l2) (b5 : sar ≠ l3) (b6 : sar ≠ ss) (b7 : aN ≠ c) (b8 : aN ≠ l1) (b9 : aN ≠ l2) (d1 : aN ≠ l3) (d2 : aN ≠ ss) (d3 : aN ≠ sar) :
    ∃ lab : Addr → Nat, lab c = 0 ∧ lab l1 = 1 ∧ lab l2 = 2 ∧ lab l3 = 3 ∧ lab ss = 7 ∧ lab sar = 8 ∧ lab aN = 9 := by
  refine ⟨fun b => if b = c then 0 else if b = l1 then 1 else if b = l2 then 2 else if b = l3 then 3 else if b = ss then 7 else if b = sar then 8 else 9, ?_, ?_, ?_, ?_, ?_, ?_, ?_⟩ <;> simp [*]

set_option maxRecDepth 65536 in
set_option maxHeartbeats 40000000 in
theorem link0 (l : Launch) (Z : State) (a0 : Array Value) (hw : Hw a0 Z) (n0 : Nat) (h : Heap) (c : Addr) (rc co : Int32) (n1 n2 n3 : Nat) (xs : List Int32) (mp ms : Nat → List Int32) (lab : Addr → Nat) (l1 l2 l3 v1 v2 v3 : Addr) (z1 z2 z3 : Int32) (ss sar : Addr) (tp ts : Value) (pa : Addr) (kA : ClassId) (pv : List Value) (a_NONE : Addr) (k_NONE : ClassId) (vs_NONE : List Value) (F : Facts Z a_NONE k_NONE vs_NONE) (C0 : CT0 Z h n0 a_NONE c rc co n1 n2 n3 xs mp ms lab l1 l2 l3 v1 v2 v3 z1 z2 z3 ss sar (.ref pa) ts) (Tx : TA Z h n0 lab 0 pa kA pv rc.toNatClampNeg mp) (r u : Int32) (hr : ¬ r < 0 ∧ r.toNatClampNeg < rc.toNatClampNeg) (hu : ¬ u < 0) (sm : Small (mp r.toNatClampNeg)) (hn : n2 ≤ 4) {Q : Option Value → Heap → Prop} (hQ : ∀ h' (b : Int32), b = 0 ∨ b = 1 → CT Z h' n0 a_NONE c rc co n1 (n2 + 2) n3 xs (upm mp r.toNatClampNeg (ins u (mp r.toNatClampNeg))) ms → Q (some (.int b)) h') :
    Go l Z (⟨"com/example/parallel_el/parallelel/reasoning/Context", "addLink", "([Lcom/example/parallel_el/parallelel/util/IntSet;Lcom/example/parallel_el/parallelel/util/IntList;II)Z"⟩ : MethodName) prog_7_method_7_code 4 (some .boolean) ({ frames := 4, cells := 4, slots := 22, locals := 110 } : Room) n0 Q h 0 0 0 #[.val (.ref pa), .val (.ref l2), .val (.int r), .val (.int u)] [] := by
  obtain ⟨⟨O, lN, lA⟩, ⟨Ec, nc, lc⟩, Fc, rcr, X1, X2, X3, Sx, T0, T1⟩ := C0
  have lp := Tx.2.1
  have lq := X2.2.2.1
  have lv : lab v2 = 9 ∨ lab v2 = 5 := by
    rcases X2.2.2.2 with e | e
    · exact Or.inl (by rw [e]; exact lA)
    · exact Or.inr e
  have vl1 := X1.1.vlt O F
  have vl2 := X2.1.vlt O F
  have vl3 := X3.1.vlt O F
  have hzn := X2.2.1.2
  rcases Tx.2.2.2.2.2 r.toNatClampNeg hr.2 with ⟨hm, hv⟩ | ⟨s, ar, hm, hv, S, G, ls, la⟩
  · refine linkN l Z a0 hw n0 h O pa l2 v2 z2 r u kA pv a_NONE k_NONE vs_NONE F Tx.2.2.1 Tx.2.2.2.1 Tx.1 ⟨hr.1, by rw [Tx.2.2.2.2.1]; exact hr.2⟩ X2.1 ⟨X2.2.1.1, by omega⟩ hu (fun e => by have e2 := congrArg lab e; omega) hv ?_
    intro h' s ar va' O' gs gar A' S' L' K D nva vne
    have sne : s ≠ ar := by
      obtain ⟨-, -, -, kS, AS⟩ := (show IS Z h' n0 s ar _ _ from S')
      exact Ar.ne S'.1.1 (w11 hw) AS
    obtain ⟨lab', ag, ls', la', lv'⟩ := mk_lab lab h.size va' (20 + 4 * r.toNatClampNeg + 2 * 0) (21 + 4 * r.toNatClampNeg + 2 * 0) (2 + 3) gs gar sne (L'.vne hw O' F S'.1.1 (w11 hw)) vne
    have e : ins u (mp r.toNatClampNeg) = [u] := by rw [hm]; rfl
    rw [e] at hQ
    exact hQ h' 1 (Or.inr rfl) ⟨lab', l1, l2, l3, v1, va', v3, z1, z2 + 1 + 1, z3, ss, sar, _, _, ⟨O', lN, (ag _ (Nat.lt_of_lt_of_le lN (O.1 ▸ O.2.1))).trans lA⟩, ⟨Ec.keep K, nc, (ag _ Ec.lt).trans lc⟩, Fc.keep K (fun y => absurd y (nin3 (fun e => by have e2 := congrArg lab e; omega) (fun e => by have e2 := congrArg lab e; omega) (fun e => by have e2 := congrArg lab e; omega))), rcr, (X1.keep lN vl1 K ag (mem3 (P := fun w => ¬ (lab w = 1 ∨ lab w = 1 + 3)) (by show ¬ (lab pa = 1 ∨ lab pa = 1 + 3); omega) (by show ¬ (lab l2 = 1 ∨ lab l2 = 1 + 3); omega) (by show ¬ (lab v2 = 1 ∨ lab v2 = 1 + 3); omega))), ⟨L', inc2 X2.2.1 hn, (ag _ X2.1.1.1.lt).trans X2.2.2.1, va_lab lN ag vl2 X2.2.2.2 D nva lv'⟩, (X3.keep lN vl3 K ag (mem3 (P := fun w => ¬ (lab w = 3 ∨ lab w = 3 + 3)) (by show ¬ (lab pa = 3 ∨ lab pa = 3 + 3); omega) (by show ¬ (lab l2 = 3 ∨ lab l2 = 3 + 3); omega) (by show ¬ (lab v2 = 3 ∨ lab v2 = 3 + 3); omega))), Sx.keep K ag (mem3 (P := fun w => ¬ (lab w = 7 ∨ lab w = 8)) (by show ¬ (lab pa = 7 ∨ lab pa = 8); omega) (by show ¬ (lab l2 = 7 ∨ lab l2 = 8); omega) (by show ¬ (lab v2 = 7 ∨ lab v2 = 8); omega)), (TA.put Tx (by decide) (r := r.toNatClampNeg) (pv' := pv.set r.toNatClampNeg (.ref s)) (fun i hi => List.getElem?_set_ne (Ne.symm hi)) (List.getElem?_set_self (by rw [Tx.2.2.2.2.1]; exact hr.2)) (by rw [List.length_set]; exact Tx.2.2.2.2.1) A' S' (Or.inl (Or.inr ⟨u, rfl, hu⟩)) (by simp) ls' la' K ag (mem3 (P := fun w => lab w < 20 ∨ lab w = 20 + 4 * r.toNatClampNeg + 2 * 0 ∨ lab w = 21 + 4 * r.toNatClampNeg + 2 * 0) (by show lab pa < 20 ∨ lab pa = 20 + 4 * r.toNatClampNeg + 2 * 0 ∨ lab pa = 21 + 4 * r.toNatClampNeg + 2 * 0; omega) (by show lab l2 < 20 ∨ lab l2 = 20 + 4 * r.toNatClampNeg + 2 * 0 ∨ lab l2 = 21 + 4 * r.toNatClampNeg + 2 * 0; omega) (by show lab v2 < 20 ∨ lab v2 = 20 + 4 * r.toNatClampNeg + 2 * 0 ∨ lab v2 = 21 + 4 * r.toNatClampNeg + 2 * 0; omega))), (T1.keep (by decide) K ag (mem3 (P := fun w => ¬ nTB 1 (lab w)) (by show ¬ nTB 1 (lab pa); unfold nTB; omega) (by show ¬ nTB 1 (lab l2); unfold nTB; omega) (by show ¬ nTB 1 (lab v2); unfold nTB; omega)))⟩
  · refine linkO l Z a0 hw n0 h O pa l2 v2 z2 r u kA pv a_NONE k_NONE vs_NONE F Tx.2.2.1 Tx.2.2.2.1 Tx.1 ⟨hr.1, by rw [Tx.2.2.2.2.1]; exact hr.2⟩ X2.1 ⟨X2.2.1.1, by omega⟩ hu s ar (mp r.toNatClampNeg) S sm (fun e => by have e2 := congrArg lab e; omega) hv (fun hin => ?_) ?_
    · rw [upm_in hin] at hQ
      exact hQ h 0 (Or.inl rfl) ⟨lab, l1, l2, l3, v1, v2, v3, z1, z2, z3, ss, sar, _, _, ⟨O, lN, lA⟩, ⟨Ec, nc, lc⟩, Fc, rcr, X1, ⟨X2.1, ⟨X2.2.1.1, Nat.le_trans X2.2.1.2 (Nat.le_add_right _ 2)⟩, X2.2.2⟩, X3, Sx, T0, T1⟩
    · intro hin h' va' O' S' L' K D nva
      obtain ⟨lab', ag, lv'⟩ := mk_lab1 lab h.size va' (2 + 3)
      have e : ins u (mp r.toNatClampNeg) = u :: mp r.toNatClampNeg := if_neg hin
      have G' := good_ins sm hu
      rw [e] at hQ G'
      exact hQ h' 1 (Or.inr rfl) ⟨lab', l1, l2, l3, v1, va', v3, z1, z2 + 1 + 1, z3, ss, sar, _, _, ⟨O', lN, (ag _ (Nat.lt_of_lt_of_le lN (O.1 ▸ O.2.1))).trans lA⟩, ⟨Ec.keep K, nc, (ag _ Ec.lt).trans lc⟩, Fc.keep K (fun y => absurd y (nin4 (fun e => by have e2 := congrArg lab e; omega) (fun e => by have e2 := congrArg lab e; omega) (fun e => by have e2 := congrArg lab e; omega) (fun e => by have e2 := congrArg lab e; omega))), rcr, (X1.keep lN vl1 K ag (mem4 (P := fun w => ¬ (lab w = 1 ∨ lab w = 1 + 3)) (by show ¬ (lab s = 1 ∨ lab s = 1 + 3); omega) (by show ¬ (lab ar = 1 ∨ lab ar = 1 + 3); omega) (by show ¬ (lab l2 = 1 ∨ lab l2 = 1 + 3); omega) (by show ¬ (lab v2 = 1 ∨ lab v2 = 1 + 3); omega))), ⟨L', inc2 X2.2.1 hn, (ag _ X2.1.1.1.lt).trans X2.2.2.1, va_lab lN ag vl2 X2.2.2.2 D nva lv'⟩, (X3.keep lN vl3 K ag (mem4 (P := fun w => ¬ (lab w = 3 ∨ lab w = 3 + 3)) (by show ¬ (lab s = 3 ∨ lab s = 3 + 3); omega) (by show ¬ (lab ar = 3 ∨ lab ar = 3 + 3); omega) (by show ¬ (lab l2 = 3 ∨ lab l2 = 3 + 3); omega) (by show ¬ (lab v2 = 3 ∨ lab v2 = 3 + 3); omega))), Sx.keep K ag (mem4 (P := fun w => ¬ (lab w = 7 ∨ lab w = 8)) (by show ¬ (lab s = 7 ∨ lab s = 8); omega) (by show ¬ (lab ar = 7 ∨ lab ar = 8); omega) (by show ¬ (lab l2 = 7 ∨ lab l2 = 8); omega) (by show ¬ (lab v2 = 7 ∨ lab v2 = 8); omega)), (TA.put Tx (by decide) (r := r.toNatClampNeg) (pv' := pv) (fun _ _ => rfl) hv Tx.2.2.2.2.1 (Tx.2.2.1.keep K (nin4 (fun e => by have e2 := congrArg lab e; omega) (fun e => by have e2 := congrArg lab e; omega) (fun e => by have e2 := congrArg lab e; omega) (fun e => by have e2 := congrArg lab e; omega))) S' G' (by simp) ((ag _ (IS.lt S).1).trans ls) ((ag _ (IS.lt S).2).trans la) K ag (mem4 (P := fun w => lab w < 20 ∨ lab w = 20 + 4 * r.toNatClampNeg + 2 * 0 ∨ lab w = 21 + 4 * r.toNatClampNeg + 2 * 0) (by show lab s < 20 ∨ lab s = 20 + 4 * r.toNatClampNeg + 2 * 0 ∨ lab s = 21 + 4 * r.toNatClampNeg + 2 * 0; omega) (by show lab ar < 20 ∨ lab ar = 20 + 4 * r.toNatClampNeg + 2 * 0 ∨ lab ar = 21 + 4 * r.toNatClampNeg + 2 * 0; omega) (by show lab l2 < 20 ∨ lab l2 = 20 + 4 * r.toNatClampNeg + 2 * 0 ∨ lab l2 = 21 + 4 * r.toNatClampNeg + 2 * 0; omega) (by show lab v2 < 20 ∨ lab v2 = 20 + 4 * r.toNatClampNeg + 2 * 0 ∨ lab v2 = 21 + 4 * r.toNatClampNeg + 2 * 0; omega))), (T1.keep (by decide) K ag (mem4 (P := fun w => ¬ nTB 1 (lab w)) (by show ¬ nTB 1 (lab s); unfold nTB; omega) (by show ¬ nTB 1 (lab ar); unfold nTB; omega) (by show ¬ nTB 1 (lab l2); unfold nTB; omega) (by show ¬ nTB 1 (lab v2); unfold nTB; omega)))⟩
set_option maxRecDepth 65536 in
set_option maxHeartbeats 40000000 in
theorem link1 (l : Launch) (Z : State) (a0 : Array Value) (hw : Hw a0 Z) (n0 : Nat) (h : Heap) (c : Addr) (rc co : Int32) (n1 n2 n3 : Nat) (xs : List Int32) (mp ms : Nat → List Int32) (lab : Addr → Nat) (l1 l2 l3 v1 v2 v3 : Addr) (z1 z2 z3 : Int32) (ss sar : Addr) (tp ts : Value) (pa : Addr) (kA : ClassId) (pv : List Value) (a_NONE : Addr) (k_NONE : ClassId) (vs_NONE : List Value) (F : Facts Z a_NONE k_NONE vs_NONE) (C0 : CT0 Z h n0 a_NONE c rc co n1 n2 n3 xs mp ms lab l1 l2 l3 v1 v2 v3 z1 z2 z3 ss sar tp (.ref pa)) (Tx : TA Z h n0 lab 1 pa kA pv rc.toNatClampNeg ms) (r u : Int32) (hr : ¬ r < 0 ∧ r.toNatClampNeg < rc.toNatClampNeg) (hu : ¬ u < 0) (sm : Small (ms r.toNatClampNeg)) (hn : n3 ≤ 4) {Q : Option Value → Heap → Prop} (hQ : ∀ h' (b : Int32), b = 0 ∨ b = 1 → CT Z h' n0 a_NONE c rc co n1 n2 (n3 + 2) xs mp (upm ms r.toNatClampNeg (ins u (ms r.toNatClampNeg))) → Q (some (.int b)) h') :
    Go l Z (⟨"com/example/parallel_el/parallelel/reasoning/Context", "addLink", "([Lcom/example/parallel_el/parallelel/util/IntSet;Lcom/example/parallel_el/parallelel/util/IntList;II)Z"⟩ : MethodName) prog_7_method_7_code 4 (some .boolean) ({ frames := 4, cells := 4, slots := 22, locals := 110 } : Room) n0 Q h 0 0 0 #[.val (.ref pa), .val (.ref l3), .val (.int r), .val (.int u)] [] := by
  obtain ⟨⟨O, lN, lA⟩, ⟨Ec, nc, lc⟩, Fc, rcr, X1, X2, X3, Sx, T0, T1⟩ := C0
  have lp := Tx.2.1
  have lq := X3.2.2.1
  have lv : lab v3 = 9 ∨ lab v3 = 6 := by
    rcases X3.2.2.2 with e | e
    · exact Or.inl (by rw [e]; exact lA)
    · exact Or.inr e
  have vl1 := X1.1.vlt O F
  have vl2 := X2.1.vlt O F
  have vl3 := X3.1.vlt O F
  have hzn := X3.2.1.2
  rcases Tx.2.2.2.2.2 r.toNatClampNeg hr.2 with ⟨hm, hv⟩ | ⟨s, ar, hm, hv, S, G, ls, la⟩
  · refine linkN l Z a0 hw n0 h O pa l3 v3 z3 r u kA pv a_NONE k_NONE vs_NONE F Tx.2.2.1 Tx.2.2.2.1 Tx.1 ⟨hr.1, by rw [Tx.2.2.2.2.1]; exact hr.2⟩ X3.1 ⟨X3.2.1.1, by omega⟩ hu (fun e => by have e2 := congrArg lab e; omega) hv ?_
    intro h' s ar va' O' gs gar A' S' L' K D nva vne
    have sne : s ≠ ar := by
      obtain ⟨-, -, -, kS, AS⟩ := (show IS Z h' n0 s ar _ _ from S')
      exact Ar.ne S'.1.1 (w11 hw) AS
    obtain ⟨lab', ag, ls', la', lv'⟩ := mk_lab lab h.size va' (20 + 4 * r.toNatClampNeg + 2 * 1) (21 + 4 * r.toNatClampNeg + 2 * 1) (3 + 3) gs gar sne (L'.vne hw O' F S'.1.1 (w11 hw)) vne
    have e : ins u (ms r.toNatClampNeg) = [u] := by rw [hm]; rfl
    rw [e] at hQ
    exact hQ h' 1 (Or.inr rfl) ⟨lab', l1, l2, l3, v1, v2, va', z1, z2, z3 + 1 + 1, ss, sar, _, _, ⟨O', lN, (ag _ (Nat.lt_of_lt_of_le lN (O.1 ▸ O.2.1))).trans lA⟩, ⟨Ec.keep K, nc, (ag _ Ec.lt).trans lc⟩, Fc.keep K (fun y => absurd y (nin3 (fun e => by have e2 := congrArg lab e; omega) (fun e => by have e2 := congrArg lab e; omega) (fun e => by have e2 := congrArg lab e; omega))), rcr, (X1.keep lN vl1 K ag (mem3 (P := fun w => ¬ (lab w = 1 ∨ lab w = 1 + 3)) (by show ¬ (lab pa = 1 ∨ lab pa = 1 + 3); omega) (by show ¬ (lab l3 = 1 ∨ lab l3 = 1 + 3); omega) (by show ¬ (lab v3 = 1 ∨ lab v3 = 1 + 3); omega))), (X2.keep lN vl2 K ag (mem3 (P := fun w => ¬ (lab w = 2 ∨ lab w = 2 + 3)) (by show ¬ (lab pa = 2 ∨ lab pa = 2 + 3); omega) (by show ¬ (lab l3 = 2 ∨ lab l3 = 2 + 3); omega) (by show ¬ (lab v3 = 2 ∨ lab v3 = 2 + 3); omega))), ⟨L', inc2 X3.2.1 hn, (ag _ X3.1.1.1.lt).trans X3.2.2.1, va_lab lN ag vl3 X3.2.2.2 D nva lv'⟩, Sx.keep K ag (mem3 (P := fun w => ¬ (lab w = 7 ∨ lab w = 8)) (by show ¬ (lab pa = 7 ∨ lab pa = 8); omega) (by show ¬ (lab l3 = 7 ∨ lab l3 = 8); omega) (by show ¬ (lab v3 = 7 ∨ lab v3 = 8); omega)), (T0.keep (by decide) K ag (mem3 (P := fun w => ¬ nTB 0 (lab w)) (by show ¬ nTB 0 (lab pa); unfold nTB; omega) (by show ¬ nTB 0 (lab l3); unfold nTB; omega) (by show ¬ nTB 0 (lab v3); unfold nTB; omega))), (TA.put Tx (by decide) (r := r.toNatClampNeg) (pv' := pv.set r.toNatClampNeg (.ref s)) (fun i hi => List.getElem?_set_ne (Ne.symm hi)) (List.getElem?_set_self (by rw [Tx.2.2.2.2.1]; exact hr.2)) (by rw [List.length_set]; exact Tx.2.2.2.2.1) A' S' (Or.inl (Or.inr ⟨u, rfl, hu⟩)) (by simp) ls' la' K ag (mem3 (P := fun w => lab w < 20 ∨ lab w = 20 + 4 * r.toNatClampNeg + 2 * 1 ∨ lab w = 21 + 4 * r.toNatClampNeg + 2 * 1) (by show lab pa < 20 ∨ lab pa = 20 + 4 * r.toNatClampNeg + 2 * 1 ∨ lab pa = 21 + 4 * r.toNatClampNeg + 2 * 1; omega) (by show lab l3 < 20 ∨ lab l3 = 20 + 4 * r.toNatClampNeg + 2 * 1 ∨ lab l3 = 21 + 4 * r.toNatClampNeg + 2 * 1; omega) (by show lab v3 < 20 ∨ lab v3 = 20 + 4 * r.toNatClampNeg + 2 * 1 ∨ lab v3 = 21 + 4 * r.toNatClampNeg + 2 * 1; omega)))⟩
  · refine linkO l Z a0 hw n0 h O pa l3 v3 z3 r u kA pv a_NONE k_NONE vs_NONE F Tx.2.2.1 Tx.2.2.2.1 Tx.1 ⟨hr.1, by rw [Tx.2.2.2.2.1]; exact hr.2⟩ X3.1 ⟨X3.2.1.1, by omega⟩ hu s ar (ms r.toNatClampNeg) S sm (fun e => by have e2 := congrArg lab e; omega) hv (fun hin => ?_) ?_
    · rw [upm_in hin] at hQ
      exact hQ h 0 (Or.inl rfl) ⟨lab, l1, l2, l3, v1, v2, v3, z1, z2, z3, ss, sar, _, _, ⟨O, lN, lA⟩, ⟨Ec, nc, lc⟩, Fc, rcr, X1, X2, ⟨X3.1, ⟨X3.2.1.1, Nat.le_trans X3.2.1.2 (Nat.le_add_right _ 2)⟩, X3.2.2⟩, Sx, T0, T1⟩
    · intro hin h' va' O' S' L' K D nva
      obtain ⟨lab', ag, lv'⟩ := mk_lab1 lab h.size va' (3 + 3)
      have e : ins u (ms r.toNatClampNeg) = u :: ms r.toNatClampNeg := if_neg hin
      have G' := good_ins sm hu
      rw [e] at hQ G'
      exact hQ h' 1 (Or.inr rfl) ⟨lab', l1, l2, l3, v1, v2, va', z1, z2, z3 + 1 + 1, ss, sar, _, _, ⟨O', lN, (ag _ (Nat.lt_of_lt_of_le lN (O.1 ▸ O.2.1))).trans lA⟩, ⟨Ec.keep K, nc, (ag _ Ec.lt).trans lc⟩, Fc.keep K (fun y => absurd y (nin4 (fun e => by have e2 := congrArg lab e; omega) (fun e => by have e2 := congrArg lab e; omega) (fun e => by have e2 := congrArg lab e; omega) (fun e => by have e2 := congrArg lab e; omega))), rcr, (X1.keep lN vl1 K ag (mem4 (P := fun w => ¬ (lab w = 1 ∨ lab w = 1 + 3)) (by show ¬ (lab s = 1 ∨ lab s = 1 + 3); omega) (by show ¬ (lab ar = 1 ∨ lab ar = 1 + 3); omega) (by show ¬ (lab l3 = 1 ∨ lab l3 = 1 + 3); omega) (by show ¬ (lab v3 = 1 ∨ lab v3 = 1 + 3); omega))), (X2.keep lN vl2 K ag (mem4 (P := fun w => ¬ (lab w = 2 ∨ lab w = 2 + 3)) (by show ¬ (lab s = 2 ∨ lab s = 2 + 3); omega) (by show ¬ (lab ar = 2 ∨ lab ar = 2 + 3); omega) (by show ¬ (lab l3 = 2 ∨ lab l3 = 2 + 3); omega) (by show ¬ (lab v3 = 2 ∨ lab v3 = 2 + 3); omega))), ⟨L', inc2 X3.2.1 hn, (ag _ X3.1.1.1.lt).trans X3.2.2.1, va_lab lN ag vl3 X3.2.2.2 D nva lv'⟩, Sx.keep K ag (mem4 (P := fun w => ¬ (lab w = 7 ∨ lab w = 8)) (by show ¬ (lab s = 7 ∨ lab s = 8); omega) (by show ¬ (lab ar = 7 ∨ lab ar = 8); omega) (by show ¬ (lab l3 = 7 ∨ lab l3 = 8); omega) (by show ¬ (lab v3 = 7 ∨ lab v3 = 8); omega)), (T0.keep (by decide) K ag (mem4 (P := fun w => ¬ nTB 0 (lab w)) (by show ¬ nTB 0 (lab s); unfold nTB; omega) (by show ¬ nTB 0 (lab ar); unfold nTB; omega) (by show ¬ nTB 0 (lab l3); unfold nTB; omega) (by show ¬ nTB 0 (lab v3); unfold nTB; omega))), (TA.put Tx (by decide) (r := r.toNatClampNeg) (pv' := pv) (fun _ _ => rfl) hv Tx.2.2.2.2.1 (Tx.2.2.1.keep K (nin4 (fun e => by have e2 := congrArg lab e; omega) (fun e => by have e2 := congrArg lab e; omega) (fun e => by have e2 := congrArg lab e; omega) (fun e => by have e2 := congrArg lab e; omega))) S' G' (by simp) ((ag _ (IS.lt S).1).trans ls) ((ag _ (IS.lt S).2).trans la) K ag (mem4 (P := fun w => lab w < 20 ∨ lab w = 20 + 4 * r.toNatClampNeg + 2 * 1 ∨ lab w = 21 + 4 * r.toNatClampNeg + 2 * 1) (by show lab s < 20 ∨ lab s = 20 + 4 * r.toNatClampNeg + 2 * 1 ∨ lab s = 21 + 4 * r.toNatClampNeg + 2 * 1; omega) (by show lab ar < 20 ∨ lab ar = 20 + 4 * r.toNatClampNeg + 2 * 1 ∨ lab ar = 21 + 4 * r.toNatClampNeg + 2 * 1; omega) (by show lab l3 < 20 ∨ lab l3 = 20 + 4 * r.toNatClampNeg + 2 * 1 ∨ lab l3 = 21 + 4 * r.toNatClampNeg + 2 * 1; omega) (by show lab v3 < 20 ∨ lab v3 = 20 + 4 * r.toNatClampNeg + 2 * 1 ∨ lab v3 = 21 + 4 * r.toNatClampNeg + 2 * 1; omega)))⟩
set_option maxRecDepth 65536 in
set_option maxHeartbeats 40000000 in
theorem add180a (l : Launch) (Z : State) (a0 : Array Value) (hw : Hw a0 Z) (n0 : Nat) (h : Heap) (c : Addr) (rc co : Int32) (n1 n2 n3 : Nat) (xs : List Int32) (mp ms : Nat → List Int32) (lab : Addr → Nat) (l1 l2 l3 v1 v2 v3 : Addr) (z1 z2 z3 : Int32) (ss sar : Addr) (tp ts : Value) (pa : Addr) (kA : ClassId) (pv : List Value) (a_NONE : Addr) (k_NONE : ClassId) (vs_NONE : List Value) (F : Facts Z a_NONE k_NONE vs_NONE) (C0 : CT0 Z h n0 a_NONE c rc co n1 n2 n3 xs mp ms lab l1 l2 l3 v1 v2 v3 z1 z2 z3 ss sar (.ref pa) ts) (Tx : TA Z h n0 lab 0 pa kA pv rc.toNatClampNeg mp) (r u : Int32) (hr : ¬ r < 0 ∧ r.toNatClampNeg < rc.toNatClampNeg) (hu : ¬ u < 0) (sm : Small (mp r.toNatClampNeg)) (hn : n2 ≤ 4) {Q : Option Value → Heap → Prop} (hQ : ∀ h' (b : Int32), b = 0 ∨ b = 1 → CT Z h' n0 a_NONE c rc co n1 (n2 + 2) n3 xs (upm mp r.toNatClampNeg (ins u (mp r.toNatClampNeg))) ms → Q (some (.int b)) h') :
    Go l Z (⟨"com/example/parallel_el/parallelel/reasoning/Context", "addPredecessor", "(II)Z"⟩ : MethodName) prog_7_method_5_code 3 (some .boolean) ({ frames := 5, cells := 5, slots := 26, locals := 140 } : Room) n0 Q h 0 0 18 #[.val (.ref c), .val (.int r), .val (.int u)] [] := by
  refine Go.aloadN d7_18 (q := 19) rfl rfl rfl ?_
  refine Go.getF d7_19 (q := 22) rfl (host := "") (Or.inl (w55 hw)) Via.refl C0.2.2.1.2.2.2.2.1 ?_
  refine Go.aloadN d7_22 (q := 23) rfl rfl rfl ?_
  refine Go.getF d7_23 (q := 26) rfl (host := "") (Or.inl (w42 hw)) Via.refl C0.2.2.1.2.2.1 ?_
  refine Go.iloadN d7_26 (q := 27) rfl rfl ?_
  refine Go.iloadN d7_27 (q := 28) rfl rfl ?_
  refine Go.callSV (P := fun w h' => ∃ b : Int32, w = .int b ∧ (b = 0 ∨ b = 1) ∧ CT Z h' n0 a_NONE c rc co n1 (n2 + 2) n3 xs (upm mp r.toNatClampNeg (ins u (mp r.toNatClampNeg))) ms) (argsL := [(.ref pa), (.ref l2), (.int r), (.int u)]) (rest := []) (wd := 0) (Ls1 := #[.val (.ref pa), .val (.ref l2), .val (.int r), .val (.int u)]) d7_28 (q := 31) rfl (w58 hw) (w59 hw) (w3 hw) (w60 hw) (by decide) pn8 pd8 rfl rfl (fun m_ => by simp [entryFrame, mkF, argsToLocals, Value.category]) rfl (by decide) rfl (by decide) (by decide) (by decide) (link0 l Z a0 hw n0 h c rc co n1 n2 n3 xs mp ms lab l1 l2 l3 v1 v2 v3 z1 z2 z3 ss sar ts ts pa kA pv a_NONE k_NONE vs_NONE F C0 Tx r u hr hu sm hn (Q := RV (fun w h' => ∃ b : Int32, w = .int b ∧ (b = 0 ∨ b = 1) ∧ CT Z h' n0 a_NONE c rc co n1 (n2 + 2) n3 xs (upm mp r.toNatClampNeg (ins u (mp r.toNatClampNeg))) ms)) (fun h' b q1 q2 => ⟨_, rfl, b, rfl, q1, q2⟩)) ?_
  rintro _ h2 ⟨b, rfl, b01, C2⟩
  refine Go.zreturn d7_31 (by decide) (by decide) b01 ?_
  exact hQ h2 b b01 C2
set_option maxRecDepth 65536 in
set_option maxHeartbeats 40000000 in
theorem add180b (l : Launch) (Z : State) (a0 : Array Value) (hw : Hw a0 Z) (n0 : Nat) (h : Heap) (c : Addr) (rc co : Int32) (n1 n2 n3 : Nat) (xs : List Int32) (mp ms : Nat → List Int32) (lab : Addr → Nat) (l1 l2 l3 v1 v2 v3 : Addr) (z1 z2 z3 : Int32) (ss sar : Addr) (tp ts : Value) (pa : Addr) (kA : ClassId) (pv : List Value) (a_NONE : Addr) (k_NONE : ClassId) (vs_NONE : List Value) (F : Facts Z a_NONE k_NONE vs_NONE) (C0 : CT0 Z h n0 a_NONE c rc co n1 n2 n3 xs mp ms lab l1 l2 l3 v1 v2 v3 z1 z2 z3 ss sar (.ref pa) ts) (Tx : TA Z h n0 lab 0 pa kA pv rc.toNatClampNeg mp) (r u : Int32) (hr : ¬ r < 0 ∧ r.toNatClampNeg < rc.toNatClampNeg) (hu : ¬ u < 0) (sm : Small (mp r.toNatClampNeg)) (hn : n2 ≤ 4) {Q : Option Value → Heap → Prop} (hQ : ∀ h' (b : Int32), b = 0 ∨ b = 1 → CT Z h' n0 a_NONE c rc co n1 (n2 + 2) n3 xs (upm mp r.toNatClampNeg (ins u (mp r.toNatClampNeg))) ms → Q (some (.int b)) h') :
    Go l Z (⟨"com/example/parallel_el/parallelel/reasoning/Context", "addPredecessor", "(II)Z"⟩ : MethodName) prog_7_method_5_code 3 (some .boolean) ({ frames := 5, cells := 5, slots := 26, locals := 140 } : Room) n0 Q h 1 4 18 #[.val (.ref c), .val (.int r), .val (.int u)] [] := by
  refine Go.aloadN d7_18 (q := 19) rfl rfl rfl ?_
  refine Go.getF d7_19 (q := 22) rfl (host := "") (Or.inl (w55 hw)) Via.refl C0.2.2.1.2.2.2.2.1 ?_
  refine Go.aloadN d7_22 (q := 23) rfl rfl rfl ?_
  refine Go.getF d7_23 (q := 26) rfl (host := "") (Or.inl (w42 hw)) Via.refl C0.2.2.1.2.2.1 ?_
  refine Go.iloadN d7_26 (q := 27) rfl rfl ?_
  refine Go.iloadN d7_27 (q := 28) rfl rfl ?_
  refine Go.callSV (P := fun w h' => ∃ b : Int32, w = .int b ∧ (b = 0 ∨ b = 1) ∧ CT Z h' n0 a_NONE c rc co n1 (n2 + 2) n3 xs (upm mp r.toNatClampNeg (ins u (mp r.toNatClampNeg))) ms) (argsL := [(.ref pa), (.ref l2), (.int r), (.int u)]) (rest := []) (wd := 0) (Ls1 := #[.val (.ref pa), .val (.ref l2), .val (.int r), .val (.int u)]) d7_28 (q := 31) rfl (w58 hw) (w59 hw) (w3 hw) (w60 hw) (by decide) pn8 pd8 rfl rfl (fun m_ => by simp [entryFrame, mkF, argsToLocals, Value.category]) rfl (by decide) rfl (by decide) (by decide) (by decide) (link0 l Z a0 hw n0 h c rc co n1 n2 n3 xs mp ms lab l1 l2 l3 v1 v2 v3 z1 z2 z3 ss sar ts ts pa kA pv a_NONE k_NONE vs_NONE F C0 Tx r u hr hu sm hn (Q := RV (fun w h' => ∃ b : Int32, w = .int b ∧ (b = 0 ∨ b = 1) ∧ CT Z h' n0 a_NONE c rc co n1 (n2 + 2) n3 xs (upm mp r.toNatClampNeg (ins u (mp r.toNatClampNeg))) ms)) (fun h' b q1 q2 => ⟨_, rfl, b, rfl, q1, q2⟩)) ?_
  rintro _ h2 ⟨b, rfl, b01, C2⟩
  refine Go.zreturn d7_31 (by decide) (by decide) b01 ?_
  exact hQ h2 b b01 C2
set_option maxRecDepth 65536 in
set_option maxHeartbeats 40000000 in
theorem add0 (l : Launch) (Z : State) (a0 : Array Value) (hw : Hw a0 Z) (n0 : Nat) (h : Heap) (c : Addr) (rc co : Int32) (n1 n2 n3 : Nat) (xs : List Int32) (mp ms : Nat → List Int32) (a_NONE : Addr) (k_NONE : ClassId) (vs_NONE : List Value) (F : Facts Z a_NONE k_NONE vs_NONE) (Ct : CT Z h n0 a_NONE c rc co n1 n2 n3 xs mp ms) (r u : Int32) (hr : ¬ r < 0 ∧ r.toNatClampNeg < rc.toNatClampNeg) (hu : ¬ u < 0) (sm : Small (mp r.toNatClampNeg)) (hn : n2 ≤ 4) {Q : Option Value → Heap → Prop} (hQ : ∀ h' (b : Int32), b = 0 ∨ b = 1 → CT Z h' n0 a_NONE c rc co n1 (n2 + 2) n3 xs (upm mp r.toNatClampNeg (ins u (mp r.toNatClampNeg))) ms → Q (some (.int b)) h') :
    Go l Z (⟨"com/example/parallel_el/parallelel/reasoning/Context", "addPredecessor", "(II)Z"⟩ : MethodName) prog_7_method_5_code 3 (some .boolean) ({ frames := 5, cells := 5, slots := 26, locals := 140 } : Room) n0 Q h 0 0 0 #[.val (.ref c), .val (.int r), .val (.int u)] [] := by
  obtain ⟨lab, l1, l2, l3, v1, v2, v3, z1, z2, z3, ss, sar, tp, ts, ⟨O, lN, lA⟩, ⟨Ec, nc, lc⟩, Fc, rcr, X1, X2, X3, Sx, T0, T1⟩ := Ct
  rcases T0 with ⟨rfl, mz⟩ | ⟨pa, kA, pv, rfl, Tx⟩
  · skip
    refine Go.aloadN d7_0 (q := 1) rfl rfl rfl ?_
    refine Go.getF d7_1 (q := 4) rfl (host := "") (Or.inl (w55 hw)) Via.refl Fc.2.2.2.2.1 ?_
    refine Go.ifnonnull d7_4 (q := 18) (q' := 7) (by decide) rfl rfl rfl (fun _ e => by cases e) (fun _ => ?_)
    refine Go.aloadN d7_7 (q := 8) rfl rfl rfl ?_
    refine Go.aloadN d7_8 (q := 9) rfl rfl rfl ?_
    refine Go.getF d7_9 (q := 12) rfl (host := "") (Or.inl (w48 hw)) Via.refl Fc.2.2.2.2.2.2.1 ?_
    refine Go.anewarray (cap := 4) d7_12 (q := 15) rfl (w10 hw) (w57 hw) rcr.1 rcr.2 (by decide) (by decide) (by decide) ?_
    intro h1 pa kA e1 Xt A1 V1
    have gpa : h.size ≤ pa := Nat.le_of_eq e1.symm
    refine Go.putF d7_15 (q := 18) rfl (host := "") (Or.inl (w55 hw)) Via.refl (Fc.2.2.2.2.1.ext Xt) (Ec.ext Xt) (Or.inl (w56 hw)) (w2 hw) pTA rfl rfl nc ?_
    intro h2 W2
    have K : Keep h h2 [c] := ((Keep.refl h [c]).ext Xt).wr W2 (Or.inl (by simp))
    obtain ⟨lab2, ag, lpa⟩ := mk_lab1 lab h.size pa (10 + 0)
    have vl1 := X1.1.vlt O F
    have vl2 := X2.1.vlt O F
    have vl3 := X3.1.vlt O F
    have npc : pa ≠ c := Ne.symm (lt_ne Ec.lt gpa)
    have npa : n0 ≤ pa := new_le (O.1 ▸ O.2.1) e1
    have Fc2 : FC Z h2 c rc co l1 l2 l3 ss (.ref pa) ts := ⟨(Fc.1.ext Xt).nxt W2 (Or.inr (w28 hw)) (Or.inl (w56 hw)) (by decide) pTS pTA, (Fc.2.1.ext Xt).nxt W2 (Or.inr (w41 hw)) (Or.inl (w56 hw)) (by decide) pTL pTA, (Fc.2.2.1.ext Xt).nxt W2 (Or.inr (w43 hw)) (Or.inl (w56 hw)) (by decide) pTL pTA, (Fc.2.2.2.1.ext Xt).nxt W2 (Or.inr (w45 hw)) (Or.inl (w56 hw)) (by decide) pTL pTA, (Fc.2.2.2.2.1.ext Xt).same W2, (Fc.2.2.2.2.2.1.ext Xt).nxt W2 (Or.inl (w143 hw)) (Or.inl (w56 hw)) (by decide) pTA pTA, (Fc.2.2.2.2.2.2.1.ext Xt).nxt W2 (Or.inr (w49 hw)) (Or.inl (w56 hw)) (by decide) pTn pTA, (Fc.2.2.2.2.2.2.2.ext Xt).nxt W2 (Or.inr (w47 hw)) (Or.inl (w56 hw)) (by decide) pTn pTA⟩
    have Tx : TA Z h2 n0 lab2 0 pa kA (List.replicate rc.toNatClampNeg .null) rc.toNatClampNeg mp := ⟨npa, lpa gpa, A1.other W2 npc, V1, List.length_replicate, fun i hi => Or.inl ⟨mz i, by rw [List.getElem?_replicate, if_pos hi]⟩⟩
    have C2 : CT0 Z h2 n0 a_NONE c rc co n1 n2 n3 xs mp ms lab2 l1 l2 l3 v1 v2 v3 z1 z2 z3 ss sar (.ref pa) ts := ⟨⟨(O.ext Xt).wr W2 nc, lN, (ag _ (Nat.lt_of_lt_of_le lN (O.1 ▸ O.2.1))).trans lA⟩, ⟨Ec.keep K, nc, (ag _ Ec.lt).trans lc⟩, Fc2, rcr, X1.keep lN vl1 K ag (mem1 (P := fun w => ¬ (lab w = 1 ∨ lab w = 1 + 3)) (by show ¬ (lab c = 1 ∨ lab c = 1 + 3); omega)), X2.keep lN vl2 K ag (mem1 (P := fun w => ¬ (lab w = 2 ∨ lab w = 2 + 3)) (by show ¬ (lab c = 2 ∨ lab c = 2 + 3); omega)), X3.keep lN vl3 K ag (mem1 (P := fun w => ¬ (lab w = 3 ∨ lab w = 3 + 3)) (by show ¬ (lab c = 3 ∨ lab c = 3 + 3); omega)), Sx.keep K ag (mem1 (P := fun w => ¬ (lab w = 7 ∨ lab w = 8)) (by show ¬ (lab c = 7 ∨ lab c = 8); omega)), Or.inr ⟨pa, kA, _, rfl, Tx⟩, T1.keep (by decide) K ag (mem1 (P := fun w => ¬ nTB 1 (lab w)) (by show ¬ nTB 1 (lab c); unfold nTB; omega))⟩
    exact add180b l Z a0 hw n0 h2 c rc co n1 n2 n3 xs mp ms lab2 l1 l2 l3 v1 v2 v3 z1 z2 z3 ss sar ts ts pa kA _ a_NONE k_NONE vs_NONE F C2 Tx r u hr hu sm hn hQ
  · skip
    refine Go.aloadN d7_0 (q := 1) rfl rfl rfl ?_
    refine Go.getF d7_1 (q := 4) rfl (host := "") (Or.inl (w55 hw)) Via.refl Fc.2.2.2.2.1 ?_
    refine Go.ifnonnull d7_4 (q := 18) (q' := 7) (by decide) rfl rfl rfl (fun _ _ => ?_) (fun e => by cases e)
    exact add180a l Z a0 hw n0 h c rc co n1 n2 n3 xs mp ms lab l1 l2 l3 v1 v2 v3 z1 z2 z3 ss sar ts ts pa kA pv a_NONE k_NONE vs_NONE F ⟨⟨O, lN, lA⟩, ⟨Ec, nc, lc⟩, Fc, rcr, X1, X2, X3, Sx, Or.inr ⟨pa, kA, pv, rfl, Tx⟩, T1⟩ Tx r u hr hu sm hn hQ
set_option maxRecDepth 65536 in
set_option maxHeartbeats 40000000 in
theorem add181a (l : Launch) (Z : State) (a0 : Array Value) (hw : Hw a0 Z) (n0 : Nat) (h : Heap) (c : Addr) (rc co : Int32) (n1 n2 n3 : Nat) (xs : List Int32) (mp ms : Nat → List Int32) (lab : Addr → Nat) (l1 l2 l3 v1 v2 v3 : Addr) (z1 z2 z3 : Int32) (ss sar : Addr) (tp ts : Value) (pa : Addr) (kA : ClassId) (pv : List Value) (a_NONE : Addr) (k_NONE : ClassId) (vs_NONE : List Value) (F : Facts Z a_NONE k_NONE vs_NONE) (C0 : CT0 Z h n0 a_NONE c rc co n1 n2 n3 xs mp ms lab l1 l2 l3 v1 v2 v3 z1 z2 z3 ss sar tp (.ref pa)) (Tx : TA Z h n0 lab 1 pa kA pv rc.toNatClampNeg ms) (r u : Int32) (hr : ¬ r < 0 ∧ r.toNatClampNeg < rc.toNatClampNeg) (hu : ¬ u < 0) (sm : Small (ms r.toNatClampNeg)) (hn : n3 ≤ 4) {Q : Option Value → Heap → Prop} (hQ : ∀ h' (b : Int32), b = 0 ∨ b = 1 → CT Z h' n0 a_NONE c rc co n1 n2 (n3 + 2) xs mp (upm ms r.toNatClampNeg (ins u (ms r.toNatClampNeg))) → Q (some (.int b)) h') :
    Go l Z (⟨"com/example/parallel_el/parallelel/reasoning/Context", "addSuccessor", "(II)Z"⟩ : MethodName) prog_7_method_6_code 3 (some .boolean) ({ frames := 5, cells := 5, slots := 26, locals := 140 } : Room) n0 Q h 0 0 18 #[.val (.ref c), .val (.int r), .val (.int u)] [] := by
  refine Go.aloadN d25_18 (q := 19) rfl rfl rfl ?_
  refine Go.getF d25_19 (q := 22) rfl (host := "") (Or.inl (w142 hw)) Via.refl C0.2.2.1.2.2.2.2.2.1 ?_
  refine Go.aloadN d25_22 (q := 23) rfl rfl rfl ?_
  refine Go.getF d25_23 (q := 26) rfl (host := "") (Or.inl (w44 hw)) Via.refl C0.2.2.1.2.2.2.1 ?_
  refine Go.iloadN d25_26 (q := 27) rfl rfl ?_
  refine Go.iloadN d25_27 (q := 28) rfl rfl ?_
  refine Go.callSV (P := fun w h' => ∃ b : Int32, w = .int b ∧ (b = 0 ∨ b = 1) ∧ CT Z h' n0 a_NONE c rc co n1 n2 (n3 + 2) xs mp (upm ms r.toNatClampNeg (ins u (ms r.toNatClampNeg)))) (argsL := [(.ref pa), (.ref l3), (.int r), (.int u)]) (rest := []) (wd := 0) (Ls1 := #[.val (.ref pa), .val (.ref l3), .val (.int r), .val (.int u)]) d25_28 (q := 31) rfl (w58 hw) (w59 hw) (w3 hw) (w60 hw) (by decide) pn8 pd8 rfl rfl (fun m_ => by simp [entryFrame, mkF, argsToLocals, Value.category]) rfl (by decide) rfl (by decide) (by decide) (by decide) (link1 l Z a0 hw n0 h c rc co n1 n2 n3 xs mp ms lab l1 l2 l3 v1 v2 v3 z1 z2 z3 ss sar tp tp pa kA pv a_NONE k_NONE vs_NONE F C0 Tx r u hr hu sm hn (Q := RV (fun w h' => ∃ b : Int32, w = .int b ∧ (b = 0 ∨ b = 1) ∧ CT Z h' n0 a_NONE c rc co n1 n2 (n3 + 2) xs mp (upm ms r.toNatClampNeg (ins u (ms r.toNatClampNeg))))) (fun h' b q1 q2 => ⟨_, rfl, b, rfl, q1, q2⟩)) ?_
  rintro _ h2 ⟨b, rfl, b01, C2⟩
  refine Go.zreturn d25_31 (by decide) (by decide) b01 ?_
  exact hQ h2 b b01 C2
set_option maxRecDepth 65536 in
set_option maxHeartbeats 40000000 in
theorem add181b (l : Launch) (Z : State) (a0 : Array Value) (hw : Hw a0 Z) (n0 : Nat) (h : Heap) (c : Addr) (rc co : Int32) (n1 n2 n3 : Nat) (xs : List Int32) (mp ms : Nat → List Int32) (lab : Addr → Nat) (l1 l2 l3 v1 v2 v3 : Addr) (z1 z2 z3 : Int32) (ss sar : Addr) (tp ts : Value) (pa : Addr) (kA : ClassId) (pv : List Value) (a_NONE : Addr) (k_NONE : ClassId) (vs_NONE : List Value) (F : Facts Z a_NONE k_NONE vs_NONE) (C0 : CT0 Z h n0 a_NONE c rc co n1 n2 n3 xs mp ms lab l1 l2 l3 v1 v2 v3 z1 z2 z3 ss sar tp (.ref pa)) (Tx : TA Z h n0 lab 1 pa kA pv rc.toNatClampNeg ms) (r u : Int32) (hr : ¬ r < 0 ∧ r.toNatClampNeg < rc.toNatClampNeg) (hu : ¬ u < 0) (sm : Small (ms r.toNatClampNeg)) (hn : n3 ≤ 4) {Q : Option Value → Heap → Prop} (hQ : ∀ h' (b : Int32), b = 0 ∨ b = 1 → CT Z h' n0 a_NONE c rc co n1 n2 (n3 + 2) xs mp (upm ms r.toNatClampNeg (ins u (ms r.toNatClampNeg))) → Q (some (.int b)) h') :
    Go l Z (⟨"com/example/parallel_el/parallelel/reasoning/Context", "addSuccessor", "(II)Z"⟩ : MethodName) prog_7_method_6_code 3 (some .boolean) ({ frames := 5, cells := 5, slots := 26, locals := 140 } : Room) n0 Q h 1 4 18 #[.val (.ref c), .val (.int r), .val (.int u)] [] := by
  refine Go.aloadN d25_18 (q := 19) rfl rfl rfl ?_
  refine Go.getF d25_19 (q := 22) rfl (host := "") (Or.inl (w142 hw)) Via.refl C0.2.2.1.2.2.2.2.2.1 ?_
  refine Go.aloadN d25_22 (q := 23) rfl rfl rfl ?_
  refine Go.getF d25_23 (q := 26) rfl (host := "") (Or.inl (w44 hw)) Via.refl C0.2.2.1.2.2.2.1 ?_
  refine Go.iloadN d25_26 (q := 27) rfl rfl ?_
  refine Go.iloadN d25_27 (q := 28) rfl rfl ?_
  refine Go.callSV (P := fun w h' => ∃ b : Int32, w = .int b ∧ (b = 0 ∨ b = 1) ∧ CT Z h' n0 a_NONE c rc co n1 n2 (n3 + 2) xs mp (upm ms r.toNatClampNeg (ins u (ms r.toNatClampNeg)))) (argsL := [(.ref pa), (.ref l3), (.int r), (.int u)]) (rest := []) (wd := 0) (Ls1 := #[.val (.ref pa), .val (.ref l3), .val (.int r), .val (.int u)]) d25_28 (q := 31) rfl (w58 hw) (w59 hw) (w3 hw) (w60 hw) (by decide) pn8 pd8 rfl rfl (fun m_ => by simp [entryFrame, mkF, argsToLocals, Value.category]) rfl (by decide) rfl (by decide) (by decide) (by decide) (link1 l Z a0 hw n0 h c rc co n1 n2 n3 xs mp ms lab l1 l2 l3 v1 v2 v3 z1 z2 z3 ss sar tp tp pa kA pv a_NONE k_NONE vs_NONE F C0 Tx r u hr hu sm hn (Q := RV (fun w h' => ∃ b : Int32, w = .int b ∧ (b = 0 ∨ b = 1) ∧ CT Z h' n0 a_NONE c rc co n1 n2 (n3 + 2) xs mp (upm ms r.toNatClampNeg (ins u (ms r.toNatClampNeg))))) (fun h' b q1 q2 => ⟨_, rfl, b, rfl, q1, q2⟩)) ?_
  rintro _ h2 ⟨b, rfl, b01, C2⟩
  refine Go.zreturn d25_31 (by decide) (by decide) b01 ?_
  exact hQ h2 b b01 C2
set_option maxRecDepth 65536 in
set_option maxHeartbeats 40000000 in
theorem add1 (l : Launch) (Z : State) (a0 : Array Value) (hw : Hw a0 Z) (n0 : Nat) (h : Heap) (c : Addr) (rc co : Int32) (n1 n2 n3 : Nat) (xs : List Int32) (mp ms : Nat → List Int32) (a_NONE : Addr) (k_NONE : ClassId) (vs_NONE : List Value) (F : Facts Z a_NONE k_NONE vs_NONE) (Ct : CT Z h n0 a_NONE c rc co n1 n2 n3 xs mp ms) (r u : Int32) (hr : ¬ r < 0 ∧ r.toNatClampNeg < rc.toNatClampNeg) (hu : ¬ u < 0) (sm : Small (ms r.toNatClampNeg)) (hn : n3 ≤ 4) {Q : Option Value → Heap → Prop} (hQ : ∀ h' (b : Int32), b = 0 ∨ b = 1 → CT Z h' n0 a_NONE c rc co n1 n2 (n3 + 2) xs mp (upm ms r.toNatClampNeg (ins u (ms r.toNatClampNeg))) → Q (some (.int b)) h') :
    Go l Z (⟨"com/example/parallel_el/parallelel/reasoning/Context", "addSuccessor", "(II)Z"⟩ : MethodName) prog_7_method_6_code 3 (some .boolean) ({ frames := 5, cells := 5, slots := 26, locals := 140 } : Room) n0 Q h 0 0 0 #[.val (.ref c), .val (.int r), .val (.int u)] [] := by
  obtain ⟨lab, l1, l2, l3, v1, v2, v3, z1, z2, z3, ss, sar, tp, ts, ⟨O, lN, lA⟩, ⟨Ec, nc, lc⟩, Fc, rcr, X1, X2, X3, Sx, T0, T1⟩ := Ct
  rcases T1 with ⟨rfl, mz⟩ | ⟨pa, kA, pv, rfl, Tx⟩
  · skip
    refine Go.aloadN d25_0 (q := 1) rfl rfl rfl ?_
    refine Go.getF d25_1 (q := 4) rfl (host := "") (Or.inl (w142 hw)) Via.refl Fc.2.2.2.2.2.1 ?_
    refine Go.ifnonnull d25_4 (q := 18) (q' := 7) (by decide) rfl rfl rfl (fun _ e => by cases e) (fun _ => ?_)
    refine Go.aloadN d25_7 (q := 8) rfl rfl rfl ?_
    refine Go.aloadN d25_8 (q := 9) rfl rfl rfl ?_
    refine Go.getF d25_9 (q := 12) rfl (host := "") (Or.inl (w48 hw)) Via.refl Fc.2.2.2.2.2.2.1 ?_
    refine Go.anewarray (cap := 4) d25_12 (q := 15) rfl (w10 hw) (w57 hw) rcr.1 rcr.2 (by decide) (by decide) (by decide) ?_
    intro h1 pa kA e1 Xt A1 V1
    have gpa : h.size ≤ pa := Nat.le_of_eq e1.symm
    refine Go.putF d25_15 (q := 18) rfl (host := "") (Or.inl (w142 hw)) Via.refl (Fc.2.2.2.2.2.1.ext Xt) (Ec.ext Xt) (Or.inl (w143 hw)) (w2 hw) pTA rfl rfl nc ?_
    intro h2 W2
    have K : Keep h h2 [c] := ((Keep.refl h [c]).ext Xt).wr W2 (Or.inl (by simp))
    obtain ⟨lab2, ag, lpa⟩ := mk_lab1 lab h.size pa (10 + 1)
    have vl1 := X1.1.vlt O F
    have vl2 := X2.1.vlt O F
    have vl3 := X3.1.vlt O F
    have npc : pa ≠ c := Ne.symm (lt_ne Ec.lt gpa)
    have npa : n0 ≤ pa := new_le (O.1 ▸ O.2.1) e1
    have Fc2 : FC Z h2 c rc co l1 l2 l3 ss tp (.ref pa) := ⟨(Fc.1.ext Xt).nxt W2 (Or.inr (w28 hw)) (Or.inl (w143 hw)) (by decide) pTS pTA, (Fc.2.1.ext Xt).nxt W2 (Or.inr (w41 hw)) (Or.inl (w143 hw)) (by decide) pTL pTA, (Fc.2.2.1.ext Xt).nxt W2 (Or.inr (w43 hw)) (Or.inl (w143 hw)) (by decide) pTL pTA, (Fc.2.2.2.1.ext Xt).nxt W2 (Or.inr (w45 hw)) (Or.inl (w143 hw)) (by decide) pTL pTA, (Fc.2.2.2.2.1.ext Xt).nxt W2 (Or.inl (w56 hw)) (Or.inl (w143 hw)) (by decide) pTA pTA, (Fc.2.2.2.2.2.1.ext Xt).same W2, (Fc.2.2.2.2.2.2.1.ext Xt).nxt W2 (Or.inr (w49 hw)) (Or.inl (w143 hw)) (by decide) pTn pTA, (Fc.2.2.2.2.2.2.2.ext Xt).nxt W2 (Or.inr (w47 hw)) (Or.inl (w143 hw)) (by decide) pTn pTA⟩
    have Tx : TA Z h2 n0 lab2 1 pa kA (List.replicate rc.toNatClampNeg .null) rc.toNatClampNeg ms := ⟨npa, lpa gpa, A1.other W2 npc, V1, List.length_replicate, fun i hi => Or.inl ⟨mz i, by rw [List.getElem?_replicate, if_pos hi]⟩⟩
    have C2 : CT0 Z h2 n0 a_NONE c rc co n1 n2 n3 xs mp ms lab2 l1 l2 l3 v1 v2 v3 z1 z2 z3 ss sar tp (.ref pa) := ⟨⟨(O.ext Xt).wr W2 nc, lN, (ag _ (Nat.lt_of_lt_of_le lN (O.1 ▸ O.2.1))).trans lA⟩, ⟨Ec.keep K, nc, (ag _ Ec.lt).trans lc⟩, Fc2, rcr, X1.keep lN vl1 K ag (mem1 (P := fun w => ¬ (lab w = 1 ∨ lab w = 1 + 3)) (by show ¬ (lab c = 1 ∨ lab c = 1 + 3); omega)), X2.keep lN vl2 K ag (mem1 (P := fun w => ¬ (lab w = 2 ∨ lab w = 2 + 3)) (by show ¬ (lab c = 2 ∨ lab c = 2 + 3); omega)), X3.keep lN vl3 K ag (mem1 (P := fun w => ¬ (lab w = 3 ∨ lab w = 3 + 3)) (by show ¬ (lab c = 3 ∨ lab c = 3 + 3); omega)), Sx.keep K ag (mem1 (P := fun w => ¬ (lab w = 7 ∨ lab w = 8)) (by show ¬ (lab c = 7 ∨ lab c = 8); omega)), T0.keep (by decide) K ag (mem1 (P := fun w => ¬ nTB 0 (lab w)) (by show ¬ nTB 0 (lab c); unfold nTB; omega)), Or.inr ⟨pa, kA, _, rfl, Tx⟩⟩
    exact add181b l Z a0 hw n0 h2 c rc co n1 n2 n3 xs mp ms lab2 l1 l2 l3 v1 v2 v3 z1 z2 z3 ss sar tp tp pa kA _ a_NONE k_NONE vs_NONE F C2 Tx r u hr hu sm hn hQ
  · skip
    refine Go.aloadN d25_0 (q := 1) rfl rfl rfl ?_
    refine Go.getF d25_1 (q := 4) rfl (host := "") (Or.inl (w142 hw)) Via.refl Fc.2.2.2.2.2.1 ?_
    refine Go.ifnonnull d25_4 (q := 18) (q' := 7) (by decide) rfl rfl rfl (fun _ _ => ?_) (fun e => by cases e)
    exact add181a l Z a0 hw n0 h c rc co n1 n2 n3 xs mp ms lab l1 l2 l3 v1 v2 v3 z1 z2 z3 ss sar tp tp pa kA pv a_NONE k_NONE vs_NONE F ⟨⟨O, lN, lA⟩, ⟨Ec, nc, lc⟩, Fc, rcr, X1, X2, X3, Sx, T0, Or.inr ⟨pa, kA, pv, rfl, Tx⟩⟩ Tx r u hr hu sm hn hQ
set_option maxRecDepth 65536 in
set_option maxHeartbeats 40000000 in
theorem read0 (l : Launch) (Z : State) (a0 : Array Value) (hw : Hw a0 Z) (n0 : Nat) (h : Heap) (c : Addr) (rc co : Int32) (n1 n2 n3 : Nat) (xs : List Int32) (mp ms : Nat → List Int32) (a_NONE : Addr) (Ct : CT Z h n0 a_NONE c rc co n1 n2 n3 xs mp ms) (r : Int32) (hr : ¬ r < 0 ∧ r.toNatClampNeg < rc.toNatClampNeg) {Q : Option Value → Heap → Prop} (hQ0 : mp r.toNatClampNeg = [] → Q (some .null) h) (hQ1 : mp r.toNatClampNeg ≠ [] → ∀ s ar, SX Z h n0 s ar (mp r.toNatClampNeg) → Good (mp r.toNatClampNeg) → Q (some (.ref s)) h) :
    Go l Z (⟨"com/example/parallel_el/parallelel/reasoning/Context", "predecessors", "(I)Lcom/example/parallel_el/parallelel/util/IntSet;"⟩ : MethodName) prog_7_method_2_code 2 (some (.object "com/example/parallel_el/parallelel/util/IntSet")) ({ frames := 0, cells := 0, slots := 0, locals := 0 } : Room) n0 Q h 0 0 0 #[.val (.ref c), .val (.int r)] [] := by
  obtain ⟨lab, l1, l2, l3, v1, v2, v3, z1, z2, z3, ss, sar, tp, ts, ⟨O, lN, lA⟩, ⟨Ec, nc, lc⟩, Fc, rcr, X1, X2, X3, Sx, T0, T1⟩ := Ct
  rcases T0 with ⟨rfl, mz⟩ | ⟨pa, kA, pv, rfl, Tx⟩
  · skip
    refine Go.aloadN d22_0 (q := 1) rfl rfl rfl ?_
    refine Go.getF d22_1 (q := 4) rfl (host := "") (Or.inl (w55 hw)) Via.refl Fc.2.2.2.2.1 ?_
    refine Go.ifnonnull d22_4 (q := 11) (q' := 7) (by decide) rfl rfl rfl (fun _ e => by cases e) (fun _ => ?_)
    refine Go.aconstNull d22_7 (q := 8) rfl ?_
    refine Go.goto d22_8 (q := 17) (by decide) rfl ?_
    refine Go.areturn d22_17 (by decide) (by decide) rfl rfl ?_
    exact hQ0 (mz _)
  · rcases Tx.2.2.2.2.2 _ hr.2 with ⟨hm, hv⟩ | ⟨s, ar, hm, hv, S, G, -, -⟩
    · skip
      refine Go.aloadN d22_0 (q := 1) rfl rfl rfl ?_
      refine Go.getF d22_1 (q := 4) rfl (host := "") (Or.inl (w55 hw)) Via.refl Fc.2.2.2.2.1 ?_
      refine Go.ifnonnull d22_4 (q := 11) (q' := 7) (by decide) rfl rfl rfl (fun _ _ => ?_) (fun e => by cases e)
      refine Go.aloadN d22_11 (q := 12) rfl rfl rfl ?_
      refine Go.getF d22_12 (q := 15) rfl (host := "") (Or.inl (w55 hw)) Via.refl Fc.2.2.2.2.1 ?_
      refine Go.iloadN d22_15 (q := 16) rfl rfl ?_
      refine Go.aaload d22_16 (q := 17) rfl Tx.2.2.1 rfl hr.1 hv ?_
      refine Go.areturn d22_17 (by decide) (by decide) rfl rfl ?_
      exact hQ0 hm
    · skip
      refine Go.aloadN d22_0 (q := 1) rfl rfl rfl ?_
      refine Go.getF d22_1 (q := 4) rfl (host := "") (Or.inl (w55 hw)) Via.refl Fc.2.2.2.2.1 ?_
      refine Go.ifnonnull d22_4 (q := 11) (q' := 7) (by decide) rfl rfl rfl (fun _ _ => ?_) (fun e => by cases e)
      refine Go.aloadN d22_11 (q := 12) rfl rfl rfl ?_
      refine Go.getF d22_12 (q := 15) rfl (host := "") (Or.inl (w55 hw)) Via.refl Fc.2.2.2.2.1 ?_
      refine Go.iloadN d22_15 (q := 16) rfl rfl ?_
      refine Go.aaload d22_16 (q := 17) rfl Tx.2.2.1 rfl hr.1 hv ?_
      refine Go.areturn d22_17 (by decide) (by decide) rfl rfl ?_
      exact hQ1 hm s ar S G
set_option maxRecDepth 65536 in
set_option maxHeartbeats 40000000 in
theorem read1 (l : Launch) (Z : State) (a0 : Array Value) (hw : Hw a0 Z) (n0 : Nat) (h : Heap) (c : Addr) (rc co : Int32) (n1 n2 n3 : Nat) (xs : List Int32) (mp ms : Nat → List Int32) (a_NONE : Addr) (Ct : CT Z h n0 a_NONE c rc co n1 n2 n3 xs mp ms) (r : Int32) (hr : ¬ r < 0 ∧ r.toNatClampNeg < rc.toNatClampNeg) {Q : Option Value → Heap → Prop} (hQ0 : ms r.toNatClampNeg = [] → Q (some .null) h) (hQ1 : ms r.toNatClampNeg ≠ [] → ∀ s ar, SX Z h n0 s ar (ms r.toNatClampNeg) → Good (ms r.toNatClampNeg) → Q (some (.ref s)) h) :
    Go l Z (⟨"com/example/parallel_el/parallelel/reasoning/Context", "successors", "(I)Lcom/example/parallel_el/parallelel/util/IntSet;"⟩ : MethodName) prog_7_method_3_code 2 (some (.object "com/example/parallel_el/parallelel/util/IntSet")) ({ frames := 0, cells := 0, slots := 0, locals := 0 } : Room) n0 Q h 0 0 0 #[.val (.ref c), .val (.int r)] [] := by
  obtain ⟨lab, l1, l2, l3, v1, v2, v3, z1, z2, z3, ss, sar, tp, ts, ⟨O, lN, lA⟩, ⟨Ec, nc, lc⟩, Fc, rcr, X1, X2, X3, Sx, T0, T1⟩ := Ct
  rcases T1 with ⟨rfl, mz⟩ | ⟨pa, kA, pv, rfl, Tx⟩
  · skip
    refine Go.aloadN d23_0 (q := 1) rfl rfl rfl ?_
    refine Go.getF d23_1 (q := 4) rfl (host := "") (Or.inl (w142 hw)) Via.refl Fc.2.2.2.2.2.1 ?_
    refine Go.ifnonnull d23_4 (q := 11) (q' := 7) (by decide) rfl rfl rfl (fun _ e => by cases e) (fun _ => ?_)
    refine Go.aconstNull d23_7 (q := 8) rfl ?_
    refine Go.goto d23_8 (q := 17) (by decide) rfl ?_
    refine Go.areturn d23_17 (by decide) (by decide) rfl rfl ?_
    exact hQ0 (mz _)
  · rcases Tx.2.2.2.2.2 _ hr.2 with ⟨hm, hv⟩ | ⟨s, ar, hm, hv, S, G, -, -⟩
    · skip
      refine Go.aloadN d23_0 (q := 1) rfl rfl rfl ?_
      refine Go.getF d23_1 (q := 4) rfl (host := "") (Or.inl (w142 hw)) Via.refl Fc.2.2.2.2.2.1 ?_
      refine Go.ifnonnull d23_4 (q := 11) (q' := 7) (by decide) rfl rfl rfl (fun _ _ => ?_) (fun e => by cases e)
      refine Go.aloadN d23_11 (q := 12) rfl rfl rfl ?_
      refine Go.getF d23_12 (q := 15) rfl (host := "") (Or.inl (w142 hw)) Via.refl Fc.2.2.2.2.2.1 ?_
      refine Go.iloadN d23_15 (q := 16) rfl rfl ?_
      refine Go.aaload d23_16 (q := 17) rfl Tx.2.2.1 rfl hr.1 hv ?_
      refine Go.areturn d23_17 (by decide) (by decide) rfl rfl ?_
      exact hQ0 hm
    · skip
      refine Go.aloadN d23_0 (q := 1) rfl rfl rfl ?_
      refine Go.getF d23_1 (q := 4) rfl (host := "") (Or.inl (w142 hw)) Via.refl Fc.2.2.2.2.2.1 ?_
      refine Go.ifnonnull d23_4 (q := 11) (q' := 7) (by decide) rfl rfl rfl (fun _ _ => ?_) (fun e => by cases e)
      refine Go.aloadN d23_11 (q := 12) rfl rfl rfl ?_
      refine Go.getF d23_12 (q := 15) rfl (host := "") (Or.inl (w142 hw)) Via.refl Fc.2.2.2.2.2.1 ?_
      refine Go.iloadN d23_15 (q := 16) rfl rfl ?_
      refine Go.aaload d23_16 (q := 17) rfl Tx.2.2.1 rfl hr.1 hv ?_
      refine Go.areturn d23_17 (by decide) (by decide) rfl rfl ?_
      exact hQ1 hm s ar S G
set_option maxRecDepth 65536 in
set_option maxHeartbeats 40000000 in
theorem cx_init (l : Launch) (Z : State) (a0 : Array Value) (hw : Hw a0 Z) (n0 : Nat) (h : Heap) (O : Old Z n0 h) (c : Addr) (co rc : Int32) (nc : n0 ≤ c) (E : Exa Z h c CXN) (D0 : Fld Z h c CXN "subsumers" "Lcom/example/parallel_el/parallelel/util/IntSet;" .null) (D1 : Fld Z h c CXN "newSubsumers" "Lcom/example/parallel_el/parallelel/util/IntList;" .null) (D2 : Fld Z h c CXN "newPredecessors" "Lcom/example/parallel_el/parallelel/util/IntList;" .null) (D3 : Fld Z h c CXN "newSuccessors" "Lcom/example/parallel_el/parallelel/util/IntList;" .null) (D4 : Fld Z h c CXN "predecessors" "[Lcom/example/parallel_el/parallelel/util/IntSet;" .null) (D5 : Fld Z h c CXN "successors" "[Lcom/example/parallel_el/parallelel/util/IntSet;" .null) (D6 : Fld Z h c CXN "roleCount" "I" (.int 0)) (D7 : Fld Z h c CXN "concept" "I" (.int 0)) (rcr : ¬ rc < 0 ∧ rc.toNatClampNeg ≤ 4) (a_NONE : Addr) (k_NONE : ClassId) (vs_NONE : List Value) (F : Facts Z a_NONE k_NONE vs_NONE) {Q : Option Value → Heap → Prop} (hQ : ∀ h', CT Z h' n0 a_NONE c rc co 0 0 0 [] (fun _ => []) (fun _ => []) → Q none h') :
    Go l Z (⟨"com/example/parallel_el/parallelel/reasoning/Context", "<init>", "(II)V"⟩ : MethodName) prog_7_method_1_code 3 none ({ frames := 3, cells := 5, slots := 12, locals := 70 } : Room) n0 Q h 0 0 0 #[.val (.ref c), .val (.int co), .val (.int rc)] [] := by
  have lN : a_NONE < n0 := O.1 ▸ F.A_NONE.lt
  refine Go.aloadN d1_0 (q := 1) rfl rfl rfl ?_
  refine Go.initObj d1_1 (q := 4) rfl (w7 hw) (w8 hw) (w9 hw) rfl (by decide) rfl (by decide) ?_
  refine Go.aloadN d1_4 (q := 5) rfl rfl rfl ?_
  refine Go.new d1_5 (q := 8) rfl (w10 hw) (w11 hw) (w12 hw) (by decide) (by decide) ?_
  intro n_ss ss q_ss X_ss E_ss D_ss
  have ne_1 := new_ne E.lt q_ss
  have ge_ss : n0 ≤ ss := new_le (O.1 ▸ O.2.1) q_ss
  have f_3 := D0.ext X_ss
  have f_4 := D1.ext X_ss
  have f_5 := D2.ext X_ss
  have f_6 := D3.ext X_ss
  have f_7 := D4.ext X_ss
  have f_8 := D5.ext X_ss
  have f_9 := D6.ext X_ss
  have f_10 := D7.ext X_ss
  have e_11 := E.ext X_ss
  have o_12 := O.ext X_ss
  refine Go.dup d1_8 (q := 9) rfl rfl ?_
  refine Go.callIN (P := fun h' => ∃ ar, n_ss.size ≤ ar ∧ Keep n_ss h' [ss] ∧ Old Z n0 h' ∧ IS Z h' n0 ss ar 0 (fun _ => -1)) (argsL := []) (rest := [(.ref ss), (.ref c)]) (wd := 2) (Ls1 := #[.val (.ref ss)]) d1_9 (q := 12) rfl rfl (w13 hw) (w14 hw) (w12 hw) (w15 hw) (by decide) pn3 pd3 rfl rfl (fun m_ => by simp [entryFrame, mkF, argsToLocals, Value.category]) rfl (by decide) rfl (by decide) (by decide) (by decide) (is_init l Z a0 hw n0 n_ss o_12 ss ge_ss E_ss (D_ss (Or.inl (w26 hw)) pTi) (D_ss (Or.inl (w68 hw)) pTn) (Q := RN (fun h' => ∃ ar, n_ss.size ≤ ar ∧ Keep n_ss h' [ss] ∧ Old Z n0 h' ∧ IS Z h' n0 ss ar 0 (fun _ => -1))) (fun h' ar q1 q2 q3 q4 => ⟨rfl, ar, q1, q2, q3, q4⟩)) ?_
  rintro m_ss ⟨sar, gsar, K_ss, O_ss, S_ss⟩
  have ne_13 := lt_ne e_11.lt gsar
  have ne_14 := lt_ne E_ss.lt gsar
  have f_15 := f_3.keep K_ss (nin1 ne_1)
  have f_16 := f_4.keep K_ss (nin1 ne_1)
  have f_17 := f_5.keep K_ss (nin1 ne_1)
  have f_18 := f_6.keep K_ss (nin1 ne_1)
  have f_19 := f_7.keep K_ss (nin1 ne_1)
  have f_20 := f_8.keep K_ss (nin1 ne_1)
  have f_21 := f_9.keep K_ss (nin1 ne_1)
  have f_22 := f_10.keep K_ss (nin1 ne_1)
  have e_23 := e_11.keep K_ss
  refine Go.putF d1_12 (q := 15) rfl (host := "") (Or.inl (w27 hw)) Via.refl f_15 e_23 (Or.inr ⟨(w28 hw), rfl, rfl⟩) (w2 hw) pTS rfl rfl nc ?_
  intro w_subsumers W_subsumers
  have f_24 := f_15.same W_subsumers
  have f_25 := f_16.nxt W_subsumers (Or.inr (w41 hw)) (Or.inr (w28 hw)) (by decide) pTL pTS
  have f_26 := f_17.nxt W_subsumers (Or.inr (w43 hw)) (Or.inr (w28 hw)) (by decide) pTL pTS
  have f_27 := f_18.nxt W_subsumers (Or.inr (w45 hw)) (Or.inr (w28 hw)) (by decide) pTL pTS
  have f_28 := f_19.nxt W_subsumers (Or.inl (w56 hw)) (Or.inr (w28 hw)) (by decide) pTA pTS
  have f_29 := f_20.nxt W_subsumers (Or.inl (w143 hw)) (Or.inr (w28 hw)) (by decide) pTA pTS
  have f_30 := f_21.nxt W_subsumers (Or.inr (w49 hw)) (Or.inr (w28 hw)) (by decide) pTn pTS
  have f_31 := f_22.nxt W_subsumers (Or.inr (w47 hw)) (Or.inr (w28 hw)) (by decide) pTn pTS
  have e_32 := e_23.wr W_subsumers
  have o_33 := O_ss.wr W_subsumers nc
  have i_34 := IS.keep S_ss (Keep.of_wr W_subsumers) (nin1 (Ne.symm ne_1)) (nin1 (Ne.symm ne_13))
  refine Go.aloadN d1_15 (q := 16) rfl rfl rfl ?_
  refine Go.new d1_16 (q := 19) rfl (w29 hw) (w30 hw) (w31 hw) (by decide) (by decide) ?_
  intro n_l1 l1 q_l1 X_l1 E_l1 D_l1
  have ne_35 := new_ne e_32.lt q_l1
  have ne_36 := new_ne (IS.lt i_34).1 q_l1
  have ne_37 := new_ne (IS.lt i_34).2 q_l1
  have ge_l1 : n0 ≤ l1 := new_le (o_33.1 ▸ o_33.2.1) q_l1
  have f_39 := f_24.ext X_l1
  have f_40 := f_25.ext X_l1
  have f_41 := f_26.ext X_l1
  have f_42 := f_27.ext X_l1
  have f_43 := f_28.ext X_l1
  have f_44 := f_29.ext X_l1
  have f_45 := f_30.ext X_l1
  have f_46 := f_31.ext X_l1
  have e_47 := e_32.ext X_l1
  have o_48 := o_33.ext X_l1
  have i_49 := i_34.ext X_l1
  refine Go.dup d1_19 (q := 20) rfl rfl ?_
  refine Go.callIN (P := fun h' => Keep n_l1 h' [l1] ∧ Old Z n0 h' ∧ IL Z h' n0 a_NONE l1 a_NONE 0) (argsL := []) (rest := [(.ref l1), (.ref c)]) (wd := 2) (Ls1 := #[.val (.ref l1)]) d1_20 (q := 23) rfl rfl (w32 hw) (w33 hw) (w31 hw) (w34 hw) (by decide) pn6 pd6 rfl rfl (fun m_ => by simp [entryFrame, mkF, argsToLocals, Value.category]) rfl (by decide) rfl (by decide) (by decide) (by decide) (il_init l Z a0 hw n0 n_l1 o_48 l1 ge_l1 E_l1 (D_l1 (Or.inl (w39 hw)) pTi) (D_l1 (Or.inl (w88 hw)) pTn) a_NONE k_NONE vs_NONE F (Q := RN (fun h' => Keep n_l1 h' [l1] ∧ Old Z n0 h' ∧ IL Z h' n0 a_NONE l1 a_NONE 0)) (fun h' q1 q2 q3 => ⟨rfl, q1, q2, q3⟩)) ?_
  rintro m_l1 ⟨K_l1, O_l1, L_l1⟩
  have f_50 := f_39.keep K_l1 (nin1 ne_35)
  have f_51 := f_40.keep K_l1 (nin1 ne_35)
  have f_52 := f_41.keep K_l1 (nin1 ne_35)
  have f_53 := f_42.keep K_l1 (nin1 ne_35)
  have f_54 := f_43.keep K_l1 (nin1 ne_35)
  have f_55 := f_44.keep K_l1 (nin1 ne_35)
  have f_56 := f_45.keep K_l1 (nin1 ne_35)
  have f_57 := f_46.keep K_l1 (nin1 ne_35)
  have e_58 := e_47.keep K_l1
  have i_59 := IS.keep i_49 K_l1 (nin1 ne_36) (nin1 ne_37)
  refine Go.putF d1_23 (q := 26) rfl (host := "") (Or.inl (w40 hw)) Via.refl f_51 e_58 (Or.inr ⟨(w41 hw), rfl, rfl⟩) (w2 hw) pTL rfl rfl nc ?_
  intro w_newSubsumers W_newSubsumers
  have f_60 := f_50.nxt W_newSubsumers (Or.inr (w28 hw)) (Or.inr (w41 hw)) (by decide) pTS pTL
  have f_61 := f_51.same W_newSubsumers
  have f_62 := f_52.nxt W_newSubsumers (Or.inr (w43 hw)) (Or.inr (w41 hw)) (by decide) pTL pTL
  have f_63 := f_53.nxt W_newSubsumers (Or.inr (w45 hw)) (Or.inr (w41 hw)) (by decide) pTL pTL
  have f_64 := f_54.nxt W_newSubsumers (Or.inl (w56 hw)) (Or.inr (w41 hw)) (by decide) pTA pTL
  have f_65 := f_55.nxt W_newSubsumers (Or.inl (w143 hw)) (Or.inr (w41 hw)) (by decide) pTA pTL
  have f_66 := f_56.nxt W_newSubsumers (Or.inr (w49 hw)) (Or.inr (w41 hw)) (by decide) pTn pTL
  have f_67 := f_57.nxt W_newSubsumers (Or.inr (w47 hw)) (Or.inr (w41 hw)) (by decide) pTn pTL
  have e_68 := e_58.wr W_newSubsumers
  have o_69 := O_l1.wr W_newSubsumers nc
  have i_70 := IS.keep i_59 (Keep.of_wr W_newSubsumers) (nin1 (Ne.symm ne_1)) (nin1 (Ne.symm ne_13))
  have l_71 := L_l1.keep (Keep.of_wr W_newSubsumers) (nin1 (Ne.symm ne_35)) (fun g => absurd g (Nat.not_le.mpr lN))
  refine Go.aloadN d1_26 (q := 27) rfl rfl rfl ?_
  refine Go.new d1_27 (q := 30) rfl (w29 hw) (w30 hw) (w31 hw) (by decide) (by decide) ?_
  intro n_l2 l2 q_l2 X_l2 E_l2 D_l2
  have ne_72 := new_ne e_68.lt q_l2
  have ne_73 := new_ne (IS.lt i_70).1 q_l2
  have ne_74 := new_ne (IS.lt i_70).2 q_l2
  have ne_75 := new_ne l_71.1.1.lt q_l2
  have ge_l2 : n0 ≤ l2 := new_le (o_69.1 ▸ o_69.2.1) q_l2
  have f_77 := f_60.ext X_l2
  have f_78 := f_61.ext X_l2
  have f_79 := f_62.ext X_l2
  have f_80 := f_63.ext X_l2
  have f_81 := f_64.ext X_l2
  have f_82 := f_65.ext X_l2
  have f_83 := f_66.ext X_l2
  have f_84 := f_67.ext X_l2
  have e_85 := e_68.ext X_l2
  have o_86 := o_69.ext X_l2
  have i_87 := i_70.ext X_l2
  have l_88 := l_71.ext X_l2
  refine Go.dup d1_30 (q := 31) rfl rfl ?_
  refine Go.callIN (P := fun h' => Keep n_l2 h' [l2] ∧ Old Z n0 h' ∧ IL Z h' n0 a_NONE l2 a_NONE 0) (argsL := []) (rest := [(.ref l2), (.ref c)]) (wd := 2) (Ls1 := #[.val (.ref l2)]) d1_31 (q := 34) rfl rfl (w32 hw) (w33 hw) (w31 hw) (w34 hw) (by decide) pn6 pd6 rfl rfl (fun m_ => by simp [entryFrame, mkF, argsToLocals, Value.category]) rfl (by decide) rfl (by decide) (by decide) (by decide) (il_init l Z a0 hw n0 n_l2 o_86 l2 ge_l2 E_l2 (D_l2 (Or.inl (w39 hw)) pTi) (D_l2 (Or.inl (w88 hw)) pTn) a_NONE k_NONE vs_NONE F (Q := RN (fun h' => Keep n_l2 h' [l2] ∧ Old Z n0 h' ∧ IL Z h' n0 a_NONE l2 a_NONE 0)) (fun h' q1 q2 q3 => ⟨rfl, q1, q2, q3⟩)) ?_
  rintro m_l2 ⟨K_l2, O_l2, L_l2⟩
  have f_89 := f_77.keep K_l2 (nin1 ne_72)
  have f_90 := f_78.keep K_l2 (nin1 ne_72)
  have f_91 := f_79.keep K_l2 (nin1 ne_72)
  have f_92 := f_80.keep K_l2 (nin1 ne_72)
  have f_93 := f_81.keep K_l2 (nin1 ne_72)
  have f_94 := f_82.keep K_l2 (nin1 ne_72)
  have f_95 := f_83.keep K_l2 (nin1 ne_72)
  have f_96 := f_84.keep K_l2 (nin1 ne_72)
  have e_97 := e_85.keep K_l2
  have i_98 := IS.keep i_87 K_l2 (nin1 ne_73) (nin1 ne_74)
  have l_99 := l_88.keep K_l2 (nin1 ne_75) (fun g => absurd g (Nat.not_le.mpr lN))
  refine Go.putF d1_34 (q := 37) rfl (host := "") (Or.inl (w42 hw)) Via.refl f_91 e_97 (Or.inr ⟨(w43 hw), rfl, rfl⟩) (w2 hw) pTL rfl rfl nc ?_
  intro w_newPredecessors W_newPredecessors
  have f_100 := f_89.nxt W_newPredecessors (Or.inr (w28 hw)) (Or.inr (w43 hw)) (by decide) pTS pTL
  have f_101 := f_90.nxt W_newPredecessors (Or.inr (w41 hw)) (Or.inr (w43 hw)) (by decide) pTL pTL
  have f_102 := f_91.same W_newPredecessors
  have f_103 := f_92.nxt W_newPredecessors (Or.inr (w45 hw)) (Or.inr (w43 hw)) (by decide) pTL pTL
  have f_104 := f_93.nxt W_newPredecessors (Or.inl (w56 hw)) (Or.inr (w43 hw)) (by decide) pTA pTL
  have f_105 := f_94.nxt W_newPredecessors (Or.inl (w143 hw)) (Or.inr (w43 hw)) (by decide) pTA pTL
  have f_106 := f_95.nxt W_newPredecessors (Or.inr (w49 hw)) (Or.inr (w43 hw)) (by decide) pTn pTL
  have f_107 := f_96.nxt W_newPredecessors (Or.inr (w47 hw)) (Or.inr (w43 hw)) (by decide) pTn pTL
  have e_108 := e_97.wr W_newPredecessors
  have o_109 := O_l2.wr W_newPredecessors nc
  have i_110 := IS.keep i_98 (Keep.of_wr W_newPredecessors) (nin1 (Ne.symm ne_1)) (nin1 (Ne.symm ne_13))
  have l_111 := l_99.keep (Keep.of_wr W_newPredecessors) (nin1 (Ne.symm ne_35)) (fun g => absurd g (Nat.not_le.mpr lN))
  have l_112 := L_l2.keep (Keep.of_wr W_newPredecessors) (nin1 (Ne.symm ne_72)) (fun g => absurd g (Nat.not_le.mpr lN))
  refine Go.aloadN d1_37 (q := 38) rfl rfl rfl ?_
  refine Go.new d1_38 (q := 41) rfl (w29 hw) (w30 hw) (w31 hw) (by decide) (by decide) ?_
  intro n_l3 l3 q_l3 X_l3 E_l3 D_l3
  have ne_113 := new_ne e_108.lt q_l3
  have ne_114 := new_ne (IS.lt i_110).1 q_l3
  have ne_115 := new_ne (IS.lt i_110).2 q_l3
  have ne_116 := new_ne l_111.1.1.lt q_l3
  have ne_117 := new_ne l_112.1.1.lt q_l3
  have ge_l3 : n0 ≤ l3 := new_le (o_109.1 ▸ o_109.2.1) q_l3
  have f_119 := f_100.ext X_l3
  have f_120 := f_101.ext X_l3
  have f_121 := f_102.ext X_l3
  have f_122 := f_103.ext X_l3
  have f_123 := f_104.ext X_l3
  have f_124 := f_105.ext X_l3
  have f_125 := f_106.ext X_l3
  have f_126 := f_107.ext X_l3
  have e_127 := e_108.ext X_l3
  have o_128 := o_109.ext X_l3
  have i_129 := i_110.ext X_l3
  have l_130 := l_111.ext X_l3
  have l_131 := l_112.ext X_l3
  refine Go.dup d1_41 (q := 42) rfl rfl ?_
  refine Go.callIN (P := fun h' => Keep n_l3 h' [l3] ∧ Old Z n0 h' ∧ IL Z h' n0 a_NONE l3 a_NONE 0) (argsL := []) (rest := [(.ref l3), (.ref c)]) (wd := 2) (Ls1 := #[.val (.ref l3)]) d1_42 (q := 45) rfl rfl (w32 hw) (w33 hw) (w31 hw) (w34 hw) (by decide) pn6 pd6 rfl rfl (fun m_ => by simp [entryFrame, mkF, argsToLocals, Value.category]) rfl (by decide) rfl (by decide) (by decide) (by decide) (il_init l Z a0 hw n0 n_l3 o_128 l3 ge_l3 E_l3 (D_l3 (Or.inl (w39 hw)) pTi) (D_l3 (Or.inl (w88 hw)) pTn) a_NONE k_NONE vs_NONE F (Q := RN (fun h' => Keep n_l3 h' [l3] ∧ Old Z n0 h' ∧ IL Z h' n0 a_NONE l3 a_NONE 0)) (fun h' q1 q2 q3 => ⟨rfl, q1, q2, q3⟩)) ?_
  rintro m_l3 ⟨K_l3, O_l3, L_l3⟩
  have f_132 := f_119.keep K_l3 (nin1 ne_113)
  have f_133 := f_120.keep K_l3 (nin1 ne_113)
  have f_134 := f_121.keep K_l3 (nin1 ne_113)
  have f_135 := f_122.keep K_l3 (nin1 ne_113)
  have f_136 := f_123.keep K_l3 (nin1 ne_113)
  have f_137 := f_124.keep K_l3 (nin1 ne_113)
  have f_138 := f_125.keep K_l3 (nin1 ne_113)
  have f_139 := f_126.keep K_l3 (nin1 ne_113)
  have e_140 := e_127.keep K_l3
  have i_141 := IS.keep i_129 K_l3 (nin1 ne_114) (nin1 ne_115)
  have l_142 := l_130.keep K_l3 (nin1 ne_116) (fun g => absurd g (Nat.not_le.mpr lN))
  have l_143 := l_131.keep K_l3 (nin1 ne_117) (fun g => absurd g (Nat.not_le.mpr lN))
  refine Go.putF d1_45 (q := 48) rfl (host := "") (Or.inl (w44 hw)) Via.refl f_135 e_140 (Or.inr ⟨(w45 hw), rfl, rfl⟩) (w2 hw) pTL rfl rfl nc ?_
  intro w_newSuccessors W_newSuccessors
  have f_144 := f_132.nxt W_newSuccessors (Or.inr (w28 hw)) (Or.inr (w45 hw)) (by decide) pTS pTL
  have f_145 := f_133.nxt W_newSuccessors (Or.inr (w41 hw)) (Or.inr (w45 hw)) (by decide) pTL pTL
  have f_146 := f_134.nxt W_newSuccessors (Or.inr (w43 hw)) (Or.inr (w45 hw)) (by decide) pTL pTL
  have f_147 := f_135.same W_newSuccessors
  have f_148 := f_136.nxt W_newSuccessors (Or.inl (w56 hw)) (Or.inr (w45 hw)) (by decide) pTA pTL
  have f_149 := f_137.nxt W_newSuccessors (Or.inl (w143 hw)) (Or.inr (w45 hw)) (by decide) pTA pTL
  have f_150 := f_138.nxt W_newSuccessors (Or.inr (w49 hw)) (Or.inr (w45 hw)) (by decide) pTn pTL
  have f_151 := f_139.nxt W_newSuccessors (Or.inr (w47 hw)) (Or.inr (w45 hw)) (by decide) pTn pTL
  have e_152 := e_140.wr W_newSuccessors
  have o_153 := O_l3.wr W_newSuccessors nc
  have i_154 := IS.keep i_141 (Keep.of_wr W_newSuccessors) (nin1 (Ne.symm ne_1)) (nin1 (Ne.symm ne_13))
  have l_155 := l_142.keep (Keep.of_wr W_newSuccessors) (nin1 (Ne.symm ne_35)) (fun g => absurd g (Nat.not_le.mpr lN))
  have l_156 := l_143.keep (Keep.of_wr W_newSuccessors) (nin1 (Ne.symm ne_72)) (fun g => absurd g (Nat.not_le.mpr lN))
  have l_157 := L_l3.keep (Keep.of_wr W_newSuccessors) (nin1 (Ne.symm ne_113)) (fun g => absurd g (Nat.not_le.mpr lN))
  refine Go.aloadN d1_48 (q := 49) rfl rfl rfl ?_
  refine Go.iloadN d1_49 (q := 50) rfl rfl ?_
  refine Go.putF d1_50 (q := 53) rfl (host := "") (Or.inl (w46 hw)) Via.refl f_151 e_152 (Or.inr ⟨(w47 hw), rfl, rfl⟩) (w2 hw) pTn rfl rfl nc ?_
  intro w_concept W_concept
  have f_158 := f_144.nxt W_concept (Or.inr (w28 hw)) (Or.inr (w47 hw)) (by decide) pTS pTn
  have f_159 := f_145.nxt W_concept (Or.inr (w41 hw)) (Or.inr (w47 hw)) (by decide) pTL pTn
  have f_160 := f_146.nxt W_concept (Or.inr (w43 hw)) (Or.inr (w47 hw)) (by decide) pTL pTn
  have f_161 := f_147.nxt W_concept (Or.inr (w45 hw)) (Or.inr (w47 hw)) (by decide) pTL pTn
  have f_162 := f_148.nxt W_concept (Or.inl (w56 hw)) (Or.inr (w47 hw)) (by decide) pTA pTn
  have f_163 := f_149.nxt W_concept (Or.inl (w143 hw)) (Or.inr (w47 hw)) (by decide) pTA pTn
  have f_164 := f_150.nxt W_concept (Or.inr (w49 hw)) (Or.inr (w47 hw)) (by decide) pTn pTn
  have f_165 := f_151.same W_concept
  have e_166 := e_152.wr W_concept
  have o_167 := o_153.wr W_concept nc
  have i_168 := IS.keep i_154 (Keep.of_wr W_concept) (nin1 (Ne.symm ne_1)) (nin1 (Ne.symm ne_13))
  have l_169 := l_155.keep (Keep.of_wr W_concept) (nin1 (Ne.symm ne_35)) (fun g => absurd g (Nat.not_le.mpr lN))
  have l_170 := l_156.keep (Keep.of_wr W_concept) (nin1 (Ne.symm ne_72)) (fun g => absurd g (Nat.not_le.mpr lN))
  have l_171 := l_157.keep (Keep.of_wr W_concept) (nin1 (Ne.symm ne_113)) (fun g => absurd g (Nat.not_le.mpr lN))
  refine Go.aloadN d1_53 (q := 54) rfl rfl rfl ?_
  refine Go.iloadN d1_54 (q := 55) rfl rfl ?_
  refine Go.putF d1_55 (q := 58) rfl (host := "") (Or.inl (w48 hw)) Via.refl f_164 e_166 (Or.inr ⟨(w49 hw), rfl, rfl⟩) (w2 hw) pTn rfl rfl nc ?_
  intro w_roleCount W_roleCount
  have f_172 := f_158.nxt W_roleCount (Or.inr (w28 hw)) (Or.inr (w49 hw)) (by decide) pTS pTn
  have f_173 := f_159.nxt W_roleCount (Or.inr (w41 hw)) (Or.inr (w49 hw)) (by decide) pTL pTn
  have f_174 := f_160.nxt W_roleCount (Or.inr (w43 hw)) (Or.inr (w49 hw)) (by decide) pTL pTn
  have f_175 := f_161.nxt W_roleCount (Or.inr (w45 hw)) (Or.inr (w49 hw)) (by decide) pTL pTn
  have f_176 := f_162.nxt W_roleCount (Or.inl (w56 hw)) (Or.inr (w49 hw)) (by decide) pTA pTn
  have f_177 := f_163.nxt W_roleCount (Or.inl (w143 hw)) (Or.inr (w49 hw)) (by decide) pTA pTn
  have f_178 := f_164.same W_roleCount
  have f_179 := f_165.nxt W_roleCount (Or.inr (w47 hw)) (Or.inr (w49 hw)) (by decide) pTn pTn
  have e_180 := e_166.wr W_roleCount
  have o_181 := o_167.wr W_roleCount nc
  have i_182 := IS.keep i_168 (Keep.of_wr W_roleCount) (nin1 (Ne.symm ne_1)) (nin1 (Ne.symm ne_13))
  have l_183 := l_169.keep (Keep.of_wr W_roleCount) (nin1 (Ne.symm ne_35)) (fun g => absurd g (Nat.not_le.mpr lN))
  have l_184 := l_170.keep (Keep.of_wr W_roleCount) (nin1 (Ne.symm ne_72)) (fun g => absurd g (Nat.not_le.mpr lN))
  have l_185 := l_171.keep (Keep.of_wr W_roleCount) (nin1 (Ne.symm ne_113)) (fun g => absurd g (Nat.not_le.mpr lN))
  refine Go.vreturn d1_58 (by decide) (by decide) ?_
  obtain ⟨lab, y0, y1, y2, y3, y7, y8, y9⟩ := mk_lab7 (Ne.symm ne_35) (Ne.symm ne_72) (Ne.symm ne_75) (Ne.symm ne_113) (Ne.symm ne_116) (Ne.symm ne_117) (Ne.symm ne_1) ne_36 ne_73 ne_114 (Ne.symm ne_13) ne_37 ne_74 ne_115 (Ne.symm ne_14) (lt_ne lN nc) (lt_ne lN ge_l1) (lt_ne lN ge_l2) (lt_ne lN ge_l3) (lt_ne lN ge_ss) (lt_ne lN i_182.1.2.2)
  exact hQ _ ⟨lab, l1, l2, l3, a_NONE, a_NONE, a_NONE, 0, 0, 0, ss, sar, .null, .null, ⟨o_181, lN, y9⟩, ⟨e_180, nc, y0⟩, ⟨f_172, f_173, f_174, f_175, f_176, f_177, f_178, f_179⟩, rcr, ⟨l_183, ⟨by decide, by decide⟩, y1, Or.inl rfl⟩, ⟨l_184, ⟨by decide, by decide⟩, y2, Or.inl rfl⟩, ⟨l_185, ⟨by decide, by decide⟩, y3, Or.inl rfl⟩, ⟨i_182, Or.inl (Or.inl rfl), y7, y8⟩, Or.inl ⟨rfl, fun _ => rfl⟩, Or.inl ⟨rfl, fun _ => rfl⟩⟩
set_option maxRecDepth 65536 in
set_option maxHeartbeats 40000000 in
theorem il_size (l : Launch) (Z : State) (a0 : Array Value) (hw : Hw a0 Z) (n0 : Nat) (h : Heap) (aN q va : Addr) (z : Int32) (S : IL Z h n0 aN q va z) {Q : Option Value → Heap → Prop} (hQ : Q (some (.int z)) h) :
    Go l Z (⟨"com/example/parallel_el/parallelel/util/IntList", "size", "()I"⟩ : MethodName) prog_25_method_6_code 1 (some .int) ({ frames := 0, cells := 0, slots := 0, locals := 0 } : Room) n0 Q h 0 0 0 #[.val (.ref q)] [] := by
  refine Go.aloadN d19_0 (q := 1) rfl rfl rfl ?_
  refine Go.getF d19_1 (q := 4) rfl (host := "") (Or.inl (w87 hw)) Via.refl S.2.2.1 ?_
  refine Go.ireturn d19_4 (by decide) (by decide) ?_
  exact hQ
set_option maxRecDepth 65536 in
set_option maxHeartbeats 40000000 in
theorem il_clear (l : Launch) (Z : State) (a0 : Array Value) (hw : Hw a0 Z) (n0 : Nat) (h : Heap) (O : Old Z n0 h) (aN q va : Addr) (z : Int32) (S : IL Z h n0 aN q va z) {Q : Option Value → Heap → Prop} (hQ : ∀ h', Keep h h' [q] → Old Z n0 h' → IL Z h' n0 aN q va 0 → Q none h') :
    Go l Z (⟨"com/example/parallel_el/parallelel/util/IntList", "clear", "()V"⟩ : MethodName) prog_25_method_7_code 1 none ({ frames := 0, cells := 0, slots := 0, locals := 0 } : Room) n0 Q h 0 0 0 #[.val (.ref q)] [] := by
  refine Go.aloadN d18_0 (q := 1) rfl rfl rfl ?_
  refine Go.iconst d18_1 (q := 2) rfl (x := (0 : Int32)) (by decide) ?_
  refine Go.putF d18_2 (q := 5) rfl (host := "") (Or.inl (w87 hw)) Via.refl S.2.2.1 S.1.1 (Or.inl (w88 hw)) (w30 hw) pTn rfl rfl S.1.2 ?_
  intro h1 W1
  refine Go.vreturn d18_5 (by decide) (by decide) ?_
  refine hQ h1 (Keep.of_wr W1) (O.wr W1 S.1.2) ⟨⟨S.1.1.wr W1, S.1.2⟩, S.2.1.nxt W1 (Or.inl (w39 hw)) (Or.inl (w88 hw)) (by decide) pTi pTn, S.2.2.1.same W1, ?_⟩
  rcases S.2.2.2 with ⟨e, -⟩ | ⟨nb, ⟨kA, ws, B, hl⟩, -⟩
  · exact Or.inl ⟨e, rfl⟩
  · exact Or.inr ⟨nb, ⟨kA, ws, B.other W1 (Ne.symm (Ar.ne S.1.1 (w30 hw) B)), hl⟩, by decide, by decide⟩
set_option maxRecDepth 65536 in
set_option maxHeartbeats 40000000 in
theorem forget (l : Launch) (Z : State) (a0 : Array Value) (hw : Hw a0 Z) (n0 : Nat) (h : Heap) (c : Addr) (rc co : Int32) (n1 n2 n3 : Nat) (mp ms : Nat → List Int32) (xs : List Int32) (a_NONE : Addr) (k_NONE : ClassId) (vs_NONE : List Value) (F : Facts Z a_NONE k_NONE vs_NONE) (Ct : CT Z h n0 a_NONE c rc co n1 n2 n3 xs mp ms) {Q : Option Value → Heap → Prop} (hQ : ∀ h', CT Z h' n0 a_NONE c rc co 0 0 0 xs mp ms → Q none h') :
    Go l Z (⟨"com/example/parallel_el/parallelel/reasoning/Context", "forgetNewFacts", "()V"⟩ : MethodName) prog_7_method_8_code 1 none ({ frames := 1, cells := 0, slots := 0, locals := 16 } : Room) n0 Q h 0 0 0 #[.val (.ref c)] [] := by
  obtain ⟨lab, l1, l2, l3, v1, v2, v3, z1, z2, z3, ss, sar, tp, ts, ⟨O, lN, lA⟩, ⟨Ec, nc, lc⟩, Fc, rcr, X1, X2, X3, Sx, T0, T1⟩ := Ct
  refine Go.aloadN d17_0 (q := 1) rfl rfl rfl ?_
  refine Go.getF d17_1 (q := 4) rfl (host := "") (Or.inl (w40 hw)) Via.refl Fc.2.1 ?_
  refine Go.callVN (P := fun h' => Keep h h' [l1] ∧ Old Z n0 h' ∧ IL Z h' n0 a_NONE l1 v1 0) (argsL := []) (rest := []) (wd := 0) (Ls1 := #[.val (.ref l1)]) d17_4 (q := 7) rfl (w108 hw) (w109 hw) (w111 hw) (w110 hw) (w112 hw) (w31 hw) (by decide) pn18 pd18 rfl rfl X1.1.1.1 (fun m_ => by simp [entryFrame, mkF, argsToLocals, Value.category]) rfl (by decide) rfl (by decide) (by decide) (by decide) (il_clear l Z a0 hw n0 h O a_NONE l1 v1 _ X1.1 (Q := RN (fun h' => Keep h h' [l1] ∧ Old Z n0 h' ∧ IL Z h' n0 a_NONE l1 v1 0)) (fun h' q1 q2 q3 => ⟨rfl, q1, q2, q3⟩)) ?_
  rintro h_1 ⟨K1, O1, L1⟩
  have lq1 := X1.2.2.1
  have X2_1 := X2.keep (lab' := lab) lN (X2.1.vlt O F) K1 (fun _ _ => rfl) (mem1 (P := fun w => ¬ (lab w = 2 ∨ lab w = 2 + 3)) (by show ¬ (lab l1 = 2 ∨ lab l1 = 2 + 3); omega))
  have X3_1 := X3.keep (lab' := lab) lN (X3.1.vlt O F) K1 (fun _ _ => rfl) (mem1 (P := fun w => ¬ (lab w = 3 ∨ lab w = 3 + 3)) (by show ¬ (lab l1 = 3 ∨ lab l1 = 3 + 3); omega))
  have X1_1 : ILX Z h_1 n0 a_NONE lab 1 0 l1 v1 0 := ⟨L1, ⟨by decide, by decide⟩, X1.2.2⟩
  have Sx_1 := Sx.keep (lab' := lab) K1 (fun _ _ => rfl) (mem1 (P := fun w => ¬ (lab w = 7 ∨ lab w = 8)) (by show ¬ (lab l1 = 7 ∨ lab l1 = 8); omega))
  have T0_1 := T0.keep (lab' := lab) (by decide) K1 (fun _ _ => rfl) (mem1 (P := fun w => ¬ nTB 0 (lab w)) (by show ¬ nTB 0 (lab l1); unfold nTB; omega))
  have T1_1 := T1.keep (lab' := lab) (by decide) K1 (fun _ _ => rfl) (mem1 (P := fun w => ¬ nTB 1 (lab w)) (by show ¬ nTB 1 (lab l1); unfold nTB; omega))
  have Fc_1 := Fc.keep K1 (nin1 (fun e => by have e2 := congrArg lab e; omega))
  have Ec_1 := Ec.keep K1
  refine Go.aloadN d17_7 (q := 8) rfl rfl rfl ?_
  refine Go.getF d17_8 (q := 11) rfl (host := "") (Or.inl (w42 hw)) Via.refl Fc_1.2.2.1 ?_
  refine Go.callVN (P := fun h' => Keep h_1 h' [l2] ∧ Old Z n0 h' ∧ IL Z h' n0 a_NONE l2 v2 0) (argsL := []) (rest := []) (wd := 0) (Ls1 := #[.val (.ref l2)]) d17_11 (q := 14) rfl (w108 hw) (w109 hw) (w111 hw) (w110 hw) (w112 hw) (w31 hw) (by decide) pn18 pd18 rfl rfl X2_1.1.1.1 (fun m_ => by simp [entryFrame, mkF, argsToLocals, Value.category]) rfl (by decide) rfl (by decide) (by decide) (by decide) (il_clear l Z a0 hw n0 h_1 O1 a_NONE l2 v2 _ X2_1.1 (Q := RN (fun h' => Keep h_1 h' [l2] ∧ Old Z n0 h' ∧ IL Z h' n0 a_NONE l2 v2 0)) (fun h' q1 q2 q3 => ⟨rfl, q1, q2, q3⟩)) ?_
  rintro h_2 ⟨K2, O2, L2⟩
  have lq2 := X2_1.2.2.1
  have X1_2 := X1_1.keep (lab' := lab) lN (X1_1.1.vlt O1 F) K2 (fun _ _ => rfl) (mem1 (P := fun w => ¬ (lab w = 1 ∨ lab w = 1 + 3)) (by show ¬ (lab l2 = 1 ∨ lab l2 = 1 + 3); omega))
  have X3_2 := X3_1.keep (lab' := lab) lN (X3_1.1.vlt O1 F) K2 (fun _ _ => rfl) (mem1 (P := fun w => ¬ (lab w = 3 ∨ lab w = 3 + 3)) (by show ¬ (lab l2 = 3 ∨ lab l2 = 3 + 3); omega))
  have X2_2 : ILX Z h_2 n0 a_NONE lab 2 0 l2 v2 0 := ⟨L2, ⟨by decide, by decide⟩, X2_1.2.2⟩
  have Sx_2 := Sx_1.keep (lab' := lab) K2 (fun _ _ => rfl) (mem1 (P := fun w => ¬ (lab w = 7 ∨ lab w = 8)) (by show ¬ (lab l2 = 7 ∨ lab l2 = 8); omega))
  have T0_2 := T0_1.keep (lab' := lab) (by decide) K2 (fun _ _ => rfl) (mem1 (P := fun w => ¬ nTB 0 (lab w)) (by show ¬ nTB 0 (lab l2); unfold nTB; omega))
  have T1_2 := T1_1.keep (lab' := lab) (by decide) K2 (fun _ _ => rfl) (mem1 (P := fun w => ¬ nTB 1 (lab w)) (by show ¬ nTB 1 (lab l2); unfold nTB; omega))
  have Fc_2 := Fc_1.keep K2 (nin1 (fun e => by have e2 := congrArg lab e; omega))
  have Ec_2 := Ec_1.keep K2
  refine Go.aloadN d17_14 (q := 15) rfl rfl rfl ?_
  refine Go.getF d17_15 (q := 18) rfl (host := "") (Or.inl (w44 hw)) Via.refl Fc_2.2.2.2.1 ?_
  refine Go.callVN (P := fun h' => Keep h_2 h' [l3] ∧ Old Z n0 h' ∧ IL Z h' n0 a_NONE l3 v3 0) (argsL := []) (rest := []) (wd := 0) (Ls1 := #[.val (.ref l3)]) d17_18 (q := 21) rfl (w108 hw) (w109 hw) (w111 hw) (w110 hw) (w112 hw) (w31 hw) (by decide) pn18 pd18 rfl rfl X3_2.1.1.1 (fun m_ => by simp [entryFrame, mkF, argsToLocals, Value.category]) rfl (by decide) rfl (by decide) (by decide) (by decide) (il_clear l Z a0 hw n0 h_2 O2 a_NONE l3 v3 _ X3_2.1 (Q := RN (fun h' => Keep h_2 h' [l3] ∧ Old Z n0 h' ∧ IL Z h' n0 a_NONE l3 v3 0)) (fun h' q1 q2 q3 => ⟨rfl, q1, q2, q3⟩)) ?_
  rintro h_3 ⟨K3, O3, L3⟩
  have lq3 := X3_2.2.2.1
  have X1_3 := X1_2.keep (lab' := lab) lN (X1_2.1.vlt O2 F) K3 (fun _ _ => rfl) (mem1 (P := fun w => ¬ (lab w = 1 ∨ lab w = 1 + 3)) (by show ¬ (lab l3 = 1 ∨ lab l3 = 1 + 3); omega))
  have X2_3 := X2_2.keep (lab' := lab) lN (X2_2.1.vlt O2 F) K3 (fun _ _ => rfl) (mem1 (P := fun w => ¬ (lab w = 2 ∨ lab w = 2 + 3)) (by show ¬ (lab l3 = 2 ∨ lab l3 = 2 + 3); omega))
  have X3_3 : ILX Z h_3 n0 a_NONE lab 3 0 l3 v3 0 := ⟨L3, ⟨by decide, by decide⟩, X3_2.2.2⟩
  have Sx_3 := Sx_2.keep (lab' := lab) K3 (fun _ _ => rfl) (mem1 (P := fun w => ¬ (lab w = 7 ∨ lab w = 8)) (by show ¬ (lab l3 = 7 ∨ lab l3 = 8); omega))
  have T0_3 := T0_2.keep (lab' := lab) (by decide) K3 (fun _ _ => rfl) (mem1 (P := fun w => ¬ nTB 0 (lab w)) (by show ¬ nTB 0 (lab l3); unfold nTB; omega))
  have T1_3 := T1_2.keep (lab' := lab) (by decide) K3 (fun _ _ => rfl) (mem1 (P := fun w => ¬ nTB 1 (lab w)) (by show ¬ nTB 1 (lab l3); unfold nTB; omega))
  have Fc_3 := Fc_2.keep K3 (nin1 (fun e => by have e2 := congrArg lab e; omega))
  have Ec_3 := Ec_2.keep K3
  refine Go.vreturn d17_21 (by decide) (by decide) ?_
  exact hQ _ ⟨lab, l1, l2, l3, v1, v2, v3, 0, 0, 0, ss, sar, tp, ts, ⟨O3, lN, lA⟩, ⟨Ec_3, nc, lc⟩, Fc_3, rcr, X1_3, X2_3, X3_3, Sx_3, T0_3, T1_3⟩
theorem inc1 {z : Int32} {n : Nat} (r : ¬ z < 0 ∧ z.toNatClampNeg ≤ n) (hn : n ≤ 4) : ¬ (z + 1) < 0 ∧ (z + 1).toNatClampNeg ≤ n + 1 := by
  have e := c_iadd z 1
  have r' := rng32 (z + 1)
  have e1 : (1 : Int32).toInt = 1 := rfl
  have h0 := nonneg_iff.mp r.1
  have h1 : z.toInt.toNat ≤ n := r.2
  refine ⟨nonneg_iff.mpr (by omega), ?_⟩
  show (z + 1).toInt.toNat ≤ n + 1
  omega
set_option maxRecDepth 65536 in
set_option maxHeartbeats 40000000 in
theorem addSub (l : Launch) (Z : State) (a0 : Array Value) (hw : Hw a0 Z) (n0 : Nat) (h : Heap) (c : Addr) (rc co : Int32) (n1 n2 n3 : Nat) (mp ms : Nat → List Int32) (a_NONE : Addr) (k_NONE : ClassId) (vs_NONE : List Value) (F : Facts Z a_NONE k_NONE vs_NONE) (Ct : CT Z h n0 a_NONE c rc co n1 n2 n3 [] mp ms) (u : Int32) (h0 : ¬ u < 0) (hn : n1 ≤ 4) {Q : Option Value → Heap → Prop} (hQ : ∀ h' (b : Int32), b = 0 ∨ b = 1 → CT Z h' n0 a_NONE c rc co (n1 + 1) n2 n3 [u] mp ms → Q (some (.int b)) h') :
    Go l Z (⟨"com/example/parallel_el/parallelel/reasoning/Context", "addSubsumer", "(I)Z"⟩ : MethodName) prog_7_method_4_code 2 (some .boolean) ({ frames := 3, cells := 1, slots := 8, locals := 90 } : Room) n0 Q h 0 0 0 #[.val (.ref c), .val (.int u)] [] := by
  obtain ⟨lab, l1, l2, l3, v1, v2, v3, z1, z2, z3, ss, sar, tp, ts, ⟨O, lN, lA⟩, ⟨Ec, nc, lc⟩, Fc, rcr, X1, X2, X3, Sx, T0, T1⟩ := Ct
  refine Go.aloadN d24_0 (q := 1) rfl rfl rfl ?_
  refine Go.getF d24_1 (q := 4) rfl (host := "") (Or.inl (w27 hw)) Via.refl Fc.1 ?_
  refine Go.iloadN d24_4 (q := 5) rfl rfl ?_
  refine Go.callVV (P := fun w h' => w = .int (1 : Int32) ∧ SX Z h' n0 ss sar [u] ∧ Keep h h' [ss, sar]) (argsL := [(.int u)]) (rest := []) (wd := 0) (Ls1 := #[.val (.ref ss), .val (.int u), .unset]) d24_5 (q := 8) rfl (w62 hw) (w63 hw) (w65 hw) (w64 hw) (w66 hw) (w12 hw) (by decide) pn9 pd9 rfl rfl Sx.1.1.1 (fun m_ => by simp [entryFrame, mkF, argsToLocals, Value.category]) rfl (by decide) rfl (by decide) (by decide) (by decide) (sx_add l Z a0 hw n0 h ss sar [] Sx.1 u (Or.inl rfl) h0 (Q := RV (fun w h' => w = .int (1 : Int32) ∧ SX Z h' n0 ss sar [u] ∧ Keep h h' [ss, sar])) (fun e => absurd e (by simp)) (fun _ h' q1 q2 => ⟨_, rfl, rfl, q1, q2⟩)) ?_
  rintro _ h1 ⟨rfl, S1, K1⟩
  have ls := Sx.2.2.1
  have la := Sx.2.2.2
  have lq := X1.2.2.1
  have lv : lab v1 = 9 ∨ lab v1 = 4 := by
    rcases X1.2.2.2 with e | e
    · exact Or.inl (by rw [e]; exact lA)
    · exact Or.inr e
  have cn1 : c ∉ [ss, sar] := nin2 (fun e => by have e2 := congrArg lab e; omega) (fun e => by have e2 := congrArg lab e; omega)
  have L1 := X1.1.keep K1 (nin2 (fun e => by have e2 := congrArg lab e; omega) (fun e => by have e2 := congrArg lab e; omega)) (fun _ => nin2 (fun e => by have e2 := congrArg lab e; omega) (fun e => by have e2 := congrArg lab e; omega))
  have O1 := O.keep K1 (fun y hy => by
    rcases List.mem_cons.mp hy with rfl | hy
    · exact Sx.1.1.2.1
    · cases List.mem_singleton.mp hy; exact Sx.1.1.2.2)
  refine Go.if_ne d24_8 (q := 13) (q' := 11) (by decide) rfl rfl (fun _ => ?_) (fun c_ => absurd c_ (by decide))
  refine Go.aloadN d24_13 (q := 14) rfl rfl rfl ?_
  refine Go.getF d24_14 (q := 17) rfl (host := "") (Or.inl (w40 hw)) Via.refl (Fc.keep K1 cn1).2.1 ?_
  refine Go.iloadN d24_17 (q := 18) rfl rfl ?_
  refine Go.callVN (P := fun h' => ∃ va', Old Z n0 h' ∧ IL Z h' n0 a_NONE l1 va' (z1 + 1) ∧ Keep h1 h' [l1, v1] ∧ (va' = v1 ∨ h1.size ≤ va') ∧ n0 ≤ va') (argsL := [(.int u)]) (rest := []) (wd := 0) (Ls1 := #[.val (.ref l1), .val (.int u)]) d24_18 (q := 21) rfl (w150 hw) (w83 hw) (w85 hw) (w84 hw) (w86 hw) (w31 hw) (by decide) pn13 pd13 rfl rfl L1.1.1 (fun m_ => by simp [entryFrame, mkF, argsToLocals, Value.category]) rfl (by decide) rfl (by decide) (by decide) (by decide) (il_add1 l Z a0 hw n0 h1 O1 l1 v1 z1 u a_NONE k_NONE vs_NONE F L1 ⟨X1.2.1.1, by have := X1.2.1.2; omega⟩ (Q := RN (fun h' => ∃ va', Old Z n0 h' ∧ IL Z h' n0 a_NONE l1 va' (z1 + 1) ∧ Keep h1 h' [l1, v1] ∧ (va' = v1 ∨ h1.size ≤ va') ∧ n0 ≤ va')) (fun h' va' q1 q2 q3 q4 q5 => ⟨rfl, va', q1, q2, q3, q4, q5⟩)) ?_
  rintro h2 ⟨va, O2, L2, K2, D, nva⟩
  refine Go.iconst d24_21 (q := 22) rfl (x := (1 : Int32)) (by decide) ?_
  refine Go.zreturn d24_22 (by decide) (by decide) (by decide) ?_
  have K : Keep h h2 [ss, sar, l1, v1] := ((Keep.refl h [ss, sar, l1, v1]).trans K1 (fun y hy => Or.inl (by
    rcases List.mem_cons.mp hy with rfl | hy
    · simp
    · cases List.mem_singleton.mp hy; simp))).trans K2 (fun y hy => Or.inl (by
    rcases List.mem_cons.mp hy with rfl | hy
    · simp
    · cases List.mem_singleton.mp hy; simp))
  have S2 : SX Z h2 n0 ss sar [u] := IS.keep S1 K2 (nin2 (fun e => by have e2 := congrArg lab e; omega) (fun e => by have e2 := congrArg lab e; omega)) (nin2 (fun e => by have e2 := congrArg lab e; omega) (fun e => by have e2 := congrArg lab e; omega))
  have D' : va = v1 ∨ h.size ≤ va := D.imp id (fun d => Nat.le_trans K1.1 d)
  obtain ⟨lab2, ag, lv2⟩ := mk_lab1 lab h.size va (1 + 3)
  have vl1 := X1.1.vlt O F
  have vl2 := X2.1.vlt O F
  have vl3 := X3.1.vlt O F
  exact hQ h2 1 (Or.inr rfl) ⟨lab2, l1, l2, l3, va, v2, v3, z1 + 1, z2, z3, ss, sar, tp, ts, ⟨O2, lN, (ag _ (Nat.lt_of_lt_of_le lN (O.1 ▸ O.2.1))).trans lA⟩, ⟨Ec.keep K, nc, (ag _ Ec.lt).trans lc⟩, Fc.keep K (nin4 (fun e => by have e2 := congrArg lab e; omega) (fun e => by have e2 := congrArg lab e; omega) (fun e => by have e2 := congrArg lab e; omega) (fun e => by have e2 := congrArg lab e; omega)), rcr, ⟨L2, inc1 X1.2.1 hn, (ag _ X1.1.1.1.lt).trans lq, va_lab lN ag vl1 X1.2.2.2 D' nva lv2⟩, X2.keep lN vl2 K ag (mem4 (P := fun w => ¬ (lab w = 2 ∨ lab w = 2 + 3)) (by show ¬ (lab ss = 2 ∨ lab ss = 2 + 3); omega) (by show ¬ (lab sar = 2 ∨ lab sar = 2 + 3); omega) (by show ¬ (lab l1 = 2 ∨ lab l1 = 2 + 3); omega) (by show ¬ (lab v1 = 2 ∨ lab v1 = 2 + 3); omega)), X3.keep lN vl3 K ag (mem4 (P := fun w => ¬ (lab w = 3 ∨ lab w = 3 + 3)) (by show ¬ (lab ss = 3 ∨ lab ss = 3 + 3); omega) (by show ¬ (lab sar = 3 ∨ lab sar = 3 + 3); omega) (by show ¬ (lab l1 = 3 ∨ lab l1 = 3 + 3); omega) (by show ¬ (lab v1 = 3 ∨ lab v1 = 3 + 3); omega)), ⟨S2, Or.inl (Or.inr ⟨u, rfl, h0⟩), (ag _ (IS.lt Sx.1).1).trans ls, (ag _ (IS.lt Sx.1).2).trans la⟩, T0.keep (by decide) K ag (mem4 (P := fun w => ¬ nTB 0 (lab w)) (by show ¬ nTB 0 (lab ss); unfold nTB; omega) (by show ¬ nTB 0 (lab sar); unfold nTB; omega) (by show ¬ nTB 0 (lab l1); unfold nTB; omega) (by show ¬ nTB 0 (lab v1); unfold nTB; omega)), T1.keep (by decide) K ag (mem4 (P := fun w => ¬ nTB 1 (lab w)) (by show ¬ nTB 1 (lab ss); unfold nTB; omega) (by show ¬ nTB 1 (lab sar); unfold nTB; omega) (by show ¬ nTB 1 (lab l1); unfold nTB; omega) (by show ¬ nTB 1 (lab v1); unfold nTB; omega))⟩
theorem ct_exa {Z : State} {h : Heap} {n0 : Nat} {aN c : Addr} {rc co : Int32} {n1 n2 n3 : Nat} {xs : List Int32} {mp ms : Nat → List Int32} (Ct : CT Z h n0 aN c rc co n1 n2 n3 xs mp ms) : Exa Z h c CXN := by
  obtain ⟨lab, l1, l2, l3, v1, v2, v3, z1, z2, z3, ss, sar, tp, ts, -, ⟨Ec, -, -⟩, -⟩ := Ct
  exact Ec
theorem z_zero {z : Int32} (r : ¬ z < 0 ∧ z.toNatClampNeg ≤ 0) : z = 0 := by
  have h0 := nonneg_iff.mp r.1
  have h1 : z.toInt.toNat ≤ 0 := r.2
  rw [← Int32.toInt_inj]
  have e : (0 : Int32).toInt = 0 := rfl
  omega
set_option maxRecDepth 65536 in
set_option maxHeartbeats 40000000 in
theorem law74_000 (l : Launch) (Z : State) (a0 : Array Value) (hw : Hw a0 Z) (n0 : Nat) (h : Heap) (O : Old Z n0 h) (co ro fl a0_ x0 y0 rc r sa px sy : Int32) (a_NONE : Addr) (k_NONE : ClassId) (vs_NONE : List Value) (F : Facts Z a_NONE k_NONE vs_NONE) (rcr : ¬ rc < 0 ∧ rc.toNatClampNeg ≤ 4) (hr : ¬ r < 0 ∧ r.toNatClampNeg < rc.toNatClampNeg) (hs : ¬ sa < 0) (hp : ¬ px < 0) (hy : ¬ sy < 0) :
    Go l Z x code maxLocals ret room_1 n0 (fun v _ => v = some (.int 1)) h 0 0 74 #[.val (.int co), .val (.int ro), .val (.int fl), .val (.int a0_), .val (.int x0), .val (.int y0), .val (.int rc), .val (.int r), .val (.int (0 : Int32)), .val (.int (0 : Int32)), .val (.int (0 : Int32)), .val (.int sa), .val (.int px), .val (.int sy), .unset, .unset, .unset, .unset, .unset, .unset, .unset] [] := by
  refine Go.new at_74 (q := 77) rfl (w1 hw) (w2 hw) (w3 hw) (by decide) (by decide) ?_
  intro h1 c e1 X1 E1 D1
  have nc : n0 ≤ c := new_le (O.1 ▸ O.2.1) e1
  refine Go.dup at_77 (q := 78) rfl rfl ?_
  refine Go.iloadN at_78 (q := 79) rfl rfl ?_
  refine Go.iload at_79 (q := 81) rfl rfl ?_
  refine Go.callIN (P := fun h' => CT Z h' n0 a_NONE c rc co 0 0 0 [] (fun (_ : Nat) => ([] : List Int32)) (fun (_ : Nat) => ([] : List Int32))) (argsL := [(.int co), (.int rc)]) (rest := [(.ref c)]) (wd := 1) (Ls1 := #[.val (.ref c), .val (.int co), .val (.int rc)]) at_81 (q := 84) rfl rfl (w4 hw) (w5 hw) (w3 hw) (w6 hw) (by decide) pn1 pd1 rfl rfl (fun m_ => by simp [entryFrame, mkF, argsToLocals, Value.category]) rfl (by decide) rfl (by decide) (by decide) (by decide) (cx_init l Z a0 hw n0 h1 (O.ext X1) c co rc nc E1 (D1 (Or.inr (w28 hw)) pTS) (D1 (Or.inr (w41 hw)) pTL) (D1 (Or.inr (w43 hw)) pTL) (D1 (Or.inr (w45 hw)) pTL) (D1 (Or.inl (w56 hw)) pTA) (D1 (Or.inl (w143 hw)) pTA) (D1 (Or.inr (w49 hw)) pTn) (D1 (Or.inr (w47 hw)) pTn) rcr a_NONE k_NONE vs_NONE F (Q := RN (fun h' => CT Z h' n0 a_NONE c rc co 0 0 0 [] (fun (_ : Nat) => ([] : List Int32)) (fun (_ : Nat) => ([] : List Int32)))) (fun h' q => ⟨rfl, q⟩)) ?_
  intro g0 C0
  refine Go.astore at_84 (q := 86) rfl rfl (Ls' := #[.val (.int co), .val (.int ro), .val (.int fl), .val (.int a0_), .val (.int x0), .val (.int y0), .val (.int rc), .val (.int r), .val (.int (0 : Int32)), .val (.int (0 : Int32)), .val (.int (0 : Int32)), .val (.int sa), .val (.int px), .val (.int sy), .val (.ref c), .unset, .unset, .unset, .unset, .unset, .unset]) rfl ?_
  refine Go.iload at_86 (q := 88) rfl rfl ?_
  refine Go.if_eq at_88 (q := 99) (q' := 91) (by decide) rfl rfl (fun _ => ?_) (fun c_ => absurd (by decide) c_)
  refine Go.iload at_99 (q := 101) rfl rfl ?_
  refine Go.if_eq at_101 (q := 114) (q' := 104) (by decide) rfl rfl (fun _ => ?_) (fun c_ => absurd (by decide) c_)
  refine Go.iload at_114 (q := 116) rfl rfl ?_
  refine Go.if_eq at_116 (q := 129) (q' := 119) (by decide) rfl rfl (fun _ => ?_) (fun c_ => absurd (by decide) c_)
  refine Go.aload at_129 (q := 131) rfl rfl rfl ?_
  refine Go.callVN (P := fun h' => CT Z h' n0 a_NONE c rc co 0 0 0 [] (fun (_ : Nat) => ([] : List Int32)) (fun (_ : Nat) => ([] : List Int32))) (argsL := []) (rest := []) (wd := 0) (Ls1 := #[.val (.ref c)]) at_131 (q := 134) rfl (w103 hw) (w104 hw) (w106 hw) (w105 hw) (w107 hw) (w3 hw) (by decide) pn17 pd17 rfl rfl (ct_exa C0) (fun m_ => by simp [entryFrame, mkF, argsToLocals, Value.category]) rfl (by decide) rfl (by decide) (by decide) (by decide) (forget l Z a0 hw n0 g0 c rc co 0 0 0 (fun (_ : Nat) => ([] : List Int32)) (fun (_ : Nat) => ([] : List Int32)) [] a_NONE k_NONE vs_NONE F C0 (Q := RN (fun h' => CT Z h' n0 a_NONE c rc co 0 0 0 [] (fun (_ : Nat) => ([] : List Int32)) (fun (_ : Nat) => ([] : List Int32)))) (fun h' q => ⟨rfl, q⟩)) ?_
  intro hf Cf
  have Ct := Cf
  obtain ⟨lab, l1, l2, l3, v1, v2, v3, z1, z2, z3, ss, sar, tp, ts, ⟨Of, lN, lA⟩, ⟨Ec, ncf, lc⟩, Fc, rcf, X1f, X2f, X3f, Sx, T0, T1⟩ := Cf
  obtain rfl : z1 = 0 := z_zero X1f.2.1
  obtain rfl : z2 = 0 := z_zero X2f.2.1
  obtain rfl : z3 = 0 := z_zero X3f.2.1
  refine Go.aload at_134 (q := 136) rfl rfl rfl ?_
  refine Go.getF at_136 (q := 139) rfl (host := "") (Or.inl (w113 hw)) Via.refl Fc.2.1 ?_
  refine Go.callVV (P := fun w h' => w = .int (0 : Int32) ∧ hf = h') (argsL := []) (rest := []) (wd := 0) (Ls1 := #[.val (.ref l1)]) at_139 (q := 142) rfl (w114 hw) (w115 hw) (w117 hw) (w116 hw) (w118 hw) (w31 hw) (by decide) pn19 pd19 rfl rfl X1f.1.1.1 (fun m_ => by simp [entryFrame, mkF, argsToLocals, Value.category]) rfl (by decide) rfl (by decide) (by decide) (by decide) (il_size l Z a0 hw n0 hf a_NONE l1 v1 0 X1f.1 (Q := RV (fun w h' => w = .int (0 : Int32) ∧ hf = h')) ⟨_, rfl, rfl, rfl⟩) ?_
  rintro _ _ ⟨rfl, rfl⟩
  refine Go.if_ne at_142 (q := 171) (q' := 145) (by decide) rfl rfl (fun c_ => absurd (by decide) c_) (fun _ => ?_)
  refine Go.aload at_145 (q := 147) rfl rfl rfl ?_
  refine Go.getF at_147 (q := 150) rfl (host := "") (Or.inl (w119 hw)) Via.refl Fc.2.2.1 ?_
  refine Go.callVV (P := fun w h' => w = .int (0 : Int32) ∧ hf = h') (argsL := []) (rest := []) (wd := 0) (Ls1 := #[.val (.ref l2)]) at_150 (q := 153) rfl (w114 hw) (w115 hw) (w117 hw) (w116 hw) (w118 hw) (w31 hw) (by decide) pn19 pd19 rfl rfl X2f.1.1.1 (fun m_ => by simp [entryFrame, mkF, argsToLocals, Value.category]) rfl (by decide) rfl (by decide) (by decide) (by decide) (il_size l Z a0 hw n0 hf a_NONE l2 v2 0 X2f.1 (Q := RV (fun w h' => w = .int (0 : Int32) ∧ hf = h')) ⟨_, rfl, rfl, rfl⟩) ?_
  rintro _ _ ⟨rfl, rfl⟩
  refine Go.if_ne at_153 (q := 171) (q' := 156) (by decide) rfl rfl (fun c_ => absurd (by decide) c_) (fun _ => ?_)
  refine Go.aload at_156 (q := 158) rfl rfl rfl ?_
  refine Go.getF at_158 (q := 161) rfl (host := "") (Or.inl (w120 hw)) Via.refl Fc.2.2.2.1 ?_
  refine Go.callVV (P := fun w h' => w = .int (0 : Int32) ∧ hf = h') (argsL := []) (rest := []) (wd := 0) (Ls1 := #[.val (.ref l3)]) at_161 (q := 164) rfl (w114 hw) (w115 hw) (w117 hw) (w116 hw) (w118 hw) (w31 hw) (by decide) pn19 pd19 rfl rfl X3f.1.1.1 (fun m_ => by simp [entryFrame, mkF, argsToLocals, Value.category]) rfl (by decide) rfl (by decide) (by decide) (by decide) (il_size l Z a0 hw n0 hf a_NONE l3 v3 0 X3f.1 (Q := RV (fun w h' => w = .int (0 : Int32) ∧ hf = h')) ⟨_, rfl, rfl, rfl⟩) ?_
  rintro _ _ ⟨rfl, rfl⟩
  refine Go.if_ne at_164 (q := 171) (q' := 167) (by decide) rfl rfl (fun c_ => absurd (by decide) c_) (fun _ => ?_)
  refine Go.iconst at_167 (q := 168) rfl (x := (1 : Int32)) (by decide) ?_
  refine Go.goto at_168 (q := 172) (by decide) rfl ?_
  refine Go.istore at_172 (q := 174) rfl (Ls' := #[.val (.int co), .val (.int ro), .val (.int fl), .val (.int a0_), .val (.int x0), .val (.int y0), .val (.int rc), .val (.int r), .val (.int (0 : Int32)), .val (.int (0 : Int32)), .val (.int (0 : Int32)), .val (.int sa), .val (.int px), .val (.int sy), .val (.ref c), .val (.int (1 : Int32)), .unset, .unset, .unset, .unset, .unset]) rfl ?_
  refine Go.aload at_174 (q := 176) rfl rfl rfl ?_
  refine Go.getF at_176 (q := 179) rfl (host := "") (Or.inl (w121 hw)) Via.refl Fc.1 ?_
  refine Go.iload at_179 (q := 181) rfl rfl ?_
  refine Go.callVV (P := fun w h' => w = .int (0 : Int32) ∧ hf = h') (argsL := [(.int sa)]) (rest := []) (wd := 0) (Ls1 := #[.val (.ref ss), .val (.int sa)]) at_181 (q := 184) rfl (w122 hw) (w123 hw) (w125 hw) (w124 hw) (w126 hw) (w12 hw) (by decide) pn20 pd20 rfl rfl Sx.1.1.1 (fun m_ => by simp [entryFrame, mkF, argsToLocals, Value.category]) rfl (by decide) rfl (by decide) (by decide) (by decide) (sx_contains l Z a0 hw n0 hf ss sar [] Sx.1 sa Sx.2.1 hs (Q := RV (fun w h' => w = .int (0 : Int32) ∧ hf = h')) ⟨_, rfl, by rw [if_neg (by simp)], rfl⟩) ?_
  rintro _ _ ⟨rfl, rfl⟩
  refine Go.iload at_184 (q := 186) rfl rfl ?_
  refine Go.icmp_ne at_186 (q := 214) (q' := 189) (by decide) rfl rfl (fun c_ => absurd (by decide) c_) (fun _ => ?_)
  refine Go.aload at_189 (q := 191) rfl rfl rfl ?_
  refine Go.getF at_191 (q := 194) rfl (host := "") (Or.inl (w121 hw)) Via.refl Fc.1 ?_
  refine Go.callVV (P := fun w h' => w = .int (0 : Int32) ∧ hf = h') (argsL := []) (rest := []) (wd := 0) (Ls1 := #[.val (.ref ss)]) at_194 (q := 197) rfl (w127 hw) (w128 hw) (w130 hw) (w129 hw) (w131 hw) (w12 hw) (by decide) pn21 pd21 rfl rfl Sx.1.1.1 (fun m_ => by simp [entryFrame, mkF, argsToLocals, Value.category]) rfl (by decide) rfl (by decide) (by decide) (by decide) (is_size l Z a0 hw n0 hf ss sar _ _ Sx.1 (Q := RV (fun w h' => w = .int (0 : Int32) ∧ hf = h')) ⟨_, rfl, rfl, rfl⟩) ?_
  rintro _ _ ⟨rfl, rfl⟩
  refine Go.iload at_197 (q := 199) rfl rfl ?_
  refine Go.if_eq at_199 (q := 206) (q' := 202) (by decide) rfl rfl (fun _ => ?_) (fun c_ => absurd (by decide) c_)
  refine Go.iconst at_206 (q := 207) rfl (x := (0 : Int32)) (by decide) ?_
  refine Go.icmp_ne at_207 (q := 214) (q' := 210) (by decide) rfl rfl (fun c_ => absurd (by decide) c_) (fun _ => ?_)
  refine Go.iconst at_210 (q := 211) rfl (x := (1 : Int32)) (by decide) ?_
  refine Go.goto at_211 (q := 215) (by decide) rfl ?_
  refine Go.istore at_215 (q := 217) rfl (Ls' := #[.val (.int co), .val (.int ro), .val (.int fl), .val (.int a0_), .val (.int x0), .val (.int y0), .val (.int rc), .val (.int r), .val (.int (0 : Int32)), .val (.int (0 : Int32)), .val (.int (0 : Int32)), .val (.int sa), .val (.int px), .val (.int sy), .val (.ref c), .val (.int (1 : Int32)), .val (.int (1 : Int32)), .unset, .unset, .unset, .unset]) rfl ?_
  refine Go.aload at_217 (q := 219) rfl rfl rfl ?_
  refine Go.iload at_219 (q := 221) rfl rfl ?_
  refine Go.callVV (P := fun w h' => Value.null = w ∧ hf = h') (argsL := [(.int r)]) (rest := []) (wd := 0) (Ls1 := #[.val (.ref c), .val (.int r)]) at_221 (q := 224) rfl (w132 hw) (w133 hw) (w135 hw) (w134 hw) (w136 hw) (w3 hw) (by decide) pn22 pd22 rfl rfl Ec (fun m_ => by simp [entryFrame, mkF, argsToLocals, Value.category]) rfl (by decide) rfl (by decide) (by decide) (by decide) (read0 l Z a0 hw n0 hf c rc co 0 0 0 [] (fun (_ : Nat) => ([] : List Int32)) (fun (_ : Nat) => ([] : List Int32)) a_NONE Ct r hr (Q := RV (fun w h' => Value.null = w ∧ hf = h')) (fun _ => ⟨_, rfl, rfl, rfl⟩) (fun e => absurd rfl e)) ?_
  rintro _ _ ⟨rfl, rfl⟩
  refine Go.astore at_224 (q := 226) rfl rfl (Ls' := #[.val (.int co), .val (.int ro), .val (.int fl), .val (.int a0_), .val (.int x0), .val (.int y0), .val (.int rc), .val (.int r), .val (.int (0 : Int32)), .val (.int (0 : Int32)), .val (.int (0 : Int32)), .val (.int sa), .val (.int px), .val (.int sy), .val (.ref c), .val (.int (1 : Int32)), .val (.int (1 : Int32)), .val .null, .unset, .unset, .unset]) rfl ?_
  refine Go.iload at_226 (q := 228) rfl rfl ?_
  refine Go.if_eq at_228 (q := 254) (q' := 231) (by decide) rfl rfl (fun _ => ?_) (fun c_ => absurd (by decide) c_)
  refine Go.aload at_254 (q := 256) rfl rfl rfl ?_
  refine Go.ifnonnull at_256 (q := 263) (q' := 259) (by decide) rfl rfl rfl (fun _ e => by cases e) (fun _ => ?_)
  refine Go.iconst at_259 (q := 260) rfl (x := (1 : Int32)) (by decide) ?_
  refine Go.goto at_260 (q := 264) (by decide) rfl ?_
  refine Go.istore at_264 (q := 266) rfl (Ls' := #[.val (.int co), .val (.int ro), .val (.int fl), .val (.int a0_), .val (.int x0), .val (.int y0), .val (.int rc), .val (.int r), .val (.int (0 : Int32)), .val (.int (0 : Int32)), .val (.int (0 : Int32)), .val (.int sa), .val (.int px), .val (.int sy), .val (.ref c), .val (.int (1 : Int32)), .val (.int (1 : Int32)), .val .null, .val (.int (1 : Int32)), .unset, .unset]) rfl ?_
  refine Go.aload at_266 (q := 268) rfl rfl rfl ?_
  refine Go.iload at_268 (q := 270) rfl rfl ?_
  refine Go.callVV (P := fun w h' => Value.null = w ∧ hf = h') (argsL := [(.int r)]) (rest := []) (wd := 0) (Ls1 := #[.val (.ref c), .val (.int r)]) at_270 (q := 273) rfl (w137 hw) (w138 hw) (w140 hw) (w139 hw) (w141 hw) (w3 hw) (by decide) pn23 pd23 rfl rfl Ec (fun m_ => by simp [entryFrame, mkF, argsToLocals, Value.category]) rfl (by decide) rfl (by decide) (by decide) (by decide) (read1 l Z a0 hw n0 hf c rc co 0 0 0 [] (fun (_ : Nat) => ([] : List Int32)) (fun (_ : Nat) => ([] : List Int32)) a_NONE Ct r hr (Q := RV (fun w h' => Value.null = w ∧ hf = h')) (fun _ => ⟨_, rfl, rfl, rfl⟩) (fun e => absurd rfl e)) ?_
  rintro _ _ ⟨rfl, rfl⟩
  refine Go.astore at_273 (q := 275) rfl rfl (Ls' := #[.val (.int co), .val (.int ro), .val (.int fl), .val (.int a0_), .val (.int x0), .val (.int y0), .val (.int rc), .val (.int r), .val (.int (0 : Int32)), .val (.int (0 : Int32)), .val (.int (0 : Int32)), .val (.int sa), .val (.int px), .val (.int sy), .val (.ref c), .val (.int (1 : Int32)), .val (.int (1 : Int32)), .val .null, .val (.int (1 : Int32)), .val .null, .unset]) rfl ?_
  refine Go.iload at_275 (q := 277) rfl rfl ?_
  refine Go.if_eq at_277 (q := 303) (q' := 280) (by decide) rfl rfl (fun _ => ?_) (fun c_ => absurd (by decide) c_)
  refine Go.aload at_303 (q := 305) rfl rfl rfl ?_
  refine Go.ifnonnull at_305 (q := 312) (q' := 308) (by decide) rfl rfl rfl (fun _ e => by cases e) (fun _ => ?_)
  refine Go.iconst at_308 (q := 309) rfl (x := (1 : Int32)) (by decide) ?_
  refine Go.goto at_309 (q := 313) (by decide) rfl ?_
  refine Go.istore at_313 (q := 315) rfl (Ls' := #[.val (.int co), .val (.int ro), .val (.int fl), .val (.int a0_), .val (.int x0), .val (.int y0), .val (.int rc), .val (.int r), .val (.int (0 : Int32)), .val (.int (0 : Int32)), .val (.int (0 : Int32)), .val (.int sa), .val (.int px), .val (.int sy), .val (.ref c), .val (.int (1 : Int32)), .val (.int (1 : Int32)), .val .null, .val (.int (1 : Int32)), .val .null, .val (.int (1 : Int32))]) rfl ?_
  refine Go.iload at_315 (q := 317) rfl rfl ?_
  refine Go.if_eq at_317 (q := 348) (q' := 320) (by decide) rfl rfl (fun c_ => absurd c_ (by decide)) (fun _ => ?_)
  refine Go.iload at_320 (q := 322) rfl rfl ?_
  refine Go.if_eq at_322 (q := 348) (q' := 325) (by decide) rfl rfl (fun c_ => absurd c_ (by decide)) (fun _ => ?_)
  refine Go.iload at_325 (q := 327) rfl rfl ?_
  refine Go.if_eq at_327 (q := 348) (q' := 330) (by decide) rfl rfl (fun c_ => absurd c_ (by decide)) (fun _ => ?_)
  refine Go.iload at_330 (q := 332) rfl rfl ?_
  refine Go.if_eq at_332 (q := 348) (q' := 335) (by decide) rfl rfl (fun c_ => absurd c_ (by decide)) (fun _ => ?_)
  refine Go.aload at_335 (q := 337) rfl rfl rfl ?_
  refine Go.getF at_337 (q := 340) rfl (host := "") (Or.inl (w144 hw)) Via.refl Fc.2.2.2.2.2.2.2 ?_
  refine Go.iloadN at_340 (q := 341) rfl rfl ?_
  refine Go.icmp_ne at_341 (q := 348) (q' := 344) (by decide) rfl rfl (fun c_ => absurd rfl c_) (fun _ => ?_)
  refine Go.iconst at_344 (q := 345) rfl (x := (1 : Int32)) (by decide) ?_
  refine Go.goto at_345 (q := 349) (by decide) rfl ?_
  refine Go.zreturn at_349 (by decide) (by decide) (by decide) ?_
  rfl
set_option maxRecDepth 65536 in
set_option maxHeartbeats 40000000 in
theorem law74_001 (l : Launch) (Z : State) (a0 : Array Value) (hw : Hw a0 Z) (n0 : Nat) (h : Heap) (O : Old Z n0 h) (co ro fl a0_ x0 y0 rc r sa px sy : Int32) (a_NONE : Addr) (k_NONE : ClassId) (vs_NONE : List Value) (F : Facts Z a_NONE k_NONE vs_NONE) (rcr : ¬ rc < 0 ∧ rc.toNatClampNeg ≤ 4) (hr : ¬ r < 0 ∧ r.toNatClampNeg < rc.toNatClampNeg) (hs : ¬ sa < 0) (hp : ¬ px < 0) (hy : ¬ sy < 0) :
    Go l Z x code maxLocals ret room_1 n0 (fun v _ => v = some (.int 1)) h 0 0 74 #[.val (.int co), .val (.int ro), .val (.int fl), .val (.int a0_), .val (.int x0), .val (.int y0), .val (.int rc), .val (.int r), .val (.int (0 : Int32)), .val (.int (0 : Int32)), .val (.int (1 : Int32)), .val (.int sa), .val (.int px), .val (.int sy), .unset, .unset, .unset, .unset, .unset, .unset, .unset] [] := by
  refine Go.new at_74 (q := 77) rfl (w1 hw) (w2 hw) (w3 hw) (by decide) (by decide) ?_
  intro h1 c e1 X1 E1 D1
  have nc : n0 ≤ c := new_le (O.1 ▸ O.2.1) e1
  refine Go.dup at_77 (q := 78) rfl rfl ?_
  refine Go.iloadN at_78 (q := 79) rfl rfl ?_
  refine Go.iload at_79 (q := 81) rfl rfl ?_
  refine Go.callIN (P := fun h' => CT Z h' n0 a_NONE c rc co 0 0 0 [] (fun (_ : Nat) => ([] : List Int32)) (fun (_ : Nat) => ([] : List Int32))) (argsL := [(.int co), (.int rc)]) (rest := [(.ref c)]) (wd := 1) (Ls1 := #[.val (.ref c), .val (.int co), .val (.int rc)]) at_81 (q := 84) rfl rfl (w4 hw) (w5 hw) (w3 hw) (w6 hw) (by decide) pn1 pd1 rfl rfl (fun m_ => by simp [entryFrame, mkF, argsToLocals, Value.category]) rfl (by decide) rfl (by decide) (by decide) (by decide) (cx_init l Z a0 hw n0 h1 (O.ext X1) c co rc nc E1 (D1 (Or.inr (w28 hw)) pTS) (D1 (Or.inr (w41 hw)) pTL) (D1 (Or.inr (w43 hw)) pTL) (D1 (Or.inr (w45 hw)) pTL) (D1 (Or.inl (w56 hw)) pTA) (D1 (Or.inl (w143 hw)) pTA) (D1 (Or.inr (w49 hw)) pTn) (D1 (Or.inr (w47 hw)) pTn) rcr a_NONE k_NONE vs_NONE F (Q := RN (fun h' => CT Z h' n0 a_NONE c rc co 0 0 0 [] (fun (_ : Nat) => ([] : List Int32)) (fun (_ : Nat) => ([] : List Int32)))) (fun h' q => ⟨rfl, q⟩)) ?_
  intro g0 C0
  refine Go.astore at_84 (q := 86) rfl rfl (Ls' := #[.val (.int co), .val (.int ro), .val (.int fl), .val (.int a0_), .val (.int x0), .val (.int y0), .val (.int rc), .val (.int r), .val (.int (0 : Int32)), .val (.int (0 : Int32)), .val (.int (1 : Int32)), .val (.int sa), .val (.int px), .val (.int sy), .val (.ref c), .unset, .unset, .unset, .unset, .unset, .unset]) rfl ?_
  refine Go.iload at_86 (q := 88) rfl rfl ?_
  refine Go.if_eq at_88 (q := 99) (q' := 91) (by decide) rfl rfl (fun _ => ?_) (fun c_ => absurd (by decide) c_)
  refine Go.iload at_99 (q := 101) rfl rfl ?_
  refine Go.if_eq at_101 (q := 114) (q' := 104) (by decide) rfl rfl (fun _ => ?_) (fun c_ => absurd (by decide) c_)
  refine Go.iload at_114 (q := 116) rfl rfl ?_
  refine Go.if_eq at_116 (q := 129) (q' := 119) (by decide) rfl rfl (fun c_ => absurd c_ (by decide)) (fun _ => ?_)
  refine Go.aload at_119 (q := 121) rfl rfl rfl ?_
  refine Go.iload at_121 (q := 123) rfl rfl ?_
  refine Go.iload at_123 (q := 125) rfl rfl ?_
  refine Go.callVV (P := fun w h' => ∃ b : Int32, w = .int b ∧ CT Z h' n0 a_NONE c rc co 0 0 (0 + 2) [] (fun (_ : Nat) => ([] : List Int32)) (upm (fun (_ : Nat) => ([] : List Int32)) r.toNatClampNeg (ins sy ((fun (_ : Nat) => ([] : List Int32)) r.toNatClampNeg)))) (argsL := [(.int r), (.int sy)]) (rest := []) (wd := 0) (Ls1 := #[.val (.ref c), .val (.int r), .val (.int sy)]) at_125 (q := 128) rfl (w151 hw) (w152 hw) (w154 hw) (w153 hw) (w155 hw) (w3 hw) (by decide) pn25 pd25 rfl rfl (ct_exa C0) (fun m_ => by simp [entryFrame, mkF, argsToLocals, Value.category]) rfl (by decide) rfl (by decide) (by decide) (by decide) (add1 l Z a0 hw n0 g0 c rc co 0 0 0 [] (fun (_ : Nat) => ([] : List Int32)) (fun (_ : Nat) => ([] : List Int32)) a_NONE k_NONE vs_NONE F C0 r sy hr hy (Or.inl rfl) (by decide) (Q := RV (fun w h' => ∃ b : Int32, w = .int b ∧ CT Z h' n0 a_NONE c rc co 0 0 (0 + 2) [] (fun (_ : Nat) => ([] : List Int32)) (upm (fun (_ : Nat) => ([] : List Int32)) r.toNatClampNeg (ins sy ((fun (_ : Nat) => ([] : List Int32)) r.toNatClampNeg))))) (fun h' b _ q => ⟨_, rfl, b, rfl, q⟩)) ?_
  rintro _ g55 ⟨bg55, rfl, Cg55⟩
  refine Go.pop at_128 (q := 129) rfl rfl ?_
  refine Go.aload at_129 (q := 131) rfl rfl rfl ?_
  refine Go.callVN (P := fun h' => CT Z h' n0 a_NONE c rc co 0 0 0 [] (fun (_ : Nat) => ([] : List Int32)) (upm (fun (_ : Nat) => ([] : List Int32)) r.toNatClampNeg (ins sy ((fun (_ : Nat) => ([] : List Int32)) r.toNatClampNeg)))) (argsL := []) (rest := []) (wd := 0) (Ls1 := #[.val (.ref c)]) at_131 (q := 134) rfl (w103 hw) (w104 hw) (w106 hw) (w105 hw) (w107 hw) (w3 hw) (by decide) pn17 pd17 rfl rfl (ct_exa Cg55) (fun m_ => by simp [entryFrame, mkF, argsToLocals, Value.category]) rfl (by decide) rfl (by decide) (by decide) (by decide) (forget l Z a0 hw n0 g55 c rc co 0 0 (0 + 2) (fun (_ : Nat) => ([] : List Int32)) (upm (fun (_ : Nat) => ([] : List Int32)) r.toNatClampNeg (ins sy ((fun (_ : Nat) => ([] : List Int32)) r.toNatClampNeg))) [] a_NONE k_NONE vs_NONE F Cg55 (Q := RN (fun h' => CT Z h' n0 a_NONE c rc co 0 0 0 [] (fun (_ : Nat) => ([] : List Int32)) (upm (fun (_ : Nat) => ([] : List Int32)) r.toNatClampNeg (ins sy ((fun (_ : Nat) => ([] : List Int32)) r.toNatClampNeg))))) (fun h' q => ⟨rfl, q⟩)) ?_
  intro hf Cf
  have Ct := Cf
  obtain ⟨lab, l1, l2, l3, v1, v2, v3, z1, z2, z3, ss, sar, tp, ts, ⟨Of, lN, lA⟩, ⟨Ec, ncf, lc⟩, Fc, rcf, X1f, X2f, X3f, Sx, T0, T1⟩ := Cf
  obtain rfl : z1 = 0 := z_zero X1f.2.1
  obtain rfl : z2 = 0 := z_zero X2f.2.1
  obtain rfl : z3 = 0 := z_zero X3f.2.1
  refine Go.aload at_134 (q := 136) rfl rfl rfl ?_
  refine Go.getF at_136 (q := 139) rfl (host := "") (Or.inl (w113 hw)) Via.refl Fc.2.1 ?_
  refine Go.callVV (P := fun w h' => w = .int (0 : Int32) ∧ hf = h') (argsL := []) (rest := []) (wd := 0) (Ls1 := #[.val (.ref l1)]) at_139 (q := 142) rfl (w114 hw) (w115 hw) (w117 hw) (w116 hw) (w118 hw) (w31 hw) (by decide) pn19 pd19 rfl rfl X1f.1.1.1 (fun m_ => by simp [entryFrame, mkF, argsToLocals, Value.category]) rfl (by decide) rfl (by decide) (by decide) (by decide) (il_size l Z a0 hw n0 hf a_NONE l1 v1 0 X1f.1 (Q := RV (fun w h' => w = .int (0 : Int32) ∧ hf = h')) ⟨_, rfl, rfl, rfl⟩) ?_
  rintro _ _ ⟨rfl, rfl⟩
  refine Go.if_ne at_142 (q := 171) (q' := 145) (by decide) rfl rfl (fun c_ => absurd (by decide) c_) (fun _ => ?_)
  refine Go.aload at_145 (q := 147) rfl rfl rfl ?_
  refine Go.getF at_147 (q := 150) rfl (host := "") (Or.inl (w119 hw)) Via.refl Fc.2.2.1 ?_
  refine Go.callVV (P := fun w h' => w = .int (0 : Int32) ∧ hf = h') (argsL := []) (rest := []) (wd := 0) (Ls1 := #[.val (.ref l2)]) at_150 (q := 153) rfl (w114 hw) (w115 hw) (w117 hw) (w116 hw) (w118 hw) (w31 hw) (by decide) pn19 pd19 rfl rfl X2f.1.1.1 (fun m_ => by simp [entryFrame, mkF, argsToLocals, Value.category]) rfl (by decide) rfl (by decide) (by decide) (by decide) (il_size l Z a0 hw n0 hf a_NONE l2 v2 0 X2f.1 (Q := RV (fun w h' => w = .int (0 : Int32) ∧ hf = h')) ⟨_, rfl, rfl, rfl⟩) ?_
  rintro _ _ ⟨rfl, rfl⟩
  refine Go.if_ne at_153 (q := 171) (q' := 156) (by decide) rfl rfl (fun c_ => absurd (by decide) c_) (fun _ => ?_)
  refine Go.aload at_156 (q := 158) rfl rfl rfl ?_
  refine Go.getF at_158 (q := 161) rfl (host := "") (Or.inl (w120 hw)) Via.refl Fc.2.2.2.1 ?_
  refine Go.callVV (P := fun w h' => w = .int (0 : Int32) ∧ hf = h') (argsL := []) (rest := []) (wd := 0) (Ls1 := #[.val (.ref l3)]) at_161 (q := 164) rfl (w114 hw) (w115 hw) (w117 hw) (w116 hw) (w118 hw) (w31 hw) (by decide) pn19 pd19 rfl rfl X3f.1.1.1 (fun m_ => by simp [entryFrame, mkF, argsToLocals, Value.category]) rfl (by decide) rfl (by decide) (by decide) (by decide) (il_size l Z a0 hw n0 hf a_NONE l3 v3 0 X3f.1 (Q := RV (fun w h' => w = .int (0 : Int32) ∧ hf = h')) ⟨_, rfl, rfl, rfl⟩) ?_
  rintro _ _ ⟨rfl, rfl⟩
  refine Go.if_ne at_164 (q := 171) (q' := 167) (by decide) rfl rfl (fun c_ => absurd (by decide) c_) (fun _ => ?_)
  refine Go.iconst at_167 (q := 168) rfl (x := (1 : Int32)) (by decide) ?_
  refine Go.goto at_168 (q := 172) (by decide) rfl ?_
  refine Go.istore at_172 (q := 174) rfl (Ls' := #[.val (.int co), .val (.int ro), .val (.int fl), .val (.int a0_), .val (.int x0), .val (.int y0), .val (.int rc), .val (.int r), .val (.int (0 : Int32)), .val (.int (0 : Int32)), .val (.int (1 : Int32)), .val (.int sa), .val (.int px), .val (.int sy), .val (.ref c), .val (.int (1 : Int32)), .unset, .unset, .unset, .unset, .unset]) rfl ?_
  refine Go.aload at_174 (q := 176) rfl rfl rfl ?_
  refine Go.getF at_176 (q := 179) rfl (host := "") (Or.inl (w121 hw)) Via.refl Fc.1 ?_
  refine Go.iload at_179 (q := 181) rfl rfl ?_
  refine Go.callVV (P := fun w h' => w = .int (0 : Int32) ∧ hf = h') (argsL := [(.int sa)]) (rest := []) (wd := 0) (Ls1 := #[.val (.ref ss), .val (.int sa)]) at_181 (q := 184) rfl (w122 hw) (w123 hw) (w125 hw) (w124 hw) (w126 hw) (w12 hw) (by decide) pn20 pd20 rfl rfl Sx.1.1.1 (fun m_ => by simp [entryFrame, mkF, argsToLocals, Value.category]) rfl (by decide) rfl (by decide) (by decide) (by decide) (sx_contains l Z a0 hw n0 hf ss sar [] Sx.1 sa Sx.2.1 hs (Q := RV (fun w h' => w = .int (0 : Int32) ∧ hf = h')) ⟨_, rfl, by rw [if_neg (by simp)], rfl⟩) ?_
  rintro _ _ ⟨rfl, rfl⟩
  refine Go.iload at_184 (q := 186) rfl rfl ?_
  refine Go.icmp_ne at_186 (q := 214) (q' := 189) (by decide) rfl rfl (fun c_ => absurd (by decide) c_) (fun _ => ?_)
  refine Go.aload at_189 (q := 191) rfl rfl rfl ?_
  refine Go.getF at_191 (q := 194) rfl (host := "") (Or.inl (w121 hw)) Via.refl Fc.1 ?_
  refine Go.callVV (P := fun w h' => w = .int (0 : Int32) ∧ hf = h') (argsL := []) (rest := []) (wd := 0) (Ls1 := #[.val (.ref ss)]) at_194 (q := 197) rfl (w127 hw) (w128 hw) (w130 hw) (w129 hw) (w131 hw) (w12 hw) (by decide) pn21 pd21 rfl rfl Sx.1.1.1 (fun m_ => by simp [entryFrame, mkF, argsToLocals, Value.category]) rfl (by decide) rfl (by decide) (by decide) (by decide) (is_size l Z a0 hw n0 hf ss sar _ _ Sx.1 (Q := RV (fun w h' => w = .int (0 : Int32) ∧ hf = h')) ⟨_, rfl, rfl, rfl⟩) ?_
  rintro _ _ ⟨rfl, rfl⟩
  refine Go.iload at_197 (q := 199) rfl rfl ?_
  refine Go.if_eq at_199 (q := 206) (q' := 202) (by decide) rfl rfl (fun _ => ?_) (fun c_ => absurd (by decide) c_)
  refine Go.iconst at_206 (q := 207) rfl (x := (0 : Int32)) (by decide) ?_
  refine Go.icmp_ne at_207 (q := 214) (q' := 210) (by decide) rfl rfl (fun c_ => absurd (by decide) c_) (fun _ => ?_)
  refine Go.iconst at_210 (q := 211) rfl (x := (1 : Int32)) (by decide) ?_
  refine Go.goto at_211 (q := 215) (by decide) rfl ?_
  refine Go.istore at_215 (q := 217) rfl (Ls' := #[.val (.int co), .val (.int ro), .val (.int fl), .val (.int a0_), .val (.int x0), .val (.int y0), .val (.int rc), .val (.int r), .val (.int (0 : Int32)), .val (.int (0 : Int32)), .val (.int (1 : Int32)), .val (.int sa), .val (.int px), .val (.int sy), .val (.ref c), .val (.int (1 : Int32)), .val (.int (1 : Int32)), .unset, .unset, .unset, .unset]) rfl ?_
  refine Go.aload at_217 (q := 219) rfl rfl rfl ?_
  refine Go.iload at_219 (q := 221) rfl rfl ?_
  refine Go.callVV (P := fun w h' => Value.null = w ∧ hf = h') (argsL := [(.int r)]) (rest := []) (wd := 0) (Ls1 := #[.val (.ref c), .val (.int r)]) at_221 (q := 224) rfl (w132 hw) (w133 hw) (w135 hw) (w134 hw) (w136 hw) (w3 hw) (by decide) pn22 pd22 rfl rfl Ec (fun m_ => by simp [entryFrame, mkF, argsToLocals, Value.category]) rfl (by decide) rfl (by decide) (by decide) (by decide) (read0 l Z a0 hw n0 hf c rc co 0 0 0 [] (fun (_ : Nat) => ([] : List Int32)) (upm (fun (_ : Nat) => ([] : List Int32)) r.toNatClampNeg (ins sy ((fun (_ : Nat) => ([] : List Int32)) r.toNatClampNeg))) a_NONE Ct r hr (Q := RV (fun w h' => Value.null = w ∧ hf = h')) (fun _ => ⟨_, rfl, rfl, rfl⟩) (fun e => absurd rfl e)) ?_
  rintro _ _ ⟨rfl, rfl⟩
  refine Go.astore at_224 (q := 226) rfl rfl (Ls' := #[.val (.int co), .val (.int ro), .val (.int fl), .val (.int a0_), .val (.int x0), .val (.int y0), .val (.int rc), .val (.int r), .val (.int (0 : Int32)), .val (.int (0 : Int32)), .val (.int (1 : Int32)), .val (.int sa), .val (.int px), .val (.int sy), .val (.ref c), .val (.int (1 : Int32)), .val (.int (1 : Int32)), .val .null, .unset, .unset, .unset]) rfl ?_
  refine Go.iload at_226 (q := 228) rfl rfl ?_
  refine Go.if_eq at_228 (q := 254) (q' := 231) (by decide) rfl rfl (fun _ => ?_) (fun c_ => absurd (by decide) c_)
  refine Go.aload at_254 (q := 256) rfl rfl rfl ?_
  refine Go.ifnonnull at_256 (q := 263) (q' := 259) (by decide) rfl rfl rfl (fun _ e => by cases e) (fun _ => ?_)
  refine Go.iconst at_259 (q := 260) rfl (x := (1 : Int32)) (by decide) ?_
  refine Go.goto at_260 (q := 264) (by decide) rfl ?_
  refine Go.istore at_264 (q := 266) rfl (Ls' := #[.val (.int co), .val (.int ro), .val (.int fl), .val (.int a0_), .val (.int x0), .val (.int y0), .val (.int rc), .val (.int r), .val (.int (0 : Int32)), .val (.int (0 : Int32)), .val (.int (1 : Int32)), .val (.int sa), .val (.int px), .val (.int sy), .val (.ref c), .val (.int (1 : Int32)), .val (.int (1 : Int32)), .val .null, .val (.int (1 : Int32)), .unset, .unset]) rfl ?_
  refine Go.aload at_266 (q := 268) rfl rfl rfl ?_
  refine Go.iload at_268 (q := 270) rfl rfl ?_
  have hx1 : (upm (fun (_ : Nat) => ([] : List Int32)) r.toNatClampNeg (ins sy ((fun (_ : Nat) => ([] : List Int32)) r.toNatClampNeg))) r.toNatClampNeg = [sy] := upm_same _ _ _
  refine Go.callVV (P := fun w h' => ∃ s ar, w = .ref s ∧ SX Z hf n0 s ar [sy] ∧ Good [sy] ∧ hf = h') (argsL := [(.int r)]) (rest := []) (wd := 0) (Ls1 := #[.val (.ref c), .val (.int r)]) at_270 (q := 273) rfl (w137 hw) (w138 hw) (w140 hw) (w139 hw) (w141 hw) (w3 hw) (by decide) pn23 pd23 rfl rfl Ec (fun m_ => by simp [entryFrame, mkF, argsToLocals, Value.category]) rfl (by decide) rfl (by decide) (by decide) (by decide) (read1 l Z a0 hw n0 hf c rc co 0 0 0 [] (fun (_ : Nat) => ([] : List Int32)) (upm (fun (_ : Nat) => ([] : List Int32)) r.toNatClampNeg (ins sy ((fun (_ : Nat) => ([] : List Int32)) r.toNatClampNeg))) a_NONE Ct r hr (Q := RV (fun w h' => ∃ s ar, w = .ref s ∧ SX Z hf n0 s ar [sy] ∧ Good [sy] ∧ hf = h')) (fun e => by rw [hx1] at e; cases e) (fun _ s ar S G => ⟨_, rfl, s, ar, rfl, by rw [← hx1]; exact S, by rw [← hx1]; exact G, rfl⟩)) ?_
  rintro _ _ ⟨s1, ar1, rfl, S1, G1, rfl⟩
  refine Go.astore at_273 (q := 275) rfl rfl (Ls' := #[.val (.int co), .val (.int ro), .val (.int fl), .val (.int a0_), .val (.int x0), .val (.int y0), .val (.int rc), .val (.int r), .val (.int (0 : Int32)), .val (.int (0 : Int32)), .val (.int (1 : Int32)), .val (.int sa), .val (.int px), .val (.int sy), .val (.ref c), .val (.int (1 : Int32)), .val (.int (1 : Int32)), .val .null, .val (.int (1 : Int32)), .val (.ref s1), .unset]) rfl ?_
  refine Go.iload at_275 (q := 277) rfl rfl ?_
  refine Go.if_eq at_277 (q := 303) (q' := 280) (by decide) rfl rfl (fun c_ => absurd c_ (by decide)) (fun _ => ?_)
  refine Go.aload at_280 (q := 282) rfl rfl rfl ?_
  refine Go.ifnull at_282 (q := 299) (q' := 285) (by decide) rfl rfl rfl (fun e => by cases e) (fun _ _ => ?_)
  refine Go.aload at_285 (q := 287) rfl rfl rfl ?_
  refine Go.iload at_287 (q := 289) rfl rfl ?_
  refine Go.callVV (P := fun w h' => w = .int (1 : Int32) ∧ hf = h') (argsL := [(.int sy)]) (rest := []) (wd := 0) (Ls1 := #[.val (.ref s1), .val (.int sy)]) at_289 (q := 292) rfl (w122 hw) (w123 hw) (w125 hw) (w124 hw) (w126 hw) (w12 hw) (by decide) pn20 pd20 rfl rfl S1.1.1 (fun m_ => by simp [entryFrame, mkF, argsToLocals, Value.category]) rfl (by decide) rfl (by decide) (by decide) (by decide) (sx_contains l Z a0 hw n0 hf s1 ar1 [sy] S1 sy G1 hy (Q := RV (fun w h' => w = .int (1 : Int32) ∧ hf = h')) ⟨_, rfl, by rw [if_pos (List.mem_singleton.mpr rfl)], rfl⟩) ?_
  rintro _ _ ⟨rfl, rfl⟩
  refine Go.if_eq at_292 (q := 299) (q' := 295) (by decide) rfl rfl (fun c_ => absurd c_ (by decide)) (fun _ => ?_)
  refine Go.iconst at_295 (q := 296) rfl (x := (1 : Int32)) (by decide) ?_
  refine Go.goto at_296 (q := 313) (by decide) rfl ?_
  refine Go.istore at_313 (q := 315) rfl (Ls' := #[.val (.int co), .val (.int ro), .val (.int fl), .val (.int a0_), .val (.int x0), .val (.int y0), .val (.int rc), .val (.int r), .val (.int (0 : Int32)), .val (.int (0 : Int32)), .val (.int (1 : Int32)), .val (.int sa), .val (.int px), .val (.int sy), .val (.ref c), .val (.int (1 : Int32)), .val (.int (1 : Int32)), .val .null, .val (.int (1 : Int32)), .val (.ref s1), .val (.int (1 : Int32))]) rfl ?_
  refine Go.iload at_315 (q := 317) rfl rfl ?_
  refine Go.if_eq at_317 (q := 348) (q' := 320) (by decide) rfl rfl (fun c_ => absurd c_ (by decide)) (fun _ => ?_)
  refine Go.iload at_320 (q := 322) rfl rfl ?_
  refine Go.if_eq at_322 (q := 348) (q' := 325) (by decide) rfl rfl (fun c_ => absurd c_ (by decide)) (fun _ => ?_)
  refine Go.iload at_325 (q := 327) rfl rfl ?_
  refine Go.if_eq at_327 (q := 348) (q' := 330) (by decide) rfl rfl (fun c_ => absurd c_ (by decide)) (fun _ => ?_)
  refine Go.iload at_330 (q := 332) rfl rfl ?_
  refine Go.if_eq at_332 (q := 348) (q' := 335) (by decide) rfl rfl (fun c_ => absurd c_ (by decide)) (fun _ => ?_)
  refine Go.aload at_335 (q := 337) rfl rfl rfl ?_
  refine Go.getF at_337 (q := 340) rfl (host := "") (Or.inl (w144 hw)) Via.refl Fc.2.2.2.2.2.2.2 ?_
  refine Go.iloadN at_340 (q := 341) rfl rfl ?_
  refine Go.icmp_ne at_341 (q := 348) (q' := 344) (by decide) rfl rfl (fun c_ => absurd rfl c_) (fun _ => ?_)
  refine Go.iconst at_344 (q := 345) rfl (x := (1 : Int32)) (by decide) ?_
  refine Go.goto at_345 (q := 349) (by decide) rfl ?_
  refine Go.zreturn at_349 (by decide) (by decide) (by decide) ?_
  rfl
set_option maxRecDepth 65536 in
set_option maxHeartbeats 40000000 in
theorem law74_010 (l : Launch) (Z : State) (a0 : Array Value) (hw : Hw a0 Z) (n0 : Nat) (h : Heap) (O : Old Z n0 h) (co ro fl a0_ x0 y0 rc r sa px sy : Int32) (a_NONE : Addr) (k_NONE : ClassId) (vs_NONE : List Value) (F : Facts Z a_NONE k_NONE vs_NONE) (rcr : ¬ rc < 0 ∧ rc.toNatClampNeg ≤ 4) (hr : ¬ r < 0 ∧ r.toNatClampNeg < rc.toNatClampNeg) (hs : ¬ sa < 0) (hp : ¬ px < 0) (hy : ¬ sy < 0) :
    Go l Z x code maxLocals ret room_1 n0 (fun v _ => v = some (.int 1)) h 0 0 74 #[.val (.int co), .val (.int ro), .val (.int fl), .val (.int a0_), .val (.int x0), .val (.int y0), .val (.int rc), .val (.int r), .val (.int (0 : Int32)), .val (.int (1 : Int32)), .val (.int (0 : Int32)), .val (.int sa), .val (.int px), .val (.int sy), .unset, .unset, .unset, .unset, .unset, .unset, .unset] [] := by
  refine Go.new at_74 (q := 77) rfl (w1 hw) (w2 hw) (w3 hw) (by decide) (by decide) ?_
  intro h1 c e1 X1 E1 D1
  have nc : n0 ≤ c := new_le (O.1 ▸ O.2.1) e1
  refine Go.dup at_77 (q := 78) rfl rfl ?_
  refine Go.iloadN at_78 (q := 79) rfl rfl ?_
  refine Go.iload at_79 (q := 81) rfl rfl ?_
  refine Go.callIN (P := fun h' => CT Z h' n0 a_NONE c rc co 0 0 0 [] (fun (_ : Nat) => ([] : List Int32)) (fun (_ : Nat) => ([] : List Int32))) (argsL := [(.int co), (.int rc)]) (rest := [(.ref c)]) (wd := 1) (Ls1 := #[.val (.ref c), .val (.int co), .val (.int rc)]) at_81 (q := 84) rfl rfl (w4 hw) (w5 hw) (w3 hw) (w6 hw) (by decide) pn1 pd1 rfl rfl (fun m_ => by simp [entryFrame, mkF, argsToLocals, Value.category]) rfl (by decide) rfl (by decide) (by decide) (by decide) (cx_init l Z a0 hw n0 h1 (O.ext X1) c co rc nc E1 (D1 (Or.inr (w28 hw)) pTS) (D1 (Or.inr (w41 hw)) pTL) (D1 (Or.inr (w43 hw)) pTL) (D1 (Or.inr (w45 hw)) pTL) (D1 (Or.inl (w56 hw)) pTA) (D1 (Or.inl (w143 hw)) pTA) (D1 (Or.inr (w49 hw)) pTn) (D1 (Or.inr (w47 hw)) pTn) rcr a_NONE k_NONE vs_NONE F (Q := RN (fun h' => CT Z h' n0 a_NONE c rc co 0 0 0 [] (fun (_ : Nat) => ([] : List Int32)) (fun (_ : Nat) => ([] : List Int32)))) (fun h' q => ⟨rfl, q⟩)) ?_
  intro g0 C0
  refine Go.astore at_84 (q := 86) rfl rfl (Ls' := #[.val (.int co), .val (.int ro), .val (.int fl), .val (.int a0_), .val (.int x0), .val (.int y0), .val (.int rc), .val (.int r), .val (.int (0 : Int32)), .val (.int (1 : Int32)), .val (.int (0 : Int32)), .val (.int sa), .val (.int px), .val (.int sy), .val (.ref c), .unset, .unset, .unset, .unset, .unset, .unset]) rfl ?_
  refine Go.iload at_86 (q := 88) rfl rfl ?_
  refine Go.if_eq at_88 (q := 99) (q' := 91) (by decide) rfl rfl (fun _ => ?_) (fun c_ => absurd (by decide) c_)
  refine Go.iload at_99 (q := 101) rfl rfl ?_
  refine Go.if_eq at_101 (q := 114) (q' := 104) (by decide) rfl rfl (fun c_ => absurd c_ (by decide)) (fun _ => ?_)
  refine Go.aload at_104 (q := 106) rfl rfl rfl ?_
  refine Go.iload at_106 (q := 108) rfl rfl ?_
  refine Go.iload at_108 (q := 110) rfl rfl ?_
  refine Go.callVV (P := fun w h' => ∃ b : Int32, w = .int b ∧ CT Z h' n0 a_NONE c rc co 0 (0 + 2) 0 [] (upm (fun (_ : Nat) => ([] : List Int32)) r.toNatClampNeg (ins px ((fun (_ : Nat) => ([] : List Int32)) r.toNatClampNeg))) (fun (_ : Nat) => ([] : List Int32))) (argsL := [(.int r), (.int px)]) (rest := []) (wd := 0) (Ls1 := #[.val (.ref c), .val (.int r), .val (.int px)]) at_110 (q := 113) rfl (w50 hw) (w51 hw) (w53 hw) (w52 hw) (w54 hw) (w3 hw) (by decide) pn7 pd7 rfl rfl (ct_exa C0) (fun m_ => by simp [entryFrame, mkF, argsToLocals, Value.category]) rfl (by decide) rfl (by decide) (by decide) (by decide) (add0 l Z a0 hw n0 g0 c rc co 0 0 0 [] (fun (_ : Nat) => ([] : List Int32)) (fun (_ : Nat) => ([] : List Int32)) a_NONE k_NONE vs_NONE F C0 r px hr hp (Or.inl rfl) (by decide) (Q := RV (fun w h' => ∃ b : Int32, w = .int b ∧ CT Z h' n0 a_NONE c rc co 0 (0 + 2) 0 [] (upm (fun (_ : Nat) => ([] : List Int32)) r.toNatClampNeg (ins px ((fun (_ : Nat) => ([] : List Int32)) r.toNatClampNeg))) (fun (_ : Nat) => ([] : List Int32)))) (fun h' b _ q => ⟨_, rfl, b, rfl, q⟩)) ?_
  rintro _ g74 ⟨bg74, rfl, Cg74⟩
  refine Go.pop at_113 (q := 114) rfl rfl ?_
  refine Go.iload at_114 (q := 116) rfl rfl ?_
  refine Go.if_eq at_116 (q := 129) (q' := 119) (by decide) rfl rfl (fun _ => ?_) (fun c_ => absurd (by decide) c_)
  refine Go.aload at_129 (q := 131) rfl rfl rfl ?_
  refine Go.callVN (P := fun h' => CT Z h' n0 a_NONE c rc co 0 0 0 [] (upm (fun (_ : Nat) => ([] : List Int32)) r.toNatClampNeg (ins px ((fun (_ : Nat) => ([] : List Int32)) r.toNatClampNeg))) (fun (_ : Nat) => ([] : List Int32))) (argsL := []) (rest := []) (wd := 0) (Ls1 := #[.val (.ref c)]) at_131 (q := 134) rfl (w103 hw) (w104 hw) (w106 hw) (w105 hw) (w107 hw) (w3 hw) (by decide) pn17 pd17 rfl rfl (ct_exa Cg74) (fun m_ => by simp [entryFrame, mkF, argsToLocals, Value.category]) rfl (by decide) rfl (by decide) (by decide) (by decide) (forget l Z a0 hw n0 g74 c rc co 0 (0 + 2) 0 (upm (fun (_ : Nat) => ([] : List Int32)) r.toNatClampNeg (ins px ((fun (_ : Nat) => ([] : List Int32)) r.toNatClampNeg))) (fun (_ : Nat) => ([] : List Int32)) [] a_NONE k_NONE vs_NONE F Cg74 (Q := RN (fun h' => CT Z h' n0 a_NONE c rc co 0 0 0 [] (upm (fun (_ : Nat) => ([] : List Int32)) r.toNatClampNeg (ins px ((fun (_ : Nat) => ([] : List Int32)) r.toNatClampNeg))) (fun (_ : Nat) => ([] : List Int32)))) (fun h' q => ⟨rfl, q⟩)) ?_
  intro hf Cf
  have Ct := Cf
  obtain ⟨lab, l1, l2, l3, v1, v2, v3, z1, z2, z3, ss, sar, tp, ts, ⟨Of, lN, lA⟩, ⟨Ec, ncf, lc⟩, Fc, rcf, X1f, X2f, X3f, Sx, T0, T1⟩ := Cf
  obtain rfl : z1 = 0 := z_zero X1f.2.1
  obtain rfl : z2 = 0 := z_zero X2f.2.1
  obtain rfl : z3 = 0 := z_zero X3f.2.1
  refine Go.aload at_134 (q := 136) rfl rfl rfl ?_
  refine Go.getF at_136 (q := 139) rfl (host := "") (Or.inl (w113 hw)) Via.refl Fc.2.1 ?_
  refine Go.callVV (P := fun w h' => w = .int (0 : Int32) ∧ hf = h') (argsL := []) (rest := []) (wd := 0) (Ls1 := #[.val (.ref l1)]) at_139 (q := 142) rfl (w114 hw) (w115 hw) (w117 hw) (w116 hw) (w118 hw) (w31 hw) (by decide) pn19 pd19 rfl rfl X1f.1.1.1 (fun m_ => by simp [entryFrame, mkF, argsToLocals, Value.category]) rfl (by decide) rfl (by decide) (by decide) (by decide) (il_size l Z a0 hw n0 hf a_NONE l1 v1 0 X1f.1 (Q := RV (fun w h' => w = .int (0 : Int32) ∧ hf = h')) ⟨_, rfl, rfl, rfl⟩) ?_
  rintro _ _ ⟨rfl, rfl⟩
  refine Go.if_ne at_142 (q := 171) (q' := 145) (by decide) rfl rfl (fun c_ => absurd (by decide) c_) (fun _ => ?_)
  refine Go.aload at_145 (q := 147) rfl rfl rfl ?_
  refine Go.getF at_147 (q := 150) rfl (host := "") (Or.inl (w119 hw)) Via.refl Fc.2.2.1 ?_
  refine Go.callVV (P := fun w h' => w = .int (0 : Int32) ∧ hf = h') (argsL := []) (rest := []) (wd := 0) (Ls1 := #[.val (.ref l2)]) at_150 (q := 153) rfl (w114 hw) (w115 hw) (w117 hw) (w116 hw) (w118 hw) (w31 hw) (by decide) pn19 pd19 rfl rfl X2f.1.1.1 (fun m_ => by simp [entryFrame, mkF, argsToLocals, Value.category]) rfl (by decide) rfl (by decide) (by decide) (by decide) (il_size l Z a0 hw n0 hf a_NONE l2 v2 0 X2f.1 (Q := RV (fun w h' => w = .int (0 : Int32) ∧ hf = h')) ⟨_, rfl, rfl, rfl⟩) ?_
  rintro _ _ ⟨rfl, rfl⟩
  refine Go.if_ne at_153 (q := 171) (q' := 156) (by decide) rfl rfl (fun c_ => absurd (by decide) c_) (fun _ => ?_)
  refine Go.aload at_156 (q := 158) rfl rfl rfl ?_
  refine Go.getF at_158 (q := 161) rfl (host := "") (Or.inl (w120 hw)) Via.refl Fc.2.2.2.1 ?_
  refine Go.callVV (P := fun w h' => w = .int (0 : Int32) ∧ hf = h') (argsL := []) (rest := []) (wd := 0) (Ls1 := #[.val (.ref l3)]) at_161 (q := 164) rfl (w114 hw) (w115 hw) (w117 hw) (w116 hw) (w118 hw) (w31 hw) (by decide) pn19 pd19 rfl rfl X3f.1.1.1 (fun m_ => by simp [entryFrame, mkF, argsToLocals, Value.category]) rfl (by decide) rfl (by decide) (by decide) (by decide) (il_size l Z a0 hw n0 hf a_NONE l3 v3 0 X3f.1 (Q := RV (fun w h' => w = .int (0 : Int32) ∧ hf = h')) ⟨_, rfl, rfl, rfl⟩) ?_
  rintro _ _ ⟨rfl, rfl⟩
  refine Go.if_ne at_164 (q := 171) (q' := 167) (by decide) rfl rfl (fun c_ => absurd (by decide) c_) (fun _ => ?_)
  refine Go.iconst at_167 (q := 168) rfl (x := (1 : Int32)) (by decide) ?_
  refine Go.goto at_168 (q := 172) (by decide) rfl ?_
  refine Go.istore at_172 (q := 174) rfl (Ls' := #[.val (.int co), .val (.int ro), .val (.int fl), .val (.int a0_), .val (.int x0), .val (.int y0), .val (.int rc), .val (.int r), .val (.int (0 : Int32)), .val (.int (1 : Int32)), .val (.int (0 : Int32)), .val (.int sa), .val (.int px), .val (.int sy), .val (.ref c), .val (.int (1 : Int32)), .unset, .unset, .unset, .unset, .unset]) rfl ?_
  refine Go.aload at_174 (q := 176) rfl rfl rfl ?_
  refine Go.getF at_176 (q := 179) rfl (host := "") (Or.inl (w121 hw)) Via.refl Fc.1 ?_
  refine Go.iload at_179 (q := 181) rfl rfl ?_
  refine Go.callVV (P := fun w h' => w = .int (0 : Int32) ∧ hf = h') (argsL := [(.int sa)]) (rest := []) (wd := 0) (Ls1 := #[.val (.ref ss), .val (.int sa)]) at_181 (q := 184) rfl (w122 hw) (w123 hw) (w125 hw) (w124 hw) (w126 hw) (w12 hw) (by decide) pn20 pd20 rfl rfl Sx.1.1.1 (fun m_ => by simp [entryFrame, mkF, argsToLocals, Value.category]) rfl (by decide) rfl (by decide) (by decide) (by decide) (sx_contains l Z a0 hw n0 hf ss sar [] Sx.1 sa Sx.2.1 hs (Q := RV (fun w h' => w = .int (0 : Int32) ∧ hf = h')) ⟨_, rfl, by rw [if_neg (by simp)], rfl⟩) ?_
  rintro _ _ ⟨rfl, rfl⟩
  refine Go.iload at_184 (q := 186) rfl rfl ?_
  refine Go.icmp_ne at_186 (q := 214) (q' := 189) (by decide) rfl rfl (fun c_ => absurd (by decide) c_) (fun _ => ?_)
  refine Go.aload at_189 (q := 191) rfl rfl rfl ?_
  refine Go.getF at_191 (q := 194) rfl (host := "") (Or.inl (w121 hw)) Via.refl Fc.1 ?_
  refine Go.callVV (P := fun w h' => w = .int (0 : Int32) ∧ hf = h') (argsL := []) (rest := []) (wd := 0) (Ls1 := #[.val (.ref ss)]) at_194 (q := 197) rfl (w127 hw) (w128 hw) (w130 hw) (w129 hw) (w131 hw) (w12 hw) (by decide) pn21 pd21 rfl rfl Sx.1.1.1 (fun m_ => by simp [entryFrame, mkF, argsToLocals, Value.category]) rfl (by decide) rfl (by decide) (by decide) (by decide) (is_size l Z a0 hw n0 hf ss sar _ _ Sx.1 (Q := RV (fun w h' => w = .int (0 : Int32) ∧ hf = h')) ⟨_, rfl, rfl, rfl⟩) ?_
  rintro _ _ ⟨rfl, rfl⟩
  refine Go.iload at_197 (q := 199) rfl rfl ?_
  refine Go.if_eq at_199 (q := 206) (q' := 202) (by decide) rfl rfl (fun _ => ?_) (fun c_ => absurd (by decide) c_)
  refine Go.iconst at_206 (q := 207) rfl (x := (0 : Int32)) (by decide) ?_
  refine Go.icmp_ne at_207 (q := 214) (q' := 210) (by decide) rfl rfl (fun c_ => absurd (by decide) c_) (fun _ => ?_)
  refine Go.iconst at_210 (q := 211) rfl (x := (1 : Int32)) (by decide) ?_
  refine Go.goto at_211 (q := 215) (by decide) rfl ?_
  refine Go.istore at_215 (q := 217) rfl (Ls' := #[.val (.int co), .val (.int ro), .val (.int fl), .val (.int a0_), .val (.int x0), .val (.int y0), .val (.int rc), .val (.int r), .val (.int (0 : Int32)), .val (.int (1 : Int32)), .val (.int (0 : Int32)), .val (.int sa), .val (.int px), .val (.int sy), .val (.ref c), .val (.int (1 : Int32)), .val (.int (1 : Int32)), .unset, .unset, .unset, .unset]) rfl ?_
  refine Go.aload at_217 (q := 219) rfl rfl rfl ?_
  refine Go.iload at_219 (q := 221) rfl rfl ?_
  have hx0 : (upm (fun (_ : Nat) => ([] : List Int32)) r.toNatClampNeg (ins px ((fun (_ : Nat) => ([] : List Int32)) r.toNatClampNeg))) r.toNatClampNeg = [px] := upm_same _ _ _
  refine Go.callVV (P := fun w h' => ∃ s ar, w = .ref s ∧ SX Z hf n0 s ar [px] ∧ Good [px] ∧ hf = h') (argsL := [(.int r)]) (rest := []) (wd := 0) (Ls1 := #[.val (.ref c), .val (.int r)]) at_221 (q := 224) rfl (w132 hw) (w133 hw) (w135 hw) (w134 hw) (w136 hw) (w3 hw) (by decide) pn22 pd22 rfl rfl Ec (fun m_ => by simp [entryFrame, mkF, argsToLocals, Value.category]) rfl (by decide) rfl (by decide) (by decide) (by decide) (read0 l Z a0 hw n0 hf c rc co 0 0 0 [] (upm (fun (_ : Nat) => ([] : List Int32)) r.toNatClampNeg (ins px ((fun (_ : Nat) => ([] : List Int32)) r.toNatClampNeg))) (fun (_ : Nat) => ([] : List Int32)) a_NONE Ct r hr (Q := RV (fun w h' => ∃ s ar, w = .ref s ∧ SX Z hf n0 s ar [px] ∧ Good [px] ∧ hf = h')) (fun e => by rw [hx0] at e; cases e) (fun _ s ar S G => ⟨_, rfl, s, ar, rfl, by rw [← hx0]; exact S, by rw [← hx0]; exact G, rfl⟩)) ?_
  rintro _ _ ⟨s0, ar0, rfl, S0, G0, rfl⟩
  refine Go.astore at_224 (q := 226) rfl rfl (Ls' := #[.val (.int co), .val (.int ro), .val (.int fl), .val (.int a0_), .val (.int x0), .val (.int y0), .val (.int rc), .val (.int r), .val (.int (0 : Int32)), .val (.int (1 : Int32)), .val (.int (0 : Int32)), .val (.int sa), .val (.int px), .val (.int sy), .val (.ref c), .val (.int (1 : Int32)), .val (.int (1 : Int32)), .val (.ref s0), .unset, .unset, .unset]) rfl ?_
  refine Go.iload at_226 (q := 228) rfl rfl ?_
  refine Go.if_eq at_228 (q := 254) (q' := 231) (by decide) rfl rfl (fun c_ => absurd c_ (by decide)) (fun _ => ?_)
  refine Go.aload at_231 (q := 233) rfl rfl rfl ?_
  refine Go.ifnull at_233 (q := 250) (q' := 236) (by decide) rfl rfl rfl (fun e => by cases e) (fun _ _ => ?_)
  refine Go.aload at_236 (q := 238) rfl rfl rfl ?_
  refine Go.iload at_238 (q := 240) rfl rfl ?_
  refine Go.callVV (P := fun w h' => w = .int (1 : Int32) ∧ hf = h') (argsL := [(.int px)]) (rest := []) (wd := 0) (Ls1 := #[.val (.ref s0), .val (.int px)]) at_240 (q := 243) rfl (w122 hw) (w123 hw) (w125 hw) (w124 hw) (w126 hw) (w12 hw) (by decide) pn20 pd20 rfl rfl S0.1.1 (fun m_ => by simp [entryFrame, mkF, argsToLocals, Value.category]) rfl (by decide) rfl (by decide) (by decide) (by decide) (sx_contains l Z a0 hw n0 hf s0 ar0 [px] S0 px G0 hp (Q := RV (fun w h' => w = .int (1 : Int32) ∧ hf = h')) ⟨_, rfl, by rw [if_pos (List.mem_singleton.mpr rfl)], rfl⟩) ?_
  rintro _ _ ⟨rfl, rfl⟩
  refine Go.if_eq at_243 (q := 250) (q' := 246) (by decide) rfl rfl (fun c_ => absurd c_ (by decide)) (fun _ => ?_)
  refine Go.iconst at_246 (q := 247) rfl (x := (1 : Int32)) (by decide) ?_
  refine Go.goto at_247 (q := 264) (by decide) rfl ?_
  refine Go.istore at_264 (q := 266) rfl (Ls' := #[.val (.int co), .val (.int ro), .val (.int fl), .val (.int a0_), .val (.int x0), .val (.int y0), .val (.int rc), .val (.int r), .val (.int (0 : Int32)), .val (.int (1 : Int32)), .val (.int (0 : Int32)), .val (.int sa), .val (.int px), .val (.int sy), .val (.ref c), .val (.int (1 : Int32)), .val (.int (1 : Int32)), .val (.ref s0), .val (.int (1 : Int32)), .unset, .unset]) rfl ?_
  refine Go.aload at_266 (q := 268) rfl rfl rfl ?_
  refine Go.iload at_268 (q := 270) rfl rfl ?_
  refine Go.callVV (P := fun w h' => Value.null = w ∧ hf = h') (argsL := [(.int r)]) (rest := []) (wd := 0) (Ls1 := #[.val (.ref c), .val (.int r)]) at_270 (q := 273) rfl (w137 hw) (w138 hw) (w140 hw) (w139 hw) (w141 hw) (w3 hw) (by decide) pn23 pd23 rfl rfl Ec (fun m_ => by simp [entryFrame, mkF, argsToLocals, Value.category]) rfl (by decide) rfl (by decide) (by decide) (by decide) (read1 l Z a0 hw n0 hf c rc co 0 0 0 [] (upm (fun (_ : Nat) => ([] : List Int32)) r.toNatClampNeg (ins px ((fun (_ : Nat) => ([] : List Int32)) r.toNatClampNeg))) (fun (_ : Nat) => ([] : List Int32)) a_NONE Ct r hr (Q := RV (fun w h' => Value.null = w ∧ hf = h')) (fun _ => ⟨_, rfl, rfl, rfl⟩) (fun e => absurd rfl e)) ?_
  rintro _ _ ⟨rfl, rfl⟩
  refine Go.astore at_273 (q := 275) rfl rfl (Ls' := #[.val (.int co), .val (.int ro), .val (.int fl), .val (.int a0_), .val (.int x0), .val (.int y0), .val (.int rc), .val (.int r), .val (.int (0 : Int32)), .val (.int (1 : Int32)), .val (.int (0 : Int32)), .val (.int sa), .val (.int px), .val (.int sy), .val (.ref c), .val (.int (1 : Int32)), .val (.int (1 : Int32)), .val (.ref s0), .val (.int (1 : Int32)), .val .null, .unset]) rfl ?_
  refine Go.iload at_275 (q := 277) rfl rfl ?_
  refine Go.if_eq at_277 (q := 303) (q' := 280) (by decide) rfl rfl (fun _ => ?_) (fun c_ => absurd (by decide) c_)
  refine Go.aload at_303 (q := 305) rfl rfl rfl ?_
  refine Go.ifnonnull at_305 (q := 312) (q' := 308) (by decide) rfl rfl rfl (fun _ e => by cases e) (fun _ => ?_)
  refine Go.iconst at_308 (q := 309) rfl (x := (1 : Int32)) (by decide) ?_
  refine Go.goto at_309 (q := 313) (by decide) rfl ?_
  refine Go.istore at_313 (q := 315) rfl (Ls' := #[.val (.int co), .val (.int ro), .val (.int fl), .val (.int a0_), .val (.int x0), .val (.int y0), .val (.int rc), .val (.int r), .val (.int (0 : Int32)), .val (.int (1 : Int32)), .val (.int (0 : Int32)), .val (.int sa), .val (.int px), .val (.int sy), .val (.ref c), .val (.int (1 : Int32)), .val (.int (1 : Int32)), .val (.ref s0), .val (.int (1 : Int32)), .val .null, .val (.int (1 : Int32))]) rfl ?_
  refine Go.iload at_315 (q := 317) rfl rfl ?_
  refine Go.if_eq at_317 (q := 348) (q' := 320) (by decide) rfl rfl (fun c_ => absurd c_ (by decide)) (fun _ => ?_)
  refine Go.iload at_320 (q := 322) rfl rfl ?_
  refine Go.if_eq at_322 (q := 348) (q' := 325) (by decide) rfl rfl (fun c_ => absurd c_ (by decide)) (fun _ => ?_)
  refine Go.iload at_325 (q := 327) rfl rfl ?_
  refine Go.if_eq at_327 (q := 348) (q' := 330) (by decide) rfl rfl (fun c_ => absurd c_ (by decide)) (fun _ => ?_)
  refine Go.iload at_330 (q := 332) rfl rfl ?_
  refine Go.if_eq at_332 (q := 348) (q' := 335) (by decide) rfl rfl (fun c_ => absurd c_ (by decide)) (fun _ => ?_)
  refine Go.aload at_335 (q := 337) rfl rfl rfl ?_
  refine Go.getF at_337 (q := 340) rfl (host := "") (Or.inl (w144 hw)) Via.refl Fc.2.2.2.2.2.2.2 ?_
  refine Go.iloadN at_340 (q := 341) rfl rfl ?_
  refine Go.icmp_ne at_341 (q := 348) (q' := 344) (by decide) rfl rfl (fun c_ => absurd rfl c_) (fun _ => ?_)
  refine Go.iconst at_344 (q := 345) rfl (x := (1 : Int32)) (by decide) ?_
  refine Go.goto at_345 (q := 349) (by decide) rfl ?_
  refine Go.zreturn at_349 (by decide) (by decide) (by decide) ?_
  rfl
set_option maxRecDepth 65536 in
set_option maxHeartbeats 40000000 in
theorem law74_011 (l : Launch) (Z : State) (a0 : Array Value) (hw : Hw a0 Z) (n0 : Nat) (h : Heap) (O : Old Z n0 h) (co ro fl a0_ x0 y0 rc r sa px sy : Int32) (a_NONE : Addr) (k_NONE : ClassId) (vs_NONE : List Value) (F : Facts Z a_NONE k_NONE vs_NONE) (rcr : ¬ rc < 0 ∧ rc.toNatClampNeg ≤ 4) (hr : ¬ r < 0 ∧ r.toNatClampNeg < rc.toNatClampNeg) (hs : ¬ sa < 0) (hp : ¬ px < 0) (hy : ¬ sy < 0) :
    Go l Z x code maxLocals ret room_1 n0 (fun v _ => v = some (.int 1)) h 0 0 74 #[.val (.int co), .val (.int ro), .val (.int fl), .val (.int a0_), .val (.int x0), .val (.int y0), .val (.int rc), .val (.int r), .val (.int (0 : Int32)), .val (.int (1 : Int32)), .val (.int (1 : Int32)), .val (.int sa), .val (.int px), .val (.int sy), .unset, .unset, .unset, .unset, .unset, .unset, .unset] [] := by
  refine Go.new at_74 (q := 77) rfl (w1 hw) (w2 hw) (w3 hw) (by decide) (by decide) ?_
  intro h1 c e1 X1 E1 D1
  have nc : n0 ≤ c := new_le (O.1 ▸ O.2.1) e1
  refine Go.dup at_77 (q := 78) rfl rfl ?_
  refine Go.iloadN at_78 (q := 79) rfl rfl ?_
  refine Go.iload at_79 (q := 81) rfl rfl ?_
  refine Go.callIN (P := fun h' => CT Z h' n0 a_NONE c rc co 0 0 0 [] (fun (_ : Nat) => ([] : List Int32)) (fun (_ : Nat) => ([] : List Int32))) (argsL := [(.int co), (.int rc)]) (rest := [(.ref c)]) (wd := 1) (Ls1 := #[.val (.ref c), .val (.int co), .val (.int rc)]) at_81 (q := 84) rfl rfl (w4 hw) (w5 hw) (w3 hw) (w6 hw) (by decide) pn1 pd1 rfl rfl (fun m_ => by simp [entryFrame, mkF, argsToLocals, Value.category]) rfl (by decide) rfl (by decide) (by decide) (by decide) (cx_init l Z a0 hw n0 h1 (O.ext X1) c co rc nc E1 (D1 (Or.inr (w28 hw)) pTS) (D1 (Or.inr (w41 hw)) pTL) (D1 (Or.inr (w43 hw)) pTL) (D1 (Or.inr (w45 hw)) pTL) (D1 (Or.inl (w56 hw)) pTA) (D1 (Or.inl (w143 hw)) pTA) (D1 (Or.inr (w49 hw)) pTn) (D1 (Or.inr (w47 hw)) pTn) rcr a_NONE k_NONE vs_NONE F (Q := RN (fun h' => CT Z h' n0 a_NONE c rc co 0 0 0 [] (fun (_ : Nat) => ([] : List Int32)) (fun (_ : Nat) => ([] : List Int32)))) (fun h' q => ⟨rfl, q⟩)) ?_
  intro g0 C0
  refine Go.astore at_84 (q := 86) rfl rfl (Ls' := #[.val (.int co), .val (.int ro), .val (.int fl), .val (.int a0_), .val (.int x0), .val (.int y0), .val (.int rc), .val (.int r), .val (.int (0 : Int32)), .val (.int (1 : Int32)), .val (.int (1 : Int32)), .val (.int sa), .val (.int px), .val (.int sy), .val (.ref c), .unset, .unset, .unset, .unset, .unset, .unset]) rfl ?_
  refine Go.iload at_86 (q := 88) rfl rfl ?_
  refine Go.if_eq at_88 (q := 99) (q' := 91) (by decide) rfl rfl (fun _ => ?_) (fun c_ => absurd (by decide) c_)
  refine Go.iload at_99 (q := 101) rfl rfl ?_
  refine Go.if_eq at_101 (q := 114) (q' := 104) (by decide) rfl rfl (fun c_ => absurd c_ (by decide)) (fun _ => ?_)
  refine Go.aload at_104 (q := 106) rfl rfl rfl ?_
  refine Go.iload at_106 (q := 108) rfl rfl ?_
  refine Go.iload at_108 (q := 110) rfl rfl ?_
  refine Go.callVV (P := fun w h' => ∃ b : Int32, w = .int b ∧ CT Z h' n0 a_NONE c rc co 0 (0 + 2) 0 [] (upm (fun (_ : Nat) => ([] : List Int32)) r.toNatClampNeg (ins px ((fun (_ : Nat) => ([] : List Int32)) r.toNatClampNeg))) (fun (_ : Nat) => ([] : List Int32))) (argsL := [(.int r), (.int px)]) (rest := []) (wd := 0) (Ls1 := #[.val (.ref c), .val (.int r), .val (.int px)]) at_110 (q := 113) rfl (w50 hw) (w51 hw) (w53 hw) (w52 hw) (w54 hw) (w3 hw) (by decide) pn7 pd7 rfl rfl (ct_exa C0) (fun m_ => by simp [entryFrame, mkF, argsToLocals, Value.category]) rfl (by decide) rfl (by decide) (by decide) (by decide) (add0 l Z a0 hw n0 g0 c rc co 0 0 0 [] (fun (_ : Nat) => ([] : List Int32)) (fun (_ : Nat) => ([] : List Int32)) a_NONE k_NONE vs_NONE F C0 r px hr hp (Or.inl rfl) (by decide) (Q := RV (fun w h' => ∃ b : Int32, w = .int b ∧ CT Z h' n0 a_NONE c rc co 0 (0 + 2) 0 [] (upm (fun (_ : Nat) => ([] : List Int32)) r.toNatClampNeg (ins px ((fun (_ : Nat) => ([] : List Int32)) r.toNatClampNeg))) (fun (_ : Nat) => ([] : List Int32)))) (fun h' b _ q => ⟨_, rfl, b, rfl, q⟩)) ?_
  rintro _ g94 ⟨bg94, rfl, Cg94⟩
  refine Go.pop at_113 (q := 114) rfl rfl ?_
  refine Go.iload at_114 (q := 116) rfl rfl ?_
  refine Go.if_eq at_116 (q := 129) (q' := 119) (by decide) rfl rfl (fun c_ => absurd c_ (by decide)) (fun _ => ?_)
  refine Go.aload at_119 (q := 121) rfl rfl rfl ?_
  refine Go.iload at_121 (q := 123) rfl rfl ?_
  refine Go.iload at_123 (q := 125) rfl rfl ?_
  refine Go.callVV (P := fun w h' => ∃ b : Int32, w = .int b ∧ CT Z h' n0 a_NONE c rc co 0 (0 + 2) (0 + 2) [] (upm (fun (_ : Nat) => ([] : List Int32)) r.toNatClampNeg (ins px ((fun (_ : Nat) => ([] : List Int32)) r.toNatClampNeg))) (upm (fun (_ : Nat) => ([] : List Int32)) r.toNatClampNeg (ins sy ((fun (_ : Nat) => ([] : List Int32)) r.toNatClampNeg)))) (argsL := [(.int r), (.int sy)]) (rest := []) (wd := 0) (Ls1 := #[.val (.ref c), .val (.int r), .val (.int sy)]) at_125 (q := 128) rfl (w151 hw) (w152 hw) (w154 hw) (w153 hw) (w155 hw) (w3 hw) (by decide) pn25 pd25 rfl rfl (ct_exa Cg94) (fun m_ => by simp [entryFrame, mkF, argsToLocals, Value.category]) rfl (by decide) rfl (by decide) (by decide) (by decide) (add1 l Z a0 hw n0 g94 c rc co 0 (0 + 2) 0 [] (upm (fun (_ : Nat) => ([] : List Int32)) r.toNatClampNeg (ins px ((fun (_ : Nat) => ([] : List Int32)) r.toNatClampNeg))) (fun (_ : Nat) => ([] : List Int32)) a_NONE k_NONE vs_NONE F Cg94 r sy hr hy (Or.inl rfl) (by decide) (Q := RV (fun w h' => ∃ b : Int32, w = .int b ∧ CT Z h' n0 a_NONE c rc co 0 (0 + 2) (0 + 2) [] (upm (fun (_ : Nat) => ([] : List Int32)) r.toNatClampNeg (ins px ((fun (_ : Nat) => ([] : List Int32)) r.toNatClampNeg))) (upm (fun (_ : Nat) => ([] : List Int32)) r.toNatClampNeg (ins sy ((fun (_ : Nat) => ([] : List Int32)) r.toNatClampNeg))))) (fun h' b _ q => ⟨_, rfl, b, rfl, q⟩)) ?_
  rintro _ g96 ⟨bg96, rfl, Cg96⟩
  refine Go.pop at_128 (q := 129) rfl rfl ?_
  refine Go.aload at_129 (q := 131) rfl rfl rfl ?_
  refine Go.callVN (P := fun h' => CT Z h' n0 a_NONE c rc co 0 0 0 [] (upm (fun (_ : Nat) => ([] : List Int32)) r.toNatClampNeg (ins px ((fun (_ : Nat) => ([] : List Int32)) r.toNatClampNeg))) (upm (fun (_ : Nat) => ([] : List Int32)) r.toNatClampNeg (ins sy ((fun (_ : Nat) => ([] : List Int32)) r.toNatClampNeg)))) (argsL := []) (rest := []) (wd := 0) (Ls1 := #[.val (.ref c)]) at_131 (q := 134) rfl (w103 hw) (w104 hw) (w106 hw) (w105 hw) (w107 hw) (w3 hw) (by decide) pn17 pd17 rfl rfl (ct_exa Cg96) (fun m_ => by simp [entryFrame, mkF, argsToLocals, Value.category]) rfl (by decide) rfl (by decide) (by decide) (by decide) (forget l Z a0 hw n0 g96 c rc co 0 (0 + 2) (0 + 2) (upm (fun (_ : Nat) => ([] : List Int32)) r.toNatClampNeg (ins px ((fun (_ : Nat) => ([] : List Int32)) r.toNatClampNeg))) (upm (fun (_ : Nat) => ([] : List Int32)) r.toNatClampNeg (ins sy ((fun (_ : Nat) => ([] : List Int32)) r.toNatClampNeg))) [] a_NONE k_NONE vs_NONE F Cg96 (Q := RN (fun h' => CT Z h' n0 a_NONE c rc co 0 0 0 [] (upm (fun (_ : Nat) => ([] : List Int32)) r.toNatClampNeg (ins px ((fun (_ : Nat) => ([] : List Int32)) r.toNatClampNeg))) (upm (fun (_ : Nat) => ([] : List Int32)) r.toNatClampNeg (ins sy ((fun (_ : Nat) => ([] : List Int32)) r.toNatClampNeg))))) (fun h' q => ⟨rfl, q⟩)) ?_
  intro hf Cf
  have Ct := Cf
  obtain ⟨lab, l1, l2, l3, v1, v2, v3, z1, z2, z3, ss, sar, tp, ts, ⟨Of, lN, lA⟩, ⟨Ec, ncf, lc⟩, Fc, rcf, X1f, X2f, X3f, Sx, T0, T1⟩ := Cf
  obtain rfl : z1 = 0 := z_zero X1f.2.1
  obtain rfl : z2 = 0 := z_zero X2f.2.1
  obtain rfl : z3 = 0 := z_zero X3f.2.1
  refine Go.aload at_134 (q := 136) rfl rfl rfl ?_
  refine Go.getF at_136 (q := 139) rfl (host := "") (Or.inl (w113 hw)) Via.refl Fc.2.1 ?_
  refine Go.callVV (P := fun w h' => w = .int (0 : Int32) ∧ hf = h') (argsL := []) (rest := []) (wd := 0) (Ls1 := #[.val (.ref l1)]) at_139 (q := 142) rfl (w114 hw) (w115 hw) (w117 hw) (w116 hw) (w118 hw) (w31 hw) (by decide) pn19 pd19 rfl rfl X1f.1.1.1 (fun m_ => by simp [entryFrame, mkF, argsToLocals, Value.category]) rfl (by decide) rfl (by decide) (by decide) (by decide) (il_size l Z a0 hw n0 hf a_NONE l1 v1 0 X1f.1 (Q := RV (fun w h' => w = .int (0 : Int32) ∧ hf = h')) ⟨_, rfl, rfl, rfl⟩) ?_
  rintro _ _ ⟨rfl, rfl⟩
  refine Go.if_ne at_142 (q := 171) (q' := 145) (by decide) rfl rfl (fun c_ => absurd (by decide) c_) (fun _ => ?_)
  refine Go.aload at_145 (q := 147) rfl rfl rfl ?_
  refine Go.getF at_147 (q := 150) rfl (host := "") (Or.inl (w119 hw)) Via.refl Fc.2.2.1 ?_
  refine Go.callVV (P := fun w h' => w = .int (0 : Int32) ∧ hf = h') (argsL := []) (rest := []) (wd := 0) (Ls1 := #[.val (.ref l2)]) at_150 (q := 153) rfl (w114 hw) (w115 hw) (w117 hw) (w116 hw) (w118 hw) (w31 hw) (by decide) pn19 pd19 rfl rfl X2f.1.1.1 (fun m_ => by simp [entryFrame, mkF, argsToLocals, Value.category]) rfl (by decide) rfl (by decide) (by decide) (by decide) (il_size l Z a0 hw n0 hf a_NONE l2 v2 0 X2f.1 (Q := RV (fun w h' => w = .int (0 : Int32) ∧ hf = h')) ⟨_, rfl, rfl, rfl⟩) ?_
  rintro _ _ ⟨rfl, rfl⟩
  refine Go.if_ne at_153 (q := 171) (q' := 156) (by decide) rfl rfl (fun c_ => absurd (by decide) c_) (fun _ => ?_)
  refine Go.aload at_156 (q := 158) rfl rfl rfl ?_
  refine Go.getF at_158 (q := 161) rfl (host := "") (Or.inl (w120 hw)) Via.refl Fc.2.2.2.1 ?_
  refine Go.callVV (P := fun w h' => w = .int (0 : Int32) ∧ hf = h') (argsL := []) (rest := []) (wd := 0) (Ls1 := #[.val (.ref l3)]) at_161 (q := 164) rfl (w114 hw) (w115 hw) (w117 hw) (w116 hw) (w118 hw) (w31 hw) (by decide) pn19 pd19 rfl rfl X3f.1.1.1 (fun m_ => by simp [entryFrame, mkF, argsToLocals, Value.category]) rfl (by decide) rfl (by decide) (by decide) (by decide) (il_size l Z a0 hw n0 hf a_NONE l3 v3 0 X3f.1 (Q := RV (fun w h' => w = .int (0 : Int32) ∧ hf = h')) ⟨_, rfl, rfl, rfl⟩) ?_
  rintro _ _ ⟨rfl, rfl⟩
  refine Go.if_ne at_164 (q := 171) (q' := 167) (by decide) rfl rfl (fun c_ => absurd (by decide) c_) (fun _ => ?_)
  refine Go.iconst at_167 (q := 168) rfl (x := (1 : Int32)) (by decide) ?_
  refine Go.goto at_168 (q := 172) (by decide) rfl ?_
  refine Go.istore at_172 (q := 174) rfl (Ls' := #[.val (.int co), .val (.int ro), .val (.int fl), .val (.int a0_), .val (.int x0), .val (.int y0), .val (.int rc), .val (.int r), .val (.int (0 : Int32)), .val (.int (1 : Int32)), .val (.int (1 : Int32)), .val (.int sa), .val (.int px), .val (.int sy), .val (.ref c), .val (.int (1 : Int32)), .unset, .unset, .unset, .unset, .unset]) rfl ?_
  refine Go.aload at_174 (q := 176) rfl rfl rfl ?_
  refine Go.getF at_176 (q := 179) rfl (host := "") (Or.inl (w121 hw)) Via.refl Fc.1 ?_
  refine Go.iload at_179 (q := 181) rfl rfl ?_
  refine Go.callVV (P := fun w h' => w = .int (0 : Int32) ∧ hf = h') (argsL := [(.int sa)]) (rest := []) (wd := 0) (Ls1 := #[.val (.ref ss), .val (.int sa)]) at_181 (q := 184) rfl (w122 hw) (w123 hw) (w125 hw) (w124 hw) (w126 hw) (w12 hw) (by decide) pn20 pd20 rfl rfl Sx.1.1.1 (fun m_ => by simp [entryFrame, mkF, argsToLocals, Value.category]) rfl (by decide) rfl (by decide) (by decide) (by decide) (sx_contains l Z a0 hw n0 hf ss sar [] Sx.1 sa Sx.2.1 hs (Q := RV (fun w h' => w = .int (0 : Int32) ∧ hf = h')) ⟨_, rfl, by rw [if_neg (by simp)], rfl⟩) ?_
  rintro _ _ ⟨rfl, rfl⟩
  refine Go.iload at_184 (q := 186) rfl rfl ?_
  refine Go.icmp_ne at_186 (q := 214) (q' := 189) (by decide) rfl rfl (fun c_ => absurd (by decide) c_) (fun _ => ?_)
  refine Go.aload at_189 (q := 191) rfl rfl rfl ?_
  refine Go.getF at_191 (q := 194) rfl (host := "") (Or.inl (w121 hw)) Via.refl Fc.1 ?_
  refine Go.callVV (P := fun w h' => w = .int (0 : Int32) ∧ hf = h') (argsL := []) (rest := []) (wd := 0) (Ls1 := #[.val (.ref ss)]) at_194 (q := 197) rfl (w127 hw) (w128 hw) (w130 hw) (w129 hw) (w131 hw) (w12 hw) (by decide) pn21 pd21 rfl rfl Sx.1.1.1 (fun m_ => by simp [entryFrame, mkF, argsToLocals, Value.category]) rfl (by decide) rfl (by decide) (by decide) (by decide) (is_size l Z a0 hw n0 hf ss sar _ _ Sx.1 (Q := RV (fun w h' => w = .int (0 : Int32) ∧ hf = h')) ⟨_, rfl, rfl, rfl⟩) ?_
  rintro _ _ ⟨rfl, rfl⟩
  refine Go.iload at_197 (q := 199) rfl rfl ?_
  refine Go.if_eq at_199 (q := 206) (q' := 202) (by decide) rfl rfl (fun _ => ?_) (fun c_ => absurd (by decide) c_)
  refine Go.iconst at_206 (q := 207) rfl (x := (0 : Int32)) (by decide) ?_
  refine Go.icmp_ne at_207 (q := 214) (q' := 210) (by decide) rfl rfl (fun c_ => absurd (by decide) c_) (fun _ => ?_)
  refine Go.iconst at_210 (q := 211) rfl (x := (1 : Int32)) (by decide) ?_
  refine Go.goto at_211 (q := 215) (by decide) rfl ?_
  refine Go.istore at_215 (q := 217) rfl (Ls' := #[.val (.int co), .val (.int ro), .val (.int fl), .val (.int a0_), .val (.int x0), .val (.int y0), .val (.int rc), .val (.int r), .val (.int (0 : Int32)), .val (.int (1 : Int32)), .val (.int (1 : Int32)), .val (.int sa), .val (.int px), .val (.int sy), .val (.ref c), .val (.int (1 : Int32)), .val (.int (1 : Int32)), .unset, .unset, .unset, .unset]) rfl ?_
  refine Go.aload at_217 (q := 219) rfl rfl rfl ?_
  refine Go.iload at_219 (q := 221) rfl rfl ?_
  have hx0 : (upm (fun (_ : Nat) => ([] : List Int32)) r.toNatClampNeg (ins px ((fun (_ : Nat) => ([] : List Int32)) r.toNatClampNeg))) r.toNatClampNeg = [px] := upm_same _ _ _
  refine Go.callVV (P := fun w h' => ∃ s ar, w = .ref s ∧ SX Z hf n0 s ar [px] ∧ Good [px] ∧ hf = h') (argsL := [(.int r)]) (rest := []) (wd := 0) (Ls1 := #[.val (.ref c), .val (.int r)]) at_221 (q := 224) rfl (w132 hw) (w133 hw) (w135 hw) (w134 hw) (w136 hw) (w3 hw) (by decide) pn22 pd22 rfl rfl Ec (fun m_ => by simp [entryFrame, mkF, argsToLocals, Value.category]) rfl (by decide) rfl (by decide) (by decide) (by decide) (read0 l Z a0 hw n0 hf c rc co 0 0 0 [] (upm (fun (_ : Nat) => ([] : List Int32)) r.toNatClampNeg (ins px ((fun (_ : Nat) => ([] : List Int32)) r.toNatClampNeg))) (upm (fun (_ : Nat) => ([] : List Int32)) r.toNatClampNeg (ins sy ((fun (_ : Nat) => ([] : List Int32)) r.toNatClampNeg))) a_NONE Ct r hr (Q := RV (fun w h' => ∃ s ar, w = .ref s ∧ SX Z hf n0 s ar [px] ∧ Good [px] ∧ hf = h')) (fun e => by rw [hx0] at e; cases e) (fun _ s ar S G => ⟨_, rfl, s, ar, rfl, by rw [← hx0]; exact S, by rw [← hx0]; exact G, rfl⟩)) ?_
  rintro _ _ ⟨s0, ar0, rfl, S0, G0, rfl⟩
  refine Go.astore at_224 (q := 226) rfl rfl (Ls' := #[.val (.int co), .val (.int ro), .val (.int fl), .val (.int a0_), .val (.int x0), .val (.int y0), .val (.int rc), .val (.int r), .val (.int (0 : Int32)), .val (.int (1 : Int32)), .val (.int (1 : Int32)), .val (.int sa), .val (.int px), .val (.int sy), .val (.ref c), .val (.int (1 : Int32)), .val (.int (1 : Int32)), .val (.ref s0), .unset, .unset, .unset]) rfl ?_
  refine Go.iload at_226 (q := 228) rfl rfl ?_
  refine Go.if_eq at_228 (q := 254) (q' := 231) (by decide) rfl rfl (fun c_ => absurd c_ (by decide)) (fun _ => ?_)
  refine Go.aload at_231 (q := 233) rfl rfl rfl ?_
  refine Go.ifnull at_233 (q := 250) (q' := 236) (by decide) rfl rfl rfl (fun e => by cases e) (fun _ _ => ?_)
  refine Go.aload at_236 (q := 238) rfl rfl rfl ?_
  refine Go.iload at_238 (q := 240) rfl rfl ?_
  refine Go.callVV (P := fun w h' => w = .int (1 : Int32) ∧ hf = h') (argsL := [(.int px)]) (rest := []) (wd := 0) (Ls1 := #[.val (.ref s0), .val (.int px)]) at_240 (q := 243) rfl (w122 hw) (w123 hw) (w125 hw) (w124 hw) (w126 hw) (w12 hw) (by decide) pn20 pd20 rfl rfl S0.1.1 (fun m_ => by simp [entryFrame, mkF, argsToLocals, Value.category]) rfl (by decide) rfl (by decide) (by decide) (by decide) (sx_contains l Z a0 hw n0 hf s0 ar0 [px] S0 px G0 hp (Q := RV (fun w h' => w = .int (1 : Int32) ∧ hf = h')) ⟨_, rfl, by rw [if_pos (List.mem_singleton.mpr rfl)], rfl⟩) ?_
  rintro _ _ ⟨rfl, rfl⟩
  refine Go.if_eq at_243 (q := 250) (q' := 246) (by decide) rfl rfl (fun c_ => absurd c_ (by decide)) (fun _ => ?_)
  refine Go.iconst at_246 (q := 247) rfl (x := (1 : Int32)) (by decide) ?_
  refine Go.goto at_247 (q := 264) (by decide) rfl ?_
  refine Go.istore at_264 (q := 266) rfl (Ls' := #[.val (.int co), .val (.int ro), .val (.int fl), .val (.int a0_), .val (.int x0), .val (.int y0), .val (.int rc), .val (.int r), .val (.int (0 : Int32)), .val (.int (1 : Int32)), .val (.int (1 : Int32)), .val (.int sa), .val (.int px), .val (.int sy), .val (.ref c), .val (.int (1 : Int32)), .val (.int (1 : Int32)), .val (.ref s0), .val (.int (1 : Int32)), .unset, .unset]) rfl ?_
  refine Go.aload at_266 (q := 268) rfl rfl rfl ?_
  refine Go.iload at_268 (q := 270) rfl rfl ?_
  have hx1 : (upm (fun (_ : Nat) => ([] : List Int32)) r.toNatClampNeg (ins sy ((fun (_ : Nat) => ([] : List Int32)) r.toNatClampNeg))) r.toNatClampNeg = [sy] := upm_same _ _ _
  refine Go.callVV (P := fun w h' => ∃ s ar, w = .ref s ∧ SX Z hf n0 s ar [sy] ∧ Good [sy] ∧ hf = h') (argsL := [(.int r)]) (rest := []) (wd := 0) (Ls1 := #[.val (.ref c), .val (.int r)]) at_270 (q := 273) rfl (w137 hw) (w138 hw) (w140 hw) (w139 hw) (w141 hw) (w3 hw) (by decide) pn23 pd23 rfl rfl Ec (fun m_ => by simp [entryFrame, mkF, argsToLocals, Value.category]) rfl (by decide) rfl (by decide) (by decide) (by decide) (read1 l Z a0 hw n0 hf c rc co 0 0 0 [] (upm (fun (_ : Nat) => ([] : List Int32)) r.toNatClampNeg (ins px ((fun (_ : Nat) => ([] : List Int32)) r.toNatClampNeg))) (upm (fun (_ : Nat) => ([] : List Int32)) r.toNatClampNeg (ins sy ((fun (_ : Nat) => ([] : List Int32)) r.toNatClampNeg))) a_NONE Ct r hr (Q := RV (fun w h' => ∃ s ar, w = .ref s ∧ SX Z hf n0 s ar [sy] ∧ Good [sy] ∧ hf = h')) (fun e => by rw [hx1] at e; cases e) (fun _ s ar S G => ⟨_, rfl, s, ar, rfl, by rw [← hx1]; exact S, by rw [← hx1]; exact G, rfl⟩)) ?_
  rintro _ _ ⟨s1, ar1, rfl, S1, G1, rfl⟩
  refine Go.astore at_273 (q := 275) rfl rfl (Ls' := #[.val (.int co), .val (.int ro), .val (.int fl), .val (.int a0_), .val (.int x0), .val (.int y0), .val (.int rc), .val (.int r), .val (.int (0 : Int32)), .val (.int (1 : Int32)), .val (.int (1 : Int32)), .val (.int sa), .val (.int px), .val (.int sy), .val (.ref c), .val (.int (1 : Int32)), .val (.int (1 : Int32)), .val (.ref s0), .val (.int (1 : Int32)), .val (.ref s1), .unset]) rfl ?_
  refine Go.iload at_275 (q := 277) rfl rfl ?_
  refine Go.if_eq at_277 (q := 303) (q' := 280) (by decide) rfl rfl (fun c_ => absurd c_ (by decide)) (fun _ => ?_)
  refine Go.aload at_280 (q := 282) rfl rfl rfl ?_
  refine Go.ifnull at_282 (q := 299) (q' := 285) (by decide) rfl rfl rfl (fun e => by cases e) (fun _ _ => ?_)
  refine Go.aload at_285 (q := 287) rfl rfl rfl ?_
  refine Go.iload at_287 (q := 289) rfl rfl ?_
  refine Go.callVV (P := fun w h' => w = .int (1 : Int32) ∧ hf = h') (argsL := [(.int sy)]) (rest := []) (wd := 0) (Ls1 := #[.val (.ref s1), .val (.int sy)]) at_289 (q := 292) rfl (w122 hw) (w123 hw) (w125 hw) (w124 hw) (w126 hw) (w12 hw) (by decide) pn20 pd20 rfl rfl S1.1.1 (fun m_ => by simp [entryFrame, mkF, argsToLocals, Value.category]) rfl (by decide) rfl (by decide) (by decide) (by decide) (sx_contains l Z a0 hw n0 hf s1 ar1 [sy] S1 sy G1 hy (Q := RV (fun w h' => w = .int (1 : Int32) ∧ hf = h')) ⟨_, rfl, by rw [if_pos (List.mem_singleton.mpr rfl)], rfl⟩) ?_
  rintro _ _ ⟨rfl, rfl⟩
  refine Go.if_eq at_292 (q := 299) (q' := 295) (by decide) rfl rfl (fun c_ => absurd c_ (by decide)) (fun _ => ?_)
  refine Go.iconst at_295 (q := 296) rfl (x := (1 : Int32)) (by decide) ?_
  refine Go.goto at_296 (q := 313) (by decide) rfl ?_
  refine Go.istore at_313 (q := 315) rfl (Ls' := #[.val (.int co), .val (.int ro), .val (.int fl), .val (.int a0_), .val (.int x0), .val (.int y0), .val (.int rc), .val (.int r), .val (.int (0 : Int32)), .val (.int (1 : Int32)), .val (.int (1 : Int32)), .val (.int sa), .val (.int px), .val (.int sy), .val (.ref c), .val (.int (1 : Int32)), .val (.int (1 : Int32)), .val (.ref s0), .val (.int (1 : Int32)), .val (.ref s1), .val (.int (1 : Int32))]) rfl ?_
  refine Go.iload at_315 (q := 317) rfl rfl ?_
  refine Go.if_eq at_317 (q := 348) (q' := 320) (by decide) rfl rfl (fun c_ => absurd c_ (by decide)) (fun _ => ?_)
  refine Go.iload at_320 (q := 322) rfl rfl ?_
  refine Go.if_eq at_322 (q := 348) (q' := 325) (by decide) rfl rfl (fun c_ => absurd c_ (by decide)) (fun _ => ?_)
  refine Go.iload at_325 (q := 327) rfl rfl ?_
  refine Go.if_eq at_327 (q := 348) (q' := 330) (by decide) rfl rfl (fun c_ => absurd c_ (by decide)) (fun _ => ?_)
  refine Go.iload at_330 (q := 332) rfl rfl ?_
  refine Go.if_eq at_332 (q := 348) (q' := 335) (by decide) rfl rfl (fun c_ => absurd c_ (by decide)) (fun _ => ?_)
  refine Go.aload at_335 (q := 337) rfl rfl rfl ?_
  refine Go.getF at_337 (q := 340) rfl (host := "") (Or.inl (w144 hw)) Via.refl Fc.2.2.2.2.2.2.2 ?_
  refine Go.iloadN at_340 (q := 341) rfl rfl ?_
  refine Go.icmp_ne at_341 (q := 348) (q' := 344) (by decide) rfl rfl (fun c_ => absurd rfl c_) (fun _ => ?_)
  refine Go.iconst at_344 (q := 345) rfl (x := (1 : Int32)) (by decide) ?_
  refine Go.goto at_345 (q := 349) (by decide) rfl ?_
  refine Go.zreturn at_349 (by decide) (by decide) (by decide) ?_
  rfl
set_option maxRecDepth 65536 in
set_option maxHeartbeats 40000000 in
theorem law74_100 (l : Launch) (Z : State) (a0 : Array Value) (hw : Hw a0 Z) (n0 : Nat) (h : Heap) (O : Old Z n0 h) (co ro fl a0_ x0 y0 rc r sa px sy : Int32) (a_NONE : Addr) (k_NONE : ClassId) (vs_NONE : List Value) (F : Facts Z a_NONE k_NONE vs_NONE) (rcr : ¬ rc < 0 ∧ rc.toNatClampNeg ≤ 4) (hr : ¬ r < 0 ∧ r.toNatClampNeg < rc.toNatClampNeg) (hs : ¬ sa < 0) (hp : ¬ px < 0) (hy : ¬ sy < 0) :
    Go l Z x code maxLocals ret room_1 n0 (fun v _ => v = some (.int 1)) h 0 0 74 #[.val (.int co), .val (.int ro), .val (.int fl), .val (.int a0_), .val (.int x0), .val (.int y0), .val (.int rc), .val (.int r), .val (.int (1 : Int32)), .val (.int (0 : Int32)), .val (.int (0 : Int32)), .val (.int sa), .val (.int px), .val (.int sy), .unset, .unset, .unset, .unset, .unset, .unset, .unset] [] := by
  refine Go.new at_74 (q := 77) rfl (w1 hw) (w2 hw) (w3 hw) (by decide) (by decide) ?_
  intro h1 c e1 X1 E1 D1
  have nc : n0 ≤ c := new_le (O.1 ▸ O.2.1) e1
  refine Go.dup at_77 (q := 78) rfl rfl ?_
  refine Go.iloadN at_78 (q := 79) rfl rfl ?_
  refine Go.iload at_79 (q := 81) rfl rfl ?_
  refine Go.callIN (P := fun h' => CT Z h' n0 a_NONE c rc co 0 0 0 [] (fun (_ : Nat) => ([] : List Int32)) (fun (_ : Nat) => ([] : List Int32))) (argsL := [(.int co), (.int rc)]) (rest := [(.ref c)]) (wd := 1) (Ls1 := #[.val (.ref c), .val (.int co), .val (.int rc)]) at_81 (q := 84) rfl rfl (w4 hw) (w5 hw) (w3 hw) (w6 hw) (by decide) pn1 pd1 rfl rfl (fun m_ => by simp [entryFrame, mkF, argsToLocals, Value.category]) rfl (by decide) rfl (by decide) (by decide) (by decide) (cx_init l Z a0 hw n0 h1 (O.ext X1) c co rc nc E1 (D1 (Or.inr (w28 hw)) pTS) (D1 (Or.inr (w41 hw)) pTL) (D1 (Or.inr (w43 hw)) pTL) (D1 (Or.inr (w45 hw)) pTL) (D1 (Or.inl (w56 hw)) pTA) (D1 (Or.inl (w143 hw)) pTA) (D1 (Or.inr (w49 hw)) pTn) (D1 (Or.inr (w47 hw)) pTn) rcr a_NONE k_NONE vs_NONE F (Q := RN (fun h' => CT Z h' n0 a_NONE c rc co 0 0 0 [] (fun (_ : Nat) => ([] : List Int32)) (fun (_ : Nat) => ([] : List Int32)))) (fun h' q => ⟨rfl, q⟩)) ?_
  intro g0 C0
  refine Go.astore at_84 (q := 86) rfl rfl (Ls' := #[.val (.int co), .val (.int ro), .val (.int fl), .val (.int a0_), .val (.int x0), .val (.int y0), .val (.int rc), .val (.int r), .val (.int (1 : Int32)), .val (.int (0 : Int32)), .val (.int (0 : Int32)), .val (.int sa), .val (.int px), .val (.int sy), .val (.ref c), .unset, .unset, .unset, .unset, .unset, .unset]) rfl ?_
  refine Go.iload at_86 (q := 88) rfl rfl ?_
  refine Go.if_eq at_88 (q := 99) (q' := 91) (by decide) rfl rfl (fun c_ => absurd c_ (by decide)) (fun _ => ?_)
  refine Go.aload at_91 (q := 93) rfl rfl rfl ?_
  refine Go.iload at_93 (q := 95) rfl rfl ?_
  refine Go.callVV (P := fun w h' => ∃ b : Int32, w = .int b ∧ CT Z h' n0 a_NONE c rc co (0 + 1) 0 0 [sa] (fun (_ : Nat) => ([] : List Int32)) (fun (_ : Nat) => ([] : List Int32))) (argsL := [(.int sa)]) (rest := []) (wd := 0) (Ls1 := #[.val (.ref c), .val (.int sa)]) at_95 (q := 98) rfl (w145 hw) (w146 hw) (w148 hw) (w147 hw) (w149 hw) (w3 hw) (by decide) pn24 pd24 rfl rfl (ct_exa C0) (fun m_ => by simp [entryFrame, mkF, argsToLocals, Value.category]) rfl (by decide) rfl (by decide) (by decide) (by decide) (addSub l Z a0 hw n0 g0 c rc co 0 0 0 (fun (_ : Nat) => ([] : List Int32)) (fun (_ : Nat) => ([] : List Int32)) a_NONE k_NONE vs_NONE F C0 sa hs (by decide) (Q := RV (fun w h' => ∃ b : Int32, w = .int b ∧ CT Z h' n0 a_NONE c rc co (0 + 1) 0 0 [sa] (fun (_ : Nat) => ([] : List Int32)) (fun (_ : Nat) => ([] : List Int32)))) (fun h' b _ q => ⟨_, rfl, b, rfl, q⟩)) ?_
  rintro _ g115 ⟨bg115, rfl, Cg115⟩
  refine Go.pop at_98 (q := 99) rfl rfl ?_
  refine Go.iload at_99 (q := 101) rfl rfl ?_
  refine Go.if_eq at_101 (q := 114) (q' := 104) (by decide) rfl rfl (fun _ => ?_) (fun c_ => absurd (by decide) c_)
  refine Go.iload at_114 (q := 116) rfl rfl ?_
  refine Go.if_eq at_116 (q := 129) (q' := 119) (by decide) rfl rfl (fun _ => ?_) (fun c_ => absurd (by decide) c_)
  refine Go.aload at_129 (q := 131) rfl rfl rfl ?_
  refine Go.callVN (P := fun h' => CT Z h' n0 a_NONE c rc co 0 0 0 [sa] (fun (_ : Nat) => ([] : List Int32)) (fun (_ : Nat) => ([] : List Int32))) (argsL := []) (rest := []) (wd := 0) (Ls1 := #[.val (.ref c)]) at_131 (q := 134) rfl (w103 hw) (w104 hw) (w106 hw) (w105 hw) (w107 hw) (w3 hw) (by decide) pn17 pd17 rfl rfl (ct_exa Cg115) (fun m_ => by simp [entryFrame, mkF, argsToLocals, Value.category]) rfl (by decide) rfl (by decide) (by decide) (by decide) (forget l Z a0 hw n0 g115 c rc co (0 + 1) 0 0 (fun (_ : Nat) => ([] : List Int32)) (fun (_ : Nat) => ([] : List Int32)) [sa] a_NONE k_NONE vs_NONE F Cg115 (Q := RN (fun h' => CT Z h' n0 a_NONE c rc co 0 0 0 [sa] (fun (_ : Nat) => ([] : List Int32)) (fun (_ : Nat) => ([] : List Int32)))) (fun h' q => ⟨rfl, q⟩)) ?_
  intro hf Cf
  have Ct := Cf
  obtain ⟨lab, l1, l2, l3, v1, v2, v3, z1, z2, z3, ss, sar, tp, ts, ⟨Of, lN, lA⟩, ⟨Ec, ncf, lc⟩, Fc, rcf, X1f, X2f, X3f, Sx, T0, T1⟩ := Cf
  obtain rfl : z1 = 0 := z_zero X1f.2.1
  obtain rfl : z2 = 0 := z_zero X2f.2.1
  obtain rfl : z3 = 0 := z_zero X3f.2.1
  refine Go.aload at_134 (q := 136) rfl rfl rfl ?_
  refine Go.getF at_136 (q := 139) rfl (host := "") (Or.inl (w113 hw)) Via.refl Fc.2.1 ?_
  refine Go.callVV (P := fun w h' => w = .int (0 : Int32) ∧ hf = h') (argsL := []) (rest := []) (wd := 0) (Ls1 := #[.val (.ref l1)]) at_139 (q := 142) rfl (w114 hw) (w115 hw) (w117 hw) (w116 hw) (w118 hw) (w31 hw) (by decide) pn19 pd19 rfl rfl X1f.1.1.1 (fun m_ => by simp [entryFrame, mkF, argsToLocals, Value.category]) rfl (by decide) rfl (by decide) (by decide) (by decide) (il_size l Z a0 hw n0 hf a_NONE l1 v1 0 X1f.1 (Q := RV (fun w h' => w = .int (0 : Int32) ∧ hf = h')) ⟨_, rfl, rfl, rfl⟩) ?_
  rintro _ _ ⟨rfl, rfl⟩
  refine Go.if_ne at_142 (q := 171) (q' := 145) (by decide) rfl rfl (fun c_ => absurd (by decide) c_) (fun _ => ?_)
  refine Go.aload at_145 (q := 147) rfl rfl rfl ?_
  refine Go.getF at_147 (q := 150) rfl (host := "") (Or.inl (w119 hw)) Via.refl Fc.2.2.1 ?_
  refine Go.callVV (P := fun w h' => w = .int (0 : Int32) ∧ hf = h') (argsL := []) (rest := []) (wd := 0) (Ls1 := #[.val (.ref l2)]) at_150 (q := 153) rfl (w114 hw) (w115 hw) (w117 hw) (w116 hw) (w118 hw) (w31 hw) (by decide) pn19 pd19 rfl rfl X2f.1.1.1 (fun m_ => by simp [entryFrame, mkF, argsToLocals, Value.category]) rfl (by decide) rfl (by decide) (by decide) (by decide) (il_size l Z a0 hw n0 hf a_NONE l2 v2 0 X2f.1 (Q := RV (fun w h' => w = .int (0 : Int32) ∧ hf = h')) ⟨_, rfl, rfl, rfl⟩) ?_
  rintro _ _ ⟨rfl, rfl⟩
  refine Go.if_ne at_153 (q := 171) (q' := 156) (by decide) rfl rfl (fun c_ => absurd (by decide) c_) (fun _ => ?_)
  refine Go.aload at_156 (q := 158) rfl rfl rfl ?_
  refine Go.getF at_158 (q := 161) rfl (host := "") (Or.inl (w120 hw)) Via.refl Fc.2.2.2.1 ?_
  refine Go.callVV (P := fun w h' => w = .int (0 : Int32) ∧ hf = h') (argsL := []) (rest := []) (wd := 0) (Ls1 := #[.val (.ref l3)]) at_161 (q := 164) rfl (w114 hw) (w115 hw) (w117 hw) (w116 hw) (w118 hw) (w31 hw) (by decide) pn19 pd19 rfl rfl X3f.1.1.1 (fun m_ => by simp [entryFrame, mkF, argsToLocals, Value.category]) rfl (by decide) rfl (by decide) (by decide) (by decide) (il_size l Z a0 hw n0 hf a_NONE l3 v3 0 X3f.1 (Q := RV (fun w h' => w = .int (0 : Int32) ∧ hf = h')) ⟨_, rfl, rfl, rfl⟩) ?_
  rintro _ _ ⟨rfl, rfl⟩
  refine Go.if_ne at_164 (q := 171) (q' := 167) (by decide) rfl rfl (fun c_ => absurd (by decide) c_) (fun _ => ?_)
  refine Go.iconst at_167 (q := 168) rfl (x := (1 : Int32)) (by decide) ?_
  refine Go.goto at_168 (q := 172) (by decide) rfl ?_
  refine Go.istore at_172 (q := 174) rfl (Ls' := #[.val (.int co), .val (.int ro), .val (.int fl), .val (.int a0_), .val (.int x0), .val (.int y0), .val (.int rc), .val (.int r), .val (.int (1 : Int32)), .val (.int (0 : Int32)), .val (.int (0 : Int32)), .val (.int sa), .val (.int px), .val (.int sy), .val (.ref c), .val (.int (1 : Int32)), .unset, .unset, .unset, .unset, .unset]) rfl ?_
  refine Go.aload at_174 (q := 176) rfl rfl rfl ?_
  refine Go.getF at_176 (q := 179) rfl (host := "") (Or.inl (w121 hw)) Via.refl Fc.1 ?_
  refine Go.iload at_179 (q := 181) rfl rfl ?_
  refine Go.callVV (P := fun w h' => w = .int (1 : Int32) ∧ hf = h') (argsL := [(.int sa)]) (rest := []) (wd := 0) (Ls1 := #[.val (.ref ss), .val (.int sa)]) at_181 (q := 184) rfl (w122 hw) (w123 hw) (w125 hw) (w124 hw) (w126 hw) (w12 hw) (by decide) pn20 pd20 rfl rfl Sx.1.1.1 (fun m_ => by simp [entryFrame, mkF, argsToLocals, Value.category]) rfl (by decide) rfl (by decide) (by decide) (by decide) (sx_contains l Z a0 hw n0 hf ss sar [sa] Sx.1 sa Sx.2.1 hs (Q := RV (fun w h' => w = .int (1 : Int32) ∧ hf = h')) ⟨_, rfl, by rw [if_pos (List.mem_singleton.mpr rfl)], rfl⟩) ?_
  rintro _ _ ⟨rfl, rfl⟩
  refine Go.iload at_184 (q := 186) rfl rfl ?_
  refine Go.icmp_ne at_186 (q := 214) (q' := 189) (by decide) rfl rfl (fun c_ => absurd (by decide) c_) (fun _ => ?_)
  refine Go.aload at_189 (q := 191) rfl rfl rfl ?_
  refine Go.getF at_191 (q := 194) rfl (host := "") (Or.inl (w121 hw)) Via.refl Fc.1 ?_
  refine Go.callVV (P := fun w h' => w = .int (1 : Int32) ∧ hf = h') (argsL := []) (rest := []) (wd := 0) (Ls1 := #[.val (.ref ss)]) at_194 (q := 197) rfl (w127 hw) (w128 hw) (w130 hw) (w129 hw) (w131 hw) (w12 hw) (by decide) pn21 pd21 rfl rfl Sx.1.1.1 (fun m_ => by simp [entryFrame, mkF, argsToLocals, Value.category]) rfl (by decide) rfl (by decide) (by decide) (by decide) (is_size l Z a0 hw n0 hf ss sar _ _ Sx.1 (Q := RV (fun w h' => w = .int (1 : Int32) ∧ hf = h')) ⟨_, rfl, rfl, rfl⟩) ?_
  rintro _ _ ⟨rfl, rfl⟩
  refine Go.iload at_197 (q := 199) rfl rfl ?_
  refine Go.if_eq at_199 (q := 206) (q' := 202) (by decide) rfl rfl (fun c_ => absurd c_ (by decide)) (fun _ => ?_)
  refine Go.iconst at_202 (q := 203) rfl (x := (1 : Int32)) (by decide) ?_
  refine Go.goto at_203 (q := 207) (by decide) rfl ?_
  refine Go.icmp_ne at_207 (q := 214) (q' := 210) (by decide) rfl rfl (fun c_ => absurd (by decide) c_) (fun _ => ?_)
  refine Go.iconst at_210 (q := 211) rfl (x := (1 : Int32)) (by decide) ?_
  refine Go.goto at_211 (q := 215) (by decide) rfl ?_
  refine Go.istore at_215 (q := 217) rfl (Ls' := #[.val (.int co), .val (.int ro), .val (.int fl), .val (.int a0_), .val (.int x0), .val (.int y0), .val (.int rc), .val (.int r), .val (.int (1 : Int32)), .val (.int (0 : Int32)), .val (.int (0 : Int32)), .val (.int sa), .val (.int px), .val (.int sy), .val (.ref c), .val (.int (1 : Int32)), .val (.int (1 : Int32)), .unset, .unset, .unset, .unset]) rfl ?_
  refine Go.aload at_217 (q := 219) rfl rfl rfl ?_
  refine Go.iload at_219 (q := 221) rfl rfl ?_
  refine Go.callVV (P := fun w h' => Value.null = w ∧ hf = h') (argsL := [(.int r)]) (rest := []) (wd := 0) (Ls1 := #[.val (.ref c), .val (.int r)]) at_221 (q := 224) rfl (w132 hw) (w133 hw) (w135 hw) (w134 hw) (w136 hw) (w3 hw) (by decide) pn22 pd22 rfl rfl Ec (fun m_ => by simp [entryFrame, mkF, argsToLocals, Value.category]) rfl (by decide) rfl (by decide) (by decide) (by decide) (read0 l Z a0 hw n0 hf c rc co 0 0 0 [sa] (fun (_ : Nat) => ([] : List Int32)) (fun (_ : Nat) => ([] : List Int32)) a_NONE Ct r hr (Q := RV (fun w h' => Value.null = w ∧ hf = h')) (fun _ => ⟨_, rfl, rfl, rfl⟩) (fun e => absurd rfl e)) ?_
  rintro _ _ ⟨rfl, rfl⟩
  refine Go.astore at_224 (q := 226) rfl rfl (Ls' := #[.val (.int co), .val (.int ro), .val (.int fl), .val (.int a0_), .val (.int x0), .val (.int y0), .val (.int rc), .val (.int r), .val (.int (1 : Int32)), .val (.int (0 : Int32)), .val (.int (0 : Int32)), .val (.int sa), .val (.int px), .val (.int sy), .val (.ref c), .val (.int (1 : Int32)), .val (.int (1 : Int32)), .val .null, .unset, .unset, .unset]) rfl ?_
  refine Go.iload at_226 (q := 228) rfl rfl ?_
  refine Go.if_eq at_228 (q := 254) (q' := 231) (by decide) rfl rfl (fun _ => ?_) (fun c_ => absurd (by decide) c_)
  refine Go.aload at_254 (q := 256) rfl rfl rfl ?_
  refine Go.ifnonnull at_256 (q := 263) (q' := 259) (by decide) rfl rfl rfl (fun _ e => by cases e) (fun _ => ?_)
  refine Go.iconst at_259 (q := 260) rfl (x := (1 : Int32)) (by decide) ?_
  refine Go.goto at_260 (q := 264) (by decide) rfl ?_
  refine Go.istore at_264 (q := 266) rfl (Ls' := #[.val (.int co), .val (.int ro), .val (.int fl), .val (.int a0_), .val (.int x0), .val (.int y0), .val (.int rc), .val (.int r), .val (.int (1 : Int32)), .val (.int (0 : Int32)), .val (.int (0 : Int32)), .val (.int sa), .val (.int px), .val (.int sy), .val (.ref c), .val (.int (1 : Int32)), .val (.int (1 : Int32)), .val .null, .val (.int (1 : Int32)), .unset, .unset]) rfl ?_
  refine Go.aload at_266 (q := 268) rfl rfl rfl ?_
  refine Go.iload at_268 (q := 270) rfl rfl ?_
  refine Go.callVV (P := fun w h' => Value.null = w ∧ hf = h') (argsL := [(.int r)]) (rest := []) (wd := 0) (Ls1 := #[.val (.ref c), .val (.int r)]) at_270 (q := 273) rfl (w137 hw) (w138 hw) (w140 hw) (w139 hw) (w141 hw) (w3 hw) (by decide) pn23 pd23 rfl rfl Ec (fun m_ => by simp [entryFrame, mkF, argsToLocals, Value.category]) rfl (by decide) rfl (by decide) (by decide) (by decide) (read1 l Z a0 hw n0 hf c rc co 0 0 0 [sa] (fun (_ : Nat) => ([] : List Int32)) (fun (_ : Nat) => ([] : List Int32)) a_NONE Ct r hr (Q := RV (fun w h' => Value.null = w ∧ hf = h')) (fun _ => ⟨_, rfl, rfl, rfl⟩) (fun e => absurd rfl e)) ?_
  rintro _ _ ⟨rfl, rfl⟩
  refine Go.astore at_273 (q := 275) rfl rfl (Ls' := #[.val (.int co), .val (.int ro), .val (.int fl), .val (.int a0_), .val (.int x0), .val (.int y0), .val (.int rc), .val (.int r), .val (.int (1 : Int32)), .val (.int (0 : Int32)), .val (.int (0 : Int32)), .val (.int sa), .val (.int px), .val (.int sy), .val (.ref c), .val (.int (1 : Int32)), .val (.int (1 : Int32)), .val .null, .val (.int (1 : Int32)), .val .null, .unset]) rfl ?_
  refine Go.iload at_275 (q := 277) rfl rfl ?_
  refine Go.if_eq at_277 (q := 303) (q' := 280) (by decide) rfl rfl (fun _ => ?_) (fun c_ => absurd (by decide) c_)
  refine Go.aload at_303 (q := 305) rfl rfl rfl ?_
  refine Go.ifnonnull at_305 (q := 312) (q' := 308) (by decide) rfl rfl rfl (fun _ e => by cases e) (fun _ => ?_)
  refine Go.iconst at_308 (q := 309) rfl (x := (1 : Int32)) (by decide) ?_
  refine Go.goto at_309 (q := 313) (by decide) rfl ?_
  refine Go.istore at_313 (q := 315) rfl (Ls' := #[.val (.int co), .val (.int ro), .val (.int fl), .val (.int a0_), .val (.int x0), .val (.int y0), .val (.int rc), .val (.int r), .val (.int (1 : Int32)), .val (.int (0 : Int32)), .val (.int (0 : Int32)), .val (.int sa), .val (.int px), .val (.int sy), .val (.ref c), .val (.int (1 : Int32)), .val (.int (1 : Int32)), .val .null, .val (.int (1 : Int32)), .val .null, .val (.int (1 : Int32))]) rfl ?_
  refine Go.iload at_315 (q := 317) rfl rfl ?_
  refine Go.if_eq at_317 (q := 348) (q' := 320) (by decide) rfl rfl (fun c_ => absurd c_ (by decide)) (fun _ => ?_)
  refine Go.iload at_320 (q := 322) rfl rfl ?_
  refine Go.if_eq at_322 (q := 348) (q' := 325) (by decide) rfl rfl (fun c_ => absurd c_ (by decide)) (fun _ => ?_)
  refine Go.iload at_325 (q := 327) rfl rfl ?_
  refine Go.if_eq at_327 (q := 348) (q' := 330) (by decide) rfl rfl (fun c_ => absurd c_ (by decide)) (fun _ => ?_)
  refine Go.iload at_330 (q := 332) rfl rfl ?_
  refine Go.if_eq at_332 (q := 348) (q' := 335) (by decide) rfl rfl (fun c_ => absurd c_ (by decide)) (fun _ => ?_)
  refine Go.aload at_335 (q := 337) rfl rfl rfl ?_
  refine Go.getF at_337 (q := 340) rfl (host := "") (Or.inl (w144 hw)) Via.refl Fc.2.2.2.2.2.2.2 ?_
  refine Go.iloadN at_340 (q := 341) rfl rfl ?_
  refine Go.icmp_ne at_341 (q := 348) (q' := 344) (by decide) rfl rfl (fun c_ => absurd rfl c_) (fun _ => ?_)
  refine Go.iconst at_344 (q := 345) rfl (x := (1 : Int32)) (by decide) ?_
  refine Go.goto at_345 (q := 349) (by decide) rfl ?_
  refine Go.zreturn at_349 (by decide) (by decide) (by decide) ?_
  rfl
set_option maxRecDepth 65536 in
set_option maxHeartbeats 40000000 in
theorem law74_101 (l : Launch) (Z : State) (a0 : Array Value) (hw : Hw a0 Z) (n0 : Nat) (h : Heap) (O : Old Z n0 h) (co ro fl a0_ x0 y0 rc r sa px sy : Int32) (a_NONE : Addr) (k_NONE : ClassId) (vs_NONE : List Value) (F : Facts Z a_NONE k_NONE vs_NONE) (rcr : ¬ rc < 0 ∧ rc.toNatClampNeg ≤ 4) (hr : ¬ r < 0 ∧ r.toNatClampNeg < rc.toNatClampNeg) (hs : ¬ sa < 0) (hp : ¬ px < 0) (hy : ¬ sy < 0) :
    Go l Z x code maxLocals ret room_1 n0 (fun v _ => v = some (.int 1)) h 0 0 74 #[.val (.int co), .val (.int ro), .val (.int fl), .val (.int a0_), .val (.int x0), .val (.int y0), .val (.int rc), .val (.int r), .val (.int (1 : Int32)), .val (.int (0 : Int32)), .val (.int (1 : Int32)), .val (.int sa), .val (.int px), .val (.int sy), .unset, .unset, .unset, .unset, .unset, .unset, .unset] [] := by
  refine Go.new at_74 (q := 77) rfl (w1 hw) (w2 hw) (w3 hw) (by decide) (by decide) ?_
  intro h1 c e1 X1 E1 D1
  have nc : n0 ≤ c := new_le (O.1 ▸ O.2.1) e1
  refine Go.dup at_77 (q := 78) rfl rfl ?_
  refine Go.iloadN at_78 (q := 79) rfl rfl ?_
  refine Go.iload at_79 (q := 81) rfl rfl ?_
  refine Go.callIN (P := fun h' => CT Z h' n0 a_NONE c rc co 0 0 0 [] (fun (_ : Nat) => ([] : List Int32)) (fun (_ : Nat) => ([] : List Int32))) (argsL := [(.int co), (.int rc)]) (rest := [(.ref c)]) (wd := 1) (Ls1 := #[.val (.ref c), .val (.int co), .val (.int rc)]) at_81 (q := 84) rfl rfl (w4 hw) (w5 hw) (w3 hw) (w6 hw) (by decide) pn1 pd1 rfl rfl (fun m_ => by simp [entryFrame, mkF, argsToLocals, Value.category]) rfl (by decide) rfl (by decide) (by decide) (by decide) (cx_init l Z a0 hw n0 h1 (O.ext X1) c co rc nc E1 (D1 (Or.inr (w28 hw)) pTS) (D1 (Or.inr (w41 hw)) pTL) (D1 (Or.inr (w43 hw)) pTL) (D1 (Or.inr (w45 hw)) pTL) (D1 (Or.inl (w56 hw)) pTA) (D1 (Or.inl (w143 hw)) pTA) (D1 (Or.inr (w49 hw)) pTn) (D1 (Or.inr (w47 hw)) pTn) rcr a_NONE k_NONE vs_NONE F (Q := RN (fun h' => CT Z h' n0 a_NONE c rc co 0 0 0 [] (fun (_ : Nat) => ([] : List Int32)) (fun (_ : Nat) => ([] : List Int32)))) (fun h' q => ⟨rfl, q⟩)) ?_
  intro g0 C0
  refine Go.astore at_84 (q := 86) rfl rfl (Ls' := #[.val (.int co), .val (.int ro), .val (.int fl), .val (.int a0_), .val (.int x0), .val (.int y0), .val (.int rc), .val (.int r), .val (.int (1 : Int32)), .val (.int (0 : Int32)), .val (.int (1 : Int32)), .val (.int sa), .val (.int px), .val (.int sy), .val (.ref c), .unset, .unset, .unset, .unset, .unset, .unset]) rfl ?_
  refine Go.iload at_86 (q := 88) rfl rfl ?_
  refine Go.if_eq at_88 (q := 99) (q' := 91) (by decide) rfl rfl (fun c_ => absurd c_ (by decide)) (fun _ => ?_)
  refine Go.aload at_91 (q := 93) rfl rfl rfl ?_
  refine Go.iload at_93 (q := 95) rfl rfl ?_
  refine Go.callVV (P := fun w h' => ∃ b : Int32, w = .int b ∧ CT Z h' n0 a_NONE c rc co (0 + 1) 0 0 [sa] (fun (_ : Nat) => ([] : List Int32)) (fun (_ : Nat) => ([] : List Int32))) (argsL := [(.int sa)]) (rest := []) (wd := 0) (Ls1 := #[.val (.ref c), .val (.int sa)]) at_95 (q := 98) rfl (w145 hw) (w146 hw) (w148 hw) (w147 hw) (w149 hw) (w3 hw) (by decide) pn24 pd24 rfl rfl (ct_exa C0) (fun m_ => by simp [entryFrame, mkF, argsToLocals, Value.category]) rfl (by decide) rfl (by decide) (by decide) (by decide) (addSub l Z a0 hw n0 g0 c rc co 0 0 0 (fun (_ : Nat) => ([] : List Int32)) (fun (_ : Nat) => ([] : List Int32)) a_NONE k_NONE vs_NONE F C0 sa hs (by decide) (Q := RV (fun w h' => ∃ b : Int32, w = .int b ∧ CT Z h' n0 a_NONE c rc co (0 + 1) 0 0 [sa] (fun (_ : Nat) => ([] : List Int32)) (fun (_ : Nat) => ([] : List Int32)))) (fun h' b _ q => ⟨_, rfl, b, rfl, q⟩)) ?_
  rintro _ g134 ⟨bg134, rfl, Cg134⟩
  refine Go.pop at_98 (q := 99) rfl rfl ?_
  refine Go.iload at_99 (q := 101) rfl rfl ?_
  refine Go.if_eq at_101 (q := 114) (q' := 104) (by decide) rfl rfl (fun _ => ?_) (fun c_ => absurd (by decide) c_)
  refine Go.iload at_114 (q := 116) rfl rfl ?_
  refine Go.if_eq at_116 (q := 129) (q' := 119) (by decide) rfl rfl (fun c_ => absurd c_ (by decide)) (fun _ => ?_)
  refine Go.aload at_119 (q := 121) rfl rfl rfl ?_
  refine Go.iload at_121 (q := 123) rfl rfl ?_
  refine Go.iload at_123 (q := 125) rfl rfl ?_
  refine Go.callVV (P := fun w h' => ∃ b : Int32, w = .int b ∧ CT Z h' n0 a_NONE c rc co (0 + 1) 0 (0 + 2) [sa] (fun (_ : Nat) => ([] : List Int32)) (upm (fun (_ : Nat) => ([] : List Int32)) r.toNatClampNeg (ins sy ((fun (_ : Nat) => ([] : List Int32)) r.toNatClampNeg)))) (argsL := [(.int r), (.int sy)]) (rest := []) (wd := 0) (Ls1 := #[.val (.ref c), .val (.int r), .val (.int sy)]) at_125 (q := 128) rfl (w151 hw) (w152 hw) (w154 hw) (w153 hw) (w155 hw) (w3 hw) (by decide) pn25 pd25 rfl rfl (ct_exa Cg134) (fun m_ => by simp [entryFrame, mkF, argsToLocals, Value.category]) rfl (by decide) rfl (by decide) (by decide) (by decide) (add1 l Z a0 hw n0 g134 c rc co (0 + 1) 0 0 [sa] (fun (_ : Nat) => ([] : List Int32)) (fun (_ : Nat) => ([] : List Int32)) a_NONE k_NONE vs_NONE F Cg134 r sy hr hy (Or.inl rfl) (by decide) (Q := RV (fun w h' => ∃ b : Int32, w = .int b ∧ CT Z h' n0 a_NONE c rc co (0 + 1) 0 (0 + 2) [sa] (fun (_ : Nat) => ([] : List Int32)) (upm (fun (_ : Nat) => ([] : List Int32)) r.toNatClampNeg (ins sy ((fun (_ : Nat) => ([] : List Int32)) r.toNatClampNeg))))) (fun h' b _ q => ⟨_, rfl, b, rfl, q⟩)) ?_
  rintro _ g137 ⟨bg137, rfl, Cg137⟩
  refine Go.pop at_128 (q := 129) rfl rfl ?_
  refine Go.aload at_129 (q := 131) rfl rfl rfl ?_
  refine Go.callVN (P := fun h' => CT Z h' n0 a_NONE c rc co 0 0 0 [sa] (fun (_ : Nat) => ([] : List Int32)) (upm (fun (_ : Nat) => ([] : List Int32)) r.toNatClampNeg (ins sy ((fun (_ : Nat) => ([] : List Int32)) r.toNatClampNeg)))) (argsL := []) (rest := []) (wd := 0) (Ls1 := #[.val (.ref c)]) at_131 (q := 134) rfl (w103 hw) (w104 hw) (w106 hw) (w105 hw) (w107 hw) (w3 hw) (by decide) pn17 pd17 rfl rfl (ct_exa Cg137) (fun m_ => by simp [entryFrame, mkF, argsToLocals, Value.category]) rfl (by decide) rfl (by decide) (by decide) (by decide) (forget l Z a0 hw n0 g137 c rc co (0 + 1) 0 (0 + 2) (fun (_ : Nat) => ([] : List Int32)) (upm (fun (_ : Nat) => ([] : List Int32)) r.toNatClampNeg (ins sy ((fun (_ : Nat) => ([] : List Int32)) r.toNatClampNeg))) [sa] a_NONE k_NONE vs_NONE F Cg137 (Q := RN (fun h' => CT Z h' n0 a_NONE c rc co 0 0 0 [sa] (fun (_ : Nat) => ([] : List Int32)) (upm (fun (_ : Nat) => ([] : List Int32)) r.toNatClampNeg (ins sy ((fun (_ : Nat) => ([] : List Int32)) r.toNatClampNeg))))) (fun h' q => ⟨rfl, q⟩)) ?_
  intro hf Cf
  have Ct := Cf
  obtain ⟨lab, l1, l2, l3, v1, v2, v3, z1, z2, z3, ss, sar, tp, ts, ⟨Of, lN, lA⟩, ⟨Ec, ncf, lc⟩, Fc, rcf, X1f, X2f, X3f, Sx, T0, T1⟩ := Cf
  obtain rfl : z1 = 0 := z_zero X1f.2.1
  obtain rfl : z2 = 0 := z_zero X2f.2.1
  obtain rfl : z3 = 0 := z_zero X3f.2.1
  refine Go.aload at_134 (q := 136) rfl rfl rfl ?_
  refine Go.getF at_136 (q := 139) rfl (host := "") (Or.inl (w113 hw)) Via.refl Fc.2.1 ?_
  refine Go.callVV (P := fun w h' => w = .int (0 : Int32) ∧ hf = h') (argsL := []) (rest := []) (wd := 0) (Ls1 := #[.val (.ref l1)]) at_139 (q := 142) rfl (w114 hw) (w115 hw) (w117 hw) (w116 hw) (w118 hw) (w31 hw) (by decide) pn19 pd19 rfl rfl X1f.1.1.1 (fun m_ => by simp [entryFrame, mkF, argsToLocals, Value.category]) rfl (by decide) rfl (by decide) (by decide) (by decide) (il_size l Z a0 hw n0 hf a_NONE l1 v1 0 X1f.1 (Q := RV (fun w h' => w = .int (0 : Int32) ∧ hf = h')) ⟨_, rfl, rfl, rfl⟩) ?_
  rintro _ _ ⟨rfl, rfl⟩
  refine Go.if_ne at_142 (q := 171) (q' := 145) (by decide) rfl rfl (fun c_ => absurd (by decide) c_) (fun _ => ?_)
  refine Go.aload at_145 (q := 147) rfl rfl rfl ?_
  refine Go.getF at_147 (q := 150) rfl (host := "") (Or.inl (w119 hw)) Via.refl Fc.2.2.1 ?_
  refine Go.callVV (P := fun w h' => w = .int (0 : Int32) ∧ hf = h') (argsL := []) (rest := []) (wd := 0) (Ls1 := #[.val (.ref l2)]) at_150 (q := 153) rfl (w114 hw) (w115 hw) (w117 hw) (w116 hw) (w118 hw) (w31 hw) (by decide) pn19 pd19 rfl rfl X2f.1.1.1 (fun m_ => by simp [entryFrame, mkF, argsToLocals, Value.category]) rfl (by decide) rfl (by decide) (by decide) (by decide) (il_size l Z a0 hw n0 hf a_NONE l2 v2 0 X2f.1 (Q := RV (fun w h' => w = .int (0 : Int32) ∧ hf = h')) ⟨_, rfl, rfl, rfl⟩) ?_
  rintro _ _ ⟨rfl, rfl⟩
  refine Go.if_ne at_153 (q := 171) (q' := 156) (by decide) rfl rfl (fun c_ => absurd (by decide) c_) (fun _ => ?_)
  refine Go.aload at_156 (q := 158) rfl rfl rfl ?_
  refine Go.getF at_158 (q := 161) rfl (host := "") (Or.inl (w120 hw)) Via.refl Fc.2.2.2.1 ?_
  refine Go.callVV (P := fun w h' => w = .int (0 : Int32) ∧ hf = h') (argsL := []) (rest := []) (wd := 0) (Ls1 := #[.val (.ref l3)]) at_161 (q := 164) rfl (w114 hw) (w115 hw) (w117 hw) (w116 hw) (w118 hw) (w31 hw) (by decide) pn19 pd19 rfl rfl X3f.1.1.1 (fun m_ => by simp [entryFrame, mkF, argsToLocals, Value.category]) rfl (by decide) rfl (by decide) (by decide) (by decide) (il_size l Z a0 hw n0 hf a_NONE l3 v3 0 X3f.1 (Q := RV (fun w h' => w = .int (0 : Int32) ∧ hf = h')) ⟨_, rfl, rfl, rfl⟩) ?_
  rintro _ _ ⟨rfl, rfl⟩
  refine Go.if_ne at_164 (q := 171) (q' := 167) (by decide) rfl rfl (fun c_ => absurd (by decide) c_) (fun _ => ?_)
  refine Go.iconst at_167 (q := 168) rfl (x := (1 : Int32)) (by decide) ?_
  refine Go.goto at_168 (q := 172) (by decide) rfl ?_
  refine Go.istore at_172 (q := 174) rfl (Ls' := #[.val (.int co), .val (.int ro), .val (.int fl), .val (.int a0_), .val (.int x0), .val (.int y0), .val (.int rc), .val (.int r), .val (.int (1 : Int32)), .val (.int (0 : Int32)), .val (.int (1 : Int32)), .val (.int sa), .val (.int px), .val (.int sy), .val (.ref c), .val (.int (1 : Int32)), .unset, .unset, .unset, .unset, .unset]) rfl ?_
  refine Go.aload at_174 (q := 176) rfl rfl rfl ?_
  refine Go.getF at_176 (q := 179) rfl (host := "") (Or.inl (w121 hw)) Via.refl Fc.1 ?_
  refine Go.iload at_179 (q := 181) rfl rfl ?_
  refine Go.callVV (P := fun w h' => w = .int (1 : Int32) ∧ hf = h') (argsL := [(.int sa)]) (rest := []) (wd := 0) (Ls1 := #[.val (.ref ss), .val (.int sa)]) at_181 (q := 184) rfl (w122 hw) (w123 hw) (w125 hw) (w124 hw) (w126 hw) (w12 hw) (by decide) pn20 pd20 rfl rfl Sx.1.1.1 (fun m_ => by simp [entryFrame, mkF, argsToLocals, Value.category]) rfl (by decide) rfl (by decide) (by decide) (by decide) (sx_contains l Z a0 hw n0 hf ss sar [sa] Sx.1 sa Sx.2.1 hs (Q := RV (fun w h' => w = .int (1 : Int32) ∧ hf = h')) ⟨_, rfl, by rw [if_pos (List.mem_singleton.mpr rfl)], rfl⟩) ?_
  rintro _ _ ⟨rfl, rfl⟩
  refine Go.iload at_184 (q := 186) rfl rfl ?_
  refine Go.icmp_ne at_186 (q := 214) (q' := 189) (by decide) rfl rfl (fun c_ => absurd (by decide) c_) (fun _ => ?_)
  refine Go.aload at_189 (q := 191) rfl rfl rfl ?_
  refine Go.getF at_191 (q := 194) rfl (host := "") (Or.inl (w121 hw)) Via.refl Fc.1 ?_
  refine Go.callVV (P := fun w h' => w = .int (1 : Int32) ∧ hf = h') (argsL := []) (rest := []) (wd := 0) (Ls1 := #[.val (.ref ss)]) at_194 (q := 197) rfl (w127 hw) (w128 hw) (w130 hw) (w129 hw) (w131 hw) (w12 hw) (by decide) pn21 pd21 rfl rfl Sx.1.1.1 (fun m_ => by simp [entryFrame, mkF, argsToLocals, Value.category]) rfl (by decide) rfl (by decide) (by decide) (by decide) (is_size l Z a0 hw n0 hf ss sar _ _ Sx.1 (Q := RV (fun w h' => w = .int (1 : Int32) ∧ hf = h')) ⟨_, rfl, rfl, rfl⟩) ?_
  rintro _ _ ⟨rfl, rfl⟩
  refine Go.iload at_197 (q := 199) rfl rfl ?_
  refine Go.if_eq at_199 (q := 206) (q' := 202) (by decide) rfl rfl (fun c_ => absurd c_ (by decide)) (fun _ => ?_)
  refine Go.iconst at_202 (q := 203) rfl (x := (1 : Int32)) (by decide) ?_
  refine Go.goto at_203 (q := 207) (by decide) rfl ?_
  refine Go.icmp_ne at_207 (q := 214) (q' := 210) (by decide) rfl rfl (fun c_ => absurd (by decide) c_) (fun _ => ?_)
  refine Go.iconst at_210 (q := 211) rfl (x := (1 : Int32)) (by decide) ?_
  refine Go.goto at_211 (q := 215) (by decide) rfl ?_
  refine Go.istore at_215 (q := 217) rfl (Ls' := #[.val (.int co), .val (.int ro), .val (.int fl), .val (.int a0_), .val (.int x0), .val (.int y0), .val (.int rc), .val (.int r), .val (.int (1 : Int32)), .val (.int (0 : Int32)), .val (.int (1 : Int32)), .val (.int sa), .val (.int px), .val (.int sy), .val (.ref c), .val (.int (1 : Int32)), .val (.int (1 : Int32)), .unset, .unset, .unset, .unset]) rfl ?_
  refine Go.aload at_217 (q := 219) rfl rfl rfl ?_
  refine Go.iload at_219 (q := 221) rfl rfl ?_
  refine Go.callVV (P := fun w h' => Value.null = w ∧ hf = h') (argsL := [(.int r)]) (rest := []) (wd := 0) (Ls1 := #[.val (.ref c), .val (.int r)]) at_221 (q := 224) rfl (w132 hw) (w133 hw) (w135 hw) (w134 hw) (w136 hw) (w3 hw) (by decide) pn22 pd22 rfl rfl Ec (fun m_ => by simp [entryFrame, mkF, argsToLocals, Value.category]) rfl (by decide) rfl (by decide) (by decide) (by decide) (read0 l Z a0 hw n0 hf c rc co 0 0 0 [sa] (fun (_ : Nat) => ([] : List Int32)) (upm (fun (_ : Nat) => ([] : List Int32)) r.toNatClampNeg (ins sy ((fun (_ : Nat) => ([] : List Int32)) r.toNatClampNeg))) a_NONE Ct r hr (Q := RV (fun w h' => Value.null = w ∧ hf = h')) (fun _ => ⟨_, rfl, rfl, rfl⟩) (fun e => absurd rfl e)) ?_
  rintro _ _ ⟨rfl, rfl⟩
  refine Go.astore at_224 (q := 226) rfl rfl (Ls' := #[.val (.int co), .val (.int ro), .val (.int fl), .val (.int a0_), .val (.int x0), .val (.int y0), .val (.int rc), .val (.int r), .val (.int (1 : Int32)), .val (.int (0 : Int32)), .val (.int (1 : Int32)), .val (.int sa), .val (.int px), .val (.int sy), .val (.ref c), .val (.int (1 : Int32)), .val (.int (1 : Int32)), .val .null, .unset, .unset, .unset]) rfl ?_
  refine Go.iload at_226 (q := 228) rfl rfl ?_
  refine Go.if_eq at_228 (q := 254) (q' := 231) (by decide) rfl rfl (fun _ => ?_) (fun c_ => absurd (by decide) c_)
  refine Go.aload at_254 (q := 256) rfl rfl rfl ?_
  refine Go.ifnonnull at_256 (q := 263) (q' := 259) (by decide) rfl rfl rfl (fun _ e => by cases e) (fun _ => ?_)
  refine Go.iconst at_259 (q := 260) rfl (x := (1 : Int32)) (by decide) ?_
  refine Go.goto at_260 (q := 264) (by decide) rfl ?_
  refine Go.istore at_264 (q := 266) rfl (Ls' := #[.val (.int co), .val (.int ro), .val (.int fl), .val (.int a0_), .val (.int x0), .val (.int y0), .val (.int rc), .val (.int r), .val (.int (1 : Int32)), .val (.int (0 : Int32)), .val (.int (1 : Int32)), .val (.int sa), .val (.int px), .val (.int sy), .val (.ref c), .val (.int (1 : Int32)), .val (.int (1 : Int32)), .val .null, .val (.int (1 : Int32)), .unset, .unset]) rfl ?_
  refine Go.aload at_266 (q := 268) rfl rfl rfl ?_
  refine Go.iload at_268 (q := 270) rfl rfl ?_
  have hx1 : (upm (fun (_ : Nat) => ([] : List Int32)) r.toNatClampNeg (ins sy ((fun (_ : Nat) => ([] : List Int32)) r.toNatClampNeg))) r.toNatClampNeg = [sy] := upm_same _ _ _
  refine Go.callVV (P := fun w h' => ∃ s ar, w = .ref s ∧ SX Z hf n0 s ar [sy] ∧ Good [sy] ∧ hf = h') (argsL := [(.int r)]) (rest := []) (wd := 0) (Ls1 := #[.val (.ref c), .val (.int r)]) at_270 (q := 273) rfl (w137 hw) (w138 hw) (w140 hw) (w139 hw) (w141 hw) (w3 hw) (by decide) pn23 pd23 rfl rfl Ec (fun m_ => by simp [entryFrame, mkF, argsToLocals, Value.category]) rfl (by decide) rfl (by decide) (by decide) (by decide) (read1 l Z a0 hw n0 hf c rc co 0 0 0 [sa] (fun (_ : Nat) => ([] : List Int32)) (upm (fun (_ : Nat) => ([] : List Int32)) r.toNatClampNeg (ins sy ((fun (_ : Nat) => ([] : List Int32)) r.toNatClampNeg))) a_NONE Ct r hr (Q := RV (fun w h' => ∃ s ar, w = .ref s ∧ SX Z hf n0 s ar [sy] ∧ Good [sy] ∧ hf = h')) (fun e => by rw [hx1] at e; cases e) (fun _ s ar S G => ⟨_, rfl, s, ar, rfl, by rw [← hx1]; exact S, by rw [← hx1]; exact G, rfl⟩)) ?_
  rintro _ _ ⟨s1, ar1, rfl, S1, G1, rfl⟩
  refine Go.astore at_273 (q := 275) rfl rfl (Ls' := #[.val (.int co), .val (.int ro), .val (.int fl), .val (.int a0_), .val (.int x0), .val (.int y0), .val (.int rc), .val (.int r), .val (.int (1 : Int32)), .val (.int (0 : Int32)), .val (.int (1 : Int32)), .val (.int sa), .val (.int px), .val (.int sy), .val (.ref c), .val (.int (1 : Int32)), .val (.int (1 : Int32)), .val .null, .val (.int (1 : Int32)), .val (.ref s1), .unset]) rfl ?_
  refine Go.iload at_275 (q := 277) rfl rfl ?_
  refine Go.if_eq at_277 (q := 303) (q' := 280) (by decide) rfl rfl (fun c_ => absurd c_ (by decide)) (fun _ => ?_)
  refine Go.aload at_280 (q := 282) rfl rfl rfl ?_
  refine Go.ifnull at_282 (q := 299) (q' := 285) (by decide) rfl rfl rfl (fun e => by cases e) (fun _ _ => ?_)
  refine Go.aload at_285 (q := 287) rfl rfl rfl ?_
  refine Go.iload at_287 (q := 289) rfl rfl ?_
  refine Go.callVV (P := fun w h' => w = .int (1 : Int32) ∧ hf = h') (argsL := [(.int sy)]) (rest := []) (wd := 0) (Ls1 := #[.val (.ref s1), .val (.int sy)]) at_289 (q := 292) rfl (w122 hw) (w123 hw) (w125 hw) (w124 hw) (w126 hw) (w12 hw) (by decide) pn20 pd20 rfl rfl S1.1.1 (fun m_ => by simp [entryFrame, mkF, argsToLocals, Value.category]) rfl (by decide) rfl (by decide) (by decide) (by decide) (sx_contains l Z a0 hw n0 hf s1 ar1 [sy] S1 sy G1 hy (Q := RV (fun w h' => w = .int (1 : Int32) ∧ hf = h')) ⟨_, rfl, by rw [if_pos (List.mem_singleton.mpr rfl)], rfl⟩) ?_
  rintro _ _ ⟨rfl, rfl⟩
  refine Go.if_eq at_292 (q := 299) (q' := 295) (by decide) rfl rfl (fun c_ => absurd c_ (by decide)) (fun _ => ?_)
  refine Go.iconst at_295 (q := 296) rfl (x := (1 : Int32)) (by decide) ?_
  refine Go.goto at_296 (q := 313) (by decide) rfl ?_
  refine Go.istore at_313 (q := 315) rfl (Ls' := #[.val (.int co), .val (.int ro), .val (.int fl), .val (.int a0_), .val (.int x0), .val (.int y0), .val (.int rc), .val (.int r), .val (.int (1 : Int32)), .val (.int (0 : Int32)), .val (.int (1 : Int32)), .val (.int sa), .val (.int px), .val (.int sy), .val (.ref c), .val (.int (1 : Int32)), .val (.int (1 : Int32)), .val .null, .val (.int (1 : Int32)), .val (.ref s1), .val (.int (1 : Int32))]) rfl ?_
  refine Go.iload at_315 (q := 317) rfl rfl ?_
  refine Go.if_eq at_317 (q := 348) (q' := 320) (by decide) rfl rfl (fun c_ => absurd c_ (by decide)) (fun _ => ?_)
  refine Go.iload at_320 (q := 322) rfl rfl ?_
  refine Go.if_eq at_322 (q := 348) (q' := 325) (by decide) rfl rfl (fun c_ => absurd c_ (by decide)) (fun _ => ?_)
  refine Go.iload at_325 (q := 327) rfl rfl ?_
  refine Go.if_eq at_327 (q := 348) (q' := 330) (by decide) rfl rfl (fun c_ => absurd c_ (by decide)) (fun _ => ?_)
  refine Go.iload at_330 (q := 332) rfl rfl ?_
  refine Go.if_eq at_332 (q := 348) (q' := 335) (by decide) rfl rfl (fun c_ => absurd c_ (by decide)) (fun _ => ?_)
  refine Go.aload at_335 (q := 337) rfl rfl rfl ?_
  refine Go.getF at_337 (q := 340) rfl (host := "") (Or.inl (w144 hw)) Via.refl Fc.2.2.2.2.2.2.2 ?_
  refine Go.iloadN at_340 (q := 341) rfl rfl ?_
  refine Go.icmp_ne at_341 (q := 348) (q' := 344) (by decide) rfl rfl (fun c_ => absurd rfl c_) (fun _ => ?_)
  refine Go.iconst at_344 (q := 345) rfl (x := (1 : Int32)) (by decide) ?_
  refine Go.goto at_345 (q := 349) (by decide) rfl ?_
  refine Go.zreturn at_349 (by decide) (by decide) (by decide) ?_
  rfl
set_option maxRecDepth 65536 in
set_option maxHeartbeats 40000000 in
theorem law74_110 (l : Launch) (Z : State) (a0 : Array Value) (hw : Hw a0 Z) (n0 : Nat) (h : Heap) (O : Old Z n0 h) (co ro fl a0_ x0 y0 rc r sa px sy : Int32) (a_NONE : Addr) (k_NONE : ClassId) (vs_NONE : List Value) (F : Facts Z a_NONE k_NONE vs_NONE) (rcr : ¬ rc < 0 ∧ rc.toNatClampNeg ≤ 4) (hr : ¬ r < 0 ∧ r.toNatClampNeg < rc.toNatClampNeg) (hs : ¬ sa < 0) (hp : ¬ px < 0) (hy : ¬ sy < 0) :
    Go l Z x code maxLocals ret room_1 n0 (fun v _ => v = some (.int 1)) h 0 0 74 #[.val (.int co), .val (.int ro), .val (.int fl), .val (.int a0_), .val (.int x0), .val (.int y0), .val (.int rc), .val (.int r), .val (.int (1 : Int32)), .val (.int (1 : Int32)), .val (.int (0 : Int32)), .val (.int sa), .val (.int px), .val (.int sy), .unset, .unset, .unset, .unset, .unset, .unset, .unset] [] := by
  refine Go.new at_74 (q := 77) rfl (w1 hw) (w2 hw) (w3 hw) (by decide) (by decide) ?_
  intro h1 c e1 X1 E1 D1
  have nc : n0 ≤ c := new_le (O.1 ▸ O.2.1) e1
  refine Go.dup at_77 (q := 78) rfl rfl ?_
  refine Go.iloadN at_78 (q := 79) rfl rfl ?_
  refine Go.iload at_79 (q := 81) rfl rfl ?_
  refine Go.callIN (P := fun h' => CT Z h' n0 a_NONE c rc co 0 0 0 [] (fun (_ : Nat) => ([] : List Int32)) (fun (_ : Nat) => ([] : List Int32))) (argsL := [(.int co), (.int rc)]) (rest := [(.ref c)]) (wd := 1) (Ls1 := #[.val (.ref c), .val (.int co), .val (.int rc)]) at_81 (q := 84) rfl rfl (w4 hw) (w5 hw) (w3 hw) (w6 hw) (by decide) pn1 pd1 rfl rfl (fun m_ => by simp [entryFrame, mkF, argsToLocals, Value.category]) rfl (by decide) rfl (by decide) (by decide) (by decide) (cx_init l Z a0 hw n0 h1 (O.ext X1) c co rc nc E1 (D1 (Or.inr (w28 hw)) pTS) (D1 (Or.inr (w41 hw)) pTL) (D1 (Or.inr (w43 hw)) pTL) (D1 (Or.inr (w45 hw)) pTL) (D1 (Or.inl (w56 hw)) pTA) (D1 (Or.inl (w143 hw)) pTA) (D1 (Or.inr (w49 hw)) pTn) (D1 (Or.inr (w47 hw)) pTn) rcr a_NONE k_NONE vs_NONE F (Q := RN (fun h' => CT Z h' n0 a_NONE c rc co 0 0 0 [] (fun (_ : Nat) => ([] : List Int32)) (fun (_ : Nat) => ([] : List Int32)))) (fun h' q => ⟨rfl, q⟩)) ?_
  intro g0 C0
  refine Go.astore at_84 (q := 86) rfl rfl (Ls' := #[.val (.int co), .val (.int ro), .val (.int fl), .val (.int a0_), .val (.int x0), .val (.int y0), .val (.int rc), .val (.int r), .val (.int (1 : Int32)), .val (.int (1 : Int32)), .val (.int (0 : Int32)), .val (.int sa), .val (.int px), .val (.int sy), .val (.ref c), .unset, .unset, .unset, .unset, .unset, .unset]) rfl ?_
  refine Go.iload at_86 (q := 88) rfl rfl ?_
  refine Go.if_eq at_88 (q := 99) (q' := 91) (by decide) rfl rfl (fun c_ => absurd c_ (by decide)) (fun _ => ?_)
  refine Go.aload at_91 (q := 93) rfl rfl rfl ?_
  refine Go.iload at_93 (q := 95) rfl rfl ?_
  refine Go.callVV (P := fun w h' => ∃ b : Int32, w = .int b ∧ CT Z h' n0 a_NONE c rc co (0 + 1) 0 0 [sa] (fun (_ : Nat) => ([] : List Int32)) (fun (_ : Nat) => ([] : List Int32))) (argsL := [(.int sa)]) (rest := []) (wd := 0) (Ls1 := #[.val (.ref c), .val (.int sa)]) at_95 (q := 98) rfl (w145 hw) (w146 hw) (w148 hw) (w147 hw) (w149 hw) (w3 hw) (by decide) pn24 pd24 rfl rfl (ct_exa C0) (fun m_ => by simp [entryFrame, mkF, argsToLocals, Value.category]) rfl (by decide) rfl (by decide) (by decide) (by decide) (addSub l Z a0 hw n0 g0 c rc co 0 0 0 (fun (_ : Nat) => ([] : List Int32)) (fun (_ : Nat) => ([] : List Int32)) a_NONE k_NONE vs_NONE F C0 sa hs (by decide) (Q := RV (fun w h' => ∃ b : Int32, w = .int b ∧ CT Z h' n0 a_NONE c rc co (0 + 1) 0 0 [sa] (fun (_ : Nat) => ([] : List Int32)) (fun (_ : Nat) => ([] : List Int32)))) (fun h' b _ q => ⟨_, rfl, b, rfl, q⟩)) ?_
  rintro _ g155 ⟨bg155, rfl, Cg155⟩
  refine Go.pop at_98 (q := 99) rfl rfl ?_
  refine Go.iload at_99 (q := 101) rfl rfl ?_
  refine Go.if_eq at_101 (q := 114) (q' := 104) (by decide) rfl rfl (fun c_ => absurd c_ (by decide)) (fun _ => ?_)
  refine Go.aload at_104 (q := 106) rfl rfl rfl ?_
  refine Go.iload at_106 (q := 108) rfl rfl ?_
  refine Go.iload at_108 (q := 110) rfl rfl ?_
  refine Go.callVV (P := fun w h' => ∃ b : Int32, w = .int b ∧ CT Z h' n0 a_NONE c rc co (0 + 1) (0 + 2) 0 [sa] (upm (fun (_ : Nat) => ([] : List Int32)) r.toNatClampNeg (ins px ((fun (_ : Nat) => ([] : List Int32)) r.toNatClampNeg))) (fun (_ : Nat) => ([] : List Int32))) (argsL := [(.int r), (.int px)]) (rest := []) (wd := 0) (Ls1 := #[.val (.ref c), .val (.int r), .val (.int px)]) at_110 (q := 113) rfl (w50 hw) (w51 hw) (w53 hw) (w52 hw) (w54 hw) (w3 hw) (by decide) pn7 pd7 rfl rfl (ct_exa Cg155) (fun m_ => by simp [entryFrame, mkF, argsToLocals, Value.category]) rfl (by decide) rfl (by decide) (by decide) (by decide) (add0 l Z a0 hw n0 g155 c rc co (0 + 1) 0 0 [sa] (fun (_ : Nat) => ([] : List Int32)) (fun (_ : Nat) => ([] : List Int32)) a_NONE k_NONE vs_NONE F Cg155 r px hr hp (Or.inl rfl) (by decide) (Q := RV (fun w h' => ∃ b : Int32, w = .int b ∧ CT Z h' n0 a_NONE c rc co (0 + 1) (0 + 2) 0 [sa] (upm (fun (_ : Nat) => ([] : List Int32)) r.toNatClampNeg (ins px ((fun (_ : Nat) => ([] : List Int32)) r.toNatClampNeg))) (fun (_ : Nat) => ([] : List Int32)))) (fun h' b _ q => ⟨_, rfl, b, rfl, q⟩)) ?_
  rintro _ g157 ⟨bg157, rfl, Cg157⟩
  refine Go.pop at_113 (q := 114) rfl rfl ?_
  refine Go.iload at_114 (q := 116) rfl rfl ?_
  refine Go.if_eq at_116 (q := 129) (q' := 119) (by decide) rfl rfl (fun _ => ?_) (fun c_ => absurd (by decide) c_)
  refine Go.aload at_129 (q := 131) rfl rfl rfl ?_
  refine Go.callVN (P := fun h' => CT Z h' n0 a_NONE c rc co 0 0 0 [sa] (upm (fun (_ : Nat) => ([] : List Int32)) r.toNatClampNeg (ins px ((fun (_ : Nat) => ([] : List Int32)) r.toNatClampNeg))) (fun (_ : Nat) => ([] : List Int32))) (argsL := []) (rest := []) (wd := 0) (Ls1 := #[.val (.ref c)]) at_131 (q := 134) rfl (w103 hw) (w104 hw) (w106 hw) (w105 hw) (w107 hw) (w3 hw) (by decide) pn17 pd17 rfl rfl (ct_exa Cg157) (fun m_ => by simp [entryFrame, mkF, argsToLocals, Value.category]) rfl (by decide) rfl (by decide) (by decide) (by decide) (forget l Z a0 hw n0 g157 c rc co (0 + 1) (0 + 2) 0 (upm (fun (_ : Nat) => ([] : List Int32)) r.toNatClampNeg (ins px ((fun (_ : Nat) => ([] : List Int32)) r.toNatClampNeg))) (fun (_ : Nat) => ([] : List Int32)) [sa] a_NONE k_NONE vs_NONE F Cg157 (Q := RN (fun h' => CT Z h' n0 a_NONE c rc co 0 0 0 [sa] (upm (fun (_ : Nat) => ([] : List Int32)) r.toNatClampNeg (ins px ((fun (_ : Nat) => ([] : List Int32)) r.toNatClampNeg))) (fun (_ : Nat) => ([] : List Int32)))) (fun h' q => ⟨rfl, q⟩)) ?_
  intro hf Cf
  have Ct := Cf
  obtain ⟨lab, l1, l2, l3, v1, v2, v3, z1, z2, z3, ss, sar, tp, ts, ⟨Of, lN, lA⟩, ⟨Ec, ncf, lc⟩, Fc, rcf, X1f, X2f, X3f, Sx, T0, T1⟩ := Cf
  obtain rfl : z1 = 0 := z_zero X1f.2.1
  obtain rfl : z2 = 0 := z_zero X2f.2.1
  obtain rfl : z3 = 0 := z_zero X3f.2.1
  refine Go.aload at_134 (q := 136) rfl rfl rfl ?_
  refine Go.getF at_136 (q := 139) rfl (host := "") (Or.inl (w113 hw)) Via.refl Fc.2.1 ?_
  refine Go.callVV (P := fun w h' => w = .int (0 : Int32) ∧ hf = h') (argsL := []) (rest := []) (wd := 0) (Ls1 := #[.val (.ref l1)]) at_139 (q := 142) rfl (w114 hw) (w115 hw) (w117 hw) (w116 hw) (w118 hw) (w31 hw) (by decide) pn19 pd19 rfl rfl X1f.1.1.1 (fun m_ => by simp [entryFrame, mkF, argsToLocals, Value.category]) rfl (by decide) rfl (by decide) (by decide) (by decide) (il_size l Z a0 hw n0 hf a_NONE l1 v1 0 X1f.1 (Q := RV (fun w h' => w = .int (0 : Int32) ∧ hf = h')) ⟨_, rfl, rfl, rfl⟩) ?_
  rintro _ _ ⟨rfl, rfl⟩
  refine Go.if_ne at_142 (q := 171) (q' := 145) (by decide) rfl rfl (fun c_ => absurd (by decide) c_) (fun _ => ?_)
  refine Go.aload at_145 (q := 147) rfl rfl rfl ?_
  refine Go.getF at_147 (q := 150) rfl (host := "") (Or.inl (w119 hw)) Via.refl Fc.2.2.1 ?_
  refine Go.callVV (P := fun w h' => w = .int (0 : Int32) ∧ hf = h') (argsL := []) (rest := []) (wd := 0) (Ls1 := #[.val (.ref l2)]) at_150 (q := 153) rfl (w114 hw) (w115 hw) (w117 hw) (w116 hw) (w118 hw) (w31 hw) (by decide) pn19 pd19 rfl rfl X2f.1.1.1 (fun m_ => by simp [entryFrame, mkF, argsToLocals, Value.category]) rfl (by decide) rfl (by decide) (by decide) (by decide) (il_size l Z a0 hw n0 hf a_NONE l2 v2 0 X2f.1 (Q := RV (fun w h' => w = .int (0 : Int32) ∧ hf = h')) ⟨_, rfl, rfl, rfl⟩) ?_
  rintro _ _ ⟨rfl, rfl⟩
  refine Go.if_ne at_153 (q := 171) (q' := 156) (by decide) rfl rfl (fun c_ => absurd (by decide) c_) (fun _ => ?_)
  refine Go.aload at_156 (q := 158) rfl rfl rfl ?_
  refine Go.getF at_158 (q := 161) rfl (host := "") (Or.inl (w120 hw)) Via.refl Fc.2.2.2.1 ?_
  refine Go.callVV (P := fun w h' => w = .int (0 : Int32) ∧ hf = h') (argsL := []) (rest := []) (wd := 0) (Ls1 := #[.val (.ref l3)]) at_161 (q := 164) rfl (w114 hw) (w115 hw) (w117 hw) (w116 hw) (w118 hw) (w31 hw) (by decide) pn19 pd19 rfl rfl X3f.1.1.1 (fun m_ => by simp [entryFrame, mkF, argsToLocals, Value.category]) rfl (by decide) rfl (by decide) (by decide) (by decide) (il_size l Z a0 hw n0 hf a_NONE l3 v3 0 X3f.1 (Q := RV (fun w h' => w = .int (0 : Int32) ∧ hf = h')) ⟨_, rfl, rfl, rfl⟩) ?_
  rintro _ _ ⟨rfl, rfl⟩
  refine Go.if_ne at_164 (q := 171) (q' := 167) (by decide) rfl rfl (fun c_ => absurd (by decide) c_) (fun _ => ?_)
  refine Go.iconst at_167 (q := 168) rfl (x := (1 : Int32)) (by decide) ?_
  refine Go.goto at_168 (q := 172) (by decide) rfl ?_
  refine Go.istore at_172 (q := 174) rfl (Ls' := #[.val (.int co), .val (.int ro), .val (.int fl), .val (.int a0_), .val (.int x0), .val (.int y0), .val (.int rc), .val (.int r), .val (.int (1 : Int32)), .val (.int (1 : Int32)), .val (.int (0 : Int32)), .val (.int sa), .val (.int px), .val (.int sy), .val (.ref c), .val (.int (1 : Int32)), .unset, .unset, .unset, .unset, .unset]) rfl ?_
  refine Go.aload at_174 (q := 176) rfl rfl rfl ?_
  refine Go.getF at_176 (q := 179) rfl (host := "") (Or.inl (w121 hw)) Via.refl Fc.1 ?_
  refine Go.iload at_179 (q := 181) rfl rfl ?_
  refine Go.callVV (P := fun w h' => w = .int (1 : Int32) ∧ hf = h') (argsL := [(.int sa)]) (rest := []) (wd := 0) (Ls1 := #[.val (.ref ss), .val (.int sa)]) at_181 (q := 184) rfl (w122 hw) (w123 hw) (w125 hw) (w124 hw) (w126 hw) (w12 hw) (by decide) pn20 pd20 rfl rfl Sx.1.1.1 (fun m_ => by simp [entryFrame, mkF, argsToLocals, Value.category]) rfl (by decide) rfl (by decide) (by decide) (by decide) (sx_contains l Z a0 hw n0 hf ss sar [sa] Sx.1 sa Sx.2.1 hs (Q := RV (fun w h' => w = .int (1 : Int32) ∧ hf = h')) ⟨_, rfl, by rw [if_pos (List.mem_singleton.mpr rfl)], rfl⟩) ?_
  rintro _ _ ⟨rfl, rfl⟩
  refine Go.iload at_184 (q := 186) rfl rfl ?_
  refine Go.icmp_ne at_186 (q := 214) (q' := 189) (by decide) rfl rfl (fun c_ => absurd (by decide) c_) (fun _ => ?_)
  refine Go.aload at_189 (q := 191) rfl rfl rfl ?_
  refine Go.getF at_191 (q := 194) rfl (host := "") (Or.inl (w121 hw)) Via.refl Fc.1 ?_
  refine Go.callVV (P := fun w h' => w = .int (1 : Int32) ∧ hf = h') (argsL := []) (rest := []) (wd := 0) (Ls1 := #[.val (.ref ss)]) at_194 (q := 197) rfl (w127 hw) (w128 hw) (w130 hw) (w129 hw) (w131 hw) (w12 hw) (by decide) pn21 pd21 rfl rfl Sx.1.1.1 (fun m_ => by simp [entryFrame, mkF, argsToLocals, Value.category]) rfl (by decide) rfl (by decide) (by decide) (by decide) (is_size l Z a0 hw n0 hf ss sar _ _ Sx.1 (Q := RV (fun w h' => w = .int (1 : Int32) ∧ hf = h')) ⟨_, rfl, rfl, rfl⟩) ?_
  rintro _ _ ⟨rfl, rfl⟩
  refine Go.iload at_197 (q := 199) rfl rfl ?_
  refine Go.if_eq at_199 (q := 206) (q' := 202) (by decide) rfl rfl (fun c_ => absurd c_ (by decide)) (fun _ => ?_)
  refine Go.iconst at_202 (q := 203) rfl (x := (1 : Int32)) (by decide) ?_
  refine Go.goto at_203 (q := 207) (by decide) rfl ?_
  refine Go.icmp_ne at_207 (q := 214) (q' := 210) (by decide) rfl rfl (fun c_ => absurd (by decide) c_) (fun _ => ?_)
  refine Go.iconst at_210 (q := 211) rfl (x := (1 : Int32)) (by decide) ?_
  refine Go.goto at_211 (q := 215) (by decide) rfl ?_
  refine Go.istore at_215 (q := 217) rfl (Ls' := #[.val (.int co), .val (.int ro), .val (.int fl), .val (.int a0_), .val (.int x0), .val (.int y0), .val (.int rc), .val (.int r), .val (.int (1 : Int32)), .val (.int (1 : Int32)), .val (.int (0 : Int32)), .val (.int sa), .val (.int px), .val (.int sy), .val (.ref c), .val (.int (1 : Int32)), .val (.int (1 : Int32)), .unset, .unset, .unset, .unset]) rfl ?_
  refine Go.aload at_217 (q := 219) rfl rfl rfl ?_
  refine Go.iload at_219 (q := 221) rfl rfl ?_
  have hx0 : (upm (fun (_ : Nat) => ([] : List Int32)) r.toNatClampNeg (ins px ((fun (_ : Nat) => ([] : List Int32)) r.toNatClampNeg))) r.toNatClampNeg = [px] := upm_same _ _ _
  refine Go.callVV (P := fun w h' => ∃ s ar, w = .ref s ∧ SX Z hf n0 s ar [px] ∧ Good [px] ∧ hf = h') (argsL := [(.int r)]) (rest := []) (wd := 0) (Ls1 := #[.val (.ref c), .val (.int r)]) at_221 (q := 224) rfl (w132 hw) (w133 hw) (w135 hw) (w134 hw) (w136 hw) (w3 hw) (by decide) pn22 pd22 rfl rfl Ec (fun m_ => by simp [entryFrame, mkF, argsToLocals, Value.category]) rfl (by decide) rfl (by decide) (by decide) (by decide) (read0 l Z a0 hw n0 hf c rc co 0 0 0 [sa] (upm (fun (_ : Nat) => ([] : List Int32)) r.toNatClampNeg (ins px ((fun (_ : Nat) => ([] : List Int32)) r.toNatClampNeg))) (fun (_ : Nat) => ([] : List Int32)) a_NONE Ct r hr (Q := RV (fun w h' => ∃ s ar, w = .ref s ∧ SX Z hf n0 s ar [px] ∧ Good [px] ∧ hf = h')) (fun e => by rw [hx0] at e; cases e) (fun _ s ar S G => ⟨_, rfl, s, ar, rfl, by rw [← hx0]; exact S, by rw [← hx0]; exact G, rfl⟩)) ?_
  rintro _ _ ⟨s0, ar0, rfl, S0, G0, rfl⟩
  refine Go.astore at_224 (q := 226) rfl rfl (Ls' := #[.val (.int co), .val (.int ro), .val (.int fl), .val (.int a0_), .val (.int x0), .val (.int y0), .val (.int rc), .val (.int r), .val (.int (1 : Int32)), .val (.int (1 : Int32)), .val (.int (0 : Int32)), .val (.int sa), .val (.int px), .val (.int sy), .val (.ref c), .val (.int (1 : Int32)), .val (.int (1 : Int32)), .val (.ref s0), .unset, .unset, .unset]) rfl ?_
  refine Go.iload at_226 (q := 228) rfl rfl ?_
  refine Go.if_eq at_228 (q := 254) (q' := 231) (by decide) rfl rfl (fun c_ => absurd c_ (by decide)) (fun _ => ?_)
  refine Go.aload at_231 (q := 233) rfl rfl rfl ?_
  refine Go.ifnull at_233 (q := 250) (q' := 236) (by decide) rfl rfl rfl (fun e => by cases e) (fun _ _ => ?_)
  refine Go.aload at_236 (q := 238) rfl rfl rfl ?_
  refine Go.iload at_238 (q := 240) rfl rfl ?_
  refine Go.callVV (P := fun w h' => w = .int (1 : Int32) ∧ hf = h') (argsL := [(.int px)]) (rest := []) (wd := 0) (Ls1 := #[.val (.ref s0), .val (.int px)]) at_240 (q := 243) rfl (w122 hw) (w123 hw) (w125 hw) (w124 hw) (w126 hw) (w12 hw) (by decide) pn20 pd20 rfl rfl S0.1.1 (fun m_ => by simp [entryFrame, mkF, argsToLocals, Value.category]) rfl (by decide) rfl (by decide) (by decide) (by decide) (sx_contains l Z a0 hw n0 hf s0 ar0 [px] S0 px G0 hp (Q := RV (fun w h' => w = .int (1 : Int32) ∧ hf = h')) ⟨_, rfl, by rw [if_pos (List.mem_singleton.mpr rfl)], rfl⟩) ?_
  rintro _ _ ⟨rfl, rfl⟩
  refine Go.if_eq at_243 (q := 250) (q' := 246) (by decide) rfl rfl (fun c_ => absurd c_ (by decide)) (fun _ => ?_)
  refine Go.iconst at_246 (q := 247) rfl (x := (1 : Int32)) (by decide) ?_
  refine Go.goto at_247 (q := 264) (by decide) rfl ?_
  refine Go.istore at_264 (q := 266) rfl (Ls' := #[.val (.int co), .val (.int ro), .val (.int fl), .val (.int a0_), .val (.int x0), .val (.int y0), .val (.int rc), .val (.int r), .val (.int (1 : Int32)), .val (.int (1 : Int32)), .val (.int (0 : Int32)), .val (.int sa), .val (.int px), .val (.int sy), .val (.ref c), .val (.int (1 : Int32)), .val (.int (1 : Int32)), .val (.ref s0), .val (.int (1 : Int32)), .unset, .unset]) rfl ?_
  refine Go.aload at_266 (q := 268) rfl rfl rfl ?_
  refine Go.iload at_268 (q := 270) rfl rfl ?_
  refine Go.callVV (P := fun w h' => Value.null = w ∧ hf = h') (argsL := [(.int r)]) (rest := []) (wd := 0) (Ls1 := #[.val (.ref c), .val (.int r)]) at_270 (q := 273) rfl (w137 hw) (w138 hw) (w140 hw) (w139 hw) (w141 hw) (w3 hw) (by decide) pn23 pd23 rfl rfl Ec (fun m_ => by simp [entryFrame, mkF, argsToLocals, Value.category]) rfl (by decide) rfl (by decide) (by decide) (by decide) (read1 l Z a0 hw n0 hf c rc co 0 0 0 [sa] (upm (fun (_ : Nat) => ([] : List Int32)) r.toNatClampNeg (ins px ((fun (_ : Nat) => ([] : List Int32)) r.toNatClampNeg))) (fun (_ : Nat) => ([] : List Int32)) a_NONE Ct r hr (Q := RV (fun w h' => Value.null = w ∧ hf = h')) (fun _ => ⟨_, rfl, rfl, rfl⟩) (fun e => absurd rfl e)) ?_
  rintro _ _ ⟨rfl, rfl⟩
  refine Go.astore at_273 (q := 275) rfl rfl (Ls' := #[.val (.int co), .val (.int ro), .val (.int fl), .val (.int a0_), .val (.int x0), .val (.int y0), .val (.int rc), .val (.int r), .val (.int (1 : Int32)), .val (.int (1 : Int32)), .val (.int (0 : Int32)), .val (.int sa), .val (.int px), .val (.int sy), .val (.ref c), .val (.int (1 : Int32)), .val (.int (1 : Int32)), .val (.ref s0), .val (.int (1 : Int32)), .val .null, .unset]) rfl ?_
  refine Go.iload at_275 (q := 277) rfl rfl ?_
  refine Go.if_eq at_277 (q := 303) (q' := 280) (by decide) rfl rfl (fun _ => ?_) (fun c_ => absurd (by decide) c_)
  refine Go.aload at_303 (q := 305) rfl rfl rfl ?_
  refine Go.ifnonnull at_305 (q := 312) (q' := 308) (by decide) rfl rfl rfl (fun _ e => by cases e) (fun _ => ?_)
  refine Go.iconst at_308 (q := 309) rfl (x := (1 : Int32)) (by decide) ?_
  refine Go.goto at_309 (q := 313) (by decide) rfl ?_
  refine Go.istore at_313 (q := 315) rfl (Ls' := #[.val (.int co), .val (.int ro), .val (.int fl), .val (.int a0_), .val (.int x0), .val (.int y0), .val (.int rc), .val (.int r), .val (.int (1 : Int32)), .val (.int (1 : Int32)), .val (.int (0 : Int32)), .val (.int sa), .val (.int px), .val (.int sy), .val (.ref c), .val (.int (1 : Int32)), .val (.int (1 : Int32)), .val (.ref s0), .val (.int (1 : Int32)), .val .null, .val (.int (1 : Int32))]) rfl ?_
  refine Go.iload at_315 (q := 317) rfl rfl ?_
  refine Go.if_eq at_317 (q := 348) (q' := 320) (by decide) rfl rfl (fun c_ => absurd c_ (by decide)) (fun _ => ?_)
  refine Go.iload at_320 (q := 322) rfl rfl ?_
  refine Go.if_eq at_322 (q := 348) (q' := 325) (by decide) rfl rfl (fun c_ => absurd c_ (by decide)) (fun _ => ?_)
  refine Go.iload at_325 (q := 327) rfl rfl ?_
  refine Go.if_eq at_327 (q := 348) (q' := 330) (by decide) rfl rfl (fun c_ => absurd c_ (by decide)) (fun _ => ?_)
  refine Go.iload at_330 (q := 332) rfl rfl ?_
  refine Go.if_eq at_332 (q := 348) (q' := 335) (by decide) rfl rfl (fun c_ => absurd c_ (by decide)) (fun _ => ?_)
  refine Go.aload at_335 (q := 337) rfl rfl rfl ?_
  refine Go.getF at_337 (q := 340) rfl (host := "") (Or.inl (w144 hw)) Via.refl Fc.2.2.2.2.2.2.2 ?_
  refine Go.iloadN at_340 (q := 341) rfl rfl ?_
  refine Go.icmp_ne at_341 (q := 348) (q' := 344) (by decide) rfl rfl (fun c_ => absurd rfl c_) (fun _ => ?_)
  refine Go.iconst at_344 (q := 345) rfl (x := (1 : Int32)) (by decide) ?_
  refine Go.goto at_345 (q := 349) (by decide) rfl ?_
  refine Go.zreturn at_349 (by decide) (by decide) (by decide) ?_
  rfl
set_option maxRecDepth 65536 in
set_option maxHeartbeats 40000000 in
theorem law74_111 (l : Launch) (Z : State) (a0 : Array Value) (hw : Hw a0 Z) (n0 : Nat) (h : Heap) (O : Old Z n0 h) (co ro fl a0_ x0 y0 rc r sa px sy : Int32) (a_NONE : Addr) (k_NONE : ClassId) (vs_NONE : List Value) (F : Facts Z a_NONE k_NONE vs_NONE) (rcr : ¬ rc < 0 ∧ rc.toNatClampNeg ≤ 4) (hr : ¬ r < 0 ∧ r.toNatClampNeg < rc.toNatClampNeg) (hs : ¬ sa < 0) (hp : ¬ px < 0) (hy : ¬ sy < 0) :
    Go l Z x code maxLocals ret room_1 n0 (fun v _ => v = some (.int 1)) h 0 0 74 #[.val (.int co), .val (.int ro), .val (.int fl), .val (.int a0_), .val (.int x0), .val (.int y0), .val (.int rc), .val (.int r), .val (.int (1 : Int32)), .val (.int (1 : Int32)), .val (.int (1 : Int32)), .val (.int sa), .val (.int px), .val (.int sy), .unset, .unset, .unset, .unset, .unset, .unset, .unset] [] := by
  refine Go.new at_74 (q := 77) rfl (w1 hw) (w2 hw) (w3 hw) (by decide) (by decide) ?_
  intro h1 c e1 X1 E1 D1
  have nc : n0 ≤ c := new_le (O.1 ▸ O.2.1) e1
  refine Go.dup at_77 (q := 78) rfl rfl ?_
  refine Go.iloadN at_78 (q := 79) rfl rfl ?_
  refine Go.iload at_79 (q := 81) rfl rfl ?_
  refine Go.callIN (P := fun h' => CT Z h' n0 a_NONE c rc co 0 0 0 [] (fun (_ : Nat) => ([] : List Int32)) (fun (_ : Nat) => ([] : List Int32))) (argsL := [(.int co), (.int rc)]) (rest := [(.ref c)]) (wd := 1) (Ls1 := #[.val (.ref c), .val (.int co), .val (.int rc)]) at_81 (q := 84) rfl rfl (w4 hw) (w5 hw) (w3 hw) (w6 hw) (by decide) pn1 pd1 rfl rfl (fun m_ => by simp [entryFrame, mkF, argsToLocals, Value.category]) rfl (by decide) rfl (by decide) (by decide) (by decide) (cx_init l Z a0 hw n0 h1 (O.ext X1) c co rc nc E1 (D1 (Or.inr (w28 hw)) pTS) (D1 (Or.inr (w41 hw)) pTL) (D1 (Or.inr (w43 hw)) pTL) (D1 (Or.inr (w45 hw)) pTL) (D1 (Or.inl (w56 hw)) pTA) (D1 (Or.inl (w143 hw)) pTA) (D1 (Or.inr (w49 hw)) pTn) (D1 (Or.inr (w47 hw)) pTn) rcr a_NONE k_NONE vs_NONE F (Q := RN (fun h' => CT Z h' n0 a_NONE c rc co 0 0 0 [] (fun (_ : Nat) => ([] : List Int32)) (fun (_ : Nat) => ([] : List Int32)))) (fun h' q => ⟨rfl, q⟩)) ?_
  intro g0 C0
  refine Go.astore at_84 (q := 86) rfl rfl (Ls' := #[.val (.int co), .val (.int ro), .val (.int fl), .val (.int a0_), .val (.int x0), .val (.int y0), .val (.int rc), .val (.int r), .val (.int (1 : Int32)), .val (.int (1 : Int32)), .val (.int (1 : Int32)), .val (.int sa), .val (.int px), .val (.int sy), .val (.ref c), .unset, .unset, .unset, .unset, .unset, .unset]) rfl ?_
  refine Go.iload at_86 (q := 88) rfl rfl ?_
  refine Go.if_eq at_88 (q := 99) (q' := 91) (by decide) rfl rfl (fun c_ => absurd c_ (by decide)) (fun _ => ?_)
  refine Go.aload at_91 (q := 93) rfl rfl rfl ?_
  refine Go.iload at_93 (q := 95) rfl rfl ?_
  refine Go.callVV (P := fun w h' => ∃ b : Int32, w = .int b ∧ CT Z h' n0 a_NONE c rc co (0 + 1) 0 0 [sa] (fun (_ : Nat) => ([] : List Int32)) (fun (_ : Nat) => ([] : List Int32))) (argsL := [(.int sa)]) (rest := []) (wd := 0) (Ls1 := #[.val (.ref c), .val (.int sa)]) at_95 (q := 98) rfl (w145 hw) (w146 hw) (w148 hw) (w147 hw) (w149 hw) (w3 hw) (by decide) pn24 pd24 rfl rfl (ct_exa C0) (fun m_ => by simp [entryFrame, mkF, argsToLocals, Value.category]) rfl (by decide) rfl (by decide) (by decide) (by decide) (addSub l Z a0 hw n0 g0 c rc co 0 0 0 (fun (_ : Nat) => ([] : List Int32)) (fun (_ : Nat) => ([] : List Int32)) a_NONE k_NONE vs_NONE F C0 sa hs (by decide) (Q := RV (fun w h' => ∃ b : Int32, w = .int b ∧ CT Z h' n0 a_NONE c rc co (0 + 1) 0 0 [sa] (fun (_ : Nat) => ([] : List Int32)) (fun (_ : Nat) => ([] : List Int32)))) (fun h' b _ q => ⟨_, rfl, b, rfl, q⟩)) ?_
  rintro _ g176 ⟨bg176, rfl, Cg176⟩
  refine Go.pop at_98 (q := 99) rfl rfl ?_
  refine Go.iload at_99 (q := 101) rfl rfl ?_
  refine Go.if_eq at_101 (q := 114) (q' := 104) (by decide) rfl rfl (fun c_ => absurd c_ (by decide)) (fun _ => ?_)
  refine Go.aload at_104 (q := 106) rfl rfl rfl ?_
  refine Go.iload at_106 (q := 108) rfl rfl ?_
  refine Go.iload at_108 (q := 110) rfl rfl ?_
  refine Go.callVV (P := fun w h' => ∃ b : Int32, w = .int b ∧ CT Z h' n0 a_NONE c rc co (0 + 1) (0 + 2) 0 [sa] (upm (fun (_ : Nat) => ([] : List Int32)) r.toNatClampNeg (ins px ((fun (_ : Nat) => ([] : List Int32)) r.toNatClampNeg))) (fun (_ : Nat) => ([] : List Int32))) (argsL := [(.int r), (.int px)]) (rest := []) (wd := 0) (Ls1 := #[.val (.ref c), .val (.int r), .val (.int px)]) at_110 (q := 113) rfl (w50 hw) (w51 hw) (w53 hw) (w52 hw) (w54 hw) (w3 hw) (by decide) pn7 pd7 rfl rfl (ct_exa Cg176) (fun m_ => by simp [entryFrame, mkF, argsToLocals, Value.category]) rfl (by decide) rfl (by decide) (by decide) (by decide) (add0 l Z a0 hw n0 g176 c rc co (0 + 1) 0 0 [sa] (fun (_ : Nat) => ([] : List Int32)) (fun (_ : Nat) => ([] : List Int32)) a_NONE k_NONE vs_NONE F Cg176 r px hr hp (Or.inl rfl) (by decide) (Q := RV (fun w h' => ∃ b : Int32, w = .int b ∧ CT Z h' n0 a_NONE c rc co (0 + 1) (0 + 2) 0 [sa] (upm (fun (_ : Nat) => ([] : List Int32)) r.toNatClampNeg (ins px ((fun (_ : Nat) => ([] : List Int32)) r.toNatClampNeg))) (fun (_ : Nat) => ([] : List Int32)))) (fun h' b _ q => ⟨_, rfl, b, rfl, q⟩)) ?_
  rintro _ g178 ⟨bg178, rfl, Cg178⟩
  refine Go.pop at_113 (q := 114) rfl rfl ?_
  refine Go.iload at_114 (q := 116) rfl rfl ?_
  refine Go.if_eq at_116 (q := 129) (q' := 119) (by decide) rfl rfl (fun c_ => absurd c_ (by decide)) (fun _ => ?_)
  refine Go.aload at_119 (q := 121) rfl rfl rfl ?_
  refine Go.iload at_121 (q := 123) rfl rfl ?_
  refine Go.iload at_123 (q := 125) rfl rfl ?_
  refine Go.callVV (P := fun w h' => ∃ b : Int32, w = .int b ∧ CT Z h' n0 a_NONE c rc co (0 + 1) (0 + 2) (0 + 2) [sa] (upm (fun (_ : Nat) => ([] : List Int32)) r.toNatClampNeg (ins px ((fun (_ : Nat) => ([] : List Int32)) r.toNatClampNeg))) (upm (fun (_ : Nat) => ([] : List Int32)) r.toNatClampNeg (ins sy ((fun (_ : Nat) => ([] : List Int32)) r.toNatClampNeg)))) (argsL := [(.int r), (.int sy)]) (rest := []) (wd := 0) (Ls1 := #[.val (.ref c), .val (.int r), .val (.int sy)]) at_125 (q := 128) rfl (w151 hw) (w152 hw) (w154 hw) (w153 hw) (w155 hw) (w3 hw) (by decide) pn25 pd25 rfl rfl (ct_exa Cg178) (fun m_ => by simp [entryFrame, mkF, argsToLocals, Value.category]) rfl (by decide) rfl (by decide) (by decide) (by decide) (add1 l Z a0 hw n0 g178 c rc co (0 + 1) (0 + 2) 0 [sa] (upm (fun (_ : Nat) => ([] : List Int32)) r.toNatClampNeg (ins px ((fun (_ : Nat) => ([] : List Int32)) r.toNatClampNeg))) (fun (_ : Nat) => ([] : List Int32)) a_NONE k_NONE vs_NONE F Cg178 r sy hr hy (Or.inl rfl) (by decide) (Q := RV (fun w h' => ∃ b : Int32, w = .int b ∧ CT Z h' n0 a_NONE c rc co (0 + 1) (0 + 2) (0 + 2) [sa] (upm (fun (_ : Nat) => ([] : List Int32)) r.toNatClampNeg (ins px ((fun (_ : Nat) => ([] : List Int32)) r.toNatClampNeg))) (upm (fun (_ : Nat) => ([] : List Int32)) r.toNatClampNeg (ins sy ((fun (_ : Nat) => ([] : List Int32)) r.toNatClampNeg))))) (fun h' b _ q => ⟨_, rfl, b, rfl, q⟩)) ?_
  rintro _ g180 ⟨bg180, rfl, Cg180⟩
  refine Go.pop at_128 (q := 129) rfl rfl ?_
  refine Go.aload at_129 (q := 131) rfl rfl rfl ?_
  refine Go.callVN (P := fun h' => CT Z h' n0 a_NONE c rc co 0 0 0 [sa] (upm (fun (_ : Nat) => ([] : List Int32)) r.toNatClampNeg (ins px ((fun (_ : Nat) => ([] : List Int32)) r.toNatClampNeg))) (upm (fun (_ : Nat) => ([] : List Int32)) r.toNatClampNeg (ins sy ((fun (_ : Nat) => ([] : List Int32)) r.toNatClampNeg)))) (argsL := []) (rest := []) (wd := 0) (Ls1 := #[.val (.ref c)]) at_131 (q := 134) rfl (w103 hw) (w104 hw) (w106 hw) (w105 hw) (w107 hw) (w3 hw) (by decide) pn17 pd17 rfl rfl (ct_exa Cg180) (fun m_ => by simp [entryFrame, mkF, argsToLocals, Value.category]) rfl (by decide) rfl (by decide) (by decide) (by decide) (forget l Z a0 hw n0 g180 c rc co (0 + 1) (0 + 2) (0 + 2) (upm (fun (_ : Nat) => ([] : List Int32)) r.toNatClampNeg (ins px ((fun (_ : Nat) => ([] : List Int32)) r.toNatClampNeg))) (upm (fun (_ : Nat) => ([] : List Int32)) r.toNatClampNeg (ins sy ((fun (_ : Nat) => ([] : List Int32)) r.toNatClampNeg))) [sa] a_NONE k_NONE vs_NONE F Cg180 (Q := RN (fun h' => CT Z h' n0 a_NONE c rc co 0 0 0 [sa] (upm (fun (_ : Nat) => ([] : List Int32)) r.toNatClampNeg (ins px ((fun (_ : Nat) => ([] : List Int32)) r.toNatClampNeg))) (upm (fun (_ : Nat) => ([] : List Int32)) r.toNatClampNeg (ins sy ((fun (_ : Nat) => ([] : List Int32)) r.toNatClampNeg))))) (fun h' q => ⟨rfl, q⟩)) ?_
  intro hf Cf
  have Ct := Cf
  obtain ⟨lab, l1, l2, l3, v1, v2, v3, z1, z2, z3, ss, sar, tp, ts, ⟨Of, lN, lA⟩, ⟨Ec, ncf, lc⟩, Fc, rcf, X1f, X2f, X3f, Sx, T0, T1⟩ := Cf
  obtain rfl : z1 = 0 := z_zero X1f.2.1
  obtain rfl : z2 = 0 := z_zero X2f.2.1
  obtain rfl : z3 = 0 := z_zero X3f.2.1
  refine Go.aload at_134 (q := 136) rfl rfl rfl ?_
  refine Go.getF at_136 (q := 139) rfl (host := "") (Or.inl (w113 hw)) Via.refl Fc.2.1 ?_
  refine Go.callVV (P := fun w h' => w = .int (0 : Int32) ∧ hf = h') (argsL := []) (rest := []) (wd := 0) (Ls1 := #[.val (.ref l1)]) at_139 (q := 142) rfl (w114 hw) (w115 hw) (w117 hw) (w116 hw) (w118 hw) (w31 hw) (by decide) pn19 pd19 rfl rfl X1f.1.1.1 (fun m_ => by simp [entryFrame, mkF, argsToLocals, Value.category]) rfl (by decide) rfl (by decide) (by decide) (by decide) (il_size l Z a0 hw n0 hf a_NONE l1 v1 0 X1f.1 (Q := RV (fun w h' => w = .int (0 : Int32) ∧ hf = h')) ⟨_, rfl, rfl, rfl⟩) ?_
  rintro _ _ ⟨rfl, rfl⟩
  refine Go.if_ne at_142 (q := 171) (q' := 145) (by decide) rfl rfl (fun c_ => absurd (by decide) c_) (fun _ => ?_)
  refine Go.aload at_145 (q := 147) rfl rfl rfl ?_
  refine Go.getF at_147 (q := 150) rfl (host := "") (Or.inl (w119 hw)) Via.refl Fc.2.2.1 ?_
  refine Go.callVV (P := fun w h' => w = .int (0 : Int32) ∧ hf = h') (argsL := []) (rest := []) (wd := 0) (Ls1 := #[.val (.ref l2)]) at_150 (q := 153) rfl (w114 hw) (w115 hw) (w117 hw) (w116 hw) (w118 hw) (w31 hw) (by decide) pn19 pd19 rfl rfl X2f.1.1.1 (fun m_ => by simp [entryFrame, mkF, argsToLocals, Value.category]) rfl (by decide) rfl (by decide) (by decide) (by decide) (il_size l Z a0 hw n0 hf a_NONE l2 v2 0 X2f.1 (Q := RV (fun w h' => w = .int (0 : Int32) ∧ hf = h')) ⟨_, rfl, rfl, rfl⟩) ?_
  rintro _ _ ⟨rfl, rfl⟩
  refine Go.if_ne at_153 (q := 171) (q' := 156) (by decide) rfl rfl (fun c_ => absurd (by decide) c_) (fun _ => ?_)
  refine Go.aload at_156 (q := 158) rfl rfl rfl ?_
  refine Go.getF at_158 (q := 161) rfl (host := "") (Or.inl (w120 hw)) Via.refl Fc.2.2.2.1 ?_
  refine Go.callVV (P := fun w h' => w = .int (0 : Int32) ∧ hf = h') (argsL := []) (rest := []) (wd := 0) (Ls1 := #[.val (.ref l3)]) at_161 (q := 164) rfl (w114 hw) (w115 hw) (w117 hw) (w116 hw) (w118 hw) (w31 hw) (by decide) pn19 pd19 rfl rfl X3f.1.1.1 (fun m_ => by simp [entryFrame, mkF, argsToLocals, Value.category]) rfl (by decide) rfl (by decide) (by decide) (by decide) (il_size l Z a0 hw n0 hf a_NONE l3 v3 0 X3f.1 (Q := RV (fun w h' => w = .int (0 : Int32) ∧ hf = h')) ⟨_, rfl, rfl, rfl⟩) ?_
  rintro _ _ ⟨rfl, rfl⟩
  refine Go.if_ne at_164 (q := 171) (q' := 167) (by decide) rfl rfl (fun c_ => absurd (by decide) c_) (fun _ => ?_)
  refine Go.iconst at_167 (q := 168) rfl (x := (1 : Int32)) (by decide) ?_
  refine Go.goto at_168 (q := 172) (by decide) rfl ?_
  refine Go.istore at_172 (q := 174) rfl (Ls' := #[.val (.int co), .val (.int ro), .val (.int fl), .val (.int a0_), .val (.int x0), .val (.int y0), .val (.int rc), .val (.int r), .val (.int (1 : Int32)), .val (.int (1 : Int32)), .val (.int (1 : Int32)), .val (.int sa), .val (.int px), .val (.int sy), .val (.ref c), .val (.int (1 : Int32)), .unset, .unset, .unset, .unset, .unset]) rfl ?_
  refine Go.aload at_174 (q := 176) rfl rfl rfl ?_
  refine Go.getF at_176 (q := 179) rfl (host := "") (Or.inl (w121 hw)) Via.refl Fc.1 ?_
  refine Go.iload at_179 (q := 181) rfl rfl ?_
  refine Go.callVV (P := fun w h' => w = .int (1 : Int32) ∧ hf = h') (argsL := [(.int sa)]) (rest := []) (wd := 0) (Ls1 := #[.val (.ref ss), .val (.int sa)]) at_181 (q := 184) rfl (w122 hw) (w123 hw) (w125 hw) (w124 hw) (w126 hw) (w12 hw) (by decide) pn20 pd20 rfl rfl Sx.1.1.1 (fun m_ => by simp [entryFrame, mkF, argsToLocals, Value.category]) rfl (by decide) rfl (by decide) (by decide) (by decide) (sx_contains l Z a0 hw n0 hf ss sar [sa] Sx.1 sa Sx.2.1 hs (Q := RV (fun w h' => w = .int (1 : Int32) ∧ hf = h')) ⟨_, rfl, by rw [if_pos (List.mem_singleton.mpr rfl)], rfl⟩) ?_
  rintro _ _ ⟨rfl, rfl⟩
  refine Go.iload at_184 (q := 186) rfl rfl ?_
  refine Go.icmp_ne at_186 (q := 214) (q' := 189) (by decide) rfl rfl (fun c_ => absurd (by decide) c_) (fun _ => ?_)
  refine Go.aload at_189 (q := 191) rfl rfl rfl ?_
  refine Go.getF at_191 (q := 194) rfl (host := "") (Or.inl (w121 hw)) Via.refl Fc.1 ?_
  refine Go.callVV (P := fun w h' => w = .int (1 : Int32) ∧ hf = h') (argsL := []) (rest := []) (wd := 0) (Ls1 := #[.val (.ref ss)]) at_194 (q := 197) rfl (w127 hw) (w128 hw) (w130 hw) (w129 hw) (w131 hw) (w12 hw) (by decide) pn21 pd21 rfl rfl Sx.1.1.1 (fun m_ => by simp [entryFrame, mkF, argsToLocals, Value.category]) rfl (by decide) rfl (by decide) (by decide) (by decide) (is_size l Z a0 hw n0 hf ss sar _ _ Sx.1 (Q := RV (fun w h' => w = .int (1 : Int32) ∧ hf = h')) ⟨_, rfl, rfl, rfl⟩) ?_
  rintro _ _ ⟨rfl, rfl⟩
  refine Go.iload at_197 (q := 199) rfl rfl ?_
  refine Go.if_eq at_199 (q := 206) (q' := 202) (by decide) rfl rfl (fun c_ => absurd c_ (by decide)) (fun _ => ?_)
  refine Go.iconst at_202 (q := 203) rfl (x := (1 : Int32)) (by decide) ?_
  refine Go.goto at_203 (q := 207) (by decide) rfl ?_
  refine Go.icmp_ne at_207 (q := 214) (q' := 210) (by decide) rfl rfl (fun c_ => absurd (by decide) c_) (fun _ => ?_)
  refine Go.iconst at_210 (q := 211) rfl (x := (1 : Int32)) (by decide) ?_
  refine Go.goto at_211 (q := 215) (by decide) rfl ?_
  refine Go.istore at_215 (q := 217) rfl (Ls' := #[.val (.int co), .val (.int ro), .val (.int fl), .val (.int a0_), .val (.int x0), .val (.int y0), .val (.int rc), .val (.int r), .val (.int (1 : Int32)), .val (.int (1 : Int32)), .val (.int (1 : Int32)), .val (.int sa), .val (.int px), .val (.int sy), .val (.ref c), .val (.int (1 : Int32)), .val (.int (1 : Int32)), .unset, .unset, .unset, .unset]) rfl ?_
  refine Go.aload at_217 (q := 219) rfl rfl rfl ?_
  refine Go.iload at_219 (q := 221) rfl rfl ?_
  have hx0 : (upm (fun (_ : Nat) => ([] : List Int32)) r.toNatClampNeg (ins px ((fun (_ : Nat) => ([] : List Int32)) r.toNatClampNeg))) r.toNatClampNeg = [px] := upm_same _ _ _
  refine Go.callVV (P := fun w h' => ∃ s ar, w = .ref s ∧ SX Z hf n0 s ar [px] ∧ Good [px] ∧ hf = h') (argsL := [(.int r)]) (rest := []) (wd := 0) (Ls1 := #[.val (.ref c), .val (.int r)]) at_221 (q := 224) rfl (w132 hw) (w133 hw) (w135 hw) (w134 hw) (w136 hw) (w3 hw) (by decide) pn22 pd22 rfl rfl Ec (fun m_ => by simp [entryFrame, mkF, argsToLocals, Value.category]) rfl (by decide) rfl (by decide) (by decide) (by decide) (read0 l Z a0 hw n0 hf c rc co 0 0 0 [sa] (upm (fun (_ : Nat) => ([] : List Int32)) r.toNatClampNeg (ins px ((fun (_ : Nat) => ([] : List Int32)) r.toNatClampNeg))) (upm (fun (_ : Nat) => ([] : List Int32)) r.toNatClampNeg (ins sy ((fun (_ : Nat) => ([] : List Int32)) r.toNatClampNeg))) a_NONE Ct r hr (Q := RV (fun w h' => ∃ s ar, w = .ref s ∧ SX Z hf n0 s ar [px] ∧ Good [px] ∧ hf = h')) (fun e => by rw [hx0] at e; cases e) (fun _ s ar S G => ⟨_, rfl, s, ar, rfl, by rw [← hx0]; exact S, by rw [← hx0]; exact G, rfl⟩)) ?_
  rintro _ _ ⟨s0, ar0, rfl, S0, G0, rfl⟩
  refine Go.astore at_224 (q := 226) rfl rfl (Ls' := #[.val (.int co), .val (.int ro), .val (.int fl), .val (.int a0_), .val (.int x0), .val (.int y0), .val (.int rc), .val (.int r), .val (.int (1 : Int32)), .val (.int (1 : Int32)), .val (.int (1 : Int32)), .val (.int sa), .val (.int px), .val (.int sy), .val (.ref c), .val (.int (1 : Int32)), .val (.int (1 : Int32)), .val (.ref s0), .unset, .unset, .unset]) rfl ?_
  refine Go.iload at_226 (q := 228) rfl rfl ?_
  refine Go.if_eq at_228 (q := 254) (q' := 231) (by decide) rfl rfl (fun c_ => absurd c_ (by decide)) (fun _ => ?_)
  refine Go.aload at_231 (q := 233) rfl rfl rfl ?_
  refine Go.ifnull at_233 (q := 250) (q' := 236) (by decide) rfl rfl rfl (fun e => by cases e) (fun _ _ => ?_)
  refine Go.aload at_236 (q := 238) rfl rfl rfl ?_
  refine Go.iload at_238 (q := 240) rfl rfl ?_
  refine Go.callVV (P := fun w h' => w = .int (1 : Int32) ∧ hf = h') (argsL := [(.int px)]) (rest := []) (wd := 0) (Ls1 := #[.val (.ref s0), .val (.int px)]) at_240 (q := 243) rfl (w122 hw) (w123 hw) (w125 hw) (w124 hw) (w126 hw) (w12 hw) (by decide) pn20 pd20 rfl rfl S0.1.1 (fun m_ => by simp [entryFrame, mkF, argsToLocals, Value.category]) rfl (by decide) rfl (by decide) (by decide) (by decide) (sx_contains l Z a0 hw n0 hf s0 ar0 [px] S0 px G0 hp (Q := RV (fun w h' => w = .int (1 : Int32) ∧ hf = h')) ⟨_, rfl, by rw [if_pos (List.mem_singleton.mpr rfl)], rfl⟩) ?_
  rintro _ _ ⟨rfl, rfl⟩
  refine Go.if_eq at_243 (q := 250) (q' := 246) (by decide) rfl rfl (fun c_ => absurd c_ (by decide)) (fun _ => ?_)
  refine Go.iconst at_246 (q := 247) rfl (x := (1 : Int32)) (by decide) ?_
  refine Go.goto at_247 (q := 264) (by decide) rfl ?_
  refine Go.istore at_264 (q := 266) rfl (Ls' := #[.val (.int co), .val (.int ro), .val (.int fl), .val (.int a0_), .val (.int x0), .val (.int y0), .val (.int rc), .val (.int r), .val (.int (1 : Int32)), .val (.int (1 : Int32)), .val (.int (1 : Int32)), .val (.int sa), .val (.int px), .val (.int sy), .val (.ref c), .val (.int (1 : Int32)), .val (.int (1 : Int32)), .val (.ref s0), .val (.int (1 : Int32)), .unset, .unset]) rfl ?_
  refine Go.aload at_266 (q := 268) rfl rfl rfl ?_
  refine Go.iload at_268 (q := 270) rfl rfl ?_
  have hx1 : (upm (fun (_ : Nat) => ([] : List Int32)) r.toNatClampNeg (ins sy ((fun (_ : Nat) => ([] : List Int32)) r.toNatClampNeg))) r.toNatClampNeg = [sy] := upm_same _ _ _
  refine Go.callVV (P := fun w h' => ∃ s ar, w = .ref s ∧ SX Z hf n0 s ar [sy] ∧ Good [sy] ∧ hf = h') (argsL := [(.int r)]) (rest := []) (wd := 0) (Ls1 := #[.val (.ref c), .val (.int r)]) at_270 (q := 273) rfl (w137 hw) (w138 hw) (w140 hw) (w139 hw) (w141 hw) (w3 hw) (by decide) pn23 pd23 rfl rfl Ec (fun m_ => by simp [entryFrame, mkF, argsToLocals, Value.category]) rfl (by decide) rfl (by decide) (by decide) (by decide) (read1 l Z a0 hw n0 hf c rc co 0 0 0 [sa] (upm (fun (_ : Nat) => ([] : List Int32)) r.toNatClampNeg (ins px ((fun (_ : Nat) => ([] : List Int32)) r.toNatClampNeg))) (upm (fun (_ : Nat) => ([] : List Int32)) r.toNatClampNeg (ins sy ((fun (_ : Nat) => ([] : List Int32)) r.toNatClampNeg))) a_NONE Ct r hr (Q := RV (fun w h' => ∃ s ar, w = .ref s ∧ SX Z hf n0 s ar [sy] ∧ Good [sy] ∧ hf = h')) (fun e => by rw [hx1] at e; cases e) (fun _ s ar S G => ⟨_, rfl, s, ar, rfl, by rw [← hx1]; exact S, by rw [← hx1]; exact G, rfl⟩)) ?_
  rintro _ _ ⟨s1, ar1, rfl, S1, G1, rfl⟩
  refine Go.astore at_273 (q := 275) rfl rfl (Ls' := #[.val (.int co), .val (.int ro), .val (.int fl), .val (.int a0_), .val (.int x0), .val (.int y0), .val (.int rc), .val (.int r), .val (.int (1 : Int32)), .val (.int (1 : Int32)), .val (.int (1 : Int32)), .val (.int sa), .val (.int px), .val (.int sy), .val (.ref c), .val (.int (1 : Int32)), .val (.int (1 : Int32)), .val (.ref s0), .val (.int (1 : Int32)), .val (.ref s1), .unset]) rfl ?_
  refine Go.iload at_275 (q := 277) rfl rfl ?_
  refine Go.if_eq at_277 (q := 303) (q' := 280) (by decide) rfl rfl (fun c_ => absurd c_ (by decide)) (fun _ => ?_)
  refine Go.aload at_280 (q := 282) rfl rfl rfl ?_
  refine Go.ifnull at_282 (q := 299) (q' := 285) (by decide) rfl rfl rfl (fun e => by cases e) (fun _ _ => ?_)
  refine Go.aload at_285 (q := 287) rfl rfl rfl ?_
  refine Go.iload at_287 (q := 289) rfl rfl ?_
  refine Go.callVV (P := fun w h' => w = .int (1 : Int32) ∧ hf = h') (argsL := [(.int sy)]) (rest := []) (wd := 0) (Ls1 := #[.val (.ref s1), .val (.int sy)]) at_289 (q := 292) rfl (w122 hw) (w123 hw) (w125 hw) (w124 hw) (w126 hw) (w12 hw) (by decide) pn20 pd20 rfl rfl S1.1.1 (fun m_ => by simp [entryFrame, mkF, argsToLocals, Value.category]) rfl (by decide) rfl (by decide) (by decide) (by decide) (sx_contains l Z a0 hw n0 hf s1 ar1 [sy] S1 sy G1 hy (Q := RV (fun w h' => w = .int (1 : Int32) ∧ hf = h')) ⟨_, rfl, by rw [if_pos (List.mem_singleton.mpr rfl)], rfl⟩) ?_
  rintro _ _ ⟨rfl, rfl⟩
  refine Go.if_eq at_292 (q := 299) (q' := 295) (by decide) rfl rfl (fun c_ => absurd c_ (by decide)) (fun _ => ?_)
  refine Go.iconst at_295 (q := 296) rfl (x := (1 : Int32)) (by decide) ?_
  refine Go.goto at_296 (q := 313) (by decide) rfl ?_
  refine Go.istore at_313 (q := 315) rfl (Ls' := #[.val (.int co), .val (.int ro), .val (.int fl), .val (.int a0_), .val (.int x0), .val (.int y0), .val (.int rc), .val (.int r), .val (.int (1 : Int32)), .val (.int (1 : Int32)), .val (.int (1 : Int32)), .val (.int sa), .val (.int px), .val (.int sy), .val (.ref c), .val (.int (1 : Int32)), .val (.int (1 : Int32)), .val (.ref s0), .val (.int (1 : Int32)), .val (.ref s1), .val (.int (1 : Int32))]) rfl ?_
  refine Go.iload at_315 (q := 317) rfl rfl ?_
  refine Go.if_eq at_317 (q := 348) (q' := 320) (by decide) rfl rfl (fun c_ => absurd c_ (by decide)) (fun _ => ?_)
  refine Go.iload at_320 (q := 322) rfl rfl ?_
  refine Go.if_eq at_322 (q := 348) (q' := 325) (by decide) rfl rfl (fun c_ => absurd c_ (by decide)) (fun _ => ?_)
  refine Go.iload at_325 (q := 327) rfl rfl ?_
  refine Go.if_eq at_327 (q := 348) (q' := 330) (by decide) rfl rfl (fun c_ => absurd c_ (by decide)) (fun _ => ?_)
  refine Go.iload at_330 (q := 332) rfl rfl ?_
  refine Go.if_eq at_332 (q := 348) (q' := 335) (by decide) rfl rfl (fun c_ => absurd c_ (by decide)) (fun _ => ?_)
  refine Go.aload at_335 (q := 337) rfl rfl rfl ?_
  refine Go.getF at_337 (q := 340) rfl (host := "") (Or.inl (w144 hw)) Via.refl Fc.2.2.2.2.2.2.2 ?_
  refine Go.iloadN at_340 (q := 341) rfl rfl ?_
  refine Go.icmp_ne at_341 (q := 348) (q' := 344) (by decide) rfl rfl (fun c_ => absurd rfl c_) (fun _ => ?_)
  refine Go.iconst at_344 (q := 345) rfl (x := (1 : Int32)) (by decide) ?_
  refine Go.goto at_345 (q := 349) (by decide) rfl ?_
  refine Go.zreturn at_349 (by decide) (by decide) (by decide) ?_
  rfl
theorem and3_nn (v : Int32) : 0 ≤ (v &&& (3 : Int32)).toInt := by
  have e := c_mask v 3 2 (by decide) (by decide)
  omega
theorem mask_nn (v : Int32) : 0 ≤ (v &&& (2147483647 : Int32)).toInt := by
  have e := c_mask v 2147483647 31 (by decide) (by decide)
  omega
theorem rc_rng (v : Int32) : 1 ≤ ((v &&& (3 : Int32)) + (1 : Int32)).toInt ∧ ((v &&& (3 : Int32)) + (1 : Int32)).toInt ≤ 4 := by
  have e := c_mask v 3 2 (by decide) (by decide)
  have e2 := c_iadd (v &&& (3 : Int32)) 1
  have r := rng32 ((v &&& (3 : Int32)) + 1)
  have e1 : (1 : Int32).toInt = 1 := rfl
  omega
theorem rc_nz (v : Int32) : ((v &&& (3 : Int32)) + (1 : Int32)) ≠ 0 := fun q => by
  have r := (rc_rng v).1
  rw [q] at r
  exact absurd r (by decide)
theorem rc_ok (v : Int32) : ¬ ((v &&& (3 : Int32)) + (1 : Int32)) < 0 ∧ ((v &&& (3 : Int32)) + (1 : Int32)).toNatClampNeg ≤ 4 := by
  have r := rc_rng v
  refine ⟨nonneg_iff.mpr (by omega), ?_⟩
  show ((v &&& (3 : Int32)) + (1 : Int32)).toInt.toNat ≤ 4
  omega
theorem rem_rng {a rc : Int32} (ha : 0 ≤ a.toInt) (h1 : 1 ≤ rc.toInt) : ¬ (a % rc) < 0 ∧ (a % rc).toNatClampNeg < rc.toNatClampNeg := by
  obtain ⟨d, hd⟩ := Int.eq_ofNat_of_zero_le (show 0 ≤ rc.toInt by omega)
  have e := (c_irem a rc d hd).1 ha
  have p : 0 ≤ a.toInt % (d : Int) := Int.emod_nonneg _ (by omega)
  have q : a.toInt % (d : Int) < (d : Int) := Int.emod_lt_of_pos _ (by omega)
  refine ⟨nonneg_iff.mpr (by omega), ?_⟩
  show (a % rc).toInt.toNat < rc.toInt.toNat
  omega

theorem rd_rng (v : Int32) : 1 ≤ ((1 : Int32) + (v &&& (3 : Int32))).toInt ∧ ((1 : Int32) + (v &&& (3 : Int32))).toInt ≤ 4 := by
  have e := c_mask v 3 2 (by decide) (by decide)
  have e2 := c_iadd 1 (v &&& (3 : Int32))
  have r := rng32 (1 + (v &&& (3 : Int32)))
  have e1 : (1 : Int32).toInt = 1 := rfl
  omega
theorem rd_nz (v : Int32) : ((1 : Int32) + (v &&& (3 : Int32))) ≠ 0 := fun q => by
  have r := (rd_rng v).1
  rw [q] at r
  exact absurd r (by decide)
theorem rd_ok (v : Int32) : ¬ ((1 : Int32) + (v &&& (3 : Int32))) < 0 ∧ ((1 : Int32) + (v &&& (3 : Int32))).toNatClampNeg ≤ 4 := by
  have r := rd_rng v
  refine ⟨nonneg_iff.mpr (by omega), ?_⟩
  show ((1 : Int32) + (v &&& (3 : Int32))).toInt.toNat ≤ 4
  omega

theorem ushr2_nn (v : Int32) : 0 ≤ (XT.ushr v (2 : Int32)).toInt := by
  have e := c_iushr v 2 2 (by decide) (by decide)
  have e' : (XT.ushr v (2 : Int32)).toInt = (v.toInt % 4294967296) / (2 ^ 2 : Nat) := e
  have p : 0 ≤ v.toInt % 4294967296 := Int.emod_nonneg _ (by decide)
  omega
set_option maxRecDepth 65536 in
set_option maxHeartbeats 40000000 in
theorem b0 (l : Launch) (Z : State) (a0 : Array Value) (hw : Hw a0 Z) (n0 : Nat) (h : Heap) (O : Old Z n0 h) (co ro fl a0_ x0 y0 : Int32) (a_NONE : Addr) (k_NONE : ClassId) (vs_NONE : List Value) (F : Facts Z a_NONE k_NONE vs_NONE) :
    Go l Z x code maxLocals ret room_1 n0 (fun v _ => v = some (.int 1)) h 0 0 0 #[.val (.int co), .val (.int ro), .val (.int fl), .val (.int a0_), .val (.int x0), .val (.int y0), .unset, .unset, .unset, .unset, .unset, .unset, .unset, .unset, .unset, .unset, .unset, .unset, .unset, .unset, .unset] [] := by
  refine Go.iconst at_0 (q := 1) rfl (x := (1 : Int32)) (by decide) ?_
  refine Go.iloadN at_1 (q := 2) rfl rfl ?_
  refine Go.iconst at_2 (q := 3) rfl (x := (3 : Int32)) (by decide) ?_
  refine Go.iand at_3 (q := 4) rfl ?_
  refine Go.iadd at_4 (q := 5) rfl ?_
  refine Go.istore at_5 (q := 7) rfl (Ls' := #[.val (.int co), .val (.int ro), .val (.int fl), .val (.int a0_), .val (.int x0), .val (.int y0), .val (.int ((1 : Int32) + (ro &&& (3 : Int32)))), .unset, .unset, .unset, .unset, .unset, .unset, .unset, .unset, .unset, .unset, .unset, .unset, .unset, .unset]) rfl ?_
  refine Go.iloadN at_7 (q := 8) rfl rfl ?_
  refine Go.iconst at_8 (q := 9) rfl (x := (2 : Int32)) (by decide) ?_
  refine Go.iushr at_9 (q := 10) rfl ?_
  refine Go.iload at_10 (q := 12) rfl rfl ?_
  refine Go.irem at_12 (q := 13) rfl (rd_nz _) ?_
  refine Go.istore at_13 (q := 15) rfl (Ls' := #[.val (.int co), .val (.int ro), .val (.int fl), .val (.int a0_), .val (.int x0), .val (.int y0), .val (.int ((1 : Int32) + (ro &&& (3 : Int32)))), .val (.int ((XT.ushr ro (2 : Int32)) % ((1 : Int32) + (ro &&& (3 : Int32))))), .unset, .unset, .unset, .unset, .unset, .unset, .unset, .unset, .unset, .unset, .unset, .unset, .unset]) rfl ?_
  refine Go.iloadN at_15 (q := 16) rfl rfl ?_
  refine Go.iconst at_16 (q := 17) rfl (x := (1 : Int32)) (by decide) ?_
  refine Go.iand at_17 (q := 18) rfl ?_
  refine Go.if_eq at_18 (q := 25) (q' := 21) (by decide) rfl rfl (fun c198 => ?_) (fun c198 => ?_)
  · skip
    refine Go.iconst at_25 (q := 26) rfl (x := (0 : Int32)) (by decide) ?_
    refine Go.istore at_26 (q := 28) rfl (Ls' := #[.val (.int co), .val (.int ro), .val (.int fl), .val (.int a0_), .val (.int x0), .val (.int y0), .val (.int ((1 : Int32) + (ro &&& (3 : Int32)))), .val (.int ((XT.ushr ro (2 : Int32)) % ((1 : Int32) + (ro &&& (3 : Int32))))), .val (.int (0 : Int32)), .unset, .unset, .unset, .unset, .unset, .unset, .unset, .unset, .unset, .unset, .unset, .unset]) rfl ?_
    refine Go.iloadN at_28 (q := 29) rfl rfl ?_
    refine Go.iconst at_29 (q := 30) rfl (x := (2 : Int32)) (by decide) ?_
    refine Go.iand at_30 (q := 31) rfl ?_
    refine Go.if_eq at_31 (q := 38) (q' := 34) (by decide) rfl rfl (fun c199 => ?_) (fun c199 => ?_)
    · skip
      refine Go.iconst at_38 (q := 39) rfl (x := (0 : Int32)) (by decide) ?_
      refine Go.istore at_39 (q := 41) rfl (Ls' := #[.val (.int co), .val (.int ro), .val (.int fl), .val (.int a0_), .val (.int x0), .val (.int y0), .val (.int ((1 : Int32) + (ro &&& (3 : Int32)))), .val (.int ((XT.ushr ro (2 : Int32)) % ((1 : Int32) + (ro &&& (3 : Int32))))), .val (.int (0 : Int32)), .val (.int (0 : Int32)), .unset, .unset, .unset, .unset, .unset, .unset, .unset, .unset, .unset, .unset, .unset]) rfl ?_
      refine Go.iloadN at_41 (q := 42) rfl rfl ?_
      refine Go.iconst at_42 (q := 43) rfl (x := (4 : Int32)) (by decide) ?_
      refine Go.iand at_43 (q := 44) rfl ?_
      refine Go.if_eq at_44 (q := 51) (q' := 47) (by decide) rfl rfl (fun c200 => ?_) (fun c200 => ?_)
      · skip
        refine Go.iconst at_51 (q := 52) rfl (x := (0 : Int32)) (by decide) ?_
        refine Go.istore at_52 (q := 54) rfl (Ls' := #[.val (.int co), .val (.int ro), .val (.int fl), .val (.int a0_), .val (.int x0), .val (.int y0), .val (.int ((1 : Int32) + (ro &&& (3 : Int32)))), .val (.int ((XT.ushr ro (2 : Int32)) % ((1 : Int32) + (ro &&& (3 : Int32))))), .val (.int (0 : Int32)), .val (.int (0 : Int32)), .val (.int (0 : Int32)), .unset, .unset, .unset, .unset, .unset, .unset, .unset, .unset, .unset, .unset]) rfl ?_
        refine Go.iloadN at_54 (q := 55) rfl rfl ?_
        refine Go.ldc at_55 (q := 57) rfl (v := (2147483647 : Int32)) (w0 hw) ?_
        refine Go.iand at_57 (q := 58) rfl ?_
        refine Go.istore at_58 (q := 60) rfl (Ls' := #[.val (.int co), .val (.int ro), .val (.int fl), .val (.int a0_), .val (.int x0), .val (.int y0), .val (.int ((1 : Int32) + (ro &&& (3 : Int32)))), .val (.int ((XT.ushr ro (2 : Int32)) % ((1 : Int32) + (ro &&& (3 : Int32))))), .val (.int (0 : Int32)), .val (.int (0 : Int32)), .val (.int (0 : Int32)), .val (.int (a0_ &&& (2147483647 : Int32))), .unset, .unset, .unset, .unset, .unset, .unset, .unset, .unset, .unset]) rfl ?_
        refine Go.iload at_60 (q := 62) rfl rfl ?_
        refine Go.ldc at_62 (q := 64) rfl (v := (2147483647 : Int32)) (w0 hw) ?_
        refine Go.iand at_64 (q := 65) rfl ?_
        refine Go.istore at_65 (q := 67) rfl (Ls' := #[.val (.int co), .val (.int ro), .val (.int fl), .val (.int a0_), .val (.int x0), .val (.int y0), .val (.int ((1 : Int32) + (ro &&& (3 : Int32)))), .val (.int ((XT.ushr ro (2 : Int32)) % ((1 : Int32) + (ro &&& (3 : Int32))))), .val (.int (0 : Int32)), .val (.int (0 : Int32)), .val (.int (0 : Int32)), .val (.int (a0_ &&& (2147483647 : Int32))), .val (.int (x0 &&& (2147483647 : Int32))), .unset, .unset, .unset, .unset, .unset, .unset, .unset, .unset]) rfl ?_
        refine Go.iload at_67 (q := 69) rfl rfl ?_
        refine Go.ldc at_69 (q := 71) rfl (v := (2147483647 : Int32)) (w0 hw) ?_
        refine Go.iand at_71 (q := 72) rfl ?_
        refine Go.istore at_72 (q := 74) rfl (Ls' := #[.val (.int co), .val (.int ro), .val (.int fl), .val (.int a0_), .val (.int x0), .val (.int y0), .val (.int ((1 : Int32) + (ro &&& (3 : Int32)))), .val (.int ((XT.ushr ro (2 : Int32)) % ((1 : Int32) + (ro &&& (3 : Int32))))), .val (.int (0 : Int32)), .val (.int (0 : Int32)), .val (.int (0 : Int32)), .val (.int (a0_ &&& (2147483647 : Int32))), .val (.int (x0 &&& (2147483647 : Int32))), .val (.int (y0 &&& (2147483647 : Int32))), .unset, .unset, .unset, .unset, .unset, .unset, .unset]) rfl ?_
        exact law74_000 l Z a0 hw n0 h O co ro fl a0_ x0 y0 ((1 : Int32) + (ro &&& (3 : Int32))) ((XT.ushr ro (2 : Int32)) % ((1 : Int32) + (ro &&& (3 : Int32)))) (a0_ &&& (2147483647 : Int32)) (x0 &&& (2147483647 : Int32)) (y0 &&& (2147483647 : Int32)) a_NONE k_NONE vs_NONE F (rd_ok _) (rem_rng (ushr2_nn _) (rd_rng _).1) (nonneg_iff.mpr (mask_nn _)) (nonneg_iff.mpr (mask_nn _)) (nonneg_iff.mpr (mask_nn _))
      · skip
        refine Go.iconst at_47 (q := 48) rfl (x := (1 : Int32)) (by decide) ?_
        refine Go.goto at_48 (q := 52) (by decide) rfl ?_
        refine Go.istore at_52 (q := 54) rfl (Ls' := #[.val (.int co), .val (.int ro), .val (.int fl), .val (.int a0_), .val (.int x0), .val (.int y0), .val (.int ((1 : Int32) + (ro &&& (3 : Int32)))), .val (.int ((XT.ushr ro (2 : Int32)) % ((1 : Int32) + (ro &&& (3 : Int32))))), .val (.int (0 : Int32)), .val (.int (0 : Int32)), .val (.int (1 : Int32)), .unset, .unset, .unset, .unset, .unset, .unset, .unset, .unset, .unset, .unset]) rfl ?_
        refine Go.iloadN at_54 (q := 55) rfl rfl ?_
        refine Go.ldc at_55 (q := 57) rfl (v := (2147483647 : Int32)) (w0 hw) ?_
        refine Go.iand at_57 (q := 58) rfl ?_
        refine Go.istore at_58 (q := 60) rfl (Ls' := #[.val (.int co), .val (.int ro), .val (.int fl), .val (.int a0_), .val (.int x0), .val (.int y0), .val (.int ((1 : Int32) + (ro &&& (3 : Int32)))), .val (.int ((XT.ushr ro (2 : Int32)) % ((1 : Int32) + (ro &&& (3 : Int32))))), .val (.int (0 : Int32)), .val (.int (0 : Int32)), .val (.int (1 : Int32)), .val (.int (a0_ &&& (2147483647 : Int32))), .unset, .unset, .unset, .unset, .unset, .unset, .unset, .unset, .unset]) rfl ?_
        refine Go.iload at_60 (q := 62) rfl rfl ?_
        refine Go.ldc at_62 (q := 64) rfl (v := (2147483647 : Int32)) (w0 hw) ?_
        refine Go.iand at_64 (q := 65) rfl ?_
        refine Go.istore at_65 (q := 67) rfl (Ls' := #[.val (.int co), .val (.int ro), .val (.int fl), .val (.int a0_), .val (.int x0), .val (.int y0), .val (.int ((1 : Int32) + (ro &&& (3 : Int32)))), .val (.int ((XT.ushr ro (2 : Int32)) % ((1 : Int32) + (ro &&& (3 : Int32))))), .val (.int (0 : Int32)), .val (.int (0 : Int32)), .val (.int (1 : Int32)), .val (.int (a0_ &&& (2147483647 : Int32))), .val (.int (x0 &&& (2147483647 : Int32))), .unset, .unset, .unset, .unset, .unset, .unset, .unset, .unset]) rfl ?_
        refine Go.iload at_67 (q := 69) rfl rfl ?_
        refine Go.ldc at_69 (q := 71) rfl (v := (2147483647 : Int32)) (w0 hw) ?_
        refine Go.iand at_71 (q := 72) rfl ?_
        refine Go.istore at_72 (q := 74) rfl (Ls' := #[.val (.int co), .val (.int ro), .val (.int fl), .val (.int a0_), .val (.int x0), .val (.int y0), .val (.int ((1 : Int32) + (ro &&& (3 : Int32)))), .val (.int ((XT.ushr ro (2 : Int32)) % ((1 : Int32) + (ro &&& (3 : Int32))))), .val (.int (0 : Int32)), .val (.int (0 : Int32)), .val (.int (1 : Int32)), .val (.int (a0_ &&& (2147483647 : Int32))), .val (.int (x0 &&& (2147483647 : Int32))), .val (.int (y0 &&& (2147483647 : Int32))), .unset, .unset, .unset, .unset, .unset, .unset, .unset]) rfl ?_
        exact law74_001 l Z a0 hw n0 h O co ro fl a0_ x0 y0 ((1 : Int32) + (ro &&& (3 : Int32))) ((XT.ushr ro (2 : Int32)) % ((1 : Int32) + (ro &&& (3 : Int32)))) (a0_ &&& (2147483647 : Int32)) (x0 &&& (2147483647 : Int32)) (y0 &&& (2147483647 : Int32)) a_NONE k_NONE vs_NONE F (rd_ok _) (rem_rng (ushr2_nn _) (rd_rng _).1) (nonneg_iff.mpr (mask_nn _)) (nonneg_iff.mpr (mask_nn _)) (nonneg_iff.mpr (mask_nn _))
    · skip
      refine Go.iconst at_34 (q := 35) rfl (x := (1 : Int32)) (by decide) ?_
      refine Go.goto at_35 (q := 39) (by decide) rfl ?_
      refine Go.istore at_39 (q := 41) rfl (Ls' := #[.val (.int co), .val (.int ro), .val (.int fl), .val (.int a0_), .val (.int x0), .val (.int y0), .val (.int ((1 : Int32) + (ro &&& (3 : Int32)))), .val (.int ((XT.ushr ro (2 : Int32)) % ((1 : Int32) + (ro &&& (3 : Int32))))), .val (.int (0 : Int32)), .val (.int (1 : Int32)), .unset, .unset, .unset, .unset, .unset, .unset, .unset, .unset, .unset, .unset, .unset]) rfl ?_
      refine Go.iloadN at_41 (q := 42) rfl rfl ?_
      refine Go.iconst at_42 (q := 43) rfl (x := (4 : Int32)) (by decide) ?_
      refine Go.iand at_43 (q := 44) rfl ?_
      refine Go.if_eq at_44 (q := 51) (q' := 47) (by decide) rfl rfl (fun c201 => ?_) (fun c201 => ?_)
      · skip
        refine Go.iconst at_51 (q := 52) rfl (x := (0 : Int32)) (by decide) ?_
        refine Go.istore at_52 (q := 54) rfl (Ls' := #[.val (.int co), .val (.int ro), .val (.int fl), .val (.int a0_), .val (.int x0), .val (.int y0), .val (.int ((1 : Int32) + (ro &&& (3 : Int32)))), .val (.int ((XT.ushr ro (2 : Int32)) % ((1 : Int32) + (ro &&& (3 : Int32))))), .val (.int (0 : Int32)), .val (.int (1 : Int32)), .val (.int (0 : Int32)), .unset, .unset, .unset, .unset, .unset, .unset, .unset, .unset, .unset, .unset]) rfl ?_
        refine Go.iloadN at_54 (q := 55) rfl rfl ?_
        refine Go.ldc at_55 (q := 57) rfl (v := (2147483647 : Int32)) (w0 hw) ?_
        refine Go.iand at_57 (q := 58) rfl ?_
        refine Go.istore at_58 (q := 60) rfl (Ls' := #[.val (.int co), .val (.int ro), .val (.int fl), .val (.int a0_), .val (.int x0), .val (.int y0), .val (.int ((1 : Int32) + (ro &&& (3 : Int32)))), .val (.int ((XT.ushr ro (2 : Int32)) % ((1 : Int32) + (ro &&& (3 : Int32))))), .val (.int (0 : Int32)), .val (.int (1 : Int32)), .val (.int (0 : Int32)), .val (.int (a0_ &&& (2147483647 : Int32))), .unset, .unset, .unset, .unset, .unset, .unset, .unset, .unset, .unset]) rfl ?_
        refine Go.iload at_60 (q := 62) rfl rfl ?_
        refine Go.ldc at_62 (q := 64) rfl (v := (2147483647 : Int32)) (w0 hw) ?_
        refine Go.iand at_64 (q := 65) rfl ?_
        refine Go.istore at_65 (q := 67) rfl (Ls' := #[.val (.int co), .val (.int ro), .val (.int fl), .val (.int a0_), .val (.int x0), .val (.int y0), .val (.int ((1 : Int32) + (ro &&& (3 : Int32)))), .val (.int ((XT.ushr ro (2 : Int32)) % ((1 : Int32) + (ro &&& (3 : Int32))))), .val (.int (0 : Int32)), .val (.int (1 : Int32)), .val (.int (0 : Int32)), .val (.int (a0_ &&& (2147483647 : Int32))), .val (.int (x0 &&& (2147483647 : Int32))), .unset, .unset, .unset, .unset, .unset, .unset, .unset, .unset]) rfl ?_
        refine Go.iload at_67 (q := 69) rfl rfl ?_
        refine Go.ldc at_69 (q := 71) rfl (v := (2147483647 : Int32)) (w0 hw) ?_
        refine Go.iand at_71 (q := 72) rfl ?_
        refine Go.istore at_72 (q := 74) rfl (Ls' := #[.val (.int co), .val (.int ro), .val (.int fl), .val (.int a0_), .val (.int x0), .val (.int y0), .val (.int ((1 : Int32) + (ro &&& (3 : Int32)))), .val (.int ((XT.ushr ro (2 : Int32)) % ((1 : Int32) + (ro &&& (3 : Int32))))), .val (.int (0 : Int32)), .val (.int (1 : Int32)), .val (.int (0 : Int32)), .val (.int (a0_ &&& (2147483647 : Int32))), .val (.int (x0 &&& (2147483647 : Int32))), .val (.int (y0 &&& (2147483647 : Int32))), .unset, .unset, .unset, .unset, .unset, .unset, .unset]) rfl ?_
        exact law74_010 l Z a0 hw n0 h O co ro fl a0_ x0 y0 ((1 : Int32) + (ro &&& (3 : Int32))) ((XT.ushr ro (2 : Int32)) % ((1 : Int32) + (ro &&& (3 : Int32)))) (a0_ &&& (2147483647 : Int32)) (x0 &&& (2147483647 : Int32)) (y0 &&& (2147483647 : Int32)) a_NONE k_NONE vs_NONE F (rd_ok _) (rem_rng (ushr2_nn _) (rd_rng _).1) (nonneg_iff.mpr (mask_nn _)) (nonneg_iff.mpr (mask_nn _)) (nonneg_iff.mpr (mask_nn _))
      · skip
        refine Go.iconst at_47 (q := 48) rfl (x := (1 : Int32)) (by decide) ?_
        refine Go.goto at_48 (q := 52) (by decide) rfl ?_
        refine Go.istore at_52 (q := 54) rfl (Ls' := #[.val (.int co), .val (.int ro), .val (.int fl), .val (.int a0_), .val (.int x0), .val (.int y0), .val (.int ((1 : Int32) + (ro &&& (3 : Int32)))), .val (.int ((XT.ushr ro (2 : Int32)) % ((1 : Int32) + (ro &&& (3 : Int32))))), .val (.int (0 : Int32)), .val (.int (1 : Int32)), .val (.int (1 : Int32)), .unset, .unset, .unset, .unset, .unset, .unset, .unset, .unset, .unset, .unset]) rfl ?_
        refine Go.iloadN at_54 (q := 55) rfl rfl ?_
        refine Go.ldc at_55 (q := 57) rfl (v := (2147483647 : Int32)) (w0 hw) ?_
        refine Go.iand at_57 (q := 58) rfl ?_
        refine Go.istore at_58 (q := 60) rfl (Ls' := #[.val (.int co), .val (.int ro), .val (.int fl), .val (.int a0_), .val (.int x0), .val (.int y0), .val (.int ((1 : Int32) + (ro &&& (3 : Int32)))), .val (.int ((XT.ushr ro (2 : Int32)) % ((1 : Int32) + (ro &&& (3 : Int32))))), .val (.int (0 : Int32)), .val (.int (1 : Int32)), .val (.int (1 : Int32)), .val (.int (a0_ &&& (2147483647 : Int32))), .unset, .unset, .unset, .unset, .unset, .unset, .unset, .unset, .unset]) rfl ?_
        refine Go.iload at_60 (q := 62) rfl rfl ?_
        refine Go.ldc at_62 (q := 64) rfl (v := (2147483647 : Int32)) (w0 hw) ?_
        refine Go.iand at_64 (q := 65) rfl ?_
        refine Go.istore at_65 (q := 67) rfl (Ls' := #[.val (.int co), .val (.int ro), .val (.int fl), .val (.int a0_), .val (.int x0), .val (.int y0), .val (.int ((1 : Int32) + (ro &&& (3 : Int32)))), .val (.int ((XT.ushr ro (2 : Int32)) % ((1 : Int32) + (ro &&& (3 : Int32))))), .val (.int (0 : Int32)), .val (.int (1 : Int32)), .val (.int (1 : Int32)), .val (.int (a0_ &&& (2147483647 : Int32))), .val (.int (x0 &&& (2147483647 : Int32))), .unset, .unset, .unset, .unset, .unset, .unset, .unset, .unset]) rfl ?_
        refine Go.iload at_67 (q := 69) rfl rfl ?_
        refine Go.ldc at_69 (q := 71) rfl (v := (2147483647 : Int32)) (w0 hw) ?_
        refine Go.iand at_71 (q := 72) rfl ?_
        refine Go.istore at_72 (q := 74) rfl (Ls' := #[.val (.int co), .val (.int ro), .val (.int fl), .val (.int a0_), .val (.int x0), .val (.int y0), .val (.int ((1 : Int32) + (ro &&& (3 : Int32)))), .val (.int ((XT.ushr ro (2 : Int32)) % ((1 : Int32) + (ro &&& (3 : Int32))))), .val (.int (0 : Int32)), .val (.int (1 : Int32)), .val (.int (1 : Int32)), .val (.int (a0_ &&& (2147483647 : Int32))), .val (.int (x0 &&& (2147483647 : Int32))), .val (.int (y0 &&& (2147483647 : Int32))), .unset, .unset, .unset, .unset, .unset, .unset, .unset]) rfl ?_
        exact law74_011 l Z a0 hw n0 h O co ro fl a0_ x0 y0 ((1 : Int32) + (ro &&& (3 : Int32))) ((XT.ushr ro (2 : Int32)) % ((1 : Int32) + (ro &&& (3 : Int32)))) (a0_ &&& (2147483647 : Int32)) (x0 &&& (2147483647 : Int32)) (y0 &&& (2147483647 : Int32)) a_NONE k_NONE vs_NONE F (rd_ok _) (rem_rng (ushr2_nn _) (rd_rng _).1) (nonneg_iff.mpr (mask_nn _)) (nonneg_iff.mpr (mask_nn _)) (nonneg_iff.mpr (mask_nn _))
  · skip
    refine Go.iconst at_21 (q := 22) rfl (x := (1 : Int32)) (by decide) ?_
    refine Go.goto at_22 (q := 26) (by decide) rfl ?_
    refine Go.istore at_26 (q := 28) rfl (Ls' := #[.val (.int co), .val (.int ro), .val (.int fl), .val (.int a0_), .val (.int x0), .val (.int y0), .val (.int ((1 : Int32) + (ro &&& (3 : Int32)))), .val (.int ((XT.ushr ro (2 : Int32)) % ((1 : Int32) + (ro &&& (3 : Int32))))), .val (.int (1 : Int32)), .unset, .unset, .unset, .unset, .unset, .unset, .unset, .unset, .unset, .unset, .unset, .unset]) rfl ?_
    refine Go.iloadN at_28 (q := 29) rfl rfl ?_
    refine Go.iconst at_29 (q := 30) rfl (x := (2 : Int32)) (by decide) ?_
    refine Go.iand at_30 (q := 31) rfl ?_
    refine Go.if_eq at_31 (q := 38) (q' := 34) (by decide) rfl rfl (fun c202 => ?_) (fun c202 => ?_)
    · skip
      refine Go.iconst at_38 (q := 39) rfl (x := (0 : Int32)) (by decide) ?_
      refine Go.istore at_39 (q := 41) rfl (Ls' := #[.val (.int co), .val (.int ro), .val (.int fl), .val (.int a0_), .val (.int x0), .val (.int y0), .val (.int ((1 : Int32) + (ro &&& (3 : Int32)))), .val (.int ((XT.ushr ro (2 : Int32)) % ((1 : Int32) + (ro &&& (3 : Int32))))), .val (.int (1 : Int32)), .val (.int (0 : Int32)), .unset, .unset, .unset, .unset, .unset, .unset, .unset, .unset, .unset, .unset, .unset]) rfl ?_
      refine Go.iloadN at_41 (q := 42) rfl rfl ?_
      refine Go.iconst at_42 (q := 43) rfl (x := (4 : Int32)) (by decide) ?_
      refine Go.iand at_43 (q := 44) rfl ?_
      refine Go.if_eq at_44 (q := 51) (q' := 47) (by decide) rfl rfl (fun c203 => ?_) (fun c203 => ?_)
      · skip
        refine Go.iconst at_51 (q := 52) rfl (x := (0 : Int32)) (by decide) ?_
        refine Go.istore at_52 (q := 54) rfl (Ls' := #[.val (.int co), .val (.int ro), .val (.int fl), .val (.int a0_), .val (.int x0), .val (.int y0), .val (.int ((1 : Int32) + (ro &&& (3 : Int32)))), .val (.int ((XT.ushr ro (2 : Int32)) % ((1 : Int32) + (ro &&& (3 : Int32))))), .val (.int (1 : Int32)), .val (.int (0 : Int32)), .val (.int (0 : Int32)), .unset, .unset, .unset, .unset, .unset, .unset, .unset, .unset, .unset, .unset]) rfl ?_
        refine Go.iloadN at_54 (q := 55) rfl rfl ?_
        refine Go.ldc at_55 (q := 57) rfl (v := (2147483647 : Int32)) (w0 hw) ?_
        refine Go.iand at_57 (q := 58) rfl ?_
        refine Go.istore at_58 (q := 60) rfl (Ls' := #[.val (.int co), .val (.int ro), .val (.int fl), .val (.int a0_), .val (.int x0), .val (.int y0), .val (.int ((1 : Int32) + (ro &&& (3 : Int32)))), .val (.int ((XT.ushr ro (2 : Int32)) % ((1 : Int32) + (ro &&& (3 : Int32))))), .val (.int (1 : Int32)), .val (.int (0 : Int32)), .val (.int (0 : Int32)), .val (.int (a0_ &&& (2147483647 : Int32))), .unset, .unset, .unset, .unset, .unset, .unset, .unset, .unset, .unset]) rfl ?_
        refine Go.iload at_60 (q := 62) rfl rfl ?_
        refine Go.ldc at_62 (q := 64) rfl (v := (2147483647 : Int32)) (w0 hw) ?_
        refine Go.iand at_64 (q := 65) rfl ?_
        refine Go.istore at_65 (q := 67) rfl (Ls' := #[.val (.int co), .val (.int ro), .val (.int fl), .val (.int a0_), .val (.int x0), .val (.int y0), .val (.int ((1 : Int32) + (ro &&& (3 : Int32)))), .val (.int ((XT.ushr ro (2 : Int32)) % ((1 : Int32) + (ro &&& (3 : Int32))))), .val (.int (1 : Int32)), .val (.int (0 : Int32)), .val (.int (0 : Int32)), .val (.int (a0_ &&& (2147483647 : Int32))), .val (.int (x0 &&& (2147483647 : Int32))), .unset, .unset, .unset, .unset, .unset, .unset, .unset, .unset]) rfl ?_
        refine Go.iload at_67 (q := 69) rfl rfl ?_
        refine Go.ldc at_69 (q := 71) rfl (v := (2147483647 : Int32)) (w0 hw) ?_
        refine Go.iand at_71 (q := 72) rfl ?_
        refine Go.istore at_72 (q := 74) rfl (Ls' := #[.val (.int co), .val (.int ro), .val (.int fl), .val (.int a0_), .val (.int x0), .val (.int y0), .val (.int ((1 : Int32) + (ro &&& (3 : Int32)))), .val (.int ((XT.ushr ro (2 : Int32)) % ((1 : Int32) + (ro &&& (3 : Int32))))), .val (.int (1 : Int32)), .val (.int (0 : Int32)), .val (.int (0 : Int32)), .val (.int (a0_ &&& (2147483647 : Int32))), .val (.int (x0 &&& (2147483647 : Int32))), .val (.int (y0 &&& (2147483647 : Int32))), .unset, .unset, .unset, .unset, .unset, .unset, .unset]) rfl ?_
        exact law74_100 l Z a0 hw n0 h O co ro fl a0_ x0 y0 ((1 : Int32) + (ro &&& (3 : Int32))) ((XT.ushr ro (2 : Int32)) % ((1 : Int32) + (ro &&& (3 : Int32)))) (a0_ &&& (2147483647 : Int32)) (x0 &&& (2147483647 : Int32)) (y0 &&& (2147483647 : Int32)) a_NONE k_NONE vs_NONE F (rd_ok _) (rem_rng (ushr2_nn _) (rd_rng _).1) (nonneg_iff.mpr (mask_nn _)) (nonneg_iff.mpr (mask_nn _)) (nonneg_iff.mpr (mask_nn _))
      · skip
        refine Go.iconst at_47 (q := 48) rfl (x := (1 : Int32)) (by decide) ?_
        refine Go.goto at_48 (q := 52) (by decide) rfl ?_
        refine Go.istore at_52 (q := 54) rfl (Ls' := #[.val (.int co), .val (.int ro), .val (.int fl), .val (.int a0_), .val (.int x0), .val (.int y0), .val (.int ((1 : Int32) + (ro &&& (3 : Int32)))), .val (.int ((XT.ushr ro (2 : Int32)) % ((1 : Int32) + (ro &&& (3 : Int32))))), .val (.int (1 : Int32)), .val (.int (0 : Int32)), .val (.int (1 : Int32)), .unset, .unset, .unset, .unset, .unset, .unset, .unset, .unset, .unset, .unset]) rfl ?_
        refine Go.iloadN at_54 (q := 55) rfl rfl ?_
        refine Go.ldc at_55 (q := 57) rfl (v := (2147483647 : Int32)) (w0 hw) ?_
        refine Go.iand at_57 (q := 58) rfl ?_
        refine Go.istore at_58 (q := 60) rfl (Ls' := #[.val (.int co), .val (.int ro), .val (.int fl), .val (.int a0_), .val (.int x0), .val (.int y0), .val (.int ((1 : Int32) + (ro &&& (3 : Int32)))), .val (.int ((XT.ushr ro (2 : Int32)) % ((1 : Int32) + (ro &&& (3 : Int32))))), .val (.int (1 : Int32)), .val (.int (0 : Int32)), .val (.int (1 : Int32)), .val (.int (a0_ &&& (2147483647 : Int32))), .unset, .unset, .unset, .unset, .unset, .unset, .unset, .unset, .unset]) rfl ?_
        refine Go.iload at_60 (q := 62) rfl rfl ?_
        refine Go.ldc at_62 (q := 64) rfl (v := (2147483647 : Int32)) (w0 hw) ?_
        refine Go.iand at_64 (q := 65) rfl ?_
        refine Go.istore at_65 (q := 67) rfl (Ls' := #[.val (.int co), .val (.int ro), .val (.int fl), .val (.int a0_), .val (.int x0), .val (.int y0), .val (.int ((1 : Int32) + (ro &&& (3 : Int32)))), .val (.int ((XT.ushr ro (2 : Int32)) % ((1 : Int32) + (ro &&& (3 : Int32))))), .val (.int (1 : Int32)), .val (.int (0 : Int32)), .val (.int (1 : Int32)), .val (.int (a0_ &&& (2147483647 : Int32))), .val (.int (x0 &&& (2147483647 : Int32))), .unset, .unset, .unset, .unset, .unset, .unset, .unset, .unset]) rfl ?_
        refine Go.iload at_67 (q := 69) rfl rfl ?_
        refine Go.ldc at_69 (q := 71) rfl (v := (2147483647 : Int32)) (w0 hw) ?_
        refine Go.iand at_71 (q := 72) rfl ?_
        refine Go.istore at_72 (q := 74) rfl (Ls' := #[.val (.int co), .val (.int ro), .val (.int fl), .val (.int a0_), .val (.int x0), .val (.int y0), .val (.int ((1 : Int32) + (ro &&& (3 : Int32)))), .val (.int ((XT.ushr ro (2 : Int32)) % ((1 : Int32) + (ro &&& (3 : Int32))))), .val (.int (1 : Int32)), .val (.int (0 : Int32)), .val (.int (1 : Int32)), .val (.int (a0_ &&& (2147483647 : Int32))), .val (.int (x0 &&& (2147483647 : Int32))), .val (.int (y0 &&& (2147483647 : Int32))), .unset, .unset, .unset, .unset, .unset, .unset, .unset]) rfl ?_
        exact law74_101 l Z a0 hw n0 h O co ro fl a0_ x0 y0 ((1 : Int32) + (ro &&& (3 : Int32))) ((XT.ushr ro (2 : Int32)) % ((1 : Int32) + (ro &&& (3 : Int32)))) (a0_ &&& (2147483647 : Int32)) (x0 &&& (2147483647 : Int32)) (y0 &&& (2147483647 : Int32)) a_NONE k_NONE vs_NONE F (rd_ok _) (rem_rng (ushr2_nn _) (rd_rng _).1) (nonneg_iff.mpr (mask_nn _)) (nonneg_iff.mpr (mask_nn _)) (nonneg_iff.mpr (mask_nn _))
    · skip
      refine Go.iconst at_34 (q := 35) rfl (x := (1 : Int32)) (by decide) ?_
      refine Go.goto at_35 (q := 39) (by decide) rfl ?_
      refine Go.istore at_39 (q := 41) rfl (Ls' := #[.val (.int co), .val (.int ro), .val (.int fl), .val (.int a0_), .val (.int x0), .val (.int y0), .val (.int ((1 : Int32) + (ro &&& (3 : Int32)))), .val (.int ((XT.ushr ro (2 : Int32)) % ((1 : Int32) + (ro &&& (3 : Int32))))), .val (.int (1 : Int32)), .val (.int (1 : Int32)), .unset, .unset, .unset, .unset, .unset, .unset, .unset, .unset, .unset, .unset, .unset]) rfl ?_
      refine Go.iloadN at_41 (q := 42) rfl rfl ?_
      refine Go.iconst at_42 (q := 43) rfl (x := (4 : Int32)) (by decide) ?_
      refine Go.iand at_43 (q := 44) rfl ?_
      refine Go.if_eq at_44 (q := 51) (q' := 47) (by decide) rfl rfl (fun c204 => ?_) (fun c204 => ?_)
      · skip
        refine Go.iconst at_51 (q := 52) rfl (x := (0 : Int32)) (by decide) ?_
        refine Go.istore at_52 (q := 54) rfl (Ls' := #[.val (.int co), .val (.int ro), .val (.int fl), .val (.int a0_), .val (.int x0), .val (.int y0), .val (.int ((1 : Int32) + (ro &&& (3 : Int32)))), .val (.int ((XT.ushr ro (2 : Int32)) % ((1 : Int32) + (ro &&& (3 : Int32))))), .val (.int (1 : Int32)), .val (.int (1 : Int32)), .val (.int (0 : Int32)), .unset, .unset, .unset, .unset, .unset, .unset, .unset, .unset, .unset, .unset]) rfl ?_
        refine Go.iloadN at_54 (q := 55) rfl rfl ?_
        refine Go.ldc at_55 (q := 57) rfl (v := (2147483647 : Int32)) (w0 hw) ?_
        refine Go.iand at_57 (q := 58) rfl ?_
        refine Go.istore at_58 (q := 60) rfl (Ls' := #[.val (.int co), .val (.int ro), .val (.int fl), .val (.int a0_), .val (.int x0), .val (.int y0), .val (.int ((1 : Int32) + (ro &&& (3 : Int32)))), .val (.int ((XT.ushr ro (2 : Int32)) % ((1 : Int32) + (ro &&& (3 : Int32))))), .val (.int (1 : Int32)), .val (.int (1 : Int32)), .val (.int (0 : Int32)), .val (.int (a0_ &&& (2147483647 : Int32))), .unset, .unset, .unset, .unset, .unset, .unset, .unset, .unset, .unset]) rfl ?_
        refine Go.iload at_60 (q := 62) rfl rfl ?_
        refine Go.ldc at_62 (q := 64) rfl (v := (2147483647 : Int32)) (w0 hw) ?_
        refine Go.iand at_64 (q := 65) rfl ?_
        refine Go.istore at_65 (q := 67) rfl (Ls' := #[.val (.int co), .val (.int ro), .val (.int fl), .val (.int a0_), .val (.int x0), .val (.int y0), .val (.int ((1 : Int32) + (ro &&& (3 : Int32)))), .val (.int ((XT.ushr ro (2 : Int32)) % ((1 : Int32) + (ro &&& (3 : Int32))))), .val (.int (1 : Int32)), .val (.int (1 : Int32)), .val (.int (0 : Int32)), .val (.int (a0_ &&& (2147483647 : Int32))), .val (.int (x0 &&& (2147483647 : Int32))), .unset, .unset, .unset, .unset, .unset, .unset, .unset, .unset]) rfl ?_
        refine Go.iload at_67 (q := 69) rfl rfl ?_
        refine Go.ldc at_69 (q := 71) rfl (v := (2147483647 : Int32)) (w0 hw) ?_
        refine Go.iand at_71 (q := 72) rfl ?_
        refine Go.istore at_72 (q := 74) rfl (Ls' := #[.val (.int co), .val (.int ro), .val (.int fl), .val (.int a0_), .val (.int x0), .val (.int y0), .val (.int ((1 : Int32) + (ro &&& (3 : Int32)))), .val (.int ((XT.ushr ro (2 : Int32)) % ((1 : Int32) + (ro &&& (3 : Int32))))), .val (.int (1 : Int32)), .val (.int (1 : Int32)), .val (.int (0 : Int32)), .val (.int (a0_ &&& (2147483647 : Int32))), .val (.int (x0 &&& (2147483647 : Int32))), .val (.int (y0 &&& (2147483647 : Int32))), .unset, .unset, .unset, .unset, .unset, .unset, .unset]) rfl ?_
        exact law74_110 l Z a0 hw n0 h O co ro fl a0_ x0 y0 ((1 : Int32) + (ro &&& (3 : Int32))) ((XT.ushr ro (2 : Int32)) % ((1 : Int32) + (ro &&& (3 : Int32)))) (a0_ &&& (2147483647 : Int32)) (x0 &&& (2147483647 : Int32)) (y0 &&& (2147483647 : Int32)) a_NONE k_NONE vs_NONE F (rd_ok _) (rem_rng (ushr2_nn _) (rd_rng _).1) (nonneg_iff.mpr (mask_nn _)) (nonneg_iff.mpr (mask_nn _)) (nonneg_iff.mpr (mask_nn _))
      · skip
        refine Go.iconst at_47 (q := 48) rfl (x := (1 : Int32)) (by decide) ?_
        refine Go.goto at_48 (q := 52) (by decide) rfl ?_
        refine Go.istore at_52 (q := 54) rfl (Ls' := #[.val (.int co), .val (.int ro), .val (.int fl), .val (.int a0_), .val (.int x0), .val (.int y0), .val (.int ((1 : Int32) + (ro &&& (3 : Int32)))), .val (.int ((XT.ushr ro (2 : Int32)) % ((1 : Int32) + (ro &&& (3 : Int32))))), .val (.int (1 : Int32)), .val (.int (1 : Int32)), .val (.int (1 : Int32)), .unset, .unset, .unset, .unset, .unset, .unset, .unset, .unset, .unset, .unset]) rfl ?_
        refine Go.iloadN at_54 (q := 55) rfl rfl ?_
        refine Go.ldc at_55 (q := 57) rfl (v := (2147483647 : Int32)) (w0 hw) ?_
        refine Go.iand at_57 (q := 58) rfl ?_
        refine Go.istore at_58 (q := 60) rfl (Ls' := #[.val (.int co), .val (.int ro), .val (.int fl), .val (.int a0_), .val (.int x0), .val (.int y0), .val (.int ((1 : Int32) + (ro &&& (3 : Int32)))), .val (.int ((XT.ushr ro (2 : Int32)) % ((1 : Int32) + (ro &&& (3 : Int32))))), .val (.int (1 : Int32)), .val (.int (1 : Int32)), .val (.int (1 : Int32)), .val (.int (a0_ &&& (2147483647 : Int32))), .unset, .unset, .unset, .unset, .unset, .unset, .unset, .unset, .unset]) rfl ?_
        refine Go.iload at_60 (q := 62) rfl rfl ?_
        refine Go.ldc at_62 (q := 64) rfl (v := (2147483647 : Int32)) (w0 hw) ?_
        refine Go.iand at_64 (q := 65) rfl ?_
        refine Go.istore at_65 (q := 67) rfl (Ls' := #[.val (.int co), .val (.int ro), .val (.int fl), .val (.int a0_), .val (.int x0), .val (.int y0), .val (.int ((1 : Int32) + (ro &&& (3 : Int32)))), .val (.int ((XT.ushr ro (2 : Int32)) % ((1 : Int32) + (ro &&& (3 : Int32))))), .val (.int (1 : Int32)), .val (.int (1 : Int32)), .val (.int (1 : Int32)), .val (.int (a0_ &&& (2147483647 : Int32))), .val (.int (x0 &&& (2147483647 : Int32))), .unset, .unset, .unset, .unset, .unset, .unset, .unset, .unset]) rfl ?_
        refine Go.iload at_67 (q := 69) rfl rfl ?_
        refine Go.ldc at_69 (q := 71) rfl (v := (2147483647 : Int32)) (w0 hw) ?_
        refine Go.iand at_71 (q := 72) rfl ?_
        refine Go.istore at_72 (q := 74) rfl (Ls' := #[.val (.int co), .val (.int ro), .val (.int fl), .val (.int a0_), .val (.int x0), .val (.int y0), .val (.int ((1 : Int32) + (ro &&& (3 : Int32)))), .val (.int ((XT.ushr ro (2 : Int32)) % ((1 : Int32) + (ro &&& (3 : Int32))))), .val (.int (1 : Int32)), .val (.int (1 : Int32)), .val (.int (1 : Int32)), .val (.int (a0_ &&& (2147483647 : Int32))), .val (.int (x0 &&& (2147483647 : Int32))), .val (.int (y0 &&& (2147483647 : Int32))), .unset, .unset, .unset, .unset, .unset, .unset, .unset]) rfl ?_
        exact law74_111 l Z a0 hw n0 h O co ro fl a0_ x0 y0 ((1 : Int32) + (ro &&& (3 : Int32))) ((XT.ushr ro (2 : Int32)) % ((1 : Int32) + (ro &&& (3 : Int32)))) (a0_ &&& (2147483647 : Int32)) (x0 &&& (2147483647 : Int32)) (y0 &&& (2147483647 : Int32)) a_NONE k_NONE vs_NONE F (rd_ok _) (rem_rng (ushr2_nn _) (rd_rng _).1) (nonneg_iff.mpr (mask_nn _)) (nonneg_iff.mpr (mask_nn _)) (nonneg_iff.mpr (mask_nn _))
set_option maxRecDepth 65536 in
set_option maxHeartbeats 40000000 in
theorem comes_1 {Post : Tables → Env → Array Value → State → Outcome → State → Prop} (hpost : ∀ tb e args s v u, (limb_1_1.after args s (.returned v) u = true ∧ limb_1_2.after args s (.returned v) u = true ∧ True) → FrameEnd s (.returned v) u (Jvm.fieldLocs frame_1_writes args s ++ Jvm.arrayLocs frame_1_arrays args s ++ Jvm.staticLocs frame_1_statics s) 40 256 → Post tb e args s (.returned v) u) :
    ArmFor flags0 classFile x code maxLocals ret World_1 tables_1 room_1 Calls_1 rest_1 Pre_1 Post := by
  intro l hfl _ _ p e ha hc hk s m args below hf hA hF happ hP
  obtain ⟨hcalls, hrest, hpre⟩ := hP
  obtain ⟨-, -, -, hnamed, -, -, -, hat⟩ := (Spec.applies_iff hf).mp happ
  obtain ⟨hg, hn⟩ := and_e (Jvm.Cond.before_iff.mp (show (Jvm.Cond.and given_1 narrow_1).before args s = true from hpre))
  obtain ⟨g0, hg⟩ := and_e hg
  obtain ⟨g1, hg⟩ := and_e hg
  obtain ⟨g2, hg⟩ := and_e hg
  obtain ⟨g3, hg⟩ := and_e hg
  obtain ⟨g4, hg⟩ := and_e hg
  obtain ⟨g5, hg⟩ := and_e hg
  have g6 := hg
  obtain ⟨v0, v1, v2, v3, v4, v5, rfl⟩ : ∃ v0 v1 v2 v3 v4 v5 : Value, args = #[v0, v1, v2, v3, v4, v5] := by
    have hs : args.size = 6 := by simpa [Jvm.Cond.value, given_1] using g0
    obtain ⟨L⟩ := args
    match L, hs with
    | [v0, v1, v2, v3, v4, v5], _ => exact ⟨v0, v1, v2, v3, v4, v5, rfl⟩
  have hw : Hw _ s := fun d (hd : d ∈ tables_1) => atoms_spec (ws := Jvm.Cond.code x code maxLocals ret :: tables_1) hat d (List.mem_cons_of_mem _ hd)
  have hfit : Fit s := fun {y c} hc i hi => by
    obtain ⟨ha, rfl⟩ := Array.getElem?_eq_some_iff.mp hc
    have q := List.all_eq_true.mp ((Array.all_eq_true_iff_forall_mem.mp hF) _ (Array.getElem_mem ha)) i (List.mem_range.mpr hi)
    simpa [Array.getElem?_eq_getElem hi] using q
  obtain ⟨x0, e0⟩ := is_v g1
  obtain rfl : v0 = (.int x0) := Option.some.inj e0
  obtain ⟨x1, e1⟩ := is_v g2
  obtain rfl : v1 = (.int x1) := Option.some.inj e1
  obtain ⟨x2, e2⟩ := is_v g3
  obtain rfl : v2 = (.int x2) := Option.some.inj e2
  obtain ⟨x3, e3⟩ := is_v g4
  obtain rfl : v3 = (.int x3) := Option.some.inj e3
  obtain ⟨x4, e4⟩ := is_v g5
  obtain rfl : v4 = (.int x4) := Option.some.inj e4
  obtain ⟨x5, e5⟩ := is_v g6
  obtain rfl : v5 = (.int x5) := Option.some.inj e5
  obtain ⟨q0, hn⟩ := and_e hn
  obtain ⟨q1, hn⟩ := and_e hn
  have q2 := hn
  obtain ⟨a_NONE, k_NONE, vs_NONE, ev_NONE, S_NONE, A_NONE⟩ := sta_arr q0 (w31 hw) (w37 hw)
  have E_NONE := Exa.start ev_NONE q1
  have N_NONE : vs_NONE.length = 0 := arr_len ev_NONE A_NONE q2
  have G := b0 l s _ hw s.heap.size s.heap (Old.start s) x0 x1 x2 x3 x4 x5 a_NONE k_NONE vs_NONE (show Facts s a_NONE k_NONE vs_NONE from ⟨S_NONE, A_NONE, E_NONE, N_NONE⟩)
  obtain ⟨n, o, h1, h2, h3, _, L, rfl, ⟨N, rfl⟩, hq⟩ := (G.met pn0 (fun m => by simp [entryFrame, mkF, argsToLocals, Value.category, maxLocals]) tables_1) p e ha hc hk s m _ below hf ((Spec.applies_iff_loose hf).mp happ).1 ⟨rfl, State.Warmed39.refl s, rfl⟩ trivial
  refine ⟨n, _, h1, h2, h3, hpost _ _ _ _ _ _ ⟨Jvm.Cond.after_iff.mpr rfl, Jvm.Cond.after_iff.mpr (eq_i res_at (Term.int_eval (1)) rfl), trivial⟩ ⟨hq.1, hq.2.1, (hq.2.2.sift fun y hy => Or.inr (N y hy)).mono (by decide) (by decide)⟩⟩
theorem main_1_1 : Claimed_1_1 := comes_1 fun _ _ _ _ _ _ h hF => ⟨h.1, hF⟩
theorem main_1_2 : Claimed_1_2 := comes_1 fun _ _ _ _ _ _ h hF => ⟨h.2.1, hF⟩
end Jvm.Pilot.@@N@@
namespace Jvm.Pilot.@@N@@
open Jvm Jvm.ClassFile Sem Op Lib Jvm.Free Jvm.Stand Jvm.Pilot.@@N@@.Jvm.D
/-! MADE BY PROGRAM (witnessworld.py) out of the Statement's table words and the real class files: 15 classes; the members and pool entries that the words name. The judged class is class 1, her method 1. -/
namespace start1
open Jvm.ClassFile
def u (s : String) : CpInfo := .utf8 (stringToUtf16 s)
/-- a pool by its gaps: so many unusable entries, then the entry; so many at the end -/
def gap : Nat → List CpInfo → List CpInfo
  | 0, r => r
  | n + 1, r => .unusable :: gap n r
def poolList (es : List (Nat × CpInfo)) (last : Nat) : List CpInfo := es.foldr (fun e r => gap e.1 (e.2 :: r)) (gap last [])
def pool (es : List (Nat × CpInfo)) (last : Nat) : Array CpInfo := ⟨poolList es last⟩
def fileOf (pool : Array CpInfo) (this : Nat) (attrs : Array Attribute := #[]) (ms : Array MethodInfo := #[]) (fl : Nat := 33) (sup : Nat := 0) (ifs : Array Nat := #[]) (fds : Array FieldInfo := #[]) : ClassFile where
  minorVersion := 0
  majorVersion := 65
  constantPool := pool
  accessFlags := fl
  thisClass := this
  superClass := sup
  interfaces := ifs
  fields := fds
  methods := ms
  attributes := attrs
def plain (name : String) (sup : Option ClassId) : Class where
  name := name
  kind := .ordinary
  loader := none
  accessFlags := 33
  super := sup
  interfaces := #[]
  cf := none
  fields := #[]
  methods := #[]
  instanceTypes := #[]
  staticTypes := #[]
  resolved := #[]
  callSites := []
  init := .initialized
  statics := none
  mirror := none

def pool0 : Array CpInfo := pool [(5, u "<init>"), (0, u "()V"), (1, .class_ 10), (1, u "java/lang/Object")] 113

def k0c0 : Code := { maxStack := 0, maxLocals := 1, code := object_method_1_code, exceptionTable := #[], attributes := #[] }
def k0m0 : Method := { name := "<init>", desc := "()V", sig := { parameters := [], returnType := none }, accessFlags := 1, code := some k0c0 }
/-- java/lang/Object -/
def k0 : Class := { plain "java/lang/Object" none with
  accessFlags := 33
  interfaces := #[]
  cf := some (fileOf pool0 8 #[] #[{ accessFlags := 1, nameIndex := 5, descriptorIndex := 6, attributes := #[] }] 33 0 #[] #[])
  fields := #[]
  methods := #[k0m0]
  instanceTypes := #[]
  staticTypes := #[]
  resolved := Array.replicate 124 none
  statics := none }

def pool1 : Array CpInfo := pool [(2, .class_ 4), (1, u "java/lang/Object"), (0, u "<init>"), (0, u "()V"), (0, .integer 2147483647), (0, .class_ 9), (0, u "com/example/parallel_el/parallelel/reasoning/Context"), (0, .methodref 8 11), (0, .nameAndType 5 12), (0, u "(II)V"), (0, .methodref 8 14), (0, .nameAndType 15 16), (0, u "addSubsumer"), (0, u "(I)Z"), (0, .methodref 8 18), (0, .nameAndType 19 20), (0, u "addPredecessor"), (0, u "(II)Z"), (0, .methodref 8 22), (0, .nameAndType 23 20), (0, u "addSuccessor"), (0, .methodref 8 25), (0, .nameAndType 26 6), (0, u "forgetNewFacts"), (0, .fieldref 8 28), (0, .nameAndType 29 30), (0, u "newSubsumers"), (0, u "Lcom/example/parallel_el/parallelel/util/IntList;"), (0, .methodref 32 33), (0, .class_ 34), (0, .nameAndType 35 36), (0, u "com/example/parallel_el/parallelel/util/IntList"), (0, u "size"), (0, u "()I"), (0, .fieldref 8 38), (0, .nameAndType 39 30), (0, u "newPredecessors"), (0, .fieldref 8 41), (0, .nameAndType 42 30), (0, u "newSuccessors"), (0, .fieldref 8 44), (0, .nameAndType 45 46), (0, u "subsumers"), (0, u "Lcom/example/parallel_el/parallelel/util/IntSet;"), (0, .methodref 48 49), (0, .class_ 50), (0, .nameAndType 51 16), (0, u "com/example/parallel_el/parallelel/util/IntSet"), (0, u "contains"), (0, .methodref 48 33), (0, .methodref 8 54), (0, .nameAndType 55 56), (0, u "predecessors"), (0, u "(I)Lcom/example/parallel_el/parallelel/util/IntSet;"), (0, .methodref 8 58), (0, .nameAndType 59 56), (0, u "successors"), (0, .fieldref 8 61), (0, .nameAndType 62 63), (0, u "concept"), (0, u "I"), (0, .class_ 65), (0, u "com/example/parallel_el/parallelel/reasoning/ContextForgetNewFactsPinLaw"), (2, u "law"), (0, u "(IIIIII)Z")] 3

def k1m0 : Method := { name := "<init>", desc := "()V", sig := { parameters := [], returnType := none }, accessFlags := 1, code := none }
def k1c1 : Code := { maxStack := 4, maxLocals := 21, code := code, exceptionTable := #[], attributes := #[] }
def k1m1 : Method := { name := "law", desc := "(IIIIII)Z", sig := { parameters := [.int, .int, .int, .int, .int, .int], returnType := some .boolean }, accessFlags := 9, code := some k1c1 }
/-- com/example/parallel_el/parallelel/reasoning/ContextForgetNewFactsPinLaw -/
def k1 : Class := { plain "com/example/parallel_el/parallelel/reasoning/ContextForgetNewFactsPinLaw" (some 0) with
  accessFlags := 49
  interfaces := #[]
  cf := some (fileOf pool1 64 #[] #[{ accessFlags := 1, nameIndex := 5, descriptorIndex := 6, attributes := #[] }, { accessFlags := 9, nameIndex := 68, descriptorIndex := 69, attributes := #[] }] 49 2 #[] #[])
  fields := #[]
  methods := #[k1m0, k1m1]
  instanceTypes := #[]
  staticTypes := #[]
  resolved := Array.replicate 73 none
  statics := none }

def pool2 : Array CpInfo := pool [(1, .methodref 2 3), (0, .class_ 4), (0, .nameAndType 5 6), (0, u "java/lang/Object"), (0, u "<init>"), (0, u "()V"), (0, .class_ 8), (0, u "com/example/parallel_el/parallelel/util/IntSet"), (0, .methodref 7 3), (0, .fieldref 11 12), (0, .class_ 13), (0, .nameAndType 14 15), (0, u "com/example/parallel_el/parallelel/reasoning/Context"), (0, u "subsumers"), (0, u "Lcom/example/parallel_el/parallelel/util/IntSet;"), (0, .class_ 17), (0, u "com/example/parallel_el/parallelel/util/IntList"), (0, .methodref 16 3), (0, .fieldref 11 20), (0, .nameAndType 21 22), (0, u "newSubsumers"), (0, u "Lcom/example/parallel_el/parallelel/util/IntList;"), (0, .fieldref 11 24), (0, .nameAndType 25 22), (0, u "newPredecessors"), (0, .fieldref 11 27), (0, .nameAndType 28 22), (0, u "newSuccessors"), (0, .fieldref 11 30), (0, .nameAndType 31 32), (0, u "concept"), (0, u "I"), (0, .fieldref 11 34), (0, .nameAndType 35 32), (0, u "roleCount"), (0, .fieldref 11 37), (0, .nameAndType 38 39), (0, u "predecessors"), (0, u "[Lcom/example/parallel_el/parallelel/util/IntSet;"), (0, .fieldref 11 41), (0, .nameAndType 42 39), (0, u "successors"), (0, .methodref 7 44), (0, .nameAndType 45 46), (0, u "add"), (0, u "(I)Z"), (0, .methodref 16 48), (0, .nameAndType 45 49), (0, u "(I)V"), (0, .methodref 11 51), (0, .nameAndType 52 53), (0, u "addLink"), (0, u "([Lcom/example/parallel_el/parallelel/util/IntSet;Lcom/example/parallel_el/parallelel/util/IntList;II)Z"), (0, .methodref 16 55), (0, .nameAndType 45 56), (0, u "(II)V"), (0, .methodref 16 58), (0, .nameAndType 59 6), (0, u "clear"), (0, u "queued"), (0, u "Z"), (2, u "(I)Lcom/example/parallel_el/parallelel/util/IntSet;"), (1, u "addSubsumer"), (0, u "addPredecessor"), (0, u "(II)Z"), (0, u "addSuccessor"), (0, u "forgetNewFacts")] 2

def k2c0 : Code := { maxStack := 3, maxLocals := 3, code := prog_7_method_1_code, exceptionTable := #[], attributes := #[] }
def k2m0 : Method := { name := "<init>", desc := "(II)V", sig := { parameters := [.int, .int], returnType := none }, accessFlags := 0, code := some k2c0 }
def k2c1 : Code := { maxStack := 2, maxLocals := 2, code := prog_7_method_2_code, exceptionTable := #[], attributes := #[] }
def k2m1 : Method := { name := "predecessors", desc := "(I)Lcom/example/parallel_el/parallelel/util/IntSet;", sig := { parameters := [.int], returnType := some (.object "com/example/parallel_el/parallelel/util/IntSet") }, accessFlags := 0, code := some k2c1 }
def k2c2 : Code := { maxStack := 2, maxLocals := 2, code := prog_7_method_3_code, exceptionTable := #[], attributes := #[] }
def k2m2 : Method := { name := "successors", desc := "(I)Lcom/example/parallel_el/parallelel/util/IntSet;", sig := { parameters := [.int], returnType := some (.object "com/example/parallel_el/parallelel/util/IntSet") }, accessFlags := 0, code := some k2c2 }
def k2c3 : Code := { maxStack := 2, maxLocals := 2, code := prog_7_method_4_code, exceptionTable := #[], attributes := #[] }
def k2m3 : Method := { name := "addSubsumer", desc := "(I)Z", sig := { parameters := [.int], returnType := some .boolean }, accessFlags := 0, code := some k2c3 }
def k2c4 : Code := { maxStack := 4, maxLocals := 3, code := prog_7_method_5_code, exceptionTable := #[], attributes := #[] }
def k2m4 : Method := { name := "addPredecessor", desc := "(II)Z", sig := { parameters := [.int, .int], returnType := some .boolean }, accessFlags := 0, code := some k2c4 }
def k2c5 : Code := { maxStack := 4, maxLocals := 3, code := prog_7_method_6_code, exceptionTable := #[], attributes := #[] }
def k2m5 : Method := { name := "addSuccessor", desc := "(II)Z", sig := { parameters := [.int, .int], returnType := some .boolean }, accessFlags := 0, code := some k2c5 }
def k2c6 : Code := { maxStack := 4, maxLocals := 4, code := prog_7_method_7_code, exceptionTable := #[], attributes := #[] }
def k2m6 : Method := { name := "addLink", desc := "([Lcom/example/parallel_el/parallelel/util/IntSet;Lcom/example/parallel_el/parallelel/util/IntList;II)Z", sig := { parameters := [(.array (.object "com/example/parallel_el/parallelel/util/IntSet")), (.object "com/example/parallel_el/parallelel/util/IntList"), .int, .int], returnType := some .boolean }, accessFlags := 10, code := some k2c6 }
def k2c7 : Code := { maxStack := 1, maxLocals := 1, code := prog_7_method_8_code, exceptionTable := #[], attributes := #[] }
def k2m7 : Method := { name := "forgetNewFacts", desc := "()V", sig := { parameters := [], returnType := none }, accessFlags := 0, code := some k2c7 }
/-- com/example/parallel_el/parallelel/reasoning/Context -/
def k2 : Class := { plain "com/example/parallel_el/parallelel/reasoning/Context" (some 0) with
  accessFlags := 48
  interfaces := #[]
  cf := some (fileOf pool2 11 #[] #[{ accessFlags := 0, nameIndex := 5, descriptorIndex := 56, attributes := #[] }, { accessFlags := 0, nameIndex := 38, descriptorIndex := 64, attributes := #[] }, { accessFlags := 0, nameIndex := 42, descriptorIndex := 64, attributes := #[] }, { accessFlags := 0, nameIndex := 66, descriptorIndex := 46, attributes := #[] }, { accessFlags := 0, nameIndex := 67, descriptorIndex := 68, attributes := #[] }, { accessFlags := 0, nameIndex := 69, descriptorIndex := 68, attributes := #[] }, { accessFlags := 10, nameIndex := 52, descriptorIndex := 53, attributes := #[] }, { accessFlags := 0, nameIndex := 70, descriptorIndex := 6, attributes := #[] }] 48 2 #[] #[{ accessFlags := 16, nameIndex := 31, descriptorIndex := 32, attributes := #[] }, { accessFlags := 16, nameIndex := 14, descriptorIndex := 15, attributes := #[] }, { accessFlags := 16, nameIndex := 21, descriptorIndex := 22, attributes := #[] }, { accessFlags := 16, nameIndex := 25, descriptorIndex := 22, attributes := #[] }, { accessFlags := 16, nameIndex := 28, descriptorIndex := 22, attributes := #[] }, { accessFlags := 0, nameIndex := 60, descriptorIndex := 61, attributes := #[] }, { accessFlags := 18, nameIndex := 35, descriptorIndex := 32, attributes := #[] }, { accessFlags := 2, nameIndex := 38, descriptorIndex := 39, attributes := #[] }, { accessFlags := 2, nameIndex := 42, descriptorIndex := 39, attributes := #[] }])
  fields := #[{ name := "concept", type := .int, accessFlags := 16, slot := 0, constantValue := 0 }, { name := "subsumers", type := (.object "com/example/parallel_el/parallelel/util/IntSet"), accessFlags := 16, slot := 1, constantValue := 0 }, { name := "newSubsumers", type := (.object "com/example/parallel_el/parallelel/util/IntList"), accessFlags := 16, slot := 2, constantValue := 0 }, { name := "newPredecessors", type := (.object "com/example/parallel_el/parallelel/util/IntList"), accessFlags := 16, slot := 3, constantValue := 0 }, { name := "newSuccessors", type := (.object "com/example/parallel_el/parallelel/util/IntList"), accessFlags := 16, slot := 4, constantValue := 0 }, { name := "queued", type := .boolean, accessFlags := 0, slot := 5, constantValue := 0 }, { name := "roleCount", type := .int, accessFlags := 18, slot := 6, constantValue := 0 }, { name := "predecessors", type := (.array (.object "com/example/parallel_el/parallelel/util/IntSet")), accessFlags := 2, slot := 7, constantValue := 0 }, { name := "successors", type := (.array (.object "com/example/parallel_el/parallelel/util/IntSet")), accessFlags := 2, slot := 8, constantValue := 0 }]
  methods := #[k2m0, k2m1, k2m2, k2m3, k2m4, k2m5, k2m6, k2m7]
  instanceTypes := #[.int, (.object "com/example/parallel_el/parallelel/util/IntSet"), (.object "com/example/parallel_el/parallelel/util/IntList"), (.object "com/example/parallel_el/parallelel/util/IntList"), (.object "com/example/parallel_el/parallelel/util/IntList"), .boolean, .int, (.array (.object "com/example/parallel_el/parallelel/util/IntSet")), (.array (.object "com/example/parallel_el/parallelel/util/IntSet"))]
  staticTypes := #[]
  resolved := Array.replicate 73 none
  statics := none }

def pool3 : Array CpInfo := pool [(1, .methodref 2 3), (0, .class_ 4), (0, .nameAndType 5 6), (0, u "java/lang/Object"), (0, u "<init>"), (0, u "()V"), (0, .methodref 8 9), (0, .class_ 10), (0, .nameAndType 11 12), (0, u "com/example/parallel_el/parallelel/util/IntSet"), (0, u "newSlots"), (0, u "(I)[I"), (0, .fieldref 8 14), (0, .nameAndType 15 16), (0, u "slots"), (0, u "[I"), (9, .fieldref 8 27), (0, .nameAndType 28 29), (0, u "size"), (0, u "I"), (3, .methodref 8 34), (0, .nameAndType 35 36), (0, u "slotOf"), (0, u "(I)I"), (7, .class_ 46), (1, u "java/util/Arrays"), (2, .methodref 8 50), (0, .nameAndType 51 36), (0, u "hash"), (0, .methodref 44 53), (0, .nameAndType 54 55), (0, u "fill"), (0, u "([II)V"), (0, .integer 2654435769), (0, u "EMPTY"), (4, u "add"), (0, u "(I)Z"), (1, u "contains"), (0, u "()I")] 22

def k3c0 : Code := { maxStack := 2, maxLocals := 1, code := prog_26_method_1_code, exceptionTable := #[], attributes := #[] }
def k3m0 : Method := { name := "<init>", desc := "()V", sig := { parameters := [], returnType := none }, accessFlags := 1, code := some k3c0 }
def k3c1 : Code := { maxStack := 3, maxLocals := 3, code := prog_26_method_2_code, exceptionTable := #[], attributes := #[] }
def k3m1 : Method := { name := "add", desc := "(I)Z", sig := { parameters := [.int], returnType := some .boolean }, accessFlags := 1, code := some k3c1 }
def k3c2 : Code := { maxStack := 3, maxLocals := 2, code := prog_26_method_3_code, exceptionTable := #[], attributes := #[] }
def k3m2 : Method := { name := "contains", desc := "(I)Z", sig := { parameters := [.int], returnType := some .boolean }, accessFlags := 1, code := some k3c2 }
def k3c3 : Code := { maxStack := 1, maxLocals := 1, code := prog_26_method_4_code, exceptionTable := #[], attributes := #[] }
def k3m3 : Method := { name := "size", desc := "()I", sig := { parameters := [], returnType := some .int }, accessFlags := 1, code := some k3c3 }
def k3c4 : Code := { maxStack := 2, maxLocals := 4, code := prog_26_method_8_code, exceptionTable := #[], attributes := #[] }
def k3m4 : Method := { name := "slotOf", desc := "(I)I", sig := { parameters := [.int], returnType := some .int }, accessFlags := 2, code := some k3c4 }
def k3c5 : Code := { maxStack := 2, maxLocals := 2, code := prog_26_method_9_code, exceptionTable := #[], attributes := #[] }
def k3m5 : Method := { name := "newSlots", desc := "(I)[I", sig := { parameters := [.int], returnType := some (.array .int) }, accessFlags := 10, code := some k3c5 }
def k3c6 : Code := { maxStack := 3, maxLocals := 2, code := prog_26_method_10_code, exceptionTable := #[], attributes := #[] }
def k3m6 : Method := { name := "hash", desc := "(I)I", sig := { parameters := [.int], returnType := some .int }, accessFlags := 10, code := some k3c6 }
/-- com/example/parallel_el/parallelel/util/IntSet -/
def k3 : Class := { plain "com/example/parallel_el/parallelel/util/IntSet" (some 0) with
  accessFlags := 49
  interfaces := #[]
  cf := some (fileOf pool3 8 #[] #[{ accessFlags := 1, nameIndex := 5, descriptorIndex := 6, attributes := #[] }, { accessFlags := 1, nameIndex := 62, descriptorIndex := 63, attributes := #[] }, { accessFlags := 1, nameIndex := 65, descriptorIndex := 63, attributes := #[] }, { accessFlags := 1, nameIndex := 28, descriptorIndex := 66, attributes := #[] }, { accessFlags := 2, nameIndex := 35, descriptorIndex := 36, attributes := #[] }, { accessFlags := 10, nameIndex := 11, descriptorIndex := 12, attributes := #[] }, { accessFlags := 10, nameIndex := 51, descriptorIndex := 36, attributes := #[] }] 49 2 #[] #[{ accessFlags := 26, nameIndex := 57, descriptorIndex := 29, attributes := #[] }, { accessFlags := 2, nameIndex := 15, descriptorIndex := 16, attributes := #[] }, { accessFlags := 2, nameIndex := 28, descriptorIndex := 29, attributes := #[] }])
  fields := #[{ name := "EMPTY", type := .int, accessFlags := 26, slot := 0, constantValue := 0 }, { name := "slots", type := (.array .int), accessFlags := 2, slot := 0, constantValue := 0 }, { name := "size", type := .int, accessFlags := 2, slot := 1, constantValue := 0 }]
  methods := #[k3m0, k3m1, k3m2, k3m3, k3m4, k3m5, k3m6]
  instanceTypes := #[(.array .int), .int]
  staticTypes := #[.int]
  resolved := Array.replicate 89 none
  statics := none }

def pool4 : Array CpInfo := pool [(2, .class_ 4), (1, u "java/lang/Object"), (0, u "<init>"), (0, u "()V"), (7, .class_ 16), (1, u "java/util/Arrays"), (57, .class_ 76), (1, u "java/util/Arrays$NaturalOrder"), (36, .class_ 115), (1, u "java/util/Arrays$LegacyMergeSort"), (1, u "Z"), (32, .methodref 151 152), (0, .class_ 153), (0, .nameAndType 154 155), (0, u "java/lang/System"), (0, u "arraycopy"), (0, u "(Ljava/lang/Object;ILjava/lang/Object;II)V"), (146, u "copyOf"), (1, .methodref 305 306), (0, .class_ 307), (0, .nameAndType 308 309), (0, u "java/lang/Math"), (0, u "min"), (0, u "(II)I"), (65, .class_ 376), (0, u "java/util/Arrays$ArrayList"), (68, u "$assertionsDisabled"), (269, u "MIN_ARRAY_SORT_GRAN"), (0, u "I"), (2, u "INSERTIONSORT_THRESHOLD"), (120, u "fill"), (4, u "([II)V"), (25, u "([II)[I"), (103, .class_ 976), (0, u "java/util/Arrays$ArrayItr")] 52

def k4m0 : Method := { name := "<init>", desc := "()V", sig := { parameters := [], returnType := none }, accessFlags := 2, code := none }
def k4c1 : Code := { maxStack := 3, maxLocals := 4, code := jdk_65_method_103_code, exceptionTable := #[], attributes := #[] }
def k4m1 : Method := { name := "fill", desc := "([II)V", sig := { parameters := [(.array .int), .int], returnType := none }, accessFlags := 9, code := some k4c1 }
def k4c2 : Code := { maxStack := 6, maxLocals := 3, code := jdk_65_method_123_code, exceptionTable := #[], attributes := #[] }
def k4m2 : Method := { name := "copyOf", desc := "([II)[I", sig := { parameters := [(.array .int), .int], returnType := some (.array .int) }, accessFlags := 9, code := some k4c2 }
/-- java/util/Arrays -/
def k4 : Class := { plain "java/util/Arrays" (some 0) with
  accessFlags := 49
  interfaces := #[]
  cf := some (fileOf pool4 14 #[.nestMembers #[975, 375, 113, 74]] #[{ accessFlags := 2, nameIndex := 5, descriptorIndex := 6, attributes := #[] }, { accessFlags := 9, nameIndex := 840, descriptorIndex := 845, attributes := #[] }, { accessFlags := 9, nameIndex := 302, descriptorIndex := 871, attributes := #[] }] 49 2 #[] #[{ accessFlags := 26, nameIndex := 715, descriptorIndex := 716, attributes := #[] }, { accessFlags := 26, nameIndex := 719, descriptorIndex := 716, attributes := #[] }, { accessFlags := 4120, nameIndex := 445, descriptorIndex := 117, attributes := #[] }])
  fields := #[{ name := "MIN_ARRAY_SORT_GRAN", type := .int, accessFlags := 26, slot := 0, constantValue := 0 }, { name := "INSERTIONSORT_THRESHOLD", type := .int, accessFlags := 26, slot := 1, constantValue := 0 }, { name := "$assertionsDisabled", type := .boolean, accessFlags := 4120, slot := 2, constantValue := 0 }]
  methods := #[k4m0, k4m1, k4m2]
  instanceTypes := #[]
  staticTypes := #[.int, .int, .boolean]
  resolved := Array.replicate 1029 none
  statics := none }

def pool5 : Array CpInfo := pool [(1, .methodref 2 3), (0, .class_ 4), (0, .nameAndType 5 6), (0, u "java/lang/Object"), (0, u "<init>"), (0, u "()V"), (0, .fieldref 8 9), (0, .class_ 10), (0, .nameAndType 11 12), (0, u "com/example/parallel_el/parallelel/util/IntList"), (0, u "NONE"), (0, u "[I"), (0, .fieldref 8 14), (0, .nameAndType 15 12), (0, u "values"), (0, .fieldref 8 17), (0, .nameAndType 18 19), (0, u "size"), (0, u "I"), (0, .methodref 21 22), (0, .class_ 23), (0, .nameAndType 24 25), (0, u "java/lang/Math"), (0, u "max"), (0, u "(II)I"), (0, .methodref 27 28), (0, .class_ 29), (0, .nameAndType 30 31), (0, u "java/util/Arrays"), (0, u "copyOf"), (0, u "([II)[I"), (0, .methodref 8 33), (0, .nameAndType 34 35), (0, u "add"), (0, u "(I)V"), (7, u "(II)V"), (3, u "()I"), (0, u "clear")] 6

def k5c0 : Code := { maxStack := 2, maxLocals := 1, code := prog_25_method_1_code, exceptionTable := #[], attributes := #[] }
def k5m0 : Method := { name := "<init>", desc := "()V", sig := { parameters := [], returnType := none }, accessFlags := 1, code := some k5c0 }
def k5c1 : Code := { maxStack := 5, maxLocals := 2, code := prog_25_method_2_code, exceptionTable := #[], attributes := #[] }
def k5m1 : Method := { name := "add", desc := "(I)V", sig := { parameters := [.int], returnType := none }, accessFlags := 1, code := some k5c1 }
def k5c2 : Code := { maxStack := 2, maxLocals := 3, code := prog_25_method_3_code, exceptionTable := #[], attributes := #[] }
def k5m2 : Method := { name := "add", desc := "(II)V", sig := { parameters := [.int, .int], returnType := none }, accessFlags := 1, code := some k5c2 }
def k5c3 : Code := { maxStack := 1, maxLocals := 1, code := prog_25_method_6_code, exceptionTable := #[], attributes := #[] }
def k5m3 : Method := { name := "size", desc := "()I", sig := { parameters := [], returnType := some .int }, accessFlags := 1, code := some k5c3 }
def k5c4 : Code := { maxStack := 2, maxLocals := 1, code := prog_25_method_7_code, exceptionTable := #[], attributes := #[] }
def k5m4 : Method := { name := "clear", desc := "()V", sig := { parameters := [], returnType := none }, accessFlags := 1, code := some k5c4 }
/-- com/example/parallel_el/parallelel/util/IntList -/
def k5 : Class := { plain "com/example/parallel_el/parallelel/util/IntList" (some 0) with
  accessFlags := 49
  interfaces := #[]
  cf := some (fileOf pool5 8 #[] #[{ accessFlags := 1, nameIndex := 5, descriptorIndex := 6, attributes := #[] }, { accessFlags := 1, nameIndex := 34, descriptorIndex := 35, attributes := #[] }, { accessFlags := 1, nameIndex := 34, descriptorIndex := 43, attributes := #[] }, { accessFlags := 1, nameIndex := 18, descriptorIndex := 47, attributes := #[] }, { accessFlags := 1, nameIndex := 48, descriptorIndex := 6, attributes := #[] }] 49 2 #[] #[{ accessFlags := 26, nameIndex := 11, descriptorIndex := 12, attributes := #[] }, { accessFlags := 2, nameIndex := 15, descriptorIndex := 12, attributes := #[] }, { accessFlags := 2, nameIndex := 18, descriptorIndex := 19, attributes := #[] }])
  fields := #[{ name := "NONE", type := (.array .int), accessFlags := 26, slot := 0, constantValue := 0 }, { name := "values", type := (.array .int), accessFlags := 2, slot := 0, constantValue := 0 }, { name := "size", type := .int, accessFlags := 2, slot := 1, constantValue := 0 }]
  methods := #[k5m0, k5m1, k5m2, k5m3, k5m4]
  instanceTypes := #[(.array .int), .int]
  staticTypes := #[(.array .int)]
  resolved := Array.replicate 55 none
  statics := some 0 }

def pool6 : Array CpInfo := pool [(1, .class_ 2), (0, u "java/lang/Math"), (1, .class_ 6), (1, u "java/lang/Object"), (0, u "<init>"), (0, u "()V"), (89, .class_ 100), (1, u "java/lang/Math$RandomNumberGeneratorHolder"), (71, u "negativeZeroFloatBits"), (0, u "J"), (2, u "negativeZeroDoubleBits"), (21, u "max"), (2, u "min"), (43, u "$assertionsDisabled"), (0, u "Z"), (88, u "(II)I"), (2, u "twoToTheDoubleScaleDown"), (0, u "D"), (4, u "twoToTheDoubleScaleUp"), (9, u "E"), (3, u "PI"), (2, u "TAU"), (2, u "DEGREES_TO_RADIANS"), (0, u "RADIANS_TO_DEGREES")] 94

def k6m0 : Method := { name := "<init>", desc := "()V", sig := { parameters := [], returnType := none }, accessFlags := 2, code := none }
def k6c1 : Code := { maxStack := 2, maxLocals := 2, code := jdk_29_method_65_code, exceptionTable := #[], attributes := #[] }
def k6m1 : Method := { name := "max", desc := "(II)I", sig := { parameters := [.int, .int], returnType := some .int }, accessFlags := 9, code := some k6c1 }
def k6c2 : Code := { maxStack := 2, maxLocals := 2, code := jdk_29_method_69_code, exceptionTable := #[], attributes := #[] }
def k6m2 : Method := { name := "min", desc := "(II)I", sig := { parameters := [.int, .int], returnType := some .int }, accessFlags := 9, code := some k6c2 }
/-- java/lang/Math -/
def k6 : Class := { plain "java/lang/Math" (some 0) with
  accessFlags := 49
  interfaces := #[]
  cf := some (fileOf pool6 1 #[.nestMembers #[98]] #[{ accessFlags := 2, nameIndex := 7, descriptorIndex := 8, attributes := #[] }, { accessFlags := 9, nameIndex := 198, descriptorIndex := 335, attributes := #[] }, { accessFlags := 9, nameIndex := 201, descriptorIndex := 335, attributes := #[] }] 49 4 #[] #[{ accessFlags := 25, nameIndex := 354, descriptorIndex := 339, attributes := #[] }, { accessFlags := 25, nameIndex := 358, descriptorIndex := 339, attributes := #[] }, { accessFlags := 25, nameIndex := 361, descriptorIndex := 339, attributes := #[] }, { accessFlags := 26, nameIndex := 364, descriptorIndex := 339, attributes := #[] }, { accessFlags := 26, nameIndex := 365, descriptorIndex := 339, attributes := #[] }, { accessFlags := 26, nameIndex := 172, descriptorIndex := 173, attributes := #[] }, { accessFlags := 26, nameIndex := 176, descriptorIndex := 173, attributes := #[] }, { accessFlags := 8, nameIndex := 344, descriptorIndex := 339, attributes := #[] }, { accessFlags := 8, nameIndex := 338, descriptorIndex := 339, attributes := #[] }, { accessFlags := 4120, nameIndex := 245, descriptorIndex := 246, attributes := #[] }])
  fields := #[{ name := "E", type := .double, accessFlags := 25, slot := 0, constantValue := 0 }, { name := "PI", type := .double, accessFlags := 25, slot := 1, constantValue := 0 }, { name := "TAU", type := .double, accessFlags := 25, slot := 2, constantValue := 0 }, { name := "DEGREES_TO_RADIANS", type := .double, accessFlags := 26, slot := 3, constantValue := 0 }, { name := "RADIANS_TO_DEGREES", type := .double, accessFlags := 26, slot := 4, constantValue := 0 }, { name := "negativeZeroFloatBits", type := .long, accessFlags := 26, slot := 5, constantValue := 0 }, { name := "negativeZeroDoubleBits", type := .long, accessFlags := 26, slot := 6, constantValue := 0 }, { name := "twoToTheDoubleScaleUp", type := .double, accessFlags := 8, slot := 7, constantValue := 0 }, { name := "twoToTheDoubleScaleDown", type := .double, accessFlags := 8, slot := 8, constantValue := 0 }, { name := "$assertionsDisabled", type := .boolean, accessFlags := 4120, slot := 9, constantValue := 0 }]
  methods := #[k6m0, k6m1, k6m2]
  instanceTypes := #[]
  staticTypes := #[.double, .double, .double, .double, .double, .long, .long, .double, .double, .boolean]
  resolved := Array.replicate 460 none
  statics := none }

def pool7 : Array CpInfo := pool [(2, .class_ 4), (1, u "java/lang/Object"), (0, u "<init>"), (0, u "()V"), (1, .class_ 10), (1, u "java/lang/System"), (0, u "allowSecurityManager"), (0, u "I"), (16, u "cons"), (0, u "Ljava/io/Console;"), (77, .class_ 110), (1, u "java/lang/System$CallersHolder"), (43, u "initialErrStream"), (0, u "Ljava/io/PrintStream;"), (19, u "security"), (0, u "Ljava/lang/SecurityManager;"), (31, .class_ 209), (0, u "java/lang/System$1"), (7, u "props"), (0, u "Ljava/util/Properties;"), (2, u "lineSeparator"), (0, u "Ljava/lang/String;"), (96, .class_ 321), (1, u "java/lang/System$LoggerFinder"), (5, .class_ 328), (0, u "java/lang/System$Logger"), (67, u "err"), (2, u "out"), (91, u "notSupportedJnuEncoding"), (15, u "in"), (17, u "initialIn"), (0, u "Ljava/io/InputStream;"), (35, u "bootLayer"), (0, u "Ljava/lang/ModuleLayer;"), (99, .class_ 664), (0, u "java/lang/System$2"), (9, u "NEVER"), (2, u "MAYBE"), (49, u "arraycopy"), (0, u "(Ljava/lang/Object;ILjava/lang/Object;II)V"), (72, .class_ 802), (0, u "java/lang/System$Logger$Level")] 31

def k7m0 : Method := { name := "<init>", desc := "()V", sig := { parameters := [], returnType := none }, accessFlags := 2, code := none }
def k7m1 : Method := { name := "arraycopy", desc := "(Ljava/lang/Object;ILjava/lang/Object;II)V", sig := { parameters := [(.object "java/lang/Object"), .int, (.object "java/lang/Object"), .int, .int], returnType := none }, accessFlags := 265, code := none }
/-- java/lang/System -/
def k7 : Class := { plain "java/lang/System" (some 0) with
  accessFlags := 49
  interfaces := #[]
  cf := some (fileOf pool7 8 #[.nestMembers #[319, 327, 801, 108, 663, 208]] #[{ accessFlags := 2, nameIndex := 5, descriptorIndex := 6, attributes := #[] }, { accessFlags := 265, nameIndex := 727, descriptorIndex := 728, attributes := #[] }] 49 2 #[] #[{ accessFlags := 25, nameIndex := 507, descriptorIndex := 526, attributes := #[] }, { accessFlags := 25, nameIndex := 399, descriptorIndex := 155, attributes := #[] }, { accessFlags := 25, nameIndex := 396, descriptorIndex := 155, attributes := #[] }, { accessFlags := 10, nameIndex := 525, descriptorIndex := 526, attributes := #[] }, { accessFlags := 26, nameIndex := 674, descriptorIndex := 12, attributes := #[] }, { accessFlags := 26, nameIndex := 677, descriptorIndex := 12, attributes := #[] }, { accessFlags := 10, nameIndex := 11, descriptorIndex := 12, attributes := #[] }, { accessFlags := 74, nameIndex := 175, descriptorIndex := 176, attributes := #[] }, { accessFlags := 10, nameIndex := 491, descriptorIndex := 222, attributes := #[] }, { accessFlags := 74, nameIndex := 29, descriptorIndex := 30, attributes := #[] }, { accessFlags := 74, nameIndex := 154, descriptorIndex := 155, attributes := #[] }, { accessFlags := 10, nameIndex := 217, descriptorIndex := 218, attributes := #[] }, { accessFlags := 10, nameIndex := 221, descriptorIndex := 222, attributes := #[] }, { accessFlags := 8, nameIndex := 562, descriptorIndex := 563, attributes := #[] }])
  fields := #[{ name := "in", type := (.object "java/io/InputStream"), accessFlags := 25, slot := 0, constantValue := 0 }, { name := "out", type := (.object "java/io/PrintStream"), accessFlags := 25, slot := 1, constantValue := 0 }, { name := "err", type := (.object "java/io/PrintStream"), accessFlags := 25, slot := 2, constantValue := 0 }, { name := "initialIn", type := (.object "java/io/InputStream"), accessFlags := 10, slot := 3, constantValue := 0 }, { name := "NEVER", type := .int, accessFlags := 26, slot := 4, constantValue := 0 }, { name := "MAYBE", type := .int, accessFlags := 26, slot := 5, constantValue := 0 }, { name := "allowSecurityManager", type := .int, accessFlags := 10, slot := 6, constantValue := 0 }, { name := "security", type := (.object "java/lang/SecurityManager"), accessFlags := 74, slot := 7, constantValue := 0 }, { name := "notSupportedJnuEncoding", type := (.object "java/lang/String"), accessFlags := 10, slot := 8, constantValue := 0 }, { name := "cons", type := (.object "java/io/Console"), accessFlags := 74, slot := 9, constantValue := 0 }, { name := "initialErrStream", type := (.object "java/io/PrintStream"), accessFlags := 74, slot := 10, constantValue := 0 }, { name := "props", type := (.object "java/util/Properties"), accessFlags := 10, slot := 11, constantValue := 0 }, { name := "lineSeparator", type := (.object "java/lang/String"), accessFlags := 10, slot := 12, constantValue := 0 }, { name := "bootLayer", type := (.object "java/lang/ModuleLayer"), accessFlags := 8, slot := 13, constantValue := 0 }]
  methods := #[k7m0, k7m1]
  instanceTypes := #[]
  staticTypes := #[(.object "java/io/InputStream"), (.object "java/io/PrintStream"), (.object "java/io/PrintStream"), (.object "java/io/InputStream"), .int, .int, .int, (.object "java/lang/SecurityManager"), (.object "java/lang/String"), (.object "java/io/Console"), (.object "java/io/PrintStream"), (.object "java/util/Properties"), (.object "java/lang/String"), (.object "java/lang/ModuleLayer")]
  resolved := Array.replicate 834 none
  statics := none }

def pool8 : Array CpInfo := pool [(1, u "java/lang/Cloneable"), (0, .class_ 1), (0, u "java/lang/Object"), (0, .class_ 3)] 3

/-- java/lang/Cloneable -/
def k8 : Class := { plain "java/lang/Cloneable" (some 0) with
  accessFlags := 1537
  interfaces := #[]
  cf := some (fileOf pool8 2 #[] #[] 1537 4 #[] #[])
  fields := #[]
  methods := #[]
  instanceTypes := #[]
  staticTypes := #[]
  resolved := Array.replicate 8 none
  statics := none }

def pool9 : Array CpInfo := pool [(1, u "java/io/Serializable"), (0, .class_ 1), (0, u "java/lang/Object"), (0, .class_ 3)] 3

/-- java/io/Serializable -/
def k9 : Class := { plain "java/io/Serializable" (some 0) with
  accessFlags := 1537
  interfaces := #[]
  cf := some (fileOf pool9 2 #[] #[] 1537 4 #[] #[])
  fields := #[]
  methods := #[]
  instanceTypes := #[]
  staticTypes := #[]
  resolved := Array.replicate 8 none
  statics := none }

/-- the primitive byte -/
def k10 : Class := { plain "byte" none with kind := .primitive 'B', accessFlags := 0x411 }
/-- [B -/
def k11 : Class := { plain "[B" (some 0) with kind := .array 10 .byte, interfaces := #[8, 9], accessFlags := 1041 }

/-- the primitive int -/
def k12 : Class := { plain "int" none with kind := .primitive 'I', accessFlags := 0x411 }
/-- [I -/
def k13 : Class := { plain "[I" (some 0) with kind := .array 12 .int, interfaces := #[8, 9], accessFlags := 1041 }

/-- [Lcom/example/parallel_el/parallelel/util/IntSet; -/
def k14 : Class := { plain "[Lcom/example/parallel_el/parallelel/util/IntSet;" (some 0) with kind := .array 3 (.object "com/example/parallel_el/parallelel/util/IntSet"), interfaces := #[8, 9], accessFlags := 1041 }

def heap : Heap := #[{ cls := 5, slots := #[.ref 1], vm := .statics 5 },
  { cls := 13, slots := #[], vm := .none }]
def classes : Array Class := #[k0, k1, k2, k3, k4, k5, k6, k7, k8, k9, k10, k11, k12, k13, k14]
def interned : List (Array UInt16 × Addr) := []
def slotsUsed : Nat := 1
def theMethod : MethodId := ⟨1, 1⟩
def args0 : Array Value := #[.int 5, .int 7, .int 7, .int 9, .int 3, .int 7]
def aboutOver (below : List Frame) : State where
  vm := { classes := classes, interned := interned.toArray }
  heap := heap
  slotsUsed := slotsUsed
  threads := #[{ frames := .invoking theMethod args0 :: below }]
def below0 : List Frame := [.native { method := ⟨0, 0⟩, args := #[] }]
def about1 : State := aboutOver below0
def p0 : Program := .bare "" "" ""
def e0 : Env := launch0.env 0 0 0
theorem w_frames : about1.frames = Frame.invoking theMethod args0 :: below0 := rfl
set_option maxRecDepth 65536 in
theorem w_args : argsFit about1.vm theMethod args0 = true := by decide +kernel
set_option maxRecDepth 65536 in
theorem w_heap : heapFits about1 = true := by decide +kernel
set_option maxRecDepth 65536 in
theorem w_runnable : about1.curStatus? = some .runnable := by decide +kernel
set_option maxRecDepth 65536 in
theorem w_alone : about1.alone = true := by decide +kernel
set_option maxRecDepth 65536 in
theorem w_named : about1.methodNamed? x = some theMethod := by decide +kernel
set_option maxRecDepth 65536 in
theorem w_hears : about1.hears theMethod below0 = true := by decide +kernel
set_option maxRecDepth 65536 in
theorem w_ripe : about1.ripe theMethod args0 below0 = true := by decide +kernel
theorem w_running : about1.status = .running := rfl
set_option maxRecDepth 65536 in
theorem w_room : about1.hasRoom e0.platform room_1 = true :=
  launch0.hasRoom_least _ room_1 (by decide +kernel) (by decide +kernel) (by decide +kernel) (by decide +kernel) (by decide +kernel) (by decide +kernel)
theorem allAtoms_all (ts : List Jvm.Cond) (a : Array Jvm.Value) (st : Jvm.State) : (allAtoms ts).before a st = ts.all (fun c => c.before a st) := by
  induction ts with
  | nil => rfl
  | cons c t ih =>
    show (Jvm.Cond.and c (allAtoms t)).before a st = _
    rw [Jvm.Cond.before_and, ih, List.all_cons]
def words1 : List Jvm.Cond := Jvm.Cond.code x code maxLocals ret :: tables_1
/-- a 'code' word, met by the world's own term for the bytes: nothing is compared byte by byte -/
theorem code_word {y : MethodName} {bytes : ByteArray} {mx : Nat} {rt : Option FieldType} {a : Array Value} {s : State} {m : MethodId} {meth : Method} {c : Code} (h1 : s.methodNamed? y = some m) (h2 : s.vm.method? m = some meth) (h3 : meth.code = some c) (h4 : c.code = bytes)
    (h5 : (c.maxLocals == mx && c.exceptionTable.isEmpty && decide (c.maxStack ≤ mostOperands) && decide (meth.sig.returnType = rt) && !meth.locks && decide (parseMethodDescriptor y.desc = some meth.sig)) = true) : (Jvm.Cond.code y bytes mx rt).before a s = true := by
  simp only [Bool.and_eq_true, beq_iff_eq, Bool.not_eq_true', decide_eq_true_eq] at h5
  obtain ⟨⟨⟨⟨⟨g1, g2⟩, g3⟩, g4⟩, g5⟩, g6⟩ := h5
  simp [Cond.before, Cond.holds, Cond.value, h1, h2, h3, h4, g1, g2, g3, g4, g5, g6]
def isCode : Jvm.Cond → Bool
  | .code _ _ _ _ => true
  | _ => false
theorem all_split {L : List Jvm.Cond} {P : Jvm.Cond → Bool} (h1 : L.all (fun c => isCode c || P c) = true) (h2 : ∀ c ∈ L.filter isCode, P c = true) : L.all P = true := by
  refine List.all_eq_true.mpr fun c hc => ?_
  have h := List.all_eq_true.mp h1 c hc
  rcases Bool.eq_false_or_eq_true (isCode c) with hi | hi
  · exact h2 c (List.mem_filter.mpr ⟨hc, hi⟩)
  · simpa [hi] using h
set_option maxRecDepth 65536 in
theorem w_c0 : (Jvm.Cond.code x code maxLocals ret).before args0 about1 = true := code_word (m := ⟨1, 1⟩) (meth := k1m1) (c := k1c1) (by decide +kernel) rfl rfl rfl (by decide +kernel)
set_option maxRecDepth 65536 in
theorem w_c1 : (Jvm.Cond.code ({ cls := "com/example/parallel_el/parallelel/reasoning/Context", name := "<init>", desc := "(II)V" } : Jvm.MethodName) prog_7_method_1_code (3 : Nat) (Option.none : Option Jvm.ClassFile.FieldType)).before args0 about1 = true := code_word (m := ⟨2, 0⟩) (meth := k2m0) (c := k2c0) (by decide +kernel) rfl rfl rfl (by decide +kernel)
set_option maxRecDepth 65536 in
theorem w_c2 : (Jvm.Cond.code ({ cls := "java/lang/Object", name := "<init>", desc := "()V" } : Jvm.MethodName) object_method_1_code (1 : Nat) (Option.none : Option Jvm.ClassFile.FieldType)).before args0 about1 = true := code_word (m := ⟨0, 0⟩) (meth := k0m0) (c := k0c0) (by decide +kernel) rfl rfl rfl (by decide +kernel)
set_option maxRecDepth 65536 in
theorem w_c3 : (Jvm.Cond.code ({ cls := "com/example/parallel_el/parallelel/util/IntSet", name := "<init>", desc := "()V" } : Jvm.MethodName) prog_26_method_1_code (1 : Nat) (Option.none : Option Jvm.ClassFile.FieldType)).before args0 about1 = true := code_word (m := ⟨3, 0⟩) (meth := k3m0) (c := k3c0) (by decide +kernel) rfl rfl rfl (by decide +kernel)
set_option maxRecDepth 65536 in
theorem w_c4 : (Jvm.Cond.code ({ cls := "com/example/parallel_el/parallelel/util/IntSet", name := "newSlots", desc := "(I)[I" } : Jvm.MethodName) prog_26_method_9_code (2 : Nat) (Option.some (Jvm.ClassFile.FieldType.array Jvm.ClassFile.FieldType.int))).before args0 about1 = true := code_word (m := ⟨3, 5⟩) (meth := k3m5) (c := k3c5) (by decide +kernel) rfl rfl rfl (by decide +kernel)
set_option maxRecDepth 65536 in
theorem w_c5 : (Jvm.Cond.code ({ cls := "java/util/Arrays", name := "fill", desc := "([II)V" } : Jvm.MethodName) jdk_65_method_103_code (4 : Nat) (Option.none : Option Jvm.ClassFile.FieldType)).before args0 about1 = true := code_word (m := ⟨4, 1⟩) (meth := k4m1) (c := k4c1) (by decide +kernel) rfl rfl rfl (by decide +kernel)
set_option maxRecDepth 65536 in
theorem w_c6 : (Jvm.Cond.code ({ cls := "com/example/parallel_el/parallelel/util/IntList", name := "<init>", desc := "()V" } : Jvm.MethodName) prog_25_method_1_code (1 : Nat) (Option.none : Option Jvm.ClassFile.FieldType)).before args0 about1 = true := code_word (m := ⟨5, 0⟩) (meth := k5m0) (c := k5c0) (by decide +kernel) rfl rfl rfl (by decide +kernel)
set_option maxRecDepth 65536 in
theorem w_c7 : (Jvm.Cond.code ({ cls := "com/example/parallel_el/parallelel/reasoning/Context", name := "addPredecessor", desc := "(II)Z" } : Jvm.MethodName) prog_7_method_5_code (3 : Nat) (Option.some Jvm.ClassFile.FieldType.boolean)).before args0 about1 = true := code_word (m := ⟨2, 4⟩) (meth := k2m4) (c := k2c4) (by decide +kernel) rfl rfl rfl (by decide +kernel)
set_option maxRecDepth 65536 in
theorem w_c8 : (Jvm.Cond.code ({ cls := "com/example/parallel_el/parallelel/reasoning/Context", name := "addLink", desc := "([Lcom/example/parallel_el/parallelel/util/IntSet;Lcom/example/parallel_el/parallelel/util/IntList;II)Z" } : Jvm.MethodName) prog_7_method_7_code (4 : Nat) (Option.some Jvm.ClassFile.FieldType.boolean)).before args0 about1 = true := code_word (m := ⟨2, 6⟩) (meth := k2m6) (c := k2c6) (by decide +kernel) rfl rfl rfl (by decide +kernel)
set_option maxRecDepth 65536 in
theorem w_c9 : (Jvm.Cond.code ({ cls := "com/example/parallel_el/parallelel/util/IntSet", name := "add", desc := "(I)Z" } : Jvm.MethodName) prog_26_method_2_code (3 : Nat) (Option.some Jvm.ClassFile.FieldType.boolean)).before args0 about1 = true := code_word (m := ⟨3, 1⟩) (meth := k3m1) (c := k3c1) (by decide +kernel) rfl rfl rfl (by decide +kernel)
set_option maxRecDepth 65536 in
theorem w_c10 : (Jvm.Cond.code ({ cls := "com/example/parallel_el/parallelel/util/IntSet", name := "slotOf", desc := "(I)I" } : Jvm.MethodName) prog_26_method_8_code (4 : Nat) (Option.some Jvm.ClassFile.FieldType.int)).before args0 about1 = true := code_word (m := ⟨3, 4⟩) (meth := k3m4) (c := k3c4) (by decide +kernel) rfl rfl rfl (by decide +kernel)
set_option maxRecDepth 65536 in
theorem w_c11 : (Jvm.Cond.code ({ cls := "com/example/parallel_el/parallelel/util/IntSet", name := "hash", desc := "(I)I" } : Jvm.MethodName) prog_26_method_10_code (2 : Nat) (Option.some Jvm.ClassFile.FieldType.int)).before args0 about1 = true := code_word (m := ⟨3, 6⟩) (meth := k3m6) (c := k3c6) (by decide +kernel) rfl rfl rfl (by decide +kernel)
set_option maxRecDepth 65536 in
theorem w_c12 : (Jvm.Cond.code ({ cls := "com/example/parallel_el/parallelel/util/IntList", name := "add", desc := "(II)V" } : Jvm.MethodName) prog_25_method_3_code (3 : Nat) (Option.none : Option Jvm.ClassFile.FieldType)).before args0 about1 = true := code_word (m := ⟨5, 2⟩) (meth := k5m2) (c := k5c2) (by decide +kernel) rfl rfl rfl (by decide +kernel)
set_option maxRecDepth 65536 in
theorem w_c13 : (Jvm.Cond.code ({ cls := "com/example/parallel_el/parallelel/util/IntList", name := "add", desc := "(I)V" } : Jvm.MethodName) prog_25_method_2_code (2 : Nat) (Option.none : Option Jvm.ClassFile.FieldType)).before args0 about1 = true := code_word (m := ⟨5, 1⟩) (meth := k5m1) (c := k5c1) (by decide +kernel) rfl rfl rfl (by decide +kernel)
set_option maxRecDepth 65536 in
theorem w_c14 : (Jvm.Cond.code ({ cls := "java/lang/Math", name := "max", desc := "(II)I" } : Jvm.MethodName) jdk_29_method_65_code (2 : Nat) (Option.some Jvm.ClassFile.FieldType.int)).before args0 about1 = true := code_word (m := ⟨6, 1⟩) (meth := k6m1) (c := k6c1) (by decide +kernel) rfl rfl rfl (by decide +kernel)
set_option maxRecDepth 65536 in
theorem w_c15 : (Jvm.Cond.code ({ cls := "java/util/Arrays", name := "copyOf", desc := "([II)[I" } : Jvm.MethodName) jdk_65_method_123_code (3 : Nat) (Option.some (Jvm.ClassFile.FieldType.array Jvm.ClassFile.FieldType.int))).before args0 about1 = true := code_word (m := ⟨4, 2⟩) (meth := k4m2) (c := k4c2) (by decide +kernel) rfl rfl rfl (by decide +kernel)
set_option maxRecDepth 65536 in
theorem w_c16 : (Jvm.Cond.code ({ cls := "java/lang/Math", name := "min", desc := "(II)I" } : Jvm.MethodName) jdk_29_method_69_code (2 : Nat) (Option.some Jvm.ClassFile.FieldType.int)).before args0 about1 = true := code_word (m := ⟨6, 2⟩) (meth := k6m2) (c := k6c2) (by decide +kernel) rfl rfl rfl (by decide +kernel)
set_option maxRecDepth 65536 in
theorem w_c17 : (Jvm.Cond.code ({ cls := "com/example/parallel_el/parallelel/reasoning/Context", name := "forgetNewFacts", desc := "()V" } : Jvm.MethodName) prog_7_method_8_code (1 : Nat) (Option.none : Option Jvm.ClassFile.FieldType)).before args0 about1 = true := code_word (m := ⟨2, 7⟩) (meth := k2m7) (c := k2c7) (by decide +kernel) rfl rfl rfl (by decide +kernel)
set_option maxRecDepth 65536 in
theorem w_c18 : (Jvm.Cond.code ({ cls := "com/example/parallel_el/parallelel/util/IntList", name := "clear", desc := "()V" } : Jvm.MethodName) prog_25_method_7_code (1 : Nat) (Option.none : Option Jvm.ClassFile.FieldType)).before args0 about1 = true := code_word (m := ⟨5, 4⟩) (meth := k5m4) (c := k5c4) (by decide +kernel) rfl rfl rfl (by decide +kernel)
set_option maxRecDepth 65536 in
theorem w_c19 : (Jvm.Cond.code ({ cls := "com/example/parallel_el/parallelel/util/IntList", name := "size", desc := "()I" } : Jvm.MethodName) prog_25_method_6_code (1 : Nat) (Option.some Jvm.ClassFile.FieldType.int)).before args0 about1 = true := code_word (m := ⟨5, 3⟩) (meth := k5m3) (c := k5c3) (by decide +kernel) rfl rfl rfl (by decide +kernel)
set_option maxRecDepth 65536 in
theorem w_c20 : (Jvm.Cond.code ({ cls := "com/example/parallel_el/parallelel/util/IntSet", name := "contains", desc := "(I)Z" } : Jvm.MethodName) prog_26_method_3_code (2 : Nat) (Option.some Jvm.ClassFile.FieldType.boolean)).before args0 about1 = true := code_word (m := ⟨3, 2⟩) (meth := k3m2) (c := k3c2) (by decide +kernel) rfl rfl rfl (by decide +kernel)
set_option maxRecDepth 65536 in
theorem w_c21 : (Jvm.Cond.code ({ cls := "com/example/parallel_el/parallelel/util/IntSet", name := "size", desc := "()I" } : Jvm.MethodName) prog_26_method_4_code (1 : Nat) (Option.some Jvm.ClassFile.FieldType.int)).before args0 about1 = true := code_word (m := ⟨3, 3⟩) (meth := k3m3) (c := k3c3) (by decide +kernel) rfl rfl rfl (by decide +kernel)
set_option maxRecDepth 65536 in
theorem w_c22 : (Jvm.Cond.code ({ cls := "com/example/parallel_el/parallelel/reasoning/Context", name := "predecessors", desc := "(I)Lcom/example/parallel_el/parallelel/util/IntSet;" } : Jvm.MethodName) prog_7_method_2_code (2 : Nat) (Option.some (Jvm.ClassFile.FieldType.object "com/example/parallel_el/parallelel/util/IntSet"))).before args0 about1 = true := code_word (m := ⟨2, 1⟩) (meth := k2m1) (c := k2c1) (by decide +kernel) rfl rfl rfl (by decide +kernel)
set_option maxRecDepth 65536 in
theorem w_c23 : (Jvm.Cond.code ({ cls := "com/example/parallel_el/parallelel/reasoning/Context", name := "successors", desc := "(I)Lcom/example/parallel_el/parallelel/util/IntSet;" } : Jvm.MethodName) prog_7_method_3_code (2 : Nat) (Option.some (Jvm.ClassFile.FieldType.object "com/example/parallel_el/parallelel/util/IntSet"))).before args0 about1 = true := code_word (m := ⟨2, 2⟩) (meth := k2m2) (c := k2c2) (by decide +kernel) rfl rfl rfl (by decide +kernel)
set_option maxRecDepth 65536 in
theorem w_c24 : (Jvm.Cond.code ({ cls := "com/example/parallel_el/parallelel/reasoning/Context", name := "addSubsumer", desc := "(I)Z" } : Jvm.MethodName) prog_7_method_4_code (2 : Nat) (Option.some Jvm.ClassFile.FieldType.boolean)).before args0 about1 = true := code_word (m := ⟨2, 3⟩) (meth := k2m3) (c := k2c3) (by decide +kernel) rfl rfl rfl (by decide +kernel)
set_option maxRecDepth 65536 in
theorem w_c25 : (Jvm.Cond.code ({ cls := "com/example/parallel_el/parallelel/reasoning/Context", name := "addSuccessor", desc := "(II)Z" } : Jvm.MethodName) prog_7_method_6_code (3 : Nat) (Option.some Jvm.ClassFile.FieldType.boolean)).before args0 about1 = true := code_word (m := ⟨2, 5⟩) (meth := k2m5) (c := k2c5) (by decide +kernel) rfl rfl rfl (by decide +kernel)
def codes1 : List Jvm.Cond := [Jvm.Cond.code x code maxLocals ret, Jvm.Cond.code ({ cls := "com/example/parallel_el/parallelel/reasoning/Context", name := "<init>", desc := "(II)V" } : Jvm.MethodName) prog_7_method_1_code (3 : Nat) (Option.none : Option Jvm.ClassFile.FieldType), Jvm.Cond.code ({ cls := "java/lang/Object", name := "<init>", desc := "()V" } : Jvm.MethodName) object_method_1_code (1 : Nat) (Option.none : Option Jvm.ClassFile.FieldType), Jvm.Cond.code ({ cls := "com/example/parallel_el/parallelel/util/IntSet", name := "<init>", desc := "()V" } : Jvm.MethodName) prog_26_method_1_code (1 : Nat) (Option.none : Option Jvm.ClassFile.FieldType), Jvm.Cond.code ({ cls := "com/example/parallel_el/parallelel/util/IntSet", name := "newSlots", desc := "(I)[I" } : Jvm.MethodName) prog_26_method_9_code (2 : Nat) (Option.some (Jvm.ClassFile.FieldType.array Jvm.ClassFile.FieldType.int)), Jvm.Cond.code ({ cls := "java/util/Arrays", name := "fill", desc := "([II)V" } : Jvm.MethodName) jdk_65_method_103_code (4 : Nat) (Option.none : Option Jvm.ClassFile.FieldType), Jvm.Cond.code ({ cls := "com/example/parallel_el/parallelel/util/IntList", name := "<init>", desc := "()V" } : Jvm.MethodName) prog_25_method_1_code (1 : Nat) (Option.none : Option Jvm.ClassFile.FieldType), Jvm.Cond.code ({ cls := "com/example/parallel_el/parallelel/reasoning/Context", name := "addPredecessor", desc := "(II)Z" } : Jvm.MethodName) prog_7_method_5_code (3 : Nat) (Option.some Jvm.ClassFile.FieldType.boolean), Jvm.Cond.code ({ cls := "com/example/parallel_el/parallelel/reasoning/Context", name := "addLink", desc := "([Lcom/example/parallel_el/parallelel/util/IntSet;Lcom/example/parallel_el/parallelel/util/IntList;II)Z" } : Jvm.MethodName) prog_7_method_7_code (4 : Nat) (Option.some Jvm.ClassFile.FieldType.boolean), Jvm.Cond.code ({ cls := "com/example/parallel_el/parallelel/util/IntSet", name := "add", desc := "(I)Z" } : Jvm.MethodName) prog_26_method_2_code (3 : Nat) (Option.some Jvm.ClassFile.FieldType.boolean), Jvm.Cond.code ({ cls := "com/example/parallel_el/parallelel/util/IntSet", name := "slotOf", desc := "(I)I" } : Jvm.MethodName) prog_26_method_8_code (4 : Nat) (Option.some Jvm.ClassFile.FieldType.int), Jvm.Cond.code ({ cls := "com/example/parallel_el/parallelel/util/IntSet", name := "hash", desc := "(I)I" } : Jvm.MethodName) prog_26_method_10_code (2 : Nat) (Option.some Jvm.ClassFile.FieldType.int), Jvm.Cond.code ({ cls := "com/example/parallel_el/parallelel/util/IntList", name := "add", desc := "(II)V" } : Jvm.MethodName) prog_25_method_3_code (3 : Nat) (Option.none : Option Jvm.ClassFile.FieldType), Jvm.Cond.code ({ cls := "com/example/parallel_el/parallelel/util/IntList", name := "add", desc := "(I)V" } : Jvm.MethodName) prog_25_method_2_code (2 : Nat) (Option.none : Option Jvm.ClassFile.FieldType), Jvm.Cond.code ({ cls := "java/lang/Math", name := "max", desc := "(II)I" } : Jvm.MethodName) jdk_29_method_65_code (2 : Nat) (Option.some Jvm.ClassFile.FieldType.int), Jvm.Cond.code ({ cls := "java/util/Arrays", name := "copyOf", desc := "([II)[I" } : Jvm.MethodName) jdk_65_method_123_code (3 : Nat) (Option.some (Jvm.ClassFile.FieldType.array Jvm.ClassFile.FieldType.int)), Jvm.Cond.code ({ cls := "java/lang/Math", name := "min", desc := "(II)I" } : Jvm.MethodName) jdk_29_method_69_code (2 : Nat) (Option.some Jvm.ClassFile.FieldType.int), Jvm.Cond.code ({ cls := "com/example/parallel_el/parallelel/reasoning/Context", name := "forgetNewFacts", desc := "()V" } : Jvm.MethodName) prog_7_method_8_code (1 : Nat) (Option.none : Option Jvm.ClassFile.FieldType), Jvm.Cond.code ({ cls := "com/example/parallel_el/parallelel/util/IntList", name := "clear", desc := "()V" } : Jvm.MethodName) prog_25_method_7_code (1 : Nat) (Option.none : Option Jvm.ClassFile.FieldType), Jvm.Cond.code ({ cls := "com/example/parallel_el/parallelel/util/IntList", name := "size", desc := "()I" } : Jvm.MethodName) prog_25_method_6_code (1 : Nat) (Option.some Jvm.ClassFile.FieldType.int), Jvm.Cond.code ({ cls := "com/example/parallel_el/parallelel/util/IntSet", name := "contains", desc := "(I)Z" } : Jvm.MethodName) prog_26_method_3_code (2 : Nat) (Option.some Jvm.ClassFile.FieldType.boolean), Jvm.Cond.code ({ cls := "com/example/parallel_el/parallelel/util/IntSet", name := "size", desc := "()I" } : Jvm.MethodName) prog_26_method_4_code (1 : Nat) (Option.some Jvm.ClassFile.FieldType.int), Jvm.Cond.code ({ cls := "com/example/parallel_el/parallelel/reasoning/Context", name := "predecessors", desc := "(I)Lcom/example/parallel_el/parallelel/util/IntSet;" } : Jvm.MethodName) prog_7_method_2_code (2 : Nat) (Option.some (Jvm.ClassFile.FieldType.object "com/example/parallel_el/parallelel/util/IntSet")), Jvm.Cond.code ({ cls := "com/example/parallel_el/parallelel/reasoning/Context", name := "successors", desc := "(I)Lcom/example/parallel_el/parallelel/util/IntSet;" } : Jvm.MethodName) prog_7_method_3_code (2 : Nat) (Option.some (Jvm.ClassFile.FieldType.object "com/example/parallel_el/parallelel/util/IntSet")), Jvm.Cond.code ({ cls := "com/example/parallel_el/parallelel/reasoning/Context", name := "addSubsumer", desc := "(I)Z" } : Jvm.MethodName) prog_7_method_4_code (2 : Nat) (Option.some Jvm.ClassFile.FieldType.boolean), Jvm.Cond.code ({ cls := "com/example/parallel_el/parallelel/reasoning/Context", name := "addSuccessor", desc := "(II)Z" } : Jvm.MethodName) prog_7_method_6_code (3 : Nat) (Option.some Jvm.ClassFile.FieldType.boolean)]
set_option maxRecDepth 65536 in
theorem codes_eq : words1.filter isCode = codes1 := rfl
theorem w_codes : ∀ c ∈ words1.filter isCode, c.before args0 about1 = true := by
  rw [codes_eq]
  intro c hc
  simp only [codes1, List.mem_cons, List.not_mem_nil, or_false] at hc
  rcases hc with rfl | rfl | rfl | rfl | rfl | rfl | rfl | rfl | rfl | rfl | rfl | rfl | rfl | rfl | rfl | rfl | rfl | rfl | rfl | rfl | rfl | rfl | rfl | rfl | rfl | rfl
  · exact w_c0
  · exact w_c1
  · exact w_c2
  · exact w_c3
  · exact w_c4
  · exact w_c5
  · exact w_c6
  · exact w_c7
  · exact w_c8
  · exact w_c9
  · exact w_c10
  · exact w_c11
  · exact w_c12
  · exact w_c13
  · exact w_c14
  · exact w_c15
  · exact w_c16
  · exact w_c17
  · exact w_c18
  · exact w_c19
  · exact w_c20
  · exact w_c21
  · exact w_c22
  · exact w_c23
  · exact w_c24
  · exact w_c25
set_option maxRecDepth 65536 in
theorem w_t1 : (words1.take 24).all (fun c => isCode c || c.before args0 about1) = true := by decide +kernel
set_option maxRecDepth 65536 in
theorem w_t2 : ((words1.drop 24).take 24).all (fun c => isCode c || c.before args0 about1) = true := by decide +kernel
set_option maxRecDepth 65536 in
theorem w_t3 : (((words1.drop 24).drop 24).take 24).all (fun c => isCode c || c.before args0 about1) = true := by decide +kernel
set_option maxRecDepth 65536 in
theorem w_t4 : ((((words1.drop 24).drop 24).drop 24).take 24).all (fun c => isCode c || c.before args0 about1) = true := by decide +kernel
set_option maxRecDepth 65536 in
theorem w_t5 : (((((words1.drop 24).drop 24).drop 24).drop 24).take 24).all (fun c => isCode c || c.before args0 about1) = true := by decide +kernel
set_option maxRecDepth 65536 in
theorem w_t6 : ((((((words1.drop 24).drop 24).drop 24).drop 24).drop 24).take 24).all (fun c => isCode c || c.before args0 about1) = true := by decide +kernel
set_option maxRecDepth 65536 in
theorem w_t7 : ((((((words1.drop 24).drop 24).drop 24).drop 24).drop 24).drop 24).all (fun c => isCode c || c.before args0 about1) = true := by decide +kernel
theorem w_tables : (allAtoms (Jvm.Cond.code x code maxLocals ret :: tables_1)).before args0 about1 = true := by
  rw [allAtoms_all]
  show words1.all (fun c => c.before args0 about1) = true
  refine all_split ?_ w_codes
  rw [← List.take_append_drop 24 words1, List.all_append, w_t1, ← List.take_append_drop 24 (words1.drop 24), List.all_append, w_t2, ← List.take_append_drop 24 ((words1.drop 24).drop 24), List.all_append, w_t3, ← List.take_append_drop 24 (((words1.drop 24).drop 24).drop 24), List.all_append, w_t4, ← List.take_append_drop 24 ((((words1.drop 24).drop 24).drop 24).drop 24), List.all_append, w_t5, ← List.take_append_drop 24 (((((words1.drop 24).drop 24).drop 24).drop 24).drop 24), List.all_append, w_t6, w_t7]
  rfl
set_option maxRecDepth 65536 in
theorem w_case : (Jvm.Cond.and given_1 narrow_1).before args0 about1 = true := by decide +kernel
theorem w_applies : (headSpec (Jvm.Cond.code x code maxLocals ret :: tables_1) room_1).applies x e0.platform about1 = true :=
  (Spec.applies_iff w_frames).mpr ⟨w_running, w_runnable, w_alone, w_named, w_hears, w_ripe, w_room, w_tables⟩
theorem atStart : AtStart classFile x code maxLocals ret World_1 tables_1 room_1 Calls_1 rest_1 Pre_1 launch0 p0 e0 about1 theMethod args0 below0 :=
  ⟨lists_1, trivial, launch0.admits_env _ _ _, launch0.least_env, fairChoices_fair.cas, fairChoices_fair.clock, w_frames, w_args, w_heap, w_applies, trivial, trivial, w_case⟩
end start1
theorem witness_1 : WitnessClaimed_1 := ⟨start1.p0, start1.e0, start1.about1, start1.theMethod, start1.args0, start1.below0, start1.atStart⟩
end Jvm.Pilot.@@N@@
