import JvmDerived
import JvmDerived.Pilot.@@N@@Statement
import JvmDerived.Pilot.@@N@@Code
set_option linter.unusedVariables false
set_option linter.unusedSimpArgs false
namespace Jvm.OwnKit
open Jvm Jvm.ClassFile Sem Op Lib Jvm.Free Jvm.Stand Jvm.LawKit Jvm.RoadKit
/-- the run from here ends in a return that answers Q, having written new cells alone -/
def Ends (p : Program) (e : Env) (below : List Frame) (s : State) (n0 : Nat) (Q : Option Value → Heap → Prop) (k n : Nat) (T : State) (g : JFrame) : Prop :=
  ∃ s₂ o, Steps p.tables e below (T.setTop g) s₂ ∧ s₂.status = .running ∧ Ended s₂ below o ∧ ∃ v L, o = .returned v ∧ (Fr n0 L ∧ Q v s₂.heap) ∧ FrameEnd s o s₂ L k n
theorem Ends.step {p : Program} {e : Env} {below : List Frame} {s : State} {n0 : Nat} {Q : Option Value → Heap → Prop} {k n : Nat} {T T' : State} {g g' : JFrame} (K : Ends p e below s n0 Q k n T' g') (f : ∀ t, Steps p.tables e below (T'.setTop g') t → Steps p.tables e below (T.setTop g) t) : Ends p e below s n0 Q k n T g := by
  obtain ⟨s2, o, h, r⟩ := K
  exact ⟨s2, o, f _ h, r⟩
/-- what is the same through a whole body -/
def Cx (Z : State) (mn : MethodName) (code : ByteArray) (maxL : Nat) (ret : Option FieldType) (p : Program) (s : State) (m : MethodId) (meth : Method) (c : Code) : Prop :=
  p.tables.exec = Jvm.exec ∧ Z.Warmed39 s.vm ∧ c.code = code ∧ c.maxLocals = maxL ∧ s.vm.findClass mn.cls = some m.cls ∧ meth.sig.returnType = ret ∧ meth.locks = false ∧ meth.name = mn.name
/-- from this pc, these locals and this stack, over the heap h, at most k cells and n slots made so far, the body ends as Q says -/
def Go (l : Launch) (Z : State) (mn : MethodName) (code : ByteArray) (maxL : Nat) (ret : Option FieldType) (R : Room) (n0 : Nat) (Q : Option Value → Heap → Prop) (h : Heap) (k n : Nat) (pc : Nat) (Ls : Array Slot) (st : List Value) : Prop :=
  ∀ (p : Program) (e : Env) (s : State) (m : MethodId) (args : Array Value) (below : List Frame) (meth : Method) (c : Code) (T : State) (locs : List Loc) (k' n' : Nat),
    Cx Z mn code maxL ret p s m meth c → Stand p l e R s m args below meth c T locs k' n' → k' ≤ k → n' ≤ n → Fr n0 locs → T.heap = h → Ends p e below s n0 Q R.cells R.slots T (mkF m pc Ls st)
/-- the answer of a body that returns a value | nothing -/
def RV (P : Value → Heap → Prop) : Option Value → Heap → Prop := fun v h => ∃ w, v = some w ∧ P w h
def RN (P : Heap → Prop) : Option Value → Heap → Prop := fun v h => v = none ∧ P h
section Laws
variable {l : Launch} {Z : State} {mn : MethodName} {code : ByteArray} {maxL : Nat} {ret : Option FieldType} {R : Room} {n0 : Nat} {Q : Option Value → Heap → Prop} {h : Heap} {k n pc q : Nat} {Ls Ls' : Array Slot} {st st' : List Value} {a0 : Array Value}
theorem Go.plain (K : Go l Z mn code maxL ret R n0 Q h k n q Ls' st') (f : ∀ (p : Program) (e : Env) (s : State) (m : MethodId) (args : Array Value) (below : List Frame) (meth : Method) (c : Code) (T : State) (locs : List Loc) (k' n' : Nat), p.tables.exec = Jvm.exec → c.code = code → Stand p l e R s m args below meth c T locs k' n' → ∀ t, Steps p.tables e below (T.setTop (mkF m q Ls' st')) t → Steps p.tables e below (T.setTop (mkF m pc Ls st)) t) : Go l Z mn code maxL ret R n0 Q h k n pc Ls st :=
  fun p e s m args below meth c T locs k' n' C X hk hn N eT => (K p e s m args below meth c T locs k' n' C X hk hn N eT).step (f p e s m args below meth c T locs k' n' C.1 C.2.2.1 X)
theorem Go.mono {k1 n1 : Nat} (K : Go l Z mn code maxL ret R n0 Q h k n pc Ls st) (h1 : k1 ≤ k) (h2 : n1 ≤ n) : Go l Z mn code maxL ret R n0 Q h k1 n1 pc Ls st :=
  fun p e s m args below meth c T locs k' n' C X hk hn N eT => K p e s m args below meth c T locs k' n' C X (Nat.le_trans hk h1) (Nat.le_trans hn h2) N eT
theorem Go.imp {Q' : Option Value → Heap → Prop} (K : Go l Z mn code maxL ret R n0 Q h k n pc Ls st) (f : ∀ v h, Q v h → Q' v h) : Go l Z mn code maxL ret R n0 Q' h k n pc Ls st :=
  fun p e s m args below meth c T locs k' n' C X hk hn N eT => by
    obtain ⟨s2, o, h1, h2, h3, v, L, h4, h5, h6⟩ := K p e s m args below meth c T locs k' n' C X hk hn N eT
    exact ⟨s2, o, h1, h2, h3, v, L, h4, ⟨h5.1, f _ _ h5.2⟩, h6⟩
theorem Go.met {as : Array Value} (pn : plainName mn.cls = true) (hef : ∀ m, entryFrame m as maxL = mkF m 0 Ls []) (G : Go l Z mn code maxL ret R n0 Q h 0 0 0 Ls []) (ws : List Jvm.Cond) :
    MetFree l mn (head1 (Jvm.Cond.code mn code maxL ret :: ws) R) (fun a U => a = as ∧ Z.Warmed39 U.vm ∧ U.heap = h) (fun _ _ _ _ _ => True) (fun _ U o U' => ∃ v L, o = .returned v ∧ (Fr n0 L ∧ Q v U'.heap) ∧ FrameEnd U o U' L R.cells R.slots) := by
  refine MetFree.of_bodySF (plainFor_of_name pn) hisR ?_
  intro p e s m args below meth c s₁ Bd hml0 hP hK
  obtain ⟨rfl, hZ, hh⟩ := hP
  have e0 : s₁.heap = h := by rw [← hh, Bd.state]; rfl
  rw [hef]
  exact G p e s m _ below meth c s₁ [] 0 0 ⟨Bd.exec, hZ, Bd.bytes, hml0, findClass_of_methodNamed Bd.named, Bd.returns, BodyLoose.notSynchronized Bd, (name_of_methodNamed Bd.named Bd.method).1⟩ (Stand.of_body Bd) (Nat.le_refl _) (Nat.le_refl _) (Fr.nil n0) e0

theorem Go.iloadN {i : Fin 4} {v : Int32} (hd : decode code pc = .ok (.iload_n i, 1)) (hq : q = pc + 1) (hl : Ls[i.val]? = some (.val (.int v))) (K : Go l Z mn code maxL ret R n0 Q h k n q Ls (.int v :: st)) : Go l Z mn code maxL ret R n0 Q h k n pc Ls (st) := by
  subst hq
  exact K.plain fun p e s m args below meth c T locs k' n' hx hby X t r => XS.iloadN X.here hx rfl (hb hby hd) hl r
theorem Go.iload {i : Nat} {v : Int32} (hd : decode code pc = .ok (.iload i, 2)) (hq : q = pc + 2) (hl : Ls[i]? = some (.val (.int v))) (K : Go l Z mn code maxL ret R n0 Q h k n q Ls (.int v :: st)) : Go l Z mn code maxL ret R n0 Q h k n pc Ls (st) := by
  subst hq
  exact K.plain fun p e s m args below meth c T locs k' n' hx hby X t r => XS.iload X.here hx rfl (hb hby hd) hl r
theorem Go.lloadN {i : Fin 4} {v : Int64} (hd : decode code pc = .ok (.lload_n i, 1)) (hq : q = pc + 1) (hl : Ls[i.val]? = some (.val (.long v))) (K : Go l Z mn code maxL ret R n0 Q h k n q Ls (.long v :: st)) : Go l Z mn code maxL ret R n0 Q h k n pc Ls (st) := by
  subst hq
  exact K.plain fun p e s m args below meth c T locs k' n' hx hby X t r => XT.lloadN X.here hx rfl (hb hby hd) hl r
theorem Go.lload {i : Nat} {v : Int64} (hd : decode code pc = .ok (.lload i, 2)) (hq : q = pc + 2) (hl : Ls[i]? = some (.val (.long v))) (K : Go l Z mn code maxL ret R n0 Q h k n q Ls (.long v :: st)) : Go l Z mn code maxL ret R n0 Q h k n pc Ls (st) := by
  subst hq
  exact K.plain fun p e s m args below meth c T locs k' n' hx hby X t r => XT.lload X.here hx rfl (hb hby hd) hl r
theorem Go.aloadN {i : Fin 4} {v : Value} (hd : decode code pc = .ok (.aload_n i, 1)) (hq : q = pc + 1) (hl : Ls[i.val]? = some (.val v)) (hv : v.isRef = true) (K : Go l Z mn code maxL ret R n0 Q h k n q Ls (v :: st)) : Go l Z mn code maxL ret R n0 Q h k n pc Ls (st) := by
  subst hq
  exact K.plain fun p e s m args below meth c T locs k' n' hx hby X t r => XS.aloadN X.here hx rfl (hb hby hd) hl hv r
theorem Go.aload {i : Nat} {v : Value} (hd : decode code pc = .ok (.aload i, 2)) (hq : q = pc + 2) (hl : Ls[i]? = some (.val v)) (hv : v.isRef = true) (K : Go l Z mn code maxL ret R n0 Q h k n q Ls (v :: st)) : Go l Z mn code maxL ret R n0 Q h k n pc Ls (st) := by
  subst hq
  exact K.plain fun p e s m args below meth c T locs k' n' hx hby X t r => XS.aload X.here hx rfl (hb hby hd) hl hv r
theorem Go.istoreN {i : Fin 4} {v : Int32} (hd : decode code pc = .ok (.istore_n i, 1)) (hq : q = pc + 1) (hl : storeLocals Ls i.val (.int v) = some Ls') (K : Go l Z mn code maxL ret R n0 Q h k n q Ls' (st)) : Go l Z mn code maxL ret R n0 Q h k n pc Ls (.int v :: st) := by
  subst hq
  exact K.plain fun p e s m args below meth c T locs k' n' hx hby X t r => XS.istoreN X.here hx rfl (hb hby hd) rfl hl r
theorem Go.istore {i : Nat} {v : Int32} (hd : decode code pc = .ok (.istore i, 2)) (hq : q = pc + 2) (hl : storeLocals Ls i (.int v) = some Ls') (K : Go l Z mn code maxL ret R n0 Q h k n q Ls' (st)) : Go l Z mn code maxL ret R n0 Q h k n pc Ls (.int v :: st) := by
  subst hq
  exact K.plain fun p e s m args below meth c T locs k' n' hx hby X t r => XS.istore X.here hx rfl (hb hby hd) rfl hl r
theorem Go.lstoreN {i : Fin 4} {v : Int64} (hd : decode code pc = .ok (.lstore_n i, 1)) (hq : q = pc + 1) (hl : storeLocals Ls i.val (.long v) = some Ls') (K : Go l Z mn code maxL ret R n0 Q h k n q Ls' (st)) : Go l Z mn code maxL ret R n0 Q h k n pc Ls (.long v :: st) := by
  subst hq
  exact K.plain fun p e s m args below meth c T locs k' n' hx hby X t r => XT.lstoreN X.here hx rfl (hb hby hd) rfl hl r
theorem Go.lstore {i : Nat} {v : Int64} (hd : decode code pc = .ok (.lstore i, 2)) (hq : q = pc + 2) (hl : storeLocals Ls i (.long v) = some Ls') (K : Go l Z mn code maxL ret R n0 Q h k n q Ls' (st)) : Go l Z mn code maxL ret R n0 Q h k n pc Ls (.long v :: st) := by
  subst hq
  exact K.plain fun p e s m args below meth c T locs k' n' hx hby X t r => XT.lstore X.here hx rfl (hb hby hd) rfl hl r
theorem Go.astoreN {i : Fin 4} {v : Value} (hd : decode code pc = .ok (.astore_n i, 1)) (hq : q = pc + 1) (hv : v.isRef = true) (hl : storeLocals Ls i.val v = some Ls') (K : Go l Z mn code maxL ret R n0 Q h k n q Ls' (st)) : Go l Z mn code maxL ret R n0 Q h k n pc Ls (v :: st) := by
  subst hq
  exact K.plain fun p e s m args below meth c T locs k' n' hx hby X t r => XS.astoreN X.here hx rfl (hb hby hd) rfl hv hl r
theorem Go.astore {i : Nat} {v : Value} (hd : decode code pc = .ok (.astore i, 2)) (hq : q = pc + 2) (hv : v.isRef = true) (hl : storeLocals Ls i v = some Ls') (K : Go l Z mn code maxL ret R n0 Q h k n q Ls' (st)) : Go l Z mn code maxL ret R n0 Q h k n pc Ls (v :: st) := by
  subst hq
  exact K.plain fun p e s m args below meth c T locs k' n' hx hby X t r => XS.astore X.here hx rfl (hb hby hd) rfl hv hl r
theorem Go.iconst {i : Int} {x : Int32} (hd : decode code pc = .ok (.iconst i, 1)) (hq : q = pc + 1) (hi : Int32.ofInt i = x) (K : Go l Z mn code maxL ret R n0 Q h k n q Ls (.int x :: st)) : Go l Z mn code maxL ret R n0 Q h k n pc Ls (st) := by
  subst hq
  exact K.plain fun p e s m args below meth c T locs k' n' hx hby X t r => XS.iconst X.here hx rfl (hb hby hd) (by rw [hi]; exact r)
theorem Go.bipush {i : Int} {x : Int32} (hd : decode code pc = .ok (.bipush i, 2)) (hq : q = pc + 2) (hi : (Int8.ofInt i).toInt32 = x) (K : Go l Z mn code maxL ret R n0 Q h k n q Ls (.int x :: st)) : Go l Z mn code maxL ret R n0 Q h k n pc Ls (st) := by
  subst hq
  exact K.plain fun p e s m args below meth c T locs k' n' hx hby X t r => XS.bipush X.here hx rfl (hb hby hd) (by rw [hi]; exact r)
theorem Go.sipush {i : Int} {x : Int32} (hd : decode code pc = .ok (.sipush i, 3)) (hq : q = pc + 3) (hi : (Int16.ofInt i).toInt32 = x) (K : Go l Z mn code maxL ret R n0 Q h k n q Ls (.int x :: st)) : Go l Z mn code maxL ret R n0 Q h k n pc Ls (st) := by
  subst hq
  exact K.plain fun p e s m args below meth c T locs k' n' hx hby X t r => XS.sipush X.here hx rfl (hb hby hd) (by rw [hi]; exact r)
theorem Go.lconst {i : Fin 2} {x : Int64} (hd : decode code pc = .ok (.lconst i, 1)) (hq : q = pc + 1) (hi : Int64.ofNat i = x) (K : Go l Z mn code maxL ret R n0 Q h k n q Ls (.long x :: st)) : Go l Z mn code maxL ret R n0 Q h k n pc Ls (st) := by
  subst hq
  exact K.plain fun p e s m args below meth c T locs k' n' hx hby X t r => XT.lconst X.here hx rfl (hb hby hd) (by rw [hi]; exact r)
theorem Go.aconstNull (hd : decode code pc = .ok (.aconst_null, 1)) (hq : q = pc + 1) (K : Go l Z mn code maxL ret R n0 Q h k n q Ls (.null :: st)) : Go l Z mn code maxL ret R n0 Q h k n pc Ls (st) := by
  subst hq
  exact K.plain fun p e s m args below meth c T locs k' n' hx hby X t r => XS.aconstNull X.here hx rfl (hb hby hd) r
theorem Go.iadd {x y : Int32} (hd : decode code pc = .ok (.iadd, 1)) (hq : q = pc + 1) (K : Go l Z mn code maxL ret R n0 Q h k n q Ls (.int (x + y) :: st)) : Go l Z mn code maxL ret R n0 Q h k n pc Ls (.int y :: .int x :: st) := by
  subst hq
  exact K.plain fun p e s m args below meth c T locs k' n' hx hby X t r => XS.iadd X.here hx rfl (hb hby hd) rfl r
theorem Go.isub {x y : Int32} (hd : decode code pc = .ok (.isub, 1)) (hq : q = pc + 1) (K : Go l Z mn code maxL ret R n0 Q h k n q Ls (.int (x - y) :: st)) : Go l Z mn code maxL ret R n0 Q h k n pc Ls (.int y :: .int x :: st) := by
  subst hq
  exact K.plain fun p e s m args below meth c T locs k' n' hx hby X t r => XS.isub X.here hx rfl (hb hby hd) rfl r
theorem Go.iand {x y : Int32} (hd : decode code pc = .ok (.iand, 1)) (hq : q = pc + 1) (K : Go l Z mn code maxL ret R n0 Q h k n q Ls (.int (x &&& y) :: st)) : Go l Z mn code maxL ret R n0 Q h k n pc Ls (.int y :: .int x :: st) := by
  subst hq
  exact K.plain fun p e s m args below meth c T locs k' n' hx hby X t r => XS.iand X.here hx rfl (hb hby hd) rfl r
theorem Go.imul {x y : Int32} (hd : decode code pc = .ok (.imul, 1)) (hq : q = pc + 1) (K : Go l Z mn code maxL ret R n0 Q h k n q Ls (.int (x * y) :: st)) : Go l Z mn code maxL ret R n0 Q h k n pc Ls (.int y :: .int x :: st) := by
  subst hq
  exact K.plain fun p e s m args below meth c T locs k' n' hx hby X t r => XS.imul X.here hx rfl (hb hby hd) rfl r
theorem Go.ixor {x y : Int32} (hd : decode code pc = .ok (.ixor, 1)) (hq : q = pc + 1) (K : Go l Z mn code maxL ret R n0 Q h k n q Ls (.int (x ^^^ y) :: st)) : Go l Z mn code maxL ret R n0 Q h k n pc Ls (.int y :: .int x :: st) := by
  subst hq
  exact K.plain fun p e s m args below meth c T locs k' n' hx hby X t r => XT.ixor X.here hx rfl (hb hby hd) rfl r
theorem Go.ior {x y : Int32} (hd : decode code pc = .ok (.ior, 1)) (hq : q = pc + 1) (K : Go l Z mn code maxL ret R n0 Q h k n q Ls (.int (x ||| y) :: st)) : Go l Z mn code maxL ret R n0 Q h k n pc Ls (.int y :: .int x :: st) := by
  subst hq
  exact K.plain fun p e s m args below meth c T locs k' n' hx hby X t r => XT.ior X.here hx rfl (hb hby hd) rfl r
theorem Go.ishl {x y : Int32} (hd : decode code pc = .ok (.ishl, 1)) (hq : q = pc + 1) (K : Go l Z mn code maxL ret R n0 Q h k n q Ls (.int (x <<< (y &&& 31)) :: st)) : Go l Z mn code maxL ret R n0 Q h k n pc Ls (.int y :: .int x :: st) := by
  subst hq
  exact K.plain fun p e s m args below meth c T locs k' n' hx hby X t r => XT.ishl X.here hx rfl (hb hby hd) rfl r
theorem Go.ishr {x y : Int32} (hd : decode code pc = .ok (.ishr, 1)) (hq : q = pc + 1) (K : Go l Z mn code maxL ret R n0 Q h k n q Ls (.int (x >>> (y &&& 31)) :: st)) : Go l Z mn code maxL ret R n0 Q h k n pc Ls (.int y :: .int x :: st) := by
  subst hq
  exact K.plain fun p e s m args below meth c T locs k' n' hx hby X t r => XT.ishr X.here hx rfl (hb hby hd) rfl r
theorem Go.iushr {x y : Int32} (hd : decode code pc = .ok (.iushr, 1)) (hq : q = pc + 1) (K : Go l Z mn code maxL ret R n0 Q h k n q Ls (.int (XT.ushr x y) :: st)) : Go l Z mn code maxL ret R n0 Q h k n pc Ls (.int y :: .int x :: st) := by
  subst hq
  exact K.plain fun p e s m args below meth c T locs k' n' hx hby X t r => XT.iushr X.here hx rfl (hb hby hd) rfl r
theorem Go.ladd {x y : Int64} (hd : decode code pc = .ok (.ladd, 1)) (hq : q = pc + 1) (K : Go l Z mn code maxL ret R n0 Q h k n q Ls (.long (x + y) :: st)) : Go l Z mn code maxL ret R n0 Q h k n pc Ls (.long y :: .long x :: st) := by
  subst hq
  exact K.plain fun p e s m args below meth c T locs k' n' hx hby X t r => XT.ladd X.here hx rfl (hb hby hd) rfl r
theorem Go.lsub {x y : Int64} (hd : decode code pc = .ok (.lsub, 1)) (hq : q = pc + 1) (K : Go l Z mn code maxL ret R n0 Q h k n q Ls (.long (x - y) :: st)) : Go l Z mn code maxL ret R n0 Q h k n pc Ls (.long y :: .long x :: st) := by
  subst hq
  exact K.plain fun p e s m args below meth c T locs k' n' hx hby X t r => XT.lsub X.here hx rfl (hb hby hd) rfl r
theorem Go.lmul {x y : Int64} (hd : decode code pc = .ok (.lmul, 1)) (hq : q = pc + 1) (K : Go l Z mn code maxL ret R n0 Q h k n q Ls (.long (x * y) :: st)) : Go l Z mn code maxL ret R n0 Q h k n pc Ls (.long y :: .long x :: st) := by
  subst hq
  exact K.plain fun p e s m args below meth c T locs k' n' hx hby X t r => XT.lmul X.here hx rfl (hb hby hd) rfl r
theorem Go.land {x y : Int64} (hd : decode code pc = .ok (.land, 1)) (hq : q = pc + 1) (K : Go l Z mn code maxL ret R n0 Q h k n q Ls (.long (x &&& y) :: st)) : Go l Z mn code maxL ret R n0 Q h k n pc Ls (.long y :: .long x :: st) := by
  subst hq
  exact K.plain fun p e s m args below meth c T locs k' n' hx hby X t r => XT.land X.here hx rfl (hb hby hd) rfl r
theorem Go.lor {x y : Int64} (hd : decode code pc = .ok (.lor, 1)) (hq : q = pc + 1) (K : Go l Z mn code maxL ret R n0 Q h k n q Ls (.long (x ||| y) :: st)) : Go l Z mn code maxL ret R n0 Q h k n pc Ls (.long y :: .long x :: st) := by
  subst hq
  exact K.plain fun p e s m args below meth c T locs k' n' hx hby X t r => XT.lor X.here hx rfl (hb hby hd) rfl r
theorem Go.lxor {x y : Int64} (hd : decode code pc = .ok (.lxor, 1)) (hq : q = pc + 1) (K : Go l Z mn code maxL ret R n0 Q h k n q Ls (.long (x ^^^ y) :: st)) : Go l Z mn code maxL ret R n0 Q h k n pc Ls (.long y :: .long x :: st) := by
  subst hq
  exact K.plain fun p e s m args below meth c T locs k' n' hx hby X t r => XT.lxor X.here hx rfl (hb hby hd) rfl r
theorem Go.lshl {x : Int64} {y : Int32} (hd : decode code pc = .ok (.lshl, 1)) (hq : q = pc + 1) (K : Go l Z mn code maxL ret R n0 Q h k n q Ls (.long (x <<< (y.toInt64 &&& 63)) :: st)) : Go l Z mn code maxL ret R n0 Q h k n pc Ls (.int y :: .long x :: st) := by
  subst hq
  exact K.plain fun p e s m args below meth c T locs k' n' hx hby X t r => XT.lshl X.here hx rfl (hb hby hd) rfl r
theorem Go.lshr {x : Int64} {y : Int32} (hd : decode code pc = .ok (.lshr, 1)) (hq : q = pc + 1) (K : Go l Z mn code maxL ret R n0 Q h k n q Ls (.long (x >>> (y.toInt64 &&& 63)) :: st)) : Go l Z mn code maxL ret R n0 Q h k n pc Ls (.int y :: .long x :: st) := by
  subst hq
  exact K.plain fun p e s m args below meth c T locs k' n' hx hby X t r => XT.lshr X.here hx rfl (hb hby hd) rfl r
theorem Go.lushr {x : Int64} {y : Int32} (hd : decode code pc = .ok (.lushr, 1)) (hq : q = pc + 1) (K : Go l Z mn code maxL ret R n0 Q h k n q Ls (.long (XT.ushrL x y) :: st)) : Go l Z mn code maxL ret R n0 Q h k n pc Ls (.int y :: .long x :: st) := by
  subst hq
  exact K.plain fun p e s m args below meth c T locs k' n' hx hby X t r => XT.lushr X.here hx rfl (hb hby hd) rfl r
theorem Go.idiv {x y : Int32} (hd : decode code pc = .ok (.idiv, 1)) (hq : q = pc + 1) (hy : y ≠ 0) (K : Go l Z mn code maxL ret R n0 Q h k n q Ls (.int (x / y) :: st)) : Go l Z mn code maxL ret R n0 Q h k n pc Ls (.int y :: .int x :: st) := by
  subst hq
  exact K.plain fun p e s m args below meth c T locs k' n' hx hby X t r => XS.idiv X.here hx rfl (hb hby hd) rfl hy r
theorem Go.irem {x y : Int32} (hd : decode code pc = .ok (.irem, 1)) (hq : q = pc + 1) (hy : y ≠ 0) (K : Go l Z mn code maxL ret R n0 Q h k n q Ls (.int (x % y) :: st)) : Go l Z mn code maxL ret R n0 Q h k n pc Ls (.int y :: .int x :: st) := by
  subst hq
  exact K.plain fun p e s m args below meth c T locs k' n' hx hby X t r => XS.irem X.here hx rfl (hb hby hd) rfl hy (by rw [irem_eq_mod]; exact r)
theorem Go.lrem {x y : Int64} (hd : decode code pc = .ok (.lrem, 1)) (hq : q = pc + 1) (hy : y ≠ 0) (K : Go l Z mn code maxL ret R n0 Q h k n q Ls (.long (x % y) :: st)) : Go l Z mn code maxL ret R n0 Q h k n pc Ls (.long y :: .long x :: st) := by
  subst hq
  exact K.plain fun p e s m args below meth c T locs k' n' hx hby X t r => XT.lrem X.here hx rfl (hb hby hd) rfl hy (by rw [lrem_mod]; exact r)
theorem Go.ineg {x : Int32} (hd : decode code pc = .ok (.ineg, 1)) (hq : q = pc + 1) (K : Go l Z mn code maxL ret R n0 Q h k n q Ls (.int (-x) :: st)) : Go l Z mn code maxL ret R n0 Q h k n pc Ls (.int x :: st) := by
  subst hq
  exact K.plain fun p e s m args below meth c T locs k' n' hx hby X t r => XS.ineg X.here hx rfl (hb hby hd) rfl r
theorem Go.lneg {x : Int64} (hd : decode code pc = .ok (.lneg, 1)) (hq : q = pc + 1) (K : Go l Z mn code maxL ret R n0 Q h k n q Ls (.long (-x) :: st)) : Go l Z mn code maxL ret R n0 Q h k n pc Ls (.long x :: st) := by
  subst hq
  exact K.plain fun p e s m args below meth c T locs k' n' hx hby X t r => XT.lneg X.here hx rfl (hb hby hd) rfl r
theorem Go.i2l {x : Int32} (hd : decode code pc = .ok (.i2l, 1)) (hq : q = pc + 1) (K : Go l Z mn code maxL ret R n0 Q h k n q Ls (.long x.toInt64 :: st)) : Go l Z mn code maxL ret R n0 Q h k n pc Ls (.int x :: st) := by
  subst hq
  exact K.plain fun p e s m args below meth c T locs k' n' hx hby X t r => XT.i2l X.here hx rfl (hb hby hd) rfl r
theorem Go.l2i {x : Int64} (hd : decode code pc = .ok (.l2i, 1)) (hq : q = pc + 1) (K : Go l Z mn code maxL ret R n0 Q h k n q Ls (.int x.toInt32 :: st)) : Go l Z mn code maxL ret R n0 Q h k n pc Ls (.long x :: st) := by
  subst hq
  exact K.plain fun p e s m args below meth c T locs k' n' hx hby X t r => XT.l2i X.here hx rfl (hb hby hd) rfl r
theorem Go.i2b {x : Int32} (hd : decode code pc = .ok (.i2b, 1)) (hq : q = pc + 1) (K : Go l Z mn code maxL ret R n0 Q h k n q Ls (.int x.toInt8.toInt32 :: st)) : Go l Z mn code maxL ret R n0 Q h k n pc Ls (.int x :: st) := by
  subst hq
  exact K.plain fun p e s m args below meth c T locs k' n' hx hby X t r => XT.i2b X.here hx rfl (hb hby hd) rfl r
theorem Go.i2s {x : Int32} (hd : decode code pc = .ok (.i2s, 1)) (hq : q = pc + 1) (K : Go l Z mn code maxL ret R n0 Q h k n q Ls (.int x.toInt16.toInt32 :: st)) : Go l Z mn code maxL ret R n0 Q h k n pc Ls (.int x :: st) := by
  subst hq
  exact K.plain fun p e s m args below meth c T locs k' n' hx hby X t r => XT.i2s X.here hx rfl (hb hby hd) rfl r
theorem Go.i2c {x : Int32} (hd : decode code pc = .ok (.i2c, 1)) (hq : q = pc + 1) (K : Go l Z mn code maxL ret R n0 Q h k n q Ls (.int x.toUInt32.toUInt16.toUInt32.toInt32 :: st)) : Go l Z mn code maxL ret R n0 Q h k n pc Ls (.int x :: st) := by
  subst hq
  exact K.plain fun p e s m args below meth c T locs k' n' hx hby X t r => XT.i2c X.here hx rfl (hb hby hd) rfl r
theorem Go.lcmp {x y : Int64} (hd : decode code pc = .ok (.lcmp, 1)) (hq : q = pc + 1) (K : Go l Z mn code maxL ret R n0 Q h k n q Ls (.int (XT.cmpL x y) :: st)) : Go l Z mn code maxL ret R n0 Q h k n pc Ls (.long y :: .long x :: st) := by
  subst hq
  exact K.plain fun p e s m args below meth c T locs k' n' hx hby X t r => XT.lcmp X.here hx rfl (hb hby hd) rfl r
theorem Go.iinc {i : Nat} {cst : Int} {x w : Int32} (hd : decode code pc = .ok (.iinc i cst, 3)) (hq : q = pc + 3) (hl : Ls[i]? = some (.val (.int x))) (hw : x + Int32.ofInt cst = w) (hl' : storeLocals Ls i (.int w) = some Ls') (K : Go l Z mn code maxL ret R n0 Q h k n q Ls' (st)) : Go l Z mn code maxL ret R n0 Q h k n pc Ls (st) := by
  subst hq
  exact K.plain fun p e s m args below meth c T locs k' n' hx hby X t r => XS.iinc X.here hx rfl (hb hby hd) hl (by rw [hw]; exact hl') r
theorem Go.dup {v : Value} (hd : decode code pc = .ok (.dup, 1)) (hq : q = pc + 1) (hc : v.category = 1) (K : Go l Z mn code maxL ret R n0 Q h k n q Ls (v :: v :: st)) : Go l Z mn code maxL ret R n0 Q h k n pc Ls (v :: st) := by
  subst hq
  exact K.plain fun p e s m args below meth c T locs k' n' hx hby X t r => XS.dup X.here hx rfl (hb hby hd) rfl hc r
theorem Go.pop {v : Value} (hd : decode code pc = .ok (.pop, 1)) (hq : q = pc + 1) (hc : v.category = 1) (K : Go l Z mn code maxL ret R n0 Q h k n q Ls (st)) : Go l Z mn code maxL ret R n0 Q h k n pc Ls (v :: st) := by
  subst hq
  exact K.plain fun p e s m args below meth c T locs k' n' hx hby X t r => XT.pop X.here hx rfl (hb hby hd) rfl hc r
theorem Go.dupX1 {v w : Value} (hd : decode code pc = .ok (.dup_x1, 1)) (hq : q = pc + 1) (hc : v.category = 1) (hc' : w.category = 1) (K : Go l Z mn code maxL ret R n0 Q h k n q Ls (v :: w :: v :: st)) : Go l Z mn code maxL ret R n0 Q h k n pc Ls (v :: w :: st) := by
  subst hq
  exact K.plain fun p e s m args below meth c T locs k' n' hx hby X t r => XT.dupX1 X.here hx rfl (hb hby hd) rfl hc hc' r
theorem Go.dup2 {v w : Value} (hd : decode code pc = .ok (.dup2, 1)) (hq : q = pc + 1) (hc : v.category = 1) (hc' : w.category = 1) (K : Go l Z mn code maxL ret R n0 Q h k n q Ls (v :: w :: v :: w :: st)) : Go l Z mn code maxL ret R n0 Q h k n pc Ls (v :: w :: st) := by
  subst hq
  exact K.plain fun p e s m args below meth c T locs k' n' hx hby X t r => XT.dup2 X.here hx rfl (hb hby hd) rfl hc hc' r
theorem Go.dup2L {x : Int64} (hd : decode code pc = .ok (.dup2, 1)) (hq : q = pc + 1) (K : Go l Z mn code maxL ret R n0 Q h k n q Ls (.long x :: .long x :: st)) : Go l Z mn code maxL ret R n0 Q h k n pc Ls (.long x :: st) := by
  subst hq
  exact K.plain fun p e s m args below meth c T locs k' n' hx hby X t r => XT.dup2L X.here hx rfl (hb hby hd) rfl r
theorem Go.goto {o : Int} (hd : decode code pc = .ok (.goto o, 3)) (ho : 0 ≤ (pc : Int) + o) (hq : ((pc : Int) + o).toNat = q) (K : Go l Z mn code maxL ret R n0 Q h k n q Ls st) : Go l Z mn code maxL ret R n0 Q h k n pc Ls st :=
  K.plain fun p e s m args below meth c T locs k' n' hx hby X t r => XS.goto X.here hx rfl rfl (hb hby hd) ho hq r
theorem Go.icmp_eq {x y' : Int32} {o : Int} {q' : Nat} (hd : decode code pc = .ok (.if_icmp .eq o, 3)) (ho : 0 ≤ (pc : Int) + o) (hq : ((pc : Int) + o).toNat = q) (hq' : q' = pc + 3) (K1 : x = y' → Go l Z mn code maxL ret R n0 Q h k n q Ls st) (K2 : ¬ x = y' → Go l Z mn code maxL ret R n0 Q h k n q' Ls st) : Go l Z mn code maxL ret R n0 Q h k n pc Ls (.int y' :: .int x :: st) := by
  subst hq'
  by_cases hc : x = y'
  · exact (K1 hc).plain fun p e s m args below meth c T locs k' n' hx hby X t r => XS.icmpYes X.here hx rfl rfl (hb hby hd) rfl (teq hc).1 ho hq r
  · exact (K2 (hc)).plain fun p e s m args below meth c T locs k' n' hx hby X t r => XS.icmpNo X.here hx rfl (hb hby hd) rfl (feq (hc)).1 r
theorem Go.if_eq {x : Int32} {o : Int} {q' : Nat} (hd : decode code pc = .ok (.ifCond .eq o, 3)) (ho : 0 ≤ (pc : Int) + o) (hq : ((pc : Int) + o).toNat = q) (hq' : q' = pc + 3) (K1 : x = 0 → Go l Z mn code maxL ret R n0 Q h k n q Ls st) (K2 : ¬ x = 0 → Go l Z mn code maxL ret R n0 Q h k n q' Ls st) : Go l Z mn code maxL ret R n0 Q h k n pc Ls (.int x :: st) := by
  subst hq'
  by_cases hc : x = 0
  · exact (K1 hc).plain fun p e s m args below meth c T locs k' n' hx hby X t r => XS.ifYes X.here hx rfl rfl (hb hby hd) rfl ((if0 _ _).trans (teq hc).1) ho hq r
  · exact (K2 (hc)).plain fun p e s m args below meth c T locs k' n' hx hby X t r => XS.ifNo X.here hx rfl (hb hby hd) rfl ((if0 _ _).trans (feq (hc)).1) r
theorem Go.icmp_ne {x y' : Int32} {o : Int} {q' : Nat} (hd : decode code pc = .ok (.if_icmp .ne o, 3)) (ho : 0 ≤ (pc : Int) + o) (hq : ((pc : Int) + o).toNat = q) (hq' : q' = pc + 3) (K1 : ¬ x = y' → Go l Z mn code maxL ret R n0 Q h k n q Ls st) (K2 : x = y' → Go l Z mn code maxL ret R n0 Q h k n q' Ls st) : Go l Z mn code maxL ret R n0 Q h k n pc Ls (.int y' :: .int x :: st) := by
  subst hq'
  by_cases hc : ¬ x = y'
  · exact (K1 hc).plain fun p e s m args below meth c T locs k' n' hx hby X t r => XS.icmpYes X.here hx rfl rfl (hb hby hd) rfl (feq hc).2 ho hq r
  · exact (K2 (Decidable.not_not.mp hc)).plain fun p e s m args below meth c T locs k' n' hx hby X t r => XS.icmpNo X.here hx rfl (hb hby hd) rfl (teq (Decidable.not_not.mp hc)).2 r
theorem Go.if_ne {x : Int32} {o : Int} {q' : Nat} (hd : decode code pc = .ok (.ifCond .ne o, 3)) (ho : 0 ≤ (pc : Int) + o) (hq : ((pc : Int) + o).toNat = q) (hq' : q' = pc + 3) (K1 : ¬ x = 0 → Go l Z mn code maxL ret R n0 Q h k n q Ls st) (K2 : x = 0 → Go l Z mn code maxL ret R n0 Q h k n q' Ls st) : Go l Z mn code maxL ret R n0 Q h k n pc Ls (.int x :: st) := by
  subst hq'
  by_cases hc : ¬ x = 0
  · exact (K1 hc).plain fun p e s m args below meth c T locs k' n' hx hby X t r => XS.ifYes X.here hx rfl rfl (hb hby hd) rfl ((if0 _ _).trans (feq hc).2) ho hq r
  · exact (K2 (Decidable.not_not.mp hc)).plain fun p e s m args below meth c T locs k' n' hx hby X t r => XS.ifNo X.here hx rfl (hb hby hd) rfl ((if0 _ _).trans (teq (Decidable.not_not.mp hc)).2) r
theorem Go.icmp_lt {x y' : Int32} {o : Int} {q' : Nat} (hd : decode code pc = .ok (.if_icmp .lt o, 3)) (ho : 0 ≤ (pc : Int) + o) (hq : ((pc : Int) + o).toNat = q) (hq' : q' = pc + 3) (K1 : x < y' → Go l Z mn code maxL ret R n0 Q h k n q Ls st) (K2 : ¬ x < y' → Go l Z mn code maxL ret R n0 Q h k n q' Ls st) : Go l Z mn code maxL ret R n0 Q h k n pc Ls (.int y' :: .int x :: st) := by
  subst hq'
  by_cases hc : x < y'
  · exact (K1 hc).plain fun p e s m args below meth c T locs k' n' hx hby X t r => XS.icmpYes X.here hx rfl rfl (hb hby hd) rfl (tlt hc).1 ho hq r
  · exact (K2 (hc)).plain fun p e s m args below meth c T locs k' n' hx hby X t r => XS.icmpNo X.here hx rfl (hb hby hd) rfl (flt (hc)).1 r
theorem Go.if_lt {x : Int32} {o : Int} {q' : Nat} (hd : decode code pc = .ok (.ifCond .lt o, 3)) (ho : 0 ≤ (pc : Int) + o) (hq : ((pc : Int) + o).toNat = q) (hq' : q' = pc + 3) (K1 : x < 0 → Go l Z mn code maxL ret R n0 Q h k n q Ls st) (K2 : ¬ x < 0 → Go l Z mn code maxL ret R n0 Q h k n q' Ls st) : Go l Z mn code maxL ret R n0 Q h k n pc Ls (.int x :: st) := by
  subst hq'
  by_cases hc : x < 0
  · exact (K1 hc).plain fun p e s m args below meth c T locs k' n' hx hby X t r => XS.ifYes X.here hx rfl rfl (hb hby hd) rfl ((if0 _ _).trans (tlt hc).1) ho hq r
  · exact (K2 (hc)).plain fun p e s m args below meth c T locs k' n' hx hby X t r => XS.ifNo X.here hx rfl (hb hby hd) rfl ((if0 _ _).trans (flt (hc)).1) r
theorem Go.icmp_ge {x y' : Int32} {o : Int} {q' : Nat} (hd : decode code pc = .ok (.if_icmp .ge o, 3)) (ho : 0 ≤ (pc : Int) + o) (hq : ((pc : Int) + o).toNat = q) (hq' : q' = pc + 3) (K1 : ¬ x < y' → Go l Z mn code maxL ret R n0 Q h k n q Ls st) (K2 : x < y' → Go l Z mn code maxL ret R n0 Q h k n q' Ls st) : Go l Z mn code maxL ret R n0 Q h k n pc Ls (.int y' :: .int x :: st) := by
  subst hq'
  by_cases hc : ¬ x < y'
  · exact (K1 hc).plain fun p e s m args below meth c T locs k' n' hx hby X t r => XS.icmpYes X.here hx rfl rfl (hb hby hd) rfl (flt hc).2.1 ho hq r
  · exact (K2 (Decidable.not_not.mp hc)).plain fun p e s m args below meth c T locs k' n' hx hby X t r => XS.icmpNo X.here hx rfl (hb hby hd) rfl (tlt (Decidable.not_not.mp hc)).2.1 r
theorem Go.if_ge {x : Int32} {o : Int} {q' : Nat} (hd : decode code pc = .ok (.ifCond .ge o, 3)) (ho : 0 ≤ (pc : Int) + o) (hq : ((pc : Int) + o).toNat = q) (hq' : q' = pc + 3) (K1 : ¬ x < 0 → Go l Z mn code maxL ret R n0 Q h k n q Ls st) (K2 : x < 0 → Go l Z mn code maxL ret R n0 Q h k n q' Ls st) : Go l Z mn code maxL ret R n0 Q h k n pc Ls (.int x :: st) := by
  subst hq'
  by_cases hc : ¬ x < 0
  · exact (K1 hc).plain fun p e s m args below meth c T locs k' n' hx hby X t r => XS.ifYes X.here hx rfl rfl (hb hby hd) rfl ((if0 _ _).trans (flt hc).2.1) ho hq r
  · exact (K2 (Decidable.not_not.mp hc)).plain fun p e s m args below meth c T locs k' n' hx hby X t r => XS.ifNo X.here hx rfl (hb hby hd) rfl ((if0 _ _).trans (tlt (Decidable.not_not.mp hc)).2.1) r
theorem Go.icmp_gt {x y' : Int32} {o : Int} {q' : Nat} (hd : decode code pc = .ok (.if_icmp .gt o, 3)) (ho : 0 ≤ (pc : Int) + o) (hq : ((pc : Int) + o).toNat = q) (hq' : q' = pc + 3) (K1 : y' < x → Go l Z mn code maxL ret R n0 Q h k n q Ls st) (K2 : ¬ y' < x → Go l Z mn code maxL ret R n0 Q h k n q' Ls st) : Go l Z mn code maxL ret R n0 Q h k n pc Ls (.int y' :: .int x :: st) := by
  subst hq'
  by_cases hc : y' < x
  · exact (K1 hc).plain fun p e s m args below meth c T locs k' n' hx hby X t r => XS.icmpYes X.here hx rfl rfl (hb hby hd) rfl (tlt hc).2.2.1 ho hq r
  · exact (K2 (hc)).plain fun p e s m args below meth c T locs k' n' hx hby X t r => XS.icmpNo X.here hx rfl (hb hby hd) rfl (flt (hc)).2.2.1 r
theorem Go.if_gt {x : Int32} {o : Int} {q' : Nat} (hd : decode code pc = .ok (.ifCond .gt o, 3)) (ho : 0 ≤ (pc : Int) + o) (hq : ((pc : Int) + o).toNat = q) (hq' : q' = pc + 3) (K1 : 0 < x → Go l Z mn code maxL ret R n0 Q h k n q Ls st) (K2 : ¬ 0 < x → Go l Z mn code maxL ret R n0 Q h k n q' Ls st) : Go l Z mn code maxL ret R n0 Q h k n pc Ls (.int x :: st) := by
  subst hq'
  by_cases hc : 0 < x
  · exact (K1 hc).plain fun p e s m args below meth c T locs k' n' hx hby X t r => XS.ifYes X.here hx rfl rfl (hb hby hd) rfl ((if0 _ _).trans (tlt hc).2.2.1) ho hq r
  · exact (K2 (hc)).plain fun p e s m args below meth c T locs k' n' hx hby X t r => XS.ifNo X.here hx rfl (hb hby hd) rfl ((if0 _ _).trans (flt (hc)).2.2.1) r
theorem Go.icmp_le {x y' : Int32} {o : Int} {q' : Nat} (hd : decode code pc = .ok (.if_icmp .le o, 3)) (ho : 0 ≤ (pc : Int) + o) (hq : ((pc : Int) + o).toNat = q) (hq' : q' = pc + 3) (K1 : ¬ y' < x → Go l Z mn code maxL ret R n0 Q h k n q Ls st) (K2 : y' < x → Go l Z mn code maxL ret R n0 Q h k n q' Ls st) : Go l Z mn code maxL ret R n0 Q h k n pc Ls (.int y' :: .int x :: st) := by
  subst hq'
  by_cases hc : ¬ y' < x
  · exact (K1 hc).plain fun p e s m args below meth c T locs k' n' hx hby X t r => XS.icmpYes X.here hx rfl rfl (hb hby hd) rfl (flt hc).2.2.2 ho hq r
  · exact (K2 (Decidable.not_not.mp hc)).plain fun p e s m args below meth c T locs k' n' hx hby X t r => XS.icmpNo X.here hx rfl (hb hby hd) rfl (tlt (Decidable.not_not.mp hc)).2.2.2 r
theorem Go.if_le {x : Int32} {o : Int} {q' : Nat} (hd : decode code pc = .ok (.ifCond .le o, 3)) (ho : 0 ≤ (pc : Int) + o) (hq : ((pc : Int) + o).toNat = q) (hq' : q' = pc + 3) (K1 : ¬ 0 < x → Go l Z mn code maxL ret R n0 Q h k n q Ls st) (K2 : 0 < x → Go l Z mn code maxL ret R n0 Q h k n q' Ls st) : Go l Z mn code maxL ret R n0 Q h k n pc Ls (.int x :: st) := by
  subst hq'
  by_cases hc : ¬ 0 < x
  · exact (K1 hc).plain fun p e s m args below meth c T locs k' n' hx hby X t r => XS.ifYes X.here hx rfl rfl (hb hby hd) rfl ((if0 _ _).trans (flt hc).2.2.2) ho hq r
  · exact (K2 (Decidable.not_not.mp hc)).plain fun p e s m args below meth c T locs k' n' hx hby X t r => XS.ifNo X.here hx rfl (hb hby hd) rfl ((if0 _ _).trans (tlt (Decidable.not_not.mp hc)).2.2.2) r
theorem Go.ifnull {v : Value} {o : Int} {q' : Nat} (hd : decode code pc = .ok (.ifnull o, 3)) (ho : 0 ≤ (pc : Int) + o) (hq : ((pc : Int) + o).toNat = q) (hq' : q' = pc + 3) (hv : v.isRef = true) (K1 : v = .null → Go l Z mn code maxL ret R n0 Q h k n q Ls st) (K2 : ∀ a, v = .ref a → Go l Z mn code maxL ret R n0 Q h k n q' Ls st) : Go l Z mn code maxL ret R n0 Q h k n pc Ls (v :: st) := by
  subst hq'
  rcases ref_cases hv with rfl | ⟨a, rfl⟩
  · exact (K1 rfl).plain fun p e s m args below meth c T locs k' n' hx hby X t r => XS.ifnullYes X.here hx rfl rfl (hb hby hd) rfl ho hq r
  · exact (K2 a rfl).plain fun p e s m args below meth c T locs k' n' hx hby X t r => XS.ifnullNo X.here hx rfl (hb hby hd) rfl r
theorem Go.ifnonnull {v : Value} {o : Int} {q' : Nat} (hd : decode code pc = .ok (.ifnonnull o, 3)) (ho : 0 ≤ (pc : Int) + o) (hq : ((pc : Int) + o).toNat = q) (hq' : q' = pc + 3) (hv : v.isRef = true) (K1 : ∀ a, v = .ref a → Go l Z mn code maxL ret R n0 Q h k n q Ls st) (K2 : v = .null → Go l Z mn code maxL ret R n0 Q h k n q' Ls st) : Go l Z mn code maxL ret R n0 Q h k n pc Ls (v :: st) := by
  subst hq'
  rcases ref_cases hv with rfl | ⟨a, rfl⟩
  · exact (K2 rfl).plain fun p e s m args below meth c T locs k' n' hx hby X t r => XT.ifnonnullNo X.here hx rfl (hb hby hd) rfl r
  · exact (K1 a rfl).plain fun p e s m args below meth c T locs k' n' hx hby X t r => XT.ifnonnullYes X.here hx rfl rfl (hb hby hd) rfl ho hq r
theorem Go.acmp_eq {v w : Value} {o : Int} {q' : Nat} (hd : decode code pc = .ok (.if_acmp .eq o, 3)) (ho : 0 ≤ (pc : Int) + o) (hq : ((pc : Int) + o).toNat = q) (hq' : q' = pc + 3) (hv : v.isRef = true) (hw : w.isRef = true) (K1 : v = w → Go l Z mn code maxL ret R n0 Q h k n q Ls st) (K2 : ¬ v = w → Go l Z mn code maxL ret R n0 Q h k n q' Ls st) : Go l Z mn code maxL ret R n0 Q h k n pc Ls (w :: v :: st) := by
  subst hq'
  by_cases hc : v = w
  · exact (K1 hc).plain fun p e s m args below meth c T locs k' n' hx hby X t r => RoadKit.acmp X hx rfl hv hw rfl (hb hby hd) rfl (same := true) (by simp [hc]) ho (by simp [acV, hq]) r
  · exact (K2 hc).plain fun p e s m args below meth c T locs k' n' hx hby X t r => RoadKit.acmp X hx rfl hv hw rfl (hb hby hd) rfl (same := false) (by simp [hc]) ho (by simp [acV]) r
theorem Go.acmp_ne {v w : Value} {o : Int} {q' : Nat} (hd : decode code pc = .ok (.if_acmp .ne o, 3)) (ho : 0 ≤ (pc : Int) + o) (hq : ((pc : Int) + o).toNat = q) (hq' : q' = pc + 3) (hv : v.isRef = true) (hw : w.isRef = true) (K1 : ¬ v = w → Go l Z mn code maxL ret R n0 Q h k n q Ls st) (K2 : v = w → Go l Z mn code maxL ret R n0 Q h k n q' Ls st) : Go l Z mn code maxL ret R n0 Q h k n pc Ls (w :: v :: st) := by
  subst hq'
  by_cases hc : v = w
  · exact (K2 hc).plain fun p e s m args below meth c T locs k' n' hx hby X t r => RoadKit.acmp X hx rfl hv hw rfl (hb hby hd) rfl (same := true) (by simp [hc]) ho (by simp [acV]) r
  · exact (K1 hc).plain fun p e s m args below meth c T locs k' n' hx hby X t r => RoadKit.acmp X hx rfl hv hw rfl (hb hby hd) rfl (same := false) (by simp [hc]) ho (by simp [acV, hq]) r
/-! constants of the pool -/
theorem Go.ldc {i : Nat} {v : Int32} (hd : decode code pc = .ok (.ldc i, 2)) (hq : q = pc + 2) (w : (Jvm.Cond.constant mn.cls i v).before a0 Z = true) (K : Go l Z mn code maxL ret R n0 Q h k n q Ls (.int v :: st)) : Go l Z mn code maxL ret R n0 Q h k n pc Ls st := by
  subst hq
  exact fun p e s m args below meth c T locs k' n' C X hk hn N eT => (K p e s m args below meth c T locs k' n' C X hk hn N eT).step fun t r => X.ldcI C.1 C.2.2.2.2.1 (mvT C.2.1 w) rfl (hb C.2.2.1 hd) r
theorem Go.ldcW {i : Nat} {v : Int32} (hd : decode code pc = .ok (.ldc_w i, 3)) (hq : q = pc + 3) (w : (Jvm.Cond.constant mn.cls i v).before a0 Z = true) (K : Go l Z mn code maxL ret R n0 Q h k n q Ls (.int v :: st)) : Go l Z mn code maxL ret R n0 Q h k n pc Ls st := by
  subst hq
  exact fun p e s m args below meth c T locs k' n' C X hk hn N eT => (K p e s m args below meth c T locs k' n' C X hk hn N eT).step fun t r => X.ldcWI C.1 C.2.2.2.2.1 (mvT C.2.1 w) rfl (hb C.2.2.1 hd) r
theorem Go.ldc2 {i : Nat} {v : Int64} (hd : decode code pc = .ok (.ldc2_w i, 3)) (hq : q = pc + 3) (w : (Jvm.Cond.constantLong mn.cls i v).before a0 Z = true) (K : Go l Z mn code maxL ret R n0 Q h k n q Ls (.long v :: st)) : Go l Z mn code maxL ret R n0 Q h k n pc Ls st := by
  subst hq
  exact fun p e s m args below meth c T locs k' n' C X hk hn N eT => (K p e s m args below meth c T locs k' n' C X hk hn N eT).step fun t r => X.ldc2J C.1 C.2.2.2.2.1 (mvT C.2.1 w) rfl (hb C.2.2.1 hd) r
/-! statics and fields -/
theorem Go.getS {i : Nat} {O nm d : String} {v : Value} (hd : decode code pc = .ok (.getstatic i, 3)) (hq : q = pc + 3) (w : (Jvm.Cond.fieldLink mn.cls i O nm d).before a0 Z = true) (F : Sta Z h O nm d v) (K : Go l Z mn code maxL ret R n0 Q h k n q Ls (v :: st)) : Go l Z mn code maxL ret R n0 Q h k n pc Ls st := by
  subst hq
  intro p e s m args below meth c T locs k' n' C X hk hn N eT
  obtain ⟨T', X', e', f⟩ := RoadKit.getS (host := "") X C.1 C.2.1 C.2.2.2.2.1 w Via.refl eT F (g := mkF m pc Ls st) rfl (hb C.2.2.1 hd)
  exact (K p e s m args below meth c T' locs k' n' C X' hk hn N e').step f
theorem Go.getF {i : Nat} {R0 O nm d host : String} {a : Addr} {v : Value} (hd : decode code pc = .ok (.getfield i, 3)) (hq : q = pc + 3) (w : (Jvm.Cond.fieldLink mn.cls i R0 nm d).before a0 Z = true ∨ (Jvm.Cond.fieldLinkNest mn.cls i R0 nm d host).before a0 Z = true) (via : Via Z R0 O nm d) (F : Fld Z h a O nm d v) (K : Go l Z mn code maxL ret R n0 Q h k n q Ls (v :: st)) : Go l Z mn code maxL ret R n0 Q h k n pc Ls (.ref a :: st) := by
  subst hq
  intro p e s m args below meth c T locs k' n' C X hk hn N eT
  obtain ⟨T', X', e', f⟩ := RoadKit.getF X C.1 C.2.1 C.2.2.2.2.1 w via eT F (g := mkF m pc Ls (.ref a :: st)) rfl rfl (hb C.2.2.1 hd)
  exact (K p e s m args below meth c T' locs k' n' C X' hk hn N e').step f
theorem Go.putF {i kk : Nat} {R0 O nm d host C : String} {a : Addr} {v old : Value} {ty : FieldType} (hd : decode code pc = .ok (.putfield i, 3)) (hq : q = pc + 3) (w : (Jvm.Cond.fieldLink mn.cls i R0 nm d).before a0 Z = true ∨ (Jvm.Cond.fieldLinkNest mn.cls i R0 nm d host).before a0 Z = true) (via : Via Z R0 O nm d) (F : Fld Z h a O nm d old) (E : Exa Z h a C) (L : (Jvm.Cond.lays C O nm d).before a0 Z = true ∨ ((Jvm.Cond.laysFinal C O nm d).before a0 Z = true ∧ mn.cls = O ∧ mn.name = "<init>")) (wi : (Jvm.Cond.instantiable C kk).before a0 Z = true)
    (hty : parseFieldDescriptor d = some ty) (hna : narrow ty v = v) (hf : fits ty v = true) (ha : n0 ≤ a) (K : ∀ h', Wr h h' a (RoadKit.slotOf Z O nm d) v → Go l Z mn code maxL ret R n0 Q h' k n q Ls st) : Go l Z mn code maxL ret R n0 Q h k n pc Ls (v :: .ref a :: st) := by
  subst hq
  intro p e s m args below meth c T locs k' n' Cc X hk hn N eT
  obtain ⟨T', h', X', e', W, f⟩ := RoadKit.putF X Cc.1 Cc.2.1 Cc.2.2.2.2.1 w via eT F E (L.imp id fun q => ⟨q.1, q.2.1, Cc.2.2.2.2.2.2.2.trans q.2.2⟩) wi hty hna hf (g := mkF m pc Ls (v :: .ref a :: st)) rfl rfl (hb Cc.2.2.1 hd)
  exact (K h' W p e s m args below meth c T' _ k' n' Cc X' hk hn (Fr.snoc X' N ha) e').step f
theorem Go.cast {i : Nat} {Kc : String} {a : Addr} (hd : decode code pc = .ok (.checkcast i, 3)) (hq : q = pc + 3) (w : (Jvm.Cond.classLink mn.cls i Kc).before a0 Z = true) (F : Ins Z h a Kc true) (K : Go l Z mn code maxL ret R n0 Q h k n q Ls (.ref a :: st)) : Go l Z mn code maxL ret R n0 Q h k n pc Ls (.ref a :: st) := by
  subst hq
  intro p e s m args below meth c T locs k' n' C X hk hn N eT
  obtain ⟨T', X', e', f⟩ := castY X C.1 C.2.1 C.2.2.2.2.1 w eT F (g := mkF m pc Ls (.ref a :: st)) rfl rfl (hb C.2.2.1 hd)
  exact (K p e s m args below meth c T' locs k' n' C X' hk hn N e').step f
/-! new, arrays -/
theorem Go.new {i kk : Nat} {C : String} (hd : decode code pc = .ok (.new i, 3)) (hq : q = pc + 3) (w : (Jvm.Cond.classLink mn.cls i C).before a0 Z = true) (wi : (Jvm.Cond.instantiable C kk).before a0 Z = true) (wz : (Jvm.Cond.initialized C).before a0 Z = true) (hc : k + 1 ≤ R.cells) (hs : n + kk ≤ R.slots)
    (K : ∀ h' a, a = h.size → Ext h h' → Exa Z h' a C → (∀ {O nm d : String} {ty : FieldType}, Laid Z a0 C O nm d → parseFieldDescriptor d = some ty → Fld Z h' a O nm d (defaultValue ty)) → Go l Z mn code maxL ret R n0 Q h' (k + 1) (n + kk) q Ls (.ref a :: st)) : Go l Z mn code maxL ret R n0 Q h k n pc Ls st := by
  subst hq
  intro p e s m args below meth c T locs k' n' Cc X hk hn N eT
  obtain ⟨T', h', X', e', E, A, D, -, f⟩ := newO X Cc.1 Cc.2.1 Cc.2.2.2.2.1 w wi wz eT (g := mkF m pc Ls st) rfl (hb Cc.2.2.1 hd) (by omega) (by omega)
  exact (K h' h.size rfl E A (fun L t => D L t) p e s m args below meth c T' locs _ _ Cc X' (by omega) (by omega) N e').step f
theorem Go.initObj {i wd : Nat} {a : Addr} (hd : decode code pc = .ok (.invokespecial i, 3)) (hq : q = pc + 3) (w1 : (Jvm.Cond.methodLink mn.cls i Lib.objectInit).before a0 Z = true) (w2 : (Jvm.Cond.instanceMethod Lib.objectInit).before a0 Z = true) (w3 : (Jvm.Cond.code Lib.objectInit ⟨#[0xb1]⟩ 1 none).before a0 Z = true) (hsz : Ls.size = maxL) (hf : 1 ≤ R.frames) (hW : (st.map fun v => v.category).sum = wd) (hl : wd + 12 ≤ R.locals) (K : Go l Z mn code maxL ret R n0 Q h k n q Ls st) : Go l Z mn code maxL ret R n0 Q h k n pc Ls (.ref a :: st) := by
  subst hq
  intro p e s m args below meth c T locs k' n' C X hk hn N eT
  obtain ⟨T', X', e', f⟩ := initO X C.1 C.2.1 C.2.2.2.2.1 w1 w2 w3 eT (g := mkF m pc Ls (.ref a :: st)) rfl (by rw [C.2.2.2.1]; exact hsz) rfl (hb C.2.2.1 hd) hf (W := wd) (by simp [hW]) hl
  exact (K p e s m args below meth c T' locs k' n' C X' hk hn N e').step f

end Laws
theorem cmpL_eq (x y : Int64) : XT.cmpL x y = 0 ↔ x = y := by
  unfold XT.cmpL
  by_cases h1 : y < x
  · rw [if_pos h1]; constructor
    · intro e; exact absurd e (by decide)
    · rintro rfl; exact absurd h1 Int64.lt_irrefl
  · rw [if_neg h1]
    by_cases h2 : x = y
    · simp [h2]
    · rw [if_neg h2]; constructor
      · intro e; exact absurd e (by decide)
      · intro e; exact absurd e h2
theorem cmpL_lt (x y : Int64) : XT.cmpL x y < 0 ↔ x < y := by
  unfold XT.cmpL
  by_cases h1 : y < x
  · rw [if_pos h1]; constructor
    · intro e; exact absurd e (by decide)
    · intro e; rw [Int64.lt_iff_toInt_lt] at e h1; omega
  · rw [if_neg h1]
    by_cases h2 : x = y
    · rw [if_pos h2]; constructor
      · intro e; exact absurd e (by decide)
      · intro e; rw [h2] at e; exact absurd e Int64.lt_irrefl
    · rw [if_neg h2]; constructor
      · intro _; rw [Int64.lt_iff_toInt_lt] at h1 ⊢; rw [← Int64.toInt_inj] at h2; omega
      · intro _; decide
theorem cmpL_gt (x y : Int64) : 0 < XT.cmpL x y ↔ y < x := by
  unfold XT.cmpL
  by_cases h1 : y < x
  · rw [if_pos h1]; constructor
    · intro _; exact h1
    · intro _; decide
  · rw [if_neg h1]
    by_cases h2 : x = y
    · rw [if_pos h2]; constructor
      · intro e; exact absurd e (by decide)
      · intro e; exact absurd e h1
    · rw [if_neg h2]; constructor
      · intro e; exact absurd e (by decide)
      · intro e; exact absurd e h1
section Laws2
variable {l : Launch} {Z : State} {mn : MethodName} {code : ByteArray} {maxL : Nat} {ret : Option FieldType} {R : Room} {n0 : Nat} {Q : Option Value → Heap → Prop} {h : Heap} {k n pc q : Nat} {Ls Ls' : Array Slot} {st st' : List Value} {a0 : Array Value}
theorem Go.lif_eq {x y' : Int64} {o : Int} {q' : Nat} (hd : decode code pc = .ok (.ifCond .eq o, 3)) (ho : 0 ≤ (pc : Int) + o) (hq : ((pc : Int) + o).toNat = q) (hq' : q' = pc + 3) (K1 : x = y' → Go l Z mn code maxL ret R n0 Q h k n q Ls st) (K2 : ¬ x = y' → Go l Z mn code maxL ret R n0 Q h k n q' Ls st) : Go l Z mn code maxL ret R n0 Q h k n pc Ls (.int (XT.cmpL x y') :: st) :=
  Go.if_eq hd ho hq hq' (fun c => K1 ((cmpL_eq _ _).mp c)) (fun c => K2 fun e => c ((cmpL_eq _ _).mpr e))
theorem Go.lif_ne {x y' : Int64} {o : Int} {q' : Nat} (hd : decode code pc = .ok (.ifCond .ne o, 3)) (ho : 0 ≤ (pc : Int) + o) (hq : ((pc : Int) + o).toNat = q) (hq' : q' = pc + 3) (K1 : ¬ x = y' → Go l Z mn code maxL ret R n0 Q h k n q Ls st) (K2 : x = y' → Go l Z mn code maxL ret R n0 Q h k n q' Ls st) : Go l Z mn code maxL ret R n0 Q h k n pc Ls (.int (XT.cmpL x y') :: st) :=
  Go.if_ne hd ho hq hq' (fun c => K1 fun e => c ((cmpL_eq _ _).mpr e)) (fun c => K2 ((cmpL_eq _ _).mp c))
theorem Go.lif_lt {x y' : Int64} {o : Int} {q' : Nat} (hd : decode code pc = .ok (.ifCond .lt o, 3)) (ho : 0 ≤ (pc : Int) + o) (hq : ((pc : Int) + o).toNat = q) (hq' : q' = pc + 3) (K1 : x < y' → Go l Z mn code maxL ret R n0 Q h k n q Ls st) (K2 : ¬ x < y' → Go l Z mn code maxL ret R n0 Q h k n q' Ls st) : Go l Z mn code maxL ret R n0 Q h k n pc Ls (.int (XT.cmpL x y') :: st) :=
  Go.if_lt hd ho hq hq' (fun c => K1 ((cmpL_lt _ _).mp c)) (fun c => K2 fun e => c ((cmpL_lt _ _).mpr e))
theorem Go.lif_ge {x y' : Int64} {o : Int} {q' : Nat} (hd : decode code pc = .ok (.ifCond .ge o, 3)) (ho : 0 ≤ (pc : Int) + o) (hq : ((pc : Int) + o).toNat = q) (hq' : q' = pc + 3) (K1 : ¬ x < y' → Go l Z mn code maxL ret R n0 Q h k n q Ls st) (K2 : x < y' → Go l Z mn code maxL ret R n0 Q h k n q' Ls st) : Go l Z mn code maxL ret R n0 Q h k n pc Ls (.int (XT.cmpL x y') :: st) :=
  Go.if_ge hd ho hq hq' (fun c => K1 fun e => c ((cmpL_lt _ _).mpr e)) (fun c => K2 ((cmpL_lt _ _).mp c))
theorem Go.lif_gt {x y' : Int64} {o : Int} {q' : Nat} (hd : decode code pc = .ok (.ifCond .gt o, 3)) (ho : 0 ≤ (pc : Int) + o) (hq : ((pc : Int) + o).toNat = q) (hq' : q' = pc + 3) (K1 : y' < x → Go l Z mn code maxL ret R n0 Q h k n q Ls st) (K2 : ¬ y' < x → Go l Z mn code maxL ret R n0 Q h k n q' Ls st) : Go l Z mn code maxL ret R n0 Q h k n pc Ls (.int (XT.cmpL x y') :: st) :=
  Go.if_gt hd ho hq hq' (fun c => K1 ((cmpL_gt _ _).mp c)) (fun c => K2 fun e => c ((cmpL_gt _ _).mpr e))
theorem Go.lif_le {x y' : Int64} {o : Int} {q' : Nat} (hd : decode code pc = .ok (.ifCond .le o, 3)) (ho : 0 ≤ (pc : Int) + o) (hq : ((pc : Int) + o).toNat = q) (hq' : q' = pc + 3) (K1 : ¬ y' < x → Go l Z mn code maxL ret R n0 Q h k n q Ls st) (K2 : y' < x → Go l Z mn code maxL ret R n0 Q h k n q' Ls st) : Go l Z mn code maxL ret R n0 Q h k n pc Ls (.int (XT.cmpL x y') :: st) :=
  Go.if_le hd ho hq hq' (fun c => K1 fun e => c ((cmpL_gt _ _).mpr e)) (fun c => K2 ((cmpL_gt _ _).mp c))
end Laws2
end Jvm.OwnKit

namespace Jvm.OwnKit
open Jvm Jvm.ClassFile Sem Op Lib Jvm.Free Jvm.Stand Jvm.LawKit Jvm.RoadKit
section Calls
variable {l : Launch} {Z : State} {mn : MethodName} {code : ByteArray} {maxL : Nat} {ret : Option FieldType} {R : Room} {n0 : Nat} {Q : Option Value → Heap → Prop} {h : Heap} {k n pc q : Nat} {Ls Ls' : Array Slot} {st st' : List Value} {a0 : Array Value}
  {y' : MethodName} {code' : ByteArray} {maxL' : Nat} {ret' : Option FieldType} {R' : Room} {Q' : Option Value → Heap → Prop} {argsL rest : List Value} {Ls1 : Array Slot} {ps : List FieldType} {r : Option FieldType} {i wd : Nat}
theorem Go.callS (hd : decode code pc = .ok (.invokestatic i, 3)) (hq : q = pc + 3) (w1 : (Jvm.Cond.methodLink mn.cls i y').before a0 Z = true) (w2 : (Jvm.Cond.static y').before a0 Z = true) (w3 : (Jvm.Cond.initialized y'.cls).before a0 Z = true) (w4 : (Jvm.Cond.code y' code' maxL' ret').before a0 Z = true)
    (hy : y'.cls ≠ "java/lang/invoke/MethodHandle" ∧ y'.cls ≠ "java/lang/invoke/VarHandle") (pn : plainName y'.cls = true) (pd : parseMethodDescriptor y'.desc = some ⟨ps, r⟩) (hl : argsL.length = ps.length) (hst : st = argsL.reverse ++ rest) (hef : ∀ m, entryFrame m argsL.toArray maxL' = mkF m 0 Ls1 []) (hsz : Ls.size = maxL)
    (hR1 : R'.frames + 1 ≤ R.frames) (hW : (rest.map fun v => v.category).sum = wd) (hR2 : wd + (maxL' + 11) + R'.locals ≤ R.locals) (hc : k + R'.cells ≤ R.cells) (hs : n + R'.slots ≤ R.slots)
    (G : Go l Z y' code' maxL' ret' R' n0 Q' h 0 0 0 Ls1 []) (K : ∀ v h', Q' v h' → Go l Z mn code maxL ret R n0 Q h' (k + R'.cells) (n + R'.slots) q Ls (v.toList ++ rest)) : Go l Z mn code maxL ret R n0 Q h k n pc Ls st := by
  subst hq hst hW
  intro p e s m args below meth c T locs k' n' C X hk hn N eT
  obtain ⟨v, vm1, ⟨T1, L1, k1, n1⟩, -, X1, ⟨Lc, hQ, e1, e2, e3⟩, f⟩ := Jvm.LawKit.callS X C.1 (y := y') C.2.2.2.2.1 (mvT C.2.1 w1) (mvT C.2.1 w2) (mvT C.2.1 w3) (mvT C.2.1 w4) hy (backOf (W := (rest.map fun v => v.category).sum) (Q := fun v h L => Fr n0 L ∧ Q' v h) (G.met pn hef []) C.2.1 w4 w3 hR1 hR2) (g := mkF m pc Ls (argsL.reverse ++ rest)) rfl (by rw [C.2.2.2.1]; exact hsz) (argsL := argsL) (rest := rest) (lenOf pd hl) rfl (by simp) (hb C.2.2.1 hd) (fun _ _ => ⟨rfl, eT, by show k' + _ ≤ _; omega, by show n' + _ ≤ _; omega⟩)
  dsimp only [Pt.U, Pt.locs, Pt.cells, Pt.slots] at X1 e1 e2 e3 f hQ
  subst e1 e2 e3
  exact (K v T1.heap hQ.2 p e s m args below meth c T1 _ _ _ C X1 (by omega) (by omega) (Fr.app N hQ.1) rfl).step f
theorem Go.callV {C : String} {a : Addr} (hd : decode code pc = .ok (.invokevirtual i, 3)) (hq : q = pc + 3) (w1 : (Jvm.Cond.methodLink mn.cls i y').before a0 Z = true) (w2 : (Jvm.Cond.declares y').before a0 Z = true) (w3 : (Jvm.Cond.selects C y' y').before a0 Z = true) (w4 : (Jvm.Cond.instanceMethod y').before a0 Z = true) (w5 : (Jvm.Cond.code y' code' maxL' ret').before a0 Z = true) (w6 : (Jvm.Cond.initialized y'.cls).before a0 Z = true)
    (hy : y'.cls ≠ "java/lang/invoke/MethodHandle" ∧ y'.cls ≠ "java/lang/invoke/VarHandle") (pn : plainName y'.cls = true) (pd : parseMethodDescriptor y'.desc = some ⟨ps, r⟩) (hl : argsL.length = ps.length) (hst : st = argsL.reverse ++ .ref a :: rest) (E : Exa Z h a C) (hef : ∀ m, entryFrame m (.ref a :: argsL).toArray maxL' = mkF m 0 Ls1 []) (hsz : Ls.size = maxL)
    (hR1 : R'.frames + 1 ≤ R.frames) (hW : (rest.map fun v => v.category).sum = wd) (hR2 : wd + (maxL' + 11) + R'.locals ≤ R.locals) (hc : k + R'.cells ≤ R.cells) (hs : n + R'.slots ≤ R.slots)
    (G : Go l Z y' code' maxL' ret' R' n0 Q' h 0 0 0 Ls1 []) (K : ∀ v h', Q' v h' → Go l Z mn code maxL ret R n0 Q h' (k + R'.cells) (n + R'.slots) q Ls (v.toList ++ rest)) : Go l Z mn code maxL ret R n0 Q h k n pc Ls st := by
  subst hq hst hW
  intro p e s m args below meth c T locs k' n' Cc X hk hn N eT
  obtain ⟨cq, kq, qa, qb, qc⟩ := isOf Cc.2.1 eT E
  obtain ⟨v, vm1, ⟨T1, L1, k1, n1⟩, -, X1, ⟨Lc, hQ, e1, e2, e3⟩, f⟩ := X.virtualBack Cc.1 (y := y') (z := y') Cc.2.2.2.2.1 (mvT Cc.2.1 w1) (mvT Cc.2.1 w2) (notFace_of_selects (args := #[]) (mvT Cc.2.1 w3)) (mvT Cc.2.1 w3) (mvT Cc.2.1 w4) hy (backOf (W := (rest.map fun v => v.category).sum) (Q := fun v h L => Fr n0 L ∧ Q' v h) (G.met pn hef []) Cc.2.1 w5 w6 hR1 hR2) qa qc (g := mkF m pc Ls (argsL.reverse ++ .ref a :: rest)) rfl (by rw [Cc.2.2.2.1]; exact hsz) (Steps.refl _) (argsL := argsL) (rest := rest) (lenOf pd hl) rfl (by simp) (hb Cc.2.2.1 hd) (fun _ _ => ⟨rfl, eT, by show k' + _ ≤ _; omega, by show n' + _ ≤ _; omega⟩)
  dsimp only [Pt.U, Pt.locs, Pt.cells, Pt.slots] at X1 e1 e2 e3 f hQ
  subst e1 e2 e3
  exact (K v T1.heap hQ.2 p e s m args below meth c T1 _ _ _ Cc X1 (by omega) (by omega) (Fr.app N hQ.1) rfl).step fun t r => f.trans r
theorem Go.callI {a : Addr} (hd : decode code pc = .ok (.invokespecial i, 3)) (hq : q = pc + 3) (hn1 : y'.name = "<init>") (w1 : (Jvm.Cond.methodLink mn.cls i y').before a0 Z = true) (w2 : (Jvm.Cond.instanceMethod y').before a0 Z = true) (w3 : (Jvm.Cond.initialized y'.cls).before a0 Z = true) (w4 : (Jvm.Cond.code y' code' maxL' none).before a0 Z = true)
    (hy : y'.cls ≠ "java/lang/invoke/MethodHandle" ∧ y'.cls ≠ "java/lang/invoke/VarHandle") (pn : plainName y'.cls = true) (pd : parseMethodDescriptor y'.desc = some ⟨ps, r⟩) (hl : argsL.length = ps.length) (hst : st = argsL.reverse ++ .ref a :: rest) (hef : ∀ m, entryFrame m (.ref a :: argsL).toArray maxL' = mkF m 0 Ls1 []) (hsz : Ls.size = maxL)
    (hR1 : R'.frames + 1 ≤ R.frames) (hW : (rest.map fun v => v.category).sum = wd) (hR2 : wd + (maxL' + 11) + R'.locals ≤ R.locals) (hc : k + R'.cells ≤ R.cells) (hs : n + R'.slots ≤ R.slots)
    (G : Go l Z y' code' maxL' none R' n0 Q' h 0 0 0 Ls1 []) (K : ∀ v h', Q' v h' → Go l Z mn code maxL ret R n0 Q h' (k + R'.cells) (n + R'.slots) q Ls (v.toList ++ rest)) : Go l Z mn code maxL ret R n0 Q h k n pc Ls st := by
  subst hq hst hW
  intro p e s m args below meth c T locs k' n' Cc X hk hn N eT
  obtain ⟨v, vm1, ⟨T1, L1, k1, n1⟩, -, X1, ⟨Lc, hQ, e1, e2, e3⟩, f⟩ := X.specialBack Cc.1 (y := y') hn1 Cc.2.2.2.2.1 (mvT Cc.2.1 w1) (mvT Cc.2.1 w2) (mvT Cc.2.1 w4) hy (backOf (W := (rest.map fun v => v.category).sum) (Q := fun v h L => Fr n0 L ∧ Q' v h) (G.met pn hef []) Cc.2.1 w4 w3 hR1 hR2) (g := mkF m pc Ls (argsL.reverse ++ .ref a :: rest)) rfl (by rw [Cc.2.2.2.1]; exact hsz) (Steps.refl _) (a := a) (argsL := argsL) (rest := rest) (lenOf pd hl) rfl (by simp) (hb Cc.2.2.1 hd) (fun _ _ => ⟨rfl, eT, by show k' + _ ≤ _; omega, by show n' + _ ≤ _; omega⟩)
  dsimp only [Pt.U, Pt.locs, Pt.cells, Pt.slots] at X1 e1 e2 e3 f hQ
  subst e1 e2 e3
  exact (K v T1.heap hQ.2 p e s m args below meth c T1 _ _ _ Cc X1 (by omega) (by omega) (Fr.app N hQ.1) rfl).step fun t r => f.trans r
theorem Go.callSV {P : Value → Heap → Prop} (hd : decode code pc = .ok (.invokestatic i, 3)) (hq : q = pc + 3) (w1 : (Jvm.Cond.methodLink mn.cls i y').before a0 Z = true) (w2 : (Jvm.Cond.static y').before a0 Z = true) (w3 : (Jvm.Cond.initialized y'.cls).before a0 Z = true) (w4 : (Jvm.Cond.code y' code' maxL' ret').before a0 Z = true)
    (hy : y'.cls ≠ "java/lang/invoke/MethodHandle" ∧ y'.cls ≠ "java/lang/invoke/VarHandle") (pn : plainName y'.cls = true) (pd : parseMethodDescriptor y'.desc = some ⟨ps, r⟩) (hl : argsL.length = ps.length) (hst : st = argsL.reverse ++ rest) (hef : ∀ m, entryFrame m argsL.toArray maxL' = mkF m 0 Ls1 []) (hsz : Ls.size = maxL)
    (hR1 : R'.frames + 1 ≤ R.frames) (hW : (rest.map fun v => v.category).sum = wd) (hR2 : wd + (maxL' + 11) + R'.locals ≤ R.locals) (hc : k + R'.cells ≤ R.cells) (hs : n + R'.slots ≤ R.slots)
    (G : Go l Z y' code' maxL' ret' R' n0 (RV P) h 0 0 0 Ls1 []) (K : ∀ w h', P w h' → Go l Z mn code maxL ret R n0 Q h' (k + R'.cells) (n + R'.slots) q Ls (w :: rest)) : Go l Z mn code maxL ret R n0 Q h k n pc Ls st :=
  Go.callS hd hq w1 w2 w3 w4 hy pn pd hl hst hef hsz hR1 hW hR2 hc hs G fun v h' ⟨w, e, q⟩ => by subst e; exact K w h' q
theorem Go.callSN {P : Heap → Prop} (hd : decode code pc = .ok (.invokestatic i, 3)) (hq : q = pc + 3) (w1 : (Jvm.Cond.methodLink mn.cls i y').before a0 Z = true) (w2 : (Jvm.Cond.static y').before a0 Z = true) (w3 : (Jvm.Cond.initialized y'.cls).before a0 Z = true) (w4 : (Jvm.Cond.code y' code' maxL' ret').before a0 Z = true)
    (hy : y'.cls ≠ "java/lang/invoke/MethodHandle" ∧ y'.cls ≠ "java/lang/invoke/VarHandle") (pn : plainName y'.cls = true) (pd : parseMethodDescriptor y'.desc = some ⟨ps, r⟩) (hl : argsL.length = ps.length) (hst : st = argsL.reverse ++ rest) (hef : ∀ m, entryFrame m argsL.toArray maxL' = mkF m 0 Ls1 []) (hsz : Ls.size = maxL)
    (hR1 : R'.frames + 1 ≤ R.frames) (hW : (rest.map fun v => v.category).sum = wd) (hR2 : wd + (maxL' + 11) + R'.locals ≤ R.locals) (hc : k + R'.cells ≤ R.cells) (hs : n + R'.slots ≤ R.slots)
    (G : Go l Z y' code' maxL' ret' R' n0 (RN P) h 0 0 0 Ls1 []) (K : ∀ h', P h' → Go l Z mn code maxL ret R n0 Q h' (k + R'.cells) (n + R'.slots) q Ls rest) : Go l Z mn code maxL ret R n0 Q h k n pc Ls st :=
  Go.callS hd hq w1 w2 w3 w4 hy pn pd hl hst hef hsz hR1 hW hR2 hc hs G fun v h' ⟨e, q⟩ => by subst e; exact K h' q
theorem Go.callVV {P : Value → Heap → Prop} {C : String} {a : Addr} (hd : decode code pc = .ok (.invokevirtual i, 3)) (hq : q = pc + 3) (w1 : (Jvm.Cond.methodLink mn.cls i y').before a0 Z = true) (w2 : (Jvm.Cond.declares y').before a0 Z = true) (w3 : (Jvm.Cond.selects C y' y').before a0 Z = true) (w4 : (Jvm.Cond.instanceMethod y').before a0 Z = true) (w5 : (Jvm.Cond.code y' code' maxL' ret').before a0 Z = true) (w6 : (Jvm.Cond.initialized y'.cls).before a0 Z = true)
    (hy : y'.cls ≠ "java/lang/invoke/MethodHandle" ∧ y'.cls ≠ "java/lang/invoke/VarHandle") (pn : plainName y'.cls = true) (pd : parseMethodDescriptor y'.desc = some ⟨ps, r⟩) (hl : argsL.length = ps.length) (hst : st = argsL.reverse ++ .ref a :: rest) (E : Exa Z h a C) (hef : ∀ m, entryFrame m (.ref a :: argsL).toArray maxL' = mkF m 0 Ls1 []) (hsz : Ls.size = maxL)
    (hR1 : R'.frames + 1 ≤ R.frames) (hW : (rest.map fun v => v.category).sum = wd) (hR2 : wd + (maxL' + 11) + R'.locals ≤ R.locals) (hc : k + R'.cells ≤ R.cells) (hs : n + R'.slots ≤ R.slots)
    (G : Go l Z y' code' maxL' ret' R' n0 (RV P) h 0 0 0 Ls1 []) (K : ∀ w h', P w h' → Go l Z mn code maxL ret R n0 Q h' (k + R'.cells) (n + R'.slots) q Ls (w :: rest)) : Go l Z mn code maxL ret R n0 Q h k n pc Ls st :=
  Go.callV hd hq w1 w2 w3 w4 w5 w6 hy pn pd hl hst E hef hsz hR1 hW hR2 hc hs G fun v h' ⟨w, e, q⟩ => by subst e; exact K w h' q
theorem Go.callVN {P : Heap → Prop} {C : String} {a : Addr} (hd : decode code pc = .ok (.invokevirtual i, 3)) (hq : q = pc + 3) (w1 : (Jvm.Cond.methodLink mn.cls i y').before a0 Z = true) (w2 : (Jvm.Cond.declares y').before a0 Z = true) (w3 : (Jvm.Cond.selects C y' y').before a0 Z = true) (w4 : (Jvm.Cond.instanceMethod y').before a0 Z = true) (w5 : (Jvm.Cond.code y' code' maxL' ret').before a0 Z = true) (w6 : (Jvm.Cond.initialized y'.cls).before a0 Z = true)
    (hy : y'.cls ≠ "java/lang/invoke/MethodHandle" ∧ y'.cls ≠ "java/lang/invoke/VarHandle") (pn : plainName y'.cls = true) (pd : parseMethodDescriptor y'.desc = some ⟨ps, r⟩) (hl : argsL.length = ps.length) (hst : st = argsL.reverse ++ .ref a :: rest) (E : Exa Z h a C) (hef : ∀ m, entryFrame m (.ref a :: argsL).toArray maxL' = mkF m 0 Ls1 []) (hsz : Ls.size = maxL)
    (hR1 : R'.frames + 1 ≤ R.frames) (hW : (rest.map fun v => v.category).sum = wd) (hR2 : wd + (maxL' + 11) + R'.locals ≤ R.locals) (hc : k + R'.cells ≤ R.cells) (hs : n + R'.slots ≤ R.slots)
    (G : Go l Z y' code' maxL' ret' R' n0 (RN P) h 0 0 0 Ls1 []) (K : ∀ h', P h' → Go l Z mn code maxL ret R n0 Q h' (k + R'.cells) (n + R'.slots) q Ls rest) : Go l Z mn code maxL ret R n0 Q h k n pc Ls st :=
  Go.callV hd hq w1 w2 w3 w4 w5 w6 hy pn pd hl hst E hef hsz hR1 hW hR2 hc hs G fun v h' ⟨e, q⟩ => by subst e; exact K h' q
theorem Go.callIN {P : Heap → Prop} {a : Addr} (hd : decode code pc = .ok (.invokespecial i, 3)) (hq : q = pc + 3) (hn1 : y'.name = "<init>") (w1 : (Jvm.Cond.methodLink mn.cls i y').before a0 Z = true) (w2 : (Jvm.Cond.instanceMethod y').before a0 Z = true) (w3 : (Jvm.Cond.initialized y'.cls).before a0 Z = true) (w4 : (Jvm.Cond.code y' code' maxL' none).before a0 Z = true)
    (hy : y'.cls ≠ "java/lang/invoke/MethodHandle" ∧ y'.cls ≠ "java/lang/invoke/VarHandle") (pn : plainName y'.cls = true) (pd : parseMethodDescriptor y'.desc = some ⟨ps, r⟩) (hl : argsL.length = ps.length) (hst : st = argsL.reverse ++ .ref a :: rest) (hef : ∀ m, entryFrame m (.ref a :: argsL).toArray maxL' = mkF m 0 Ls1 []) (hsz : Ls.size = maxL)
    (hR1 : R'.frames + 1 ≤ R.frames) (hW : (rest.map fun v => v.category).sum = wd) (hR2 : wd + (maxL' + 11) + R'.locals ≤ R.locals) (hc : k + R'.cells ≤ R.cells) (hs : n + R'.slots ≤ R.slots)
    (G : Go l Z y' code' maxL' none R' n0 (RN P) h 0 0 0 Ls1 []) (K : ∀ h', P h' → Go l Z mn code maxL ret R n0 Q h' (k + R'.cells) (n + R'.slots) q Ls rest) : Go l Z mn code maxL ret R n0 Q h k n pc Ls st :=
  Go.callI hd hq hn1 w1 w2 w3 w4 hy pn pd hl hst hef hsz hR1 hW hR2 hc hs G fun v h' ⟨e, q⟩ => by subst e; exact K h' q
end Calls
section Rets
variable {l : Launch} {Z : State} {mn : MethodName} {code : ByteArray} {maxL : Nat} {R : Room} {n0 : Nat} {Q : Option Value → Heap → Prop} {h : Heap} {k n pc q : Nat} {Ls : Array Slot} {st : List Value}
theorem Go.retOut {w : Value} {t : FieldType} {i : Instr} (hd : decode code pc = .ok (i, 1)) (hna : narrow t w = w)
    (hi : (i = .ireturn ∧ (t = .int ∨ t = .boolean ∨ t = .byte ∨ t = .char ∨ t = .short) ∧ ∃ z, w = .int z) ∨ (i = .lreturn ∧ t = .long ∧ ∃ z, w = .long z) ∨ (i = .dreturn ∧ t = .double ∧ ∃ z, w = .double z) ∨ (i = .freturn ∧ t = .float ∧ ∃ z, w = .float z) ∨ (i = .areturn ∧ t.isReference = true ∧ w.isRef = true))
    (hk : k ≤ R.cells) (hn : n ≤ R.slots) (hQ : Q (some w) h) : Go l Z mn code maxL (some t) R n0 Q h k n pc Ls (w :: st) := by
  intro p e s m args below meth c T locs k' n' C X hk' hn' N eT
  obtain ⟨fs, hr, hrun, hended, hW, hsame⟩ := X.leave (v := some w) (fun hh => by rw [C.2.2.2.2.2.1] at hh; cases hh) C.2.2.2.2.2.2.1
  exact ⟨_, _, RoadKit.retOut X C.1 C.2.2.2.2.2.1 hna hi (hb C.2.2.1 hd) hr, hrun, hended, _, locs, rfl, ⟨N, by show Q _ T.heap; rw [eT]; exact hQ⟩, ⟨_, rfl⟩, hW, hsame.mono (by omega) (by omega)⟩
theorem Go.ireturn {z : Int32} (hd : decode code pc = .ok (.ireturn, 1)) (hk : k ≤ R.cells) (hn : n ≤ R.slots) (hQ : Q (some (.int z)) h) : Go l Z mn code maxL (some .int) R n0 Q h k n pc Ls (.int z :: st) :=
  Go.retOut hd rfl (Or.inl ⟨rfl, Or.inl rfl, z, rfl⟩) hk hn hQ
theorem Go.zreturn {z : Int32} (hd : decode code pc = .ok (.ireturn, 1)) (hk : k ≤ R.cells) (hn : n ≤ R.slots) (hz : z = 0 ∨ z = 1) (hQ : Q (some (.int z)) h) : Go l Z mn code maxL (some .boolean) R n0 Q h k n pc Ls (.int z :: st) :=
  Go.retOut hd (by rcases hz with rfl | rfl <;> rfl) (Or.inl ⟨rfl, Or.inr (Or.inl rfl), z, rfl⟩) hk hn hQ
theorem Go.creturn {z : Int32} (hd : decode code pc = .ok (.ireturn, 1)) (hk : k ≤ R.cells) (hn : n ≤ R.slots) (hz : narrow .char (.int z) = .int z) (hQ : Q (some (.int z)) h) : Go l Z mn code maxL (some .char) R n0 Q h k n pc Ls (.int z :: st) :=
  Go.retOut hd hz (Or.inl ⟨rfl, Or.inr (Or.inr (Or.inr (Or.inl rfl))), z, rfl⟩) hk hn hQ
theorem Go.lreturn {z : Int64} (hd : decode code pc = .ok (.lreturn, 1)) (hk : k ≤ R.cells) (hn : n ≤ R.slots) (hQ : Q (some (.long z)) h) : Go l Z mn code maxL (some .long) R n0 Q h k n pc Ls (.long z :: st) :=
  Go.retOut hd rfl (Or.inr (Or.inl ⟨rfl, rfl, z, rfl⟩)) hk hn hQ
theorem Go.areturn {w : Value} {t : FieldType} (hd : decode code pc = .ok (.areturn, 1)) (hk : k ≤ R.cells) (hn : n ≤ R.slots) (ht : t.isReference = true) (hw : w.isRef = true) (hQ : Q (some w) h) : Go l Z mn code maxL (some t) R n0 Q h k n pc Ls (w :: st) :=
  Go.retOut hd (by rcases ref_cases hw with rfl | ⟨a, rfl⟩ <;> cases t <;> first | exact absurd ht (by decide) | rfl) (Or.inr (Or.inr (Or.inr (Or.inr ⟨rfl, ht, hw⟩)))) hk hn hQ
theorem Go.vreturn (hd : decode code pc = .ok (.return_, 1)) (hk : k ≤ R.cells) (hn : n ≤ R.slots) (hQ : Q none h) : Go l Z mn code maxL none R n0 Q h k n pc Ls [] := by
  intro p e s m args below meth c T locs k' n' C X hk' hn' N eT
  obtain ⟨fs, hr, hrun, hended, hW, hsame⟩ := X.leave (v := none) (fun _ => rfl) C.2.2.2.2.2.2.1
  exact ⟨_, _, X.returnOut C.1 C.2.2.2.2.2.1 (hb C.2.2.1 hd) hr, hrun, hended, _, locs, rfl, ⟨N, by show Q _ T.heap; rw [eT]; exact hQ⟩, ⟨_, rfl⟩, hW, hsame.mono (by omega) (by omega)⟩
end Rets
/-- an array's whole content -/
def Ar (Z : State) (h : Heap) (a : Addr) (ty : FieldType) (cA : ClassId) (vs : List Value) : Prop := ∃ c : Cell, Arr Z h a c ty ∧ c.cls = cA ∧ c.slots.toList = vs
section Arrs
variable {Z : State} {h h' : Heap} {a b : Addr} {ty : FieldType} {cA : ClassId} {vs : List Value} {sl : Nat} {v : Value} {ws : List Addr}
theorem Ar.lt (F : Ar Z h a ty cA vs) : a < h.size := by obtain ⟨c, A, -⟩ := F; exact A.lt
theorem Ar.ext (F : Ar Z h a ty cA vs) (E : Ext h h') : Ar Z h' a ty cA vs := by obtain ⟨c, A, r⟩ := F; exact ⟨c, A.ext E, r⟩
theorem Ar.other (F : Ar Z h b ty cA vs) (W : Wr h h' a sl v) (q : b ≠ a) : Ar Z h' b ty cA vs := by obtain ⟨c, A, r⟩ := F; exact ⟨c, A.other W q, r⟩
theorem Ar.keep (F : Ar Z h a ty cA vs) (K : Keep h h' ws) (q : a ∉ ws) : Ar Z h' a ty cA vs := by obtain ⟨c, A, r⟩ := F; exact ⟨c, ⟨K.2.1 a c A.1 q, A.2⟩, r⟩
theorem Ar.set (F : Ar Z h a ty cA vs) (W : Wr h h' a sl v) : Ar Z h' a ty cA (vs.set sl v) := by
  obtain ⟨c, A, r1, r2⟩ := F
  exact ⟨_, A.same W, r1, by simp [Cell.setSlot, r2]⟩
theorem Ar.size (F : Ar Z h a ty cA vs) {c : Cell} (hc : h[a]? = some c) : c.slots.size = vs.length := by
  obtain ⟨c', A, -, r⟩ := F
  cases hc.symm.trans A.1
  rw [← r]; simp
theorem Ar.ne {C : String} {k : Nat} {a0 : Array Value} (F : Exa Z h b C) (wi : (Jvm.Cond.instantiable C k).before a0 Z = true) (G : Ar Z h a ty cA vs) : b ≠ a := by
  obtain ⟨c, A, -⟩ := G; exact ne_arr F wi A
end Arrs
section ArrSteps
variable {l : Launch} {Z : State} {mn : MethodName} {code : ByteArray} {maxL : Nat} {ret : Option FieldType} {R : Room} {n0 : Nat} {Q : Option Value → Heap → Prop} {h : Heap} {k n pc q : Nat} {Ls : Array Slot} {st : List Value} {a0 : Array Value} {a : Addr} {ty : FieldType} {cA : ClassId} {vs : List Value} {v : Value} {j x : Int32}
theorem inb {c : Cell} (hj : ¬ j < 0) (r : c.slots.toList = vs) (hv : j.toNatClampNeg < vs.length) : ¬ (j < 0 ∨ c.slots.size ≤ j.toNatClampNeg) := by
  rintro (q | q)
  · exact hj q
  · rw [← r] at hv; simp at hv; omega
theorem at_l {c : Cell} {i : Nat} (r : c.slots.toList = vs) (hv : vs[i]? = some v) : c.slots[i]? = some v := by rw [← r] at hv; simpa using hv
theorem Go.arraylength (hd : decode code pc = .ok (.arraylength, 1)) (hq : q = pc + 1) (A : Ar Z h a ty cA vs) {z : Int32} (hz : vs.length.toInt32 = z) (K : Go l Z mn code maxL ret R n0 Q h k n q Ls (.int z :: st)) : Go l Z mn code maxL ret R n0 Q h k n pc Ls (.ref a :: st) := by
  subst hq hz
  intro p e s m args below meth c T locs k' n' C X hk hn N eT
  obtain ⟨cl, A, r1, r2⟩ := A
  exact (K p e s m args below meth c T locs k' n' C X hk hn N eT).step fun t r => X.arraylength (g := mkF m pc Ls (.ref a :: st)) C.1 (by rw [eT]; exact A.1) (State.isArrayOf_alike C.2.1.alike A.2.1) rfl rfl (hb C.2.2.1 hd) t (by rw [show cl.slots.size = vs.length by rw [← r2]; simp]; exact r)
theorem Go.iaload (hd : decode code pc = .ok (.iaload, 1)) (hq : q = pc + 1) (A : Ar Z h a .int cA vs) (hj : ¬ j < 0) (hv : vs[j.toNatClampNeg]? = some v) (K : Go l Z mn code maxL ret R n0 Q h k n q Ls (v :: st)) : Go l Z mn code maxL ret R n0 Q h k n pc Ls (.int j :: .ref a :: st) := by
  subst hq
  intro p e s m args below meth c T locs k' n' C X hk hn N eT
  obtain ⟨cl, A, r1, r2⟩ := A
  exact (K p e s m args below meth c T locs k' n' C X hk hn N eT).step fun t r => X.iaload (g := mkF m pc Ls (.int j :: .ref a :: st)) C.1 (by rw [eT]; exact A.1) (State.isArrayOf_alike C.2.1.alike A.2.1) A.2.2 (inb hj r2 (List.getElem?_eq_some_iff.mp hv).1) (at_l r2 hv) rfl rfl (hb C.2.2.1 hd) t r
theorem Go.laload (hd : decode code pc = .ok (.laload, 1)) (hq : q = pc + 1) (A : Ar Z h a .long cA vs) (hj : ¬ j < 0) (hv : vs[j.toNatClampNeg]? = some v) (K : Go l Z mn code maxL ret R n0 Q h k n q Ls (v :: st)) : Go l Z mn code maxL ret R n0 Q h k n pc Ls (.int j :: .ref a :: st) := by
  subst hq
  intro p e s m args below meth c T locs k' n' C X hk hn N eT
  obtain ⟨cl, A, r1, r2⟩ := A
  exact (K p e s m args below meth c T locs k' n' C X hk hn N eT).step fun t r => X.laload (g := mkF m pc Ls (.int j :: .ref a :: st)) C.1 (by rw [eT]; exact A.1) (State.isArrayOf_alike C.2.1.alike A.2.1) A.2.2 (inb hj r2 (List.getElem?_eq_some_iff.mp hv).1) (at_l r2 hv) rfl rfl (hb C.2.2.1 hd) t r
theorem Go.caload (hd : decode code pc = .ok (.caload, 1)) (hq : q = pc + 1) (A : Ar Z h a .char cA vs) (hj : ¬ j < 0) (hv : vs[j.toNatClampNeg]? = some v) (K : Go l Z mn code maxL ret R n0 Q h k n q Ls (v :: st)) : Go l Z mn code maxL ret R n0 Q h k n pc Ls (.int j :: .ref a :: st) := by
  subst hq
  intro p e s m args below meth c T locs k' n' C X hk hn N eT
  obtain ⟨cl, A, r1, r2⟩ := A
  exact (K p e s m args below meth c T locs k' n' C X hk hn N eT).step fun t r => X.caload (g := mkF m pc Ls (.int j :: .ref a :: st)) C.1 (by rw [eT]; exact A.1) (State.isArrayOf_alike C.2.1.alike A.2.1) A.2.2 (inb hj r2 (List.getElem?_eq_some_iff.mp hv).1) (at_l r2 hv) rfl rfl (hb C.2.2.1 hd) t r
theorem Go.zaload (hd : decode code pc = .ok (.baload, 1)) (hq : q = pc + 1) (A : Ar Z h a .boolean cA vs) (hj : ¬ j < 0) (hv : vs[j.toNatClampNeg]? = some v) (K : Go l Z mn code maxL ret R n0 Q h k n q Ls (v :: st)) : Go l Z mn code maxL ret R n0 Q h k n pc Ls (.int j :: .ref a :: st) := by
  subst hq
  intro p e s m args below meth c T locs k' n' C X hk hn N eT
  obtain ⟨cl, A, r1, r2⟩ := A
  exact (K p e s m args below meth c T locs k' n' C X hk hn N eT).step fun t r => X.baloadBooleans (g := mkF m pc Ls (.int j :: .ref a :: st)) C.1 (by rw [eT]; exact A.1) (State.isArrayOf_alike C.2.1.alike A.2.1) A.2.2 (inb hj r2 (List.getElem?_eq_some_iff.mp hv).1) (at_l r2 hv) rfl rfl (hb C.2.2.1 hd) t r
theorem Go.baload (hd : decode code pc = .ok (.baload, 1)) (hq : q = pc + 1) (A : Ar Z h a .byte cA vs) (hj : ¬ j < 0) (hv : vs[j.toNatClampNeg]? = some v) (K : Go l Z mn code maxL ret R n0 Q h k n q Ls (v :: st)) : Go l Z mn code maxL ret R n0 Q h k n pc Ls (.int j :: .ref a :: st) := by
  subst hq
  intro p e s m args below meth c T locs k' n' C X hk hn N eT
  obtain ⟨cl, A, r1, r2⟩ := A
  exact (K p e s m args below meth c T locs k' n' C X hk hn N eT).step fun t r => X.baloadBytes (g := mkF m pc Ls (.int j :: .ref a :: st)) C.1 (by rw [eT]; exact A.1) (State.isArrayOf_alike C.2.1.alike A.2.1) A.2.2 (inb hj r2 (List.getElem?_eq_some_iff.mp hv).1) (at_l r2 hv) rfl rfl (hb C.2.2.1 hd) t r
theorem Go.aaload (hd : decode code pc = .ok (.aaload, 1)) (hq : q = pc + 1) (A : Ar Z h a ty cA vs) (ht : ty.isReference = true) (hj : ¬ j < 0) (hv : vs[j.toNatClampNeg]? = some v) (K : Go l Z mn code maxL ret R n0 Q h k n q Ls (v :: st)) : Go l Z mn code maxL ret R n0 Q h k n pc Ls (.int j :: .ref a :: st) := by
  subst hq
  intro p e s m args below meth c T locs k' n' C X hk hn N eT
  obtain ⟨cl, A, r1, r2⟩ := A
  exact (K p e s m args below meth c T locs k' n' C X hk hn N eT).step fun t r => X.aaload (g := mkF m pc Ls (.int j :: .ref a :: st)) C.1 (by rw [eT]; exact A.1) (State.isArrayOf_alike C.2.1.alike A.2.1) ht A.2.2 (inb hj r2 (List.getElem?_eq_some_iff.mp hv).1) (at_l r2 hv) rfl rfl (hb C.2.2.1 hd) t r
theorem Go.iastore (hd : decode code pc = .ok (.iastore, 1)) (hq : q = pc + 1) (A : Ar Z h a .int cA vs) (hj : ¬ j < 0) (hv : j.toNatClampNeg < vs.length) (ha : n0 ≤ a) (K : ∀ h', Wr h h' a j.toNatClampNeg (.int x) → Go l Z mn code maxL ret R n0 Q h' k n q Ls st) : Go l Z mn code maxL ret R n0 Q h k n pc Ls (.int x :: .int j :: .ref a :: st) := by
  subst hq
  intro p e s m args below meth c T locs k' n' C X hk hn N eT
  obtain ⟨cl, A, r1, r2⟩ := A
  obtain ⟨T', h', X', e', W, f⟩ := stI X C.1 C.2.1 eT A (inb hj r2 hv) (g := mkF m pc Ls (.int x :: .int j :: .ref a :: st)) rfl rfl (hb C.2.2.1 hd)
  exact (K h' W p e s m args below meth c T' _ k' n' C X' hk hn (Fr.snoc X' N ha) e').step f
theorem Go.lastore {x : Int64} (hd : decode code pc = .ok (.lastore, 1)) (hq : q = pc + 1) (A : Ar Z h a .long cA vs) (hj : ¬ j < 0) (hv : j.toNatClampNeg < vs.length) (ha : n0 ≤ a) (K : ∀ h', Wr h h' a j.toNatClampNeg (.long x) → Go l Z mn code maxL ret R n0 Q h' k n q Ls st) : Go l Z mn code maxL ret R n0 Q h k n pc Ls (.long x :: .int j :: .ref a :: st) := by
  subst hq
  intro p e s m args below meth c T locs k' n' C X hk hn N eT
  obtain ⟨cl, A, r1, r2⟩ := A
  obtain ⟨T', h', X', e', W, f⟩ := stJ X C.1 C.2.1 eT A (inb hj r2 hv) (g := mkF m pc Ls (.long x :: .int j :: .ref a :: st)) rfl rfl (hb C.2.2.1 hd)
  exact (K h' W p e s m args below meth c T' _ k' n' C X' hk hn (Fr.snoc X' N ha) e').step f
theorem Go.castore (hd : decode code pc = .ok (.castore, 1)) (hq : q = pc + 1) (A : Ar Z h a .char cA vs) (hj : ¬ j < 0) (hv : j.toNatClampNeg < vs.length) (ha : n0 ≤ a) (K : ∀ h', Wr h h' a j.toNatClampNeg (.int (nar .char x)) → Go l Z mn code maxL ret R n0 Q h' k n q Ls st) : Go l Z mn code maxL ret R n0 Q h k n pc Ls (.int x :: .int j :: .ref a :: st) := by
  subst hq
  intro p e s m args below meth c T locs k' n' C X hk hn N eT
  obtain ⟨cl, A, r1, r2⟩ := A
  obtain ⟨T', h', X', e', W, f⟩ := stC X C.1 C.2.1 eT A (inb hj r2 hv) (g := mkF m pc Ls (.int x :: .int j :: .ref a :: st)) rfl rfl (hb C.2.2.1 hd)
  exact (K h' W p e s m args below meth c T' _ k' n' C X' hk hn (Fr.snoc X' N ha) e').step f
theorem Go.zastore (hd : decode code pc = .ok (.bastore, 1)) (hq : q = pc + 1) (A : Ar Z h a .boolean cA vs) (hj : ¬ j < 0) (hv : j.toNatClampNeg < vs.length) (ha : n0 ≤ a) (K : ∀ h', Wr h h' a j.toNatClampNeg (.int (nar .boolean x)) → Go l Z mn code maxL ret R n0 Q h' k n q Ls st) : Go l Z mn code maxL ret R n0 Q h k n pc Ls (.int x :: .int j :: .ref a :: st) := by
  subst hq
  intro p e s m args below meth c T locs k' n' C X hk hn N eT
  obtain ⟨cl, A, r1, r2⟩ := A
  obtain ⟨T', h', X', e', W, f⟩ := stZ X C.1 C.2.1 eT A (inb hj r2 hv) (g := mkF m pc Ls (.int x :: .int j :: .ref a :: st)) rfl rfl (hb C.2.2.1 hd)
  exact (K h' W p e s m args below meth c T' _ k' n' C X' hk hn (Fr.snoc X' N ha) e').step f
theorem Go.aastore (hd : decode code pc = .ok (.aastore, 1)) (hq : q = pc + 1) (A : Ar Z h a ty cA vs) (ht : ty.isReference = true) (hj : ¬ j < 0) (hv : j.toNatClampNeg < vs.length) (S : Sto Z h a v) (ha : n0 ≤ a) (K : ∀ h', Wr h h' a j.toNatClampNeg v → Go l Z mn code maxL ret R n0 Q h' k n q Ls st) : Go l Z mn code maxL ret R n0 Q h k n pc Ls (v :: .int j :: .ref a :: st) := by
  subst hq
  intro p e s m args below meth c T locs k' n' C X hk hn N eT
  obtain ⟨cl, A, r1, r2⟩ := A
  obtain ⟨T', h', X', e', W, f⟩ := stR X C.1 C.2.1 eT A (inb hj r2 hv) ht S (g := mkF m pc Ls (v :: .int j :: .ref a :: st)) rfl rfl (hb C.2.2.1 hd)
  exact (K h' W p e s m args below meth c T' _ k' n' C X' hk hn (Fr.snoc X' N ha) e').step f
theorem Go.newarray {aty : ArrayType} {z : Int32} {cap : Nat} (hd : decode code pc = .ok (.newarray aty, 2)) (hq : q = pc + 2) (w : (Jvm.Cond.arrayClass (newarray.typeOf aty)).before a0 Z = true) (hz : ¬ z < 0) (hcap : z.toNatClampNeg ≤ cap) (hb8 : cap * 8 ≤ 536870912) (hc : k + 1 ≤ R.cells) (hs : n + cap ≤ R.slots)
    (K : ∀ h' a cA, a = h.size → Ext h h' → Ar Z h' a (newarray.typeOf aty) cA (List.replicate z.toNatClampNeg (defaultValue (newarray.typeOf aty))) → Go l Z mn code maxL ret R n0 Q h' (k + 1) (n + cap) q Ls (.ref a :: st)) : Go l Z mn code maxL ret R n0 Q h k n pc Ls (.int z :: st) := by
  subst hq
  intro p e s m args below meth c T locs k' n' C X hk hn N eT
  obtain ⟨T', h', cA, X', e', E, A, f⟩ := newP X C.1 C.2.1 w eT (g := mkF m pc Ls (.int z :: st)) rfl (hb C.2.2.1 hd) rfl hz hcap hb8 (by omega) (by omega)
  exact (K h' h.size cA rfl E ⟨_, A, rfl, by simp [newA]⟩ p e s m args below meth c T' locs _ _ C X' (by omega) (by omega) N e').step f
theorem Go.anewarray {C : String} {i : Nat} {z : Int32} {cap : Nat} (hd : decode code pc = .ok (.anewarray i, 3)) (hq : q = pc + 3) (w1 : (Jvm.Cond.classLink mn.cls i C).before a0 Z = true) (w2 : (Jvm.Cond.arrayOver (.object C)).before a0 Z = true) (hz : ¬ z < 0) (hcap : z.toNatClampNeg ≤ cap) (hb8 : cap * 8 ≤ 536870912) (hc : k + 1 ≤ R.cells) (hs : n + cap ≤ R.slots)
    (K : ∀ h' a cA, a = h.size → Ext h h' → Ar Z h' a (.object C) cA (List.replicate z.toNatClampNeg .null) → Ovr Z cA C → Go l Z mn code maxL ret R n0 Q h' (k + 1) (n + cap) q Ls (.ref a :: st)) : Go l Z mn code maxL ret R n0 Q h k n pc Ls (.int z :: st) := by
  subst hq
  intro p e s m args below meth c T locs k' n' Cc X hk hn N eT
  obtain ⟨T', h', cA, X', e', E, A, O, f⟩ := newR X Cc.1 Cc.2.1 Cc.2.2.2.2.1 w1 w2 eT (g := mkF m pc Ls (.int z :: st)) rfl (hb Cc.2.2.1 hd) rfl hz hcap hb8 (by omega) (by omega)
  exact (K h' h.size cA rfl E ⟨_, A, rfl, by simp [newA, defaultValue]⟩ O p e s m args below meth c T' locs _ _ Cc X' (by omega) (by omega) N e').step f
theorem sto_of {C : String} {b : Addr} (A : Ar Z h a ty cA vs) (O : Ovr Z cA C) (I : Ins Z h b C true) : Sto Z h a (.ref b) := by
  obtain ⟨c, A, q, -⟩ := A
  exact Sto.ofV A q O I
end ArrSteps
end Jvm.OwnKit
namespace Jvm.OwnKit
open Jvm Jvm.ClassFile Sem Op Lib Jvm.Free Jvm.Stand Jvm.LawKit Jvm.RoadKit
section Case
variable {args : Array Value} {s : State} {idx : List Nat} {t u : Term} {a b : Addr} {ty : FieldType} {cA : ClassId} {vs : List Value} {O nm d C K : String}
theorem eq_int {v : Int32} (h : (Jvm.Cond.eq t (.int v)).value args s none s idx = some true) : t.eval args s none idx s = some (.int v) := by
  cases ha : t.eval args s none idx s with
  | none => simp [Jvm.Cond.value, ha] at h
  | some x => cases x <;> simp [Jvm.Cond.value, Term.eval, ha] at h ⊢ <;> exact h
theorem eq_long {v : Int64} (h : (Jvm.Cond.eq t (.long v)).value args s none s idx = some true) : t.eval args s none idx s = some (.long v) := by
  cases ha : t.eval args s none idx s with
  | none => simp [Jvm.Cond.value, ha] at h
  | some x => cases x <;> simp [Jvm.Cond.value, Term.eval, ha] at h ⊢ <;> exact h
theorem eq_ref (h : (Jvm.Cond.eq t u).value args s none s idx = some true) (hu : u.eval args s none idx s = some (.ref b)) : t.eval args s none idx s = some (.ref b) := by
  cases ha : t.eval args s none idx s with
  | none => simp [Jvm.Cond.value, ha] at h
  | some x => cases x <;> simp [Jvm.Cond.value, ha, hu] at h ⊢ <;> exact h
theorem sta_ref (h : (Jvm.Cond.exactly (.static C nm d) K).value args s none s [] = some true) (h1 : (Jvm.Cond.initialized C).before args s = true) (h2 : (Jvm.Cond.laysStatic C nm d).before args s = true) : ∃ a, (Term.static C nm d).eval args s none [] s = some (.ref a) ∧ Sta s s.heap C nm d (.ref a) ∧ Exa s s.heap a K := by
  obtain ⟨a, ea⟩ := exa_v h
  exact ⟨a, ea, Sta.start ea (Or.inr ⟨h1, h2⟩), Exa.start ea h⟩
theorem sta_arr (h : (Jvm.Cond.arrayOf (.static C nm d) ty).value args s none s [] = some true) (h1 : (Jvm.Cond.initialized C).before args s = true) (h2 : (Jvm.Cond.laysStatic C nm d).before args s = true) : ∃ a cA vs, (Term.static C nm d).eval args s none [] s = some (.ref a) ∧ Sta s s.heap C nm d (.ref a) ∧ Ar s s.heap a ty cA vs := by
  obtain ⟨a, ea⟩ := arr_v h
  obtain ⟨c, A⟩ := Arr.start ea h
  exact ⟨a, c.cls, c.slots.toList, ea, Sta.start ea (Or.inr ⟨h1, h2⟩), c, A, rfl, rfl⟩
theorem fld_int {v : Int32} (ev : t.eval args s none [] s = some (.ref a)) (h : (Jvm.Cond.eq (.field t O nm d) (.int v)).value args s none s [] = some true) : Fld s s.heap a O nm d (.int v) := Fld.start ((fld_at ev).symm.trans (eq_int h))
theorem fld_long {v : Int64} (ev : t.eval args s none [] s = some (.ref a)) (h : (Jvm.Cond.eq (.field t O nm d) (.long v)).value args s none s [] = some true) : Fld s s.heap a O nm d (.long v) := Fld.start ((fld_at ev).symm.trans (eq_long h))
theorem nat_small {m : Nat} (h : m < 2 ^ 31) : m.toInt32.toNatClampNeg = m := by
  show m.toInt32.toInt.toNat = m
  rw [len_toInt h]; rfl
theorem Ar.at_start (A : Ar s s.heap a ty cA vs) : ∃ c : Cell, s.arrayAt? a = some c ∧ c.slots.toList = vs ∧ c.slots.size = vs.length := by
  obtain ⟨c, A, -, r⟩ := A
  exact ⟨c, A.fin (Vm.Alike.refl _), r, by rw [← r]; simp⟩
theorem arr_len {z : Int32} (ev : t.eval args s none [] s = some (.ref a)) (A : Ar s s.heap a ty cA vs) (h : (Jvm.Cond.eq (.length t) (.int z)).value args s none s [] = some true) : vs.length = z.toNatClampNeg := by
  obtain ⟨c, hc, -, r⟩ := A.at_start
  have e := eq_int h
  simp only [Term.eval, ev, hc, Option.bind_eq_bind, Option.bind_some] at e
  split at e
  · rename_i q
    have e2 : c.slots.size.toInt32 = z := by simpa using e
    rw [← e2, nat_small q, r]
  · simp at e
theorem arr_elem {j : Int32} {v : Int32} (ev : t.eval args s none [] s = some (.ref a)) (A : Ar s s.heap a ty cA vs) (h : (Jvm.Cond.eq (.elem t (.int j)) (.int v)).value args s none s [] = some true) : vs[j.toNatClampNeg]? = some (.int v) := by
  obtain ⟨c, hc, r, -⟩ := A.at_start
  have e := eq_int h
  simp only [Term.eval, ev, hc, Option.bind_eq_bind, Option.bind_some] at e
  split at e
  · simp at e
  · rw [← r]; simpa using e
theorem arr_elemR {j : Int32} {u : Term} {b : Addr} (ev : t.eval args s none [] s = some (.ref a)) (A : Ar s s.heap a ty cA vs) (h : (Jvm.Cond.eq (.elem t (.int j)) u).value args s none s [] = some true) (hu : u.eval args s none [] s = some (.ref b)) : vs[j.toNatClampNeg]? = some (.ref b) := by
  obtain ⟨c, hc, r, -⟩ := A.at_start
  have e := eq_ref h hu
  simp only [Term.eval, ev, hc, Option.bind_eq_bind, Option.bind_some] at e
  split at e
  · simp at e
  · rw [← r]; simpa using e
theorem fold_no {f : Nat → Option Bool} {x : Option Bool} (hx : x ≠ some true) : ∀ L : List Nat, L.foldl (fun acc i => match acc with | some true => f i | x => x) x = x
  | [] => rfl
  | i :: L => by
    rw [List.foldl_cons]
    rcases x with _ | _ | _
    · exact fold_no hx L
    · exact fold_no hx L
    · exact absurd rfl hx
theorem fold_all {f : Nat → Option Bool} : ∀ L : List Nat, L.foldl (fun acc i => match acc with | some true => f i | x => x) (some true) = some true → ∀ i ∈ L, f i = some true
  | [], _, i, hi => nomatch hi
  | j :: L, h, i, hi => by
    rw [List.foldl_cons] at h
    by_cases hj : f j = some true
    · have h' : L.foldl (fun acc i => match acc with | some true => f i | x => x) (f j) = some true := h
      rw [hj] at h'
      rcases List.mem_cons.mp hi with rfl | hi
      · exact hj
      · exact fold_all L h' i hi
    · have h' : L.foldl (fun acc i => match acc with | some true => f i | x => x) (f j) = some true := h
      rw [fold_no hj L] at h'
      exact absurd h' hj
theorem arr_all {c : Jvm.Cond} (ev : t.eval args s none [] s = some (.ref a)) (A : Ar s s.heap a ty cA vs) (h : (Jvm.Cond.all t c).value args s none s [] = some true) : ∀ i, i < vs.length → c.value args s none s [i] = some true := by
  obtain ⟨cl, hc, -, r⟩ := A.at_start
  intro i hi
  simp only [Jvm.Cond.value, ev, hc] at h
  exact fold_all _ h i (List.mem_range.mpr (by omega))
theorem all_elem {i : Nat} {v : Int32} (ev : t.eval args s none [i] s = some (.ref a)) (A : Ar s s.heap a ty cA vs) (hi : i < 2 ^ 31) (h : (Jvm.Cond.eq (.elem t (.index 0)) (.int v)).value args s none s [i] = some true) : vs[i]? = some (.int v) := by
  obtain ⟨c, hc, r, -⟩ := A.at_start
  have e := eq_int h
  simp only [Term.eval, ev, hc, Option.bind_eq_bind, Option.bind_some, List.getElem?_cons_zero, Option.map_some] at e
  split at e
  · simp at e
  · rw [← r]; rw [nat_small hi] at e; simpa using e
theorem all_le {i : Nat} {v : Int32} {c : Jvm.Cond} (hi : i < 2 ^ 31) (h : (Jvm.Cond.or (.le (.int v) (.index 0)) c).value args s none s [i] = some true) : v.toInt ≤ i ∨ c.value args s none s [i] = some true := by
  simp only [Jvm.Cond.value, Term.eval, List.getElem?_cons_zero, Option.map_some] at h
  by_cases q : v ≤ i.toInt32
  · left; rw [Int32.le_iff_toInt_le, len_toInt hi] at q; exact q
  · right; simpa [q] using h
theorem all_lt {i : Nat} {v : Int32} {c : Jvm.Cond} (hi : i < 2 ^ 31) (h : (Jvm.Cond.or (.lt (.index 0) (.int v)) c).value args s none s [i] = some true) : (i : Int) < v.toInt ∨ c.value args s none s [i] = some true := by
  simp only [Jvm.Cond.value, Term.eval, List.getElem?_cons_zero, Option.map_some] at h
  by_cases q : i.toInt32 < v
  · left; rw [Int32.lt_iff_toInt_lt, len_toInt hi] at q; exact q
  · right; simpa [q] using h
theorem sta_idx {C nm d : String} {idx : List Nat} {v : Value} (ev : (Term.static C nm d).eval args s none [] s = some v) : (Term.static C nm d).eval args s none idx s = some v := ev
end Case
end Jvm.OwnKit
namespace Jvm.RoadKit
open ClassFile
theorem Fld.nxt {Z : State} {h : Heap} {a0 : Array Value} {o : Addr} {h' : Heap} {C nm d nm' d' : String} {v w : Value} {t t' : FieldType} (F : Fld Z h o C nm d v) (W : Wr h h' o (slotOf Z C nm' d') w) (L : Laid Z a0 C C nm d) (L' : Laid Z a0 C C nm' d') (hn : nm ≠ nm') (ht : parseFieldDescriptor d = some t) (ht' : parseFieldDescriptor d' = some t') : Fld Z h' o C nm d v :=
  F.other W (Or.inr (slot_ne L L' hn ht ht'))
end Jvm.RoadKit
namespace Jvm.OwnKit
open Jvm Jvm.ClassFile Sem Op Lib Jvm.Free Jvm.Stand Jvm.LawKit Jvm.RoadKit
section More
variable {l : Launch} {Z : State} {mn : MethodName} {code : ByteArray} {maxL : Nat} {ret : Option FieldType} {R : Room} {n0 : Nat} {Q : Option Value → Heap → Prop} {h : Heap} {k n pc q : Nat} {Ls : Array Slot} {st : List Value} {a0 : Array Value}
theorem Go.anewarrayA {C ad : String} {ty : FieldType} {i : Nat} {z : Int32} {cap : Nat} (hd : decode code pc = .ok (.anewarray i, 3)) (hq : q = pc + 3) (hC : (FieldType.array ty).toString = C) (had : "[" ++ C = ad) (w1 : (Jvm.Cond.classLink mn.cls i C).before a0 Z = true) (w2 : (Jvm.Cond.arrayOver (.array ty)).before a0 Z = true) (hz : ¬ z < 0) (hcap : z.toNatClampNeg ≤ cap) (hb8 : cap * 8 ≤ 536870912) (hc : k + 1 ≤ R.cells) (hs : n + cap ≤ R.slots)
    (K : ∀ h' a cA, a = h.size → Ext h h' → Ar Z h' a (.array ty) cA (List.replicate z.toNatClampNeg .null) → OvrA Z cA ty C → Exa Z h' a ad → Go l Z mn code maxL ret R n0 Q h' (k + 1) (n + cap) q Ls (.ref a :: st)) : Go l Z mn code maxL ret R n0 Q h k n pc Ls (.int z :: st) := by
  subst hq
  intro p e s m args below meth c T locs k' n' Cc X hk hn N eT
  obtain ⟨T', h', cA, X', e', E, A, E2, O, f⟩ := newRA X Cc.1 Cc.2.1 Cc.2.2.2.2.1 hC w1 w2 eT (g := mkF m pc Ls (.int z :: st)) rfl (hb Cc.2.2.1 hd) rfl hz hcap hb8 (by omega) (by omega) had
  exact (K h' h.size cA rfl E ⟨_, A, rfl, by simp [newA, defaultValue]⟩ O E2 p e s m args below meth c T' locs _ _ Cc X' (by omega) (by omega) N e').step f
theorem Go.newarrayE {aty : ArrayType} {z : Int32} {cap : Nat} {ad : String} (hd : decode code pc = .ok (.newarray aty, 2)) (hq : q = pc + 2) (had : "[" ++ (newarray.typeOf aty).toString = ad) (w : (Jvm.Cond.arrayClass (newarray.typeOf aty)).before a0 Z = true) (hz : ¬ z < 0) (hcap : z.toNatClampNeg ≤ cap) (hb8 : cap * 8 ≤ 536870912) (hc : k + 1 ≤ R.cells) (hs : n + cap ≤ R.slots)
    (K : ∀ h' a cA, a = h.size → Ext h h' → Ar Z h' a (newarray.typeOf aty) cA (List.replicate z.toNatClampNeg (defaultValue (newarray.typeOf aty))) → Exa Z h' a ad → Go l Z mn code maxL ret R n0 Q h' (k + 1) (n + cap) q Ls (.ref a :: st)) : Go l Z mn code maxL ret R n0 Q h k n pc Ls (.int z :: st) := by
  subst hq
  intro p e s m args below meth c T locs k' n' C X hk hn N eT
  obtain ⟨T', h', cA, X', e', E, A, E2, f⟩ := newPE X C.1 C.2.1 w eT (g := mkF m pc Ls (.int z :: st)) rfl (hb C.2.2.1 hd) rfl hz hcap hb8 (by omega) (by omega) had
  exact (K h' h.size cA rfl E ⟨_, A, rfl, by simp [newA]⟩ E2 p e s m args below meth c T' locs _ _ C X' (by omega) (by omega) N e').step f
theorem sto_ofA {a b : Addr} {t0 ty : FieldType} {cA : ClassId} {vs : List Value} {C : String} (A : Ar Z h a t0 cA vs) (O : OvrA Z cA ty C) (I : Ins Z h b C true) : Sto Z h a (.ref b) := by
  obtain ⟨c, A, q, -⟩ := A
  exact Sto.ofVA A q O I
theorem Ar.nel {a b : Addr} {ty : FieldType} {cA : ClassId} {vs : List Value} (F : Ar Z h a ty cA vs) (e : b = h.size) : a ≠ b := fun q => Nat.ne_of_lt F.lt (q.trans e)
theorem Ins.ofExa {a : Addr} {C : String} (E : Exa Z h a C) : Ins Z h a C true := Ins.self E
end More
section Addrs
variable {h : Heap} {x b o : Addr} {n0 : Nat}
theorem new_ne (l : x < h.size) (e : b = h.size) : x ≠ b := fun q => Nat.ne_of_lt l (q.trans e)
theorem new_le (l : n0 ≤ h.size) (e : b = h.size) : n0 ≤ b := Nat.le_trans l (Nat.le_of_eq e.symm)
theorem le_size (l : o < h.size) (n : n0 ≤ o) : n0 ≤ h.size := Nat.le_trans n (Nat.le_of_lt l)
end Addrs
section Nums
theorem idiv_nat {x y : Int32} {d : Nat} (h0 : ¬ x < 0) (hy : y.toInt = d) (hd : 1 < d) : ¬ (x / y) < 0 ∧ (x / y).toNatClampNeg = x.toNatClampNeg / d := by
  have z : (0 : Int32).toInt = 0 := rfl
  have z1 : (-1 : Int32).toInt = -1 := rfl
  have p : 0 ≤ x.toInt := by rw [Int32.lt_iff_toInt_lt] at h0; omega
  have ny : y ≠ -1 := by
    intro q
    rw [q, z1] at hy
    omega
  have e := (c_idiv x y d hy ny).1 p
  have p' : 0 ≤ x.toInt / (d : Int) := Int.ediv_nonneg p (by omega)
  refine ⟨by rw [Int32.lt_iff_toInt_lt]; omega, ?_⟩
  show (x / y).toInt.toNat = x.toInt.toNat / d
  rw [e]
  obtain ⟨m, hm⟩ := Int.eq_ofNat_of_zero_le p
  rw [hm]; rfl
theorem irem_nat {x y : Int32} {d : Nat} (h0 : ¬ x < 0) (hy : y.toInt = d) (hd : 1 < d) : ¬ (x % y) < 0 ∧ (x % y).toNatClampNeg = x.toNatClampNeg % d := by
  have z : (0 : Int32).toInt = 0 := rfl
  have p : 0 ≤ x.toInt := by rw [Int32.lt_iff_toInt_lt] at h0; omega
  have e := (c_irem x y d hy).1 p
  have p' : 0 ≤ x.toInt % (d : Int) := Int.emod_nonneg _ (by omega)
  refine ⟨by rw [Int32.lt_iff_toInt_lt]; omega, ?_⟩
  show (x % y).toInt.toNat = x.toInt.toNat % d
  rw [e]
  obtain ⟨m, hm⟩ := Int.eq_ofNat_of_zero_le p
  rw [hm]; rfl
theorem nonneg_iff {x : Int32} : ¬ x < 0 ↔ 0 ≤ x.toInt := by
  rw [Int32.lt_iff_toInt_lt]; have : (0 : Int32).toInt = 0 := rfl; omega
end Nums
end Jvm.OwnKit
namespace Jvm.Pilot.@@N@@
open Jvm Jvm.ClassFile Sem Op Lib Jvm.Free Jvm.Stand Jvm.LawKit Jvm.RoadKit Bundle Jvm.OwnKit Jvm.Pilot.@@N@@.Jvm.D
def Hw (a0 : Array Value) (Z : State) : Prop := ∀ d ∈ tables_1, d.before a0 Z = true
theorem w0 {a0 : Array Value} {Z : State} (hw : Hw a0 Z) : ((Jvm.Cond.classLink "slotwise/storage/SlotKeyCountsOfPinLaw" (7 : Nat) "slotwise/storage/SlotKeyCounts") : Jvm.Cond).before a0 Z = true := hw _ (List.mem_of_getElem? (i := 0) rfl)
theorem w1 {a0 : Array Value} {Z : State} (hw : Hw a0 Z) : ((Jvm.Cond.instantiable "slotwise/storage/SlotKeyCounts" (4 : Nat)) : Jvm.Cond).before a0 Z = true := hw _ (List.mem_of_getElem? (i := 1) rfl)
theorem w2 {a0 : Array Value} {Z : State} (hw : Hw a0 Z) : ((Jvm.Cond.initialized "slotwise/storage/SlotKeyCounts") : Jvm.Cond).before a0 Z = true := hw _ (List.mem_of_getElem? (i := 2) rfl)
theorem w3 {a0 : Array Value} {Z : State} (hw : Hw a0 Z) : ((Jvm.Cond.methodLink "slotwise/storage/SlotKeyCountsOfPinLaw" (9 : Nat) ({ cls := "slotwise/storage/SlotKeyCounts", name := "<init>", desc := "()V" } : Jvm.MethodName)) : Jvm.Cond).before a0 Z = true := hw _ (List.mem_of_getElem? (i := 3) rfl)
theorem w4 {a0 : Array Value} {Z : State} (hw : Hw a0 Z) : ((Jvm.Cond.instanceMethod ({ cls := "slotwise/storage/SlotKeyCounts", name := "<init>", desc := "()V" } : Jvm.MethodName)) : Jvm.Cond).before a0 Z = true := hw _ (List.mem_of_getElem? (i := 4) rfl)
theorem w5 {a0 : Array Value} {Z : State} (hw : Hw a0 Z) : ((Jvm.Cond.code ({ cls := "slotwise/storage/SlotKeyCounts", name := "<init>", desc := "()V" } : Jvm.MethodName) prog_30_method_1_code (1 : Nat) (Option.none : Option Jvm.ClassFile.FieldType)) : Jvm.Cond).before a0 Z = true := hw _ (List.mem_of_getElem? (i := 5) rfl)
theorem w6 {a0 : Array Value} {Z : State} (hw : Hw a0 Z) : ((Jvm.Cond.methodLink "slotwise/storage/SlotKeyCounts" (1 : Nat) ({ cls := "java/lang/Object", name := "<init>", desc := "()V" } : Jvm.MethodName)) : Jvm.Cond).before a0 Z = true := hw _ (List.mem_of_getElem? (i := 6) rfl)
theorem w7 {a0 : Array Value} {Z : State} (hw : Hw a0 Z) : ((Jvm.Cond.instanceMethod ({ cls := "java/lang/Object", name := "<init>", desc := "()V" } : Jvm.MethodName)) : Jvm.Cond).before a0 Z = true := hw _ (List.mem_of_getElem? (i := 7) rfl)
theorem w8 {a0 : Array Value} {Z : State} (hw : Hw a0 Z) : ((Jvm.Cond.code ({ cls := "java/lang/Object", name := "<init>", desc := "()V" } : Jvm.MethodName) object_method_1_code (1 : Nat) (Option.none : Option Jvm.ClassFile.FieldType)) : Jvm.Cond).before a0 Z = true := hw _ (List.mem_of_getElem? (i := 8) rfl)
theorem w9 {a0 : Array Value} {Z : State} (hw : Hw a0 Z) : ((Jvm.Cond.classLink "slotwise/storage/SlotKeyCounts" (11 : Nat) "[J") : Jvm.Cond).before a0 Z = true := hw _ (List.mem_of_getElem? (i := 9) rfl)
theorem w10 {a0 : Array Value} {Z : State} (hw : Hw a0 Z) : ((Jvm.Cond.arrayOver (Jvm.ClassFile.FieldType.array Jvm.ClassFile.FieldType.long)) : Jvm.Cond).before a0 Z = true := hw _ (List.mem_of_getElem? (i := 10) rfl)
theorem w11 {a0 : Array Value} {Z : State} (hw : Hw a0 Z) : ((Jvm.Cond.fieldLink "slotwise/storage/SlotKeyCounts" (13 : Nat) "slotwise/storage/SlotKeyCounts" "pages" "[[J") : Jvm.Cond).before a0 Z = true := hw _ (List.mem_of_getElem? (i := 11) rfl)
theorem w12 {a0 : Array Value} {Z : State} (hw : Hw a0 Z) : ((Jvm.Cond.laysFinal "slotwise/storage/SlotKeyCounts" "slotwise/storage/SlotKeyCounts" "pages" "[[J") : Jvm.Cond).before a0 Z = true := hw _ (List.mem_of_getElem? (i := 12) rfl)
theorem w13 {a0 : Array Value} {Z : State} (hw : Hw a0 Z) : ((Jvm.Cond.arrayClass Jvm.ClassFile.FieldType.long) : Jvm.Cond).before a0 Z = true := hw _ (List.mem_of_getElem? (i := 13) rfl)
theorem w14 {a0 : Array Value} {Z : State} (hw : Hw a0 Z) : ((Jvm.Cond.fieldLink "slotwise/storage/SlotKeyCounts" (19 : Nat) "slotwise/storage/SlotKeyCounts" "changed" "[J") : Jvm.Cond).before a0 Z = true := hw _ (List.mem_of_getElem? (i := 14) rfl)
theorem w15 {a0 : Array Value} {Z : State} (hw : Hw a0 Z) : ((Jvm.Cond.laysFinal "slotwise/storage/SlotKeyCounts" "slotwise/storage/SlotKeyCounts" "changed" "[J") : Jvm.Cond).before a0 Z = true := hw _ (List.mem_of_getElem? (i := 15) rfl)
theorem w16 {a0 : Array Value} {Z : State} (hw : Hw a0 Z) : ((Jvm.Cond.methodLink "slotwise/storage/SlotKeyCountsOfPinLaw" (10 : Nat) ({ cls := "slotwise/storage/SlotKeyCounts", name := "of", desc := "(I)J" } : Jvm.MethodName)) : Jvm.Cond).before a0 Z = true := hw _ (List.mem_of_getElem? (i := 16) rfl)
theorem w17 {a0 : Array Value} {Z : State} (hw : Hw a0 Z) : ((Jvm.Cond.declares ({ cls := "slotwise/storage/SlotKeyCounts", name := "of", desc := "(I)J" } : Jvm.MethodName)) : Jvm.Cond).before a0 Z = true := hw _ (List.mem_of_getElem? (i := 17) rfl)
theorem w18 {a0 : Array Value} {Z : State} (hw : Hw a0 Z) : ((Jvm.Cond.instanceMethod ({ cls := "slotwise/storage/SlotKeyCounts", name := "of", desc := "(I)J" } : Jvm.MethodName)) : Jvm.Cond).before a0 Z = true := hw _ (List.mem_of_getElem? (i := 18) rfl)
theorem w19 {a0 : Array Value} {Z : State} (hw : Hw a0 Z) : ((Jvm.Cond.selects "slotwise/storage/SlotKeyCounts" ({ cls := "slotwise/storage/SlotKeyCounts", name := "of", desc := "(I)J" } : Jvm.MethodName) ({ cls := "slotwise/storage/SlotKeyCounts", name := "of", desc := "(I)J" } : Jvm.MethodName)) : Jvm.Cond).before a0 Z = true := hw _ (List.mem_of_getElem? (i := 19) rfl)
theorem w20 {a0 : Array Value} {Z : State} (hw : Hw a0 Z) : ((Jvm.Cond.code ({ cls := "slotwise/storage/SlotKeyCounts", name := "of", desc := "(I)J" } : Jvm.MethodName) prog_30_method_2_code (3 : Nat) (Option.some Jvm.ClassFile.FieldType.long)) : Jvm.Cond).before a0 Z = true := hw _ (List.mem_of_getElem? (i := 20) rfl)
theorem w21 {a0 : Array Value} {Z : State} (hw : Hw a0 Z) : ((Jvm.Cond.methodLink "slotwise/storage/SlotKeyCountsOfPinLaw" (14 : Nat) ({ cls := "slotwise/storage/SlotKeyCounts", name := "add", desc := "(IJ)V" } : Jvm.MethodName)) : Jvm.Cond).before a0 Z = true := hw _ (List.mem_of_getElem? (i := 21) rfl)
theorem w22 {a0 : Array Value} {Z : State} (hw : Hw a0 Z) : ((Jvm.Cond.declares ({ cls := "slotwise/storage/SlotKeyCounts", name := "add", desc := "(IJ)V" } : Jvm.MethodName)) : Jvm.Cond).before a0 Z = true := hw _ (List.mem_of_getElem? (i := 22) rfl)
theorem w23 {a0 : Array Value} {Z : State} (hw : Hw a0 Z) : ((Jvm.Cond.instanceMethod ({ cls := "slotwise/storage/SlotKeyCounts", name := "add", desc := "(IJ)V" } : Jvm.MethodName)) : Jvm.Cond).before a0 Z = true := hw _ (List.mem_of_getElem? (i := 23) rfl)
theorem w24 {a0 : Array Value} {Z : State} (hw : Hw a0 Z) : ((Jvm.Cond.selects "slotwise/storage/SlotKeyCounts" ({ cls := "slotwise/storage/SlotKeyCounts", name := "add", desc := "(IJ)V" } : Jvm.MethodName) ({ cls := "slotwise/storage/SlotKeyCounts", name := "add", desc := "(IJ)V" } : Jvm.MethodName)) : Jvm.Cond).before a0 Z = true := hw _ (List.mem_of_getElem? (i := 24) rfl)
theorem w25 {a0 : Array Value} {Z : State} (hw : Hw a0 Z) : ((Jvm.Cond.code ({ cls := "slotwise/storage/SlotKeyCounts", name := "add", desc := "(IJ)V" } : Jvm.MethodName) prog_30_method_4_code (7 : Nat) (Option.none : Option Jvm.ClassFile.FieldType)) : Jvm.Cond).before a0 Z = true := hw _ (List.mem_of_getElem? (i := 25) rfl)
theorem w27 {a0 : Array Value} {Z : State} (hw : Hw a0 Z) : ((Jvm.Cond.fieldLink "slotwise/storage/SlotKeyCounts" (22 : Nat) "slotwise/storage/SlotKeyCounts" "total" "J") : Jvm.Cond).before a0 Z = true := hw _ (List.mem_of_getElem? (i := 27) rfl)
theorem w28 {a0 : Array Value} {Z : State} (hw : Hw a0 Z) : ((Jvm.Cond.lays "slotwise/storage/SlotKeyCounts" "slotwise/storage/SlotKeyCounts" "total" "J") : Jvm.Cond).before a0 Z = true := hw _ (List.mem_of_getElem? (i := 28) rfl)
theorem w29 {a0 : Array Value} {Z : State} (hw : Hw a0 Z) : ((Jvm.Cond.fieldLink "slotwise/storage/SlotKeyCounts" (26 : Nat) "slotwise/storage/SlotKeyCounts" "changes" "I") : Jvm.Cond).before a0 Z = true := hw _ (List.mem_of_getElem? (i := 29) rfl)
theorem w30 {a0 : Array Value} {Z : State} (hw : Hw a0 Z) : ((Jvm.Cond.lays "slotwise/storage/SlotKeyCounts" "slotwise/storage/SlotKeyCounts" "changes" "I") : Jvm.Cond).before a0 Z = true := hw _ (List.mem_of_getElem? (i := 30) rfl)
theorem pn0 : plainName "slotwise/storage/SlotKeyCountsOfPinLaw" = true := by first | (simp [plainName, overriddenIn]; done) | decide +kernel
theorem pd0 : parseMethodDescriptor "(IIIIJJ)Z" = some ⟨[.int, .int, .int, .int, .long, .long], some .boolean⟩ := by decide +kernel
theorem d1_0 : decode prog_30_method_1_code 0 = .ok (.aload_n 0, 1) := by decide +kernel
theorem d1_1 : decode prog_30_method_1_code 1 = .ok (.invokespecial 1, 3) := by decide +kernel
theorem d1_4 : decode prog_30_method_1_code 4 = .ok (.aload_n 0, 1) := by decide +kernel
theorem d1_5 : decode prog_30_method_1_code 5 = .ok (.bipush 64, 2) := by decide +kernel
theorem d1_7 : decode prog_30_method_1_code 7 = .ok (.anewarray 11, 3) := by decide +kernel
theorem d1_10 : decode prog_30_method_1_code 10 = .ok (.putfield 13, 3) := by decide +kernel
theorem d1_13 : decode prog_30_method_1_code 13 = .ok (.aload_n 0, 1) := by decide +kernel
theorem d1_14 : decode prog_30_method_1_code 14 = .ok (.sipush 256, 3) := by decide +kernel
theorem d1_17 : decode prog_30_method_1_code 17 = .ok (.newarray .long, 2) := by decide +kernel
theorem d1_19 : decode prog_30_method_1_code 19 = .ok (.putfield 19, 3) := by decide +kernel
theorem d1_22 : decode prog_30_method_1_code 22 = .ok (.return_, 1) := by decide +kernel
theorem pn1 : plainName "slotwise/storage/SlotKeyCounts" = true := by first | (simp [plainName, overriddenIn]; done) | decide +kernel
theorem pd1 : parseMethodDescriptor "()V" = some ⟨[], none⟩ := by decide +kernel
theorem d3_0 : decode prog_30_method_2_code 0 = .ok (.aload_n 0, 1) := by decide +kernel
theorem d3_1 : decode prog_30_method_2_code 1 = .ok (.getfield 13, 3) := by decide +kernel
theorem d3_4 : decode prog_30_method_2_code 4 = .ok (.iload_n 1, 1) := by decide +kernel
theorem d3_5 : decode prog_30_method_2_code 5 = .ok (.sipush 256, 3) := by decide +kernel
theorem d3_8 : decode prog_30_method_2_code 8 = .ok (.idiv, 1) := by decide +kernel
theorem d3_9 : decode prog_30_method_2_code 9 = .ok (.aaload, 1) := by decide +kernel
theorem d3_10 : decode prog_30_method_2_code 10 = .ok (.astore_n 2, 1) := by decide +kernel
theorem d3_11 : decode prog_30_method_2_code 11 = .ok (.aload_n 2, 1) := by decide +kernel
theorem d3_12 : decode prog_30_method_2_code 12 = .ok (.ifnonnull 7, 3) := by decide +kernel
theorem d3_15 : decode prog_30_method_2_code 15 = .ok (.lconst 0, 1) := by decide +kernel
theorem d3_16 : decode prog_30_method_2_code 16 = .ok (.goto 10, 3) := by decide +kernel
theorem d3_19 : decode prog_30_method_2_code 19 = .ok (.aload_n 2, 1) := by decide +kernel
theorem d3_20 : decode prog_30_method_2_code 20 = .ok (.iload_n 1, 1) := by decide +kernel
theorem d3_21 : decode prog_30_method_2_code 21 = .ok (.sipush 256, 3) := by decide +kernel
theorem d3_24 : decode prog_30_method_2_code 24 = .ok (.irem, 1) := by decide +kernel
theorem d3_25 : decode prog_30_method_2_code 25 = .ok (.laload, 1) := by decide +kernel
theorem d3_26 : decode prog_30_method_2_code 26 = .ok (.lreturn, 1) := by decide +kernel
theorem pn3 : plainName "slotwise/storage/SlotKeyCounts" = true := by first | (simp [plainName, overriddenIn]; done) | decide +kernel
theorem pd3 : parseMethodDescriptor "(I)J" = some ⟨[.int], (some .long)⟩ := by decide +kernel
theorem d4_0 : decode prog_30_method_4_code 0 = .ok (.aload_n 0, 1) := by decide +kernel
theorem d4_1 : decode prog_30_method_4_code 1 = .ok (.getfield 13, 3) := by decide +kernel
theorem d4_4 : decode prog_30_method_4_code 4 = .ok (.iload_n 1, 1) := by decide +kernel
theorem d4_5 : decode prog_30_method_4_code 5 = .ok (.sipush 256, 3) := by decide +kernel
theorem d4_8 : decode prog_30_method_4_code 8 = .ok (.idiv, 1) := by decide +kernel
theorem d4_9 : decode prog_30_method_4_code 9 = .ok (.aaload, 1) := by decide +kernel
theorem d4_10 : decode prog_30_method_4_code 10 = .ok (.astore 4, 2) := by decide +kernel
theorem d4_12 : decode prog_30_method_4_code 12 = .ok (.aload 4, 2) := by decide +kernel
theorem d4_14 : decode prog_30_method_4_code 14 = .ok (.ifnonnull 22, 3) := by decide +kernel
theorem d4_17 : decode prog_30_method_4_code 17 = .ok (.sipush 256, 3) := by decide +kernel
theorem d4_20 : decode prog_30_method_4_code 20 = .ok (.newarray .long, 2) := by decide +kernel
theorem d4_22 : decode prog_30_method_4_code 22 = .ok (.astore 4, 2) := by decide +kernel
theorem d4_24 : decode prog_30_method_4_code 24 = .ok (.aload_n 0, 1) := by decide +kernel
theorem d4_25 : decode prog_30_method_4_code 25 = .ok (.getfield 13, 3) := by decide +kernel
theorem d4_28 : decode prog_30_method_4_code 28 = .ok (.iload_n 1, 1) := by decide +kernel
theorem d4_29 : decode prog_30_method_4_code 29 = .ok (.sipush 256, 3) := by decide +kernel
theorem d4_32 : decode prog_30_method_4_code 32 = .ok (.idiv, 1) := by decide +kernel
theorem d4_33 : decode prog_30_method_4_code 33 = .ok (.aload 4, 2) := by decide +kernel
theorem d4_35 : decode prog_30_method_4_code 35 = .ok (.aastore, 1) := by decide +kernel
theorem d4_36 : decode prog_30_method_4_code 36 = .ok (.aload 4, 2) := by decide +kernel
theorem d4_38 : decode prog_30_method_4_code 38 = .ok (.iload_n 1, 1) := by decide +kernel
theorem d4_39 : decode prog_30_method_4_code 39 = .ok (.sipush 256, 3) := by decide +kernel
theorem d4_42 : decode prog_30_method_4_code 42 = .ok (.irem, 1) := by decide +kernel
theorem d4_43 : decode prog_30_method_4_code 43 = .ok (.dup2, 1) := by decide +kernel
theorem d4_44 : decode prog_30_method_4_code 44 = .ok (.laload, 1) := by decide +kernel
theorem d4_45 : decode prog_30_method_4_code 45 = .ok (.lload_n 2, 1) := by decide +kernel
theorem d4_46 : decode prog_30_method_4_code 46 = .ok (.ladd, 1) := by decide +kernel
theorem d4_47 : decode prog_30_method_4_code 47 = .ok (.lastore, 1) := by decide +kernel
theorem d4_48 : decode prog_30_method_4_code 48 = .ok (.aload_n 0, 1) := by decide +kernel
theorem d4_49 : decode prog_30_method_4_code 49 = .ok (.dup, 1) := by decide +kernel
theorem d4_50 : decode prog_30_method_4_code 50 = .ok (.getfield 22, 3) := by decide +kernel
theorem d4_53 : decode prog_30_method_4_code 53 = .ok (.lload_n 2, 1) := by decide +kernel
theorem d4_54 : decode prog_30_method_4_code 54 = .ok (.ladd, 1) := by decide +kernel
theorem d4_55 : decode prog_30_method_4_code 55 = .ok (.putfield 22, 3) := by decide +kernel
theorem d4_58 : decode prog_30_method_4_code 58 = .ok (.lconst 1, 1) := by decide +kernel
theorem d4_59 : decode prog_30_method_4_code 59 = .ok (.iload_n 1, 1) := by decide +kernel
theorem d4_60 : decode prog_30_method_4_code 60 = .ok (.bipush 64, 2) := by decide +kernel
theorem d4_62 : decode prog_30_method_4_code 62 = .ok (.irem, 1) := by decide +kernel
theorem d4_63 : decode prog_30_method_4_code 63 = .ok (.lshl, 1) := by decide +kernel
theorem d4_64 : decode prog_30_method_4_code 64 = .ok (.lstore 5, 2) := by decide +kernel
theorem d4_66 : decode prog_30_method_4_code 66 = .ok (.aload_n 0, 1) := by decide +kernel
theorem d4_67 : decode prog_30_method_4_code 67 = .ok (.getfield 19, 3) := by decide +kernel
theorem d4_70 : decode prog_30_method_4_code 70 = .ok (.iload_n 1, 1) := by decide +kernel
theorem d4_71 : decode prog_30_method_4_code 71 = .ok (.bipush 64, 2) := by decide +kernel
theorem d4_73 : decode prog_30_method_4_code 73 = .ok (.idiv, 1) := by decide +kernel
theorem d4_74 : decode prog_30_method_4_code 74 = .ok (.laload, 1) := by decide +kernel
theorem d4_75 : decode prog_30_method_4_code 75 = .ok (.lload 5, 2) := by decide +kernel
theorem d4_77 : decode prog_30_method_4_code 77 = .ok (.land, 1) := by decide +kernel
theorem d4_78 : decode prog_30_method_4_code 78 = .ok (.lconst 0, 1) := by decide +kernel
theorem d4_79 : decode prog_30_method_4_code 79 = .ok (.lcmp, 1) := by decide +kernel
theorem d4_80 : decode prog_30_method_4_code 80 = .ok (.ifCond .ne 27, 3) := by decide +kernel
theorem d4_83 : decode prog_30_method_4_code 83 = .ok (.aload_n 0, 1) := by decide +kernel
theorem d4_84 : decode prog_30_method_4_code 84 = .ok (.getfield 19, 3) := by decide +kernel
theorem d4_87 : decode prog_30_method_4_code 87 = .ok (.iload_n 1, 1) := by decide +kernel
theorem d4_88 : decode prog_30_method_4_code 88 = .ok (.bipush 64, 2) := by decide +kernel
theorem d4_90 : decode prog_30_method_4_code 90 = .ok (.idiv, 1) := by decide +kernel
theorem d4_91 : decode prog_30_method_4_code 91 = .ok (.dup2, 1) := by decide +kernel
theorem d4_92 : decode prog_30_method_4_code 92 = .ok (.laload, 1) := by decide +kernel
theorem d4_93 : decode prog_30_method_4_code 93 = .ok (.lload 5, 2) := by decide +kernel
theorem d4_95 : decode prog_30_method_4_code 95 = .ok (.lor, 1) := by decide +kernel
theorem d4_96 : decode prog_30_method_4_code 96 = .ok (.lastore, 1) := by decide +kernel
theorem d4_97 : decode prog_30_method_4_code 97 = .ok (.aload_n 0, 1) := by decide +kernel
theorem d4_98 : decode prog_30_method_4_code 98 = .ok (.dup, 1) := by decide +kernel
theorem d4_99 : decode prog_30_method_4_code 99 = .ok (.getfield 26, 3) := by decide +kernel
theorem d4_102 : decode prog_30_method_4_code 102 = .ok (.iconst 1, 1) := by decide +kernel
theorem d4_103 : decode prog_30_method_4_code 103 = .ok (.iadd, 1) := by decide +kernel
theorem d4_104 : decode prog_30_method_4_code 104 = .ok (.putfield 26, 3) := by decide +kernel
theorem d4_107 : decode prog_30_method_4_code 107 = .ok (.return_, 1) := by decide +kernel
theorem pn4 : plainName "slotwise/storage/SlotKeyCounts" = true := by first | (simp [plainName, overriddenIn]; done) | decide +kernel
theorem pd4 : parseMethodDescriptor "(IJ)V" = some ⟨[.int, .long], none⟩ := by decide +kernel
/-- function update -/
def upd (f : Nat → Int64) (i : Nat) (v : Int64) : Nat → Int64 := fun j => if j = i then v else f j
theorem upd_same (f : Nat → Int64) (i : Nat) (v : Int64) : upd f i v i = v := if_pos rfl
theorem upd_ne (f : Nat → Int64) {i j : Nat} (v : Int64) (h : j ≠ i) : upd f i v j = f j := if_neg h
abbrev SKC : String := "slotwise/storage/SlotKeyCounts"
/-- the pages: a null page's counts are 0 -/
def Pg (Z : State) (h : Heap) (n0 : Nat) (ps : List Value) (cnt : Nat → Int64) (o pa ca : Addr) : Prop :=
  ps.length = 64 ∧ (∀ i, i < 64 → (ps[i]? = some .null ∧ ∀ j, j < 256 → cnt (256 * i + j) = 0) ∨ ∃ b kb vs, ps[i]? = some (.ref b) ∧ Ar Z h b .long kb vs ∧ vs.length = 256 ∧ (n0 ≤ b ∧ b ≠ o ∧ b ≠ pa ∧ b ≠ ca) ∧ ∀ j, j < 256 → vs[j]? = some (.long (cnt (256 * i + j)))) ∧
    ∀ (i i' : Nat) (b : Addr), ps[i]? = some (Value.ref b) → ps[i']? = some (Value.ref b) → i = i'
/-- a row of longs -/
def Row (cs : List Value) (m : Nat) (f : Nat → Int64) : Prop := cs.length = m ∧ ∀ i, i < m → cs[i]? = some (.long (f i))
def SKx (Z : State) (h : Heap) (n0 : Nat) (o pa ca : Addr) (kP kC : ClassId) (ps cs : List Value) (cnt chg : Nat → Int64) (tot : Int64) (chs : Int32) : Prop :=
  Exa Z h o SKC ∧ (n0 ≤ o ∧ n0 ≤ pa ∧ n0 ≤ ca ∧ pa ≠ ca ∧ o ≠ pa ∧ o ≠ ca) ∧ Fld Z h o SKC "pages" "[[J" (.ref pa) ∧ Fld Z h o SKC "changed" "[J" (.ref ca) ∧ Fld Z h o SKC "total" "J" (.long tot) ∧ Fld Z h o SKC "changes" "I" (.int chs) ∧
    Ar Z h pa (.array .long) kP ps ∧ OvrA Z kP .long "[J" ∧ Ar Z h ca .long kC cs ∧ Row cs 256 chg ∧ Pg Z h n0 ps cnt o pa ca
def SK (Z : State) (h : Heap) (n0 : Nat) (o : Addr) (cnt chg : Nat → Int64) (tot : Int64) (chs : Int32) : Prop := ∃ pa ca kP kC ps cs, SKx Z h n0 o pa ca kP kC ps cs cnt chg tot chs
theorem Pg.ext {Z : State} {h h' : Heap} {n0 : Nat} {ps : List Value} {cnt : Nat → Int64} {o pa ca : Addr} (P : Pg Z h n0 ps cnt o pa ca) (E : Ext h h') : Pg Z h' n0 ps cnt o pa ca := by
  obtain ⟨h1, h2, h3⟩ := P
  refine ⟨h1, fun i hi => ?_, h3⟩
  rcases h2 i hi with q | ⟨b, kb, vs, q1, q2, q3, q4, q5⟩
  · exact Or.inl q
  · exact Or.inr ⟨b, kb, vs, q1, q2.ext E, q3, q4, q5⟩
theorem Pg.wr {Z : State} {h h' : Heap} {n0 : Nat} {ps : List Value} {cnt : Nat → Int64} {o pa ca a : Addr} {sl : Nat} {v : Value} (P : Pg Z h n0 ps cnt o pa ca) (W : Wr h h' a sl v) (ha : a = o ∨ a = pa ∨ a = ca) : Pg Z h' n0 ps cnt o pa ca := by
  obtain ⟨h1, h2, h3⟩ := P
  refine ⟨h1, fun i hi => ?_, h3⟩
  rcases h2 i hi with q | ⟨b, kb, vs, q1, q2, q3, q4, q5⟩
  · exact Or.inl q
  · refine Or.inr ⟨b, kb, vs, q1, q2.other W ?_, q3, q4, q5⟩
    rcases ha with rfl | rfl | rfl
    · exact q4.2.1
    · exact q4.2.2.1
    · exact q4.2.2.2
theorem SKx.ext {Z : State} {h h' : Heap} {n0 : Nat} {o pa ca : Addr} {kP kC : ClassId} {ps cs : List Value} {cnt chg : Nat → Int64} {tot : Int64} {chs : Int32} (S : SKx Z h n0 o pa ca kP kC ps cs cnt chg tot chs) (E : Ext h h') : SKx Z h' n0 o pa ca kP kC ps cs cnt chg tot chs := by
  obtain ⟨s1, s2, s3, s4, s5, s6, s7, s8, s9, s10, s11⟩ := S
  exact ⟨s1.ext E, s2, s3.ext E, s4.ext E, s5.ext E, s6.ext E, s7.ext E, s8, s9.ext E, s10, s11.ext E⟩
/-- a new page at a place that was null -/
theorem SKx.page {Z : State} {h h' : Heap} {n0 : Nat} {o pa ca : Addr} {kP kC : ClassId} {ps cs : List Value} {cnt chg : Nat → Int64} {tot : Int64} {chs : Int32} (S : SKx Z h n0 o pa ca kP kC ps cs cnt chg tot chs) {b : Addr} {kb : ClassId} {i : Nat} (hi : i < 64) (hz : ps[i]? = some .null ∧ ∀ j, j < 256 → cnt (256 * i + j) = 0)
    (Ab : Ar Z h b .long kb (List.replicate 256 (.long 0))) (nb : n0 ≤ b ∧ b ≠ o ∧ b ≠ pa ∧ b ≠ ca) (fresh : ∀ (j : Nat) (c : Addr), ps[j]? = some (.ref c) → c ≠ b) (W : Wr h h' pa i (.ref b)) : SKx Z h' n0 o pa ca kP kC (ps.set i (.ref b)) cs cnt chg tot chs := by
  obtain ⟨s1, s2, s3, s4, s5, s6, s7, s8, s9, s10, p1, p2, p3⟩ := S
  have ne := s2.2.2.2
  refine ⟨s1.wr W, s2, s3.other W (Or.inl ne.2.1), s4.other W (Or.inl ne.2.1), s5.other W (Or.inl ne.2.1), s6.other W (Or.inl ne.2.1), s7.set W, s8, s9.other W (Ne.symm ne.1), s10, by simp [p1], fun k hk => ?_, ?_⟩
  · by_cases e : k = i
    · subst e
      refine Or.inr ⟨b, kb, _, by rw [List.getElem?_set_self (by omega)], Ab.other W nb.2.2.1, List.length_replicate, nb, fun j hj => ?_⟩
      rw [hz.2 j hj, List.getElem?_replicate, if_pos hj]
    · rw [List.getElem?_set_ne (fun q => e q.symm)]
      rcases p2 k hk with q | ⟨b', kb', vs, q1, q2, q3, q4, q5⟩
      · exact Or.inl q
      · exact Or.inr ⟨b', kb', vs, q1, q2.other W q4.2.2.1, q3, q4, q5⟩
  · intro k k' c hk hk'
    by_cases e : k = i
    · subst e
      rw [List.getElem?_set_self (by omega)] at hk
      have hc : b = c := by simpa using hk
      by_cases e' : k' = k
      · exact e'.symm
      · rw [List.getElem?_set_ne (fun q => e' q.symm)] at hk'
        exact absurd hc.symm (fresh _ _ hk')
    · rw [List.getElem?_set_ne (fun q => e q.symm)] at hk
      by_cases e' : k' = i
      · subst e'
        rw [List.getElem?_set_self (by omega)] at hk'
        have hc : b = c := by simpa using hk'
        exact absurd hc.symm (fresh _ _ hk)
      · rw [List.getElem?_set_ne (fun q => e' q.symm)] at hk'
        exact p3 _ _ _ hk hk'
/-- one count written -/
theorem SKx.put {Z : State} {h h' : Heap} {n0 : Nat} {o pa ca : Addr} {kP kC : ClassId} {ps cs : List Value} {cnt chg : Nat → Int64} {tot : Int64} {chs : Int32} (S : SKx Z h n0 o pa ca kP kC ps cs cnt chg tot chs) {b : Addr} {i j : Nat} {v : Int64} (hi : i < 64) (hj : j < 256) (hb : ps[i]? = some (.ref b)) (W : Wr h h' b j (.long v)) : SKx Z h' n0 o pa ca kP kC ps cs (upd cnt (256 * i + j) v) chg tot chs := by
  obtain ⟨s1, s2, s3, s4, s5, s6, s7, s8, s9, s10, p1, p2, p3⟩ := S
  have nb : n0 ≤ b ∧ b ≠ o ∧ b ≠ pa ∧ b ≠ ca := by
    rcases p2 i hi with q | ⟨b', kb, vs, q1, q2, q3, q4, q5⟩
    · rw [hb] at q; simp at q
    · rw [hb] at q1; obtain rfl : b = b' := by simpa using q1
      exact q4
  refine ⟨s1.wr W, s2, s3.other W (Or.inl nb.2.1.symm), s4.other W (Or.inl nb.2.1.symm), s5.other W (Or.inl nb.2.1.symm), s6.other W (Or.inl nb.2.1.symm), s7.other W nb.2.2.1.symm, s8, s9.other W nb.2.2.2.symm, s10, p1, fun k hk => ?_, p3⟩
  rcases p2 k hk with ⟨q1, q2⟩ | ⟨b', kb, vs, q1, q2, q3, q4, q5⟩
  · refine Or.inl ⟨q1, fun j' hj' => ?_⟩
    have : k ≠ i := fun e => by rw [e, hb] at q1; simp at q1
    rw [upd_ne _ _ (by omega)]; exact q2 j' hj'
  · by_cases e : k = i
    · subst e
      rw [hb] at q1; obtain rfl : b = b' := by simpa using q1
      refine Or.inr ⟨b, kb, _, hb, q2.set W, by simpa using q3, nb, fun j' hj' => ?_⟩
      by_cases e : j' = j
      · subst e; rw [upd_same, List.getElem?_set_self (by omega)]
      · rw [upd_ne _ _ (by omega), List.getElem?_set_ne (fun q => e q.symm)]; exact q5 j' hj'
    · have ne : b' ≠ b := fun q => e (p3 _ _ b' q1 (q ▸ hb))
      refine Or.inr ⟨b', kb, vs, q1, q2.other W ne, q3, q4, fun j' hj' => ?_⟩
      rw [upd_ne _ _ (by omega)]; exact q5 j' hj'
theorem Row.set {cs : List Value} {m i : Nat} {f : Nat → Int64} (r : Row cs m f) (hi : i < m) (v : Int64) : Row (cs.set i (.long v)) m (upd f i v) := by
  refine ⟨by simpa using r.1, fun j hj => ?_⟩
  by_cases e : j = i
  · subst e; rw [upd_same, List.getElem?_set_self (by have := r.1; omega)]
  · rw [upd_ne _ _ e, List.getElem?_set_ne (fun q => e q.symm)]; exact r.2 j hj
/-- one word of 'changed' written -/
theorem SKx.word {Z : State} {h h' : Heap} {n0 : Nat} {o pa ca : Addr} {kP kC : ClassId} {ps cs : List Value} {cnt chg : Nat → Int64} {tot : Int64} {chs : Int32} (S : SKx Z h n0 o pa ca kP kC ps cs cnt chg tot chs) {i : Nat} {v : Int64} (hi : i < 256) (W : Wr h h' ca i (.long v)) : SKx Z h' n0 o pa ca kP kC ps (cs.set i (.long v)) cnt (upd chg i v) tot chs := by
  obtain ⟨s1, s2, s3, s4, s5, s6, s7, s8, s9, s10, s11⟩ := S
  have ne := s2.2.2.2
  exact ⟨s1.wr W, s2, s3.other W (Or.inl ne.2.2), s4.other W (Or.inl ne.2.2), s5.other W (Or.inl ne.2.2), s6.other W (Or.inl ne.2.2), s7.other W ne.1, s8, s9.set W, s10.set hi v, s11.wr W (Or.inr (Or.inr rfl))⟩
section
variable {Z : State} {a0 : Array Value}
theorem pT1 : parseFieldDescriptor "[[J" = some (.array (.array .long)) := by decide +kernel
theorem pT2 : parseFieldDescriptor "[J" = some (.array .long) := by decide +kernel
theorem pT3 : parseFieldDescriptor "J" = some .long := by decide +kernel
theorem pT4 : parseFieldDescriptor "I" = some .int := by decide +kernel
theorem SKx.tot {h h' : Heap} {n0 : Nat} {o pa ca : Addr} {kP kC : ClassId} {ps cs : List Value} {cnt chg : Nat → Int64} {tot v : Int64} {chs : Int32} (hw : Hw a0 Z) (S : SKx Z h n0 o pa ca kP kC ps cs cnt chg tot chs) (W : Wr h h' o (RoadKit.slotOf Z SKC "total" "J") (.long v)) : SKx Z h' n0 o pa ca kP kC ps cs cnt chg v chs := by
  obtain ⟨s1, s2, s3, s4, s5, s6, s7, s8, s9, s10, s11⟩ := S
  have ne := s2.2.2.2
  exact ⟨s1.wr W, s2, s3.nxt W (Or.inr (w12 hw)) (Or.inl (w28 hw)) (by decide) pT1 pT3, s4.nxt W (Or.inr (w15 hw)) (Or.inl (w28 hw)) (by decide) pT2 pT3, s5.same W, s6.nxt W (Or.inl (w30 hw)) (Or.inl (w28 hw)) (by decide) pT4 pT3, s7.other W ne.2.1.symm, s8, s9.other W ne.2.2.symm, s10, s11.wr W (Or.inl rfl)⟩
theorem SKx.chs {h h' : Heap} {n0 : Nat} {o pa ca : Addr} {kP kC : ClassId} {ps cs : List Value} {cnt chg : Nat → Int64} {tot : Int64} {chs v : Int32} (hw : Hw a0 Z) (S : SKx Z h n0 o pa ca kP kC ps cs cnt chg tot chs) (W : Wr h h' o (RoadKit.slotOf Z SKC "changes" "I") (.int v)) : SKx Z h' n0 o pa ca kP kC ps cs cnt chg tot v := by
  obtain ⟨s1, s2, s3, s4, s5, s6, s7, s8, s9, s10, s11⟩ := S
  have ne := s2.2.2.2
  exact ⟨s1.wr W, s2, s3.nxt W (Or.inr (w12 hw)) (Or.inl (w30 hw)) (by decide) pT1 pT4, s4.nxt W (Or.inr (w15 hw)) (Or.inl (w30 hw)) (by decide) pT2 pT4, s5.nxt W (Or.inl (w28 hw)) (Or.inl (w30 hw)) (by decide) pT3 pT4, s6.same W, s7.other W ne.2.1.symm, s8, s9.other W ne.2.2.symm, s10, s11.wr W (Or.inl rfl)⟩
end

def zeroC : Nat → Int64 := fun _ => 0
def bitOf (sl : Int32) : Int64 := (1 : Int64) <<< ((sl % (64 : Int32)).toInt64 &&& 63)
def chgN (chg : Nat → Int64) (sl : Int32) : Nat → Int64 := if chg (sl.toNatClampNeg / 64) &&& bitOf sl = 0 then upd chg (sl.toNatClampNeg / 64) (chg (sl.toNatClampNeg / 64) ||| bitOf sl) else chg
def chsN (chg : Nat → Int64) (sl : Int32) (chs : Int32) : Int32 := if chg (sl.toNatClampNeg / 64) &&& bitOf sl = 0 then chs + 1 else chs
set_option maxRecDepth 65536 in
set_option maxHeartbeats 40000000 in
theorem sk_init (l : Launch) (Z : State) (a0 : Array Value) (hw : Hw a0 Z) (n0 : Nat) (h : Heap) (o : Addr) (no : n0 ≤ o) (e0 : Exa Z h o SKC) (f1 : Fld Z h o SKC "pages" "[[J" .null) (f2 : Fld Z h o SKC "changed" "[J" .null) (f3 : Fld Z h o SKC "total" "J" (.long 0)) (f4 : Fld Z h o SKC "changes" "I" (.int 0)) {Q : Option Value → Heap → Prop} (hQ : ∀ h', SK Z h' n0 o zeroC zeroC 0 0 → Q none h') :
    Go l Z (⟨"slotwise/storage/SlotKeyCounts", "<init>", "()V"⟩ : MethodName) prog_30_method_1_code 1 none ({ frames := 1, cells := 2, slots := 320, locals := 12 } : Room) n0 Q h 0 0 0 #[.val (.ref o)] [] := by
  refine Go.aloadN d1_0 (q := 1) rfl rfl rfl ?_
  refine Go.initObj d1_1 (q := 4) rfl (w6 hw) (w7 hw) (w8 hw) rfl (by decide) rfl (by decide) ?_
  refine Go.aloadN d1_4 (q := 5) rfl rfl rfl ?_
  refine Go.bipush d1_5 (q := 7) rfl (x := (64 : Int32)) (by decide) ?_
  refine Go.anewarrayA (cap := 64) d1_7 (q := 10) rfl (C := "[J") (ad := "[[J") rfl rfl (w9 hw) (w10 hw) (by decide) (by decide) (by decide) (by decide) (by decide) ?_
  intro h1 pa kP e1 X1 A1 V1 _
  have np : n0 ≤ pa := new_le (le_size e0.lt no) e1
  have lp : pa < h1.size := A1.lt
  refine Go.putF d1_10 (q := 13) rfl (host := "") (Or.inl (w11 hw)) Via.refl (f1.ext X1) (e0.ext X1) (Or.inr ⟨(w12 hw), rfl, rfl⟩) (w1 hw) pT1 rfl rfl no ?_
  intro h2 W2
  refine Go.aloadN d1_13 (q := 14) rfl rfl rfl ?_
  refine Go.sipush d1_14 (q := 17) rfl (x := (256 : Int32)) (by decide) ?_
  refine Go.newarrayE (cap := 256) d1_17 (q := 19) rfl (ad := "[J") rfl (w13 hw) (by decide) (by decide) (by decide) (by decide) (by decide) ?_
  intro h3 ca kC e3 X3 A3 E3
  have nc : n0 ≤ ca := new_le (by rw [W2.size]; exact Nat.le_trans (le_size e0.lt no) X1.1) e3
  refine Go.putF d1_19 (q := 22) rfl (host := "") (Or.inl (w14 hw)) Via.refl (((f2.ext X1).nxt W2 (Or.inr (w15 hw)) (Or.inr (w12 hw)) (by decide) pT2 pT1).ext X3) (((e0.ext X1).wr W2).ext X3) (Or.inr ⟨(w15 hw), rfl, rfl⟩) (w1 hw) pT2 rfl rfl no ?_
  intro h4 W4
  refine Go.vreturn d1_22 (by decide) (by decide) ?_
  have lo : o < h.size := e0.lt
  have ne1 : pa ≠ ca := new_ne (by rw [W2.size]; exact lp) e3
  have ne2 : o ≠ pa := new_ne e0.lt e1
  have ne3 : o ≠ ca := new_ne (by rw [W2.size]; exact Nat.lt_of_lt_of_le e0.lt X1.1) e3
  refine hQ _ ⟨pa, ca, kP, kC, List.replicate 64 Value.null, List.replicate 256 (Value.long 0), (((e0.ext X1).wr W2).ext X3).wr W4, ⟨no, np, nc, ne1, ne2, ne3⟩, ?_, ?_, ?_, ?_, ?_, V1, ?_, ?_, ?_⟩
  · exact (((f1.ext X1).same W2).ext X3).nxt W4 (Or.inr (w12 hw)) (Or.inr (w15 hw)) (by decide) pT1 pT2
  · exact (((f2.ext X1).nxt W2 (Or.inr (w15 hw)) (Or.inr (w12 hw)) (by decide) pT2 pT1).ext X3).same W4
  · exact (((f3.ext X1).nxt W2 (Or.inl (w28 hw)) (Or.inr (w12 hw)) (by decide) pT3 pT1).ext X3).nxt W4 (Or.inl (w28 hw)) (Or.inr (w15 hw)) (by decide) pT3 pT2
  · exact (((f4.ext X1).nxt W2 (Or.inl (w30 hw)) (Or.inr (w12 hw)) (by decide) pT4 pT1).ext X3).nxt W4 (Or.inl (w30 hw)) (Or.inr (w15 hw)) (by decide) pT4 pT2
  · exact ((A1.other W2 ne2.symm).ext X3).other W4 ne2.symm
  · exact A3.other W4 ne3.symm
  · exact ⟨List.length_replicate, fun i hi => by rw [List.getElem?_replicate, if_pos hi]; rfl⟩
  · refine ⟨List.length_replicate, fun i hi => Or.inl ⟨by rw [List.getElem?_replicate, if_pos hi], fun _ _ => rfl⟩, fun i i' b q => ?_⟩
    rw [List.getElem?_replicate] at q; split at q <;> simp at q
set_option maxRecDepth 65536 in
set_option maxHeartbeats 40000000 in
theorem sk_of (l : Launch) (Z : State) (a0 : Array Value) (hw : Hw a0 Z) (n0 : Nat) (h : Heap) (o : Addr) (sl : Int32) (hs : ¬ sl < 0 ∧ sl.toNatClampNeg < 16384) {cnt chg : Nat → Int64} {tot : Int64} {chs : Int32} (S : SK Z h n0 o cnt chg tot chs) {Q : Option Value → Heap → Prop} (hQ : Q (some (.long (cnt sl.toNatClampNeg))) h) :
    Go l Z (⟨"slotwise/storage/SlotKeyCounts", "of", "(I)J"⟩ : MethodName) prog_30_method_2_code 3 (some .long) ({ frames := 0, cells := 0, slots := 0, locals := 0 } : Room) n0 Q h 0 0 0 #[.val (.ref o), .val (.int sl), .unset] [] := by
  obtain ⟨pa, ca, kP, kC, ps, cs, S⟩ := S
  obtain ⟨s1, s2, s3, s4, s5, s6, s7, s8, s9, s10, s11⟩ := S
  have d := idiv_nat (y := 256) (d := 256) hs.1 rfl (by decide)
  have r := irem_nat (y := 256) (d := 256) hs.1 rfl (by decide)
  have hi : sl.toNatClampNeg / 256 < 64 := by omega
  have e256 : 256 * (sl.toNatClampNeg / 256) + sl.toNatClampNeg % 256 = sl.toNatClampNeg := by omega
  rcases s11.2.1 _ hi with ⟨q1, q2⟩ | ⟨b, kb, vs, q1, q2, q3, q4, q5⟩
  · skip
    refine Go.aloadN d3_0 (q := 1) rfl rfl rfl ?_
    refine Go.getF d3_1 (q := 4) rfl (host := "") (Or.inl (w11 hw)) Via.refl s3 ?_
    refine Go.iloadN d3_4 (q := 5) rfl rfl ?_
    refine Go.sipush d3_5 (q := 8) rfl (x := (256 : Int32)) (by decide) ?_
    refine Go.idiv d3_8 (q := 9) rfl (by decide) ?_
    refine Go.aaload d3_9 (q := 10) rfl s7 rfl d.1 (by rw [d.2]; exact q1) ?_
    refine Go.astoreN d3_10 (q := 11) rfl rfl (Ls' := #[.val (.ref o), .val (.int sl), .val .null]) rfl ?_
    refine Go.aloadN d3_11 (q := 12) rfl rfl rfl ?_
    refine Go.ifnonnull d3_12 (q := 19) (q' := 15) (by decide) rfl rfl rfl (fun _ e => by cases e) (fun _ => ?_)
    refine Go.lconst d3_15 (q := 16) rfl (x := (0 : Int64)) (by decide) ?_
    refine Go.goto d3_16 (q := 26) (by decide) rfl ?_
    refine Go.lreturn d3_26 (by decide) (by decide) ?_
    have z := q2 (sl.toNatClampNeg % 256) (Nat.mod_lt _ (by decide))
    rw [e256] at z
    rw [z] at hQ
    exact hQ
  · skip
    refine Go.aloadN d3_0 (q := 1) rfl rfl rfl ?_
    refine Go.getF d3_1 (q := 4) rfl (host := "") (Or.inl (w11 hw)) Via.refl s3 ?_
    refine Go.iloadN d3_4 (q := 5) rfl rfl ?_
    refine Go.sipush d3_5 (q := 8) rfl (x := (256 : Int32)) (by decide) ?_
    refine Go.idiv d3_8 (q := 9) rfl (by decide) ?_
    refine Go.aaload d3_9 (q := 10) rfl s7 rfl d.1 (by rw [d.2]; exact q1) ?_
    refine Go.astoreN d3_10 (q := 11) rfl rfl (Ls' := #[.val (.ref o), .val (.int sl), .val (.ref b)]) rfl ?_
    refine Go.aloadN d3_11 (q := 12) rfl rfl rfl ?_
    refine Go.ifnonnull d3_12 (q := 19) (q' := 15) (by decide) rfl rfl rfl (fun _ _ => ?_) (fun e => by cases e)
    refine Go.aloadN d3_19 (q := 20) rfl rfl rfl ?_
    refine Go.iloadN d3_20 (q := 21) rfl rfl ?_
    refine Go.sipush d3_21 (q := 24) rfl (x := (256 : Int32)) (by decide) ?_
    refine Go.irem d3_24 (q := 25) rfl (by decide) ?_
    refine Go.laload d3_25 (q := 26) rfl q2 r.1 (by rw [r.2]; exact q5 _ (Nat.mod_lt _ (by decide))) ?_
    refine Go.lreturn d3_26 (by decide) (by decide) ?_
    rw [e256]
    exact hQ
set_option maxRecDepth 65536 in
set_option maxHeartbeats 40000000 in
theorem sk_add36 (l : Launch) (Z : State) (a0 : Array Value) (hw : Hw a0 Z) (n0 : Nat) (h : Heap) (o b : Addr) (sl : Int32) (hs : ¬ sl < 0 ∧ sl.toNatClampNeg < 16384) (g : Int64) {pa ca : Addr} {kP kC : ClassId} {ps cs : List Value} {cnt chg : Nat → Int64} {tot : Int64} {chs : Int32} (S : SKx Z h n0 o pa ca kP kC ps cs cnt chg tot chs) (hb : ps[sl.toNatClampNeg / 256]? = some (.ref b)) {Q : Option Value → Heap → Prop} (hQ : ∀ h', SK Z h' n0 o (upd cnt sl.toNatClampNeg (cnt sl.toNatClampNeg + g)) (chgN chg sl) (tot + g) (chsN chg sl chs) → Q none h') :
    Go l Z (⟨"slotwise/storage/SlotKeyCounts", "add", "(IJ)V"⟩ : MethodName) prog_30_method_4_code 7 none ({ frames := 0, cells := 1, slots := 256, locals := 0 } : Room) n0 Q h 1 256 36 #[.val (.ref o), .val (.int sl), .val (.long g), .second, .val (.ref b), .unset, .unset] [] := by
  have hS := S
  obtain ⟨s1, s2, s3, s4, s5, s6, s7, s8, s9, s10, s11⟩ := hS
  have d := idiv_nat (y := 256) (d := 256) hs.1 rfl (by decide)
  have r := irem_nat (y := 256) (d := 256) hs.1 rfl (by decide)
  have hi : sl.toNatClampNeg / 256 < 64 := by omega
  have e256 : 256 * (sl.toNatClampNeg / 256) + sl.toNatClampNeg % 256 = sl.toNatClampNeg := by omega
  have d64 := idiv_nat (y := 64) (d := 64) hs.1 rfl (by decide)
  obtain ⟨kb, vs, q2, q3, q4, q5⟩ : ∃ kb vs, Ar Z h b .long kb vs ∧ vs.length = 256 ∧ (n0 ≤ b ∧ b ≠ o ∧ b ≠ pa ∧ b ≠ ca) ∧ ∀ j, j < 256 → vs[j]? = some (.long (cnt (256 * (sl.toNatClampNeg / 256) + j))) := by
    rcases s11.2.1 _ hi with ⟨q1, -⟩ | ⟨b', kb, vs, q1, q2, q3, q4, q5⟩
    · rw [hb] at q1; simp at q1
    · rw [hb] at q1; obtain rfl : b = b' := by simpa using q1
      exact ⟨kb, vs, q2, q3, q4, q5⟩
  refine Go.aload d4_36 (q := 38) rfl rfl rfl ?_
  refine Go.iloadN d4_38 (q := 39) rfl rfl ?_
  refine Go.sipush d4_39 (q := 42) rfl (x := (256 : Int32)) (by decide) ?_
  refine Go.irem d4_42 (q := 43) rfl (by decide) ?_
  refine Go.dup2 d4_43 (q := 44) rfl rfl rfl ?_
  refine Go.laload d4_44 (q := 45) rfl q2 r.1 (by rw [r.2]; exact q5 _ (Nat.mod_lt _ (by decide))) ?_
  rw [e256]
  refine Go.lloadN d4_45 (q := 46) rfl rfl ?_
  refine Go.ladd d4_46 (q := 47) rfl ?_
  refine Go.lastore d4_47 (q := 48) rfl q2 r.1 (by rw [r.2, q3]; exact Nat.mod_lt _ (by decide)) q4.1 ?_
  intro h1 W1
  rw [r.2] at W1
  have S1 := S.put hi (Nat.mod_lt _ (by decide)) hb W1
  rw [e256] at S1
  refine Go.aloadN d4_48 (q := 49) rfl rfl rfl ?_
  refine Go.dup d4_49 (q := 50) rfl rfl ?_
  refine Go.getF d4_50 (q := 53) rfl (host := "") (Or.inl (w27 hw)) Via.refl S1.2.2.2.2.1 ?_
  refine Go.lloadN d4_53 (q := 54) rfl rfl ?_
  refine Go.ladd d4_54 (q := 55) rfl ?_
  refine Go.putF d4_55 (q := 58) rfl (host := "") (Or.inl (w27 hw)) Via.refl S1.2.2.2.2.1 S1.1 (Or.inl (w28 hw)) (w1 hw) pT3 rfl rfl s2.1 ?_
  intro h2 W2
  have S2 := S1.tot hw W2
  refine Go.lconst d4_58 (q := 59) rfl (x := (1 : Int64)) (by decide) ?_
  refine Go.iloadN d4_59 (q := 60) rfl rfl ?_
  refine Go.bipush d4_60 (q := 62) rfl (x := (64 : Int32)) (by decide) ?_
  refine Go.irem d4_62 (q := 63) rfl (by decide) ?_
  refine Go.lshl d4_63 (q := 64) rfl ?_
  refine Go.lstore d4_64 (q := 66) rfl (Ls' := #[.val (.ref o), .val (.int sl), .val (.long g), .second, .val (.ref b), .val (.long ((1 : Int64) <<< ((sl % (64 : Int32)).toInt64 &&& 63))), .second]) rfl ?_
  refine Go.aloadN d4_66 (q := 67) rfl rfl rfl ?_
  refine Go.getF d4_67 (q := 70) rfl (host := "") (Or.inl (w14 hw)) Via.refl S2.2.2.2.1 ?_
  refine Go.iloadN d4_70 (q := 71) rfl rfl ?_
  refine Go.bipush d4_71 (q := 73) rfl (x := (64 : Int32)) (by decide) ?_
  refine Go.idiv d4_73 (q := 74) rfl (by decide) ?_
  refine Go.laload d4_74 (q := 75) rfl S2.2.2.2.2.2.2.2.2.1 d64.1 (by rw [d64.2]; exact S2.2.2.2.2.2.2.2.2.2.1.2 _ (by omega)) ?_
  refine Go.lload d4_75 (q := 77) rfl rfl ?_
  refine Go.land d4_77 (q := 78) rfl ?_
  refine Go.lconst d4_78 (q := 79) rfl (x := (0 : Int64)) (by decide) ?_
  refine Go.lcmp d4_79 (q := 80) rfl ?_
  refine Go.lif_ne d4_80 (q := 107) (q' := 83) (by decide) rfl rfl (fun c3 => ?_) (fun c3 => ?_)
  · skip
    refine Go.vreturn d4_107 (by decide) (by decide) ?_
    unfold chgN chsN bitOf at hQ
    rw [if_neg c3, if_neg c3] at hQ
    exact hQ _ ⟨_, _, _, _, _, _, S2⟩
  · skip
    refine Go.aloadN d4_83 (q := 84) rfl rfl rfl ?_
    refine Go.getF d4_84 (q := 87) rfl (host := "") (Or.inl (w14 hw)) Via.refl S2.2.2.2.1 ?_
    refine Go.iloadN d4_87 (q := 88) rfl rfl ?_
    refine Go.bipush d4_88 (q := 90) rfl (x := (64 : Int32)) (by decide) ?_
    refine Go.idiv d4_90 (q := 91) rfl (by decide) ?_
    refine Go.dup2 d4_91 (q := 92) rfl rfl rfl ?_
    refine Go.laload d4_92 (q := 93) rfl S2.2.2.2.2.2.2.2.2.1 d64.1 (by rw [d64.2]; exact S2.2.2.2.2.2.2.2.2.2.1.2 _ (by omega)) ?_
    refine Go.lload d4_93 (q := 95) rfl rfl ?_
    refine Go.lor d4_95 (q := 96) rfl ?_
    refine Go.lastore d4_96 (q := 97) rfl S2.2.2.2.2.2.2.2.2.1 d64.1 (by rw [d64.2, S2.2.2.2.2.2.2.2.2.2.1.1]; omega) s2.2.2.1 ?_
    intro h3 W3
    rw [d64.2] at W3
    have S3 := S2.word (by omega) W3
    refine Go.aloadN d4_97 (q := 98) rfl rfl rfl ?_
    refine Go.dup d4_98 (q := 99) rfl rfl ?_
    refine Go.getF d4_99 (q := 102) rfl (host := "") (Or.inl (w29 hw)) Via.refl S3.2.2.2.2.2.1 ?_
    refine Go.iconst d4_102 (q := 103) rfl (x := (1 : Int32)) (by decide) ?_
    refine Go.iadd d4_103 (q := 104) rfl ?_
    refine Go.putF d4_104 (q := 107) rfl (host := "") (Or.inl (w29 hw)) Via.refl S3.2.2.2.2.2.1 S3.1 (Or.inl (w30 hw)) (w1 hw) pT4 rfl rfl s2.1 ?_
    intro h4 W4
    have S4 := S3.chs hw W4
    refine Go.vreturn d4_107 (by decide) (by decide) ?_
    unfold chgN chsN bitOf at hQ
    rw [if_pos c3, if_pos c3] at hQ
    exact hQ _ ⟨_, _, _, _, _, _, S4⟩
set_option maxRecDepth 65536 in
set_option maxHeartbeats 40000000 in
theorem sk_add (l : Launch) (Z : State) (a0 : Array Value) (hw : Hw a0 Z) (n0 : Nat) (h : Heap) (o : Addr) (sl : Int32) (hs : ¬ sl < 0 ∧ sl.toNatClampNeg < 16384) (g : Int64) {cnt chg : Nat → Int64} {tot : Int64} {chs : Int32} (S : SK Z h n0 o cnt chg tot chs) {Q : Option Value → Heap → Prop} (hQ : ∀ h', SK Z h' n0 o (upd cnt sl.toNatClampNeg (cnt sl.toNatClampNeg + g)) (chgN chg sl) (tot + g) (chsN chg sl chs) → Q none h') :
    Go l Z (⟨"slotwise/storage/SlotKeyCounts", "add", "(IJ)V"⟩ : MethodName) prog_30_method_4_code 7 none ({ frames := 0, cells := 1, slots := 256, locals := 0 } : Room) n0 Q h 0 0 0 #[.val (.ref o), .val (.int sl), .val (.long g), .second, .unset, .unset, .unset] [] := by
  obtain ⟨pa, ca, kP, kC, ps, cs, S⟩ := S
  have hS := S
  obtain ⟨s1, s2, s3, s4, s5, s6, s7, s8, s9, s10, s11⟩ := hS
  have d := idiv_nat (y := 256) (d := 256) hs.1 rfl (by decide)
  have r := irem_nat (y := 256) (d := 256) hs.1 rfl (by decide)
  have hi : sl.toNatClampNeg / 256 < 64 := by omega
  have e256 : 256 * (sl.toNatClampNeg / 256) + sl.toNatClampNeg % 256 = sl.toNatClampNeg := by omega
  rcases s11.2.1 _ hi with ⟨q1, q2⟩ | ⟨b, kb, vs, q1, q2, q3, q4, q5⟩
  · skip
    refine Go.aloadN d4_0 (q := 1) rfl rfl rfl ?_
    refine Go.getF d4_1 (q := 4) rfl (host := "") (Or.inl (w11 hw)) Via.refl s3 ?_
    refine Go.iloadN d4_4 (q := 5) rfl rfl ?_
    refine Go.sipush d4_5 (q := 8) rfl (x := (256 : Int32)) (by decide) ?_
    refine Go.idiv d4_8 (q := 9) rfl (by decide) ?_
    refine Go.aaload d4_9 (q := 10) rfl s7 rfl d.1 (by rw [d.2]; exact q1) ?_
    refine Go.astore d4_10 (q := 12) rfl rfl (Ls' := #[.val (.ref o), .val (.int sl), .val (.long g), .second, .val .null, .unset, .unset]) rfl ?_
    refine Go.aload d4_12 (q := 14) rfl rfl rfl ?_
    refine Go.ifnonnull d4_14 (q := 36) (q' := 17) (by decide) rfl rfl rfl (fun _ e => by cases e) (fun _ => ?_)
    refine Go.sipush d4_17 (q := 20) rfl (x := (256 : Int32)) (by decide) ?_
    refine Go.newarrayE (cap := 256) d4_20 (q := 22) rfl (ad := "[J") rfl (w13 hw) (by decide) (by decide) (by decide) (by decide) (by decide) ?_
    intro h1 b kb e1 X1 A1 E1
    have nb : n0 ≤ b := new_le (le_size s1.lt s2.1) e1
    have S1 := S.ext X1
    refine Go.astore d4_22 (q := 24) rfl rfl (Ls' := #[.val (.ref o), .val (.int sl), .val (.long g), .second, .val (.ref b), .unset, .unset]) rfl ?_
    refine Go.aloadN d4_24 (q := 25) rfl rfl rfl ?_
    refine Go.getF d4_25 (q := 28) rfl (host := "") (Or.inl (w11 hw)) Via.refl (s3.ext X1) ?_
    refine Go.iloadN d4_28 (q := 29) rfl rfl ?_
    refine Go.sipush d4_29 (q := 32) rfl (x := (256 : Int32)) (by decide) ?_
    refine Go.idiv d4_32 (q := 33) rfl (by decide) ?_
    refine Go.aload d4_33 (q := 35) rfl rfl rfl ?_
    refine Go.aastore d4_35 (q := 36) rfl (s7.ext X1) rfl d.1 (by rw [d.2, s11.1]; exact hi) (sto_ofA (s7.ext X1) s8 (Ins.self E1)) s2.2.1 ?_
    intro h2 W2
    rw [d.2] at W2
    have lo := s1.lt
    have lp := s7.lt
    have lc := s9.lt
    have S2 := S1.page hi ⟨q1, q2⟩ A1 ⟨nb, (new_ne s1.lt e1).symm, (new_ne s7.lt e1).symm, (new_ne s9.lt e1).symm⟩ (fun j c hj => by
      have hj64 : j < 64 := by have := (List.getElem?_eq_some_iff.mp hj).1; have := s11.1; omega
      rcases s11.2.1 j hj64 with ⟨t1, -⟩ | ⟨b', kb', vs', t1, t2, -⟩
      · rw [hj] at t1; simp at t1
      · rw [hj] at t1; obtain rfl : c = b' := by simpa using t1
        exact new_ne t2.lt e1) W2
    exact sk_add36 l Z a0 hw n0 h2 o b sl hs g S2 (by rw [List.getElem?_set_self (by have := s11.1; omega)]) hQ
  · skip
    refine Go.aloadN d4_0 (q := 1) rfl rfl rfl ?_
    refine Go.getF d4_1 (q := 4) rfl (host := "") (Or.inl (w11 hw)) Via.refl s3 ?_
    refine Go.iloadN d4_4 (q := 5) rfl rfl ?_
    refine Go.sipush d4_5 (q := 8) rfl (x := (256 : Int32)) (by decide) ?_
    refine Go.idiv d4_8 (q := 9) rfl (by decide) ?_
    refine Go.aaload d4_9 (q := 10) rfl s7 rfl d.1 (by rw [d.2]; exact q1) ?_
    refine Go.astore d4_10 (q := 12) rfl rfl (Ls' := #[.val (.ref o), .val (.int sl), .val (.long g), .second, .val (.ref b), .unset, .unset]) rfl ?_
    refine Go.aload d4_12 (q := 14) rfl rfl rfl ?_
    refine Go.ifnonnull d4_14 (q := 36) (q' := 17) (by decide) rfl rfl rfl (fun _ _ => ?_) (fun e => by cases e)
    exact (sk_add36 l Z a0 hw n0 h o b sl hs g S q1 hQ).mono (by decide) (by decide)
theorem SK.exa {Z : State} {h : Heap} {n0 : Nat} {o : Addr} {cnt chg : Nat → Int64} {tot : Int64} {chs : Int32} (S : SK Z h n0 o cnt chg tot chs) : Exa Z h o SKC := by
  obtain ⟨_, _, _, _, _, _, S⟩ := S; exact S.1
def RG (s : Int32) : Prop := ¬ s < 0 ∧ s.toNatClampNeg < 16384
theorem rg_mask (a : Int32) : RG (a &&& 16383) := by
  have e := c_mask a 16383 14 (by decide) (by decide)
  refine ⟨nonneg_iff.mpr (by omega), ?_⟩
  show (a &&& 16383).toInt.toNat < 16384
  omega
theorem and_or32 (u v w : Int32) : (u ||| v) &&& w = (u &&& w) ||| (v &&& w) := Int32.toBitVec_inj.mp BitVec.and_or_distrib_right
theorem rg_mix (a b : Int32) : RG (((a &&& 16383) &&& -256) ||| (b &&& 255)) := by
  have e : (((a &&& 16383) &&& -256) ||| (b &&& 255)) = ((((a &&& 16383) &&& -256) ||| (b &&& 255)) &&& 16383) := by
    rw [and_or32, Int32.and_assoc b, Int32.and_assoc a, Int32.and_assoc a]
    rfl
  rw [e]; exact rg_mask _
theorem nat_inj {a b : Int32} (ha : ¬ a < 0) (hb : ¬ b < 0) (e : a.toNatClampNeg = b.toNatClampNeg) : a = b := by
  rw [← (back32 ha).1, ← (back32 hb).1, e]
def c1 (sa : Int32) (g1 : Int64) : Nat → Int64 := upd zeroC sa.toNatClampNeg (zeroC sa.toNatClampNeg + g1)
def c2 (sa sb : Int32) (g1 g2 : Int64) : Nat → Int64 := upd (c1 sa g1) sb.toNatClampNeg (c1 sa g1 sb.toNatClampNeg + g2)
theorem c1_eq (sa sc : Int32) (ha : RG sa) (hc : RG sc) (g1 : Int64) : c1 sa g1 sc.toNatClampNeg = if sc = sa then g1 else 0 := by
  unfold c1
  by_cases e : sc = sa
  · rw [if_pos e, e, upd_same]; exact Int64.zero_add _
  · rw [if_neg e, upd_ne _ _ (fun q => e (nat_inj hc.1 ha.1 q))]; rfl
theorem c2_eq (sa sb sc : Int32) (ha : RG sa) (hb : RG sb) (hc : RG sc) (g1 g2 : Int64) : c2 sa sb g1 g2 sc.toNatClampNeg = (if sc = sa then g1 else 0) + (if sc = sb then g2 else 0) := by
  unfold c2
  by_cases e : sc = sb
  · rw [if_pos e, e, upd_same, c1_eq sa sb ha hb]
  · rw [if_neg e, upd_ne _ _ (fun q => e (nat_inj hc.1 hb.1 q)), c1_eq sa sc ha hc, Int64.add_zero]
set_option maxRecDepth 65536 in
set_option maxHeartbeats 40000000 in
theorem j116 (l : Launch) (Z : State) (a0 : Array Value) (hw : Hw a0 Z) (n0 : Nat) (h : Heap) (O : Old Z n0 h) (a b c md u1 u2 sa sb sc : Int32) (g1 g2 : Int64) (ha : RG sa) (hb : RG sb) (hc : RG sc) :
    Go l Z x code maxLocals ret room_1 n0 (fun v _ => v = some (.int 1)) h 0 0 116 #[.val (.int a), .val (.int b), .val (.int c), .val (.int md), .val (.long g1), .second, .val (.long g2), .second, .val (.int sa), .val (.int u1), .val (.int sb), .val (.int u2), .val (.int sc), .unset, .unset, .unset, .unset, .unset, .unset, .unset, .unset, .unset, .unset, .unset] [] := by
  refine Go.new at_116 (q := 119) rfl (w0 hw) (w1 hw) (w2 hw) (by decide) (by decide) ?_
  intro h1 o e1 X1 E1 D1
  have no : n0 ≤ o := by rw [e1]; exact O.1 ▸ O.2.1
  refine Go.dup at_119 (q := 120) rfl rfl ?_
  refine Go.callIN (P := fun h' => SK Z h' n0 o zeroC zeroC 0 0) (argsL := []) (rest := [(.ref o)]) (wd := 1) (Ls1 := #[.val (.ref o)]) at_120 (q := 123) rfl rfl (w3 hw) (w4 hw) (w2 hw) (w5 hw) (by decide) pn1 pd1 rfl rfl (fun m => by simp [entryFrame, mkF, argsToLocals, Value.category]) rfl (by decide) rfl (by decide) (by decide) (by decide) (sk_init l Z a0 hw n0 h1 o no E1 (D1 (Or.inr (w12 hw)) pT1) (D1 (Or.inr (w15 hw)) pT2) (D1 (Or.inl (w28 hw)) pT3) (D1 (Or.inl (w30 hw)) pT4) (Q := RN (fun h' => SK Z h' n0 o zeroC zeroC 0 0)) (fun h' q => ⟨rfl, q⟩)) ?_
  intro h2 S2
  refine Go.astore at_123 (q := 125) rfl rfl (Ls' := #[.val (.int a), .val (.int b), .val (.int c), .val (.int md), .val (.long g1), .second, .val (.long g2), .second, .val (.int sa), .val (.int u1), .val (.int sb), .val (.int u2), .val (.int sc), .val (.ref o), .unset, .unset, .unset, .unset, .unset, .unset, .unset, .unset, .unset, .unset]) rfl ?_
  refine Go.aload at_125 (q := 127) rfl rfl rfl ?_
  refine Go.iload at_127 (q := 129) rfl rfl ?_
  refine Go.callVV (P := fun w h' => w = .long (zeroC sc.toNatClampNeg) ∧ h2 = h') (argsL := [(.int sc)]) (rest := []) (wd := 0) (Ls1 := #[.val (.ref o), .val (.int sc), .unset]) at_129 (q := 132) rfl (w16 hw) (w17 hw) (w19 hw) (w18 hw) (w20 hw) (w2 hw) (by decide) pn3 pd3 rfl rfl S2.exa (fun m => by simp [entryFrame, mkF, argsToLocals, Value.category]) rfl (by decide) rfl (by decide) (by decide) (by decide) (sk_of l Z a0 hw n0 h2 o sc hc S2 (Q := RV (fun w h' => w = .long (zeroC sc.toNatClampNeg) ∧ h2 = h')) ⟨_, rfl, rfl, rfl⟩) ?_
  rintro _ _ ⟨rfl, rfl⟩
  refine Go.lstore at_132 (q := 134) rfl (Ls' := #[.val (.int a), .val (.int b), .val (.int c), .val (.int md), .val (.long g1), .second, .val (.long g2), .second, .val (.int sa), .val (.int u1), .val (.int sb), .val (.int u2), .val (.int sc), .val (.ref o), .val (.long (zeroC sc.toNatClampNeg)), .second, .unset, .unset, .unset, .unset, .unset, .unset, .unset, .unset]) rfl ?_
  refine Go.aload at_134 (q := 136) rfl rfl rfl ?_
  refine Go.iload at_136 (q := 138) rfl rfl ?_
  refine Go.lload at_138 (q := 140) rfl rfl ?_
  refine Go.callVN (P := fun h' => SK Z h' n0 o (c1 sa g1) (chgN zeroC sa) (0 + g1) (chsN zeroC sa 0)) (argsL := [(.int sa), (.long g1)]) (rest := []) (wd := 0) (Ls1 := #[.val (.ref o), .val (.int sa), .val (.long g1), .second, .unset, .unset, .unset]) at_140 (q := 143) rfl (w21 hw) (w22 hw) (w24 hw) (w23 hw) (w25 hw) (w2 hw) (by decide) pn4 pd4 rfl rfl S2.exa (fun m => by simp [entryFrame, mkF, argsToLocals, Value.category]) rfl (by decide) rfl (by decide) (by decide) (by decide) (sk_add l Z a0 hw n0 h2 o sa ha g1 S2 (Q := RN (fun h' => SK Z h' n0 o (c1 sa g1) (chgN zeroC sa) (0 + g1) (chsN zeroC sa 0))) (fun h' q => ⟨rfl, q⟩)) ?_
  intro h3 S3
  refine Go.aload at_143 (q := 145) rfl rfl rfl ?_
  refine Go.iload at_145 (q := 147) rfl rfl ?_
  refine Go.lload at_147 (q := 149) rfl rfl ?_
  refine Go.callVN (P := fun h' => SK Z h' n0 o (c2 sa sb g1 g2) (chgN (chgN zeroC sa) sb) (0 + g1 + g2) (chsN (chgN zeroC sa) sb (chsN zeroC sa 0))) (argsL := [(.int sb), (.long g2)]) (rest := []) (wd := 0) (Ls1 := #[.val (.ref o), .val (.int sb), .val (.long g2), .second, .unset, .unset, .unset]) at_149 (q := 152) rfl (w21 hw) (w22 hw) (w24 hw) (w23 hw) (w25 hw) (w2 hw) (by decide) pn4 pd4 rfl rfl S3.exa (fun m => by simp [entryFrame, mkF, argsToLocals, Value.category]) rfl (by decide) rfl (by decide) (by decide) (by decide) (sk_add l Z a0 hw n0 h3 o sb hb g2 S3 (Q := RN (fun h' => SK Z h' n0 o (c2 sa sb g1 g2) (chgN (chgN zeroC sa) sb) (0 + g1 + g2) (chsN (chgN zeroC sa) sb (chsN zeroC sa 0)))) (fun h' q => ⟨rfl, q⟩)) ?_
  intro h4 S4
  refine Go.aload at_152 (q := 154) rfl rfl rfl ?_
  refine Go.iload at_154 (q := 156) rfl rfl ?_
  refine Go.callVV (P := fun w h' => w = .long ((c2 sa sb g1 g2) sc.toNatClampNeg) ∧ h4 = h') (argsL := [(.int sc)]) (rest := []) (wd := 0) (Ls1 := #[.val (.ref o), .val (.int sc), .unset]) at_156 (q := 159) rfl (w16 hw) (w17 hw) (w19 hw) (w18 hw) (w20 hw) (w2 hw) (by decide) pn3 pd3 rfl rfl S4.exa (fun m => by simp [entryFrame, mkF, argsToLocals, Value.category]) rfl (by decide) rfl (by decide) (by decide) (by decide) (sk_of l Z a0 hw n0 h4 o sc hc S4 (Q := RV (fun w h' => w = .long ((c2 sa sb g1 g2) sc.toNatClampNeg) ∧ h4 = h')) ⟨_, rfl, rfl, rfl⟩) ?_
  rintro _ _ ⟨rfl, rfl⟩
  refine Go.lstore at_159 (q := 161) rfl (Ls' := #[.val (.int a), .val (.int b), .val (.int c), .val (.int md), .val (.long g1), .second, .val (.long g2), .second, .val (.int sa), .val (.int u1), .val (.int sb), .val (.int u2), .val (.int sc), .val (.ref o), .val (.long (zeroC sc.toNatClampNeg)), .second, .val (.long ((c2 sa sb g1 g2) sc.toNatClampNeg)), .second, .unset, .unset, .unset, .unset, .unset, .unset]) rfl ?_
  refine Go.aload at_161 (q := 163) rfl rfl rfl ?_
  refine Go.iload at_163 (q := 165) rfl rfl ?_
  refine Go.callVV (P := fun w h' => w = .long ((c2 sa sb g1 g2) sa.toNatClampNeg) ∧ h4 = h') (argsL := [(.int sa)]) (rest := []) (wd := 0) (Ls1 := #[.val (.ref o), .val (.int sa), .unset]) at_165 (q := 168) rfl (w16 hw) (w17 hw) (w19 hw) (w18 hw) (w20 hw) (w2 hw) (by decide) pn3 pd3 rfl rfl S4.exa (fun m => by simp [entryFrame, mkF, argsToLocals, Value.category]) rfl (by decide) rfl (by decide) (by decide) (by decide) (sk_of l Z a0 hw n0 h4 o sa ha S4 (Q := RV (fun w h' => w = .long ((c2 sa sb g1 g2) sa.toNatClampNeg) ∧ h4 = h')) ⟨_, rfl, rfl, rfl⟩) ?_
  rintro _ _ ⟨rfl, rfl⟩
  refine Go.lstore at_168 (q := 170) rfl (Ls' := #[.val (.int a), .val (.int b), .val (.int c), .val (.int md), .val (.long g1), .second, .val (.long g2), .second, .val (.int sa), .val (.int u1), .val (.int sb), .val (.int u2), .val (.int sc), .val (.ref o), .val (.long (zeroC sc.toNatClampNeg)), .second, .val (.long ((c2 sa sb g1 g2) sc.toNatClampNeg)), .second, .val (.long ((c2 sa sb g1 g2) sa.toNatClampNeg)), .second, .unset, .unset, .unset, .unset]) rfl ?_
  refine Go.iload at_170 (q := 172) rfl rfl ?_
  refine Go.iload at_172 (q := 174) rfl rfl ?_
  refine Go.icmp_ne at_174 (q := 182) (q' := 177) (by decide) rfl rfl (fun c6 => ?_) (fun c6 => ?_)
  · skip
    refine Go.lconst at_182 (q := 183) rfl (x := (0 : Int64)) (by decide) ?_
    refine Go.iload at_183 (q := 185) rfl rfl ?_
    refine Go.iload at_185 (q := 187) rfl rfl ?_
    refine Go.icmp_ne at_187 (q := 195) (q' := 190) (by decide) rfl rfl (fun c7 => ?_) (fun c7 => ?_)
    · skip
      refine Go.lconst at_195 (q := 196) rfl (x := (0 : Int64)) (by decide) ?_
      refine Go.ladd at_196 (q := 197) rfl ?_
      refine Go.lstore at_197 (q := 199) rfl (Ls' := #[.val (.int a), .val (.int b), .val (.int c), .val (.int md), .val (.long g1), .second, .val (.long g2), .second, .val (.int sa), .val (.int u1), .val (.int sb), .val (.int u2), .val (.int sc), .val (.ref o), .val (.long (zeroC sc.toNatClampNeg)), .second, .val (.long ((c2 sa sb g1 g2) sc.toNatClampNeg)), .second, .val (.long ((c2 sa sb g1 g2) sa.toNatClampNeg)), .second, .val (.long ((0 : Int64) + (0 : Int64))), .second, .unset, .unset]) rfl ?_
      refine Go.lload at_199 (q := 201) rfl rfl ?_
      refine Go.iload at_201 (q := 203) rfl rfl ?_
      refine Go.iload at_203 (q := 205) rfl rfl ?_
      refine Go.icmp_ne at_205 (q := 213) (q' := 208) (by decide) rfl rfl (fun c8 => ?_) (fun c8 => ?_)
      · skip
        refine Go.lconst at_213 (q := 214) rfl (x := (0 : Int64)) (by decide) ?_
        refine Go.ladd at_214 (q := 215) rfl ?_
        refine Go.lstore at_215 (q := 217) rfl (Ls' := #[.val (.int a), .val (.int b), .val (.int c), .val (.int md), .val (.long g1), .second, .val (.long g2), .second, .val (.int sa), .val (.int u1), .val (.int sb), .val (.int u2), .val (.int sc), .val (.ref o), .val (.long (zeroC sc.toNatClampNeg)), .second, .val (.long ((c2 sa sb g1 g2) sc.toNatClampNeg)), .second, .val (.long ((c2 sa sb g1 g2) sa.toNatClampNeg)), .second, .val (.long ((0 : Int64) + (0 : Int64))), .second, .val (.long (g1 + (0 : Int64))), .second]) rfl ?_
        refine Go.lload at_217 (q := 219) rfl rfl ?_
        refine Go.lconst at_219 (q := 220) rfl (x := (0 : Int64)) (by decide) ?_
        refine Go.lcmp at_220 (q := 221) rfl ?_
        refine Go.lif_ne at_221 (q := 244) (q' := 224) (by decide) rfl rfl (fun c => absurd rfl c) (fun _ => ?_)
        refine Go.lload at_224 (q := 226) rfl rfl ?_
        refine Go.lload at_226 (q := 228) rfl rfl ?_
        refine Go.lcmp at_228 (q := 229) rfl ?_
        refine Go.lif_ne at_229 (q := 244) (q' := 232) (by decide) rfl rfl (fun c => absurd (by rw [c2_eq sa sb sc ha hb hc, if_neg c6, if_neg c7]) c) (fun _ => ?_)
        refine Go.lload at_232 (q := 234) rfl rfl ?_
        refine Go.lload at_234 (q := 236) rfl rfl ?_
        refine Go.lcmp at_236 (q := 237) rfl ?_
        refine Go.lif_ne at_237 (q := 244) (q' := 240) (by decide) rfl rfl (fun c => absurd (by rw [c2_eq sa sb sa ha hb ha, if_pos rfl, if_neg (fun e => c8 e.symm)]) c) (fun _ => ?_)
        refine Go.iconst at_240 (q := 241) rfl (x := (1 : Int32)) (by decide) ?_
        refine Go.goto at_241 (q := 245) (by decide) rfl ?_
        refine Go.zreturn at_245 (by decide) (by decide) (by decide) ?_
        rfl
      · skip
        refine Go.lload at_208 (q := 210) rfl rfl ?_
        refine Go.goto at_210 (q := 214) (by decide) rfl ?_
        refine Go.ladd at_214 (q := 215) rfl ?_
        refine Go.lstore at_215 (q := 217) rfl (Ls' := #[.val (.int a), .val (.int b), .val (.int c), .val (.int md), .val (.long g1), .second, .val (.long g2), .second, .val (.int sa), .val (.int u1), .val (.int sb), .val (.int u2), .val (.int sc), .val (.ref o), .val (.long (zeroC sc.toNatClampNeg)), .second, .val (.long ((c2 sa sb g1 g2) sc.toNatClampNeg)), .second, .val (.long ((c2 sa sb g1 g2) sa.toNatClampNeg)), .second, .val (.long ((0 : Int64) + (0 : Int64))), .second, .val (.long (g1 + g2)), .second]) rfl ?_
        refine Go.lload at_217 (q := 219) rfl rfl ?_
        refine Go.lconst at_219 (q := 220) rfl (x := (0 : Int64)) (by decide) ?_
        refine Go.lcmp at_220 (q := 221) rfl ?_
        refine Go.lif_ne at_221 (q := 244) (q' := 224) (by decide) rfl rfl (fun c => absurd rfl c) (fun _ => ?_)
        refine Go.lload at_224 (q := 226) rfl rfl ?_
        refine Go.lload at_226 (q := 228) rfl rfl ?_
        refine Go.lcmp at_228 (q := 229) rfl ?_
        refine Go.lif_ne at_229 (q := 244) (q' := 232) (by decide) rfl rfl (fun c => absurd (by rw [c2_eq sa sb sc ha hb hc, if_neg c6, if_neg c7]) c) (fun _ => ?_)
        refine Go.lload at_232 (q := 234) rfl rfl ?_
        refine Go.lload at_234 (q := 236) rfl rfl ?_
        refine Go.lcmp at_236 (q := 237) rfl ?_
        refine Go.lif_ne at_237 (q := 244) (q' := 240) (by decide) rfl rfl (fun c => absurd (by rw [c2_eq sa sb sa ha hb ha, if_pos rfl, if_pos c8.symm]) c) (fun _ => ?_)
        refine Go.iconst at_240 (q := 241) rfl (x := (1 : Int32)) (by decide) ?_
        refine Go.goto at_241 (q := 245) (by decide) rfl ?_
        refine Go.zreturn at_245 (by decide) (by decide) (by decide) ?_
        rfl
    · skip
      refine Go.lload at_190 (q := 192) rfl rfl ?_
      refine Go.goto at_192 (q := 196) (by decide) rfl ?_
      refine Go.ladd at_196 (q := 197) rfl ?_
      refine Go.lstore at_197 (q := 199) rfl (Ls' := #[.val (.int a), .val (.int b), .val (.int c), .val (.int md), .val (.long g1), .second, .val (.long g2), .second, .val (.int sa), .val (.int u1), .val (.int sb), .val (.int u2), .val (.int sc), .val (.ref o), .val (.long (zeroC sc.toNatClampNeg)), .second, .val (.long ((c2 sa sb g1 g2) sc.toNatClampNeg)), .second, .val (.long ((c2 sa sb g1 g2) sa.toNatClampNeg)), .second, .val (.long ((0 : Int64) + g2)), .second, .unset, .unset]) rfl ?_
      refine Go.lload at_199 (q := 201) rfl rfl ?_
      refine Go.iload at_201 (q := 203) rfl rfl ?_
      refine Go.iload at_203 (q := 205) rfl rfl ?_
      refine Go.icmp_ne at_205 (q := 213) (q' := 208) (by decide) rfl rfl (fun c15 => ?_) (fun c15 => ?_)
      · skip
        refine Go.lconst at_213 (q := 214) rfl (x := (0 : Int64)) (by decide) ?_
        refine Go.ladd at_214 (q := 215) rfl ?_
        refine Go.lstore at_215 (q := 217) rfl (Ls' := #[.val (.int a), .val (.int b), .val (.int c), .val (.int md), .val (.long g1), .second, .val (.long g2), .second, .val (.int sa), .val (.int u1), .val (.int sb), .val (.int u2), .val (.int sc), .val (.ref o), .val (.long (zeroC sc.toNatClampNeg)), .second, .val (.long ((c2 sa sb g1 g2) sc.toNatClampNeg)), .second, .val (.long ((c2 sa sb g1 g2) sa.toNatClampNeg)), .second, .val (.long ((0 : Int64) + g2)), .second, .val (.long (g1 + (0 : Int64))), .second]) rfl ?_
        refine Go.lload at_217 (q := 219) rfl rfl ?_
        refine Go.lconst at_219 (q := 220) rfl (x := (0 : Int64)) (by decide) ?_
        refine Go.lcmp at_220 (q := 221) rfl ?_
        refine Go.lif_ne at_221 (q := 244) (q' := 224) (by decide) rfl rfl (fun c => absurd rfl c) (fun _ => ?_)
        refine Go.lload at_224 (q := 226) rfl rfl ?_
        refine Go.lload at_226 (q := 228) rfl rfl ?_
        refine Go.lcmp at_228 (q := 229) rfl ?_
        refine Go.lif_ne at_229 (q := 244) (q' := 232) (by decide) rfl rfl (fun c => absurd (by rw [c2_eq sa sb sc ha hb hc, if_neg c6, if_pos c7]) c) (fun _ => ?_)
        refine Go.lload at_232 (q := 234) rfl rfl ?_
        refine Go.lload at_234 (q := 236) rfl rfl ?_
        refine Go.lcmp at_236 (q := 237) rfl ?_
        refine Go.lif_ne at_237 (q := 244) (q' := 240) (by decide) rfl rfl (fun c => absurd (by rw [c2_eq sa sb sa ha hb ha, if_pos rfl, if_neg (fun e => c15 e.symm)]) c) (fun _ => ?_)
        refine Go.iconst at_240 (q := 241) rfl (x := (1 : Int32)) (by decide) ?_
        refine Go.goto at_241 (q := 245) (by decide) rfl ?_
        refine Go.zreturn at_245 (by decide) (by decide) (by decide) ?_
        rfl
      · skip
        refine Go.lload at_208 (q := 210) rfl rfl ?_
        refine Go.goto at_210 (q := 214) (by decide) rfl ?_
        refine Go.ladd at_214 (q := 215) rfl ?_
        refine Go.lstore at_215 (q := 217) rfl (Ls' := #[.val (.int a), .val (.int b), .val (.int c), .val (.int md), .val (.long g1), .second, .val (.long g2), .second, .val (.int sa), .val (.int u1), .val (.int sb), .val (.int u2), .val (.int sc), .val (.ref o), .val (.long (zeroC sc.toNatClampNeg)), .second, .val (.long ((c2 sa sb g1 g2) sc.toNatClampNeg)), .second, .val (.long ((c2 sa sb g1 g2) sa.toNatClampNeg)), .second, .val (.long ((0 : Int64) + g2)), .second, .val (.long (g1 + g2)), .second]) rfl ?_
        refine Go.lload at_217 (q := 219) rfl rfl ?_
        refine Go.lconst at_219 (q := 220) rfl (x := (0 : Int64)) (by decide) ?_
        refine Go.lcmp at_220 (q := 221) rfl ?_
        refine Go.lif_ne at_221 (q := 244) (q' := 224) (by decide) rfl rfl (fun c => absurd rfl c) (fun _ => ?_)
        refine Go.lload at_224 (q := 226) rfl rfl ?_
        refine Go.lload at_226 (q := 228) rfl rfl ?_
        refine Go.lcmp at_228 (q := 229) rfl ?_
        refine Go.lif_ne at_229 (q := 244) (q' := 232) (by decide) rfl rfl (fun c => absurd (by rw [c2_eq sa sb sc ha hb hc, if_neg c6, if_pos c7]) c) (fun _ => ?_)
        refine Go.lload at_232 (q := 234) rfl rfl ?_
        refine Go.lload at_234 (q := 236) rfl rfl ?_
        refine Go.lcmp at_236 (q := 237) rfl ?_
        refine Go.lif_ne at_237 (q := 244) (q' := 240) (by decide) rfl rfl (fun c => absurd (by rw [c2_eq sa sb sa ha hb ha, if_pos rfl, if_pos c15.symm]) c) (fun _ => ?_)
        refine Go.iconst at_240 (q := 241) rfl (x := (1 : Int32)) (by decide) ?_
        refine Go.goto at_241 (q := 245) (by decide) rfl ?_
        refine Go.zreturn at_245 (by decide) (by decide) (by decide) ?_
        rfl
  · skip
    refine Go.lload at_177 (q := 179) rfl rfl ?_
    refine Go.goto at_179 (q := 183) (by decide) rfl ?_
    refine Go.iload at_183 (q := 185) rfl rfl ?_
    refine Go.iload at_185 (q := 187) rfl rfl ?_
    refine Go.icmp_ne at_187 (q := 195) (q' := 190) (by decide) rfl rfl (fun c22 => ?_) (fun c22 => ?_)
    · skip
      refine Go.lconst at_195 (q := 196) rfl (x := (0 : Int64)) (by decide) ?_
      refine Go.ladd at_196 (q := 197) rfl ?_
      refine Go.lstore at_197 (q := 199) rfl (Ls' := #[.val (.int a), .val (.int b), .val (.int c), .val (.int md), .val (.long g1), .second, .val (.long g2), .second, .val (.int sa), .val (.int u1), .val (.int sb), .val (.int u2), .val (.int sc), .val (.ref o), .val (.long (zeroC sc.toNatClampNeg)), .second, .val (.long ((c2 sa sb g1 g2) sc.toNatClampNeg)), .second, .val (.long ((c2 sa sb g1 g2) sa.toNatClampNeg)), .second, .val (.long (g1 + (0 : Int64))), .second, .unset, .unset]) rfl ?_
      refine Go.lload at_199 (q := 201) rfl rfl ?_
      refine Go.iload at_201 (q := 203) rfl rfl ?_
      refine Go.iload at_203 (q := 205) rfl rfl ?_
      refine Go.icmp_ne at_205 (q := 213) (q' := 208) (by decide) rfl rfl (fun c23 => ?_) (fun c23 => ?_)
      · skip
        refine Go.lconst at_213 (q := 214) rfl (x := (0 : Int64)) (by decide) ?_
        refine Go.ladd at_214 (q := 215) rfl ?_
        refine Go.lstore at_215 (q := 217) rfl (Ls' := #[.val (.int a), .val (.int b), .val (.int c), .val (.int md), .val (.long g1), .second, .val (.long g2), .second, .val (.int sa), .val (.int u1), .val (.int sb), .val (.int u2), .val (.int sc), .val (.ref o), .val (.long (zeroC sc.toNatClampNeg)), .second, .val (.long ((c2 sa sb g1 g2) sc.toNatClampNeg)), .second, .val (.long ((c2 sa sb g1 g2) sa.toNatClampNeg)), .second, .val (.long (g1 + (0 : Int64))), .second, .val (.long (g1 + (0 : Int64))), .second]) rfl ?_
        refine Go.lload at_217 (q := 219) rfl rfl ?_
        refine Go.lconst at_219 (q := 220) rfl (x := (0 : Int64)) (by decide) ?_
        refine Go.lcmp at_220 (q := 221) rfl ?_
        refine Go.lif_ne at_221 (q := 244) (q' := 224) (by decide) rfl rfl (fun c => absurd rfl c) (fun _ => ?_)
        refine Go.lload at_224 (q := 226) rfl rfl ?_
        refine Go.lload at_226 (q := 228) rfl rfl ?_
        refine Go.lcmp at_228 (q := 229) rfl ?_
        refine Go.lif_ne at_229 (q := 244) (q' := 232) (by decide) rfl rfl (fun c => absurd (by rw [c2_eq sa sb sc ha hb hc, if_pos c6, if_neg c22]) c) (fun _ => ?_)
        refine Go.lload at_232 (q := 234) rfl rfl ?_
        refine Go.lload at_234 (q := 236) rfl rfl ?_
        refine Go.lcmp at_236 (q := 237) rfl ?_
        refine Go.lif_ne at_237 (q := 244) (q' := 240) (by decide) rfl rfl (fun c => absurd (by rw [c2_eq sa sb sa ha hb ha, if_pos rfl, if_neg (fun e => c23 e.symm)]) c) (fun _ => ?_)
        refine Go.iconst at_240 (q := 241) rfl (x := (1 : Int32)) (by decide) ?_
        refine Go.goto at_241 (q := 245) (by decide) rfl ?_
        refine Go.zreturn at_245 (by decide) (by decide) (by decide) ?_
        rfl
      · skip
        refine Go.lload at_208 (q := 210) rfl rfl ?_
        refine Go.goto at_210 (q := 214) (by decide) rfl ?_
        refine Go.ladd at_214 (q := 215) rfl ?_
        refine Go.lstore at_215 (q := 217) rfl (Ls' := #[.val (.int a), .val (.int b), .val (.int c), .val (.int md), .val (.long g1), .second, .val (.long g2), .second, .val (.int sa), .val (.int u1), .val (.int sb), .val (.int u2), .val (.int sc), .val (.ref o), .val (.long (zeroC sc.toNatClampNeg)), .second, .val (.long ((c2 sa sb g1 g2) sc.toNatClampNeg)), .second, .val (.long ((c2 sa sb g1 g2) sa.toNatClampNeg)), .second, .val (.long (g1 + (0 : Int64))), .second, .val (.long (g1 + g2)), .second]) rfl ?_
        refine Go.lload at_217 (q := 219) rfl rfl ?_
        refine Go.lconst at_219 (q := 220) rfl (x := (0 : Int64)) (by decide) ?_
        refine Go.lcmp at_220 (q := 221) rfl ?_
        refine Go.lif_ne at_221 (q := 244) (q' := 224) (by decide) rfl rfl (fun c => absurd rfl c) (fun _ => ?_)
        refine Go.lload at_224 (q := 226) rfl rfl ?_
        refine Go.lload at_226 (q := 228) rfl rfl ?_
        refine Go.lcmp at_228 (q := 229) rfl ?_
        refine Go.lif_ne at_229 (q := 244) (q' := 232) (by decide) rfl rfl (fun c => absurd (by rw [c2_eq sa sb sc ha hb hc, if_pos c6, if_neg c22]) c) (fun _ => ?_)
        refine Go.lload at_232 (q := 234) rfl rfl ?_
        refine Go.lload at_234 (q := 236) rfl rfl ?_
        refine Go.lcmp at_236 (q := 237) rfl ?_
        refine Go.lif_ne at_237 (q := 244) (q' := 240) (by decide) rfl rfl (fun c => absurd (by rw [c2_eq sa sb sa ha hb ha, if_pos rfl, if_pos c23.symm]) c) (fun _ => ?_)
        refine Go.iconst at_240 (q := 241) rfl (x := (1 : Int32)) (by decide) ?_
        refine Go.goto at_241 (q := 245) (by decide) rfl ?_
        refine Go.zreturn at_245 (by decide) (by decide) (by decide) ?_
        rfl
    · skip
      refine Go.lload at_190 (q := 192) rfl rfl ?_
      refine Go.goto at_192 (q := 196) (by decide) rfl ?_
      refine Go.ladd at_196 (q := 197) rfl ?_
      refine Go.lstore at_197 (q := 199) rfl (Ls' := #[.val (.int a), .val (.int b), .val (.int c), .val (.int md), .val (.long g1), .second, .val (.long g2), .second, .val (.int sa), .val (.int u1), .val (.int sb), .val (.int u2), .val (.int sc), .val (.ref o), .val (.long (zeroC sc.toNatClampNeg)), .second, .val (.long ((c2 sa sb g1 g2) sc.toNatClampNeg)), .second, .val (.long ((c2 sa sb g1 g2) sa.toNatClampNeg)), .second, .val (.long (g1 + g2)), .second, .unset, .unset]) rfl ?_
      refine Go.lload at_199 (q := 201) rfl rfl ?_
      refine Go.iload at_201 (q := 203) rfl rfl ?_
      refine Go.iload at_203 (q := 205) rfl rfl ?_
      refine Go.icmp_ne at_205 (q := 213) (q' := 208) (by decide) rfl rfl (fun c30 => ?_) (fun c30 => ?_)
      · skip
        refine Go.lconst at_213 (q := 214) rfl (x := (0 : Int64)) (by decide) ?_
        refine Go.ladd at_214 (q := 215) rfl ?_
        refine Go.lstore at_215 (q := 217) rfl (Ls' := #[.val (.int a), .val (.int b), .val (.int c), .val (.int md), .val (.long g1), .second, .val (.long g2), .second, .val (.int sa), .val (.int u1), .val (.int sb), .val (.int u2), .val (.int sc), .val (.ref o), .val (.long (zeroC sc.toNatClampNeg)), .second, .val (.long ((c2 sa sb g1 g2) sc.toNatClampNeg)), .second, .val (.long ((c2 sa sb g1 g2) sa.toNatClampNeg)), .second, .val (.long (g1 + g2)), .second, .val (.long (g1 + (0 : Int64))), .second]) rfl ?_
        refine Go.lload at_217 (q := 219) rfl rfl ?_
        refine Go.lconst at_219 (q := 220) rfl (x := (0 : Int64)) (by decide) ?_
        refine Go.lcmp at_220 (q := 221) rfl ?_
        refine Go.lif_ne at_221 (q := 244) (q' := 224) (by decide) rfl rfl (fun c => absurd rfl c) (fun _ => ?_)
        refine Go.lload at_224 (q := 226) rfl rfl ?_
        refine Go.lload at_226 (q := 228) rfl rfl ?_
        refine Go.lcmp at_228 (q := 229) rfl ?_
        refine Go.lif_ne at_229 (q := 244) (q' := 232) (by decide) rfl rfl (fun c => absurd (by rw [c2_eq sa sb sc ha hb hc, if_pos c6, if_pos c22]) c) (fun _ => ?_)
        refine Go.lload at_232 (q := 234) rfl rfl ?_
        refine Go.lload at_234 (q := 236) rfl rfl ?_
        refine Go.lcmp at_236 (q := 237) rfl ?_
        refine Go.lif_ne at_237 (q := 244) (q' := 240) (by decide) rfl rfl (fun c => absurd (by rw [c2_eq sa sb sa ha hb ha, if_pos rfl, if_neg (fun e => c30 e.symm)]) c) (fun _ => ?_)
        refine Go.iconst at_240 (q := 241) rfl (x := (1 : Int32)) (by decide) ?_
        refine Go.goto at_241 (q := 245) (by decide) rfl ?_
        refine Go.zreturn at_245 (by decide) (by decide) (by decide) ?_
        rfl
      · skip
        refine Go.lload at_208 (q := 210) rfl rfl ?_
        refine Go.goto at_210 (q := 214) (by decide) rfl ?_
        refine Go.ladd at_214 (q := 215) rfl ?_
        refine Go.lstore at_215 (q := 217) rfl (Ls' := #[.val (.int a), .val (.int b), .val (.int c), .val (.int md), .val (.long g1), .second, .val (.long g2), .second, .val (.int sa), .val (.int u1), .val (.int sb), .val (.int u2), .val (.int sc), .val (.ref o), .val (.long (zeroC sc.toNatClampNeg)), .second, .val (.long ((c2 sa sb g1 g2) sc.toNatClampNeg)), .second, .val (.long ((c2 sa sb g1 g2) sa.toNatClampNeg)), .second, .val (.long (g1 + g2)), .second, .val (.long (g1 + g2)), .second]) rfl ?_
        refine Go.lload at_217 (q := 219) rfl rfl ?_
        refine Go.lconst at_219 (q := 220) rfl (x := (0 : Int64)) (by decide) ?_
        refine Go.lcmp at_220 (q := 221) rfl ?_
        refine Go.lif_ne at_221 (q := 244) (q' := 224) (by decide) rfl rfl (fun c => absurd rfl c) (fun _ => ?_)
        refine Go.lload at_224 (q := 226) rfl rfl ?_
        refine Go.lload at_226 (q := 228) rfl rfl ?_
        refine Go.lcmp at_228 (q := 229) rfl ?_
        refine Go.lif_ne at_229 (q := 244) (q' := 232) (by decide) rfl rfl (fun c => absurd (by rw [c2_eq sa sb sc ha hb hc, if_pos c6, if_pos c22]) c) (fun _ => ?_)
        refine Go.lload at_232 (q := 234) rfl rfl ?_
        refine Go.lload at_234 (q := 236) rfl rfl ?_
        refine Go.lcmp at_236 (q := 237) rfl ?_
        refine Go.lif_ne at_237 (q := 244) (q' := 240) (by decide) rfl rfl (fun c => absurd (by rw [c2_eq sa sb sa ha hb ha, if_pos rfl, if_pos c30.symm]) c) (fun _ => ?_)
        refine Go.iconst at_240 (q := 241) rfl (x := (1 : Int32)) (by decide) ?_
        refine Go.goto at_241 (q := 245) (by decide) rfl ?_
        refine Go.zreturn at_245 (by decide) (by decide) (by decide) ?_
        rfl
set_option maxRecDepth 65536 in
set_option maxHeartbeats 40000000 in
theorem j56 (l : Launch) (Z : State) (a0 : Array Value) (hw : Hw a0 Z) (n0 : Nat) (h : Heap) (O : Old Z n0 h) (a b c md u1 sb : Int32) (g1 g2 : Int64) (hb : RG sb) :
    Go l Z x code maxLocals ret room_1 n0 (fun v _ => v = some (.int 1)) h 0 0 56 #[.val (.int a), .val (.int b), .val (.int c), .val (.int md), .val (.long g1), .second, .val (.long g2), .second, .val (.int (a &&& (16383 : Int32))), .val (.int u1), .val (.int sb), .unset, .unset, .unset, .unset, .unset, .unset, .unset, .unset, .unset, .unset, .unset, .unset, .unset] [] := by
  refine Go.iloadN at_56 (q := 57) rfl rfl ?_
  refine Go.iconst at_57 (q := 58) rfl (x := (3 : Int32)) (by decide) ?_
  refine Go.iand at_58 (q := 59) rfl ?_
  refine Go.istore at_59 (q := 61) rfl (Ls' := #[.val (.int a), .val (.int b), .val (.int c), .val (.int md), .val (.long g1), .second, .val (.long g2), .second, .val (.int (a &&& (16383 : Int32))), .val (.int u1), .val (.int sb), .val (.int (md &&& (3 : Int32))), .unset, .unset, .unset, .unset, .unset, .unset, .unset, .unset, .unset, .unset, .unset, .unset]) rfl ?_
  refine Go.iload at_61 (q := 63) rfl rfl ?_
  refine Go.if_ne at_63 (q := 73) (q' := 66) (by decide) rfl rfl (fun c37 => ?_) (fun c37 => ?_)
  · skip
    refine Go.iload at_73 (q := 75) rfl rfl ?_
    refine Go.iconst at_75 (q := 76) rfl (x := (1 : Int32)) (by decide) ?_
    refine Go.icmp_ne at_76 (q := 86) (q' := 79) (by decide) rfl rfl (fun c38 => ?_) (fun c38 => ?_)
    · skip
      refine Go.iload at_86 (q := 88) rfl rfl ?_
      refine Go.iconst at_88 (q := 89) rfl (x := (2 : Int32)) (by decide) ?_
      refine Go.icmp_ne at_89 (q := 109) (q' := 92) (by decide) rfl rfl (fun c39 => ?_) (fun c39 => ?_)
      · skip
        refine Go.iloadN at_109 (q := 110) rfl rfl ?_
        refine Go.sipush at_110 (q := 113) rfl (x := (16383 : Int32)) (by decide) ?_
        refine Go.iand at_113 (q := 114) rfl ?_
        refine Go.istore at_114 (q := 116) rfl (Ls' := #[.val (.int a), .val (.int b), .val (.int c), .val (.int md), .val (.long g1), .second, .val (.long g2), .second, .val (.int (a &&& (16383 : Int32))), .val (.int u1), .val (.int sb), .val (.int (md &&& (3 : Int32))), .val (.int (c &&& (16383 : Int32))), .unset, .unset, .unset, .unset, .unset, .unset, .unset, .unset, .unset, .unset, .unset]) rfl ?_
        exact j116 l Z a0 hw n0 h O _ _ _ _ _ _ _ _ _ _ _ (rg_mask _) hb (rg_mask _)
      · skip
        refine Go.iload at_92 (q := 94) rfl rfl ?_
        refine Go.sipush at_94 (q := 97) rfl (x := ((-256) : Int32)) (by decide) ?_
        refine Go.iand at_97 (q := 98) rfl ?_
        refine Go.iloadN at_98 (q := 99) rfl rfl ?_
        refine Go.sipush at_99 (q := 102) rfl (x := (255 : Int32)) (by decide) ?_
        refine Go.iand at_102 (q := 103) rfl ?_
        refine Go.ior at_103 (q := 104) rfl ?_
        refine Go.istore at_104 (q := 106) rfl (Ls' := #[.val (.int a), .val (.int b), .val (.int c), .val (.int md), .val (.long g1), .second, .val (.long g2), .second, .val (.int (a &&& (16383 : Int32))), .val (.int u1), .val (.int sb), .val (.int (md &&& (3 : Int32))), .val (.int (((a &&& (16383 : Int32)) &&& ((-256) : Int32)) ||| (c &&& (255 : Int32)))), .unset, .unset, .unset, .unset, .unset, .unset, .unset, .unset, .unset, .unset, .unset]) rfl ?_
        refine Go.goto at_106 (q := 116) (by decide) rfl ?_
        exact j116 l Z a0 hw n0 h O _ _ _ _ _ _ _ _ _ _ _ (rg_mask _) hb (rg_mix _ _)
    · skip
      refine Go.iload at_79 (q := 81) rfl rfl ?_
      refine Go.istore at_81 (q := 83) rfl (Ls' := #[.val (.int a), .val (.int b), .val (.int c), .val (.int md), .val (.long g1), .second, .val (.long g2), .second, .val (.int (a &&& (16383 : Int32))), .val (.int u1), .val (.int sb), .val (.int (md &&& (3 : Int32))), .val (.int sb), .unset, .unset, .unset, .unset, .unset, .unset, .unset, .unset, .unset, .unset, .unset]) rfl ?_
      refine Go.goto at_83 (q := 116) (by decide) rfl ?_
      exact j116 l Z a0 hw n0 h O _ _ _ _ _ _ _ _ _ _ _ (rg_mask _) hb hb
  · skip
    refine Go.iload at_66 (q := 68) rfl rfl ?_
    refine Go.istore at_68 (q := 70) rfl (Ls' := #[.val (.int a), .val (.int b), .val (.int c), .val (.int md), .val (.long g1), .second, .val (.long g2), .second, .val (.int (a &&& (16383 : Int32))), .val (.int u1), .val (.int sb), .val (.int (md &&& (3 : Int32))), .val (.int (a &&& (16383 : Int32))), .unset, .unset, .unset, .unset, .unset, .unset, .unset, .unset, .unset, .unset, .unset]) rfl ?_
    refine Go.goto at_70 (q := 116) (by decide) rfl ?_
    exact j116 l Z a0 hw n0 h O _ _ _ _ _ _ _ _ _ _ _ (rg_mask _) hb (rg_mask _)
set_option maxRecDepth 65536 in
set_option maxHeartbeats 40000000 in
theorem b0 (l : Launch) (Z : State) (a0 : Array Value) (hw : Hw a0 Z) (n0 : Nat) (h : Heap) (O : Old Z n0 h) (a b c md : Int32) (g1 g2 : Int64) :
    Go l Z x code maxLocals ret room_1 n0 (fun v _ => v = some (.int 1)) h 0 0 0 #[.val (.int a), .val (.int b), .val (.int c), .val (.int md), .val (.long g1), .second, .val (.long g2), .second, .unset, .unset, .unset, .unset, .unset, .unset, .unset, .unset, .unset, .unset, .unset, .unset, .unset, .unset, .unset, .unset] [] := by
  refine Go.iloadN at_0 (q := 1) rfl rfl ?_
  refine Go.sipush at_1 (q := 4) rfl (x := (16383 : Int32)) (by decide) ?_
  refine Go.iand at_4 (q := 5) rfl ?_
  refine Go.istore at_5 (q := 7) rfl (Ls' := #[.val (.int a), .val (.int b), .val (.int c), .val (.int md), .val (.long g1), .second, .val (.long g2), .second, .val (.int (a &&& (16383 : Int32))), .unset, .unset, .unset, .unset, .unset, .unset, .unset, .unset, .unset, .unset, .unset, .unset, .unset, .unset, .unset]) rfl ?_
  refine Go.iloadN at_7 (q := 8) rfl rfl ?_
  refine Go.iconst at_8 (q := 9) rfl (x := (2 : Int32)) (by decide) ?_
  refine Go.iushr at_9 (q := 10) rfl ?_
  refine Go.iconst at_10 (q := 11) rfl (x := (3 : Int32)) (by decide) ?_
  refine Go.iand at_11 (q := 12) rfl ?_
  refine Go.istore at_12 (q := 14) rfl (Ls' := #[.val (.int a), .val (.int b), .val (.int c), .val (.int md), .val (.long g1), .second, .val (.long g2), .second, .val (.int (a &&& (16383 : Int32))), .val (.int ((XT.ushr md (2 : Int32)) &&& (3 : Int32))), .unset, .unset, .unset, .unset, .unset, .unset, .unset, .unset, .unset, .unset, .unset, .unset, .unset, .unset]) rfl ?_
  refine Go.iload at_14 (q := 16) rfl rfl ?_
  refine Go.if_ne at_16 (q := 26) (q' := 19) (by decide) rfl rfl (fun c40 => ?_) (fun c40 => ?_)
  · skip
    refine Go.iload at_26 (q := 28) rfl rfl ?_
    refine Go.iconst at_28 (q := 29) rfl (x := (1 : Int32)) (by decide) ?_
    refine Go.icmp_ne at_29 (q := 49) (q' := 32) (by decide) rfl rfl (fun c41 => ?_) (fun c41 => ?_)
    · skip
      refine Go.iloadN at_49 (q := 50) rfl rfl ?_
      refine Go.sipush at_50 (q := 53) rfl (x := (16383 : Int32)) (by decide) ?_
      refine Go.iand at_53 (q := 54) rfl ?_
      refine Go.istore at_54 (q := 56) rfl (Ls' := #[.val (.int a), .val (.int b), .val (.int c), .val (.int md), .val (.long g1), .second, .val (.long g2), .second, .val (.int (a &&& (16383 : Int32))), .val (.int ((XT.ushr md (2 : Int32)) &&& (3 : Int32))), .val (.int (b &&& (16383 : Int32))), .unset, .unset, .unset, .unset, .unset, .unset, .unset, .unset, .unset, .unset, .unset, .unset, .unset]) rfl ?_
      exact j56 l Z a0 hw n0 h O _ _ _ _ _ _ _ _ (rg_mask _)
    · skip
      refine Go.iload at_32 (q := 34) rfl rfl ?_
      refine Go.sipush at_34 (q := 37) rfl (x := ((-256) : Int32)) (by decide) ?_
      refine Go.iand at_37 (q := 38) rfl ?_
      refine Go.iloadN at_38 (q := 39) rfl rfl ?_
      refine Go.sipush at_39 (q := 42) rfl (x := (255 : Int32)) (by decide) ?_
      refine Go.iand at_42 (q := 43) rfl ?_
      refine Go.ior at_43 (q := 44) rfl ?_
      refine Go.istore at_44 (q := 46) rfl (Ls' := #[.val (.int a), .val (.int b), .val (.int c), .val (.int md), .val (.long g1), .second, .val (.long g2), .second, .val (.int (a &&& (16383 : Int32))), .val (.int ((XT.ushr md (2 : Int32)) &&& (3 : Int32))), .val (.int (((a &&& (16383 : Int32)) &&& ((-256) : Int32)) ||| (b &&& (255 : Int32)))), .unset, .unset, .unset, .unset, .unset, .unset, .unset, .unset, .unset, .unset, .unset, .unset, .unset]) rfl ?_
      refine Go.goto at_46 (q := 56) (by decide) rfl ?_
      exact j56 l Z a0 hw n0 h O _ _ _ _ _ _ _ _ (rg_mix _ _)
  · skip
    refine Go.iload at_19 (q := 21) rfl rfl ?_
    refine Go.istore at_21 (q := 23) rfl (Ls' := #[.val (.int a), .val (.int b), .val (.int c), .val (.int md), .val (.long g1), .second, .val (.long g2), .second, .val (.int (a &&& (16383 : Int32))), .val (.int ((XT.ushr md (2 : Int32)) &&& (3 : Int32))), .val (.int (a &&& (16383 : Int32))), .unset, .unset, .unset, .unset, .unset, .unset, .unset, .unset, .unset, .unset, .unset, .unset, .unset]) rfl ?_
    refine Go.goto at_23 (q := 56) (by decide) rfl ?_
    exact j56 l Z a0 hw n0 h O _ _ _ _ _ _ _ _ (rg_mask _)
set_option maxRecDepth 65536 in
set_option maxHeartbeats 40000000 in
theorem comes_1 {Post : Tables → Env → Array Value → State → Outcome → State → Prop} (hpost : ∀ tb e args s v u, (limb_1_1.after args s (.returned v) u = true ∧ limb_1_2.after args s (.returned v) u = true ∧ True) → FrameEnd s (.returned v) u (Jvm.fieldLocs frame_1_writes args s ++ Jvm.arrayLocs frame_1_arrays args s ++ Jvm.staticLocs frame_1_statics s) 24 1792 → Post tb e args s (.returned v) u) :
    ArmFor flags0 classFile x code maxLocals ret World_1 tables_1 room_1 Calls_1 rest_1 Pre_1 Post := by
  intro l hfl _ _ p e ha hc hk s m args below hf hA hF happ hP
  obtain ⟨hcalls, hrest, hpre⟩ := hP
  obtain ⟨-, -, -, hnamed, -, -, -, hat⟩ := (Spec.applies_iff hf).mp happ
  obtain ⟨hg, hn⟩ := and_e (Jvm.Cond.before_iff.mp (show (Jvm.Cond.and given_1 narrow_1).before args s = true from hpre))
  obtain ⟨g0, hg⟩ := and_e hg
  obtain ⟨g1, hg⟩ := and_e hg
  obtain ⟨g2, hg⟩ := and_e hg
  obtain ⟨g3, hg⟩ := and_e hg
  obtain ⟨g4, hg⟩ := and_e hg
  obtain ⟨g5, hg⟩ := and_e hg
  have g6 := hg
  obtain ⟨v0, v1, v2, v3, v4, v5, rfl⟩ : ∃ v0 v1 v2 v3 v4 v5 : Value, args = #[v0, v1, v2, v3, v4, v5] := by
    have hs : args.size = 6 := by simpa [Jvm.Cond.value, given_1] using g0
    obtain ⟨L⟩ := args
    match L, hs with
    | [v0, v1, v2, v3, v4, v5], _ => exact ⟨v0, v1, v2, v3, v4, v5, rfl⟩
  have hw : Hw _ s := fun d (hd : d ∈ tables_1) => atoms_spec (ws := Jvm.Cond.code x code maxLocals ret :: tables_1) hat d (List.mem_cons_of_mem _ hd)
  have hfit : Fit s := fun {y c} hc i hi => by
    obtain ⟨ha, rfl⟩ := Array.getElem?_eq_some_iff.mp hc
    have q := List.all_eq_true.mp ((Array.all_eq_true_iff_forall_mem.mp hF) _ (Array.getElem_mem ha)) i (List.mem_range.mpr hi)
    simpa [Array.getElem?_eq_getElem hi] using q
  obtain ⟨x0, e0⟩ := is_v g1
  obtain rfl : v0 = (.int x0) := Option.some.inj e0
  obtain ⟨x1, e1⟩ := is_v g2
  obtain rfl : v1 = (.int x1) := Option.some.inj e1
  obtain ⟨x2, e2⟩ := is_v g3
  obtain rfl : v2 = (.int x2) := Option.some.inj e2
  obtain ⟨x3, e3⟩ := is_v g4
  obtain rfl : v3 = (.int x3) := Option.some.inj e3
  obtain ⟨x4, e4⟩ := isL_v g5
  obtain rfl : v4 = (.long x4) := Option.some.inj e4
  obtain ⟨x5, e5⟩ := isL_v g6
  obtain rfl : v5 = (.long x5) := Option.some.inj e5
  have G := b0 l s _ hw s.heap.size s.heap (Old.start s) x0 x1 x2 x3 x4 x5 
  obtain ⟨n, o, h1, h2, h3, _, L, rfl, ⟨N, rfl⟩, hq⟩ := (G.met pn0 (fun m => by simp [entryFrame, mkF, argsToLocals, Value.category, maxLocals]) tables_1) p e ha hc hk s m _ below hf ((Spec.applies_iff_loose hf).mp happ).1 ⟨rfl, State.Warmed39.refl s, rfl⟩ trivial
  refine ⟨n, _, h1, h2, h3, hpost _ _ _ _ _ _ ⟨Jvm.Cond.after_iff.mpr rfl, Jvm.Cond.after_iff.mpr (eq_i res_at (Term.int_eval (1)) rfl), trivial⟩ ⟨hq.1, hq.2.1, (hq.2.2.sift fun y hy => Or.inr (N y hy)).mono (by decide) (by decide)⟩⟩
theorem main_1_1 : Claimed_1_1 := comes_1 fun _ _ _ _ _ _ h hF => ⟨h.1, hF⟩
theorem main_1_2 : Claimed_1_2 := comes_1 fun _ _ _ _ _ _ h hF => ⟨h.2.1, hF⟩
end Jvm.Pilot.@@N@@
namespace Jvm.Pilot.@@N@@
open Jvm Jvm.ClassFile Sem Op Lib Jvm.Free Jvm.Stand Jvm.Pilot.@@N@@.Jvm.D
/-! MADE BY PROGRAM (witnessworld.py) out of the Statement's table words and the real class files: 11 classes; the members and pool entries that the words name. The judged class is class 1, her method 1. -/
namespace start1
open Jvm.ClassFile
def u (s : String) : CpInfo := .utf8 (stringToUtf16 s)
/-- a pool by its gaps: so many unusable entries, then the entry; so many at the end -/
def gap : Nat → List CpInfo → List CpInfo
  | 0, r => r
  | n + 1, r => .unusable :: gap n r
def poolList (es : List (Nat × CpInfo)) (last : Nat) : List CpInfo := es.foldr (fun e r => gap e.1 (e.2 :: r)) (gap last [])
def pool (es : List (Nat × CpInfo)) (last : Nat) : Array CpInfo := ⟨poolList es last⟩
def fileOf (pool : Array CpInfo) (this : Nat) (attrs : Array Attribute := #[]) (ms : Array MethodInfo := #[]) (fl : Nat := 33) (sup : Nat := 0) (ifs : Array Nat := #[]) (fds : Array FieldInfo := #[]) : ClassFile where
  minorVersion := 0
  majorVersion := 65
  constantPool := pool
  accessFlags := fl
  thisClass := this
  superClass := sup
  interfaces := ifs
  fields := fds
  methods := ms
  attributes := attrs
def plain (name : String) (sup : Option ClassId) : Class where
  name := name
  kind := .ordinary
  loader := none
  accessFlags := 33
  super := sup
  interfaces := #[]
  cf := none
  fields := #[]
  methods := #[]
  instanceTypes := #[]
  staticTypes := #[]
  resolved := #[]
  callSites := []
  init := .initialized
  statics := none
  mirror := none

def pool0 : Array CpInfo := pool [(5, u "<init>"), (0, u "()V"), (1, .class_ 10), (1, u "java/lang/Object")] 113

def k0c0 : Code := { maxStack := 0, maxLocals := 1, code := object_method_1_code, exceptionTable := #[], attributes := #[] }
def k0m0 : Method := { name := "<init>", desc := "()V", sig := { parameters := [], returnType := none }, accessFlags := 1, code := some k0c0 }
/-- java/lang/Object -/
def k0 : Class := { plain "java/lang/Object" none with
  accessFlags := 33
  interfaces := #[]
  cf := some (fileOf pool0 8 #[] #[{ accessFlags := 1, nameIndex := 5, descriptorIndex := 6, attributes := #[] }] 33 0 #[] #[])
  fields := #[]
  methods := #[k0m0]
  instanceTypes := #[]
  staticTypes := #[]
  resolved := Array.replicate 124 none
  statics := none }

def pool1 : Array CpInfo := pool [(2, .class_ 4), (0, .nameAndType 5 6), (0, u "java/lang/Object"), (0, u "<init>"), (0, u "()V"), (0, .class_ 8), (0, u "slotwise/storage/SlotKeyCounts"), (0, .methodref 7 3), (0, .methodref 7 11), (0, .nameAndType 12 13), (0, u "of"), (0, u "(I)J"), (0, .methodref 7 15), (0, .nameAndType 16 17), (0, u "add"), (0, u "(IJ)V"), (0, .class_ 19), (0, u "slotwise/storage/SlotKeyCountsOfPinLaw"), (2, u "law"), (0, u "(IIIIJJ)Z")] 3

def k1m0 : Method := { name := "<init>", desc := "()V", sig := { parameters := [], returnType := none }, accessFlags := 2, code := none }
def k1c1 : Code := { maxStack := 4, maxLocals := 24, code := code, exceptionTable := #[], attributes := #[] }
def k1m1 : Method := { name := "law", desc := "(IIIIJJ)Z", sig := { parameters := [.int, .int, .int, .int, .long, .long], returnType := some .boolean }, accessFlags := 9, code := some k1c1 }
/-- slotwise/storage/SlotKeyCountsOfPinLaw -/
def k1 : Class := { plain "slotwise/storage/SlotKeyCountsOfPinLaw" (some 0) with
  accessFlags := 49
  interfaces := #[]
  cf := some (fileOf pool1 18 #[] #[{ accessFlags := 2, nameIndex := 5, descriptorIndex := 6, attributes := #[] }, { accessFlags := 9, nameIndex := 22, descriptorIndex := 23, attributes := #[] }] 49 2 #[] #[])
  fields := #[]
  methods := #[k1m0, k1m1]
  instanceTypes := #[]
  staticTypes := #[]
  resolved := Array.replicate 27 none
  statics := none }

def pool2 : Array CpInfo := pool [(1, .methodref 2 3), (0, .class_ 4), (0, .nameAndType 5 6), (0, u "java/lang/Object"), (0, u "<init>"), (0, u "()V"), (2, .class_ 10), (0, u "slotwise/storage/SlotKeyCounts"), (0, .class_ 12), (0, u "[J"), (0, .fieldref 9 14), (0, .nameAndType 15 16), (0, u "pages"), (0, u "[[J"), (2, .fieldref 9 20), (0, .nameAndType 21 12), (0, u "changed"), (0, .fieldref 9 23), (0, .nameAndType 24 25), (0, u "total"), (0, u "J"), (0, .fieldref 9 27), (0, .nameAndType 28 29), (0, u "changes"), (0, u "I"), (12, u "of"), (0, u "(I)J"), (45, u "add"), (0, u "(IJ)V"), (16, u "PAGE_SLOTS"), (2, u "MOST_WRITTEN_BYTES"), (1, u "LOW_BITS"), (0, u "MORE")] 34

def k2c0 : Code := { maxStack := 2, maxLocals := 1, code := prog_30_method_1_code, exceptionTable := #[], attributes := #[] }
def k2m0 : Method := { name := "<init>", desc := "()V", sig := { parameters := [], returnType := none }, accessFlags := 0, code := some k2c0 }
def k2c1 : Code := { maxStack := 3, maxLocals := 3, code := prog_30_method_2_code, exceptionTable := #[], attributes := #[] }
def k2m1 : Method := { name := "of", desc := "(I)J", sig := { parameters := [.int], returnType := some .long }, accessFlags := 0, code := some k2c1 }
def k2c2 : Code := { maxStack := 6, maxLocals := 7, code := prog_30_method_4_code, exceptionTable := #[], attributes := #[] }
def k2m2 : Method := { name := "add", desc := "(IJ)V", sig := { parameters := [.int, .long], returnType := none }, accessFlags := 0, code := some k2c2 }
/-- slotwise/storage/SlotKeyCounts -/
def k2 : Class := { plain "slotwise/storage/SlotKeyCounts" (some 0) with
  accessFlags := 48
  interfaces := #[]
  cf := some (fileOf pool2 9 #[] #[{ accessFlags := 0, nameIndex := 5, descriptorIndex := 6, attributes := #[] }, { accessFlags := 0, nameIndex := 42, descriptorIndex := 43, attributes := #[] }, { accessFlags := 0, nameIndex := 89, descriptorIndex := 90, attributes := #[] }] 48 2 #[] #[{ accessFlags := 26, nameIndex := 107, descriptorIndex := 29, attributes := #[] }, { accessFlags := 26, nameIndex := 110, descriptorIndex := 29, attributes := #[] }, { accessFlags := 26, nameIndex := 112, descriptorIndex := 25, attributes := #[] }, { accessFlags := 26, nameIndex := 113, descriptorIndex := 29, attributes := #[] }, { accessFlags := 18, nameIndex := 15, descriptorIndex := 16, attributes := #[] }, { accessFlags := 18, nameIndex := 21, descriptorIndex := 12, attributes := #[] }, { accessFlags := 2, nameIndex := 28, descriptorIndex := 29, attributes := #[] }, { accessFlags := 2, nameIndex := 24, descriptorIndex := 25, attributes := #[] }])
  fields := #[{ name := "PAGE_SLOTS", type := .int, accessFlags := 26, slot := 0, constantValue := 0 }, { name := "MOST_WRITTEN_BYTES", type := .int, accessFlags := 26, slot := 1, constantValue := 0 }, { name := "LOW_BITS", type := .long, accessFlags := 26, slot := 2, constantValue := 0 }, { name := "MORE", type := .int, accessFlags := 26, slot := 3, constantValue := 0 }, { name := "pages", type := (.array (.array .long)), accessFlags := 18, slot := 0, constantValue := 0 }, { name := "changed", type := (.array .long), accessFlags := 18, slot := 1, constantValue := 0 }, { name := "changes", type := .int, accessFlags := 2, slot := 2, constantValue := 0 }, { name := "total", type := .long, accessFlags := 2, slot := 3, constantValue := 0 }]
  methods := #[k2m0, k2m1, k2m2]
  instanceTypes := #[(.array (.array .long)), (.array .long), .int, .long]
  staticTypes := #[.int, .int, .long, .int]
  resolved := Array.replicate 148 none
  statics := none }

def pool3 : Array CpInfo := pool [(1, u "java/lang/Cloneable"), (0, .class_ 1), (0, u "java/lang/Object"), (0, .class_ 3)] 3

/-- java/lang/Cloneable -/
def k3 : Class := { plain "java/lang/Cloneable" (some 0) with
  accessFlags := 1537
  interfaces := #[]
  cf := some (fileOf pool3 2 #[] #[] 1537 4 #[] #[])
  fields := #[]
  methods := #[]
  instanceTypes := #[]
  staticTypes := #[]
  resolved := Array.replicate 8 none
  statics := none }

def pool4 : Array CpInfo := pool [(1, u "java/io/Serializable"), (0, .class_ 1), (0, u "java/lang/Object"), (0, .class_ 3)] 3

/-- java/io/Serializable -/
def k4 : Class := { plain "java/io/Serializable" (some 0) with
  accessFlags := 1537
  interfaces := #[]
  cf := some (fileOf pool4 2 #[] #[] 1537 4 #[] #[])
  fields := #[]
  methods := #[]
  instanceTypes := #[]
  staticTypes := #[]
  resolved := Array.replicate 8 none
  statics := none }

/-- the primitive byte -/
def k5 : Class := { plain "byte" none with kind := .primitive 'B', accessFlags := 0x411 }
/-- [B -/
def k6 : Class := { plain "[B" (some 0) with kind := .array 5 .byte, interfaces := #[3, 4], accessFlags := 1041 }

/-- the primitive int -/
def k7 : Class := { plain "int" none with kind := .primitive 'I', accessFlags := 0x411 }
/-- [I -/
def k8 : Class := { plain "[I" (some 0) with kind := .array 7 .int, interfaces := #[3, 4], accessFlags := 1041 }

/-- the primitive long -/
def k9 : Class := { plain "long" none with kind := .primitive 'J', accessFlags := 0x411 }
/-- [J -/
def k10 : Class := { plain "[J" (some 0) with kind := .array 9 .long, interfaces := #[3, 4], accessFlags := 1041 }

def heap : Heap := #[]
def k11 : Class := { plain "[[J" (some 0) with kind := .array 10 (.array .long), interfaces := #[3, 4], accessFlags := 1041 }
def classes : Array Class := #[k0, k1, k2, k3, k4, k5, k6, k7, k8, k9, k10, k11]
def interned : List (Array UInt16 × Addr) := []
def slotsUsed : Nat := 0
def theMethod : MethodId := ⟨1, 1⟩
def args0 : Array Value := #[.int 5, .int 3, .int 7, .int 1, .long 4, .long 9]
def aboutOver (below : List Frame) : State where
  vm := { classes := classes, interned := interned.toArray }
  heap := heap
  slotsUsed := slotsUsed
  threads := #[{ frames := .invoking theMethod args0 :: below }]
def below0 : List Frame := [.native { method := ⟨0, 0⟩, args := #[] }]
def about1 : State := aboutOver below0
def p0 : Program := .bare "" "" ""
def e0 : Env := launch0.env 0 0 0
theorem w_frames : about1.frames = Frame.invoking theMethod args0 :: below0 := rfl
set_option maxRecDepth 65536 in
theorem w_args : argsFit about1.vm theMethod args0 = true := by decide +kernel
set_option maxRecDepth 65536 in
theorem w_heap : heapFits about1 = true := by decide +kernel
set_option maxRecDepth 65536 in
theorem w_runnable : about1.curStatus? = some .runnable := by decide +kernel
set_option maxRecDepth 65536 in
theorem w_alone : about1.alone = true := by decide +kernel
set_option maxRecDepth 65536 in
theorem w_named : about1.methodNamed? x = some theMethod := by decide +kernel
set_option maxRecDepth 65536 in
theorem w_hears : about1.hears theMethod below0 = true := by decide +kernel
set_option maxRecDepth 65536 in
theorem w_ripe : about1.ripe theMethod args0 below0 = true := by decide +kernel
theorem w_running : about1.status = .running := rfl
set_option maxRecDepth 65536 in
theorem w_room : about1.hasRoom e0.platform room_1 = true :=
  launch0.hasRoom_least _ room_1 (by decide +kernel) (by decide +kernel) (by decide +kernel) (by decide +kernel) (by decide +kernel) (by decide +kernel)
theorem allAtoms_all (ts : List Jvm.Cond) (a : Array Jvm.Value) (st : Jvm.State) : (allAtoms ts).before a st = ts.all (fun c => c.before a st) := by
  induction ts with
  | nil => rfl
  | cons c t ih =>
    show (Jvm.Cond.and c (allAtoms t)).before a st = _
    rw [Jvm.Cond.before_and, ih, List.all_cons]
def words1 : List Jvm.Cond := Jvm.Cond.code x code maxLocals ret :: tables_1
/-- a 'code' word, met by the world's own term for the bytes: nothing is compared byte by byte -/
theorem code_word {y : MethodName} {bytes : ByteArray} {mx : Nat} {rt : Option FieldType} {a : Array Value} {s : State} {m : MethodId} {meth : Method} {c : Code} (h1 : s.methodNamed? y = some m) (h2 : s.vm.method? m = some meth) (h3 : meth.code = some c) (h4 : c.code = bytes)
    (h5 : (c.maxLocals == mx && c.exceptionTable.isEmpty && decide (c.maxStack ≤ mostOperands) && decide (meth.sig.returnType = rt) && !meth.locks && decide (parseMethodDescriptor y.desc = some meth.sig)) = true) : (Jvm.Cond.code y bytes mx rt).before a s = true := by
  simp only [Bool.and_eq_true, beq_iff_eq, Bool.not_eq_true', decide_eq_true_eq] at h5
  obtain ⟨⟨⟨⟨⟨g1, g2⟩, g3⟩, g4⟩, g5⟩, g6⟩ := h5
  simp [Cond.before, Cond.holds, Cond.value, h1, h2, h3, h4, g1, g2, g3, g4, g5, g6]
def isCode : Jvm.Cond → Bool
  | .code _ _ _ _ => true
  | _ => false
theorem all_split {L : List Jvm.Cond} {P : Jvm.Cond → Bool} (h1 : L.all (fun c => isCode c || P c) = true) (h2 : ∀ c ∈ L.filter isCode, P c = true) : L.all P = true := by
  refine List.all_eq_true.mpr fun c hc => ?_
  have h := List.all_eq_true.mp h1 c hc
  rcases Bool.eq_false_or_eq_true (isCode c) with hi | hi
  · exact h2 c (List.mem_filter.mpr ⟨hc, hi⟩)
  · simpa [hi] using h
set_option maxRecDepth 65536 in
theorem w_c0 : (Jvm.Cond.code x code maxLocals ret).before args0 about1 = true := code_word (m := ⟨1, 1⟩) (meth := k1m1) (c := k1c1) (by decide +kernel) rfl rfl rfl (by decide +kernel)
set_option maxRecDepth 65536 in
theorem w_c1 : (Jvm.Cond.code ({ cls := "slotwise/storage/SlotKeyCounts", name := "<init>", desc := "()V" } : Jvm.MethodName) prog_30_method_1_code (1 : Nat) (Option.none : Option Jvm.ClassFile.FieldType)).before args0 about1 = true := code_word (m := ⟨2, 0⟩) (meth := k2m0) (c := k2c0) (by decide +kernel) rfl rfl rfl (by decide +kernel)
set_option maxRecDepth 65536 in
theorem w_c2 : (Jvm.Cond.code ({ cls := "java/lang/Object", name := "<init>", desc := "()V" } : Jvm.MethodName) object_method_1_code (1 : Nat) (Option.none : Option Jvm.ClassFile.FieldType)).before args0 about1 = true := code_word (m := ⟨0, 0⟩) (meth := k0m0) (c := k0c0) (by decide +kernel) rfl rfl rfl (by decide +kernel)
set_option maxRecDepth 65536 in
theorem w_c3 : (Jvm.Cond.code ({ cls := "slotwise/storage/SlotKeyCounts", name := "of", desc := "(I)J" } : Jvm.MethodName) prog_30_method_2_code (3 : Nat) (Option.some Jvm.ClassFile.FieldType.long)).before args0 about1 = true := code_word (m := ⟨2, 1⟩) (meth := k2m1) (c := k2c1) (by decide +kernel) rfl rfl rfl (by decide +kernel)
set_option maxRecDepth 65536 in
theorem w_c4 : (Jvm.Cond.code ({ cls := "slotwise/storage/SlotKeyCounts", name := "add", desc := "(IJ)V" } : Jvm.MethodName) prog_30_method_4_code (7 : Nat) (Option.none : Option Jvm.ClassFile.FieldType)).before args0 about1 = true := code_word (m := ⟨2, 2⟩) (meth := k2m2) (c := k2c2) (by decide +kernel) rfl rfl rfl (by decide +kernel)
def codes1 : List Jvm.Cond := [Jvm.Cond.code x code maxLocals ret, Jvm.Cond.code ({ cls := "slotwise/storage/SlotKeyCounts", name := "<init>", desc := "()V" } : Jvm.MethodName) prog_30_method_1_code (1 : Nat) (Option.none : Option Jvm.ClassFile.FieldType), Jvm.Cond.code ({ cls := "java/lang/Object", name := "<init>", desc := "()V" } : Jvm.MethodName) object_method_1_code (1 : Nat) (Option.none : Option Jvm.ClassFile.FieldType), Jvm.Cond.code ({ cls := "slotwise/storage/SlotKeyCounts", name := "of", desc := "(I)J" } : Jvm.MethodName) prog_30_method_2_code (3 : Nat) (Option.some Jvm.ClassFile.FieldType.long), Jvm.Cond.code ({ cls := "slotwise/storage/SlotKeyCounts", name := "add", desc := "(IJ)V" } : Jvm.MethodName) prog_30_method_4_code (7 : Nat) (Option.none : Option Jvm.ClassFile.FieldType)]
set_option maxRecDepth 65536 in
theorem codes_eq : words1.filter isCode = codes1 := rfl
theorem w_codes : ∀ c ∈ words1.filter isCode, c.before args0 about1 = true := by
  rw [codes_eq]
  intro c hc
  simp only [codes1, List.mem_cons, List.not_mem_nil, or_false] at hc
  rcases hc with rfl | rfl | rfl | rfl | rfl
  · exact w_c0
  · exact w_c1
  · exact w_c2
  · exact w_c3
  · exact w_c4
set_option maxRecDepth 65536 in
theorem w_t1 : (words1.take 24).all (fun c => isCode c || c.before args0 about1) = true := by decide +kernel
set_option maxRecDepth 65536 in
theorem w_t2 : (words1.drop 24).all (fun c => isCode c || c.before args0 about1) = true := by decide +kernel
theorem w_tables : (allAtoms (Jvm.Cond.code x code maxLocals ret :: tables_1)).before args0 about1 = true := by
  rw [allAtoms_all]
  show words1.all (fun c => c.before args0 about1) = true
  refine all_split ?_ w_codes
  rw [← List.take_append_drop 24 words1, List.all_append, w_t1, w_t2]
  rfl
set_option maxRecDepth 65536 in
theorem w_case : (Jvm.Cond.and given_1 narrow_1).before args0 about1 = true := by decide +kernel
theorem w_applies : (headSpec (Jvm.Cond.code x code maxLocals ret :: tables_1) room_1).applies x e0.platform about1 = true :=
  (Spec.applies_iff w_frames).mpr ⟨w_running, w_runnable, w_alone, w_named, w_hears, w_ripe, w_room, w_tables⟩
theorem atStart : AtStart classFile x code maxLocals ret World_1 tables_1 room_1 Calls_1 rest_1 Pre_1 launch0 p0 e0 about1 theMethod args0 below0 :=
  ⟨lists_1, trivial, launch0.admits_env _ _ _, launch0.least_env, fairChoices_fair.cas, fairChoices_fair.clock, w_frames, w_args, w_heap, w_applies, trivial, trivial, w_case⟩
end start1
theorem witness_1 : WitnessClaimed_1 := ⟨start1.p0, start1.e0, start1.about1, start1.theMethod, start1.args0, start1.below0, start1.atStart⟩
end Jvm.Pilot.@@N@@
