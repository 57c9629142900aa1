import JvmDerived
import JvmDerived.Pilot.@@N@@Statement
import JvmDerived.Pilot.@@N@@Code
set_option linter.unusedVariables false
set_option linter.unusedSimpArgs false
namespace Jvm.OwnKit
open Jvm Jvm.ClassFile Sem Op Lib Jvm.Free Jvm.Stand Jvm.LawKit Jvm.RoadKit
/-- the run from here ends in a return that answers Q, having written new cells alone -/
def Ends (p : Program) (e : Env) (below : List Frame) (s : State) (n0 : Nat) (Q : Option Value → Heap → Prop) (k n : Nat) (T : State) (g : JFrame) : Prop :=
  ∃ s₂ o, Steps p.tables e below (T.setTop g) s₂ ∧ s₂.status = .running ∧ Ended s₂ below o ∧ ∃ v L, o = .returned v ∧ (Fr n0 L ∧ Q v s₂.heap) ∧ FrameEnd s o s₂ L k n
theorem Ends.step {p : Program} {e : Env} {below : List Frame} {s : State} {n0 : Nat} {Q : Option Value → Heap → Prop} {k n : Nat} {T T' : State} {g g' : JFrame} (K : Ends p e below s n0 Q k n T' g') (f : ∀ t, Steps p.tables e below (T'.setTop g') t → Steps p.tables e below (T.setTop g) t) : Ends p e below s n0 Q k n T g := by
  obtain ⟨s2, o, h, r⟩ := K
  exact ⟨s2, o, f _ h, r⟩
/-- what is the same through a whole body -/
def Cx (Z : State) (mn : MethodName) (code : ByteArray) (maxL : Nat) (ret : Option FieldType) (p : Program) (s : State) (m : MethodId) (meth : Method) (c : Code) : Prop :=
  p.tables.exec = Jvm.exec ∧ Z.Warmed39 s.vm ∧ c.code = code ∧ c.maxLocals = maxL ∧ s.vm.findClass mn.cls = some m.cls ∧ meth.sig.returnType = ret ∧ meth.locks = false ∧ meth.name = mn.name
/-- from this pc, these locals and this stack, over the heap h, at most k cells and n slots made so far, the body ends as Q says -/
def Go (l : Launch) (Z : State) (mn : MethodName) (code : ByteArray) (maxL : Nat) (ret : Option FieldType) (R : Room) (n0 : Nat) (Q : Option Value → Heap → Prop) (h : Heap) (k n : Nat) (pc : Nat) (Ls : Array Slot) (st : List Value) : Prop :=
  ∀ (p : Program) (e : Env) (s : State) (m : MethodId) (args : Array Value) (below : List Frame) (meth : Method) (c : Code) (T : State) (locs : List Loc) (k' n' : Nat),
    Cx Z mn code maxL ret p s m meth c → Stand p l e R s m args below meth c T locs k' n' → k' ≤ k → n' ≤ n → Fr n0 locs → T.heap = h → Ends p e below s n0 Q R.cells R.slots T (mkF m pc Ls st)
/-- the answer of a body that returns a value | nothing -/
def RV (P : Value → Heap → Prop) : Option Value → Heap → Prop := fun v h => ∃ w, v = some w ∧ P w h
def RN (P : Heap → Prop) : Option Value → Heap → Prop := fun v h => v = none ∧ P h
section Laws
variable {l : Launch} {Z : State} {mn : MethodName} {code : ByteArray} {maxL : Nat} {ret : Option FieldType} {R : Room} {n0 : Nat} {Q : Option Value → Heap → Prop} {h : Heap} {k n pc q : Nat} {Ls Ls' : Array Slot} {st st' : List Value} {a0 : Array Value}
theorem Go.plain (K : Go l Z mn code maxL ret R n0 Q h k n q Ls' st') (f : ∀ (p : Program) (e : Env) (s : State) (m : MethodId) (args : Array Value) (below : List Frame) (meth : Method) (c : Code) (T : State) (locs : List Loc) (k' n' : Nat), p.tables.exec = Jvm.exec → c.code = code → Stand p l e R s m args below meth c T locs k' n' → ∀ t, Steps p.tables e below (T.setTop (mkF m q Ls' st')) t → Steps p.tables e below (T.setTop (mkF m pc Ls st)) t) : Go l Z mn code maxL ret R n0 Q h k n pc Ls st :=
  fun p e s m args below meth c T locs k' n' C X hk hn N eT => (K p e s m args below meth c T locs k' n' C X hk hn N eT).step (f p e s m args below meth c T locs k' n' C.1 C.2.2.1 X)
theorem Go.mono {k1 n1 : Nat} (K : Go l Z mn code maxL ret R n0 Q h k n pc Ls st) (h1 : k1 ≤ k) (h2 : n1 ≤ n) : Go l Z mn code maxL ret R n0 Q h k1 n1 pc Ls st :=
  fun p e s m args below meth c T locs k' n' C X hk hn N eT => K p e s m args below meth c T locs k' n' C X (Nat.le_trans hk h1) (Nat.le_trans hn h2) N eT
theorem Go.imp {Q' : Option Value → Heap → Prop} (K : Go l Z mn code maxL ret R n0 Q h k n pc Ls st) (f : ∀ v h, Q v h → Q' v h) : Go l Z mn code maxL ret R n0 Q' h k n pc Ls st :=
  fun p e s m args below meth c T locs k' n' C X hk hn N eT => by
    obtain ⟨s2, o, h1, h2, h3, v, L, h4, h5, h6⟩ := K p e s m args below meth c T locs k' n' C X hk hn N eT
    exact ⟨s2, o, h1, h2, h3, v, L, h4, ⟨h5.1, f _ _ h5.2⟩, h6⟩
theorem Go.met {as : Array Value} (pn : plainName mn.cls = true) (hef : ∀ m, entryFrame m as maxL = mkF m 0 Ls []) (G : Go l Z mn code maxL ret R n0 Q h 0 0 0 Ls []) (ws : List Jvm.Cond) :
    MetFree l mn (head1 (Jvm.Cond.code mn code maxL ret :: ws) R) (fun a U => a = as ∧ Z.Warmed39 U.vm ∧ U.heap = h) (fun _ _ _ _ _ => True) (fun _ U o U' => ∃ v L, o = .returned v ∧ (Fr n0 L ∧ Q v U'.heap) ∧ FrameEnd U o U' L R.cells R.slots) := by
  refine MetFree.of_bodySF (plainFor_of_name pn) hisR ?_
  intro p e s m args below meth c s₁ Bd hml0 hP hK
  obtain ⟨rfl, hZ, hh⟩ := hP
  have e0 : s₁.heap = h := by rw [← hh, Bd.state]; rfl
  rw [hef]
  exact G p e s m _ below meth c s₁ [] 0 0 ⟨Bd.exec, hZ, Bd.bytes, hml0, findClass_of_methodNamed Bd.named, Bd.returns, BodyLoose.notSynchronized Bd, (name_of_methodNamed Bd.named Bd.method).1⟩ (Stand.of_body Bd) (Nat.le_refl _) (Nat.le_refl _) (Fr.nil n0) e0

theorem Go.iloadN {i : Fin 4} {v : Int32} (hd : decode code pc = .ok (.iload_n i, 1)) (hq : q = pc + 1) (hl : Ls[i.val]? = some (.val (.int v))) (K : Go l Z mn code maxL ret R n0 Q h k n q Ls (.int v :: st)) : Go l Z mn code maxL ret R n0 Q h k n pc Ls (st) := by
  subst hq
  exact K.plain fun p e s m args below meth c T locs k' n' hx hby X t r => XS.iloadN X.here hx rfl (hb hby hd) hl r
theorem Go.iload {i : Nat} {v : Int32} (hd : decode code pc = .ok (.iload i, 2)) (hq : q = pc + 2) (hl : Ls[i]? = some (.val (.int v))) (K : Go l Z mn code maxL ret R n0 Q h k n q Ls (.int v :: st)) : Go l Z mn code maxL ret R n0 Q h k n pc Ls (st) := by
  subst hq
  exact K.plain fun p e s m args below meth c T locs k' n' hx hby X t r => XS.iload X.here hx rfl (hb hby hd) hl r
theorem Go.lloadN {i : Fin 4} {v : Int64} (hd : decode code pc = .ok (.lload_n i, 1)) (hq : q = pc + 1) (hl : Ls[i.val]? = some (.val (.long v))) (K : Go l Z mn code maxL ret R n0 Q h k n q Ls (.long v :: st)) : Go l Z mn code maxL ret R n0 Q h k n pc Ls (st) := by
  subst hq
  exact K.plain fun p e s m args below meth c T locs k' n' hx hby X t r => XT.lloadN X.here hx rfl (hb hby hd) hl r
theorem Go.lload {i : Nat} {v : Int64} (hd : decode code pc = .ok (.lload i, 2)) (hq : q = pc + 2) (hl : Ls[i]? = some (.val (.long v))) (K : Go l Z mn code maxL ret R n0 Q h k n q Ls (.long v :: st)) : Go l Z mn code maxL ret R n0 Q h k n pc Ls (st) := by
  subst hq
  exact K.plain fun p e s m args below meth c T locs k' n' hx hby X t r => XT.lload X.here hx rfl (hb hby hd) hl r
theorem Go.aloadN {i : Fin 4} {v : Value} (hd : decode code pc = .ok (.aload_n i, 1)) (hq : q = pc + 1) (hl : Ls[i.val]? = some (.val v)) (hv : v.isRef = true) (K : Go l Z mn code maxL ret R n0 Q h k n q Ls (v :: st)) : Go l Z mn code maxL ret R n0 Q h k n pc Ls (st) := by
  subst hq
  exact K.plain fun p e s m args below meth c T locs k' n' hx hby X t r => XS.aloadN X.here hx rfl (hb hby hd) hl hv r
theorem Go.aload {i : Nat} {v : Value} (hd : decode code pc = .ok (.aload i, 2)) (hq : q = pc + 2) (hl : Ls[i]? = some (.val v)) (hv : v.isRef = true) (K : Go l Z mn code maxL ret R n0 Q h k n q Ls (v :: st)) : Go l Z mn code maxL ret R n0 Q h k n pc Ls (st) := by
  subst hq
  exact K.plain fun p e s m args below meth c T locs k' n' hx hby X t r => XS.aload X.here hx rfl (hb hby hd) hl hv r
theorem Go.istoreN {i : Fin 4} {v : Int32} (hd : decode code pc = .ok (.istore_n i, 1)) (hq : q = pc + 1) (hl : storeLocals Ls i.val (.int v) = some Ls') (K : Go l Z mn code maxL ret R n0 Q h k n q Ls' (st)) : Go l Z mn code maxL ret R n0 Q h k n pc Ls (.int v :: st) := by
  subst hq
  exact K.plain fun p e s m args below meth c T locs k' n' hx hby X t r => XS.istoreN X.here hx rfl (hb hby hd) rfl hl r
theorem Go.istore {i : Nat} {v : Int32} (hd : decode code pc = .ok (.istore i, 2)) (hq : q = pc + 2) (hl : storeLocals Ls i (.int v) = some Ls') (K : Go l Z mn code maxL ret R n0 Q h k n q Ls' (st)) : Go l Z mn code maxL ret R n0 Q h k n pc Ls (.int v :: st) := by
  subst hq
  exact K.plain fun p e s m args below meth c T locs k' n' hx hby X t r => XS.istore X.here hx rfl (hb hby hd) rfl hl r
theorem Go.lstoreN {i : Fin 4} {v : Int64} (hd : decode code pc = .ok (.lstore_n i, 1)) (hq : q = pc + 1) (hl : storeLocals Ls i.val (.long v) = some Ls') (K : Go l Z mn code maxL ret R n0 Q h k n q Ls' (st)) : Go l Z mn code maxL ret R n0 Q h k n pc Ls (.long v :: st) := by
  subst hq
  exact K.plain fun p e s m args below meth c T locs k' n' hx hby X t r => XT.lstoreN X.here hx rfl (hb hby hd) rfl hl r
theorem Go.lstore {i : Nat} {v : Int64} (hd : decode code pc = .ok (.lstore i, 2)) (hq : q = pc + 2) (hl : storeLocals Ls i (.long v) = some Ls') (K : Go l Z mn code maxL ret R n0 Q h k n q Ls' (st)) : Go l Z mn code maxL ret R n0 Q h k n pc Ls (.long v :: st) := by
  subst hq
  exact K.plain fun p e s m args below meth c T locs k' n' hx hby X t r => XT.lstore X.here hx rfl (hb hby hd) rfl hl r
theorem Go.astoreN {i : Fin 4} {v : Value} (hd : decode code pc = .ok (.astore_n i, 1)) (hq : q = pc + 1) (hv : v.isRef = true) (hl : storeLocals Ls i.val v = some Ls') (K : Go l Z mn code maxL ret R n0 Q h k n q Ls' (st)) : Go l Z mn code maxL ret R n0 Q h k n pc Ls (v :: st) := by
  subst hq
  exact K.plain fun p e s m args below meth c T locs k' n' hx hby X t r => XS.astoreN X.here hx rfl (hb hby hd) rfl hv hl r
theorem Go.astore {i : Nat} {v : Value} (hd : decode code pc = .ok (.astore i, 2)) (hq : q = pc + 2) (hv : v.isRef = true) (hl : storeLocals Ls i v = some Ls') (K : Go l Z mn code maxL ret R n0 Q h k n q Ls' (st)) : Go l Z mn code maxL ret R n0 Q h k n pc Ls (v :: st) := by
  subst hq
  exact K.plain fun p e s m args below meth c T locs k' n' hx hby X t r => XS.astore X.here hx rfl (hb hby hd) rfl hv hl r
theorem Go.iconst {i : Int} {x : Int32} (hd : decode code pc = .ok (.iconst i, 1)) (hq : q = pc + 1) (hi : Int32.ofInt i = x) (K : Go l Z mn code maxL ret R n0 Q h k n q Ls (.int x :: st)) : Go l Z mn code maxL ret R n0 Q h k n pc Ls (st) := by
  subst hq
  exact K.plain fun p e s m args below meth c T locs k' n' hx hby X t r => XS.iconst X.here hx rfl (hb hby hd) (by rw [hi]; exact r)
theorem Go.bipush {i : Int} {x : Int32} (hd : decode code pc = .ok (.bipush i, 2)) (hq : q = pc + 2) (hi : (Int8.ofInt i).toInt32 = x) (K : Go l Z mn code maxL ret R n0 Q h k n q Ls (.int x :: st)) : Go l Z mn code maxL ret R n0 Q h k n pc Ls (st) := by
  subst hq
  exact K.plain fun p e s m args below meth c T locs k' n' hx hby X t r => XS.bipush X.here hx rfl (hb hby hd) (by rw [hi]; exact r)
theorem Go.sipush {i : Int} {x : Int32} (hd : decode code pc = .ok (.sipush i, 3)) (hq : q = pc + 3) (hi : (Int16.ofInt i).toInt32 = x) (K : Go l Z mn code maxL ret R n0 Q h k n q Ls (.int x :: st)) : Go l Z mn code maxL ret R n0 Q h k n pc Ls (st) := by
  subst hq
  exact K.plain fun p e s m args below meth c T locs k' n' hx hby X t r => XS.sipush X.here hx rfl (hb hby hd) (by rw [hi]; exact r)
theorem Go.lconst {i : Fin 2} {x : Int64} (hd : decode code pc = .ok (.lconst i, 1)) (hq : q = pc + 1) (hi : Int64.ofNat i = x) (K : Go l Z mn code maxL ret R n0 Q h k n q Ls (.long x :: st)) : Go l Z mn code maxL ret R n0 Q h k n pc Ls (st) := by
  subst hq
  exact K.plain fun p e s m args below meth c T locs k' n' hx hby X t r => XT.lconst X.here hx rfl (hb hby hd) (by rw [hi]; exact r)
theorem Go.aconstNull (hd : decode code pc = .ok (.aconst_null, 1)) (hq : q = pc + 1) (K : Go l Z mn code maxL ret R n0 Q h k n q Ls (.null :: st)) : Go l Z mn code maxL ret R n0 Q h k n pc Ls (st) := by
  subst hq
  exact K.plain fun p e s m args below meth c T locs k' n' hx hby X t r => XS.aconstNull X.here hx rfl (hb hby hd) r
theorem Go.iadd {x y : Int32} (hd : decode code pc = .ok (.iadd, 1)) (hq : q = pc + 1) (K : Go l Z mn code maxL ret R n0 Q h k n q Ls (.int (x + y) :: st)) : Go l Z mn code maxL ret R n0 Q h k n pc Ls (.int y :: .int x :: st) := by
  subst hq
  exact K.plain fun p e s m args below meth c T locs k' n' hx hby X t r => XS.iadd X.here hx rfl (hb hby hd) rfl r
theorem Go.isub {x y : Int32} (hd : decode code pc = .ok (.isub, 1)) (hq : q = pc + 1) (K : Go l Z mn code maxL ret R n0 Q h k n q Ls (.int (x - y) :: st)) : Go l Z mn code maxL ret R n0 Q h k n pc Ls (.int y :: .int x :: st) := by
  subst hq
  exact K.plain fun p e s m args below meth c T locs k' n' hx hby X t r => XS.isub X.here hx rfl (hb hby hd) rfl r
theorem Go.iand {x y : Int32} (hd : decode code pc = .ok (.iand, 1)) (hq : q = pc + 1) (K : Go l Z mn code maxL ret R n0 Q h k n q Ls (.int (x &&& y) :: st)) : Go l Z mn code maxL ret R n0 Q h k n pc Ls (.int y :: .int x :: st) := by
  subst hq
  exact K.plain fun p e s m args below meth c T locs k' n' hx hby X t r => XS.iand X.here hx rfl (hb hby hd) rfl r
theorem Go.imul {x y : Int32} (hd : decode code pc = .ok (.imul, 1)) (hq : q = pc + 1) (K : Go l Z mn code maxL ret R n0 Q h k n q Ls (.int (x * y) :: st)) : Go l Z mn code maxL ret R n0 Q h k n pc Ls (.int y :: .int x :: st) := by
  subst hq
  exact K.plain fun p e s m args below meth c T locs k' n' hx hby X t r => XS.imul X.here hx rfl (hb hby hd) rfl r
theorem Go.ixor {x y : Int32} (hd : decode code pc = .ok (.ixor, 1)) (hq : q = pc + 1) (K : Go l Z mn code maxL ret R n0 Q h k n q Ls (.int (x ^^^ y) :: st)) : Go l Z mn code maxL ret R n0 Q h k n pc Ls (.int y :: .int x :: st) := by
  subst hq
  exact K.plain fun p e s m args below meth c T locs k' n' hx hby X t r => XT.ixor X.here hx rfl (hb hby hd) rfl r
theorem Go.ior {x y : Int32} (hd : decode code pc = .ok (.ior, 1)) (hq : q = pc + 1) (K : Go l Z mn code maxL ret R n0 Q h k n q Ls (.int (x ||| y) :: st)) : Go l Z mn code maxL ret R n0 Q h k n pc Ls (.int y :: .int x :: st) := by
  subst hq
  exact K.plain fun p e s m args below meth c T locs k' n' hx hby X t r => XT.ior X.here hx rfl (hb hby hd) rfl r
theorem Go.ishl {x y : Int32} (hd : decode code pc = .ok (.ishl, 1)) (hq : q = pc + 1) (K : Go l Z mn code maxL ret R n0 Q h k n q Ls (.int (x <<< (y &&& 31)) :: st)) : Go l Z mn code maxL ret R n0 Q h k n pc Ls (.int y :: .int x :: st) := by
  subst hq
  exact K.plain fun p e s m args below meth c T locs k' n' hx hby X t r => XT.ishl X.here hx rfl (hb hby hd) rfl r
theorem Go.ishr {x y : Int32} (hd : decode code pc = .ok (.ishr, 1)) (hq : q = pc + 1) (K : Go l Z mn code maxL ret R n0 Q h k n q Ls (.int (x >>> (y &&& 31)) :: st)) : Go l Z mn code maxL ret R n0 Q h k n pc Ls (.int y :: .int x :: st) := by
  subst hq
  exact K.plain fun p e s m args below meth c T locs k' n' hx hby X t r => XT.ishr X.here hx rfl (hb hby hd) rfl r
theorem Go.iushr {x y : Int32} (hd : decode code pc = .ok (.iushr, 1)) (hq : q = pc + 1) (K : Go l Z mn code maxL ret R n0 Q h k n q Ls (.int (XT.ushr x y) :: st)) : Go l Z mn code maxL ret R n0 Q h k n pc Ls (.int y :: .int x :: st) := by
  subst hq
  exact K.plain fun p e s m args below meth c T locs k' n' hx hby X t r => XT.iushr X.here hx rfl (hb hby hd) rfl r
theorem Go.ladd {x y : Int64} (hd : decode code pc = .ok (.ladd, 1)) (hq : q = pc + 1) (K : Go l Z mn code maxL ret R n0 Q h k n q Ls (.long (x + y) :: st)) : Go l Z mn code maxL ret R n0 Q h k n pc Ls (.long y :: .long x :: st) := by
  subst hq
  exact K.plain fun p e s m args below meth c T locs k' n' hx hby X t r => XT.ladd X.here hx rfl (hb hby hd) rfl r
theorem Go.lsub {x y : Int64} (hd : decode code pc = .ok (.lsub, 1)) (hq : q = pc + 1) (K : Go l Z mn code maxL ret R n0 Q h k n q Ls (.long (x - y) :: st)) : Go l Z mn code maxL ret R n0 Q h k n pc Ls (.long y :: .long x :: st) := by
  subst hq
  exact K.plain fun p e s m args below meth c T locs k' n' hx hby X t r => XT.lsub X.here hx rfl (hb hby hd) rfl r
theorem Go.lmul {x y : Int64} (hd : decode code pc = .ok (.lmul, 1)) (hq : q = pc + 1) (K : Go l Z mn code maxL ret R n0 Q h k n q Ls (.long (x * y) :: st)) : Go l Z mn code maxL ret R n0 Q h k n pc Ls (.long y :: .long x :: st) := by
  subst hq
  exact K.plain fun p e s m args below meth c T locs k' n' hx hby X t r => XT.lmul X.here hx rfl (hb hby hd) rfl r
theorem Go.land {x y : Int64} (hd : decode code pc = .ok (.land, 1)) (hq : q = pc + 1) (K : Go l Z mn code maxL ret R n0 Q h k n q Ls (.long (x &&& y) :: st)) : Go l Z mn code maxL ret R n0 Q h k n pc Ls (.long y :: .long x :: st) := by
  subst hq
  exact K.plain fun p e s m args below meth c T locs k' n' hx hby X t r => XT.land X.here hx rfl (hb hby hd) rfl r
theorem Go.lor {x y : Int64} (hd : decode code pc = .ok (.lor, 1)) (hq : q = pc + 1) (K : Go l Z mn code maxL ret R n0 Q h k n q Ls (.long (x ||| y) :: st)) : Go l Z mn code maxL ret R n0 Q h k n pc Ls (.long y :: .long x :: st) := by
  subst hq
  exact K.plain fun p e s m args below meth c T locs k' n' hx hby X t r => XT.lor X.here hx rfl (hb hby hd) rfl r
theorem Go.lxor {x y : Int64} (hd : decode code pc = .ok (.lxor, 1)) (hq : q = pc + 1) (K : Go l Z mn code maxL ret R n0 Q h k n q Ls (.long (x ^^^ y) :: st)) : Go l Z mn code maxL ret R n0 Q h k n pc Ls (.long y :: .long x :: st) := by
  subst hq
  exact K.plain fun p e s m args below meth c T locs k' n' hx hby X t r => XT.lxor X.here hx rfl (hb hby hd) rfl r
theorem Go.lshl {x : Int64} {y : Int32} (hd : decode code pc = .ok (.lshl, 1)) (hq : q = pc + 1) (K : Go l Z mn code maxL ret R n0 Q h k n q Ls (.long (x <<< (y.toInt64 &&& 63)) :: st)) : Go l Z mn code maxL ret R n0 Q h k n pc Ls (.int y :: .long x :: st) := by
  subst hq
  exact K.plain fun p e s m args below meth c T locs k' n' hx hby X t r => XT.lshl X.here hx rfl (hb hby hd) rfl r
theorem Go.lshr {x : Int64} {y : Int32} (hd : decode code pc = .ok (.lshr, 1)) (hq : q = pc + 1) (K : Go l Z mn code maxL ret R n0 Q h k n q Ls (.long (x >>> (y.toInt64 &&& 63)) :: st)) : Go l Z mn code maxL ret R n0 Q h k n pc Ls (.int y :: .long x :: st) := by
  subst hq
  exact K.plain fun p e s m args below meth c T locs k' n' hx hby X t r => XT.lshr X.here hx rfl (hb hby hd) rfl r
theorem Go.lushr {x : Int64} {y : Int32} (hd : decode code pc = .ok (.lushr, 1)) (hq : q = pc + 1) (K : Go l Z mn code maxL ret R n0 Q h k n q Ls (.long (XT.ushrL x y) :: st)) : Go l Z mn code maxL ret R n0 Q h k n pc Ls (.int y :: .long x :: st) := by
  subst hq
  exact K.plain fun p e s m args below meth c T locs k' n' hx hby X t r => XT.lushr X.here hx rfl (hb hby hd) rfl r
theorem Go.idiv {x y : Int32} (hd : decode code pc = .ok (.idiv, 1)) (hq : q = pc + 1) (hy : y ≠ 0) (K : Go l Z mn code maxL ret R n0 Q h k n q Ls (.int (x / y) :: st)) : Go l Z mn code maxL ret R n0 Q h k n pc Ls (.int y :: .int x :: st) := by
  subst hq
  exact K.plain fun p e s m args below meth c T locs k' n' hx hby X t r => XS.idiv X.here hx rfl (hb hby hd) rfl hy r
theorem Go.irem {x y : Int32} (hd : decode code pc = .ok (.irem, 1)) (hq : q = pc + 1) (hy : y ≠ 0) (K : Go l Z mn code maxL ret R n0 Q h k n q Ls (.int (x % y) :: st)) : Go l Z mn code maxL ret R n0 Q h k n pc Ls (.int y :: .int x :: st) := by
  subst hq
  exact K.plain fun p e s m args below meth c T locs k' n' hx hby X t r => XS.irem X.here hx rfl (hb hby hd) rfl hy (by rw [irem_eq_mod]; exact r)
theorem Go.lrem {x y : Int64} (hd : decode code pc = .ok (.lrem, 1)) (hq : q = pc + 1) (hy : y ≠ 0) (K : Go l Z mn code maxL ret R n0 Q h k n q Ls (.long (x % y) :: st)) : Go l Z mn code maxL ret R n0 Q h k n pc Ls (.long y :: .long x :: st) := by
  subst hq
  exact K.plain fun p e s m args below meth c T locs k' n' hx hby X t r => XT.lrem X.here hx rfl (hb hby hd) rfl hy (by rw [lrem_mod]; exact r)
theorem Go.ineg {x : Int32} (hd : decode code pc = .ok (.ineg, 1)) (hq : q = pc + 1) (K : Go l Z mn code maxL ret R n0 Q h k n q Ls (.int (-x) :: st)) : Go l Z mn code maxL ret R n0 Q h k n pc Ls (.int x :: st) := by
  subst hq
  exact K.plain fun p e s m args below meth c T locs k' n' hx hby X t r => XS.ineg X.here hx rfl (hb hby hd) rfl r
theorem Go.lneg {x : Int64} (hd : decode code pc = .ok (.lneg, 1)) (hq : q = pc + 1) (K : Go l Z mn code maxL ret R n0 Q h k n q Ls (.long (-x) :: st)) : Go l Z mn code maxL ret R n0 Q h k n pc Ls (.long x :: st) := by
  subst hq
  exact K.plain fun p e s m args below meth c T locs k' n' hx hby X t r => XT.lneg X.here hx rfl (hb hby hd) rfl r
theorem Go.i2l {x : Int32} (hd : decode code pc = .ok (.i2l, 1)) (hq : q = pc + 1) (K : Go l Z mn code maxL ret R n0 Q h k n q Ls (.long x.toInt64 :: st)) : Go l Z mn code maxL ret R n0 Q h k n pc Ls (.int x :: st) := by
  subst hq
  exact K.plain fun p e s m args below meth c T locs k' n' hx hby X t r => XT.i2l X.here hx rfl (hb hby hd) rfl r
theorem Go.l2i {x : Int64} (hd : decode code pc = .ok (.l2i, 1)) (hq : q = pc + 1) (K : Go l Z mn code maxL ret R n0 Q h k n q Ls (.int x.toInt32 :: st)) : Go l Z mn code maxL ret R n0 Q h k n pc Ls (.long x :: st) := by
  subst hq
  exact K.plain fun p e s m args below meth c T locs k' n' hx hby X t r => XT.l2i X.here hx rfl (hb hby hd) rfl r
theorem Go.i2b {x : Int32} (hd : decode code pc = .ok (.i2b, 1)) (hq : q = pc + 1) (K : Go l Z mn code maxL ret R n0 Q h k n q Ls (.int x.toInt8.toInt32 :: st)) : Go l Z mn code maxL ret R n0 Q h k n pc Ls (.int x :: st) := by
  subst hq
  exact K.plain fun p e s m args below meth c T locs k' n' hx hby X t r => XT.i2b X.here hx rfl (hb hby hd) rfl r
theorem Go.i2s {x : Int32} (hd : decode code pc = .ok (.i2s, 1)) (hq : q = pc + 1) (K : Go l Z mn code maxL ret R n0 Q h k n q Ls (.int x.toInt16.toInt32 :: st)) : Go l Z mn code maxL ret R n0 Q h k n pc Ls (.int x :: st) := by
  subst hq
  exact K.plain fun p e s m args below meth c T locs k' n' hx hby X t r => XT.i2s X.here hx rfl (hb hby hd) rfl r
theorem Go.i2c {x : Int32} (hd : decode code pc = .ok (.i2c, 1)) (hq : q = pc + 1) (K : Go l Z mn code maxL ret R n0 Q h k n q Ls (.int x.toUInt32.toUInt16.toUInt32.toInt32 :: st)) : Go l Z mn code maxL ret R n0 Q h k n pc Ls (.int x :: st) := by
  subst hq
  exact K.plain fun p e s m args below meth c T locs k' n' hx hby X t r => XT.i2c X.here hx rfl (hb hby hd) rfl r
theorem Go.lcmp {x y : Int64} (hd : decode code pc = .ok (.lcmp, 1)) (hq : q = pc + 1) (K : Go l Z mn code maxL ret R n0 Q h k n q Ls (.int (XT.cmpL x y) :: st)) : Go l Z mn code maxL ret R n0 Q h k n pc Ls (.long y :: .long x :: st) := by
  subst hq
  exact K.plain fun p e s m args below meth c T locs k' n' hx hby X t r => XT.lcmp X.here hx rfl (hb hby hd) rfl r
theorem Go.iinc {i : Nat} {cst : Int} {x w : Int32} (hd : decode code pc = .ok (.iinc i cst, 3)) (hq : q = pc + 3) (hl : Ls[i]? = some (.val (.int x))) (hw : x + Int32.ofInt cst = w) (hl' : storeLocals Ls i (.int w) = some Ls') (K : Go l Z mn code maxL ret R n0 Q h k n q Ls' (st)) : Go l Z mn code maxL ret R n0 Q h k n pc Ls (st) := by
  subst hq
  exact K.plain fun p e s m args below meth c T locs k' n' hx hby X t r => XS.iinc X.here hx rfl (hb hby hd) hl (by rw [hw]; exact hl') r
theorem Go.dup {v : Value} (hd : decode code pc = .ok (.dup, 1)) (hq : q = pc + 1) (hc : v.category = 1) (K : Go l Z mn code maxL ret R n0 Q h k n q Ls (v :: v :: st)) : Go l Z mn code maxL ret R n0 Q h k n pc Ls (v :: st) := by
  subst hq
  exact K.plain fun p e s m args below meth c T locs k' n' hx hby X t r => XS.dup X.here hx rfl (hb hby hd) rfl hc r
theorem Go.pop {v : Value} (hd : decode code pc = .ok (.pop, 1)) (hq : q = pc + 1) (hc : v.category = 1) (K : Go l Z mn code maxL ret R n0 Q h k n q Ls (st)) : Go l Z mn code maxL ret R n0 Q h k n pc Ls (v :: st) := by
  subst hq
  exact K.plain fun p e s m args below meth c T locs k' n' hx hby X t r => XT.pop X.here hx rfl (hb hby hd) rfl hc r
theorem Go.dupX1 {v w : Value} (hd : decode code pc = .ok (.dup_x1, 1)) (hq : q = pc + 1) (hc : v.category = 1) (hc' : w.category = 1) (K : Go l Z mn code maxL ret R n0 Q h k n q Ls (v :: w :: v :: st)) : Go l Z mn code maxL ret R n0 Q h k n pc Ls (v :: w :: st) := by
  subst hq
  exact K.plain fun p e s m args below meth c T locs k' n' hx hby X t r => XT.dupX1 X.here hx rfl (hb hby hd) rfl hc hc' r
theorem Go.dup2 {v w : Value} (hd : decode code pc = .ok (.dup2, 1)) (hq : q = pc + 1) (hc : v.category = 1) (hc' : w.category = 1) (K : Go l Z mn code maxL ret R n0 Q h k n q Ls (v :: w :: v :: w :: st)) : Go l Z mn code maxL ret R n0 Q h k n pc Ls (v :: w :: st) := by
  subst hq
  exact K.plain fun p e s m args below meth c T locs k' n' hx hby X t r => XT.dup2 X.here hx rfl (hb hby hd) rfl hc hc' r
theorem Go.dup2L {x : Int64} (hd : decode code pc = .ok (.dup2, 1)) (hq : q = pc + 1) (K : Go l Z mn code maxL ret R n0 Q h k n q Ls (.long x :: .long x :: st)) : Go l Z mn code maxL ret R n0 Q h k n pc Ls (.long x :: st) := by
  subst hq
  exact K.plain fun p e s m args below meth c T locs k' n' hx hby X t r => XT.dup2L X.here hx rfl (hb hby hd) rfl r
theorem Go.goto {o : Int} (hd : decode code pc = .ok (.goto o, 3)) (ho : 0 ≤ (pc : Int) + o) (hq : ((pc : Int) + o).toNat = q) (K : Go l Z mn code maxL ret R n0 Q h k n q Ls st) : Go l Z mn code maxL ret R n0 Q h k n pc Ls st :=
  K.plain fun p e s m args below meth c T locs k' n' hx hby X t r => XS.goto X.here hx rfl rfl (hb hby hd) ho hq r
theorem Go.icmp_eq {x y' : Int32} {o : Int} {q' : Nat} (hd : decode code pc = .ok (.if_icmp .eq o, 3)) (ho : 0 ≤ (pc : Int) + o) (hq : ((pc : Int) + o).toNat = q) (hq' : q' = pc + 3) (K1 : x = y' → Go l Z mn code maxL ret R n0 Q h k n q Ls st) (K2 : ¬ x = y' → Go l Z mn code maxL ret R n0 Q h k n q' Ls st) : Go l Z mn code maxL ret R n0 Q h k n pc Ls (.int y' :: .int x :: st) := by
  subst hq'
  by_cases hc : x = y'
  · exact (K1 hc).plain fun p e s m args below meth c T locs k' n' hx hby X t r => XS.icmpYes X.here hx rfl rfl (hb hby hd) rfl (teq hc).1 ho hq r
  · exact (K2 (hc)).plain fun p e s m args below meth c T locs k' n' hx hby X t r => XS.icmpNo X.here hx rfl (hb hby hd) rfl (feq (hc)).1 r
theorem Go.if_eq {x : Int32} {o : Int} {q' : Nat} (hd : decode code pc = .ok (.ifCond .eq o, 3)) (ho : 0 ≤ (pc : Int) + o) (hq : ((pc : Int) + o).toNat = q) (hq' : q' = pc + 3) (K1 : x = 0 → Go l Z mn code maxL ret R n0 Q h k n q Ls st) (K2 : ¬ x = 0 → Go l Z mn code maxL ret R n0 Q h k n q' Ls st) : Go l Z mn code maxL ret R n0 Q h k n pc Ls (.int x :: st) := by
  subst hq'
  by_cases hc : x = 0
  · exact (K1 hc).plain fun p e s m args below meth c T locs k' n' hx hby X t r => XS.ifYes X.here hx rfl rfl (hb hby hd) rfl ((if0 _ _).trans (teq hc).1) ho hq r
  · exact (K2 (hc)).plain fun p e s m args below meth c T locs k' n' hx hby X t r => XS.ifNo X.here hx rfl (hb hby hd) rfl ((if0 _ _).trans (feq (hc)).1) r
theorem Go.icmp_ne {x y' : Int32} {o : Int} {q' : Nat} (hd : decode code pc = .ok (.if_icmp .ne o, 3)) (ho : 0 ≤ (pc : Int) + o) (hq : ((pc : Int) + o).toNat = q) (hq' : q' = pc + 3) (K1 : ¬ x = y' → Go l Z mn code maxL ret R n0 Q h k n q Ls st) (K2 : x = y' → Go l Z mn code maxL ret R n0 Q h k n q' Ls st) : Go l Z mn code maxL ret R n0 Q h k n pc Ls (.int y' :: .int x :: st) := by
  subst hq'
  by_cases hc : ¬ x = y'
  · exact (K1 hc).plain fun p e s m args below meth c T locs k' n' hx hby X t r => XS.icmpYes X.here hx rfl rfl (hb hby hd) rfl (feq hc).2 ho hq r
  · exact (K2 (Decidable.not_not.mp hc)).plain fun p e s m args below meth c T locs k' n' hx hby X t r => XS.icmpNo X.here hx rfl (hb hby hd) rfl (teq (Decidable.not_not.mp hc)).2 r
theorem Go.if_ne {x : Int32} {o : Int} {q' : Nat} (hd : decode code pc = .ok (.ifCond .ne o, 3)) (ho : 0 ≤ (pc : Int) + o) (hq : ((pc : Int) + o).toNat = q) (hq' : q' = pc + 3) (K1 : ¬ x = 0 → Go l Z mn code maxL ret R n0 Q h k n q Ls st) (K2 : x = 0 → Go l Z mn code maxL ret R n0 Q h k n q' Ls st) : Go l Z mn code maxL ret R n0 Q h k n pc Ls (.int x :: st) := by
  subst hq'
  by_cases hc : ¬ x = 0
  · exact (K1 hc).plain fun p e s m args below meth c T locs k' n' hx hby X t r => XS.ifYes X.here hx rfl rfl (hb hby hd) rfl ((if0 _ _).trans (feq hc).2) ho hq r
  · exact (K2 (Decidable.not_not.mp hc)).plain fun p e s m args below meth c T locs k' n' hx hby X t r => XS.ifNo X.here hx rfl (hb hby hd) rfl ((if0 _ _).trans (teq (Decidable.not_not.mp hc)).2) r
theorem Go.icmp_lt {x y' : Int32} {o : Int} {q' : Nat} (hd : decode code pc = .ok (.if_icmp .lt o, 3)) (ho : 0 ≤ (pc : Int) + o) (hq : ((pc : Int) + o).toNat = q) (hq' : q' = pc + 3) (K1 : x < y' → Go l Z mn code maxL ret R n0 Q h k n q Ls st) (K2 : ¬ x < y' → Go l Z mn code maxL ret R n0 Q h k n q' Ls st) : Go l Z mn code maxL ret R n0 Q h k n pc Ls (.int y' :: .int x :: st) := by
  subst hq'
  by_cases hc : x < y'
  · exact (K1 hc).plain fun p e s m args below meth c T locs k' n' hx hby X t r => XS.icmpYes X.here hx rfl rfl (hb hby hd) rfl (tlt hc).1 ho hq r
  · exact (K2 (hc)).plain fun p e s m args below meth c T locs k' n' hx hby X t r => XS.icmpNo X.here hx rfl (hb hby hd) rfl (flt (hc)).1 r
theorem Go.if_lt {x : Int32} {o : Int} {q' : Nat} (hd : decode code pc = .ok (.ifCond .lt o, 3)) (ho : 0 ≤ (pc : Int) + o) (hq : ((pc : Int) + o).toNat = q) (hq' : q' = pc + 3) (K1 : x < 0 → Go l Z mn code maxL ret R n0 Q h k n q Ls st) (K2 : ¬ x < 0 → Go l Z mn code maxL ret R n0 Q h k n q' Ls st) : Go l Z mn code maxL ret R n0 Q h k n pc Ls (.int x :: st) := by
  subst hq'
  by_cases hc : x < 0
  · exact (K1 hc).plain fun p e s m args below meth c T locs k' n' hx hby X t r => XS.ifYes X.here hx rfl rfl (hb hby hd) rfl ((if0 _ _).trans (tlt hc).1) ho hq r
  · exact (K2 (hc)).plain fun p e s m args below meth c T locs k' n' hx hby X t r => XS.ifNo X.here hx rfl (hb hby hd) rfl ((if0 _ _).trans (flt (hc)).1) r
theorem Go.icmp_ge {x y' : Int32} {o : Int} {q' : Nat} (hd : decode code pc = .ok (.if_icmp .ge o, 3)) (ho : 0 ≤ (pc : Int) + o) (hq : ((pc : Int) + o).toNat = q) (hq' : q' = pc + 3) (K1 : ¬ x < y' → Go l Z mn code maxL ret R n0 Q h k n q Ls st) (K2 : x < y' → Go l Z mn code maxL ret R n0 Q h k n q' Ls st) : Go l Z mn code maxL ret R n0 Q h k n pc Ls (.int y' :: .int x :: st) := by
  subst hq'
  by_cases hc : ¬ x < y'
  · exact (K1 hc).plain fun p e s m args below meth c T locs k' n' hx hby X t r => XS.icmpYes X.here hx rfl rfl (hb hby hd) rfl (flt hc).2.1 ho hq r
  · exact (K2 (Decidable.not_not.mp hc)).plain fun p e s m args below meth c T locs k' n' hx hby X t r => XS.icmpNo X.here hx rfl (hb hby hd) rfl (tlt (Decidable.not_not.mp hc)).2.1 r
theorem Go.if_ge {x : Int32} {o : Int} {q' : Nat} (hd : decode code pc = .ok (.ifCond .ge o, 3)) (ho : 0 ≤ (pc : Int) + o) (hq : ((pc : Int) + o).toNat = q) (hq' : q' = pc + 3) (K1 : ¬ x < 0 → Go l Z mn code maxL ret R n0 Q h k n q Ls st) (K2 : x < 0 → Go l Z mn code maxL ret R n0 Q h k n q' Ls st) : Go l Z mn code maxL ret R n0 Q h k n pc Ls (.int x :: st) := by
  subst hq'
  by_cases hc : ¬ x < 0
  · exact (K1 hc).plain fun p e s m args below meth c T locs k' n' hx hby X t r => XS.ifYes X.here hx rfl rfl (hb hby hd) rfl ((if0 _ _).trans (flt hc).2.1) ho hq r
  · exact (K2 (Decidable.not_not.mp hc)).plain fun p e s m args below meth c T locs k' n' hx hby X t r => XS.ifNo X.here hx rfl (hb hby hd) rfl ((if0 _ _).trans (tlt (Decidable.not_not.mp hc)).2.1) r
theorem Go.icmp_gt {x y' : Int32} {o : Int} {q' : Nat} (hd : decode code pc = .ok (.if_icmp .gt o, 3)) (ho : 0 ≤ (pc : Int) + o) (hq : ((pc : Int) + o).toNat = q) (hq' : q' = pc + 3) (K1 : y' < x → Go l Z mn code maxL ret R n0 Q h k n q Ls st) (K2 : ¬ y' < x → Go l Z mn code maxL ret R n0 Q h k n q' Ls st) : Go l Z mn code maxL ret R n0 Q h k n pc Ls (.int y' :: .int x :: st) := by
  subst hq'
  by_cases hc : y' < x
  · exact (K1 hc).plain fun p e s m args below meth c T locs k' n' hx hby X t r => XS.icmpYes X.here hx rfl rfl (hb hby hd) rfl (tlt hc).2.2.1 ho hq r
  · exact (K2 (hc)).plain fun p e s m args below meth c T locs k' n' hx hby X t r => XS.icmpNo X.here hx rfl (hb hby hd) rfl (flt (hc)).2.2.1 r
theorem Go.if_gt {x : Int32} {o : Int} {q' : Nat} (hd : decode code pc = .ok (.ifCond .gt o, 3)) (ho : 0 ≤ (pc : Int) + o) (hq : ((pc : Int) + o).toNat = q) (hq' : q' = pc + 3) (K1 : 0 < x → Go l Z mn code maxL ret R n0 Q h k n q Ls st) (K2 : ¬ 0 < x → Go l Z mn code maxL ret R n0 Q h k n q' Ls st) : Go l Z mn code maxL ret R n0 Q h k n pc Ls (.int x :: st) := by
  subst hq'
  by_cases hc : 0 < x
  · exact (K1 hc).plain fun p e s m args below meth c T locs k' n' hx hby X t r => XS.ifYes X.here hx rfl rfl (hb hby hd) rfl ((if0 _ _).trans (tlt hc).2.2.1) ho hq r
  · exact (K2 (hc)).plain fun p e s m args below meth c T locs k' n' hx hby X t r => XS.ifNo X.here hx rfl (hb hby hd) rfl ((if0 _ _).trans (flt (hc)).2.2.1) r
theorem Go.icmp_le {x y' : Int32} {o : Int} {q' : Nat} (hd : decode code pc = .ok (.if_icmp .le o, 3)) (ho : 0 ≤ (pc : Int) + o) (hq : ((pc : Int) + o).toNat = q) (hq' : q' = pc + 3) (K1 : ¬ y' < x → Go l Z mn code maxL ret R n0 Q h k n q Ls st) (K2 : y' < x → Go l Z mn code maxL ret R n0 Q h k n q' Ls st) : Go l Z mn code maxL ret R n0 Q h k n pc Ls (.int y' :: .int x :: st) := by
  subst hq'
  by_cases hc : ¬ y' < x
  · exact (K1 hc).plain fun p e s m args below meth c T locs k' n' hx hby X t r => XS.icmpYes X.here hx rfl rfl (hb hby hd) rfl (flt hc).2.2.2 ho hq r
  · exact (K2 (Decidable.not_not.mp hc)).plain fun p e s m args below meth c T locs k' n' hx hby X t r => XS.icmpNo X.here hx rfl (hb hby hd) rfl (tlt (Decidable.not_not.mp hc)).2.2.2 r
theorem Go.if_le {x : Int32} {o : Int} {q' : Nat} (hd : decode code pc = .ok (.ifCond .le o, 3)) (ho : 0 ≤ (pc : Int) + o) (hq : ((pc : Int) + o).toNat = q) (hq' : q' = pc + 3) (K1 : ¬ 0 < x → Go l Z mn code maxL ret R n0 Q h k n q Ls st) (K2 : 0 < x → Go l Z mn code maxL ret R n0 Q h k n q' Ls st) : Go l Z mn code maxL ret R n0 Q h k n pc Ls (.int x :: st) := by
  subst hq'
  by_cases hc : ¬ 0 < x
  · exact (K1 hc).plain fun p e s m args below meth c T locs k' n' hx hby X t r => XS.ifYes X.here hx rfl rfl (hb hby hd) rfl ((if0 _ _).trans (flt hc).2.2.2) ho hq r
  · exact (K2 (Decidable.not_not.mp hc)).plain fun p e s m args below meth c T locs k' n' hx hby X t r => XS.ifNo X.here hx rfl (hb hby hd) rfl ((if0 _ _).trans (tlt (Decidable.not_not.mp hc)).2.2.2) r
theorem Go.ifnull {v : Value} {o : Int} {q' : Nat} (hd : decode code pc = .ok (.ifnull o, 3)) (ho : 0 ≤ (pc : Int) + o) (hq : ((pc : Int) + o).toNat = q) (hq' : q' = pc + 3) (hv : v.isRef = true) (K1 : v = .null → Go l Z mn code maxL ret R n0 Q h k n q Ls st) (K2 : ∀ a, v = .ref a → Go l Z mn code maxL ret R n0 Q h k n q' Ls st) : Go l Z mn code maxL ret R n0 Q h k n pc Ls (v :: st) := by
  subst hq'
  rcases ref_cases hv with rfl | ⟨a, rfl⟩
  · exact (K1 rfl).plain fun p e s m args below meth c T locs k' n' hx hby X t r => XS.ifnullYes X.here hx rfl rfl (hb hby hd) rfl ho hq r
  · exact (K2 a rfl).plain fun p e s m args below meth c T locs k' n' hx hby X t r => XS.ifnullNo X.here hx rfl (hb hby hd) rfl r
theorem Go.ifnonnull {v : Value} {o : Int} {q' : Nat} (hd : decode code pc = .ok (.ifnonnull o, 3)) (ho : 0 ≤ (pc : Int) + o) (hq : ((pc : Int) + o).toNat = q) (hq' : q' = pc + 3) (hv : v.isRef = true) (K1 : ∀ a, v = .ref a → Go l Z mn code maxL ret R n0 Q h k n q Ls st) (K2 : v = .null → Go l Z mn code maxL ret R n0 Q h k n q' Ls st) : Go l Z mn code maxL ret R n0 Q h k n pc Ls (v :: st) := by
  subst hq'
  rcases ref_cases hv with rfl | ⟨a, rfl⟩
  · exact (K2 rfl).plain fun p e s m args below meth c T locs k' n' hx hby X t r => XT.ifnonnullNo X.here hx rfl (hb hby hd) rfl r
  · exact (K1 a rfl).plain fun p e s m args below meth c T locs k' n' hx hby X t r => XT.ifnonnullYes X.here hx rfl rfl (hb hby hd) rfl ho hq r
theorem Go.acmp_eq {v w : Value} {o : Int} {q' : Nat} (hd : decode code pc = .ok (.if_acmp .eq o, 3)) (ho : 0 ≤ (pc : Int) + o) (hq : ((pc : Int) + o).toNat = q) (hq' : q' = pc + 3) (hv : v.isRef = true) (hw : w.isRef = true) (K1 : v = w → Go l Z mn code maxL ret R n0 Q h k n q Ls st) (K2 : ¬ v = w → Go l Z mn code maxL ret R n0 Q h k n q' Ls st) : Go l Z mn code maxL ret R n0 Q h k n pc Ls (w :: v :: st) := by
  subst hq'
  by_cases hc : v = w
  · exact (K1 hc).plain fun p e s m args below meth c T locs k' n' hx hby X t r => RoadKit.acmp X hx rfl hv hw rfl (hb hby hd) rfl (same := true) (by simp [hc]) ho (by simp [acV, hq]) r
  · exact (K2 hc).plain fun p e s m args below meth c T locs k' n' hx hby X t r => RoadKit.acmp X hx rfl hv hw rfl (hb hby hd) rfl (same := false) (by simp [hc]) ho (by simp [acV]) r
theorem Go.acmp_ne {v w : Value} {o : Int} {q' : Nat} (hd : decode code pc = .ok (.if_acmp .ne o, 3)) (ho : 0 ≤ (pc : Int) + o) (hq : ((pc : Int) + o).toNat = q) (hq' : q' = pc + 3) (hv : v.isRef = true) (hw : w.isRef = true) (K1 : ¬ v = w → Go l Z mn code maxL ret R n0 Q h k n q Ls st) (K2 : v = w → Go l Z mn code maxL ret R n0 Q h k n q' Ls st) : Go l Z mn code maxL ret R n0 Q h k n pc Ls (w :: v :: st) := by
  subst hq'
  by_cases hc : v = w
  · exact (K2 hc).plain fun p e s m args below meth c T locs k' n' hx hby X t r => RoadKit.acmp X hx rfl hv hw rfl (hb hby hd) rfl (same := true) (by simp [hc]) ho (by simp [acV]) r
  · exact (K1 hc).plain fun p e s m args below meth c T locs k' n' hx hby X t r => RoadKit.acmp X hx rfl hv hw rfl (hb hby hd) rfl (same := false) (by simp [hc]) ho (by simp [acV, hq]) r
/-! constants of the pool -/
theorem Go.ldc {i : Nat} {v : Int32} (hd : decode code pc = .ok (.ldc i, 2)) (hq : q = pc + 2) (w : (Jvm.Cond.constant mn.cls i v).before a0 Z = true) (K : Go l Z mn code maxL ret R n0 Q h k n q Ls (.int v :: st)) : Go l Z mn code maxL ret R n0 Q h k n pc Ls st := by
  subst hq
  exact fun p e s m args below meth c T locs k' n' C X hk hn N eT => (K p e s m args below meth c T locs k' n' C X hk hn N eT).step fun t r => X.ldcI C.1 C.2.2.2.2.1 (mvT C.2.1 w) rfl (hb C.2.2.1 hd) r
theorem Go.ldcW {i : Nat} {v : Int32} (hd : decode code pc = .ok (.ldc_w i, 3)) (hq : q = pc + 3) (w : (Jvm.Cond.constant mn.cls i v).before a0 Z = true) (K : Go l Z mn code maxL ret R n0 Q h k n q Ls (.int v :: st)) : Go l Z mn code maxL ret R n0 Q h k n pc Ls st := by
  subst hq
  exact fun p e s m args below meth c T locs k' n' C X hk hn N eT => (K p e s m args below meth c T locs k' n' C X hk hn N eT).step fun t r => X.ldcWI C.1 C.2.2.2.2.1 (mvT C.2.1 w) rfl (hb C.2.2.1 hd) r
theorem Go.ldc2 {i : Nat} {v : Int64} (hd : decode code pc = .ok (.ldc2_w i, 3)) (hq : q = pc + 3) (w : (Jvm.Cond.constantLong mn.cls i v).before a0 Z = true) (K : Go l Z mn code maxL ret R n0 Q h k n q Ls (.long v :: st)) : Go l Z mn code maxL ret R n0 Q h k n pc Ls st := by
  subst hq
  exact fun p e s m args below meth c T locs k' n' C X hk hn N eT => (K p e s m args below meth c T locs k' n' C X hk hn N eT).step fun t r => X.ldc2J C.1 C.2.2.2.2.1 (mvT C.2.1 w) rfl (hb C.2.2.1 hd) r
/-! statics and fields -/
theorem Go.getS {i : Nat} {O nm d : String} {v : Value} (hd : decode code pc = .ok (.getstatic i, 3)) (hq : q = pc + 3) (w : (Jvm.Cond.fieldLink mn.cls i O nm d).before a0 Z = true) (F : Sta Z h O nm d v) (K : Go l Z mn code maxL ret R n0 Q h k n q Ls (v :: st)) : Go l Z mn code maxL ret R n0 Q h k n pc Ls st := by
  subst hq
  intro p e s m args below meth c T locs k' n' C X hk hn N eT
  obtain ⟨T', X', e', f⟩ := RoadKit.getS (host := "") X C.1 C.2.1 C.2.2.2.2.1 w Via.refl eT F (g := mkF m pc Ls st) rfl (hb C.2.2.1 hd)
  exact (K p e s m args below meth c T' locs k' n' C X' hk hn N e').step f
theorem Go.getF {i : Nat} {R0 O nm d host : String} {a : Addr} {v : Value} (hd : decode code pc = .ok (.getfield i, 3)) (hq : q = pc + 3) (w : (Jvm.Cond.fieldLink mn.cls i R0 nm d).before a0 Z = true ∨ (Jvm.Cond.fieldLinkNest mn.cls i R0 nm d host).before a0 Z = true) (via : Via Z R0 O nm d) (F : Fld Z h a O nm d v) (K : Go l Z mn code maxL ret R n0 Q h k n q Ls (v :: st)) : Go l Z mn code maxL ret R n0 Q h k n pc Ls (.ref a :: st) := by
  subst hq
  intro p e s m args below meth c T locs k' n' C X hk hn N eT
  obtain ⟨T', X', e', f⟩ := RoadKit.getF X C.1 C.2.1 C.2.2.2.2.1 w via eT F (g := mkF m pc Ls (.ref a :: st)) rfl rfl (hb C.2.2.1 hd)
  exact (K p e s m args below meth c T' locs k' n' C X' hk hn N e').step f
theorem Go.putF {i kk : Nat} {R0 O nm d host C : String} {a : Addr} {v old : Value} {ty : FieldType} (hd : decode code pc = .ok (.putfield i, 3)) (hq : q = pc + 3) (w : (Jvm.Cond.fieldLink mn.cls i R0 nm d).before a0 Z = true ∨ (Jvm.Cond.fieldLinkNest mn.cls i R0 nm d host).before a0 Z = true) (via : Via Z R0 O nm d) (F : Fld Z h a O nm d old) (E : Exa Z h a C) (L : (Jvm.Cond.lays C O nm d).before a0 Z = true ∨ ((Jvm.Cond.laysFinal C O nm d).before a0 Z = true ∧ mn.cls = O ∧ mn.name = "<init>")) (wi : (Jvm.Cond.instantiable C kk).before a0 Z = true)
    (hty : parseFieldDescriptor d = some ty) (hna : narrow ty v = v) (hf : fits ty v = true) (ha : n0 ≤ a) (K : ∀ h', Wr h h' a (RoadKit.slotOf Z O nm d) v → Go l Z mn code maxL ret R n0 Q h' k n q Ls st) : Go l Z mn code maxL ret R n0 Q h k n pc Ls (v :: .ref a :: st) := by
  subst hq
  intro p e s m args below meth c T locs k' n' Cc X hk hn N eT
  obtain ⟨T', h', X', e', W, f⟩ := RoadKit.putF X Cc.1 Cc.2.1 Cc.2.2.2.2.1 w via eT F E (L.imp id fun q => ⟨q.1, q.2.1, Cc.2.2.2.2.2.2.2.trans q.2.2⟩) wi hty hna hf (g := mkF m pc Ls (v :: .ref a :: st)) rfl rfl (hb Cc.2.2.1 hd)
  exact (K h' W p e s m args below meth c T' _ k' n' Cc X' hk hn (Fr.snoc X' N ha) e').step f
theorem Go.cast {i : Nat} {Kc : String} {a : Addr} (hd : decode code pc = .ok (.checkcast i, 3)) (hq : q = pc + 3) (w : (Jvm.Cond.classLink mn.cls i Kc).before a0 Z = true) (F : Ins Z h a Kc true) (K : Go l Z mn code maxL ret R n0 Q h k n q Ls (.ref a :: st)) : Go l Z mn code maxL ret R n0 Q h k n pc Ls (.ref a :: st) := by
  subst hq
  intro p e s m args below meth c T locs k' n' C X hk hn N eT
  obtain ⟨T', X', e', f⟩ := castY X C.1 C.2.1 C.2.2.2.2.1 w eT F (g := mkF m pc Ls (.ref a :: st)) rfl rfl (hb C.2.2.1 hd)
  exact (K p e s m args below meth c T' locs k' n' C X' hk hn N e').step f
/-! new, arrays -/
theorem Go.new {i kk : Nat} {C : String} (hd : decode code pc = .ok (.new i, 3)) (hq : q = pc + 3) (w : (Jvm.Cond.classLink mn.cls i C).before a0 Z = true) (wi : (Jvm.Cond.instantiable C kk).before a0 Z = true) (wz : (Jvm.Cond.initialized C).before a0 Z = true) (hc : k + 1 ≤ R.cells) (hs : n + kk ≤ R.slots)
    (K : ∀ h' a, a = h.size → Ext h h' → Exa Z h' a C → (∀ {O nm d : String} {ty : FieldType}, Laid Z a0 C O nm d → parseFieldDescriptor d = some ty → Fld Z h' a O nm d (defaultValue ty)) → Go l Z mn code maxL ret R n0 Q h' (k + 1) (n + kk) q Ls (.ref a :: st)) : Go l Z mn code maxL ret R n0 Q h k n pc Ls st := by
  subst hq
  intro p e s m args below meth c T locs k' n' Cc X hk hn N eT
  obtain ⟨T', h', X', e', E, A, D, -, f⟩ := newO X Cc.1 Cc.2.1 Cc.2.2.2.2.1 w wi wz eT (g := mkF m pc Ls st) rfl (hb Cc.2.2.1 hd) (by omega) (by omega)
  exact (K h' h.size rfl E A (fun L t => D L t) p e s m args below meth c T' locs _ _ Cc X' (by omega) (by omega) N e').step f
theorem Go.initObj {i wd : Nat} {a : Addr} (hd : decode code pc = .ok (.invokespecial i, 3)) (hq : q = pc + 3) (w1 : (Jvm.Cond.methodLink mn.cls i Lib.objectInit).before a0 Z = true) (w2 : (Jvm.Cond.instanceMethod Lib.objectInit).before a0 Z = true) (w3 : (Jvm.Cond.code Lib.objectInit ⟨#[0xb1]⟩ 1 none).before a0 Z = true) (hsz : Ls.size = maxL) (hf : 1 ≤ R.frames) (hW : (st.map fun v => v.category).sum = wd) (hl : wd + 12 ≤ R.locals) (K : Go l Z mn code maxL ret R n0 Q h k n q Ls st) : Go l Z mn code maxL ret R n0 Q h k n pc Ls (.ref a :: st) := by
  subst hq
  intro p e s m args below meth c T locs k' n' C X hk hn N eT
  obtain ⟨T', X', e', f⟩ := initO X C.1 C.2.1 C.2.2.2.2.1 w1 w2 w3 eT (g := mkF m pc Ls (.ref a :: st)) rfl (by rw [C.2.2.2.1]; exact hsz) rfl (hb C.2.2.1 hd) hf (W := wd) (by simp [hW]) hl
  exact (K p e s m args below meth c T' locs k' n' C X' hk hn N e').step f

end Laws
theorem cmpL_eq (x y : Int64) : XT.cmpL x y = 0 ↔ x = y := by
  unfold XT.cmpL
  by_cases h1 : y < x
  · rw [if_pos h1]; constructor
    · intro e; exact absurd e (by decide)
    · rintro rfl; exact absurd h1 Int64.lt_irrefl
  · rw [if_neg h1]
    by_cases h2 : x = y
    · simp [h2]
    · rw [if_neg h2]; constructor
      · intro e; exact absurd e (by decide)
      · intro e; exact absurd e h2
theorem cmpL_lt (x y : Int64) : XT.cmpL x y < 0 ↔ x < y := by
  unfold XT.cmpL
  by_cases h1 : y < x
  · rw [if_pos h1]; constructor
    · intro e; exact absurd e (by decide)
    · intro e; rw [Int64.lt_iff_toInt_lt] at e h1; omega
  · rw [if_neg h1]
    by_cases h2 : x = y
    · rw [if_pos h2]; constructor
      · intro e; exact absurd e (by decide)
      · intro e; rw [h2] at e; exact absurd e Int64.lt_irrefl
    · rw [if_neg h2]; constructor
      · intro _; rw [Int64.lt_iff_toInt_lt] at h1 ⊢; rw [← Int64.toInt_inj] at h2; omega
      · intro _; decide
theorem cmpL_gt (x y : Int64) : 0 < XT.cmpL x y ↔ y < x := by
  unfold XT.cmpL
  by_cases h1 : y < x
  · rw [if_pos h1]; constructor
    · intro _; exact h1
    · intro _; decide
  · rw [if_neg h1]
    by_cases h2 : x = y
    · rw [if_pos h2]; constructor
      · intro e; exact absurd e (by decide)
      · intro e; exact absurd e h1
    · rw [if_neg h2]; constructor
      · intro e; exact absurd e (by decide)
      · intro e; exact absurd e h1
section Laws2
variable {l : Launch} {Z : State} {mn : MethodName} {code : ByteArray} {maxL : Nat} {ret : Option FieldType} {R : Room} {n0 : Nat} {Q : Option Value → Heap → Prop} {h : Heap} {k n pc q : Nat} {Ls Ls' : Array Slot} {st st' : List Value} {a0 : Array Value}
theorem Go.lif_eq {x y' : Int64} {o : Int} {q' : Nat} (hd : decode code pc = .ok (.ifCond .eq o, 3)) (ho : 0 ≤ (pc : Int) + o) (hq : ((pc : Int) + o).toNat = q) (hq' : q' = pc + 3) (K1 : x = y' → Go l Z mn code maxL ret R n0 Q h k n q Ls st) (K2 : ¬ x = y' → Go l Z mn code maxL ret R n0 Q h k n q' Ls st) : Go l Z mn code maxL ret R n0 Q h k n pc Ls (.int (XT.cmpL x y') :: st) :=
  Go.if_eq hd ho hq hq' (fun c => K1 ((cmpL_eq _ _).mp c)) (fun c => K2 fun e => c ((cmpL_eq _ _).mpr e))
theorem Go.lif_ne {x y' : Int64} {o : Int} {q' : Nat} (hd : decode code pc = .ok (.ifCond .ne o, 3)) (ho : 0 ≤ (pc : Int) + o) (hq : ((pc : Int) + o).toNat = q) (hq' : q' = pc + 3) (K1 : ¬ x = y' → Go l Z mn code maxL ret R n0 Q h k n q Ls st) (K2 : x = y' → Go l Z mn code maxL ret R n0 Q h k n q' Ls st) : Go l Z mn code maxL ret R n0 Q h k n pc Ls (.int (XT.cmpL x y') :: st) :=
  Go.if_ne hd ho hq hq' (fun c => K1 fun e => c ((cmpL_eq _ _).mpr e)) (fun c => K2 ((cmpL_eq _ _).mp c))
theorem Go.lif_lt {x y' : Int64} {o : Int} {q' : Nat} (hd : decode code pc = .ok (.ifCond .lt o, 3)) (ho : 0 ≤ (pc : Int) + o) (hq : ((pc : Int) + o).toNat = q) (hq' : q' = pc + 3) (K1 : x < y' → Go l Z mn code maxL ret R n0 Q h k n q Ls st) (K2 : ¬ x < y' → Go l Z mn code maxL ret R n0 Q h k n q' Ls st) : Go l Z mn code maxL ret R n0 Q h k n pc Ls (.int (XT.cmpL x y') :: st) :=
  Go.if_lt hd ho hq hq' (fun c => K1 ((cmpL_lt _ _).mp c)) (fun c => K2 fun e => c ((cmpL_lt _ _).mpr e))
theorem Go.lif_ge {x y' : Int64} {o : Int} {q' : Nat} (hd : decode code pc = .ok (.ifCond .ge o, 3)) (ho : 0 ≤ (pc : Int) + o) (hq : ((pc : Int) + o).toNat = q) (hq' : q' = pc + 3) (K1 : ¬ x < y' → Go l Z mn code maxL ret R n0 Q h k n q Ls st) (K2 : x < y' → Go l Z mn code maxL ret R n0 Q h k n q' Ls st) : Go l Z mn code maxL ret R n0 Q h k n pc Ls (.int (XT.cmpL x y') :: st) :=
  Go.if_ge hd ho hq hq' (fun c => K1 fun e => c ((cmpL_lt _ _).mpr e)) (fun c => K2 ((cmpL_lt _ _).mp c))
theorem Go.lif_gt {x y' : Int64} {o : Int} {q' : Nat} (hd : decode code pc = .ok (.ifCond .gt o, 3)) (ho : 0 ≤ (pc : Int) + o) (hq : ((pc : Int) + o).toNat = q) (hq' : q' = pc + 3) (K1 : y' < x → Go l Z mn code maxL ret R n0 Q h k n q Ls st) (K2 : ¬ y' < x → Go l Z mn code maxL ret R n0 Q h k n q' Ls st) : Go l Z mn code maxL ret R n0 Q h k n pc Ls (.int (XT.cmpL x y') :: st) :=
  Go.if_gt hd ho hq hq' (fun c => K1 ((cmpL_gt _ _).mp c)) (fun c => K2 fun e => c ((cmpL_gt _ _).mpr e))
theorem Go.lif_le {x y' : Int64} {o : Int} {q' : Nat} (hd : decode code pc = .ok (.ifCond .le o, 3)) (ho : 0 ≤ (pc : Int) + o) (hq : ((pc : Int) + o).toNat = q) (hq' : q' = pc + 3) (K1 : ¬ y' < x → Go l Z mn code maxL ret R n0 Q h k n q Ls st) (K2 : y' < x → Go l Z mn code maxL ret R n0 Q h k n q' Ls st) : Go l Z mn code maxL ret R n0 Q h k n pc Ls (.int (XT.cmpL x y') :: st) :=
  Go.if_le hd ho hq hq' (fun c => K1 fun e => c ((cmpL_gt _ _).mpr e)) (fun c => K2 ((cmpL_gt _ _).mp c))
end Laws2
end Jvm.OwnKit

namespace Jvm.OwnKit
open Jvm Jvm.ClassFile Sem Op Lib Jvm.Free Jvm.Stand Jvm.LawKit Jvm.RoadKit
section Calls
variable {l : Launch} {Z : State} {mn : MethodName} {code : ByteArray} {maxL : Nat} {ret : Option FieldType} {R : Room} {n0 : Nat} {Q : Option Value → Heap → Prop} {h : Heap} {k n pc q : Nat} {Ls Ls' : Array Slot} {st st' : List Value} {a0 : Array Value}
  {y' : MethodName} {code' : ByteArray} {maxL' : Nat} {ret' : Option FieldType} {R' : Room} {Q' : Option Value → Heap → Prop} {argsL rest : List Value} {Ls1 : Array Slot} {ps : List FieldType} {r : Option FieldType} {i wd : Nat}
theorem Go.callS (hd : decode code pc = .ok (.invokestatic i, 3)) (hq : q = pc + 3) (w1 : (Jvm.Cond.methodLink mn.cls i y').before a0 Z = true) (w2 : (Jvm.Cond.static y').before a0 Z = true) (w3 : (Jvm.Cond.initialized y'.cls).before a0 Z = true) (w4 : (Jvm.Cond.code y' code' maxL' ret').before a0 Z = true)
    (hy : y'.cls ≠ "java/lang/invoke/MethodHandle" ∧ y'.cls ≠ "java/lang/invoke/VarHandle") (pn : plainName y'.cls = true) (pd : parseMethodDescriptor y'.desc = some ⟨ps, r⟩) (hl : argsL.length = ps.length) (hst : st = argsL.reverse ++ rest) (hef : ∀ m, entryFrame m argsL.toArray maxL' = mkF m 0 Ls1 []) (hsz : Ls.size = maxL)
    (hR1 : R'.frames + 1 ≤ R.frames) (hW : (rest.map fun v => v.category).sum = wd) (hR2 : wd + (maxL' + 11) + R'.locals ≤ R.locals) (hc : k + R'.cells ≤ R.cells) (hs : n + R'.slots ≤ R.slots)
    (G : Go l Z y' code' maxL' ret' R' n0 Q' h 0 0 0 Ls1 []) (K : ∀ v h', Q' v h' → Go l Z mn code maxL ret R n0 Q h' (k + R'.cells) (n + R'.slots) q Ls (v.toList ++ rest)) : Go l Z mn code maxL ret R n0 Q h k n pc Ls st := by
  subst hq hst hW
  intro p e s m args below meth c T locs k' n' C X hk hn N eT
  obtain ⟨v, vm1, ⟨T1, L1, k1, n1⟩, -, X1, ⟨Lc, hQ, e1, e2, e3⟩, f⟩ := Jvm.LawKit.callS X C.1 (y := y') C.2.2.2.2.1 (mvT C.2.1 w1) (mvT C.2.1 w2) (mvT C.2.1 w3) (mvT C.2.1 w4) hy (backOf (W := (rest.map fun v => v.category).sum) (Q := fun v h L => Fr n0 L ∧ Q' v h) (G.met pn hef []) C.2.1 w4 w3 hR1 hR2) (g := mkF m pc Ls (argsL.reverse ++ rest)) rfl (by rw [C.2.2.2.1]; exact hsz) (argsL := argsL) (rest := rest) (lenOf pd hl) rfl (by simp) (hb C.2.2.1 hd) (fun _ _ => ⟨rfl, eT, by show k' + _ ≤ _; omega, by show n' + _ ≤ _; omega⟩)
  dsimp only [Pt.U, Pt.locs, Pt.cells, Pt.slots] at X1 e1 e2 e3 f hQ
  subst e1 e2 e3
  exact (K v T1.heap hQ.2 p e s m args below meth c T1 _ _ _ C X1 (by omega) (by omega) (Fr.app N hQ.1) rfl).step f
theorem Go.callV {C : String} {a : Addr} (hd : decode code pc = .ok (.invokevirtual i, 3)) (hq : q = pc + 3) (w1 : (Jvm.Cond.methodLink mn.cls i y').before a0 Z = true) (w2 : (Jvm.Cond.declares y').before a0 Z = true) (w3 : (Jvm.Cond.selects C y' y').before a0 Z = true) (w4 : (Jvm.Cond.instanceMethod y').before a0 Z = true) (w5 : (Jvm.Cond.code y' code' maxL' ret').before a0 Z = true) (w6 : (Jvm.Cond.initialized y'.cls).before a0 Z = true)
    (hy : y'.cls ≠ "java/lang/invoke/MethodHandle" ∧ y'.cls ≠ "java/lang/invoke/VarHandle") (pn : plainName y'.cls = true) (pd : parseMethodDescriptor y'.desc = some ⟨ps, r⟩) (hl : argsL.length = ps.length) (hst : st = argsL.reverse ++ .ref a :: rest) (E : Exa Z h a C) (hef : ∀ m, entryFrame m (.ref a :: argsL).toArray maxL' = mkF m 0 Ls1 []) (hsz : Ls.size = maxL)
    (hR1 : R'.frames + 1 ≤ R.frames) (hW : (rest.map fun v => v.category).sum = wd) (hR2 : wd + (maxL' + 11) + R'.locals ≤ R.locals) (hc : k + R'.cells ≤ R.cells) (hs : n + R'.slots ≤ R.slots)
    (G : Go l Z y' code' maxL' ret' R' n0 Q' h 0 0 0 Ls1 []) (K : ∀ v h', Q' v h' → Go l Z mn code maxL ret R n0 Q h' (k + R'.cells) (n + R'.slots) q Ls (v.toList ++ rest)) : Go l Z mn code maxL ret R n0 Q h k n pc Ls st := by
  subst hq hst hW
  intro p e s m args below meth c T locs k' n' Cc X hk hn N eT
  obtain ⟨cq, kq, qa, qb, qc⟩ := isOf Cc.2.1 eT E
  obtain ⟨v, vm1, ⟨T1, L1, k1, n1⟩, -, X1, ⟨Lc, hQ, e1, e2, e3⟩, f⟩ := X.virtualBack Cc.1 (y := y') (z := y') Cc.2.2.2.2.1 (mvT Cc.2.1 w1) (mvT Cc.2.1 w2) (notFace_of_selects (args := #[]) (mvT Cc.2.1 w3)) (mvT Cc.2.1 w3) (mvT Cc.2.1 w4) hy (backOf (W := (rest.map fun v => v.category).sum) (Q := fun v h L => Fr n0 L ∧ Q' v h) (G.met pn hef []) Cc.2.1 w5 w6 hR1 hR2) qa qc (g := mkF m pc Ls (argsL.reverse ++ .ref a :: rest)) rfl (by rw [Cc.2.2.2.1]; exact hsz) (Steps.refl _) (argsL := argsL) (rest := rest) (lenOf pd hl) rfl (by simp) (hb Cc.2.2.1 hd) (fun _ _ => ⟨rfl, eT, by show k' + _ ≤ _; omega, by show n' + _ ≤ _; omega⟩)
  dsimp only [Pt.U, Pt.locs, Pt.cells, Pt.slots] at X1 e1 e2 e3 f hQ
  subst e1 e2 e3
  exact (K v T1.heap hQ.2 p e s m args below meth c T1 _ _ _ Cc X1 (by omega) (by omega) (Fr.app N hQ.1) rfl).step fun t r => f.trans r
theorem Go.callI {a : Addr} (hd : decode code pc = .ok (.invokespecial i, 3)) (hq : q = pc + 3) (hn1 : y'.name = "<init>") (w1 : (Jvm.Cond.methodLink mn.cls i y').before a0 Z = true) (w2 : (Jvm.Cond.instanceMethod y').before a0 Z = true) (w3 : (Jvm.Cond.initialized y'.cls).before a0 Z = true) (w4 : (Jvm.Cond.code y' code' maxL' none).before a0 Z = true)
    (hy : y'.cls ≠ "java/lang/invoke/MethodHandle" ∧ y'.cls ≠ "java/lang/invoke/VarHandle") (pn : plainName y'.cls = true) (pd : parseMethodDescriptor y'.desc = some ⟨ps, r⟩) (hl : argsL.length = ps.length) (hst : st = argsL.reverse ++ .ref a :: rest) (hef : ∀ m, entryFrame m (.ref a :: argsL).toArray maxL' = mkF m 0 Ls1 []) (hsz : Ls.size = maxL)
    (hR1 : R'.frames + 1 ≤ R.frames) (hW : (rest.map fun v => v.category).sum = wd) (hR2 : wd + (maxL' + 11) + R'.locals ≤ R.locals) (hc : k + R'.cells ≤ R.cells) (hs : n + R'.slots ≤ R.slots)
    (G : Go l Z y' code' maxL' none R' n0 Q' h 0 0 0 Ls1 []) (K : ∀ v h', Q' v h' → Go l Z mn code maxL ret R n0 Q h' (k + R'.cells) (n + R'.slots) q Ls (v.toList ++ rest)) : Go l Z mn code maxL ret R n0 Q h k n pc Ls st := by
  subst hq hst hW
  intro p e s m args below meth c T locs k' n' Cc X hk hn N eT
  obtain ⟨v, vm1, ⟨T1, L1, k1, n1⟩, -, X1, ⟨Lc, hQ, e1, e2, e3⟩, f⟩ := X.specialBack Cc.1 (y := y') hn1 Cc.2.2.2.2.1 (mvT Cc.2.1 w1) (mvT Cc.2.1 w2) (mvT Cc.2.1 w4) hy (backOf (W := (rest.map fun v => v.category).sum) (Q := fun v h L => Fr n0 L ∧ Q' v h) (G.met pn hef []) Cc.2.1 w4 w3 hR1 hR2) (g := mkF m pc Ls (argsL.reverse ++ .ref a :: rest)) rfl (by rw [Cc.2.2.2.1]; exact hsz) (Steps.refl _) (a := a) (argsL := argsL) (rest := rest) (lenOf pd hl) rfl (by simp) (hb Cc.2.2.1 hd) (fun _ _ => ⟨rfl, eT, by show k' + _ ≤ _; omega, by show n' + _ ≤ _; omega⟩)
  dsimp only [Pt.U, Pt.locs, Pt.cells, Pt.slots] at X1 e1 e2 e3 f hQ
  subst e1 e2 e3
  exact (K v T1.heap hQ.2 p e s m args below meth c T1 _ _ _ Cc X1 (by omega) (by omega) (Fr.app N hQ.1) rfl).step fun t r => f.trans r
theorem Go.callSV {P : Value → Heap → Prop} (hd : decode code pc = .ok (.invokestatic i, 3)) (hq : q = pc + 3) (w1 : (Jvm.Cond.methodLink mn.cls i y').before a0 Z = true) (w2 : (Jvm.Cond.static y').before a0 Z = true) (w3 : (Jvm.Cond.initialized y'.cls).before a0 Z = true) (w4 : (Jvm.Cond.code y' code' maxL' ret').before a0 Z = true)
    (hy : y'.cls ≠ "java/lang/invoke/MethodHandle" ∧ y'.cls ≠ "java/lang/invoke/VarHandle") (pn : plainName y'.cls = true) (pd : parseMethodDescriptor y'.desc = some ⟨ps, r⟩) (hl : argsL.length = ps.length) (hst : st = argsL.reverse ++ rest) (hef : ∀ m, entryFrame m argsL.toArray maxL' = mkF m 0 Ls1 []) (hsz : Ls.size = maxL)
    (hR1 : R'.frames + 1 ≤ R.frames) (hW : (rest.map fun v => v.category).sum = wd) (hR2 : wd + (maxL' + 11) + R'.locals ≤ R.locals) (hc : k + R'.cells ≤ R.cells) (hs : n + R'.slots ≤ R.slots)
    (G : Go l Z y' code' maxL' ret' R' n0 (RV P) h 0 0 0 Ls1 []) (K : ∀ w h', P w h' → Go l Z mn code maxL ret R n0 Q h' (k + R'.cells) (n + R'.slots) q Ls (w :: rest)) : Go l Z mn code maxL ret R n0 Q h k n pc Ls st :=
  Go.callS hd hq w1 w2 w3 w4 hy pn pd hl hst hef hsz hR1 hW hR2 hc hs G fun v h' ⟨w, e, q⟩ => by subst e; exact K w h' q
theorem Go.callSN {P : Heap → Prop} (hd : decode code pc = .ok (.invokestatic i, 3)) (hq : q = pc + 3) (w1 : (Jvm.Cond.methodLink mn.cls i y').before a0 Z = true) (w2 : (Jvm.Cond.static y').before a0 Z = true) (w3 : (Jvm.Cond.initialized y'.cls).before a0 Z = true) (w4 : (Jvm.Cond.code y' code' maxL' ret').before a0 Z = true)
    (hy : y'.cls ≠ "java/lang/invoke/MethodHandle" ∧ y'.cls ≠ "java/lang/invoke/VarHandle") (pn : plainName y'.cls = true) (pd : parseMethodDescriptor y'.desc = some ⟨ps, r⟩) (hl : argsL.length = ps.length) (hst : st = argsL.reverse ++ rest) (hef : ∀ m, entryFrame m argsL.toArray maxL' = mkF m 0 Ls1 []) (hsz : Ls.size = maxL)
    (hR1 : R'.frames + 1 ≤ R.frames) (hW : (rest.map fun v => v.category).sum = wd) (hR2 : wd + (maxL' + 11) + R'.locals ≤ R.locals) (hc : k + R'.cells ≤ R.cells) (hs : n + R'.slots ≤ R.slots)
    (G : Go l Z y' code' maxL' ret' R' n0 (RN P) h 0 0 0 Ls1 []) (K : ∀ h', P h' → Go l Z mn code maxL ret R n0 Q h' (k + R'.cells) (n + R'.slots) q Ls rest) : Go l Z mn code maxL ret R n0 Q h k n pc Ls st :=
  Go.callS hd hq w1 w2 w3 w4 hy pn pd hl hst hef hsz hR1 hW hR2 hc hs G fun v h' ⟨e, q⟩ => by subst e; exact K h' q
theorem Go.callVV {P : Value → Heap → Prop} {C : String} {a : Addr} (hd : decode code pc = .ok (.invokevirtual i, 3)) (hq : q = pc + 3) (w1 : (Jvm.Cond.methodLink mn.cls i y').before a0 Z = true) (w2 : (Jvm.Cond.declares y').before a0 Z = true) (w3 : (Jvm.Cond.selects C y' y').before a0 Z = true) (w4 : (Jvm.Cond.instanceMethod y').before a0 Z = true) (w5 : (Jvm.Cond.code y' code' maxL' ret').before a0 Z = true) (w6 : (Jvm.Cond.initialized y'.cls).before a0 Z = true)
    (hy : y'.cls ≠ "java/lang/invoke/MethodHandle" ∧ y'.cls ≠ "java/lang/invoke/VarHandle") (pn : plainName y'.cls = true) (pd : parseMethodDescriptor y'.desc = some ⟨ps, r⟩) (hl : argsL.length = ps.length) (hst : st = argsL.reverse ++ .ref a :: rest) (E : Exa Z h a C) (hef : ∀ m, entryFrame m (.ref a :: argsL).toArray maxL' = mkF m 0 Ls1 []) (hsz : Ls.size = maxL)
    (hR1 : R'.frames + 1 ≤ R.frames) (hW : (rest.map fun v => v.category).sum = wd) (hR2 : wd + (maxL' + 11) + R'.locals ≤ R.locals) (hc : k + R'.cells ≤ R.cells) (hs : n + R'.slots ≤ R.slots)
    (G : Go l Z y' code' maxL' ret' R' n0 (RV P) h 0 0 0 Ls1 []) (K : ∀ w h', P w h' → Go l Z mn code maxL ret R n0 Q h' (k + R'.cells) (n + R'.slots) q Ls (w :: rest)) : Go l Z mn code maxL ret R n0 Q h k n pc Ls st :=
  Go.callV hd hq w1 w2 w3 w4 w5 w6 hy pn pd hl hst E hef hsz hR1 hW hR2 hc hs G fun v h' ⟨w, e, q⟩ => by subst e; exact K w h' q
theorem Go.callVN {P : Heap → Prop} {C : String} {a : Addr} (hd : decode code pc = .ok (.invokevirtual i, 3)) (hq : q = pc + 3) (w1 : (Jvm.Cond.methodLink mn.cls i y').before a0 Z = true) (w2 : (Jvm.Cond.declares y').before a0 Z = true) (w3 : (Jvm.Cond.selects C y' y').before a0 Z = true) (w4 : (Jvm.Cond.instanceMethod y').before a0 Z = true) (w5 : (Jvm.Cond.code y' code' maxL' ret').before a0 Z = true) (w6 : (Jvm.Cond.initialized y'.cls).before a0 Z = true)
    (hy : y'.cls ≠ "java/lang/invoke/MethodHandle" ∧ y'.cls ≠ "java/lang/invoke/VarHandle") (pn : plainName y'.cls = true) (pd : parseMethodDescriptor y'.desc = some ⟨ps, r⟩) (hl : argsL.length = ps.length) (hst : st = argsL.reverse ++ .ref a :: rest) (E : Exa Z h a C) (hef : ∀ m, entryFrame m (.ref a :: argsL).toArray maxL' = mkF m 0 Ls1 []) (hsz : Ls.size = maxL)
    (hR1 : R'.frames + 1 ≤ R.frames) (hW : (rest.map fun v => v.category).sum = wd) (hR2 : wd + (maxL' + 11) + R'.locals ≤ R.locals) (hc : k + R'.cells ≤ R.cells) (hs : n + R'.slots ≤ R.slots)
    (G : Go l Z y' code' maxL' ret' R' n0 (RN P) h 0 0 0 Ls1 []) (K : ∀ h', P h' → Go l Z mn code maxL ret R n0 Q h' (k + R'.cells) (n + R'.slots) q Ls rest) : Go l Z mn code maxL ret R n0 Q h k n pc Ls st :=
  Go.callV hd hq w1 w2 w3 w4 w5 w6 hy pn pd hl hst E hef hsz hR1 hW hR2 hc hs G fun v h' ⟨e, q⟩ => by subst e; exact K h' q
theorem Go.callIN {P : Heap → Prop} {a : Addr} (hd : decode code pc = .ok (.invokespecial i, 3)) (hq : q = pc + 3) (hn1 : y'.name = "<init>") (w1 : (Jvm.Cond.methodLink mn.cls i y').before a0 Z = true) (w2 : (Jvm.Cond.instanceMethod y').before a0 Z = true) (w3 : (Jvm.Cond.initialized y'.cls).before a0 Z = true) (w4 : (Jvm.Cond.code y' code' maxL' none).before a0 Z = true)
    (hy : y'.cls ≠ "java/lang/invoke/MethodHandle" ∧ y'.cls ≠ "java/lang/invoke/VarHandle") (pn : plainName y'.cls = true) (pd : parseMethodDescriptor y'.desc = some ⟨ps, r⟩) (hl : argsL.length = ps.length) (hst : st = argsL.reverse ++ .ref a :: rest) (hef : ∀ m, entryFrame m (.ref a :: argsL).toArray maxL' = mkF m 0 Ls1 []) (hsz : Ls.size = maxL)
    (hR1 : R'.frames + 1 ≤ R.frames) (hW : (rest.map fun v => v.category).sum = wd) (hR2 : wd + (maxL' + 11) + R'.locals ≤ R.locals) (hc : k + R'.cells ≤ R.cells) (hs : n + R'.slots ≤ R.slots)
    (G : Go l Z y' code' maxL' none R' n0 (RN P) h 0 0 0 Ls1 []) (K : ∀ h', P h' → Go l Z mn code maxL ret R n0 Q h' (k + R'.cells) (n + R'.slots) q Ls rest) : Go l Z mn code maxL ret R n0 Q h k n pc Ls st :=
  Go.callI hd hq hn1 w1 w2 w3 w4 hy pn pd hl hst hef hsz hR1 hW hR2 hc hs G fun v h' ⟨e, q⟩ => by subst e; exact K h' q
end Calls
section Rets
variable {l : Launch} {Z : State} {mn : MethodName} {code : ByteArray} {maxL : Nat} {R : Room} {n0 : Nat} {Q : Option Value → Heap → Prop} {h : Heap} {k n pc q : Nat} {Ls : Array Slot} {st : List Value}
theorem Go.retOut {w : Value} {t : FieldType} {i : Instr} (hd : decode code pc = .ok (i, 1)) (hna : narrow t w = w)
    (hi : (i = .ireturn ∧ (t = .int ∨ t = .boolean ∨ t = .byte ∨ t = .char ∨ t = .short) ∧ ∃ z, w = .int z) ∨ (i = .lreturn ∧ t = .long ∧ ∃ z, w = .long z) ∨ (i = .dreturn ∧ t = .double ∧ ∃ z, w = .double z) ∨ (i = .freturn ∧ t = .float ∧ ∃ z, w = .float z) ∨ (i = .areturn ∧ t.isReference = true ∧ w.isRef = true))
    (hk : k ≤ R.cells) (hn : n ≤ R.slots) (hQ : Q (some w) h) : Go l Z mn code maxL (some t) R n0 Q h k n pc Ls (w :: st) := by
  intro p e s m args below meth c T locs k' n' C X hk' hn' N eT
  obtain ⟨fs, hr, hrun, hended, hW, hsame⟩ := X.leave (v := some w) (fun hh => by rw [C.2.2.2.2.2.1] at hh; cases hh) C.2.2.2.2.2.2.1
  exact ⟨_, _, RoadKit.retOut X C.1 C.2.2.2.2.2.1 hna hi (hb C.2.2.1 hd) hr, hrun, hended, _, locs, rfl, ⟨N, by show Q _ T.heap; rw [eT]; exact hQ⟩, ⟨_, rfl⟩, hW, hsame.mono (by omega) (by omega)⟩
theorem Go.ireturn {z : Int32} (hd : decode code pc = .ok (.ireturn, 1)) (hk : k ≤ R.cells) (hn : n ≤ R.slots) (hQ : Q (some (.int z)) h) : Go l Z mn code maxL (some .int) R n0 Q h k n pc Ls (.int z :: st) :=
  Go.retOut hd rfl (Or.inl ⟨rfl, Or.inl rfl, z, rfl⟩) hk hn hQ
theorem Go.zreturn {z : Int32} (hd : decode code pc = .ok (.ireturn, 1)) (hk : k ≤ R.cells) (hn : n ≤ R.slots) (hz : z = 0 ∨ z = 1) (hQ : Q (some (.int z)) h) : Go l Z mn code maxL (some .boolean) R n0 Q h k n pc Ls (.int z :: st) :=
  Go.retOut hd (by rcases hz with rfl | rfl <;> rfl) (Or.inl ⟨rfl, Or.inr (Or.inl rfl), z, rfl⟩) hk hn hQ
theorem Go.creturn {z : Int32} (hd : decode code pc = .ok (.ireturn, 1)) (hk : k ≤ R.cells) (hn : n ≤ R.slots) (hz : narrow .char (.int z) = .int z) (hQ : Q (some (.int z)) h) : Go l Z mn code maxL (some .char) R n0 Q h k n pc Ls (.int z :: st) :=
  Go.retOut hd hz (Or.inl ⟨rfl, Or.inr (Or.inr (Or.inr (Or.inl rfl))), z, rfl⟩) hk hn hQ
theorem Go.lreturn {z : Int64} (hd : decode code pc = .ok (.lreturn, 1)) (hk : k ≤ R.cells) (hn : n ≤ R.slots) (hQ : Q (some (.long z)) h) : Go l Z mn code maxL (some .long) R n0 Q h k n pc Ls (.long z :: st) :=
  Go.retOut hd rfl (Or.inr (Or.inl ⟨rfl, rfl, z, rfl⟩)) hk hn hQ
theorem Go.areturn {w : Value} {t : FieldType} (hd : decode code pc = .ok (.areturn, 1)) (hk : k ≤ R.cells) (hn : n ≤ R.slots) (ht : t.isReference = true) (hw : w.isRef = true) (hQ : Q (some w) h) : Go l Z mn code maxL (some t) R n0 Q h k n pc Ls (w :: st) :=
  Go.retOut hd (by rcases ref_cases hw with rfl | ⟨a, rfl⟩ <;> cases t <;> first | exact absurd ht (by decide) | rfl) (Or.inr (Or.inr (Or.inr (Or.inr ⟨rfl, ht, hw⟩)))) hk hn hQ
theorem Go.vreturn (hd : decode code pc = .ok (.return_, 1)) (hk : k ≤ R.cells) (hn : n ≤ R.slots) (hQ : Q none h) : Go l Z mn code maxL none R n0 Q h k n pc Ls [] := by
  intro p e s m args below meth c T locs k' n' C X hk' hn' N eT
  obtain ⟨fs, hr, hrun, hended, hW, hsame⟩ := X.leave (v := none) (fun _ => rfl) C.2.2.2.2.2.2.1
  exact ⟨_, _, X.returnOut C.1 C.2.2.2.2.2.1 (hb C.2.2.1 hd) hr, hrun, hended, _, locs, rfl, ⟨N, by show Q _ T.heap; rw [eT]; exact hQ⟩, ⟨_, rfl⟩, hW, hsame.mono (by omega) (by omega)⟩
end Rets
/-- an array's whole content -/
def Ar (Z : State) (h : Heap) (a : Addr) (ty : FieldType) (cA : ClassId) (vs : List Value) : Prop := ∃ c : Cell, Arr Z h a c ty ∧ c.cls = cA ∧ c.slots.toList = vs
section Arrs
variable {Z : State} {h h' : Heap} {a b : Addr} {ty : FieldType} {cA : ClassId} {vs : List Value} {sl : Nat} {v : Value} {ws : List Addr}
theorem Ar.lt (F : Ar Z h a ty cA vs) : a < h.size := by obtain ⟨c, A, -⟩ := F; exact A.lt
theorem Ar.ext (F : Ar Z h a ty cA vs) (E : Ext h h') : Ar Z h' a ty cA vs := by obtain ⟨c, A, r⟩ := F; exact ⟨c, A.ext E, r⟩
theorem Ar.other (F : Ar Z h b ty cA vs) (W : Wr h h' a sl v) (q : b ≠ a) : Ar Z h' b ty cA vs := by obtain ⟨c, A, r⟩ := F; exact ⟨c, A.other W q, r⟩
theorem Ar.keep (F : Ar Z h a ty cA vs) (K : Keep h h' ws) (q : a ∉ ws) : Ar Z h' a ty cA vs := by obtain ⟨c, A, r⟩ := F; exact ⟨c, ⟨K.2.1 a c A.1 q, A.2⟩, r⟩
theorem Ar.set (F : Ar Z h a ty cA vs) (W : Wr h h' a sl v) : Ar Z h' a ty cA (vs.set sl v) := by
  obtain ⟨c, A, r1, r2⟩ := F
  exact ⟨_, A.same W, r1, by simp [Cell.setSlot, r2]⟩
theorem Ar.size (F : Ar Z h a ty cA vs) {c : Cell} (hc : h[a]? = some c) : c.slots.size = vs.length := by
  obtain ⟨c', A, -, r⟩ := F
  cases hc.symm.trans A.1
  rw [← r]; simp
theorem Ar.ne {C : String} {k : Nat} {a0 : Array Value} (F : Exa Z h b C) (wi : (Jvm.Cond.instantiable C k).before a0 Z = true) (G : Ar Z h a ty cA vs) : b ≠ a := by
  obtain ⟨c, A, -⟩ := G; exact ne_arr F wi A
end Arrs
section ArrSteps
variable {l : Launch} {Z : State} {mn : MethodName} {code : ByteArray} {maxL : Nat} {ret : Option FieldType} {R : Room} {n0 : Nat} {Q : Option Value → Heap → Prop} {h : Heap} {k n pc q : Nat} {Ls : Array Slot} {st : List Value} {a0 : Array Value} {a : Addr} {ty : FieldType} {cA : ClassId} {vs : List Value} {v : Value} {j x : Int32}
theorem inb {c : Cell} (hj : ¬ j < 0) (r : c.slots.toList = vs) (hv : j.toNatClampNeg < vs.length) : ¬ (j < 0 ∨ c.slots.size ≤ j.toNatClampNeg) := by
  rintro (q | q)
  · exact hj q
  · rw [← r] at hv; simp at hv; omega
theorem at_l {c : Cell} {i : Nat} (r : c.slots.toList = vs) (hv : vs[i]? = some v) : c.slots[i]? = some v := by rw [← r] at hv; simpa using hv
theorem Go.arraylength (hd : decode code pc = .ok (.arraylength, 1)) (hq : q = pc + 1) (A : Ar Z h a ty cA vs) {z : Int32} (hz : vs.length.toInt32 = z) (K : Go l Z mn code maxL ret R n0 Q h k n q Ls (.int z :: st)) : Go l Z mn code maxL ret R n0 Q h k n pc Ls (.ref a :: st) := by
  subst hq hz
  intro p e s m args below meth c T locs k' n' C X hk hn N eT
  obtain ⟨cl, A, r1, r2⟩ := A
  exact (K p e s m args below meth c T locs k' n' C X hk hn N eT).step fun t r => X.arraylength (g := mkF m pc Ls (.ref a :: st)) C.1 (by rw [eT]; exact A.1) (State.isArrayOf_alike C.2.1.alike A.2.1) rfl rfl (hb C.2.2.1 hd) t (by rw [show cl.slots.size = vs.length by rw [← r2]; simp]; exact r)
theorem Go.iaload (hd : decode code pc = .ok (.iaload, 1)) (hq : q = pc + 1) (A : Ar Z h a .int cA vs) (hj : ¬ j < 0) (hv : vs[j.toNatClampNeg]? = some v) (K : Go l Z mn code maxL ret R n0 Q h k n q Ls (v :: st)) : Go l Z mn code maxL ret R n0 Q h k n pc Ls (.int j :: .ref a :: st) := by
  subst hq
  intro p e s m args below meth c T locs k' n' C X hk hn N eT
  obtain ⟨cl, A, r1, r2⟩ := A
  exact (K p e s m args below meth c T locs k' n' C X hk hn N eT).step fun t r => X.iaload (g := mkF m pc Ls (.int j :: .ref a :: st)) C.1 (by rw [eT]; exact A.1) (State.isArrayOf_alike C.2.1.alike A.2.1) A.2.2 (inb hj r2 (List.getElem?_eq_some_iff.mp hv).1) (at_l r2 hv) rfl rfl (hb C.2.2.1 hd) t r
theorem Go.laload (hd : decode code pc = .ok (.laload, 1)) (hq : q = pc + 1) (A : Ar Z h a .long cA vs) (hj : ¬ j < 0) (hv : vs[j.toNatClampNeg]? = some v) (K : Go l Z mn code maxL ret R n0 Q h k n q Ls (v :: st)) : Go l Z mn code maxL ret R n0 Q h k n pc Ls (.int j :: .ref a :: st) := by
  subst hq
  intro p e s m args below meth c T locs k' n' C X hk hn N eT
  obtain ⟨cl, A, r1, r2⟩ := A
  exact (K p e s m args below meth c T locs k' n' C X hk hn N eT).step fun t r => X.laload (g := mkF m pc Ls (.int j :: .ref a :: st)) C.1 (by rw [eT]; exact A.1) (State.isArrayOf_alike C.2.1.alike A.2.1) A.2.2 (inb hj r2 (List.getElem?_eq_some_iff.mp hv).1) (at_l r2 hv) rfl rfl (hb C.2.2.1 hd) t r
theorem Go.caload (hd : decode code pc = .ok (.caload, 1)) (hq : q = pc + 1) (A : Ar Z h a .char cA vs) (hj : ¬ j < 0) (hv : vs[j.toNatClampNeg]? = some v) (K : Go l Z mn code maxL ret R n0 Q h k n q Ls (v :: st)) : Go l Z mn code maxL ret R n0 Q h k n pc Ls (.int j :: .ref a :: st) := by
  subst hq
  intro p e s m args below meth c T locs k' n' C X hk hn N eT
  obtain ⟨cl, A, r1, r2⟩ := A
  exact (K p e s m args below meth c T locs k' n' C X hk hn N eT).step fun t r => X.caload (g := mkF m pc Ls (.int j :: .ref a :: st)) C.1 (by rw [eT]; exact A.1) (State.isArrayOf_alike C.2.1.alike A.2.1) A.2.2 (inb hj r2 (List.getElem?_eq_some_iff.mp hv).1) (at_l r2 hv) rfl rfl (hb C.2.2.1 hd) t r
theorem Go.zaload (hd : decode code pc = .ok (.baload, 1)) (hq : q = pc + 1) (A : Ar Z h a .boolean cA vs) (hj : ¬ j < 0) (hv : vs[j.toNatClampNeg]? = some v) (K : Go l Z mn code maxL ret R n0 Q h k n q Ls (v :: st)) : Go l Z mn code maxL ret R n0 Q h k n pc Ls (.int j :: .ref a :: st) := by
  subst hq
  intro p e s m args below meth c T locs k' n' C X hk hn N eT
  obtain ⟨cl, A, r1, r2⟩ := A
  exact (K p e s m args below meth c T locs k' n' C X hk hn N eT).step fun t r => X.baloadBooleans (g := mkF m pc Ls (.int j :: .ref a :: st)) C.1 (by rw [eT]; exact A.1) (State.isArrayOf_alike C.2.1.alike A.2.1) A.2.2 (inb hj r2 (List.getElem?_eq_some_iff.mp hv).1) (at_l r2 hv) rfl rfl (hb C.2.2.1 hd) t r
theorem Go.baload (hd : decode code pc = .ok (.baload, 1)) (hq : q = pc + 1) (A : Ar Z h a .byte cA vs) (hj : ¬ j < 0) (hv : vs[j.toNatClampNeg]? = some v) (K : Go l Z mn code maxL ret R n0 Q h k n q Ls (v :: st)) : Go l Z mn code maxL ret R n0 Q h k n pc Ls (.int j :: .ref a :: st) := by
  subst hq
  intro p e s m args below meth c T locs k' n' C X hk hn N eT
  obtain ⟨cl, A, r1, r2⟩ := A
  exact (K p e s m args below meth c T locs k' n' C X hk hn N eT).step fun t r => X.baloadBytes (g := mkF m pc Ls (.int j :: .ref a :: st)) C.1 (by rw [eT]; exact A.1) (State.isArrayOf_alike C.2.1.alike A.2.1) A.2.2 (inb hj r2 (List.getElem?_eq_some_iff.mp hv).1) (at_l r2 hv) rfl rfl (hb C.2.2.1 hd) t r
theorem Go.aaload (hd : decode code pc = .ok (.aaload, 1)) (hq : q = pc + 1) (A : Ar Z h a ty cA vs) (ht : ty.isReference = true) (hj : ¬ j < 0) (hv : vs[j.toNatClampNeg]? = some v) (K : Go l Z mn code maxL ret R n0 Q h k n q Ls (v :: st)) : Go l Z mn code maxL ret R n0 Q h k n pc Ls (.int j :: .ref a :: st) := by
  subst hq
  intro p e s m args below meth c T locs k' n' C X hk hn N eT
  obtain ⟨cl, A, r1, r2⟩ := A
  exact (K p e s m args below meth c T locs k' n' C X hk hn N eT).step fun t r => X.aaload (g := mkF m pc Ls (.int j :: .ref a :: st)) C.1 (by rw [eT]; exact A.1) (State.isArrayOf_alike C.2.1.alike A.2.1) ht A.2.2 (inb hj r2 (List.getElem?_eq_some_iff.mp hv).1) (at_l r2 hv) rfl rfl (hb C.2.2.1 hd) t r
theorem Go.iastore (hd : decode code pc = .ok (.iastore, 1)) (hq : q = pc + 1) (A : Ar Z h a .int cA vs) (hj : ¬ j < 0) (hv : j.toNatClampNeg < vs.length) (ha : n0 ≤ a) (K : ∀ h', Wr h h' a j.toNatClampNeg (.int x) → Go l Z mn code maxL ret R n0 Q h' k n q Ls st) : Go l Z mn code maxL ret R n0 Q h k n pc Ls (.int x :: .int j :: .ref a :: st) := by
  subst hq
  intro p e s m args below meth c T locs k' n' C X hk hn N eT
  obtain ⟨cl, A, r1, r2⟩ := A
  obtain ⟨T', h', X', e', W, f⟩ := stI X C.1 C.2.1 eT A (inb hj r2 hv) (g := mkF m pc Ls (.int x :: .int j :: .ref a :: st)) rfl rfl (hb C.2.2.1 hd)
  exact (K h' W p e s m args below meth c T' _ k' n' C X' hk hn (Fr.snoc X' N ha) e').step f
theorem Go.lastore {x : Int64} (hd : decode code pc = .ok (.lastore, 1)) (hq : q = pc + 1) (A : Ar Z h a .long cA vs) (hj : ¬ j < 0) (hv : j.toNatClampNeg < vs.length) (ha : n0 ≤ a) (K : ∀ h', Wr h h' a j.toNatClampNeg (.long x) → Go l Z mn code maxL ret R n0 Q h' k n q Ls st) : Go l Z mn code maxL ret R n0 Q h k n pc Ls (.long x :: .int j :: .ref a :: st) := by
  subst hq
  intro p e s m args below meth c T locs k' n' C X hk hn N eT
  obtain ⟨cl, A, r1, r2⟩ := A
  obtain ⟨T', h', X', e', W, f⟩ := stJ X C.1 C.2.1 eT A (inb hj r2 hv) (g := mkF m pc Ls (.long x :: .int j :: .ref a :: st)) rfl rfl (hb C.2.2.1 hd)
  exact (K h' W p e s m args below meth c T' _ k' n' C X' hk hn (Fr.snoc X' N ha) e').step f
theorem Go.castore (hd : decode code pc = .ok (.castore, 1)) (hq : q = pc + 1) (A : Ar Z h a .char cA vs) (hj : ¬ j < 0) (hv : j.toNatClampNeg < vs.length) (ha : n0 ≤ a) (K : ∀ h', Wr h h' a j.toNatClampNeg (.int (nar .char x)) → Go l Z mn code maxL ret R n0 Q h' k n q Ls st) : Go l Z mn code maxL ret R n0 Q h k n pc Ls (.int x :: .int j :: .ref a :: st) := by
  subst hq
  intro p e s m args below meth c T locs k' n' C X hk hn N eT
  obtain ⟨cl, A, r1, r2⟩ := A
  obtain ⟨T', h', X', e', W, f⟩ := stC X C.1 C.2.1 eT A (inb hj r2 hv) (g := mkF m pc Ls (.int x :: .int j :: .ref a :: st)) rfl rfl (hb C.2.2.1 hd)
  exact (K h' W p e s m args below meth c T' _ k' n' C X' hk hn (Fr.snoc X' N ha) e').step f
theorem Go.zastore (hd : decode code pc = .ok (.bastore, 1)) (hq : q = pc + 1) (A : Ar Z h a .boolean cA vs) (hj : ¬ j < 0) (hv : j.toNatClampNeg < vs.length) (ha : n0 ≤ a) (K : ∀ h', Wr h h' a j.toNatClampNeg (.int (nar .boolean x)) → Go l Z mn code maxL ret R n0 Q h' k n q Ls st) : Go l Z mn code maxL ret R n0 Q h k n pc Ls (.int x :: .int j :: .ref a :: st) := by
  subst hq
  intro p e s m args below meth c T locs k' n' C X hk hn N eT
  obtain ⟨cl, A, r1, r2⟩ := A
  obtain ⟨T', h', X', e', W, f⟩ := stZ X C.1 C.2.1 eT A (inb hj r2 hv) (g := mkF m pc Ls (.int x :: .int j :: .ref a :: st)) rfl rfl (hb C.2.2.1 hd)
  exact (K h' W p e s m args below meth c T' _ k' n' C X' hk hn (Fr.snoc X' N ha) e').step f
theorem Go.aastore (hd : decode code pc = .ok (.aastore, 1)) (hq : q = pc + 1) (A : Ar Z h a ty cA vs) (ht : ty.isReference = true) (hj : ¬ j < 0) (hv : j.toNatClampNeg < vs.length) (S : Sto Z h a v) (ha : n0 ≤ a) (K : ∀ h', Wr h h' a j.toNatClampNeg v → Go l Z mn code maxL ret R n0 Q h' k n q Ls st) : Go l Z mn code maxL ret R n0 Q h k n pc Ls (v :: .int j :: .ref a :: st) := by
  subst hq
  intro p e s m args below meth c T locs k' n' C X hk hn N eT
  obtain ⟨cl, A, r1, r2⟩ := A
  obtain ⟨T', h', X', e', W, f⟩ := stR X C.1 C.2.1 eT A (inb hj r2 hv) ht S (g := mkF m pc Ls (v :: .int j :: .ref a :: st)) rfl rfl (hb C.2.2.1 hd)
  exact (K h' W p e s m args below meth c T' _ k' n' C X' hk hn (Fr.snoc X' N ha) e').step f
theorem Go.newarray {aty : ArrayType} {z : Int32} {cap : Nat} (hd : decode code pc = .ok (.newarray aty, 2)) (hq : q = pc + 2) (w : (Jvm.Cond.arrayClass (newarray.typeOf aty)).before a0 Z = true) (hz : ¬ z < 0) (hcap : z.toNatClampNeg ≤ cap) (hb8 : cap * 8 ≤ 536870912) (hc : k + 1 ≤ R.cells) (hs : n + cap ≤ R.slots)
    (K : ∀ h' a cA, a = h.size → Ext h h' → Ar Z h' a (newarray.typeOf aty) cA (List.replicate z.toNatClampNeg (defaultValue (newarray.typeOf aty))) → Go l Z mn code maxL ret R n0 Q h' (k + 1) (n + cap) q Ls (.ref a :: st)) : Go l Z mn code maxL ret R n0 Q h k n pc Ls (.int z :: st) := by
  subst hq
  intro p e s m args below meth c T locs k' n' C X hk hn N eT
  obtain ⟨T', h', cA, X', e', E, A, f⟩ := newP X C.1 C.2.1 w eT (g := mkF m pc Ls (.int z :: st)) rfl (hb C.2.2.1 hd) rfl hz hcap hb8 (by omega) (by omega)
  exact (K h' h.size cA rfl E ⟨_, A, rfl, by simp [newA]⟩ p e s m args below meth c T' locs _ _ C X' (by omega) (by omega) N e').step f
theorem Go.anewarray {C : String} {i : Nat} {z : Int32} {cap : Nat} (hd : decode code pc = .ok (.anewarray i, 3)) (hq : q = pc + 3) (w1 : (Jvm.Cond.classLink mn.cls i C).before a0 Z = true) (w2 : (Jvm.Cond.arrayOver (.object C)).before a0 Z = true) (hz : ¬ z < 0) (hcap : z.toNatClampNeg ≤ cap) (hb8 : cap * 8 ≤ 536870912) (hc : k + 1 ≤ R.cells) (hs : n + cap ≤ R.slots)
    (K : ∀ h' a cA, a = h.size → Ext h h' → Ar Z h' a (.object C) cA (List.replicate z.toNatClampNeg .null) → Ovr Z cA C → Go l Z mn code maxL ret R n0 Q h' (k + 1) (n + cap) q Ls (.ref a :: st)) : Go l Z mn code maxL ret R n0 Q h k n pc Ls (.int z :: st) := by
  subst hq
  intro p e s m args below meth c T locs k' n' Cc X hk hn N eT
  obtain ⟨T', h', cA, X', e', E, A, O, f⟩ := newR X Cc.1 Cc.2.1 Cc.2.2.2.2.1 w1 w2 eT (g := mkF m pc Ls (.int z :: st)) rfl (hb Cc.2.2.1 hd) rfl hz hcap hb8 (by omega) (by omega)
  exact (K h' h.size cA rfl E ⟨_, A, rfl, by simp [newA, defaultValue]⟩ O p e s m args below meth c T' locs _ _ Cc X' (by omega) (by omega) N e').step f
theorem sto_of {C : String} {b : Addr} (A : Ar Z h a ty cA vs) (O : Ovr Z cA C) (I : Ins Z h b C true) : Sto Z h a (.ref b) := by
  obtain ⟨c, A, q, -⟩ := A
  exact Sto.ofV A q O I
end ArrSteps
end Jvm.OwnKit
namespace Jvm.OwnKit
open Jvm Jvm.ClassFile Sem Op Lib Jvm.Free Jvm.Stand Jvm.LawKit Jvm.RoadKit
section Case
variable {args : Array Value} {s : State} {idx : List Nat} {t u : Term} {a b : Addr} {ty : FieldType} {cA : ClassId} {vs : List Value} {O nm d C K : String}
theorem eq_int {v : Int32} (h : (Jvm.Cond.eq t (.int v)).value args s none s idx = some true) : t.eval args s none idx s = some (.int v) := by
  cases ha : t.eval args s none idx s with
  | none => simp [Jvm.Cond.value, ha] at h
  | some x => cases x <;> simp [Jvm.Cond.value, Term.eval, ha] at h ⊢ <;> exact h
theorem eq_long {v : Int64} (h : (Jvm.Cond.eq t (.long v)).value args s none s idx = some true) : t.eval args s none idx s = some (.long v) := by
  cases ha : t.eval args s none idx s with
  | none => simp [Jvm.Cond.value, ha] at h
  | some x => cases x <;> simp [Jvm.Cond.value, Term.eval, ha] at h ⊢ <;> exact h
theorem eq_ref (h : (Jvm.Cond.eq t u).value args s none s idx = some true) (hu : u.eval args s none idx s = some (.ref b)) : t.eval args s none idx s = some (.ref b) := by
  cases ha : t.eval args s none idx s with
  | none => simp [Jvm.Cond.value, ha] at h
  | some x => cases x <;> simp [Jvm.Cond.value, ha, hu] at h ⊢ <;> exact h
theorem sta_ref (h : (Jvm.Cond.exactly (.static C nm d) K).value args s none s [] = some true) (h1 : (Jvm.Cond.initialized C).before args s = true) (h2 : (Jvm.Cond.laysStatic C nm d).before args s = true) : ∃ a, (Term.static C nm d).eval args s none [] s = some (.ref a) ∧ Sta s s.heap C nm d (.ref a) ∧ Exa s s.heap a K := by
  obtain ⟨a, ea⟩ := exa_v h
  exact ⟨a, ea, Sta.start ea (Or.inr ⟨h1, h2⟩), Exa.start ea h⟩
theorem sta_arr (h : (Jvm.Cond.arrayOf (.static C nm d) ty).value args s none s [] = some true) (h1 : (Jvm.Cond.initialized C).before args s = true) (h2 : (Jvm.Cond.laysStatic C nm d).before args s = true) : ∃ a cA vs, (Term.static C nm d).eval args s none [] s = some (.ref a) ∧ Sta s s.heap C nm d (.ref a) ∧ Ar s s.heap a ty cA vs := by
  obtain ⟨a, ea⟩ := arr_v h
  obtain ⟨c, A⟩ := Arr.start ea h
  exact ⟨a, c.cls, c.slots.toList, ea, Sta.start ea (Or.inr ⟨h1, h2⟩), c, A, rfl, rfl⟩
theorem fld_int {v : Int32} (ev : t.eval args s none [] s = some (.ref a)) (h : (Jvm.Cond.eq (.field t O nm d) (.int v)).value args s none s [] = some true) : Fld s s.heap a O nm d (.int v) := Fld.start ((fld_at ev).symm.trans (eq_int h))
theorem fld_long {v : Int64} (ev : t.eval args s none [] s = some (.ref a)) (h : (Jvm.Cond.eq (.field t O nm d) (.long v)).value args s none s [] = some true) : Fld s s.heap a O nm d (.long v) := Fld.start ((fld_at ev).symm.trans (eq_long h))
theorem nat_small {m : Nat} (h : m < 2 ^ 31) : m.toInt32.toNatClampNeg = m := by
  show m.toInt32.toInt.toNat = m
  rw [len_toInt h]; rfl
theorem Ar.at_start (A : Ar s s.heap a ty cA vs) : ∃ c : Cell, s.arrayAt? a = some c ∧ c.slots.toList = vs ∧ c.slots.size = vs.length := by
  obtain ⟨c, A, -, r⟩ := A
  exact ⟨c, A.fin (Vm.Alike.refl _), r, by rw [← r]; simp⟩
theorem arr_len {z : Int32} (ev : t.eval args s none [] s = some (.ref a)) (A : Ar s s.heap a ty cA vs) (h : (Jvm.Cond.eq (.length t) (.int z)).value args s none s [] = some true) : vs.length = z.toNatClampNeg := by
  obtain ⟨c, hc, -, r⟩ := A.at_start
  have e := eq_int h
  simp only [Term.eval, ev, hc, Option.bind_eq_bind, Option.bind_some] at e
  split at e
  · rename_i q
    have e2 : c.slots.size.toInt32 = z := by simpa using e
    rw [← e2, nat_small q, r]
  · simp at e
theorem arr_elem {j : Int32} {v : Int32} (ev : t.eval args s none [] s = some (.ref a)) (A : Ar s s.heap a ty cA vs) (h : (Jvm.Cond.eq (.elem t (.int j)) (.int v)).value args s none s [] = some true) : vs[j.toNatClampNeg]? = some (.int v) := by
  obtain ⟨c, hc, r, -⟩ := A.at_start
  have e := eq_int h
  simp only [Term.eval, ev, hc, Option.bind_eq_bind, Option.bind_some] at e
  split at e
  · simp at e
  · rw [← r]; simpa using e
theorem arr_elemR {j : Int32} {u : Term} {b : Addr} (ev : t.eval args s none [] s = some (.ref a)) (A : Ar s s.heap a ty cA vs) (h : (Jvm.Cond.eq (.elem t (.int j)) u).value args s none s [] = some true) (hu : u.eval args s none [] s = some (.ref b)) : vs[j.toNatClampNeg]? = some (.ref b) := by
  obtain ⟨c, hc, r, -⟩ := A.at_start
  have e := eq_ref h hu
  simp only [Term.eval, ev, hc, Option.bind_eq_bind, Option.bind_some] at e
  split at e
  · simp at e
  · rw [← r]; simpa using e
theorem fold_no {f : Nat → Option Bool} {x : Option Bool} (hx : x ≠ some true) : ∀ L : List Nat, L.foldl (fun acc i => match acc with | some true => f i | x => x) x = x
  | [] => rfl
  | i :: L => by
    rw [List.foldl_cons]
    rcases x with _ | _ | _
    · exact fold_no hx L
    · exact fold_no hx L
    · exact absurd rfl hx
theorem fold_all {f : Nat → Option Bool} : ∀ L : List Nat, L.foldl (fun acc i => match acc with | some true => f i | x => x) (some true) = some true → ∀ i ∈ L, f i = some true
  | [], _, i, hi => nomatch hi
  | j :: L, h, i, hi => by
    rw [List.foldl_cons] at h
    by_cases hj : f j = some true
    · have h' : L.foldl (fun acc i => match acc with | some true => f i | x => x) (f j) = some true := h
      rw [hj] at h'
      rcases List.mem_cons.mp hi with rfl | hi
      · exact hj
      · exact fold_all L h' i hi
    · have h' : L.foldl (fun acc i => match acc with | some true => f i | x => x) (f j) = some true := h
      rw [fold_no hj L] at h'
      exact absurd h' hj
theorem arr_all {c : Jvm.Cond} (ev : t.eval args s none [] s = some (.ref a)) (A : Ar s s.heap a ty cA vs) (h : (Jvm.Cond.all t c).value args s none s [] = some true) : ∀ i, i < vs.length → c.value args s none s [i] = some true := by
  obtain ⟨cl, hc, -, r⟩ := A.at_start
  intro i hi
  simp only [Jvm.Cond.value, ev, hc] at h
  exact fold_all _ h i (List.mem_range.mpr (by omega))
theorem all_elem {i : Nat} {v : Int32} (ev : t.eval args s none [i] s = some (.ref a)) (A : Ar s s.heap a ty cA vs) (hi : i < 2 ^ 31) (h : (Jvm.Cond.eq (.elem t (.index 0)) (.int v)).value args s none s [i] = some true) : vs[i]? = some (.int v) := by
  obtain ⟨c, hc, r, -⟩ := A.at_start
  have e := eq_int h
  simp only [Term.eval, ev, hc, Option.bind_eq_bind, Option.bind_some, List.getElem?_cons_zero, Option.map_some] at e
  split at e
  · simp at e
  · rw [← r]; rw [nat_small hi] at e; simpa using e
theorem all_le {i : Nat} {v : Int32} {c : Jvm.Cond} (hi : i < 2 ^ 31) (h : (Jvm.Cond.or (.le (.int v) (.index 0)) c).value args s none s [i] = some true) : v.toInt ≤ i ∨ c.value args s none s [i] = some true := by
  simp only [Jvm.Cond.value, Term.eval, List.getElem?_cons_zero, Option.map_some] at h
  by_cases q : v ≤ i.toInt32
  · left; rw [Int32.le_iff_toInt_le, len_toInt hi] at q; exact q
  · right; simpa [q] using h
theorem all_lt {i : Nat} {v : Int32} {c : Jvm.Cond} (hi : i < 2 ^ 31) (h : (Jvm.Cond.or (.lt (.index 0) (.int v)) c).value args s none s [i] = some true) : (i : Int) < v.toInt ∨ c.value args s none s [i] = some true := by
  simp only [Jvm.Cond.value, Term.eval, List.getElem?_cons_zero, Option.map_some] at h
  by_cases q : i.toInt32 < v
  · left; rw [Int32.lt_iff_toInt_lt, len_toInt hi] at q; exact q
  · right; simpa [q] using h
theorem sta_idx {C nm d : String} {idx : List Nat} {v : Value} (ev : (Term.static C nm d).eval args s none [] s = some v) : (Term.static C nm d).eval args s none idx s = some v := ev
end Case
end Jvm.OwnKit
namespace Jvm.Pilot.@@N@@
open Jvm Jvm.ClassFile Sem Op Lib Jvm.Free Jvm.Stand Jvm.LawKit Jvm.RoadKit Bundle Jvm.OwnKit Jvm.Pilot.@@N@@.Jvm.D
def Hw (a0 : Array Value) (Z : State) : Prop := ∀ d ∈ tables_1, d.before a0 Z = true
theorem w0 {a0 : Array Value} {Z : State} (hw : Hw a0 Z) : ((Jvm.Cond.constant "com/example/fieldpath/fieldpath/record/TypeIsIntegerPinLaw" (46 : Nat) (2147483647 : Int32)) : Jvm.Cond).before a0 Z = true := hw _ (List.mem_of_getElem? (i := 0) rfl)
theorem w1 {a0 : Array Value} {Z : State} (hw : Hw a0 Z) : ((Jvm.Cond.methodLink "com/example/fieldpath/fieldpath/record/TypeIsIntegerPinLaw" (47 : Nat) ({ cls := "com/example/fieldpath/fieldpath/record/TypeIsIntegerPinLaw", name := "pick", desc := "(I)Lcom/example/fieldpath/fieldpath/record/Schema$Type;" } : Jvm.MethodName)) : Jvm.Cond).before a0 Z = true := hw _ (List.mem_of_getElem? (i := 1) rfl)
theorem w2 {a0 : Array Value} {Z : State} (hw : Hw a0 Z) : ((Jvm.Cond.static ({ cls := "com/example/fieldpath/fieldpath/record/TypeIsIntegerPinLaw", name := "pick", desc := "(I)Lcom/example/fieldpath/fieldpath/record/Schema$Type;" } : Jvm.MethodName)) : Jvm.Cond).before a0 Z = true := hw _ (List.mem_of_getElem? (i := 2) rfl)
theorem w3 {a0 : Array Value} {Z : State} (hw : Hw a0 Z) : ((Jvm.Cond.initialized "com/example/fieldpath/fieldpath/record/TypeIsIntegerPinLaw") : Jvm.Cond).before a0 Z = true := hw _ (List.mem_of_getElem? (i := 3) rfl)
theorem w4 {a0 : Array Value} {Z : State} (hw : Hw a0 Z) : ((Jvm.Cond.code ({ cls := "com/example/fieldpath/fieldpath/record/TypeIsIntegerPinLaw", name := "pick", desc := "(I)Lcom/example/fieldpath/fieldpath/record/Schema$Type;" } : Jvm.MethodName) method_2_code (1 : Nat) (Option.some (Jvm.ClassFile.FieldType.object "com/example/fieldpath/fieldpath/record/Schema$Type"))) : Jvm.Cond).before a0 Z = true := hw _ (List.mem_of_getElem? (i := 4) rfl)
theorem w5 {a0 : Array Value} {Z : State} (hw : Hw a0 Z) : ((Jvm.Cond.fieldLink "com/example/fieldpath/fieldpath/record/TypeIsIntegerPinLaw" (7 : Nat) "com/example/fieldpath/fieldpath/record/Schema$Type" "INT8" "Lcom/example/fieldpath/fieldpath/record/Schema$Type;") : Jvm.Cond).before a0 Z = true := hw _ (List.mem_of_getElem? (i := 5) rfl)
theorem w6 {a0 : Array Value} {Z : State} (hw : Hw a0 Z) : ((Jvm.Cond.initialized "com/example/fieldpath/fieldpath/record/Schema$Type") : Jvm.Cond).before a0 Z = true := hw _ (List.mem_of_getElem? (i := 6) rfl)
theorem w7 {a0 : Array Value} {Z : State} (hw : Hw a0 Z) : ((Jvm.Cond.laysStatic "com/example/fieldpath/fieldpath/record/Schema$Type" "INT8" "Lcom/example/fieldpath/fieldpath/record/Schema$Type;") : Jvm.Cond).before a0 Z = true := hw _ (List.mem_of_getElem? (i := 7) rfl)
theorem w8 {a0 : Array Value} {Z : State} (hw : Hw a0 Z) : ((Jvm.Cond.methodLink "com/example/fieldpath/fieldpath/record/TypeIsIntegerPinLaw" (53 : Nat) ({ cls := "com/example/fieldpath/fieldpath/record/Schema$Type", name := "isInteger", desc := "()Z" } : Jvm.MethodName)) : Jvm.Cond).before a0 Z = true := hw _ (List.mem_of_getElem? (i := 8) rfl)
theorem w9 {a0 : Array Value} {Z : State} (hw : Hw a0 Z) : ((Jvm.Cond.declares ({ cls := "com/example/fieldpath/fieldpath/record/Schema$Type", name := "isInteger", desc := "()Z" } : Jvm.MethodName)) : Jvm.Cond).before a0 Z = true := hw _ (List.mem_of_getElem? (i := 9) rfl)
theorem w10 {a0 : Array Value} {Z : State} (hw : Hw a0 Z) : ((Jvm.Cond.instanceMethod ({ cls := "com/example/fieldpath/fieldpath/record/Schema$Type", name := "isInteger", desc := "()Z" } : Jvm.MethodName)) : Jvm.Cond).before a0 Z = true := hw _ (List.mem_of_getElem? (i := 10) rfl)
theorem w11 {a0 : Array Value} {Z : State} (hw : Hw a0 Z) : ((Jvm.Cond.selects "com/example/fieldpath/fieldpath/record/Schema$Type" ({ cls := "com/example/fieldpath/fieldpath/record/Schema$Type", name := "isInteger", desc := "()Z" } : Jvm.MethodName) ({ cls := "com/example/fieldpath/fieldpath/record/Schema$Type", name := "isInteger", desc := "()Z" } : Jvm.MethodName)) : Jvm.Cond).before a0 Z = true := hw _ (List.mem_of_getElem? (i := 11) rfl)
theorem w12 {a0 : Array Value} {Z : State} (hw : Hw a0 Z) : ((Jvm.Cond.code ({ cls := "com/example/fieldpath/fieldpath/record/Schema$Type", name := "isInteger", desc := "()Z" } : Jvm.MethodName) prog_21_method_5_code (1 : Nat) (Option.some Jvm.ClassFile.FieldType.boolean)) : Jvm.Cond).before a0 Z = true := hw _ (List.mem_of_getElem? (i := 12) rfl)
theorem w13 {a0 : Array Value} {Z : State} (hw : Hw a0 Z) : ((Jvm.Cond.fieldLink "com/example/fieldpath/fieldpath/record/Schema$Type" (62 : Nat) "com/example/fieldpath/fieldpath/record/Schema$Type" "min" "J") : Jvm.Cond).before a0 Z = true := hw _ (List.mem_of_getElem? (i := 13) rfl)
theorem w15 {a0 : Array Value} {Z : State} (hw : Hw a0 Z) : ((Jvm.Cond.fieldLink "com/example/fieldpath/fieldpath/record/Schema$Type" (66 : Nat) "com/example/fieldpath/fieldpath/record/Schema$Type" "max" "J") : Jvm.Cond).before a0 Z = true := hw _ (List.mem_of_getElem? (i := 15) rfl)
theorem w17 {a0 : Array Value} {Z : State} (hw : Hw a0 Z) : ((Jvm.Cond.fieldLink "com/example/fieldpath/fieldpath/record/TypeIsIntegerPinLaw" (19 : Nat) "com/example/fieldpath/fieldpath/record/Schema$Type" "INT64" "Lcom/example/fieldpath/fieldpath/record/Schema$Type;") : Jvm.Cond).before a0 Z = true := hw _ (List.mem_of_getElem? (i := 17) rfl)
theorem w18 {a0 : Array Value} {Z : State} (hw : Hw a0 Z) : ((Jvm.Cond.laysStatic "com/example/fieldpath/fieldpath/record/Schema$Type" "INT64" "Lcom/example/fieldpath/fieldpath/record/Schema$Type;") : Jvm.Cond).before a0 Z = true := hw _ (List.mem_of_getElem? (i := 18) rfl)
theorem w19 {a0 : Array Value} {Z : State} (hw : Hw a0 Z) : ((Jvm.Cond.fieldLink "com/example/fieldpath/fieldpath/record/TypeIsIntegerPinLaw" (16 : Nat) "com/example/fieldpath/fieldpath/record/Schema$Type" "INT32" "Lcom/example/fieldpath/fieldpath/record/Schema$Type;") : Jvm.Cond).before a0 Z = true := hw _ (List.mem_of_getElem? (i := 19) rfl)
theorem w20 {a0 : Array Value} {Z : State} (hw : Hw a0 Z) : ((Jvm.Cond.laysStatic "com/example/fieldpath/fieldpath/record/Schema$Type" "INT32" "Lcom/example/fieldpath/fieldpath/record/Schema$Type;") : Jvm.Cond).before a0 Z = true := hw _ (List.mem_of_getElem? (i := 20) rfl)
theorem w21 {a0 : Array Value} {Z : State} (hw : Hw a0 Z) : ((Jvm.Cond.fieldLink "com/example/fieldpath/fieldpath/record/TypeIsIntegerPinLaw" (31 : Nat) "com/example/fieldpath/fieldpath/record/Schema$Type" "STRING" "Lcom/example/fieldpath/fieldpath/record/Schema$Type;") : Jvm.Cond).before a0 Z = true := hw _ (List.mem_of_getElem? (i := 21) rfl)
theorem w22 {a0 : Array Value} {Z : State} (hw : Hw a0 Z) : ((Jvm.Cond.laysStatic "com/example/fieldpath/fieldpath/record/Schema$Type" "STRING" "Lcom/example/fieldpath/fieldpath/record/Schema$Type;") : Jvm.Cond).before a0 Z = true := hw _ (List.mem_of_getElem? (i := 22) rfl)
theorem w23 {a0 : Array Value} {Z : State} (hw : Hw a0 Z) : ((Jvm.Cond.fieldLink "com/example/fieldpath/fieldpath/record/TypeIsIntegerPinLaw" (43 : Nat) "com/example/fieldpath/fieldpath/record/Schema$Type" "STRUCT" "Lcom/example/fieldpath/fieldpath/record/Schema$Type;") : Jvm.Cond).before a0 Z = true := hw _ (List.mem_of_getElem? (i := 23) rfl)
theorem w24 {a0 : Array Value} {Z : State} (hw : Hw a0 Z) : ((Jvm.Cond.laysStatic "com/example/fieldpath/fieldpath/record/Schema$Type" "STRUCT" "Lcom/example/fieldpath/fieldpath/record/Schema$Type;") : Jvm.Cond).before a0 Z = true := hw _ (List.mem_of_getElem? (i := 24) rfl)
theorem w25 {a0 : Array Value} {Z : State} (hw : Hw a0 Z) : ((Jvm.Cond.fieldLink "com/example/fieldpath/fieldpath/record/TypeIsIntegerPinLaw" (22 : Nat) "com/example/fieldpath/fieldpath/record/Schema$Type" "FLOAT32" "Lcom/example/fieldpath/fieldpath/record/Schema$Type;") : Jvm.Cond).before a0 Z = true := hw _ (List.mem_of_getElem? (i := 25) rfl)
theorem w26 {a0 : Array Value} {Z : State} (hw : Hw a0 Z) : ((Jvm.Cond.laysStatic "com/example/fieldpath/fieldpath/record/Schema$Type" "FLOAT32" "Lcom/example/fieldpath/fieldpath/record/Schema$Type;") : Jvm.Cond).before a0 Z = true := hw _ (List.mem_of_getElem? (i := 26) rfl)
theorem w27 {a0 : Array Value} {Z : State} (hw : Hw a0 Z) : ((Jvm.Cond.fieldLink "com/example/fieldpath/fieldpath/record/TypeIsIntegerPinLaw" (34 : Nat) "com/example/fieldpath/fieldpath/record/Schema$Type" "BYTES" "Lcom/example/fieldpath/fieldpath/record/Schema$Type;") : Jvm.Cond).before a0 Z = true := hw _ (List.mem_of_getElem? (i := 27) rfl)
theorem w28 {a0 : Array Value} {Z : State} (hw : Hw a0 Z) : ((Jvm.Cond.laysStatic "com/example/fieldpath/fieldpath/record/Schema$Type" "BYTES" "Lcom/example/fieldpath/fieldpath/record/Schema$Type;") : Jvm.Cond).before a0 Z = true := hw _ (List.mem_of_getElem? (i := 28) rfl)
theorem w29 {a0 : Array Value} {Z : State} (hw : Hw a0 Z) : ((Jvm.Cond.fieldLink "com/example/fieldpath/fieldpath/record/TypeIsIntegerPinLaw" (13 : Nat) "com/example/fieldpath/fieldpath/record/Schema$Type" "INT16" "Lcom/example/fieldpath/fieldpath/record/Schema$Type;") : Jvm.Cond).before a0 Z = true := hw _ (List.mem_of_getElem? (i := 29) rfl)
theorem w30 {a0 : Array Value} {Z : State} (hw : Hw a0 Z) : ((Jvm.Cond.laysStatic "com/example/fieldpath/fieldpath/record/Schema$Type" "INT16" "Lcom/example/fieldpath/fieldpath/record/Schema$Type;") : Jvm.Cond).before a0 Z = true := hw _ (List.mem_of_getElem? (i := 30) rfl)
theorem w31 {a0 : Array Value} {Z : State} (hw : Hw a0 Z) : ((Jvm.Cond.fieldLink "com/example/fieldpath/fieldpath/record/TypeIsIntegerPinLaw" (40 : Nat) "com/example/fieldpath/fieldpath/record/Schema$Type" "MAP" "Lcom/example/fieldpath/fieldpath/record/Schema$Type;") : Jvm.Cond).before a0 Z = true := hw _ (List.mem_of_getElem? (i := 31) rfl)
theorem w32 {a0 : Array Value} {Z : State} (hw : Hw a0 Z) : ((Jvm.Cond.laysStatic "com/example/fieldpath/fieldpath/record/Schema$Type" "MAP" "Lcom/example/fieldpath/fieldpath/record/Schema$Type;") : Jvm.Cond).before a0 Z = true := hw _ (List.mem_of_getElem? (i := 32) rfl)
theorem w33 {a0 : Array Value} {Z : State} (hw : Hw a0 Z) : ((Jvm.Cond.fieldLink "com/example/fieldpath/fieldpath/record/TypeIsIntegerPinLaw" (37 : Nat) "com/example/fieldpath/fieldpath/record/Schema$Type" "ARRAY" "Lcom/example/fieldpath/fieldpath/record/Schema$Type;") : Jvm.Cond).before a0 Z = true := hw _ (List.mem_of_getElem? (i := 33) rfl)
theorem w34 {a0 : Array Value} {Z : State} (hw : Hw a0 Z) : ((Jvm.Cond.laysStatic "com/example/fieldpath/fieldpath/record/Schema$Type" "ARRAY" "Lcom/example/fieldpath/fieldpath/record/Schema$Type;") : Jvm.Cond).before a0 Z = true := hw _ (List.mem_of_getElem? (i := 34) rfl)
theorem w35 {a0 : Array Value} {Z : State} (hw : Hw a0 Z) : ((Jvm.Cond.fieldLink "com/example/fieldpath/fieldpath/record/TypeIsIntegerPinLaw" (28 : Nat) "com/example/fieldpath/fieldpath/record/Schema$Type" "BOOLEAN" "Lcom/example/fieldpath/fieldpath/record/Schema$Type;") : Jvm.Cond).before a0 Z = true := hw _ (List.mem_of_getElem? (i := 35) rfl)
theorem w36 {a0 : Array Value} {Z : State} (hw : Hw a0 Z) : ((Jvm.Cond.laysStatic "com/example/fieldpath/fieldpath/record/Schema$Type" "BOOLEAN" "Lcom/example/fieldpath/fieldpath/record/Schema$Type;") : Jvm.Cond).before a0 Z = true := hw _ (List.mem_of_getElem? (i := 36) rfl)
theorem w37 {a0 : Array Value} {Z : State} (hw : Hw a0 Z) : ((Jvm.Cond.fieldLink "com/example/fieldpath/fieldpath/record/TypeIsIntegerPinLaw" (25 : Nat) "com/example/fieldpath/fieldpath/record/Schema$Type" "FLOAT64" "Lcom/example/fieldpath/fieldpath/record/Schema$Type;") : Jvm.Cond).before a0 Z = true := hw _ (List.mem_of_getElem? (i := 37) rfl)
theorem w38 {a0 : Array Value} {Z : State} (hw : Hw a0 Z) : ((Jvm.Cond.laysStatic "com/example/fieldpath/fieldpath/record/Schema$Type" "FLOAT64" "Lcom/example/fieldpath/fieldpath/record/Schema$Type;") : Jvm.Cond).before a0 Z = true := hw _ (List.mem_of_getElem? (i := 38) rfl)
theorem pn0 : plainName "com/example/fieldpath/fieldpath/record/TypeIsIntegerPinLaw" = true := by first | (simp [plainName, overriddenIn]; done) | decide +kernel
theorem pd0 : parseMethodDescriptor "(I)Z" = some ⟨[.int], some .boolean⟩ := by decide +kernel
theorem d1_0 : decode method_2_code 0 = .ok (.iload_n 0, 1) := by decide +kernel
theorem d1_1 : decode method_2_code 1 = .ok (.ifCond .ne 7, 3) := by decide +kernel
theorem d1_4 : decode method_2_code 4 = .ok (.getstatic 7, 3) := by decide +kernel
theorem d1_7 : decode method_2_code 7 = .ok (.areturn, 1) := by decide +kernel
theorem d1_8 : decode method_2_code 8 = .ok (.iload_n 0, 1) := by decide +kernel
theorem d1_9 : decode method_2_code 9 = .ok (.iconst 1, 1) := by decide +kernel
theorem d1_10 : decode method_2_code 10 = .ok (.if_icmp .ne 7, 3) := by decide +kernel
theorem d1_13 : decode method_2_code 13 = .ok (.getstatic 13, 3) := by decide +kernel
theorem d1_16 : decode method_2_code 16 = .ok (.areturn, 1) := by decide +kernel
theorem d1_17 : decode method_2_code 17 = .ok (.iload_n 0, 1) := by decide +kernel
theorem d1_18 : decode method_2_code 18 = .ok (.iconst 2, 1) := by decide +kernel
theorem d1_19 : decode method_2_code 19 = .ok (.if_icmp .ne 7, 3) := by decide +kernel
theorem d1_22 : decode method_2_code 22 = .ok (.getstatic 16, 3) := by decide +kernel
theorem d1_25 : decode method_2_code 25 = .ok (.areturn, 1) := by decide +kernel
theorem d1_26 : decode method_2_code 26 = .ok (.iload_n 0, 1) := by decide +kernel
theorem d1_27 : decode method_2_code 27 = .ok (.iconst 3, 1) := by decide +kernel
theorem d1_28 : decode method_2_code 28 = .ok (.if_icmp .ne 7, 3) := by decide +kernel
theorem d1_31 : decode method_2_code 31 = .ok (.getstatic 19, 3) := by decide +kernel
theorem d1_34 : decode method_2_code 34 = .ok (.areturn, 1) := by decide +kernel
theorem d1_35 : decode method_2_code 35 = .ok (.iload_n 0, 1) := by decide +kernel
theorem d1_36 : decode method_2_code 36 = .ok (.iconst 4, 1) := by decide +kernel
theorem d1_37 : decode method_2_code 37 = .ok (.if_icmp .ne 7, 3) := by decide +kernel
theorem d1_40 : decode method_2_code 40 = .ok (.getstatic 22, 3) := by decide +kernel
theorem d1_43 : decode method_2_code 43 = .ok (.areturn, 1) := by decide +kernel
theorem d1_44 : decode method_2_code 44 = .ok (.iload_n 0, 1) := by decide +kernel
theorem d1_45 : decode method_2_code 45 = .ok (.iconst 5, 1) := by decide +kernel
theorem d1_46 : decode method_2_code 46 = .ok (.if_icmp .ne 7, 3) := by decide +kernel
theorem d1_49 : decode method_2_code 49 = .ok (.getstatic 25, 3) := by decide +kernel
theorem d1_52 : decode method_2_code 52 = .ok (.areturn, 1) := by decide +kernel
theorem d1_53 : decode method_2_code 53 = .ok (.iload_n 0, 1) := by decide +kernel
theorem d1_54 : decode method_2_code 54 = .ok (.bipush 6, 2) := by decide +kernel
theorem d1_56 : decode method_2_code 56 = .ok (.if_icmp .ne 7, 3) := by decide +kernel
theorem d1_59 : decode method_2_code 59 = .ok (.getstatic 28, 3) := by decide +kernel
theorem d1_62 : decode method_2_code 62 = .ok (.areturn, 1) := by decide +kernel
theorem d1_63 : decode method_2_code 63 = .ok (.iload_n 0, 1) := by decide +kernel
theorem d1_64 : decode method_2_code 64 = .ok (.bipush 7, 2) := by decide +kernel
theorem d1_66 : decode method_2_code 66 = .ok (.if_icmp .ne 7, 3) := by decide +kernel
theorem d1_69 : decode method_2_code 69 = .ok (.getstatic 31, 3) := by decide +kernel
theorem d1_72 : decode method_2_code 72 = .ok (.areturn, 1) := by decide +kernel
theorem d1_73 : decode method_2_code 73 = .ok (.iload_n 0, 1) := by decide +kernel
theorem d1_74 : decode method_2_code 74 = .ok (.bipush 8, 2) := by decide +kernel
theorem d1_76 : decode method_2_code 76 = .ok (.if_icmp .ne 7, 3) := by decide +kernel
theorem d1_79 : decode method_2_code 79 = .ok (.getstatic 34, 3) := by decide +kernel
theorem d1_82 : decode method_2_code 82 = .ok (.areturn, 1) := by decide +kernel
theorem d1_83 : decode method_2_code 83 = .ok (.iload_n 0, 1) := by decide +kernel
theorem d1_84 : decode method_2_code 84 = .ok (.bipush 9, 2) := by decide +kernel
theorem d1_86 : decode method_2_code 86 = .ok (.if_icmp .ne 7, 3) := by decide +kernel
theorem d1_89 : decode method_2_code 89 = .ok (.getstatic 37, 3) := by decide +kernel
theorem d1_92 : decode method_2_code 92 = .ok (.areturn, 1) := by decide +kernel
theorem d1_93 : decode method_2_code 93 = .ok (.iload_n 0, 1) := by decide +kernel
theorem d1_94 : decode method_2_code 94 = .ok (.bipush 10, 2) := by decide +kernel
theorem d1_96 : decode method_2_code 96 = .ok (.if_icmp .ne 7, 3) := by decide +kernel
theorem d1_99 : decode method_2_code 99 = .ok (.getstatic 40, 3) := by decide +kernel
theorem d1_102 : decode method_2_code 102 = .ok (.areturn, 1) := by decide +kernel
theorem d1_103 : decode method_2_code 103 = .ok (.getstatic 43, 3) := by decide +kernel
theorem d1_106 : decode method_2_code 106 = .ok (.areturn, 1) := by decide +kernel
theorem pn1 : plainName "com/example/fieldpath/fieldpath/record/TypeIsIntegerPinLaw" = true := by first | (simp [plainName, overriddenIn]; done) | decide +kernel
theorem pd1 : parseMethodDescriptor "(I)Lcom/example/fieldpath/fieldpath/record/Schema$Type;" = some ⟨[.int], (some (.object "com/example/fieldpath/fieldpath/record/Schema$Type"))⟩ := by decide +kernel
theorem d2_0 : decode prog_21_method_5_code 0 = .ok (.aload_n 0, 1) := by decide +kernel
theorem d2_1 : decode prog_21_method_5_code 1 = .ok (.getfield 62, 3) := by decide +kernel
theorem d2_4 : decode prog_21_method_5_code 4 = .ok (.aload_n 0, 1) := by decide +kernel
theorem d2_5 : decode prog_21_method_5_code 5 = .ok (.getfield 66, 3) := by decide +kernel
theorem d2_8 : decode prog_21_method_5_code 8 = .ok (.lcmp, 1) := by decide +kernel
theorem d2_9 : decode prog_21_method_5_code 9 = .ok (.ifCond .ge 7, 3) := by decide +kernel
theorem d2_12 : decode prog_21_method_5_code 12 = .ok (.iconst 1, 1) := by decide +kernel
theorem d2_13 : decode prog_21_method_5_code 13 = .ok (.goto 4, 3) := by decide +kernel
theorem d2_16 : decode prog_21_method_5_code 16 = .ok (.iconst 0, 1) := by decide +kernel
theorem d2_17 : decode prog_21_method_5_code 17 = .ok (.ireturn, 1) := by decide +kernel
theorem pn2 : plainName "com/example/fieldpath/fieldpath/record/Schema$Type" = true := by first | (simp [plainName, overriddenIn]; done) | decide +kernel
theorem pd2 : parseMethodDescriptor "()Z" = some ⟨[], (some .boolean)⟩ := by decide +kernel
def Facts (Z : State) (a_INT8 a_INT64 a_INT32 a_STRING a_STRUCT a_FLOAT32 a_BYTES a_INT16 a_MAP a_ARRAY a_BOOLEAN a_FLOAT64 : Addr) : Prop := (Sta Z Z.heap "com/example/fieldpath/fieldpath/record/Schema$Type" "INT8" "Lcom/example/fieldpath/fieldpath/record/Schema$Type;" (.ref a_INT8)) ∧ (Exa Z Z.heap a_INT8 "com/example/fieldpath/fieldpath/record/Schema$Type") ∧ (Sta Z Z.heap "com/example/fieldpath/fieldpath/record/Schema$Type" "INT64" "Lcom/example/fieldpath/fieldpath/record/Schema$Type;" (.ref a_INT64)) ∧ (Exa Z Z.heap a_INT64 "com/example/fieldpath/fieldpath/record/Schema$Type") ∧ (Sta Z Z.heap "com/example/fieldpath/fieldpath/record/Schema$Type" "INT32" "Lcom/example/fieldpath/fieldpath/record/Schema$Type;" (.ref a_INT32)) ∧ (Exa Z Z.heap a_INT32 "com/example/fieldpath/fieldpath/record/Schema$Type") ∧ (Sta Z Z.heap "com/example/fieldpath/fieldpath/record/Schema$Type" "STRING" "Lcom/example/fieldpath/fieldpath/record/Schema$Type;" (.ref a_STRING)) ∧ (Exa Z Z.heap a_STRING "com/example/fieldpath/fieldpath/record/Schema$Type") ∧ (Sta Z Z.heap "com/example/fieldpath/fieldpath/record/Schema$Type" "STRUCT" "Lcom/example/fieldpath/fieldpath/record/Schema$Type;" (.ref a_STRUCT)) ∧ (Exa Z Z.heap a_STRUCT "com/example/fieldpath/fieldpath/record/Schema$Type") ∧ (Sta Z Z.heap "com/example/fieldpath/fieldpath/record/Schema$Type" "FLOAT32" "Lcom/example/fieldpath/fieldpath/record/Schema$Type;" (.ref a_FLOAT32)) ∧ (Exa Z Z.heap a_FLOAT32 "com/example/fieldpath/fieldpath/record/Schema$Type") ∧ (Sta Z Z.heap "com/example/fieldpath/fieldpath/record/Schema$Type" "BYTES" "Lcom/example/fieldpath/fieldpath/record/Schema$Type;" (.ref a_BYTES)) ∧ (Exa Z Z.heap a_BYTES "com/example/fieldpath/fieldpath/record/Schema$Type") ∧ (Sta Z Z.heap "com/example/fieldpath/fieldpath/record/Schema$Type" "INT16" "Lcom/example/fieldpath/fieldpath/record/Schema$Type;" (.ref a_INT16)) ∧ (Exa Z Z.heap a_INT16 "com/example/fieldpath/fieldpath/record/Schema$Type") ∧ (Sta Z Z.heap "com/example/fieldpath/fieldpath/record/Schema$Type" "MAP" "Lcom/example/fieldpath/fieldpath/record/Schema$Type;" (.ref a_MAP)) ∧ (Exa Z Z.heap a_MAP "com/example/fieldpath/fieldpath/record/Schema$Type") ∧ (Sta Z Z.heap "com/example/fieldpath/fieldpath/record/Schema$Type" "ARRAY" "Lcom/example/fieldpath/fieldpath/record/Schema$Type;" (.ref a_ARRAY)) ∧ (Exa Z Z.heap a_ARRAY "com/example/fieldpath/fieldpath/record/Schema$Type") ∧ (Sta Z Z.heap "com/example/fieldpath/fieldpath/record/Schema$Type" "BOOLEAN" "Lcom/example/fieldpath/fieldpath/record/Schema$Type;" (.ref a_BOOLEAN)) ∧ (Exa Z Z.heap a_BOOLEAN "com/example/fieldpath/fieldpath/record/Schema$Type") ∧ (Sta Z Z.heap "com/example/fieldpath/fieldpath/record/Schema$Type" "FLOAT64" "Lcom/example/fieldpath/fieldpath/record/Schema$Type;" (.ref a_FLOAT64)) ∧ (Exa Z Z.heap a_FLOAT64 "com/example/fieldpath/fieldpath/record/Schema$Type") ∧ (Fld Z Z.heap a_INT8 "com/example/fieldpath/fieldpath/record/Schema$Type" "min" "J" (.long (-128))) ∧ (Fld Z Z.heap a_INT8 "com/example/fieldpath/fieldpath/record/Schema$Type" "max" "J" (.long 127)) ∧ (Fld Z Z.heap a_INT64 "com/example/fieldpath/fieldpath/record/Schema$Type" "min" "J" (.long (-9223372036854775808))) ∧ (Fld Z Z.heap a_INT64 "com/example/fieldpath/fieldpath/record/Schema$Type" "max" "J" (.long 9223372036854775807)) ∧ (Fld Z Z.heap a_INT32 "com/example/fieldpath/fieldpath/record/Schema$Type" "min" "J" (.long (-2147483648))) ∧ (Fld Z Z.heap a_INT32 "com/example/fieldpath/fieldpath/record/Schema$Type" "max" "J" (.long 2147483647)) ∧ (Fld Z Z.heap a_STRING "com/example/fieldpath/fieldpath/record/Schema$Type" "min" "J" (.long 0)) ∧ (Fld Z Z.heap a_STRING "com/example/fieldpath/fieldpath/record/Schema$Type" "max" "J" (.long 0)) ∧ (Fld Z Z.heap a_STRUCT "com/example/fieldpath/fieldpath/record/Schema$Type" "min" "J" (.long 0)) ∧ (Fld Z Z.heap a_STRUCT "com/example/fieldpath/fieldpath/record/Schema$Type" "max" "J" (.long 0)) ∧ (Fld Z Z.heap a_FLOAT32 "com/example/fieldpath/fieldpath/record/Schema$Type" "min" "J" (.long 0)) ∧ (Fld Z Z.heap a_FLOAT32 "com/example/fieldpath/fieldpath/record/Schema$Type" "max" "J" (.long 0)) ∧ (Fld Z Z.heap a_BYTES "com/example/fieldpath/fieldpath/record/Schema$Type" "min" "J" (.long 0)) ∧ (Fld Z Z.heap a_BYTES "com/example/fieldpath/fieldpath/record/Schema$Type" "max" "J" (.long 0)) ∧ (Fld Z Z.heap a_INT16 "com/example/fieldpath/fieldpath/record/Schema$Type" "min" "J" (.long (-32768))) ∧ (Fld Z Z.heap a_INT16 "com/example/fieldpath/fieldpath/record/Schema$Type" "max" "J" (.long 32767)) ∧ (Fld Z Z.heap a_MAP "com/example/fieldpath/fieldpath/record/Schema$Type" "min" "J" (.long 0)) ∧ (Fld Z Z.heap a_MAP "com/example/fieldpath/fieldpath/record/Schema$Type" "max" "J" (.long 0)) ∧ (Fld Z Z.heap a_ARRAY "com/example/fieldpath/fieldpath/record/Schema$Type" "min" "J" (.long 0)) ∧ (Fld Z Z.heap a_ARRAY "com/example/fieldpath/fieldpath/record/Schema$Type" "max" "J" (.long 0)) ∧ (Fld Z Z.heap a_BOOLEAN "com/example/fieldpath/fieldpath/record/Schema$Type" "min" "J" (.long 0)) ∧ (Fld Z Z.heap a_BOOLEAN "com/example/fieldpath/fieldpath/record/Schema$Type" "max" "J" (.long 0)) ∧ (Fld Z Z.heap a_FLOAT64 "com/example/fieldpath/fieldpath/record/Schema$Type" "min" "J" (.long 0)) ∧ (Fld Z Z.heap a_FLOAT64 "com/example/fieldpath/fieldpath/record/Schema$Type" "max" "J" (.long 0))
theorem Facts.S_INT8 {Z : State} {a_INT8 a_INT64 a_INT32 a_STRING a_STRUCT a_FLOAT32 a_BYTES a_INT16 a_MAP a_ARRAY a_BOOLEAN a_FLOAT64 : Addr} (F : Facts Z a_INT8 a_INT64 a_INT32 a_STRING a_STRUCT a_FLOAT32 a_BYTES a_INT16 a_MAP a_ARRAY a_BOOLEAN a_FLOAT64) : Sta Z Z.heap "com/example/fieldpath/fieldpath/record/Schema$Type" "INT8" "Lcom/example/fieldpath/fieldpath/record/Schema$Type;" (.ref a_INT8) := F.1
theorem Facts.E_INT8 {Z : State} {a_INT8 a_INT64 a_INT32 a_STRING a_STRUCT a_FLOAT32 a_BYTES a_INT16 a_MAP a_ARRAY a_BOOLEAN a_FLOAT64 : Addr} (F : Facts Z a_INT8 a_INT64 a_INT32 a_STRING a_STRUCT a_FLOAT32 a_BYTES a_INT16 a_MAP a_ARRAY a_BOOLEAN a_FLOAT64) : Exa Z Z.heap a_INT8 "com/example/fieldpath/fieldpath/record/Schema$Type" := F.2.1
theorem Facts.S_INT64 {Z : State} {a_INT8 a_INT64 a_INT32 a_STRING a_STRUCT a_FLOAT32 a_BYTES a_INT16 a_MAP a_ARRAY a_BOOLEAN a_FLOAT64 : Addr} (F : Facts Z a_INT8 a_INT64 a_INT32 a_STRING a_STRUCT a_FLOAT32 a_BYTES a_INT16 a_MAP a_ARRAY a_BOOLEAN a_FLOAT64) : Sta Z Z.heap "com/example/fieldpath/fieldpath/record/Schema$Type" "INT64" "Lcom/example/fieldpath/fieldpath/record/Schema$Type;" (.ref a_INT64) := F.2.2.1
theorem Facts.E_INT64 {Z : State} {a_INT8 a_INT64 a_INT32 a_STRING a_STRUCT a_FLOAT32 a_BYTES a_INT16 a_MAP a_ARRAY a_BOOLEAN a_FLOAT64 : Addr} (F : Facts Z a_INT8 a_INT64 a_INT32 a_STRING a_STRUCT a_FLOAT32 a_BYTES a_INT16 a_MAP a_ARRAY a_BOOLEAN a_FLOAT64) : Exa Z Z.heap a_INT64 "com/example/fieldpath/fieldpath/record/Schema$Type" := F.2.2.2.1
theorem Facts.S_INT32 {Z : State} {a_INT8 a_INT64 a_INT32 a_STRING a_STRUCT a_FLOAT32 a_BYTES a_INT16 a_MAP a_ARRAY a_BOOLEAN a_FLOAT64 : Addr} (F : Facts Z a_INT8 a_INT64 a_INT32 a_STRING a_STRUCT a_FLOAT32 a_BYTES a_INT16 a_MAP a_ARRAY a_BOOLEAN a_FLOAT64) : Sta Z Z.heap "com/example/fieldpath/fieldpath/record/Schema$Type" "INT32" "Lcom/example/fieldpath/fieldpath/record/Schema$Type;" (.ref a_INT32) := F.2.2.2.2.1
theorem Facts.E_INT32 {Z : State} {a_INT8 a_INT64 a_INT32 a_STRING a_STRUCT a_FLOAT32 a_BYTES a_INT16 a_MAP a_ARRAY a_BOOLEAN a_FLOAT64 : Addr} (F : Facts Z a_INT8 a_INT64 a_INT32 a_STRING a_STRUCT a_FLOAT32 a_BYTES a_INT16 a_MAP a_ARRAY a_BOOLEAN a_FLOAT64) : Exa Z Z.heap a_INT32 "com/example/fieldpath/fieldpath/record/Schema$Type" := F.2.2.2.2.2.1
theorem Facts.S_STRING {Z : State} {a_INT8 a_INT64 a_INT32 a_STRING a_STRUCT a_FLOAT32 a_BYTES a_INT16 a_MAP a_ARRAY a_BOOLEAN a_FLOAT64 : Addr} (F : Facts Z a_INT8 a_INT64 a_INT32 a_STRING a_STRUCT a_FLOAT32 a_BYTES a_INT16 a_MAP a_ARRAY a_BOOLEAN a_FLOAT64) : Sta Z Z.heap "com/example/fieldpath/fieldpath/record/Schema$Type" "STRING" "Lcom/example/fieldpath/fieldpath/record/Schema$Type;" (.ref a_STRING) := F.2.2.2.2.2.2.1
theorem Facts.E_STRING {Z : State} {a_INT8 a_INT64 a_INT32 a_STRING a_STRUCT a_FLOAT32 a_BYTES a_INT16 a_MAP a_ARRAY a_BOOLEAN a_FLOAT64 : Addr} (F : Facts Z a_INT8 a_INT64 a_INT32 a_STRING a_STRUCT a_FLOAT32 a_BYTES a_INT16 a_MAP a_ARRAY a_BOOLEAN a_FLOAT64) : Exa Z Z.heap a_STRING "com/example/fieldpath/fieldpath/record/Schema$Type" := F.2.2.2.2.2.2.2.1
theorem Facts.S_STRUCT {Z : State} {a_INT8 a_INT64 a_INT32 a_STRING a_STRUCT a_FLOAT32 a_BYTES a_INT16 a_MAP a_ARRAY a_BOOLEAN a_FLOAT64 : Addr} (F : Facts Z a_INT8 a_INT64 a_INT32 a_STRING a_STRUCT a_FLOAT32 a_BYTES a_INT16 a_MAP a_ARRAY a_BOOLEAN a_FLOAT64) : Sta Z Z.heap "com/example/fieldpath/fieldpath/record/Schema$Type" "STRUCT" "Lcom/example/fieldpath/fieldpath/record/Schema$Type;" (.ref a_STRUCT) := F.2.2.2.2.2.2.2.2.1
theorem Facts.E_STRUCT {Z : State} {a_INT8 a_INT64 a_INT32 a_STRING a_STRUCT a_FLOAT32 a_BYTES a_INT16 a_MAP a_ARRAY a_BOOLEAN a_FLOAT64 : Addr} (F : Facts Z a_INT8 a_INT64 a_INT32 a_STRING a_STRUCT a_FLOAT32 a_BYTES a_INT16 a_MAP a_ARRAY a_BOOLEAN a_FLOAT64) : Exa Z Z.heap a_STRUCT "com/example/fieldpath/fieldpath/record/Schema$Type" := F.2.2.2.2.2.2.2.2.2.1
theorem Facts.S_FLOAT32 {Z : State} {a_INT8 a_INT64 a_INT32 a_STRING a_STRUCT a_FLOAT32 a_BYTES a_INT16 a_MAP a_ARRAY a_BOOLEAN a_FLOAT64 : Addr} (F : Facts Z a_INT8 a_INT64 a_INT32 a_STRING a_STRUCT a_FLOAT32 a_BYTES a_INT16 a_MAP a_ARRAY a_BOOLEAN a_FLOAT64) : Sta Z Z.heap "com/example/fieldpath/fieldpath/record/Schema$Type" "FLOAT32" "Lcom/example/fieldpath/fieldpath/record/Schema$Type;" (.ref a_FLOAT32) := F.2.2.2.2.2.2.2.2.2.2.1
theorem Facts.E_FLOAT32 {Z : State} {a_INT8 a_INT64 a_INT32 a_STRING a_STRUCT a_FLOAT32 a_BYTES a_INT16 a_MAP a_ARRAY a_BOOLEAN a_FLOAT64 : Addr} (F : Facts Z a_INT8 a_INT64 a_INT32 a_STRING a_STRUCT a_FLOAT32 a_BYTES a_INT16 a_MAP a_ARRAY a_BOOLEAN a_FLOAT64) : Exa Z Z.heap a_FLOAT32 "com/example/fieldpath/fieldpath/record/Schema$Type" := F.2.2.2.2.2.2.2.2.2.2.2.1
theorem Facts.S_BYTES {Z : State} {a_INT8 a_INT64 a_INT32 a_STRING a_STRUCT a_FLOAT32 a_BYTES a_INT16 a_MAP a_ARRAY a_BOOLEAN a_FLOAT64 : Addr} (F : Facts Z a_INT8 a_INT64 a_INT32 a_STRING a_STRUCT a_FLOAT32 a_BYTES a_INT16 a_MAP a_ARRAY a_BOOLEAN a_FLOAT64) : Sta Z Z.heap "com/example/fieldpath/fieldpath/record/Schema$Type" "BYTES" "Lcom/example/fieldpath/fieldpath/record/Schema$Type;" (.ref a_BYTES) := F.2.2.2.2.2.2.2.2.2.2.2.2.1
theorem Facts.E_BYTES {Z : State} {a_INT8 a_INT64 a_INT32 a_STRING a_STRUCT a_FLOAT32 a_BYTES a_INT16 a_MAP a_ARRAY a_BOOLEAN a_FLOAT64 : Addr} (F : Facts Z a_INT8 a_INT64 a_INT32 a_STRING a_STRUCT a_FLOAT32 a_BYTES a_INT16 a_MAP a_ARRAY a_BOOLEAN a_FLOAT64) : Exa Z Z.heap a_BYTES "com/example/fieldpath/fieldpath/record/Schema$Type" := F.2.2.2.2.2.2.2.2.2.2.2.2.2.1
theorem Facts.S_INT16 {Z : State} {a_INT8 a_INT64 a_INT32 a_STRING a_STRUCT a_FLOAT32 a_BYTES a_INT16 a_MAP a_ARRAY a_BOOLEAN a_FLOAT64 : Addr} (F : Facts Z a_INT8 a_INT64 a_INT32 a_STRING a_STRUCT a_FLOAT32 a_BYTES a_INT16 a_MAP a_ARRAY a_BOOLEAN a_FLOAT64) : Sta Z Z.heap "com/example/fieldpath/fieldpath/record/Schema$Type" "INT16" "Lcom/example/fieldpath/fieldpath/record/Schema$Type;" (.ref a_INT16) := F.2.2.2.2.2.2.2.2.2.2.2.2.2.2.1
theorem Facts.E_INT16 {Z : State} {a_INT8 a_INT64 a_INT32 a_STRING a_STRUCT a_FLOAT32 a_BYTES a_INT16 a_MAP a_ARRAY a_BOOLEAN a_FLOAT64 : Addr} (F : Facts Z a_INT8 a_INT64 a_INT32 a_STRING a_STRUCT a_FLOAT32 a_BYTES a_INT16 a_MAP a_ARRAY a_BOOLEAN a_FLOAT64) : Exa Z Z.heap a_INT16 "com/example/fieldpath/fieldpath/record/Schema$Type" := F.2.2.2.2.2.2.2.2.2.2.2.2.2.2.2.1
theorem Facts.S_MAP {Z : State} {a_INT8 a_INT64 a_INT32 a_STRING a_STRUCT a_FLOAT32 a_BYTES a_INT16 a_MAP a_ARRAY a_BOOLEAN a_FLOAT64 : Addr} (F : Facts Z a_INT8 a_INT64 a_INT32 a_STRING a_STRUCT a_FLOAT32 a_BYTES a_INT16 a_MAP a_ARRAY a_BOOLEAN a_FLOAT64) : Sta Z Z.heap "com/example/fieldpath/fieldpath/record/Schema$Type" "MAP" "Lcom/example/fieldpath/fieldpath/record/Schema$Type;" (.ref a_MAP) := F.2.2.2.2.2.2.2.2.2.2.2.2.2.2.2.2.1
theorem Facts.E_MAP {Z : State} {a_INT8 a_INT64 a_INT32 a_STRING a_STRUCT a_FLOAT32 a_BYTES a_INT16 a_MAP a_ARRAY a_BOOLEAN a_FLOAT64 : Addr} (F : Facts Z a_INT8 a_INT64 a_INT32 a_STRING a_STRUCT a_FLOAT32 a_BYTES a_INT16 a_MAP a_ARRAY a_BOOLEAN a_FLOAT64) : Exa Z Z.heap a_MAP "com/example/fieldpath/fieldpath/record/Schema$Type" := F.2.2.2.2.2.2.2.2.2.2.2.2.2.2.2.2.2.1
theorem Facts.S_ARRAY {Z : State} {a_INT8 a_INT64 a_INT32 a_STRING a_STRUCT a_FLOAT32 a_BYTES a_INT16 a_MAP a_ARRAY a_BOOLEAN a_FLOAT64 : Addr} (F : Facts Z a_INT8 a_INT64 a_INT32 a_STRING a_STRUCT a_FLOAT32 a_BYTES a_INT16 a_MAP a_ARRAY a_BOOLEAN a_FLOAT64) : Sta Z Z.heap "com/example/fieldpath/fieldpath/record/Schema$Type" "ARRAY" "Lcom/example/fieldpath/fieldpath/record/Schema$Type;" (.ref a_ARRAY) := F.2.2.2.2.2.2.2.2.2.2.2.2.2.2.2.2.2.2.1
theorem Facts.E_ARRAY {Z : State} {a_INT8 a_INT64 a_INT32 a_STRING a_STRUCT a_FLOAT32 a_BYTES a_INT16 a_MAP a_ARRAY a_BOOLEAN a_FLOAT64 : Addr} (F : Facts Z a_INT8 a_INT64 a_INT32 a_STRING a_STRUCT a_FLOAT32 a_BYTES a_INT16 a_MAP a_ARRAY a_BOOLEAN a_FLOAT64) : Exa Z Z.heap a_ARRAY "com/example/fieldpath/fieldpath/record/Schema$Type" := F.2.2.2.2.2.2.2.2.2.2.2.2.2.2.2.2.2.2.2.1
theorem Facts.S_BOOLEAN {Z : State} {a_INT8 a_INT64 a_INT32 a_STRING a_STRUCT a_FLOAT32 a_BYTES a_INT16 a_MAP a_ARRAY a_BOOLEAN a_FLOAT64 : Addr} (F : Facts Z a_INT8 a_INT64 a_INT32 a_STRING a_STRUCT a_FLOAT32 a_BYTES a_INT16 a_MAP a_ARRAY a_BOOLEAN a_FLOAT64) : Sta Z Z.heap "com/example/fieldpath/fieldpath/record/Schema$Type" "BOOLEAN" "Lcom/example/fieldpath/fieldpath/record/Schema$Type;" (.ref a_BOOLEAN) := F.2.2.2.2.2.2.2.2.2.2.2.2.2.2.2.2.2.2.2.2.1
theorem Facts.E_BOOLEAN {Z : State} {a_INT8 a_INT64 a_INT32 a_STRING a_STRUCT a_FLOAT32 a_BYTES a_INT16 a_MAP a_ARRAY a_BOOLEAN a_FLOAT64 : Addr} (F : Facts Z a_INT8 a_INT64 a_INT32 a_STRING a_STRUCT a_FLOAT32 a_BYTES a_INT16 a_MAP a_ARRAY a_BOOLEAN a_FLOAT64) : Exa Z Z.heap a_BOOLEAN "com/example/fieldpath/fieldpath/record/Schema$Type" := F.2.2.2.2.2.2.2.2.2.2.2.2.2.2.2.2.2.2.2.2.2.1
theorem Facts.S_FLOAT64 {Z : State} {a_INT8 a_INT64 a_INT32 a_STRING a_STRUCT a_FLOAT32 a_BYTES a_INT16 a_MAP a_ARRAY a_BOOLEAN a_FLOAT64 : Addr} (F : Facts Z a_INT8 a_INT64 a_INT32 a_STRING a_STRUCT a_FLOAT32 a_BYTES a_INT16 a_MAP a_ARRAY a_BOOLEAN a_FLOAT64) : Sta Z Z.heap "com/example/fieldpath/fieldpath/record/Schema$Type" "FLOAT64" "Lcom/example/fieldpath/fieldpath/record/Schema$Type;" (.ref a_FLOAT64) := F.2.2.2.2.2.2.2.2.2.2.2.2.2.2.2.2.2.2.2.2.2.2.1
theorem Facts.E_FLOAT64 {Z : State} {a_INT8 a_INT64 a_INT32 a_STRING a_STRUCT a_FLOAT32 a_BYTES a_INT16 a_MAP a_ARRAY a_BOOLEAN a_FLOAT64 : Addr} (F : Facts Z a_INT8 a_INT64 a_INT32 a_STRING a_STRUCT a_FLOAT32 a_BYTES a_INT16 a_MAP a_ARRAY a_BOOLEAN a_FLOAT64) : Exa Z Z.heap a_FLOAT64 "com/example/fieldpath/fieldpath/record/Schema$Type" := F.2.2.2.2.2.2.2.2.2.2.2.2.2.2.2.2.2.2.2.2.2.2.2.1
theorem Facts.F_INT8_min {Z : State} {a_INT8 a_INT64 a_INT32 a_STRING a_STRUCT a_FLOAT32 a_BYTES a_INT16 a_MAP a_ARRAY a_BOOLEAN a_FLOAT64 : Addr} (F : Facts Z a_INT8 a_INT64 a_INT32 a_STRING a_STRUCT a_FLOAT32 a_BYTES a_INT16 a_MAP a_ARRAY a_BOOLEAN a_FLOAT64) : Fld Z Z.heap a_INT8 "com/example/fieldpath/fieldpath/record/Schema$Type" "min" "J" (.long (-128)) := F.2.2.2.2.2.2.2.2.2.2.2.2.2.2.2.2.2.2.2.2.2.2.2.2.1
theorem Facts.F_INT8_max {Z : State} {a_INT8 a_INT64 a_INT32 a_STRING a_STRUCT a_FLOAT32 a_BYTES a_INT16 a_MAP a_ARRAY a_BOOLEAN a_FLOAT64 : Addr} (F : Facts Z a_INT8 a_INT64 a_INT32 a_STRING a_STRUCT a_FLOAT32 a_BYTES a_INT16 a_MAP a_ARRAY a_BOOLEAN a_FLOAT64) : Fld Z Z.heap a_INT8 "com/example/fieldpath/fieldpath/record/Schema$Type" "max" "J" (.long 127) := F.2.2.2.2.2.2.2.2.2.2.2.2.2.2.2.2.2.2.2.2.2.2.2.2.2.1
theorem Facts.F_INT64_min {Z : State} {a_INT8 a_INT64 a_INT32 a_STRING a_STRUCT a_FLOAT32 a_BYTES a_INT16 a_MAP a_ARRAY a_BOOLEAN a_FLOAT64 : Addr} (F : Facts Z a_INT8 a_INT64 a_INT32 a_STRING a_STRUCT a_FLOAT32 a_BYTES a_INT16 a_MAP a_ARRAY a_BOOLEAN a_FLOAT64) : Fld Z Z.heap a_INT64 "com/example/fieldpath/fieldpath/record/Schema$Type" "min" "J" (.long (-9223372036854775808)) := F.2.2.2.2.2.2.2.2.2.2.2.2.2.2.2.2.2.2.2.2.2.2.2.2.2.2.1
theorem Facts.F_INT64_max {Z : State} {a_INT8 a_INT64 a_INT32 a_STRING a_STRUCT a_FLOAT32 a_BYTES a_INT16 a_MAP a_ARRAY a_BOOLEAN a_FLOAT64 : Addr} (F : Facts Z a_INT8 a_INT64 a_INT32 a_STRING a_STRUCT a_FLOAT32 a_BYTES a_INT16 a_MAP a_ARRAY a_BOOLEAN a_FLOAT64) : Fld Z Z.heap a_INT64 "com/example/fieldpath/fieldpath/record/Schema$Type" "max" "J" (.long 9223372036854775807) := F.2.2.2.2.2.2.2.2.2.2.2.2.2.2.2.2.2.2.2.2.2.2.2.2.2.2.2.1
theorem Facts.F_INT32_min {Z : State} {a_INT8 a_INT64 a_INT32 a_STRING a_STRUCT a_FLOAT32 a_BYTES a_INT16 a_MAP a_ARRAY a_BOOLEAN a_FLOAT64 : Addr} (F : Facts Z a_INT8 a_INT64 a_INT32 a_STRING a_STRUCT a_FLOAT32 a_BYTES a_INT16 a_MAP a_ARRAY a_BOOLEAN a_FLOAT64) : Fld Z Z.heap a_INT32 "com/example/fieldpath/fieldpath/record/Schema$Type" "min" "J" (.long (-2147483648)) := F.2.2.2.2.2.2.2.2.2.2.2.2.2.2.2.2.2.2.2.2.2.2.2.2.2.2.2.2.1
theorem Facts.F_INT32_max {Z : State} {a_INT8 a_INT64 a_INT32 a_STRING a_STRUCT a_FLOAT32 a_BYTES a_INT16 a_MAP a_ARRAY a_BOOLEAN a_FLOAT64 : Addr} (F : Facts Z a_INT8 a_INT64 a_INT32 a_STRING a_STRUCT a_FLOAT32 a_BYTES a_INT16 a_MAP a_ARRAY a_BOOLEAN a_FLOAT64) : Fld Z Z.heap a_INT32 "com/example/fieldpath/fieldpath/record/Schema$Type" "max" "J" (.long 2147483647) := F.2.2.2.2.2.2.2.2.2.2.2.2.2.2.2.2.2.2.2.2.2.2.2.2.2.2.2.2.2.1
theorem Facts.F_STRING_min {Z : State} {a_INT8 a_INT64 a_INT32 a_STRING a_STRUCT a_FLOAT32 a_BYTES a_INT16 a_MAP a_ARRAY a_BOOLEAN a_FLOAT64 : Addr} (F : Facts Z a_INT8 a_INT64 a_INT32 a_STRING a_STRUCT a_FLOAT32 a_BYTES a_INT16 a_MAP a_ARRAY a_BOOLEAN a_FLOAT64) : Fld Z Z.heap a_STRING "com/example/fieldpath/fieldpath/record/Schema$Type" "min" "J" (.long 0) := F.2.2.2.2.2.2.2.2.2.2.2.2.2.2.2.2.2.2.2.2.2.2.2.2.2.2.2.2.2.2.1
theorem Facts.F_STRING_max {Z : State} {a_INT8 a_INT64 a_INT32 a_STRING a_STRUCT a_FLOAT32 a_BYTES a_INT16 a_MAP a_ARRAY a_BOOLEAN a_FLOAT64 : Addr} (F : Facts Z a_INT8 a_INT64 a_INT32 a_STRING a_STRUCT a_FLOAT32 a_BYTES a_INT16 a_MAP a_ARRAY a_BOOLEAN a_FLOAT64) : Fld Z Z.heap a_STRING "com/example/fieldpath/fieldpath/record/Schema$Type" "max" "J" (.long 0) := F.2.2.2.2.2.2.2.2.2.2.2.2.2.2.2.2.2.2.2.2.2.2.2.2.2.2.2.2.2.2.2.1
theorem Facts.F_STRUCT_min {Z : State} {a_INT8 a_INT64 a_INT32 a_STRING a_STRUCT a_FLOAT32 a_BYTES a_INT16 a_MAP a_ARRAY a_BOOLEAN a_FLOAT64 : Addr} (F : Facts Z a_INT8 a_INT64 a_INT32 a_STRING a_STRUCT a_FLOAT32 a_BYTES a_INT16 a_MAP a_ARRAY a_BOOLEAN a_FLOAT64) : Fld Z Z.heap a_STRUCT "com/example/fieldpath/fieldpath/record/Schema$Type" "min" "J" (.long 0) := F.2.2.2.2.2.2.2.2.2.2.2.2.2.2.2.2.2.2.2.2.2.2.2.2.2.2.2.2.2.2.2.2.1
theorem Facts.F_STRUCT_max {Z : State} {a_INT8 a_INT64 a_INT32 a_STRING a_STRUCT a_FLOAT32 a_BYTES a_INT16 a_MAP a_ARRAY a_BOOLEAN a_FLOAT64 : Addr} (F : Facts Z a_INT8 a_INT64 a_INT32 a_STRING a_STRUCT a_FLOAT32 a_BYTES a_INT16 a_MAP a_ARRAY a_BOOLEAN a_FLOAT64) : Fld Z Z.heap a_STRUCT "com/example/fieldpath/fieldpath/record/Schema$Type" "max" "J" (.long 0) := F.2.2.2.2.2.2.2.2.2.2.2.2.2.2.2.2.2.2.2.2.2.2.2.2.2.2.2.2.2.2.2.2.2.1
theorem Facts.F_FLOAT32_min {Z : State} {a_INT8 a_INT64 a_INT32 a_STRING a_STRUCT a_FLOAT32 a_BYTES a_INT16 a_MAP a_ARRAY a_BOOLEAN a_FLOAT64 : Addr} (F : Facts Z a_INT8 a_INT64 a_INT32 a_STRING a_STRUCT a_FLOAT32 a_BYTES a_INT16 a_MAP a_ARRAY a_BOOLEAN a_FLOAT64) : Fld Z Z.heap a_FLOAT32 "com/example/fieldpath/fieldpath/record/Schema$Type" "min" "J" (.long 0) := F.2.2.2.2.2.2.2.2.2.2.2.2.2.2.2.2.2.2.2.2.2.2.2.2.2.2.2.2.2.2.2.2.2.2.1
theorem Facts.F_FLOAT32_max {Z : State} {a_INT8 a_INT64 a_INT32 a_STRING a_STRUCT a_FLOAT32 a_BYTES a_INT16 a_MAP a_ARRAY a_BOOLEAN a_FLOAT64 : Addr} (F : Facts Z a_INT8 a_INT64 a_INT32 a_STRING a_STRUCT a_FLOAT32 a_BYTES a_INT16 a_MAP a_ARRAY a_BOOLEAN a_FLOAT64) : Fld Z Z.heap a_FLOAT32 "com/example/fieldpath/fieldpath/record/Schema$Type" "max" "J" (.long 0) := F.2.2.2.2.2.2.2.2.2.2.2.2.2.2.2.2.2.2.2.2.2.2.2.2.2.2.2.2.2.2.2.2.2.2.2.1
theorem Facts.F_BYTES_min {Z : State} {a_INT8 a_INT64 a_INT32 a_STRING a_STRUCT a_FLOAT32 a_BYTES a_INT16 a_MAP a_ARRAY a_BOOLEAN a_FLOAT64 : Addr} (F : Facts Z a_INT8 a_INT64 a_INT32 a_STRING a_STRUCT a_FLOAT32 a_BYTES a_INT16 a_MAP a_ARRAY a_BOOLEAN a_FLOAT64) : Fld Z Z.heap a_BYTES "com/example/fieldpath/fieldpath/record/Schema$Type" "min" "J" (.long 0) := F.2.2.2.2.2.2.2.2.2.2.2.2.2.2.2.2.2.2.2.2.2.2.2.2.2.2.2.2.2.2.2.2.2.2.2.2.1
theorem Facts.F_BYTES_max {Z : State} {a_INT8 a_INT64 a_INT32 a_STRING a_STRUCT a_FLOAT32 a_BYTES a_INT16 a_MAP a_ARRAY a_BOOLEAN a_FLOAT64 : Addr} (F : Facts Z a_INT8 a_INT64 a_INT32 a_STRING a_STRUCT a_FLOAT32 a_BYTES a_INT16 a_MAP a_ARRAY a_BOOLEAN a_FLOAT64) : Fld Z Z.heap a_BYTES "com/example/fieldpath/fieldpath/record/Schema$Type" "max" "J" (.long 0) := F.2.2.2.2.2.2.2.2.2.2.2.2.2.2.2.2.2.2.2.2.2.2.2.2.2.2.2.2.2.2.2.2.2.2.2.2.2.1
theorem Facts.F_INT16_min {Z : State} {a_INT8 a_INT64 a_INT32 a_STRING a_STRUCT a_FLOAT32 a_BYTES a_INT16 a_MAP a_ARRAY a_BOOLEAN a_FLOAT64 : Addr} (F : Facts Z a_INT8 a_INT64 a_INT32 a_STRING a_STRUCT a_FLOAT32 a_BYTES a_INT16 a_MAP a_ARRAY a_BOOLEAN a_FLOAT64) : Fld Z Z.heap a_INT16 "com/example/fieldpath/fieldpath/record/Schema$Type" "min" "J" (.long (-32768)) := F.2.2.2.2.2.2.2.2.2.2.2.2.2.2.2.2.2.2.2.2.2.2.2.2.2.2.2.2.2.2.2.2.2.2.2.2.2.2.1
theorem Facts.F_INT16_max {Z : State} {a_INT8 a_INT64 a_INT32 a_STRING a_STRUCT a_FLOAT32 a_BYTES a_INT16 a_MAP a_ARRAY a_BOOLEAN a_FLOAT64 : Addr} (F : Facts Z a_INT8 a_INT64 a_INT32 a_STRING a_STRUCT a_FLOAT32 a_BYTES a_INT16 a_MAP a_ARRAY a_BOOLEAN a_FLOAT64) : Fld Z Z.heap a_INT16 "com/example/fieldpath/fieldpath/record/Schema$Type" "max" "J" (.long 32767) := F.2.2.2.2.2.2.2.2.2.2.2.2.2.2.2.2.2.2.2.2.2.2.2.2.2.2.2.2.2.2.2.2.2.2.2.2.2.2.2.1
theorem Facts.F_MAP_min {Z : State} {a_INT8 a_INT64 a_INT32 a_STRING a_STRUCT a_FLOAT32 a_BYTES a_INT16 a_MAP a_ARRAY a_BOOLEAN a_FLOAT64 : Addr} (F : Facts Z a_INT8 a_INT64 a_INT32 a_STRING a_STRUCT a_FLOAT32 a_BYTES a_INT16 a_MAP a_ARRAY a_BOOLEAN a_FLOAT64) : Fld Z Z.heap a_MAP "com/example/fieldpath/fieldpath/record/Schema$Type" "min" "J" (.long 0) := F.2.2.2.2.2.2.2.2.2.2.2.2.2.2.2.2.2.2.2.2.2.2.2.2.2.2.2.2.2.2.2.2.2.2.2.2.2.2.2.2.1
theorem Facts.F_MAP_max {Z : State} {a_INT8 a_INT64 a_INT32 a_STRING a_STRUCT a_FLOAT32 a_BYTES a_INT16 a_MAP a_ARRAY a_BOOLEAN a_FLOAT64 : Addr} (F : Facts Z a_INT8 a_INT64 a_INT32 a_STRING a_STRUCT a_FLOAT32 a_BYTES a_INT16 a_MAP a_ARRAY a_BOOLEAN a_FLOAT64) : Fld Z Z.heap a_MAP "com/example/fieldpath/fieldpath/record/Schema$Type" "max" "J" (.long 0) := F.2.2.2.2.2.2.2.2.2.2.2.2.2.2.2.2.2.2.2.2.2.2.2.2.2.2.2.2.2.2.2.2.2.2.2.2.2.2.2.2.2.1
theorem Facts.F_ARRAY_min {Z : State} {a_INT8 a_INT64 a_INT32 a_STRING a_STRUCT a_FLOAT32 a_BYTES a_INT16 a_MAP a_ARRAY a_BOOLEAN a_FLOAT64 : Addr} (F : Facts Z a_INT8 a_INT64 a_INT32 a_STRING a_STRUCT a_FLOAT32 a_BYTES a_INT16 a_MAP a_ARRAY a_BOOLEAN a_FLOAT64) : Fld Z Z.heap a_ARRAY "com/example/fieldpath/fieldpath/record/Schema$Type" "min" "J" (.long 0) := F.2.2.2.2.2.2.2.2.2.2.2.2.2.2.2.2.2.2.2.2.2.2.2.2.2.2.2.2.2.2.2.2.2.2.2.2.2.2.2.2.2.2.1
theorem Facts.F_ARRAY_max {Z : State} {a_INT8 a_INT64 a_INT32 a_STRING a_STRUCT a_FLOAT32 a_BYTES a_INT16 a_MAP a_ARRAY a_BOOLEAN a_FLOAT64 : Addr} (F : Facts Z a_INT8 a_INT64 a_INT32 a_STRING a_STRUCT a_FLOAT32 a_BYTES a_INT16 a_MAP a_ARRAY a_BOOLEAN a_FLOAT64) : Fld Z Z.heap a_ARRAY "com/example/fieldpath/fieldpath/record/Schema$Type" "max" "J" (.long 0) := F.2.2.2.2.2.2.2.2.2.2.2.2.2.2.2.2.2.2.2.2.2.2.2.2.2.2.2.2.2.2.2.2.2.2.2.2.2.2.2.2.2.2.2.1
theorem Facts.F_BOOLEAN_min {Z : State} {a_INT8 a_INT64 a_INT32 a_STRING a_STRUCT a_FLOAT32 a_BYTES a_INT16 a_MAP a_ARRAY a_BOOLEAN a_FLOAT64 : Addr} (F : Facts Z a_INT8 a_INT64 a_INT32 a_STRING a_STRUCT a_FLOAT32 a_BYTES a_INT16 a_MAP a_ARRAY a_BOOLEAN a_FLOAT64) : Fld Z Z.heap a_BOOLEAN "com/example/fieldpath/fieldpath/record/Schema$Type" "min" "J" (.long 0) := F.2.2.2.2.2.2.2.2.2.2.2.2.2.2.2.2.2.2.2.2.2.2.2.2.2.2.2.2.2.2.2.2.2.2.2.2.2.2.2.2.2.2.2.2.1
theorem Facts.F_BOOLEAN_max {Z : State} {a_INT8 a_INT64 a_INT32 a_STRING a_STRUCT a_FLOAT32 a_BYTES a_INT16 a_MAP a_ARRAY a_BOOLEAN a_FLOAT64 : Addr} (F : Facts Z a_INT8 a_INT64 a_INT32 a_STRING a_STRUCT a_FLOAT32 a_BYTES a_INT16 a_MAP a_ARRAY a_BOOLEAN a_FLOAT64) : Fld Z Z.heap a_BOOLEAN "com/example/fieldpath/fieldpath/record/Schema$Type" "max" "J" (.long 0) := F.2.2.2.2.2.2.2.2.2.2.2.2.2.2.2.2.2.2.2.2.2.2.2.2.2.2.2.2.2.2.2.2.2.2.2.2.2.2.2.2.2.2.2.2.2.1
theorem Facts.F_FLOAT64_min {Z : State} {a_INT8 a_INT64 a_INT32 a_STRING a_STRUCT a_FLOAT32 a_BYTES a_INT16 a_MAP a_ARRAY a_BOOLEAN a_FLOAT64 : Addr} (F : Facts Z a_INT8 a_INT64 a_INT32 a_STRING a_STRUCT a_FLOAT32 a_BYTES a_INT16 a_MAP a_ARRAY a_BOOLEAN a_FLOAT64) : Fld Z Z.heap a_FLOAT64 "com/example/fieldpath/fieldpath/record/Schema$Type" "min" "J" (.long 0) := F.2.2.2.2.2.2.2.2.2.2.2.2.2.2.2.2.2.2.2.2.2.2.2.2.2.2.2.2.2.2.2.2.2.2.2.2.2.2.2.2.2.2.2.2.2.2.1
theorem Facts.F_FLOAT64_max {Z : State} {a_INT8 a_INT64 a_INT32 a_STRING a_STRUCT a_FLOAT32 a_BYTES a_INT16 a_MAP a_ARRAY a_BOOLEAN a_FLOAT64 : Addr} (F : Facts Z a_INT8 a_INT64 a_INT32 a_STRING a_STRUCT a_FLOAT32 a_BYTES a_INT16 a_MAP a_ARRAY a_BOOLEAN a_FLOAT64) : Fld Z Z.heap a_FLOAT64 "com/example/fieldpath/fieldpath/record/Schema$Type" "max" "J" (.long 0) := F.2.2.2.2.2.2.2.2.2.2.2.2.2.2.2.2.2.2.2.2.2.2.2.2.2.2.2.2.2.2.2.2.2.2.2.2.2.2.2.2.2.2.2.2.2.2.2
set_option maxRecDepth 65536 in
set_option maxHeartbeats 40000000 in
theorem b1_0 (l : Launch) (Z : State) (a0 : Array Value) (hw : Hw a0 Z) (n0 : Nat) (h : Heap) (O : Old Z n0 h) (a_INT8 a_INT64 a_INT32 a_STRING a_STRUCT a_FLOAT32 a_BYTES a_INT16 a_MAP a_ARRAY a_BOOLEAN a_FLOAT64 : Addr) (F : Facts Z a_INT8 a_INT64 a_INT32 a_STRING a_STRUCT a_FLOAT32 a_BYTES a_INT16 a_MAP a_ARRAY a_BOOLEAN a_FLOAT64) {Q : Option Value → Heap → Prop} (hQ : Q (some (.ref a_INT8)) h) :
    Go l Z (⟨"com/example/fieldpath/fieldpath/record/TypeIsIntegerPinLaw", "pick", "(I)Lcom/example/fieldpath/fieldpath/record/Schema$Type;"⟩ : MethodName) method_2_code 1 (some (.object "com/example/fieldpath/fieldpath/record/Schema$Type")) ({ frames := 0, cells := 0, slots := 0, locals := 0 } : Room) n0 Q h 0 0 0 #[.val (.int (0 : Int32))] [] := by
  refine Go.iloadN d1_0 (q := 1) rfl rfl ?_
  refine Go.if_ne d1_1 (q := 8) (q' := 4) (by decide) rfl rfl (fun c => absurd (by decide) c) (fun _ => ?_)
  refine Go.getS d1_4 (q := 7) rfl (w5 hw) (F.S_INT8.ext O.2) ?_
  refine Go.areturn d1_7 (by decide) (by decide) rfl rfl ?_
  exact hQ
set_option maxRecDepth 65536 in
set_option maxHeartbeats 40000000 in
theorem b2_0 (l : Launch) (Z : State) (a0 : Array Value) (hw : Hw a0 Z) (n0 : Nat) (h : Heap) (O : Old Z n0 h) (a_INT8 a_INT64 a_INT32 a_STRING a_STRUCT a_FLOAT32 a_BYTES a_INT16 a_MAP a_ARRAY a_BOOLEAN a_FLOAT64 : Addr) (F : Facts Z a_INT8 a_INT64 a_INT32 a_STRING a_STRUCT a_FLOAT32 a_BYTES a_INT16 a_MAP a_ARRAY a_BOOLEAN a_FLOAT64) {Q : Option Value → Heap → Prop} (hQ : Q (some (.int (1 : Int32))) h) :
    Go l Z (⟨"com/example/fieldpath/fieldpath/record/Schema$Type", "isInteger", "()Z"⟩ : MethodName) prog_21_method_5_code 1 (some .boolean) ({ frames := 0, cells := 0, slots := 0, locals := 0 } : Room) n0 Q h 0 0 0 #[.val (.ref a_INT8)] [] := by
  refine Go.aloadN d2_0 (q := 1) rfl rfl rfl ?_
  refine Go.getF d2_1 (q := 4) rfl (host := "") (Or.inl (w13 hw)) Via.refl (F.F_INT8_min.ext O.2) ?_
  refine Go.aloadN d2_4 (q := 5) rfl rfl rfl ?_
  refine Go.getF d2_5 (q := 8) rfl (host := "") (Or.inl (w15 hw)) Via.refl (F.F_INT8_max.ext O.2) ?_
  refine Go.lcmp d2_8 (q := 9) rfl ?_
  refine Go.lif_ge d2_9 (q := 16) (q' := 12) (by decide) rfl rfl (fun c => absurd (by decide) c) (fun _ => ?_)
  refine Go.iconst d2_12 (q := 13) rfl (x := (1 : Int32)) (by decide) ?_
  refine Go.goto d2_13 (q := 17) (by decide) rfl ?_
  refine Go.zreturn d2_17 (by decide) (by decide) (by decide) ?_
  exact hQ
set_option maxRecDepth 65536 in
set_option maxHeartbeats 40000000 in
theorem b1_1 (l : Launch) (Z : State) (a0 : Array Value) (hw : Hw a0 Z) (n0 : Nat) (h : Heap) (O : Old Z n0 h) (a_INT8 a_INT64 a_INT32 a_STRING a_STRUCT a_FLOAT32 a_BYTES a_INT16 a_MAP a_ARRAY a_BOOLEAN a_FLOAT64 : Addr) (F : Facts Z a_INT8 a_INT64 a_INT32 a_STRING a_STRUCT a_FLOAT32 a_BYTES a_INT16 a_MAP a_ARRAY a_BOOLEAN a_FLOAT64) {Q : Option Value → Heap → Prop} (hQ : Q (some (.ref a_INT16)) h) :
    Go l Z (⟨"com/example/fieldpath/fieldpath/record/TypeIsIntegerPinLaw", "pick", "(I)Lcom/example/fieldpath/fieldpath/record/Schema$Type;"⟩ : MethodName) method_2_code 1 (some (.object "com/example/fieldpath/fieldpath/record/Schema$Type")) ({ frames := 0, cells := 0, slots := 0, locals := 0 } : Room) n0 Q h 0 0 0 #[.val (.int (1 : Int32))] [] := by
  refine Go.iloadN d1_0 (q := 1) rfl rfl ?_
  refine Go.if_ne d1_1 (q := 8) (q' := 4) (by decide) rfl rfl (fun _ => ?_) (fun c => absurd c (by decide))
  refine Go.iloadN d1_8 (q := 9) rfl rfl ?_
  refine Go.iconst d1_9 (q := 10) rfl (x := (1 : Int32)) (by decide) ?_
  refine Go.icmp_ne d1_10 (q := 17) (q' := 13) (by decide) rfl rfl (fun c => absurd (by decide) c) (fun _ => ?_)
  refine Go.getS d1_13 (q := 16) rfl (w29 hw) (F.S_INT16.ext O.2) ?_
  refine Go.areturn d1_16 (by decide) (by decide) rfl rfl ?_
  exact hQ
set_option maxRecDepth 65536 in
set_option maxHeartbeats 40000000 in
theorem b2_1 (l : Launch) (Z : State) (a0 : Array Value) (hw : Hw a0 Z) (n0 : Nat) (h : Heap) (O : Old Z n0 h) (a_INT8 a_INT64 a_INT32 a_STRING a_STRUCT a_FLOAT32 a_BYTES a_INT16 a_MAP a_ARRAY a_BOOLEAN a_FLOAT64 : Addr) (F : Facts Z a_INT8 a_INT64 a_INT32 a_STRING a_STRUCT a_FLOAT32 a_BYTES a_INT16 a_MAP a_ARRAY a_BOOLEAN a_FLOAT64) {Q : Option Value → Heap → Prop} (hQ : Q (some (.int (1 : Int32))) h) :
    Go l Z (⟨"com/example/fieldpath/fieldpath/record/Schema$Type", "isInteger", "()Z"⟩ : MethodName) prog_21_method_5_code 1 (some .boolean) ({ frames := 0, cells := 0, slots := 0, locals := 0 } : Room) n0 Q h 0 0 0 #[.val (.ref a_INT16)] [] := by
  refine Go.aloadN d2_0 (q := 1) rfl rfl rfl ?_
  refine Go.getF d2_1 (q := 4) rfl (host := "") (Or.inl (w13 hw)) Via.refl (F.F_INT16_min.ext O.2) ?_
  refine Go.aloadN d2_4 (q := 5) rfl rfl rfl ?_
  refine Go.getF d2_5 (q := 8) rfl (host := "") (Or.inl (w15 hw)) Via.refl (F.F_INT16_max.ext O.2) ?_
  refine Go.lcmp d2_8 (q := 9) rfl ?_
  refine Go.lif_ge d2_9 (q := 16) (q' := 12) (by decide) rfl rfl (fun c => absurd (by decide) c) (fun _ => ?_)
  refine Go.iconst d2_12 (q := 13) rfl (x := (1 : Int32)) (by decide) ?_
  refine Go.goto d2_13 (q := 17) (by decide) rfl ?_
  refine Go.zreturn d2_17 (by decide) (by decide) (by decide) ?_
  exact hQ
set_option maxRecDepth 65536 in
set_option maxHeartbeats 40000000 in
theorem b1_2 (l : Launch) (Z : State) (a0 : Array Value) (hw : Hw a0 Z) (n0 : Nat) (h : Heap) (O : Old Z n0 h) (a_INT8 a_INT64 a_INT32 a_STRING a_STRUCT a_FLOAT32 a_BYTES a_INT16 a_MAP a_ARRAY a_BOOLEAN a_FLOAT64 : Addr) (F : Facts Z a_INT8 a_INT64 a_INT32 a_STRING a_STRUCT a_FLOAT32 a_BYTES a_INT16 a_MAP a_ARRAY a_BOOLEAN a_FLOAT64) {Q : Option Value → Heap → Prop} (hQ : Q (some (.ref a_INT32)) h) :
    Go l Z (⟨"com/example/fieldpath/fieldpath/record/TypeIsIntegerPinLaw", "pick", "(I)Lcom/example/fieldpath/fieldpath/record/Schema$Type;"⟩ : MethodName) method_2_code 1 (some (.object "com/example/fieldpath/fieldpath/record/Schema$Type")) ({ frames := 0, cells := 0, slots := 0, locals := 0 } : Room) n0 Q h 0 0 0 #[.val (.int (2 : Int32))] [] := by
  refine Go.iloadN d1_0 (q := 1) rfl rfl ?_
  refine Go.if_ne d1_1 (q := 8) (q' := 4) (by decide) rfl rfl (fun _ => ?_) (fun c => absurd c (by decide))
  refine Go.iloadN d1_8 (q := 9) rfl rfl ?_
  refine Go.iconst d1_9 (q := 10) rfl (x := (1 : Int32)) (by decide) ?_
  refine Go.icmp_ne d1_10 (q := 17) (q' := 13) (by decide) rfl rfl (fun _ => ?_) (fun c => absurd c (by decide))
  refine Go.iloadN d1_17 (q := 18) rfl rfl ?_
  refine Go.iconst d1_18 (q := 19) rfl (x := (2 : Int32)) (by decide) ?_
  refine Go.icmp_ne d1_19 (q := 26) (q' := 22) (by decide) rfl rfl (fun c => absurd (by decide) c) (fun _ => ?_)
  refine Go.getS d1_22 (q := 25) rfl (w19 hw) (F.S_INT32.ext O.2) ?_
  refine Go.areturn d1_25 (by decide) (by decide) rfl rfl ?_
  exact hQ
set_option maxRecDepth 65536 in
set_option maxHeartbeats 40000000 in
theorem b2_2 (l : Launch) (Z : State) (a0 : Array Value) (hw : Hw a0 Z) (n0 : Nat) (h : Heap) (O : Old Z n0 h) (a_INT8 a_INT64 a_INT32 a_STRING a_STRUCT a_FLOAT32 a_BYTES a_INT16 a_MAP a_ARRAY a_BOOLEAN a_FLOAT64 : Addr) (F : Facts Z a_INT8 a_INT64 a_INT32 a_STRING a_STRUCT a_FLOAT32 a_BYTES a_INT16 a_MAP a_ARRAY a_BOOLEAN a_FLOAT64) {Q : Option Value → Heap → Prop} (hQ : Q (some (.int (1 : Int32))) h) :
    Go l Z (⟨"com/example/fieldpath/fieldpath/record/Schema$Type", "isInteger", "()Z"⟩ : MethodName) prog_21_method_5_code 1 (some .boolean) ({ frames := 0, cells := 0, slots := 0, locals := 0 } : Room) n0 Q h 0 0 0 #[.val (.ref a_INT32)] [] := by
  refine Go.aloadN d2_0 (q := 1) rfl rfl rfl ?_
  refine Go.getF d2_1 (q := 4) rfl (host := "") (Or.inl (w13 hw)) Via.refl (F.F_INT32_min.ext O.2) ?_
  refine Go.aloadN d2_4 (q := 5) rfl rfl rfl ?_
  refine Go.getF d2_5 (q := 8) rfl (host := "") (Or.inl (w15 hw)) Via.refl (F.F_INT32_max.ext O.2) ?_
  refine Go.lcmp d2_8 (q := 9) rfl ?_
  refine Go.lif_ge d2_9 (q := 16) (q' := 12) (by decide) rfl rfl (fun c => absurd (by decide) c) (fun _ => ?_)
  refine Go.iconst d2_12 (q := 13) rfl (x := (1 : Int32)) (by decide) ?_
  refine Go.goto d2_13 (q := 17) (by decide) rfl ?_
  refine Go.zreturn d2_17 (by decide) (by decide) (by decide) ?_
  exact hQ
set_option maxRecDepth 65536 in
set_option maxHeartbeats 40000000 in
theorem b1_3 (l : Launch) (Z : State) (a0 : Array Value) (hw : Hw a0 Z) (n0 : Nat) (h : Heap) (O : Old Z n0 h) (a_INT8 a_INT64 a_INT32 a_STRING a_STRUCT a_FLOAT32 a_BYTES a_INT16 a_MAP a_ARRAY a_BOOLEAN a_FLOAT64 : Addr) (F : Facts Z a_INT8 a_INT64 a_INT32 a_STRING a_STRUCT a_FLOAT32 a_BYTES a_INT16 a_MAP a_ARRAY a_BOOLEAN a_FLOAT64) {Q : Option Value → Heap → Prop} (hQ : Q (some (.ref a_INT64)) h) :
    Go l Z (⟨"com/example/fieldpath/fieldpath/record/TypeIsIntegerPinLaw", "pick", "(I)Lcom/example/fieldpath/fieldpath/record/Schema$Type;"⟩ : MethodName) method_2_code 1 (some (.object "com/example/fieldpath/fieldpath/record/Schema$Type")) ({ frames := 0, cells := 0, slots := 0, locals := 0 } : Room) n0 Q h 0 0 0 #[.val (.int (3 : Int32))] [] := by
  refine Go.iloadN d1_0 (q := 1) rfl rfl ?_
  refine Go.if_ne d1_1 (q := 8) (q' := 4) (by decide) rfl rfl (fun _ => ?_) (fun c => absurd c (by decide))
  refine Go.iloadN d1_8 (q := 9) rfl rfl ?_
  refine Go.iconst d1_9 (q := 10) rfl (x := (1 : Int32)) (by decide) ?_
  refine Go.icmp_ne d1_10 (q := 17) (q' := 13) (by decide) rfl rfl (fun _ => ?_) (fun c => absurd c (by decide))
  refine Go.iloadN d1_17 (q := 18) rfl rfl ?_
  refine Go.iconst d1_18 (q := 19) rfl (x := (2 : Int32)) (by decide) ?_
  refine Go.icmp_ne d1_19 (q := 26) (q' := 22) (by decide) rfl rfl (fun _ => ?_) (fun c => absurd c (by decide))
  refine Go.iloadN d1_26 (q := 27) rfl rfl ?_
  refine Go.iconst d1_27 (q := 28) rfl (x := (3 : Int32)) (by decide) ?_
  refine Go.icmp_ne d1_28 (q := 35) (q' := 31) (by decide) rfl rfl (fun c => absurd (by decide) c) (fun _ => ?_)
  refine Go.getS d1_31 (q := 34) rfl (w17 hw) (F.S_INT64.ext O.2) ?_
  refine Go.areturn d1_34 (by decide) (by decide) rfl rfl ?_
  exact hQ
set_option maxRecDepth 65536 in
set_option maxHeartbeats 40000000 in
theorem b2_3 (l : Launch) (Z : State) (a0 : Array Value) (hw : Hw a0 Z) (n0 : Nat) (h : Heap) (O : Old Z n0 h) (a_INT8 a_INT64 a_INT32 a_STRING a_STRUCT a_FLOAT32 a_BYTES a_INT16 a_MAP a_ARRAY a_BOOLEAN a_FLOAT64 : Addr) (F : Facts Z a_INT8 a_INT64 a_INT32 a_STRING a_STRUCT a_FLOAT32 a_BYTES a_INT16 a_MAP a_ARRAY a_BOOLEAN a_FLOAT64) {Q : Option Value → Heap → Prop} (hQ : Q (some (.int (1 : Int32))) h) :
    Go l Z (⟨"com/example/fieldpath/fieldpath/record/Schema$Type", "isInteger", "()Z"⟩ : MethodName) prog_21_method_5_code 1 (some .boolean) ({ frames := 0, cells := 0, slots := 0, locals := 0 } : Room) n0 Q h 0 0 0 #[.val (.ref a_INT64)] [] := by
  refine Go.aloadN d2_0 (q := 1) rfl rfl rfl ?_
  refine Go.getF d2_1 (q := 4) rfl (host := "") (Or.inl (w13 hw)) Via.refl (F.F_INT64_min.ext O.2) ?_
  refine Go.aloadN d2_4 (q := 5) rfl rfl rfl ?_
  refine Go.getF d2_5 (q := 8) rfl (host := "") (Or.inl (w15 hw)) Via.refl (F.F_INT64_max.ext O.2) ?_
  refine Go.lcmp d2_8 (q := 9) rfl ?_
  refine Go.lif_ge d2_9 (q := 16) (q' := 12) (by decide) rfl rfl (fun c => absurd (by decide) c) (fun _ => ?_)
  refine Go.iconst d2_12 (q := 13) rfl (x := (1 : Int32)) (by decide) ?_
  refine Go.goto d2_13 (q := 17) (by decide) rfl ?_
  refine Go.zreturn d2_17 (by decide) (by decide) (by decide) ?_
  exact hQ
set_option maxRecDepth 65536 in
set_option maxHeartbeats 40000000 in
theorem b1_4 (l : Launch) (Z : State) (a0 : Array Value) (hw : Hw a0 Z) (n0 : Nat) (h : Heap) (O : Old Z n0 h) (a_INT8 a_INT64 a_INT32 a_STRING a_STRUCT a_FLOAT32 a_BYTES a_INT16 a_MAP a_ARRAY a_BOOLEAN a_FLOAT64 : Addr) (F : Facts Z a_INT8 a_INT64 a_INT32 a_STRING a_STRUCT a_FLOAT32 a_BYTES a_INT16 a_MAP a_ARRAY a_BOOLEAN a_FLOAT64) {Q : Option Value → Heap → Prop} (hQ : Q (some (.ref a_FLOAT32)) h) :
    Go l Z (⟨"com/example/fieldpath/fieldpath/record/TypeIsIntegerPinLaw", "pick", "(I)Lcom/example/fieldpath/fieldpath/record/Schema$Type;"⟩ : MethodName) method_2_code 1 (some (.object "com/example/fieldpath/fieldpath/record/Schema$Type")) ({ frames := 0, cells := 0, slots := 0, locals := 0 } : Room) n0 Q h 0 0 0 #[.val (.int (4 : Int32))] [] := by
  refine Go.iloadN d1_0 (q := 1) rfl rfl ?_
  refine Go.if_ne d1_1 (q := 8) (q' := 4) (by decide) rfl rfl (fun _ => ?_) (fun c => absurd c (by decide))
  refine Go.iloadN d1_8 (q := 9) rfl rfl ?_
  refine Go.iconst d1_9 (q := 10) rfl (x := (1 : Int32)) (by decide) ?_
  refine Go.icmp_ne d1_10 (q := 17) (q' := 13) (by decide) rfl rfl (fun _ => ?_) (fun c => absurd c (by decide))
  refine Go.iloadN d1_17 (q := 18) rfl rfl ?_
  refine Go.iconst d1_18 (q := 19) rfl (x := (2 : Int32)) (by decide) ?_
  refine Go.icmp_ne d1_19 (q := 26) (q' := 22) (by decide) rfl rfl (fun _ => ?_) (fun c => absurd c (by decide))
  refine Go.iloadN d1_26 (q := 27) rfl rfl ?_
  refine Go.iconst d1_27 (q := 28) rfl (x := (3 : Int32)) (by decide) ?_
  refine Go.icmp_ne d1_28 (q := 35) (q' := 31) (by decide) rfl rfl (fun _ => ?_) (fun c => absurd c (by decide))
  refine Go.iloadN d1_35 (q := 36) rfl rfl ?_
  refine Go.iconst d1_36 (q := 37) rfl (x := (4 : Int32)) (by decide) ?_
  refine Go.icmp_ne d1_37 (q := 44) (q' := 40) (by decide) rfl rfl (fun c => absurd (by decide) c) (fun _ => ?_)
  refine Go.getS d1_40 (q := 43) rfl (w25 hw) (F.S_FLOAT32.ext O.2) ?_
  refine Go.areturn d1_43 (by decide) (by decide) rfl rfl ?_
  exact hQ
set_option maxRecDepth 65536 in
set_option maxHeartbeats 40000000 in
theorem b2_4 (l : Launch) (Z : State) (a0 : Array Value) (hw : Hw a0 Z) (n0 : Nat) (h : Heap) (O : Old Z n0 h) (a_INT8 a_INT64 a_INT32 a_STRING a_STRUCT a_FLOAT32 a_BYTES a_INT16 a_MAP a_ARRAY a_BOOLEAN a_FLOAT64 : Addr) (F : Facts Z a_INT8 a_INT64 a_INT32 a_STRING a_STRUCT a_FLOAT32 a_BYTES a_INT16 a_MAP a_ARRAY a_BOOLEAN a_FLOAT64) {Q : Option Value → Heap → Prop} (hQ : Q (some (.int (0 : Int32))) h) :
    Go l Z (⟨"com/example/fieldpath/fieldpath/record/Schema$Type", "isInteger", "()Z"⟩ : MethodName) prog_21_method_5_code 1 (some .boolean) ({ frames := 0, cells := 0, slots := 0, locals := 0 } : Room) n0 Q h 0 0 0 #[.val (.ref a_FLOAT32)] [] := by
  refine Go.aloadN d2_0 (q := 1) rfl rfl rfl ?_
  refine Go.getF d2_1 (q := 4) rfl (host := "") (Or.inl (w13 hw)) Via.refl (F.F_FLOAT32_min.ext O.2) ?_
  refine Go.aloadN d2_4 (q := 5) rfl rfl rfl ?_
  refine Go.getF d2_5 (q := 8) rfl (host := "") (Or.inl (w15 hw)) Via.refl (F.F_FLOAT32_max.ext O.2) ?_
  refine Go.lcmp d2_8 (q := 9) rfl ?_
  refine Go.lif_ge d2_9 (q := 16) (q' := 12) (by decide) rfl rfl (fun _ => ?_) (fun c => absurd c (by decide))
  refine Go.iconst d2_16 (q := 17) rfl (x := (0 : Int32)) (by decide) ?_
  refine Go.zreturn d2_17 (by decide) (by decide) (by decide) ?_
  exact hQ
set_option maxRecDepth 65536 in
set_option maxHeartbeats 40000000 in
theorem b1_5 (l : Launch) (Z : State) (a0 : Array Value) (hw : Hw a0 Z) (n0 : Nat) (h : Heap) (O : Old Z n0 h) (a_INT8 a_INT64 a_INT32 a_STRING a_STRUCT a_FLOAT32 a_BYTES a_INT16 a_MAP a_ARRAY a_BOOLEAN a_FLOAT64 : Addr) (F : Facts Z a_INT8 a_INT64 a_INT32 a_STRING a_STRUCT a_FLOAT32 a_BYTES a_INT16 a_MAP a_ARRAY a_BOOLEAN a_FLOAT64) {Q : Option Value → Heap → Prop} (hQ : Q (some (.ref a_FLOAT64)) h) :
    Go l Z (⟨"com/example/fieldpath/fieldpath/record/TypeIsIntegerPinLaw", "pick", "(I)Lcom/example/fieldpath/fieldpath/record/Schema$Type;"⟩ : MethodName) method_2_code 1 (some (.object "com/example/fieldpath/fieldpath/record/Schema$Type")) ({ frames := 0, cells := 0, slots := 0, locals := 0 } : Room) n0 Q h 0 0 0 #[.val (.int (5 : Int32))] [] := by
  refine Go.iloadN d1_0 (q := 1) rfl rfl ?_
  refine Go.if_ne d1_1 (q := 8) (q' := 4) (by decide) rfl rfl (fun _ => ?_) (fun c => absurd c (by decide))
  refine Go.iloadN d1_8 (q := 9) rfl rfl ?_
  refine Go.iconst d1_9 (q := 10) rfl (x := (1 : Int32)) (by decide) ?_
  refine Go.icmp_ne d1_10 (q := 17) (q' := 13) (by decide) rfl rfl (fun _ => ?_) (fun c => absurd c (by decide))
  refine Go.iloadN d1_17 (q := 18) rfl rfl ?_
  refine Go.iconst d1_18 (q := 19) rfl (x := (2 : Int32)) (by decide) ?_
  refine Go.icmp_ne d1_19 (q := 26) (q' := 22) (by decide) rfl rfl (fun _ => ?_) (fun c => absurd c (by decide))
  refine Go.iloadN d1_26 (q := 27) rfl rfl ?_
  refine Go.iconst d1_27 (q := 28) rfl (x := (3 : Int32)) (by decide) ?_
  refine Go.icmp_ne d1_28 (q := 35) (q' := 31) (by decide) rfl rfl (fun _ => ?_) (fun c => absurd c (by decide))
  refine Go.iloadN d1_35 (q := 36) rfl rfl ?_
  refine Go.iconst d1_36 (q := 37) rfl (x := (4 : Int32)) (by decide) ?_
  refine Go.icmp_ne d1_37 (q := 44) (q' := 40) (by decide) rfl rfl (fun _ => ?_) (fun c => absurd c (by decide))
  refine Go.iloadN d1_44 (q := 45) rfl rfl ?_
  refine Go.iconst d1_45 (q := 46) rfl (x := (5 : Int32)) (by decide) ?_
  refine Go.icmp_ne d1_46 (q := 53) (q' := 49) (by decide) rfl rfl (fun c => absurd (by decide) c) (fun _ => ?_)
  refine Go.getS d1_49 (q := 52) rfl (w37 hw) (F.S_FLOAT64.ext O.2) ?_
  refine Go.areturn d1_52 (by decide) (by decide) rfl rfl ?_
  exact hQ
set_option maxRecDepth 65536 in
set_option maxHeartbeats 40000000 in
theorem b2_5 (l : Launch) (Z : State) (a0 : Array Value) (hw : Hw a0 Z) (n0 : Nat) (h : Heap) (O : Old Z n0 h) (a_INT8 a_INT64 a_INT32 a_STRING a_STRUCT a_FLOAT32 a_BYTES a_INT16 a_MAP a_ARRAY a_BOOLEAN a_FLOAT64 : Addr) (F : Facts Z a_INT8 a_INT64 a_INT32 a_STRING a_STRUCT a_FLOAT32 a_BYTES a_INT16 a_MAP a_ARRAY a_BOOLEAN a_FLOAT64) {Q : Option Value → Heap → Prop} (hQ : Q (some (.int (0 : Int32))) h) :
    Go l Z (⟨"com/example/fieldpath/fieldpath/record/Schema$Type", "isInteger", "()Z"⟩ : MethodName) prog_21_method_5_code 1 (some .boolean) ({ frames := 0, cells := 0, slots := 0, locals := 0 } : Room) n0 Q h 0 0 0 #[.val (.ref a_FLOAT64)] [] := by
  refine Go.aloadN d2_0 (q := 1) rfl rfl rfl ?_
  refine Go.getF d2_1 (q := 4) rfl (host := "") (Or.inl (w13 hw)) Via.refl (F.F_FLOAT64_min.ext O.2) ?_
  refine Go.aloadN d2_4 (q := 5) rfl rfl rfl ?_
  refine Go.getF d2_5 (q := 8) rfl (host := "") (Or.inl (w15 hw)) Via.refl (F.F_FLOAT64_max.ext O.2) ?_
  refine Go.lcmp d2_8 (q := 9) rfl ?_
  refine Go.lif_ge d2_9 (q := 16) (q' := 12) (by decide) rfl rfl (fun _ => ?_) (fun c => absurd c (by decide))
  refine Go.iconst d2_16 (q := 17) rfl (x := (0 : Int32)) (by decide) ?_
  refine Go.zreturn d2_17 (by decide) (by decide) (by decide) ?_
  exact hQ
set_option maxRecDepth 65536 in
set_option maxHeartbeats 40000000 in
theorem b1_6 (l : Launch) (Z : State) (a0 : Array Value) (hw : Hw a0 Z) (n0 : Nat) (h : Heap) (O : Old Z n0 h) (a_INT8 a_INT64 a_INT32 a_STRING a_STRUCT a_FLOAT32 a_BYTES a_INT16 a_MAP a_ARRAY a_BOOLEAN a_FLOAT64 : Addr) (F : Facts Z a_INT8 a_INT64 a_INT32 a_STRING a_STRUCT a_FLOAT32 a_BYTES a_INT16 a_MAP a_ARRAY a_BOOLEAN a_FLOAT64) {Q : Option Value → Heap → Prop} (hQ : Q (some (.ref a_BOOLEAN)) h) :
    Go l Z (⟨"com/example/fieldpath/fieldpath/record/TypeIsIntegerPinLaw", "pick", "(I)Lcom/example/fieldpath/fieldpath/record/Schema$Type;"⟩ : MethodName) method_2_code 1 (some (.object "com/example/fieldpath/fieldpath/record/Schema$Type")) ({ frames := 0, cells := 0, slots := 0, locals := 0 } : Room) n0 Q h 0 0 0 #[.val (.int (6 : Int32))] [] := by
  refine Go.iloadN d1_0 (q := 1) rfl rfl ?_
  refine Go.if_ne d1_1 (q := 8) (q' := 4) (by decide) rfl rfl (fun _ => ?_) (fun c => absurd c (by decide))
  refine Go.iloadN d1_8 (q := 9) rfl rfl ?_
  refine Go.iconst d1_9 (q := 10) rfl (x := (1 : Int32)) (by decide) ?_
  refine Go.icmp_ne d1_10 (q := 17) (q' := 13) (by decide) rfl rfl (fun _ => ?_) (fun c => absurd c (by decide))
  refine Go.iloadN d1_17 (q := 18) rfl rfl ?_
  refine Go.iconst d1_18 (q := 19) rfl (x := (2 : Int32)) (by decide) ?_
  refine Go.icmp_ne d1_19 (q := 26) (q' := 22) (by decide) rfl rfl (fun _ => ?_) (fun c => absurd c (by decide))
  refine Go.iloadN d1_26 (q := 27) rfl rfl ?_
  refine Go.iconst d1_27 (q := 28) rfl (x := (3 : Int32)) (by decide) ?_
  refine Go.icmp_ne d1_28 (q := 35) (q' := 31) (by decide) rfl rfl (fun _ => ?_) (fun c => absurd c (by decide))
  refine Go.iloadN d1_35 (q := 36) rfl rfl ?_
  refine Go.iconst d1_36 (q := 37) rfl (x := (4 : Int32)) (by decide) ?_
  refine Go.icmp_ne d1_37 (q := 44) (q' := 40) (by decide) rfl rfl (fun _ => ?_) (fun c => absurd c (by decide))
  refine Go.iloadN d1_44 (q := 45) rfl rfl ?_
  refine Go.iconst d1_45 (q := 46) rfl (x := (5 : Int32)) (by decide) ?_
  refine Go.icmp_ne d1_46 (q := 53) (q' := 49) (by decide) rfl rfl (fun _ => ?_) (fun c => absurd c (by decide))
  refine Go.iloadN d1_53 (q := 54) rfl rfl ?_
  refine Go.bipush d1_54 (q := 56) rfl (x := (6 : Int32)) (by decide) ?_
  refine Go.icmp_ne d1_56 (q := 63) (q' := 59) (by decide) rfl rfl (fun c => absurd (by decide) c) (fun _ => ?_)
  refine Go.getS d1_59 (q := 62) rfl (w35 hw) (F.S_BOOLEAN.ext O.2) ?_
  refine Go.areturn d1_62 (by decide) (by decide) rfl rfl ?_
  exact hQ
set_option maxRecDepth 65536 in
set_option maxHeartbeats 40000000 in
theorem b2_6 (l : Launch) (Z : State) (a0 : Array Value) (hw : Hw a0 Z) (n0 : Nat) (h : Heap) (O : Old Z n0 h) (a_INT8 a_INT64 a_INT32 a_STRING a_STRUCT a_FLOAT32 a_BYTES a_INT16 a_MAP a_ARRAY a_BOOLEAN a_FLOAT64 : Addr) (F : Facts Z a_INT8 a_INT64 a_INT32 a_STRING a_STRUCT a_FLOAT32 a_BYTES a_INT16 a_MAP a_ARRAY a_BOOLEAN a_FLOAT64) {Q : Option Value → Heap → Prop} (hQ : Q (some (.int (0 : Int32))) h) :
    Go l Z (⟨"com/example/fieldpath/fieldpath/record/Schema$Type", "isInteger", "()Z"⟩ : MethodName) prog_21_method_5_code 1 (some .boolean) ({ frames := 0, cells := 0, slots := 0, locals := 0 } : Room) n0 Q h 0 0 0 #[.val (.ref a_BOOLEAN)] [] := by
  refine Go.aloadN d2_0 (q := 1) rfl rfl rfl ?_
  refine Go.getF d2_1 (q := 4) rfl (host := "") (Or.inl (w13 hw)) Via.refl (F.F_BOOLEAN_min.ext O.2) ?_
  refine Go.aloadN d2_4 (q := 5) rfl rfl rfl ?_
  refine Go.getF d2_5 (q := 8) rfl (host := "") (Or.inl (w15 hw)) Via.refl (F.F_BOOLEAN_max.ext O.2) ?_
  refine Go.lcmp d2_8 (q := 9) rfl ?_
  refine Go.lif_ge d2_9 (q := 16) (q' := 12) (by decide) rfl rfl (fun _ => ?_) (fun c => absurd c (by decide))
  refine Go.iconst d2_16 (q := 17) rfl (x := (0 : Int32)) (by decide) ?_
  refine Go.zreturn d2_17 (by decide) (by decide) (by decide) ?_
  exact hQ
set_option maxRecDepth 65536 in
set_option maxHeartbeats 40000000 in
theorem b1_7 (l : Launch) (Z : State) (a0 : Array Value) (hw : Hw a0 Z) (n0 : Nat) (h : Heap) (O : Old Z n0 h) (a_INT8 a_INT64 a_INT32 a_STRING a_STRUCT a_FLOAT32 a_BYTES a_INT16 a_MAP a_ARRAY a_BOOLEAN a_FLOAT64 : Addr) (F : Facts Z a_INT8 a_INT64 a_INT32 a_STRING a_STRUCT a_FLOAT32 a_BYTES a_INT16 a_MAP a_ARRAY a_BOOLEAN a_FLOAT64) {Q : Option Value → Heap → Prop} (hQ : Q (some (.ref a_STRING)) h) :
    Go l Z (⟨"com/example/fieldpath/fieldpath/record/TypeIsIntegerPinLaw", "pick", "(I)Lcom/example/fieldpath/fieldpath/record/Schema$Type;"⟩ : MethodName) method_2_code 1 (some (.object "com/example/fieldpath/fieldpath/record/Schema$Type")) ({ frames := 0, cells := 0, slots := 0, locals := 0 } : Room) n0 Q h 0 0 0 #[.val (.int (7 : Int32))] [] := by
  refine Go.iloadN d1_0 (q := 1) rfl rfl ?_
  refine Go.if_ne d1_1 (q := 8) (q' := 4) (by decide) rfl rfl (fun _ => ?_) (fun c => absurd c (by decide))
  refine Go.iloadN d1_8 (q := 9) rfl rfl ?_
  refine Go.iconst d1_9 (q := 10) rfl (x := (1 : Int32)) (by decide) ?_
  refine Go.icmp_ne d1_10 (q := 17) (q' := 13) (by decide) rfl rfl (fun _ => ?_) (fun c => absurd c (by decide))
  refine Go.iloadN d1_17 (q := 18) rfl rfl ?_
  refine Go.iconst d1_18 (q := 19) rfl (x := (2 : Int32)) (by decide) ?_
  refine Go.icmp_ne d1_19 (q := 26) (q' := 22) (by decide) rfl rfl (fun _ => ?_) (fun c => absurd c (by decide))
  refine Go.iloadN d1_26 (q := 27) rfl rfl ?_
  refine Go.iconst d1_27 (q := 28) rfl (x := (3 : Int32)) (by decide) ?_
  refine Go.icmp_ne d1_28 (q := 35) (q' := 31) (by decide) rfl rfl (fun _ => ?_) (fun c => absurd c (by decide))
  refine Go.iloadN d1_35 (q := 36) rfl rfl ?_
  refine Go.iconst d1_36 (q := 37) rfl (x := (4 : Int32)) (by decide) ?_
  refine Go.icmp_ne d1_37 (q := 44) (q' := 40) (by decide) rfl rfl (fun _ => ?_) (fun c => absurd c (by decide))
  refine Go.iloadN d1_44 (q := 45) rfl rfl ?_
  refine Go.iconst d1_45 (q := 46) rfl (x := (5 : Int32)) (by decide) ?_
  refine Go.icmp_ne d1_46 (q := 53) (q' := 49) (by decide) rfl rfl (fun _ => ?_) (fun c => absurd c (by decide))
  refine Go.iloadN d1_53 (q := 54) rfl rfl ?_
  refine Go.bipush d1_54 (q := 56) rfl (x := (6 : Int32)) (by decide) ?_
  refine Go.icmp_ne d1_56 (q := 63) (q' := 59) (by decide) rfl rfl (fun _ => ?_) (fun c => absurd c (by decide))
  refine Go.iloadN d1_63 (q := 64) rfl rfl ?_
  refine Go.bipush d1_64 (q := 66) rfl (x := (7 : Int32)) (by decide) ?_
  refine Go.icmp_ne d1_66 (q := 73) (q' := 69) (by decide) rfl rfl (fun c => absurd (by decide) c) (fun _ => ?_)
  refine Go.getS d1_69 (q := 72) rfl (w21 hw) (F.S_STRING.ext O.2) ?_
  refine Go.areturn d1_72 (by decide) (by decide) rfl rfl ?_
  exact hQ
set_option maxRecDepth 65536 in
set_option maxHeartbeats 40000000 in
theorem b2_7 (l : Launch) (Z : State) (a0 : Array Value) (hw : Hw a0 Z) (n0 : Nat) (h : Heap) (O : Old Z n0 h) (a_INT8 a_INT64 a_INT32 a_STRING a_STRUCT a_FLOAT32 a_BYTES a_INT16 a_MAP a_ARRAY a_BOOLEAN a_FLOAT64 : Addr) (F : Facts Z a_INT8 a_INT64 a_INT32 a_STRING a_STRUCT a_FLOAT32 a_BYTES a_INT16 a_MAP a_ARRAY a_BOOLEAN a_FLOAT64) {Q : Option Value → Heap → Prop} (hQ : Q (some (.int (0 : Int32))) h) :
    Go l Z (⟨"com/example/fieldpath/fieldpath/record/Schema$Type", "isInteger", "()Z"⟩ : MethodName) prog_21_method_5_code 1 (some .boolean) ({ frames := 0, cells := 0, slots := 0, locals := 0 } : Room) n0 Q h 0 0 0 #[.val (.ref a_STRING)] [] := by
  refine Go.aloadN d2_0 (q := 1) rfl rfl rfl ?_
  refine Go.getF d2_1 (q := 4) rfl (host := "") (Or.inl (w13 hw)) Via.refl (F.F_STRING_min.ext O.2) ?_
  refine Go.aloadN d2_4 (q := 5) rfl rfl rfl ?_
  refine Go.getF d2_5 (q := 8) rfl (host := "") (Or.inl (w15 hw)) Via.refl (F.F_STRING_max.ext O.2) ?_
  refine Go.lcmp d2_8 (q := 9) rfl ?_
  refine Go.lif_ge d2_9 (q := 16) (q' := 12) (by decide) rfl rfl (fun _ => ?_) (fun c => absurd c (by decide))
  refine Go.iconst d2_16 (q := 17) rfl (x := (0 : Int32)) (by decide) ?_
  refine Go.zreturn d2_17 (by decide) (by decide) (by decide) ?_
  exact hQ
set_option maxRecDepth 65536 in
set_option maxHeartbeats 40000000 in
theorem b1_8 (l : Launch) (Z : State) (a0 : Array Value) (hw : Hw a0 Z) (n0 : Nat) (h : Heap) (O : Old Z n0 h) (a_INT8 a_INT64 a_INT32 a_STRING a_STRUCT a_FLOAT32 a_BYTES a_INT16 a_MAP a_ARRAY a_BOOLEAN a_FLOAT64 : Addr) (F : Facts Z a_INT8 a_INT64 a_INT32 a_STRING a_STRUCT a_FLOAT32 a_BYTES a_INT16 a_MAP a_ARRAY a_BOOLEAN a_FLOAT64) {Q : Option Value → Heap → Prop} (hQ : Q (some (.ref a_BYTES)) h) :
    Go l Z (⟨"com/example/fieldpath/fieldpath/record/TypeIsIntegerPinLaw", "pick", "(I)Lcom/example/fieldpath/fieldpath/record/Schema$Type;"⟩ : MethodName) method_2_code 1 (some (.object "com/example/fieldpath/fieldpath/record/Schema$Type")) ({ frames := 0, cells := 0, slots := 0, locals := 0 } : Room) n0 Q h 0 0 0 #[.val (.int (8 : Int32))] [] := by
  refine Go.iloadN d1_0 (q := 1) rfl rfl ?_
  refine Go.if_ne d1_1 (q := 8) (q' := 4) (by decide) rfl rfl (fun _ => ?_) (fun c => absurd c (by decide))
  refine Go.iloadN d1_8 (q := 9) rfl rfl ?_
  refine Go.iconst d1_9 (q := 10) rfl (x := (1 : Int32)) (by decide) ?_
  refine Go.icmp_ne d1_10 (q := 17) (q' := 13) (by decide) rfl rfl (fun _ => ?_) (fun c => absurd c (by decide))
  refine Go.iloadN d1_17 (q := 18) rfl rfl ?_
  refine Go.iconst d1_18 (q := 19) rfl (x := (2 : Int32)) (by decide) ?_
  refine Go.icmp_ne d1_19 (q := 26) (q' := 22) (by decide) rfl rfl (fun _ => ?_) (fun c => absurd c (by decide))
  refine Go.iloadN d1_26 (q := 27) rfl rfl ?_
  refine Go.iconst d1_27 (q := 28) rfl (x := (3 : Int32)) (by decide) ?_
  refine Go.icmp_ne d1_28 (q := 35) (q' := 31) (by decide) rfl rfl (fun _ => ?_) (fun c => absurd c (by decide))
  refine Go.iloadN d1_35 (q := 36) rfl rfl ?_
  refine Go.iconst d1_36 (q := 37) rfl (x := (4 : Int32)) (by decide) ?_
  refine Go.icmp_ne d1_37 (q := 44) (q' := 40) (by decide) rfl rfl (fun _ => ?_) (fun c => absurd c (by decide))
  refine Go.iloadN d1_44 (q := 45) rfl rfl ?_
  refine Go.iconst d1_45 (q := 46) rfl (x := (5 : Int32)) (by decide) ?_
  refine Go.icmp_ne d1_46 (q := 53) (q' := 49) (by decide) rfl rfl (fun _ => ?_) (fun c => absurd c (by decide))
  refine Go.iloadN d1_53 (q := 54) rfl rfl ?_
  refine Go.bipush d1_54 (q := 56) rfl (x := (6 : Int32)) (by decide) ?_
  refine Go.icmp_ne d1_56 (q := 63) (q' := 59) (by decide) rfl rfl (fun _ => ?_) (fun c => absurd c (by decide))
  refine Go.iloadN d1_63 (q := 64) rfl rfl ?_
  refine Go.bipush d1_64 (q := 66) rfl (x := (7 : Int32)) (by decide) ?_
  refine Go.icmp_ne d1_66 (q := 73) (q' := 69) (by decide) rfl rfl (fun _ => ?_) (fun c => absurd c (by decide))
  refine Go.iloadN d1_73 (q := 74) rfl rfl ?_
  refine Go.bipush d1_74 (q := 76) rfl (x := (8 : Int32)) (by decide) ?_
  refine Go.icmp_ne d1_76 (q := 83) (q' := 79) (by decide) rfl rfl (fun c => absurd (by decide) c) (fun _ => ?_)
  refine Go.getS d1_79 (q := 82) rfl (w27 hw) (F.S_BYTES.ext O.2) ?_
  refine Go.areturn d1_82 (by decide) (by decide) rfl rfl ?_
  exact hQ
set_option maxRecDepth 65536 in
set_option maxHeartbeats 40000000 in
theorem b2_8 (l : Launch) (Z : State) (a0 : Array Value) (hw : Hw a0 Z) (n0 : Nat) (h : Heap) (O : Old Z n0 h) (a_INT8 a_INT64 a_INT32 a_STRING a_STRUCT a_FLOAT32 a_BYTES a_INT16 a_MAP a_ARRAY a_BOOLEAN a_FLOAT64 : Addr) (F : Facts Z a_INT8 a_INT64 a_INT32 a_STRING a_STRUCT a_FLOAT32 a_BYTES a_INT16 a_MAP a_ARRAY a_BOOLEAN a_FLOAT64) {Q : Option Value → Heap → Prop} (hQ : Q (some (.int (0 : Int32))) h) :
    Go l Z (⟨"com/example/fieldpath/fieldpath/record/Schema$Type", "isInteger", "()Z"⟩ : MethodName) prog_21_method_5_code 1 (some .boolean) ({ frames := 0, cells := 0, slots := 0, locals := 0 } : Room) n0 Q h 0 0 0 #[.val (.ref a_BYTES)] [] := by
  refine Go.aloadN d2_0 (q := 1) rfl rfl rfl ?_
  refine Go.getF d2_1 (q := 4) rfl (host := "") (Or.inl (w13 hw)) Via.refl (F.F_BYTES_min.ext O.2) ?_
  refine Go.aloadN d2_4 (q := 5) rfl rfl rfl ?_
  refine Go.getF d2_5 (q := 8) rfl (host := "") (Or.inl (w15 hw)) Via.refl (F.F_BYTES_max.ext O.2) ?_
  refine Go.lcmp d2_8 (q := 9) rfl ?_
  refine Go.lif_ge d2_9 (q := 16) (q' := 12) (by decide) rfl rfl (fun _ => ?_) (fun c => absurd c (by decide))
  refine Go.iconst d2_16 (q := 17) rfl (x := (0 : Int32)) (by decide) ?_
  refine Go.zreturn d2_17 (by decide) (by decide) (by decide) ?_
  exact hQ
set_option maxRecDepth 65536 in
set_option maxHeartbeats 40000000 in
theorem b1_9 (l : Launch) (Z : State) (a0 : Array Value) (hw : Hw a0 Z) (n0 : Nat) (h : Heap) (O : Old Z n0 h) (a_INT8 a_INT64 a_INT32 a_STRING a_STRUCT a_FLOAT32 a_BYTES a_INT16 a_MAP a_ARRAY a_BOOLEAN a_FLOAT64 : Addr) (F : Facts Z a_INT8 a_INT64 a_INT32 a_STRING a_STRUCT a_FLOAT32 a_BYTES a_INT16 a_MAP a_ARRAY a_BOOLEAN a_FLOAT64) {Q : Option Value → Heap → Prop} (hQ : Q (some (.ref a_ARRAY)) h) :
    Go l Z (⟨"com/example/fieldpath/fieldpath/record/TypeIsIntegerPinLaw", "pick", "(I)Lcom/example/fieldpath/fieldpath/record/Schema$Type;"⟩ : MethodName) method_2_code 1 (some (.object "com/example/fieldpath/fieldpath/record/Schema$Type")) ({ frames := 0, cells := 0, slots := 0, locals := 0 } : Room) n0 Q h 0 0 0 #[.val (.int (9 : Int32))] [] := by
  refine Go.iloadN d1_0 (q := 1) rfl rfl ?_
  refine Go.if_ne d1_1 (q := 8) (q' := 4) (by decide) rfl rfl (fun _ => ?_) (fun c => absurd c (by decide))
  refine Go.iloadN d1_8 (q := 9) rfl rfl ?_
  refine Go.iconst d1_9 (q := 10) rfl (x := (1 : Int32)) (by decide) ?_
  refine Go.icmp_ne d1_10 (q := 17) (q' := 13) (by decide) rfl rfl (fun _ => ?_) (fun c => absurd c (by decide))
  refine Go.iloadN d1_17 (q := 18) rfl rfl ?_
  refine Go.iconst d1_18 (q := 19) rfl (x := (2 : Int32)) (by decide) ?_
  refine Go.icmp_ne d1_19 (q := 26) (q' := 22) (by decide) rfl rfl (fun _ => ?_) (fun c => absurd c (by decide))
  refine Go.iloadN d1_26 (q := 27) rfl rfl ?_
  refine Go.iconst d1_27 (q := 28) rfl (x := (3 : Int32)) (by decide) ?_
  refine Go.icmp_ne d1_28 (q := 35) (q' := 31) (by decide) rfl rfl (fun _ => ?_) (fun c => absurd c (by decide))
  refine Go.iloadN d1_35 (q := 36) rfl rfl ?_
  refine Go.iconst d1_36 (q := 37) rfl (x := (4 : Int32)) (by decide) ?_
  refine Go.icmp_ne d1_37 (q := 44) (q' := 40) (by decide) rfl rfl (fun _ => ?_) (fun c => absurd c (by decide))
  refine Go.iloadN d1_44 (q := 45) rfl rfl ?_
  refine Go.iconst d1_45 (q := 46) rfl (x := (5 : Int32)) (by decide) ?_
  refine Go.icmp_ne d1_46 (q := 53) (q' := 49) (by decide) rfl rfl (fun _ => ?_) (fun c => absurd c (by decide))
  refine Go.iloadN d1_53 (q := 54) rfl rfl ?_
  refine Go.bipush d1_54 (q := 56) rfl (x := (6 : Int32)) (by decide) ?_
  refine Go.icmp_ne d1_56 (q := 63) (q' := 59) (by decide) rfl rfl (fun _ => ?_) (fun c => absurd c (by decide))
  refine Go.iloadN d1_63 (q := 64) rfl rfl ?_
  refine Go.bipush d1_64 (q := 66) rfl (x := (7 : Int32)) (by decide) ?_
  refine Go.icmp_ne d1_66 (q := 73) (q' := 69) (by decide) rfl rfl (fun _ => ?_) (fun c => absurd c (by decide))
  refine Go.iloadN d1_73 (q := 74) rfl rfl ?_
  refine Go.bipush d1_74 (q := 76) rfl (x := (8 : Int32)) (by decide) ?_
  refine Go.icmp_ne d1_76 (q := 83) (q' := 79) (by decide) rfl rfl (fun _ => ?_) (fun c => absurd c (by decide))
  refine Go.iloadN d1_83 (q := 84) rfl rfl ?_
  refine Go.bipush d1_84 (q := 86) rfl (x := (9 : Int32)) (by decide) ?_
  refine Go.icmp_ne d1_86 (q := 93) (q' := 89) (by decide) rfl rfl (fun c => absurd (by decide) c) (fun _ => ?_)
  refine Go.getS d1_89 (q := 92) rfl (w33 hw) (F.S_ARRAY.ext O.2) ?_
  refine Go.areturn d1_92 (by decide) (by decide) rfl rfl ?_
  exact hQ
set_option maxRecDepth 65536 in
set_option maxHeartbeats 40000000 in
theorem b2_9 (l : Launch) (Z : State) (a0 : Array Value) (hw : Hw a0 Z) (n0 : Nat) (h : Heap) (O : Old Z n0 h) (a_INT8 a_INT64 a_INT32 a_STRING a_STRUCT a_FLOAT32 a_BYTES a_INT16 a_MAP a_ARRAY a_BOOLEAN a_FLOAT64 : Addr) (F : Facts Z a_INT8 a_INT64 a_INT32 a_STRING a_STRUCT a_FLOAT32 a_BYTES a_INT16 a_MAP a_ARRAY a_BOOLEAN a_FLOAT64) {Q : Option Value → Heap → Prop} (hQ : Q (some (.int (0 : Int32))) h) :
    Go l Z (⟨"com/example/fieldpath/fieldpath/record/Schema$Type", "isInteger", "()Z"⟩ : MethodName) prog_21_method_5_code 1 (some .boolean) ({ frames := 0, cells := 0, slots := 0, locals := 0 } : Room) n0 Q h 0 0 0 #[.val (.ref a_ARRAY)] [] := by
  refine Go.aloadN d2_0 (q := 1) rfl rfl rfl ?_
  refine Go.getF d2_1 (q := 4) rfl (host := "") (Or.inl (w13 hw)) Via.refl (F.F_ARRAY_min.ext O.2) ?_
  refine Go.aloadN d2_4 (q := 5) rfl rfl rfl ?_
  refine Go.getF d2_5 (q := 8) rfl (host := "") (Or.inl (w15 hw)) Via.refl (F.F_ARRAY_max.ext O.2) ?_
  refine Go.lcmp d2_8 (q := 9) rfl ?_
  refine Go.lif_ge d2_9 (q := 16) (q' := 12) (by decide) rfl rfl (fun _ => ?_) (fun c => absurd c (by decide))
  refine Go.iconst d2_16 (q := 17) rfl (x := (0 : Int32)) (by decide) ?_
  refine Go.zreturn d2_17 (by decide) (by decide) (by decide) ?_
  exact hQ
set_option maxRecDepth 65536 in
set_option maxHeartbeats 40000000 in
theorem b1_10 (l : Launch) (Z : State) (a0 : Array Value) (hw : Hw a0 Z) (n0 : Nat) (h : Heap) (O : Old Z n0 h) (a_INT8 a_INT64 a_INT32 a_STRING a_STRUCT a_FLOAT32 a_BYTES a_INT16 a_MAP a_ARRAY a_BOOLEAN a_FLOAT64 : Addr) (F : Facts Z a_INT8 a_INT64 a_INT32 a_STRING a_STRUCT a_FLOAT32 a_BYTES a_INT16 a_MAP a_ARRAY a_BOOLEAN a_FLOAT64) {Q : Option Value → Heap → Prop} (hQ : Q (some (.ref a_MAP)) h) :
    Go l Z (⟨"com/example/fieldpath/fieldpath/record/TypeIsIntegerPinLaw", "pick", "(I)Lcom/example/fieldpath/fieldpath/record/Schema$Type;"⟩ : MethodName) method_2_code 1 (some (.object "com/example/fieldpath/fieldpath/record/Schema$Type")) ({ frames := 0, cells := 0, slots := 0, locals := 0 } : Room) n0 Q h 0 0 0 #[.val (.int (10 : Int32))] [] := by
  refine Go.iloadN d1_0 (q := 1) rfl rfl ?_
  refine Go.if_ne d1_1 (q := 8) (q' := 4) (by decide) rfl rfl (fun _ => ?_) (fun c => absurd c (by decide))
  refine Go.iloadN d1_8 (q := 9) rfl rfl ?_
  refine Go.iconst d1_9 (q := 10) rfl (x := (1 : Int32)) (by decide) ?_
  refine Go.icmp_ne d1_10 (q := 17) (q' := 13) (by decide) rfl rfl (fun _ => ?_) (fun c => absurd c (by decide))
  refine Go.iloadN d1_17 (q := 18) rfl rfl ?_
  refine Go.iconst d1_18 (q := 19) rfl (x := (2 : Int32)) (by decide) ?_
  refine Go.icmp_ne d1_19 (q := 26) (q' := 22) (by decide) rfl rfl (fun _ => ?_) (fun c => absurd c (by decide))
  refine Go.iloadN d1_26 (q := 27) rfl rfl ?_
  refine Go.iconst d1_27 (q := 28) rfl (x := (3 : Int32)) (by decide) ?_
  refine Go.icmp_ne d1_28 (q := 35) (q' := 31) (by decide) rfl rfl (fun _ => ?_) (fun c => absurd c (by decide))
  refine Go.iloadN d1_35 (q := 36) rfl rfl ?_
  refine Go.iconst d1_36 (q := 37) rfl (x := (4 : Int32)) (by decide) ?_
  refine Go.icmp_ne d1_37 (q := 44) (q' := 40) (by decide) rfl rfl (fun _ => ?_) (fun c => absurd c (by decide))
  refine Go.iloadN d1_44 (q := 45) rfl rfl ?_
  refine Go.iconst d1_45 (q := 46) rfl (x := (5 : Int32)) (by decide) ?_
  refine Go.icmp_ne d1_46 (q := 53) (q' := 49) (by decide) rfl rfl (fun _ => ?_) (fun c => absurd c (by decide))
  refine Go.iloadN d1_53 (q := 54) rfl rfl ?_
  refine Go.bipush d1_54 (q := 56) rfl (x := (6 : Int32)) (by decide) ?_
  refine Go.icmp_ne d1_56 (q := 63) (q' := 59) (by decide) rfl rfl (fun _ => ?_) (fun c => absurd c (by decide))
  refine Go.iloadN d1_63 (q := 64) rfl rfl ?_
  refine Go.bipush d1_64 (q := 66) rfl (x := (7 : Int32)) (by decide) ?_
  refine Go.icmp_ne d1_66 (q := 73) (q' := 69) (by decide) rfl rfl (fun _ => ?_) (fun c => absurd c (by decide))
  refine Go.iloadN d1_73 (q := 74) rfl rfl ?_
  refine Go.bipush d1_74 (q := 76) rfl (x := (8 : Int32)) (by decide) ?_
  refine Go.icmp_ne d1_76 (q := 83) (q' := 79) (by decide) rfl rfl (fun _ => ?_) (fun c => absurd c (by decide))
  refine Go.iloadN d1_83 (q := 84) rfl rfl ?_
  refine Go.bipush d1_84 (q := 86) rfl (x := (9 : Int32)) (by decide) ?_
  refine Go.icmp_ne d1_86 (q := 93) (q' := 89) (by decide) rfl rfl (fun _ => ?_) (fun c => absurd c (by decide))
  refine Go.iloadN d1_93 (q := 94) rfl rfl ?_
  refine Go.bipush d1_94 (q := 96) rfl (x := (10 : Int32)) (by decide) ?_
  refine Go.icmp_ne d1_96 (q := 103) (q' := 99) (by decide) rfl rfl (fun c => absurd (by decide) c) (fun _ => ?_)
  refine Go.getS d1_99 (q := 102) rfl (w31 hw) (F.S_MAP.ext O.2) ?_
  refine Go.areturn d1_102 (by decide) (by decide) rfl rfl ?_
  exact hQ
set_option maxRecDepth 65536 in
set_option maxHeartbeats 40000000 in
theorem b2_10 (l : Launch) (Z : State) (a0 : Array Value) (hw : Hw a0 Z) (n0 : Nat) (h : Heap) (O : Old Z n0 h) (a_INT8 a_INT64 a_INT32 a_STRING a_STRUCT a_FLOAT32 a_BYTES a_INT16 a_MAP a_ARRAY a_BOOLEAN a_FLOAT64 : Addr) (F : Facts Z a_INT8 a_INT64 a_INT32 a_STRING a_STRUCT a_FLOAT32 a_BYTES a_INT16 a_MAP a_ARRAY a_BOOLEAN a_FLOAT64) {Q : Option Value → Heap → Prop} (hQ : Q (some (.int (0 : Int32))) h) :
    Go l Z (⟨"com/example/fieldpath/fieldpath/record/Schema$Type", "isInteger", "()Z"⟩ : MethodName) prog_21_method_5_code 1 (some .boolean) ({ frames := 0, cells := 0, slots := 0, locals := 0 } : Room) n0 Q h 0 0 0 #[.val (.ref a_MAP)] [] := by
  refine Go.aloadN d2_0 (q := 1) rfl rfl rfl ?_
  refine Go.getF d2_1 (q := 4) rfl (host := "") (Or.inl (w13 hw)) Via.refl (F.F_MAP_min.ext O.2) ?_
  refine Go.aloadN d2_4 (q := 5) rfl rfl rfl ?_
  refine Go.getF d2_5 (q := 8) rfl (host := "") (Or.inl (w15 hw)) Via.refl (F.F_MAP_max.ext O.2) ?_
  refine Go.lcmp d2_8 (q := 9) rfl ?_
  refine Go.lif_ge d2_9 (q := 16) (q' := 12) (by decide) rfl rfl (fun _ => ?_) (fun c => absurd c (by decide))
  refine Go.iconst d2_16 (q := 17) rfl (x := (0 : Int32)) (by decide) ?_
  refine Go.zreturn d2_17 (by decide) (by decide) (by decide) ?_
  exact hQ
set_option maxRecDepth 65536 in
set_option maxHeartbeats 40000000 in
theorem b1_11 (l : Launch) (Z : State) (a0 : Array Value) (hw : Hw a0 Z) (n0 : Nat) (h : Heap) (O : Old Z n0 h) (a_INT8 a_INT64 a_INT32 a_STRING a_STRUCT a_FLOAT32 a_BYTES a_INT16 a_MAP a_ARRAY a_BOOLEAN a_FLOAT64 : Addr) (F : Facts Z a_INT8 a_INT64 a_INT32 a_STRING a_STRUCT a_FLOAT32 a_BYTES a_INT16 a_MAP a_ARRAY a_BOOLEAN a_FLOAT64) {Q : Option Value → Heap → Prop} (hQ : Q (some (.ref a_STRUCT)) h) :
    Go l Z (⟨"com/example/fieldpath/fieldpath/record/TypeIsIntegerPinLaw", "pick", "(I)Lcom/example/fieldpath/fieldpath/record/Schema$Type;"⟩ : MethodName) method_2_code 1 (some (.object "com/example/fieldpath/fieldpath/record/Schema$Type")) ({ frames := 0, cells := 0, slots := 0, locals := 0 } : Room) n0 Q h 0 0 0 #[.val (.int (11 : Int32))] [] := by
  refine Go.iloadN d1_0 (q := 1) rfl rfl ?_
  refine Go.if_ne d1_1 (q := 8) (q' := 4) (by decide) rfl rfl (fun _ => ?_) (fun c => absurd c (by decide))
  refine Go.iloadN d1_8 (q := 9) rfl rfl ?_
  refine Go.iconst d1_9 (q := 10) rfl (x := (1 : Int32)) (by decide) ?_
  refine Go.icmp_ne d1_10 (q := 17) (q' := 13) (by decide) rfl rfl (fun _ => ?_) (fun c => absurd c (by decide))
  refine Go.iloadN d1_17 (q := 18) rfl rfl ?_
  refine Go.iconst d1_18 (q := 19) rfl (x := (2 : Int32)) (by decide) ?_
  refine Go.icmp_ne d1_19 (q := 26) (q' := 22) (by decide) rfl rfl (fun _ => ?_) (fun c => absurd c (by decide))
  refine Go.iloadN d1_26 (q := 27) rfl rfl ?_
  refine Go.iconst d1_27 (q := 28) rfl (x := (3 : Int32)) (by decide) ?_
  refine Go.icmp_ne d1_28 (q := 35) (q' := 31) (by decide) rfl rfl (fun _ => ?_) (fun c => absurd c (by decide))
  refine Go.iloadN d1_35 (q := 36) rfl rfl ?_
  refine Go.iconst d1_36 (q := 37) rfl (x := (4 : Int32)) (by decide) ?_
  refine Go.icmp_ne d1_37 (q := 44) (q' := 40) (by decide) rfl rfl (fun _ => ?_) (fun c => absurd c (by decide))
  refine Go.iloadN d1_44 (q := 45) rfl rfl ?_
  refine Go.iconst d1_45 (q := 46) rfl (x := (5 : Int32)) (by decide) ?_
  refine Go.icmp_ne d1_46 (q := 53) (q' := 49) (by decide) rfl rfl (fun _ => ?_) (fun c => absurd c (by decide))
  refine Go.iloadN d1_53 (q := 54) rfl rfl ?_
  refine Go.bipush d1_54 (q := 56) rfl (x := (6 : Int32)) (by decide) ?_
  refine Go.icmp_ne d1_56 (q := 63) (q' := 59) (by decide) rfl rfl (fun _ => ?_) (fun c => absurd c (by decide))
  refine Go.iloadN d1_63 (q := 64) rfl rfl ?_
  refine Go.bipush d1_64 (q := 66) rfl (x := (7 : Int32)) (by decide) ?_
  refine Go.icmp_ne d1_66 (q := 73) (q' := 69) (by decide) rfl rfl (fun _ => ?_) (fun c => absurd c (by decide))
  refine Go.iloadN d1_73 (q := 74) rfl rfl ?_
  refine Go.bipush d1_74 (q := 76) rfl (x := (8 : Int32)) (by decide) ?_
  refine Go.icmp_ne d1_76 (q := 83) (q' := 79) (by decide) rfl rfl (fun _ => ?_) (fun c => absurd c (by decide))
  refine Go.iloadN d1_83 (q := 84) rfl rfl ?_
  refine Go.bipush d1_84 (q := 86) rfl (x := (9 : Int32)) (by decide) ?_
  refine Go.icmp_ne d1_86 (q := 93) (q' := 89) (by decide) rfl rfl (fun _ => ?_) (fun c => absurd c (by decide))
  refine Go.iloadN d1_93 (q := 94) rfl rfl ?_
  refine Go.bipush d1_94 (q := 96) rfl (x := (10 : Int32)) (by decide) ?_
  refine Go.icmp_ne d1_96 (q := 103) (q' := 99) (by decide) rfl rfl (fun _ => ?_) (fun c => absurd c (by decide))
  refine Go.getS d1_103 (q := 106) rfl (w23 hw) (F.S_STRUCT.ext O.2) ?_
  refine Go.areturn d1_106 (by decide) (by decide) rfl rfl ?_
  exact hQ
set_option maxRecDepth 65536 in
set_option maxHeartbeats 40000000 in
theorem b2_11 (l : Launch) (Z : State) (a0 : Array Value) (hw : Hw a0 Z) (n0 : Nat) (h : Heap) (O : Old Z n0 h) (a_INT8 a_INT64 a_INT32 a_STRING a_STRUCT a_FLOAT32 a_BYTES a_INT16 a_MAP a_ARRAY a_BOOLEAN a_FLOAT64 : Addr) (F : Facts Z a_INT8 a_INT64 a_INT32 a_STRING a_STRUCT a_FLOAT32 a_BYTES a_INT16 a_MAP a_ARRAY a_BOOLEAN a_FLOAT64) {Q : Option Value → Heap → Prop} (hQ : Q (some (.int (0 : Int32))) h) :
    Go l Z (⟨"com/example/fieldpath/fieldpath/record/Schema$Type", "isInteger", "()Z"⟩ : MethodName) prog_21_method_5_code 1 (some .boolean) ({ frames := 0, cells := 0, slots := 0, locals := 0 } : Room) n0 Q h 0 0 0 #[.val (.ref a_STRUCT)] [] := by
  refine Go.aloadN d2_0 (q := 1) rfl rfl rfl ?_
  refine Go.getF d2_1 (q := 4) rfl (host := "") (Or.inl (w13 hw)) Via.refl (F.F_STRUCT_min.ext O.2) ?_
  refine Go.aloadN d2_4 (q := 5) rfl rfl rfl ?_
  refine Go.getF d2_5 (q := 8) rfl (host := "") (Or.inl (w15 hw)) Via.refl (F.F_STRUCT_max.ext O.2) ?_
  refine Go.lcmp d2_8 (q := 9) rfl ?_
  refine Go.lif_ge d2_9 (q := 16) (q' := 12) (by decide) rfl rfl (fun _ => ?_) (fun c => absurd c (by decide))
  refine Go.iconst d2_16 (q := 17) rfl (x := (0 : Int32)) (by decide) ?_
  refine Go.zreturn d2_17 (by decide) (by decide) (by decide) ?_
  exact hQ
set_option maxRecDepth 65536 in
set_option maxHeartbeats 40000000 in
theorem b0_0 (l : Launch) (Z : State) (a0 : Array Value) (hw : Hw a0 Z) (n0 : Nat) (h : Heap) (O : Old Z n0 h) (p : Int32) (a_INT8 a_INT64 a_INT32 a_STRING a_STRUCT a_FLOAT32 a_BYTES a_INT16 a_MAP a_ARRAY a_BOOLEAN a_FLOAT64 : Addr) (F : Facts Z a_INT8 a_INT64 a_INT32 a_STRING a_STRUCT a_FLOAT32 a_BYTES a_INT16 a_MAP a_ARRAY a_BOOLEAN a_FLOAT64) :
    Go l Z x code maxLocals ret room_1 n0 (fun v _ => v = some (.int 1)) h 0 0 8 #[.val (.int p), .val (.int (0 : Int32)), .unset, .unset] [] := by
  refine Go.iloadN at_8 (q := 9) rfl rfl ?_
  refine Go.callSV (P := fun w h' => w = .ref a_INT8 ∧ h = h') (argsL := [(.int (0 : Int32))]) (rest := []) (wd := 0) (Ls1 := #[.val (.int (0 : Int32))]) at_9 (q := 12) rfl (w1 hw) (w2 hw) (w3 hw) (w4 hw) (by decide) pn1 pd1 rfl rfl (fun m => rfl) rfl (by decide) rfl (by decide) (by decide) (by decide) (b1_0 l Z a0 hw n0 h O a_INT8 a_INT64 a_INT32 a_STRING a_STRUCT a_FLOAT32 a_BYTES a_INT16 a_MAP a_ARRAY a_BOOLEAN a_FLOAT64 F (Q := RV (fun w h' => w = .ref a_INT8 ∧ h = h')) ⟨_, rfl, rfl, rfl⟩) ?_
  rintro _ _ ⟨rfl, rfl⟩
  refine Go.astoreN at_12 (q := 13) rfl rfl (Ls' := #[.val (.int p), .val (.int (0 : Int32)), .val (.ref a_INT8), .unset]) rfl ?_
  refine Go.iloadN at_13 (q := 14) rfl rfl ?_
  refine Go.iconst at_14 (q := 15) rfl (x := (4 : Int32)) (by decide) ?_
  refine Go.icmp_ge at_15 (q := 22) (q' := 18) (by decide) rfl rfl (fun c => absurd (by decide) c) (fun _ => ?_)
  refine Go.iconst at_18 (q := 19) rfl (x := (1 : Int32)) (by decide) ?_
  refine Go.goto at_19 (q := 23) (by decide) rfl ?_
  refine Go.istoreN at_23 (q := 24) rfl (Ls' := #[.val (.int p), .val (.int (0 : Int32)), .val (.ref a_INT8), .val (.int (1 : Int32))]) rfl ?_
  refine Go.aloadN at_24 (q := 25) rfl rfl rfl ?_
  refine Go.callVV (P := fun w h' => w = .int (1 : Int32) ∧ h = h') (argsL := []) (rest := []) (wd := 0) (Ls1 := #[.val (.ref a_INT8)]) at_25 (q := 28) rfl (w8 hw) (w9 hw) (w11 hw) (w10 hw) (w12 hw) (w6 hw) (by decide) pn2 pd2 rfl rfl (F.E_INT8.ext O.2) (fun m => rfl) rfl (by decide) rfl (by decide) (by decide) (by decide) (b2_0 l Z a0 hw n0 h O a_INT8 a_INT64 a_INT32 a_STRING a_STRUCT a_FLOAT32 a_BYTES a_INT16 a_MAP a_ARRAY a_BOOLEAN a_FLOAT64 F (Q := RV (fun w h' => w = .int (1 : Int32) ∧ h = h')) ⟨_, rfl, rfl, rfl⟩) ?_
  rintro _ _ ⟨rfl, rfl⟩
  refine Go.iloadN at_28 (q := 29) rfl rfl ?_
  refine Go.icmp_ne at_29 (q := 36) (q' := 32) (by decide) rfl rfl (fun c => absurd (by decide) c) (fun _ => ?_)
  refine Go.iconst at_32 (q := 33) rfl (x := (1 : Int32)) (by decide) ?_
  refine Go.goto at_33 (q := 37) (by decide) rfl ?_
  refine Go.zreturn at_37 (by decide) (by decide) (by decide) ?_
  rfl
set_option maxRecDepth 65536 in
set_option maxHeartbeats 40000000 in
theorem b0_1 (l : Launch) (Z : State) (a0 : Array Value) (hw : Hw a0 Z) (n0 : Nat) (h : Heap) (O : Old Z n0 h) (p : Int32) (a_INT8 a_INT64 a_INT32 a_STRING a_STRUCT a_FLOAT32 a_BYTES a_INT16 a_MAP a_ARRAY a_BOOLEAN a_FLOAT64 : Addr) (F : Facts Z a_INT8 a_INT64 a_INT32 a_STRING a_STRUCT a_FLOAT32 a_BYTES a_INT16 a_MAP a_ARRAY a_BOOLEAN a_FLOAT64) :
    Go l Z x code maxLocals ret room_1 n0 (fun v _ => v = some (.int 1)) h 0 0 8 #[.val (.int p), .val (.int (1 : Int32)), .unset, .unset] [] := by
  refine Go.iloadN at_8 (q := 9) rfl rfl ?_
  refine Go.callSV (P := fun w h' => w = .ref a_INT16 ∧ h = h') (argsL := [(.int (1 : Int32))]) (rest := []) (wd := 0) (Ls1 := #[.val (.int (1 : Int32))]) at_9 (q := 12) rfl (w1 hw) (w2 hw) (w3 hw) (w4 hw) (by decide) pn1 pd1 rfl rfl (fun m => rfl) rfl (by decide) rfl (by decide) (by decide) (by decide) (b1_1 l Z a0 hw n0 h O a_INT8 a_INT64 a_INT32 a_STRING a_STRUCT a_FLOAT32 a_BYTES a_INT16 a_MAP a_ARRAY a_BOOLEAN a_FLOAT64 F (Q := RV (fun w h' => w = .ref a_INT16 ∧ h = h')) ⟨_, rfl, rfl, rfl⟩) ?_
  rintro _ _ ⟨rfl, rfl⟩
  refine Go.astoreN at_12 (q := 13) rfl rfl (Ls' := #[.val (.int p), .val (.int (1 : Int32)), .val (.ref a_INT16), .unset]) rfl ?_
  refine Go.iloadN at_13 (q := 14) rfl rfl ?_
  refine Go.iconst at_14 (q := 15) rfl (x := (4 : Int32)) (by decide) ?_
  refine Go.icmp_ge at_15 (q := 22) (q' := 18) (by decide) rfl rfl (fun c => absurd (by decide) c) (fun _ => ?_)
  refine Go.iconst at_18 (q := 19) rfl (x := (1 : Int32)) (by decide) ?_
  refine Go.goto at_19 (q := 23) (by decide) rfl ?_
  refine Go.istoreN at_23 (q := 24) rfl (Ls' := #[.val (.int p), .val (.int (1 : Int32)), .val (.ref a_INT16), .val (.int (1 : Int32))]) rfl ?_
  refine Go.aloadN at_24 (q := 25) rfl rfl rfl ?_
  refine Go.callVV (P := fun w h' => w = .int (1 : Int32) ∧ h = h') (argsL := []) (rest := []) (wd := 0) (Ls1 := #[.val (.ref a_INT16)]) at_25 (q := 28) rfl (w8 hw) (w9 hw) (w11 hw) (w10 hw) (w12 hw) (w6 hw) (by decide) pn2 pd2 rfl rfl (F.E_INT16.ext O.2) (fun m => rfl) rfl (by decide) rfl (by decide) (by decide) (by decide) (b2_1 l Z a0 hw n0 h O a_INT8 a_INT64 a_INT32 a_STRING a_STRUCT a_FLOAT32 a_BYTES a_INT16 a_MAP a_ARRAY a_BOOLEAN a_FLOAT64 F (Q := RV (fun w h' => w = .int (1 : Int32) ∧ h = h')) ⟨_, rfl, rfl, rfl⟩) ?_
  rintro _ _ ⟨rfl, rfl⟩
  refine Go.iloadN at_28 (q := 29) rfl rfl ?_
  refine Go.icmp_ne at_29 (q := 36) (q' := 32) (by decide) rfl rfl (fun c => absurd (by decide) c) (fun _ => ?_)
  refine Go.iconst at_32 (q := 33) rfl (x := (1 : Int32)) (by decide) ?_
  refine Go.goto at_33 (q := 37) (by decide) rfl ?_
  refine Go.zreturn at_37 (by decide) (by decide) (by decide) ?_
  rfl
set_option maxRecDepth 65536 in
set_option maxHeartbeats 40000000 in
theorem b0_2 (l : Launch) (Z : State) (a0 : Array Value) (hw : Hw a0 Z) (n0 : Nat) (h : Heap) (O : Old Z n0 h) (p : Int32) (a_INT8 a_INT64 a_INT32 a_STRING a_STRUCT a_FLOAT32 a_BYTES a_INT16 a_MAP a_ARRAY a_BOOLEAN a_FLOAT64 : Addr) (F : Facts Z a_INT8 a_INT64 a_INT32 a_STRING a_STRUCT a_FLOAT32 a_BYTES a_INT16 a_MAP a_ARRAY a_BOOLEAN a_FLOAT64) :
    Go l Z x code maxLocals ret room_1 n0 (fun v _ => v = some (.int 1)) h 0 0 8 #[.val (.int p), .val (.int (2 : Int32)), .unset, .unset] [] := by
  refine Go.iloadN at_8 (q := 9) rfl rfl ?_
  refine Go.callSV (P := fun w h' => w = .ref a_INT32 ∧ h = h') (argsL := [(.int (2 : Int32))]) (rest := []) (wd := 0) (Ls1 := #[.val (.int (2 : Int32))]) at_9 (q := 12) rfl (w1 hw) (w2 hw) (w3 hw) (w4 hw) (by decide) pn1 pd1 rfl rfl (fun m => rfl) rfl (by decide) rfl (by decide) (by decide) (by decide) (b1_2 l Z a0 hw n0 h O a_INT8 a_INT64 a_INT32 a_STRING a_STRUCT a_FLOAT32 a_BYTES a_INT16 a_MAP a_ARRAY a_BOOLEAN a_FLOAT64 F (Q := RV (fun w h' => w = .ref a_INT32 ∧ h = h')) ⟨_, rfl, rfl, rfl⟩) ?_
  rintro _ _ ⟨rfl, rfl⟩
  refine Go.astoreN at_12 (q := 13) rfl rfl (Ls' := #[.val (.int p), .val (.int (2 : Int32)), .val (.ref a_INT32), .unset]) rfl ?_
  refine Go.iloadN at_13 (q := 14) rfl rfl ?_
  refine Go.iconst at_14 (q := 15) rfl (x := (4 : Int32)) (by decide) ?_
  refine Go.icmp_ge at_15 (q := 22) (q' := 18) (by decide) rfl rfl (fun c => absurd (by decide) c) (fun _ => ?_)
  refine Go.iconst at_18 (q := 19) rfl (x := (1 : Int32)) (by decide) ?_
  refine Go.goto at_19 (q := 23) (by decide) rfl ?_
  refine Go.istoreN at_23 (q := 24) rfl (Ls' := #[.val (.int p), .val (.int (2 : Int32)), .val (.ref a_INT32), .val (.int (1 : Int32))]) rfl ?_
  refine Go.aloadN at_24 (q := 25) rfl rfl rfl ?_
  refine Go.callVV (P := fun w h' => w = .int (1 : Int32) ∧ h = h') (argsL := []) (rest := []) (wd := 0) (Ls1 := #[.val (.ref a_INT32)]) at_25 (q := 28) rfl (w8 hw) (w9 hw) (w11 hw) (w10 hw) (w12 hw) (w6 hw) (by decide) pn2 pd2 rfl rfl (F.E_INT32.ext O.2) (fun m => rfl) rfl (by decide) rfl (by decide) (by decide) (by decide) (b2_2 l Z a0 hw n0 h O a_INT8 a_INT64 a_INT32 a_STRING a_STRUCT a_FLOAT32 a_BYTES a_INT16 a_MAP a_ARRAY a_BOOLEAN a_FLOAT64 F (Q := RV (fun w h' => w = .int (1 : Int32) ∧ h = h')) ⟨_, rfl, rfl, rfl⟩) ?_
  rintro _ _ ⟨rfl, rfl⟩
  refine Go.iloadN at_28 (q := 29) rfl rfl ?_
  refine Go.icmp_ne at_29 (q := 36) (q' := 32) (by decide) rfl rfl (fun c => absurd (by decide) c) (fun _ => ?_)
  refine Go.iconst at_32 (q := 33) rfl (x := (1 : Int32)) (by decide) ?_
  refine Go.goto at_33 (q := 37) (by decide) rfl ?_
  refine Go.zreturn at_37 (by decide) (by decide) (by decide) ?_
  rfl
set_option maxRecDepth 65536 in
set_option maxHeartbeats 40000000 in
theorem b0_3 (l : Launch) (Z : State) (a0 : Array Value) (hw : Hw a0 Z) (n0 : Nat) (h : Heap) (O : Old Z n0 h) (p : Int32) (a_INT8 a_INT64 a_INT32 a_STRING a_STRUCT a_FLOAT32 a_BYTES a_INT16 a_MAP a_ARRAY a_BOOLEAN a_FLOAT64 : Addr) (F : Facts Z a_INT8 a_INT64 a_INT32 a_STRING a_STRUCT a_FLOAT32 a_BYTES a_INT16 a_MAP a_ARRAY a_BOOLEAN a_FLOAT64) :
    Go l Z x code maxLocals ret room_1 n0 (fun v _ => v = some (.int 1)) h 0 0 8 #[.val (.int p), .val (.int (3 : Int32)), .unset, .unset] [] := by
  refine Go.iloadN at_8 (q := 9) rfl rfl ?_
  refine Go.callSV (P := fun w h' => w = .ref a_INT64 ∧ h = h') (argsL := [(.int (3 : Int32))]) (rest := []) (wd := 0) (Ls1 := #[.val (.int (3 : Int32))]) at_9 (q := 12) rfl (w1 hw) (w2 hw) (w3 hw) (w4 hw) (by decide) pn1 pd1 rfl rfl (fun m => rfl) rfl (by decide) rfl (by decide) (by decide) (by decide) (b1_3 l Z a0 hw n0 h O a_INT8 a_INT64 a_INT32 a_STRING a_STRUCT a_FLOAT32 a_BYTES a_INT16 a_MAP a_ARRAY a_BOOLEAN a_FLOAT64 F (Q := RV (fun w h' => w = .ref a_INT64 ∧ h = h')) ⟨_, rfl, rfl, rfl⟩) ?_
  rintro _ _ ⟨rfl, rfl⟩
  refine Go.astoreN at_12 (q := 13) rfl rfl (Ls' := #[.val (.int p), .val (.int (3 : Int32)), .val (.ref a_INT64), .unset]) rfl ?_
  refine Go.iloadN at_13 (q := 14) rfl rfl ?_
  refine Go.iconst at_14 (q := 15) rfl (x := (4 : Int32)) (by decide) ?_
  refine Go.icmp_ge at_15 (q := 22) (q' := 18) (by decide) rfl rfl (fun c => absurd (by decide) c) (fun _ => ?_)
  refine Go.iconst at_18 (q := 19) rfl (x := (1 : Int32)) (by decide) ?_
  refine Go.goto at_19 (q := 23) (by decide) rfl ?_
  refine Go.istoreN at_23 (q := 24) rfl (Ls' := #[.val (.int p), .val (.int (3 : Int32)), .val (.ref a_INT64), .val (.int (1 : Int32))]) rfl ?_
  refine Go.aloadN at_24 (q := 25) rfl rfl rfl ?_
  refine Go.callVV (P := fun w h' => w = .int (1 : Int32) ∧ h = h') (argsL := []) (rest := []) (wd := 0) (Ls1 := #[.val (.ref a_INT64)]) at_25 (q := 28) rfl (w8 hw) (w9 hw) (w11 hw) (w10 hw) (w12 hw) (w6 hw) (by decide) pn2 pd2 rfl rfl (F.E_INT64.ext O.2) (fun m => rfl) rfl (by decide) rfl (by decide) (by decide) (by decide) (b2_3 l Z a0 hw n0 h O a_INT8 a_INT64 a_INT32 a_STRING a_STRUCT a_FLOAT32 a_BYTES a_INT16 a_MAP a_ARRAY a_BOOLEAN a_FLOAT64 F (Q := RV (fun w h' => w = .int (1 : Int32) ∧ h = h')) ⟨_, rfl, rfl, rfl⟩) ?_
  rintro _ _ ⟨rfl, rfl⟩
  refine Go.iloadN at_28 (q := 29) rfl rfl ?_
  refine Go.icmp_ne at_29 (q := 36) (q' := 32) (by decide) rfl rfl (fun c => absurd (by decide) c) (fun _ => ?_)
  refine Go.iconst at_32 (q := 33) rfl (x := (1 : Int32)) (by decide) ?_
  refine Go.goto at_33 (q := 37) (by decide) rfl ?_
  refine Go.zreturn at_37 (by decide) (by decide) (by decide) ?_
  rfl
set_option maxRecDepth 65536 in
set_option maxHeartbeats 40000000 in
theorem b0_4 (l : Launch) (Z : State) (a0 : Array Value) (hw : Hw a0 Z) (n0 : Nat) (h : Heap) (O : Old Z n0 h) (p : Int32) (a_INT8 a_INT64 a_INT32 a_STRING a_STRUCT a_FLOAT32 a_BYTES a_INT16 a_MAP a_ARRAY a_BOOLEAN a_FLOAT64 : Addr) (F : Facts Z a_INT8 a_INT64 a_INT32 a_STRING a_STRUCT a_FLOAT32 a_BYTES a_INT16 a_MAP a_ARRAY a_BOOLEAN a_FLOAT64) :
    Go l Z x code maxLocals ret room_1 n0 (fun v _ => v = some (.int 1)) h 0 0 8 #[.val (.int p), .val (.int (4 : Int32)), .unset, .unset] [] := by
  refine Go.iloadN at_8 (q := 9) rfl rfl ?_
  refine Go.callSV (P := fun w h' => w = .ref a_FLOAT32 ∧ h = h') (argsL := [(.int (4 : Int32))]) (rest := []) (wd := 0) (Ls1 := #[.val (.int (4 : Int32))]) at_9 (q := 12) rfl (w1 hw) (w2 hw) (w3 hw) (w4 hw) (by decide) pn1 pd1 rfl rfl (fun m => rfl) rfl (by decide) rfl (by decide) (by decide) (by decide) (b1_4 l Z a0 hw n0 h O a_INT8 a_INT64 a_INT32 a_STRING a_STRUCT a_FLOAT32 a_BYTES a_INT16 a_MAP a_ARRAY a_BOOLEAN a_FLOAT64 F (Q := RV (fun w h' => w = .ref a_FLOAT32 ∧ h = h')) ⟨_, rfl, rfl, rfl⟩) ?_
  rintro _ _ ⟨rfl, rfl⟩
  refine Go.astoreN at_12 (q := 13) rfl rfl (Ls' := #[.val (.int p), .val (.int (4 : Int32)), .val (.ref a_FLOAT32), .unset]) rfl ?_
  refine Go.iloadN at_13 (q := 14) rfl rfl ?_
  refine Go.iconst at_14 (q := 15) rfl (x := (4 : Int32)) (by decide) ?_
  refine Go.icmp_ge at_15 (q := 22) (q' := 18) (by decide) rfl rfl (fun _ => ?_) (fun c => absurd c (by decide))
  refine Go.iconst at_22 (q := 23) rfl (x := (0 : Int32)) (by decide) ?_
  refine Go.istoreN at_23 (q := 24) rfl (Ls' := #[.val (.int p), .val (.int (4 : Int32)), .val (.ref a_FLOAT32), .val (.int (0 : Int32))]) rfl ?_
  refine Go.aloadN at_24 (q := 25) rfl rfl rfl ?_
  refine Go.callVV (P := fun w h' => w = .int (0 : Int32) ∧ h = h') (argsL := []) (rest := []) (wd := 0) (Ls1 := #[.val (.ref a_FLOAT32)]) at_25 (q := 28) rfl (w8 hw) (w9 hw) (w11 hw) (w10 hw) (w12 hw) (w6 hw) (by decide) pn2 pd2 rfl rfl (F.E_FLOAT32.ext O.2) (fun m => rfl) rfl (by decide) rfl (by decide) (by decide) (by decide) (b2_4 l Z a0 hw n0 h O a_INT8 a_INT64 a_INT32 a_STRING a_STRUCT a_FLOAT32 a_BYTES a_INT16 a_MAP a_ARRAY a_BOOLEAN a_FLOAT64 F (Q := RV (fun w h' => w = .int (0 : Int32) ∧ h = h')) ⟨_, rfl, rfl, rfl⟩) ?_
  rintro _ _ ⟨rfl, rfl⟩
  refine Go.iloadN at_28 (q := 29) rfl rfl ?_
  refine Go.icmp_ne at_29 (q := 36) (q' := 32) (by decide) rfl rfl (fun c => absurd (by decide) c) (fun _ => ?_)
  refine Go.iconst at_32 (q := 33) rfl (x := (1 : Int32)) (by decide) ?_
  refine Go.goto at_33 (q := 37) (by decide) rfl ?_
  refine Go.zreturn at_37 (by decide) (by decide) (by decide) ?_
  rfl
set_option maxRecDepth 65536 in
set_option maxHeartbeats 40000000 in
theorem b0_5 (l : Launch) (Z : State) (a0 : Array Value) (hw : Hw a0 Z) (n0 : Nat) (h : Heap) (O : Old Z n0 h) (p : Int32) (a_INT8 a_INT64 a_INT32 a_STRING a_STRUCT a_FLOAT32 a_BYTES a_INT16 a_MAP a_ARRAY a_BOOLEAN a_FLOAT64 : Addr) (F : Facts Z a_INT8 a_INT64 a_INT32 a_STRING a_STRUCT a_FLOAT32 a_BYTES a_INT16 a_MAP a_ARRAY a_BOOLEAN a_FLOAT64) :
    Go l Z x code maxLocals ret room_1 n0 (fun v _ => v = some (.int 1)) h 0 0 8 #[.val (.int p), .val (.int (5 : Int32)), .unset, .unset] [] := by
  refine Go.iloadN at_8 (q := 9) rfl rfl ?_
  refine Go.callSV (P := fun w h' => w = .ref a_FLOAT64 ∧ h = h') (argsL := [(.int (5 : Int32))]) (rest := []) (wd := 0) (Ls1 := #[.val (.int (5 : Int32))]) at_9 (q := 12) rfl (w1 hw) (w2 hw) (w3 hw) (w4 hw) (by decide) pn1 pd1 rfl rfl (fun m => rfl) rfl (by decide) rfl (by decide) (by decide) (by decide) (b1_5 l Z a0 hw n0 h O a_INT8 a_INT64 a_INT32 a_STRING a_STRUCT a_FLOAT32 a_BYTES a_INT16 a_MAP a_ARRAY a_BOOLEAN a_FLOAT64 F (Q := RV (fun w h' => w = .ref a_FLOAT64 ∧ h = h')) ⟨_, rfl, rfl, rfl⟩) ?_
  rintro _ _ ⟨rfl, rfl⟩
  refine Go.astoreN at_12 (q := 13) rfl rfl (Ls' := #[.val (.int p), .val (.int (5 : Int32)), .val (.ref a_FLOAT64), .unset]) rfl ?_
  refine Go.iloadN at_13 (q := 14) rfl rfl ?_
  refine Go.iconst at_14 (q := 15) rfl (x := (4 : Int32)) (by decide) ?_
  refine Go.icmp_ge at_15 (q := 22) (q' := 18) (by decide) rfl rfl (fun _ => ?_) (fun c => absurd c (by decide))
  refine Go.iconst at_22 (q := 23) rfl (x := (0 : Int32)) (by decide) ?_
  refine Go.istoreN at_23 (q := 24) rfl (Ls' := #[.val (.int p), .val (.int (5 : Int32)), .val (.ref a_FLOAT64), .val (.int (0 : Int32))]) rfl ?_
  refine Go.aloadN at_24 (q := 25) rfl rfl rfl ?_
  refine Go.callVV (P := fun w h' => w = .int (0 : Int32) ∧ h = h') (argsL := []) (rest := []) (wd := 0) (Ls1 := #[.val (.ref a_FLOAT64)]) at_25 (q := 28) rfl (w8 hw) (w9 hw) (w11 hw) (w10 hw) (w12 hw) (w6 hw) (by decide) pn2 pd2 rfl rfl (F.E_FLOAT64.ext O.2) (fun m => rfl) rfl (by decide) rfl (by decide) (by decide) (by decide) (b2_5 l Z a0 hw n0 h O a_INT8 a_INT64 a_INT32 a_STRING a_STRUCT a_FLOAT32 a_BYTES a_INT16 a_MAP a_ARRAY a_BOOLEAN a_FLOAT64 F (Q := RV (fun w h' => w = .int (0 : Int32) ∧ h = h')) ⟨_, rfl, rfl, rfl⟩) ?_
  rintro _ _ ⟨rfl, rfl⟩
  refine Go.iloadN at_28 (q := 29) rfl rfl ?_
  refine Go.icmp_ne at_29 (q := 36) (q' := 32) (by decide) rfl rfl (fun c => absurd (by decide) c) (fun _ => ?_)
  refine Go.iconst at_32 (q := 33) rfl (x := (1 : Int32)) (by decide) ?_
  refine Go.goto at_33 (q := 37) (by decide) rfl ?_
  refine Go.zreturn at_37 (by decide) (by decide) (by decide) ?_
  rfl
set_option maxRecDepth 65536 in
set_option maxHeartbeats 40000000 in
theorem b0_6 (l : Launch) (Z : State) (a0 : Array Value) (hw : Hw a0 Z) (n0 : Nat) (h : Heap) (O : Old Z n0 h) (p : Int32) (a_INT8 a_INT64 a_INT32 a_STRING a_STRUCT a_FLOAT32 a_BYTES a_INT16 a_MAP a_ARRAY a_BOOLEAN a_FLOAT64 : Addr) (F : Facts Z a_INT8 a_INT64 a_INT32 a_STRING a_STRUCT a_FLOAT32 a_BYTES a_INT16 a_MAP a_ARRAY a_BOOLEAN a_FLOAT64) :
    Go l Z x code maxLocals ret room_1 n0 (fun v _ => v = some (.int 1)) h 0 0 8 #[.val (.int p), .val (.int (6 : Int32)), .unset, .unset] [] := by
  refine Go.iloadN at_8 (q := 9) rfl rfl ?_
  refine Go.callSV (P := fun w h' => w = .ref a_BOOLEAN ∧ h = h') (argsL := [(.int (6 : Int32))]) (rest := []) (wd := 0) (Ls1 := #[.val (.int (6 : Int32))]) at_9 (q := 12) rfl (w1 hw) (w2 hw) (w3 hw) (w4 hw) (by decide) pn1 pd1 rfl rfl (fun m => rfl) rfl (by decide) rfl (by decide) (by decide) (by decide) (b1_6 l Z a0 hw n0 h O a_INT8 a_INT64 a_INT32 a_STRING a_STRUCT a_FLOAT32 a_BYTES a_INT16 a_MAP a_ARRAY a_BOOLEAN a_FLOAT64 F (Q := RV (fun w h' => w = .ref a_BOOLEAN ∧ h = h')) ⟨_, rfl, rfl, rfl⟩) ?_
  rintro _ _ ⟨rfl, rfl⟩
  refine Go.astoreN at_12 (q := 13) rfl rfl (Ls' := #[.val (.int p), .val (.int (6 : Int32)), .val (.ref a_BOOLEAN), .unset]) rfl ?_
  refine Go.iloadN at_13 (q := 14) rfl rfl ?_
  refine Go.iconst at_14 (q := 15) rfl (x := (4 : Int32)) (by decide) ?_
  refine Go.icmp_ge at_15 (q := 22) (q' := 18) (by decide) rfl rfl (fun _ => ?_) (fun c => absurd c (by decide))
  refine Go.iconst at_22 (q := 23) rfl (x := (0 : Int32)) (by decide) ?_
  refine Go.istoreN at_23 (q := 24) rfl (Ls' := #[.val (.int p), .val (.int (6 : Int32)), .val (.ref a_BOOLEAN), .val (.int (0 : Int32))]) rfl ?_
  refine Go.aloadN at_24 (q := 25) rfl rfl rfl ?_
  refine Go.callVV (P := fun w h' => w = .int (0 : Int32) ∧ h = h') (argsL := []) (rest := []) (wd := 0) (Ls1 := #[.val (.ref a_BOOLEAN)]) at_25 (q := 28) rfl (w8 hw) (w9 hw) (w11 hw) (w10 hw) (w12 hw) (w6 hw) (by decide) pn2 pd2 rfl rfl (F.E_BOOLEAN.ext O.2) (fun m => rfl) rfl (by decide) rfl (by decide) (by decide) (by decide) (b2_6 l Z a0 hw n0 h O a_INT8 a_INT64 a_INT32 a_STRING a_STRUCT a_FLOAT32 a_BYTES a_INT16 a_MAP a_ARRAY a_BOOLEAN a_FLOAT64 F (Q := RV (fun w h' => w = .int (0 : Int32) ∧ h = h')) ⟨_, rfl, rfl, rfl⟩) ?_
  rintro _ _ ⟨rfl, rfl⟩
  refine Go.iloadN at_28 (q := 29) rfl rfl ?_
  refine Go.icmp_ne at_29 (q := 36) (q' := 32) (by decide) rfl rfl (fun c => absurd (by decide) c) (fun _ => ?_)
  refine Go.iconst at_32 (q := 33) rfl (x := (1 : Int32)) (by decide) ?_
  refine Go.goto at_33 (q := 37) (by decide) rfl ?_
  refine Go.zreturn at_37 (by decide) (by decide) (by decide) ?_
  rfl
set_option maxRecDepth 65536 in
set_option maxHeartbeats 40000000 in
theorem b0_7 (l : Launch) (Z : State) (a0 : Array Value) (hw : Hw a0 Z) (n0 : Nat) (h : Heap) (O : Old Z n0 h) (p : Int32) (a_INT8 a_INT64 a_INT32 a_STRING a_STRUCT a_FLOAT32 a_BYTES a_INT16 a_MAP a_ARRAY a_BOOLEAN a_FLOAT64 : Addr) (F : Facts Z a_INT8 a_INT64 a_INT32 a_STRING a_STRUCT a_FLOAT32 a_BYTES a_INT16 a_MAP a_ARRAY a_BOOLEAN a_FLOAT64) :
    Go l Z x code maxLocals ret room_1 n0 (fun v _ => v = some (.int 1)) h 0 0 8 #[.val (.int p), .val (.int (7 : Int32)), .unset, .unset] [] := by
  refine Go.iloadN at_8 (q := 9) rfl rfl ?_
  refine Go.callSV (P := fun w h' => w = .ref a_STRING ∧ h = h') (argsL := [(.int (7 : Int32))]) (rest := []) (wd := 0) (Ls1 := #[.val (.int (7 : Int32))]) at_9 (q := 12) rfl (w1 hw) (w2 hw) (w3 hw) (w4 hw) (by decide) pn1 pd1 rfl rfl (fun m => rfl) rfl (by decide) rfl (by decide) (by decide) (by decide) (b1_7 l Z a0 hw n0 h O a_INT8 a_INT64 a_INT32 a_STRING a_STRUCT a_FLOAT32 a_BYTES a_INT16 a_MAP a_ARRAY a_BOOLEAN a_FLOAT64 F (Q := RV (fun w h' => w = .ref a_STRING ∧ h = h')) ⟨_, rfl, rfl, rfl⟩) ?_
  rintro _ _ ⟨rfl, rfl⟩
  refine Go.astoreN at_12 (q := 13) rfl rfl (Ls' := #[.val (.int p), .val (.int (7 : Int32)), .val (.ref a_STRING), .unset]) rfl ?_
  refine Go.iloadN at_13 (q := 14) rfl rfl ?_
  refine Go.iconst at_14 (q := 15) rfl (x := (4 : Int32)) (by decide) ?_
  refine Go.icmp_ge at_15 (q := 22) (q' := 18) (by decide) rfl rfl (fun _ => ?_) (fun c => absurd c (by decide))
  refine Go.iconst at_22 (q := 23) rfl (x := (0 : Int32)) (by decide) ?_
  refine Go.istoreN at_23 (q := 24) rfl (Ls' := #[.val (.int p), .val (.int (7 : Int32)), .val (.ref a_STRING), .val (.int (0 : Int32))]) rfl ?_
  refine Go.aloadN at_24 (q := 25) rfl rfl rfl ?_
  refine Go.callVV (P := fun w h' => w = .int (0 : Int32) ∧ h = h') (argsL := []) (rest := []) (wd := 0) (Ls1 := #[.val (.ref a_STRING)]) at_25 (q := 28) rfl (w8 hw) (w9 hw) (w11 hw) (w10 hw) (w12 hw) (w6 hw) (by decide) pn2 pd2 rfl rfl (F.E_STRING.ext O.2) (fun m => rfl) rfl (by decide) rfl (by decide) (by decide) (by decide) (b2_7 l Z a0 hw n0 h O a_INT8 a_INT64 a_INT32 a_STRING a_STRUCT a_FLOAT32 a_BYTES a_INT16 a_MAP a_ARRAY a_BOOLEAN a_FLOAT64 F (Q := RV (fun w h' => w = .int (0 : Int32) ∧ h = h')) ⟨_, rfl, rfl, rfl⟩) ?_
  rintro _ _ ⟨rfl, rfl⟩
  refine Go.iloadN at_28 (q := 29) rfl rfl ?_
  refine Go.icmp_ne at_29 (q := 36) (q' := 32) (by decide) rfl rfl (fun c => absurd (by decide) c) (fun _ => ?_)
  refine Go.iconst at_32 (q := 33) rfl (x := (1 : Int32)) (by decide) ?_
  refine Go.goto at_33 (q := 37) (by decide) rfl ?_
  refine Go.zreturn at_37 (by decide) (by decide) (by decide) ?_
  rfl
set_option maxRecDepth 65536 in
set_option maxHeartbeats 40000000 in
theorem b0_8 (l : Launch) (Z : State) (a0 : Array Value) (hw : Hw a0 Z) (n0 : Nat) (h : Heap) (O : Old Z n0 h) (p : Int32) (a_INT8 a_INT64 a_INT32 a_STRING a_STRUCT a_FLOAT32 a_BYTES a_INT16 a_MAP a_ARRAY a_BOOLEAN a_FLOAT64 : Addr) (F : Facts Z a_INT8 a_INT64 a_INT32 a_STRING a_STRUCT a_FLOAT32 a_BYTES a_INT16 a_MAP a_ARRAY a_BOOLEAN a_FLOAT64) :
    Go l Z x code maxLocals ret room_1 n0 (fun v _ => v = some (.int 1)) h 0 0 8 #[.val (.int p), .val (.int (8 : Int32)), .unset, .unset] [] := by
  refine Go.iloadN at_8 (q := 9) rfl rfl ?_
  refine Go.callSV (P := fun w h' => w = .ref a_BYTES ∧ h = h') (argsL := [(.int (8 : Int32))]) (rest := []) (wd := 0) (Ls1 := #[.val (.int (8 : Int32))]) at_9 (q := 12) rfl (w1 hw) (w2 hw) (w3 hw) (w4 hw) (by decide) pn1 pd1 rfl rfl (fun m => rfl) rfl (by decide) rfl (by decide) (by decide) (by decide) (b1_8 l Z a0 hw n0 h O a_INT8 a_INT64 a_INT32 a_STRING a_STRUCT a_FLOAT32 a_BYTES a_INT16 a_MAP a_ARRAY a_BOOLEAN a_FLOAT64 F (Q := RV (fun w h' => w = .ref a_BYTES ∧ h = h')) ⟨_, rfl, rfl, rfl⟩) ?_
  rintro _ _ ⟨rfl, rfl⟩
  refine Go.astoreN at_12 (q := 13) rfl rfl (Ls' := #[.val (.int p), .val (.int (8 : Int32)), .val (.ref a_BYTES), .unset]) rfl ?_
  refine Go.iloadN at_13 (q := 14) rfl rfl ?_
  refine Go.iconst at_14 (q := 15) rfl (x := (4 : Int32)) (by decide) ?_
  refine Go.icmp_ge at_15 (q := 22) (q' := 18) (by decide) rfl rfl (fun _ => ?_) (fun c => absurd c (by decide))
  refine Go.iconst at_22 (q := 23) rfl (x := (0 : Int32)) (by decide) ?_
  refine Go.istoreN at_23 (q := 24) rfl (Ls' := #[.val (.int p), .val (.int (8 : Int32)), .val (.ref a_BYTES), .val (.int (0 : Int32))]) rfl ?_
  refine Go.aloadN at_24 (q := 25) rfl rfl rfl ?_
  refine Go.callVV (P := fun w h' => w = .int (0 : Int32) ∧ h = h') (argsL := []) (rest := []) (wd := 0) (Ls1 := #[.val (.ref a_BYTES)]) at_25 (q := 28) rfl (w8 hw) (w9 hw) (w11 hw) (w10 hw) (w12 hw) (w6 hw) (by decide) pn2 pd2 rfl rfl (F.E_BYTES.ext O.2) (fun m => rfl) rfl (by decide) rfl (by decide) (by decide) (by decide) (b2_8 l Z a0 hw n0 h O a_INT8 a_INT64 a_INT32 a_STRING a_STRUCT a_FLOAT32 a_BYTES a_INT16 a_MAP a_ARRAY a_BOOLEAN a_FLOAT64 F (Q := RV (fun w h' => w = .int (0 : Int32) ∧ h = h')) ⟨_, rfl, rfl, rfl⟩) ?_
  rintro _ _ ⟨rfl, rfl⟩
  refine Go.iloadN at_28 (q := 29) rfl rfl ?_
  refine Go.icmp_ne at_29 (q := 36) (q' := 32) (by decide) rfl rfl (fun c => absurd (by decide) c) (fun _ => ?_)
  refine Go.iconst at_32 (q := 33) rfl (x := (1 : Int32)) (by decide) ?_
  refine Go.goto at_33 (q := 37) (by decide) rfl ?_
  refine Go.zreturn at_37 (by decide) (by decide) (by decide) ?_
  rfl
set_option maxRecDepth 65536 in
set_option maxHeartbeats 40000000 in
theorem b0_9 (l : Launch) (Z : State) (a0 : Array Value) (hw : Hw a0 Z) (n0 : Nat) (h : Heap) (O : Old Z n0 h) (p : Int32) (a_INT8 a_INT64 a_INT32 a_STRING a_STRUCT a_FLOAT32 a_BYTES a_INT16 a_MAP a_ARRAY a_BOOLEAN a_FLOAT64 : Addr) (F : Facts Z a_INT8 a_INT64 a_INT32 a_STRING a_STRUCT a_FLOAT32 a_BYTES a_INT16 a_MAP a_ARRAY a_BOOLEAN a_FLOAT64) :
    Go l Z x code maxLocals ret room_1 n0 (fun v _ => v = some (.int 1)) h 0 0 8 #[.val (.int p), .val (.int (9 : Int32)), .unset, .unset] [] := by
  refine Go.iloadN at_8 (q := 9) rfl rfl ?_
  refine Go.callSV (P := fun w h' => w = .ref a_ARRAY ∧ h = h') (argsL := [(.int (9 : Int32))]) (rest := []) (wd := 0) (Ls1 := #[.val (.int (9 : Int32))]) at_9 (q := 12) rfl (w1 hw) (w2 hw) (w3 hw) (w4 hw) (by decide) pn1 pd1 rfl rfl (fun m => rfl) rfl (by decide) rfl (by decide) (by decide) (by decide) (b1_9 l Z a0 hw n0 h O a_INT8 a_INT64 a_INT32 a_STRING a_STRUCT a_FLOAT32 a_BYTES a_INT16 a_MAP a_ARRAY a_BOOLEAN a_FLOAT64 F (Q := RV (fun w h' => w = .ref a_ARRAY ∧ h = h')) ⟨_, rfl, rfl, rfl⟩) ?_
  rintro _ _ ⟨rfl, rfl⟩
  refine Go.astoreN at_12 (q := 13) rfl rfl (Ls' := #[.val (.int p), .val (.int (9 : Int32)), .val (.ref a_ARRAY), .unset]) rfl ?_
  refine Go.iloadN at_13 (q := 14) rfl rfl ?_
  refine Go.iconst at_14 (q := 15) rfl (x := (4 : Int32)) (by decide) ?_
  refine Go.icmp_ge at_15 (q := 22) (q' := 18) (by decide) rfl rfl (fun _ => ?_) (fun c => absurd c (by decide))
  refine Go.iconst at_22 (q := 23) rfl (x := (0 : Int32)) (by decide) ?_
  refine Go.istoreN at_23 (q := 24) rfl (Ls' := #[.val (.int p), .val (.int (9 : Int32)), .val (.ref a_ARRAY), .val (.int (0 : Int32))]) rfl ?_
  refine Go.aloadN at_24 (q := 25) rfl rfl rfl ?_
  refine Go.callVV (P := fun w h' => w = .int (0 : Int32) ∧ h = h') (argsL := []) (rest := []) (wd := 0) (Ls1 := #[.val (.ref a_ARRAY)]) at_25 (q := 28) rfl (w8 hw) (w9 hw) (w11 hw) (w10 hw) (w12 hw) (w6 hw) (by decide) pn2 pd2 rfl rfl (F.E_ARRAY.ext O.2) (fun m => rfl) rfl (by decide) rfl (by decide) (by decide) (by decide) (b2_9 l Z a0 hw n0 h O a_INT8 a_INT64 a_INT32 a_STRING a_STRUCT a_FLOAT32 a_BYTES a_INT16 a_MAP a_ARRAY a_BOOLEAN a_FLOAT64 F (Q := RV (fun w h' => w = .int (0 : Int32) ∧ h = h')) ⟨_, rfl, rfl, rfl⟩) ?_
  rintro _ _ ⟨rfl, rfl⟩
  refine Go.iloadN at_28 (q := 29) rfl rfl ?_
  refine Go.icmp_ne at_29 (q := 36) (q' := 32) (by decide) rfl rfl (fun c => absurd (by decide) c) (fun _ => ?_)
  refine Go.iconst at_32 (q := 33) rfl (x := (1 : Int32)) (by decide) ?_
  refine Go.goto at_33 (q := 37) (by decide) rfl ?_
  refine Go.zreturn at_37 (by decide) (by decide) (by decide) ?_
  rfl
set_option maxRecDepth 65536 in
set_option maxHeartbeats 40000000 in
theorem b0_10 (l : Launch) (Z : State) (a0 : Array Value) (hw : Hw a0 Z) (n0 : Nat) (h : Heap) (O : Old Z n0 h) (p : Int32) (a_INT8 a_INT64 a_INT32 a_STRING a_STRUCT a_FLOAT32 a_BYTES a_INT16 a_MAP a_ARRAY a_BOOLEAN a_FLOAT64 : Addr) (F : Facts Z a_INT8 a_INT64 a_INT32 a_STRING a_STRUCT a_FLOAT32 a_BYTES a_INT16 a_MAP a_ARRAY a_BOOLEAN a_FLOAT64) :
    Go l Z x code maxLocals ret room_1 n0 (fun v _ => v = some (.int 1)) h 0 0 8 #[.val (.int p), .val (.int (10 : Int32)), .unset, .unset] [] := by
  refine Go.iloadN at_8 (q := 9) rfl rfl ?_
  refine Go.callSV (P := fun w h' => w = .ref a_MAP ∧ h = h') (argsL := [(.int (10 : Int32))]) (rest := []) (wd := 0) (Ls1 := #[.val (.int (10 : Int32))]) at_9 (q := 12) rfl (w1 hw) (w2 hw) (w3 hw) (w4 hw) (by decide) pn1 pd1 rfl rfl (fun m => rfl) rfl (by decide) rfl (by decide) (by decide) (by decide) (b1_10 l Z a0 hw n0 h O a_INT8 a_INT64 a_INT32 a_STRING a_STRUCT a_FLOAT32 a_BYTES a_INT16 a_MAP a_ARRAY a_BOOLEAN a_FLOAT64 F (Q := RV (fun w h' => w = .ref a_MAP ∧ h = h')) ⟨_, rfl, rfl, rfl⟩) ?_
  rintro _ _ ⟨rfl, rfl⟩
  refine Go.astoreN at_12 (q := 13) rfl rfl (Ls' := #[.val (.int p), .val (.int (10 : Int32)), .val (.ref a_MAP), .unset]) rfl ?_
  refine Go.iloadN at_13 (q := 14) rfl rfl ?_
  refine Go.iconst at_14 (q := 15) rfl (x := (4 : Int32)) (by decide) ?_
  refine Go.icmp_ge at_15 (q := 22) (q' := 18) (by decide) rfl rfl (fun _ => ?_) (fun c => absurd c (by decide))
  refine Go.iconst at_22 (q := 23) rfl (x := (0 : Int32)) (by decide) ?_
  refine Go.istoreN at_23 (q := 24) rfl (Ls' := #[.val (.int p), .val (.int (10 : Int32)), .val (.ref a_MAP), .val (.int (0 : Int32))]) rfl ?_
  refine Go.aloadN at_24 (q := 25) rfl rfl rfl ?_
  refine Go.callVV (P := fun w h' => w = .int (0 : Int32) ∧ h = h') (argsL := []) (rest := []) (wd := 0) (Ls1 := #[.val (.ref a_MAP)]) at_25 (q := 28) rfl (w8 hw) (w9 hw) (w11 hw) (w10 hw) (w12 hw) (w6 hw) (by decide) pn2 pd2 rfl rfl (F.E_MAP.ext O.2) (fun m => rfl) rfl (by decide) rfl (by decide) (by decide) (by decide) (b2_10 l Z a0 hw n0 h O a_INT8 a_INT64 a_INT32 a_STRING a_STRUCT a_FLOAT32 a_BYTES a_INT16 a_MAP a_ARRAY a_BOOLEAN a_FLOAT64 F (Q := RV (fun w h' => w = .int (0 : Int32) ∧ h = h')) ⟨_, rfl, rfl, rfl⟩) ?_
  rintro _ _ ⟨rfl, rfl⟩
  refine Go.iloadN at_28 (q := 29) rfl rfl ?_
  refine Go.icmp_ne at_29 (q := 36) (q' := 32) (by decide) rfl rfl (fun c => absurd (by decide) c) (fun _ => ?_)
  refine Go.iconst at_32 (q := 33) rfl (x := (1 : Int32)) (by decide) ?_
  refine Go.goto at_33 (q := 37) (by decide) rfl ?_
  refine Go.zreturn at_37 (by decide) (by decide) (by decide) ?_
  rfl
set_option maxRecDepth 65536 in
set_option maxHeartbeats 40000000 in
theorem b0_11 (l : Launch) (Z : State) (a0 : Array Value) (hw : Hw a0 Z) (n0 : Nat) (h : Heap) (O : Old Z n0 h) (p : Int32) (a_INT8 a_INT64 a_INT32 a_STRING a_STRUCT a_FLOAT32 a_BYTES a_INT16 a_MAP a_ARRAY a_BOOLEAN a_FLOAT64 : Addr) (F : Facts Z a_INT8 a_INT64 a_INT32 a_STRING a_STRUCT a_FLOAT32 a_BYTES a_INT16 a_MAP a_ARRAY a_BOOLEAN a_FLOAT64) :
    Go l Z x code maxLocals ret room_1 n0 (fun v _ => v = some (.int 1)) h 0 0 8 #[.val (.int p), .val (.int (11 : Int32)), .unset, .unset] [] := by
  refine Go.iloadN at_8 (q := 9) rfl rfl ?_
  refine Go.callSV (P := fun w h' => w = .ref a_STRUCT ∧ h = h') (argsL := [(.int (11 : Int32))]) (rest := []) (wd := 0) (Ls1 := #[.val (.int (11 : Int32))]) at_9 (q := 12) rfl (w1 hw) (w2 hw) (w3 hw) (w4 hw) (by decide) pn1 pd1 rfl rfl (fun m => rfl) rfl (by decide) rfl (by decide) (by decide) (by decide) (b1_11 l Z a0 hw n0 h O a_INT8 a_INT64 a_INT32 a_STRING a_STRUCT a_FLOAT32 a_BYTES a_INT16 a_MAP a_ARRAY a_BOOLEAN a_FLOAT64 F (Q := RV (fun w h' => w = .ref a_STRUCT ∧ h = h')) ⟨_, rfl, rfl, rfl⟩) ?_
  rintro _ _ ⟨rfl, rfl⟩
  refine Go.astoreN at_12 (q := 13) rfl rfl (Ls' := #[.val (.int p), .val (.int (11 : Int32)), .val (.ref a_STRUCT), .unset]) rfl ?_
  refine Go.iloadN at_13 (q := 14) rfl rfl ?_
  refine Go.iconst at_14 (q := 15) rfl (x := (4 : Int32)) (by decide) ?_
  refine Go.icmp_ge at_15 (q := 22) (q' := 18) (by decide) rfl rfl (fun _ => ?_) (fun c => absurd c (by decide))
  refine Go.iconst at_22 (q := 23) rfl (x := (0 : Int32)) (by decide) ?_
  refine Go.istoreN at_23 (q := 24) rfl (Ls' := #[.val (.int p), .val (.int (11 : Int32)), .val (.ref a_STRUCT), .val (.int (0 : Int32))]) rfl ?_
  refine Go.aloadN at_24 (q := 25) rfl rfl rfl ?_
  refine Go.callVV (P := fun w h' => w = .int (0 : Int32) ∧ h = h') (argsL := []) (rest := []) (wd := 0) (Ls1 := #[.val (.ref a_STRUCT)]) at_25 (q := 28) rfl (w8 hw) (w9 hw) (w11 hw) (w10 hw) (w12 hw) (w6 hw) (by decide) pn2 pd2 rfl rfl (F.E_STRUCT.ext O.2) (fun m => rfl) rfl (by decide) rfl (by decide) (by decide) (by decide) (b2_11 l Z a0 hw n0 h O a_INT8 a_INT64 a_INT32 a_STRING a_STRUCT a_FLOAT32 a_BYTES a_INT16 a_MAP a_ARRAY a_BOOLEAN a_FLOAT64 F (Q := RV (fun w h' => w = .int (0 : Int32) ∧ h = h')) ⟨_, rfl, rfl, rfl⟩) ?_
  rintro _ _ ⟨rfl, rfl⟩
  refine Go.iloadN at_28 (q := 29) rfl rfl ?_
  refine Go.icmp_ne at_29 (q := 36) (q' := 32) (by decide) rfl rfl (fun c => absurd (by decide) c) (fun _ => ?_)
  refine Go.iconst at_32 (q := 33) rfl (x := (1 : Int32)) (by decide) ?_
  refine Go.goto at_33 (q := 37) (by decide) rfl ?_
  refine Go.zreturn at_37 (by decide) (by decide) (by decide) ?_
  rfl
theorem rem12 (x : Int32) : (x &&& 2147483647) % 12 = 0 ∨ (x &&& 2147483647) % 12 = 1 ∨ (x &&& 2147483647) % 12 = 2 ∨ (x &&& 2147483647) % 12 = 3 ∨ (x &&& 2147483647) % 12 = 4 ∨ (x &&& 2147483647) % 12 = 5 ∨ (x &&& 2147483647) % 12 = 6 ∨ (x &&& 2147483647) % 12 = 7 ∨ (x &&& 2147483647) % 12 = 8 ∨ (x &&& 2147483647) % 12 = 9 ∨ (x &&& 2147483647) % 12 = 10 ∨ (x &&& 2147483647) % 12 = 11 := by
  have e := c_mask x 2147483647 31 (by decide) (by decide)
  have e6 := (c_irem (x &&& 2147483647) 12 12 rfl).1 (by omega)
  simp only [← Int32.toInt_inj]
  have e0' : (0 : Int32).toInt = 0 := rfl
  have e1' : (1 : Int32).toInt = 1 := rfl
  have e2' : (2 : Int32).toInt = 2 := rfl
  have e3' : (3 : Int32).toInt = 3 := rfl
  have e4' : (4 : Int32).toInt = 4 := rfl
  have e5' : (5 : Int32).toInt = 5 := rfl
  have e6' : (6 : Int32).toInt = 6 := rfl
  have e7' : (7 : Int32).toInt = 7 := rfl
  have e8' : (8 : Int32).toInt = 8 := rfl
  have e9' : (9 : Int32).toInt = 9 := rfl
  have e10' : (10 : Int32).toInt = 10 := rfl
  have e11' : (11 : Int32).toInt = 11 := rfl
  omega
set_option maxRecDepth 65536 in
set_option maxHeartbeats 40000000 in
theorem b0 (l : Launch) (Z : State) (a0 : Array Value) (hw : Hw a0 Z) (n0 : Nat) (h : Heap) (O : Old Z n0 h) (p : Int32) (a_INT8 a_INT64 a_INT32 a_STRING a_STRUCT a_FLOAT32 a_BYTES a_INT16 a_MAP a_ARRAY a_BOOLEAN a_FLOAT64 : Addr) (F : Facts Z a_INT8 a_INT64 a_INT32 a_STRING a_STRUCT a_FLOAT32 a_BYTES a_INT16 a_MAP a_ARRAY a_BOOLEAN a_FLOAT64) :
    Go l Z x code maxLocals ret room_1 n0 (fun v _ => v = some (.int 1)) h 0 0 0 #[.val (.int p), .unset, .unset, .unset] [] := by
  refine Go.iloadN at_0 (q := 1) rfl rfl ?_
  refine Go.ldc at_1 (q := 3) rfl (v := (2147483647 : Int32)) (w0 hw) ?_
  refine Go.iand at_3 (q := 4) rfl ?_
  refine Go.bipush at_4 (q := 6) rfl (x := (12 : Int32)) (by decide) ?_
  refine Go.irem at_6 (q := 7) rfl (by decide) ?_
  refine Go.istoreN at_7 (q := 8) rfl (Ls' := #[.val (.int p), .val (.int ((p &&& (2147483647 : Int32)) % (12 : Int32))), .unset, .unset]) rfl ?_
  rcases rem12 p with hx | hx | hx | hx | hx | hx | hx | hx | hx | hx | hx | hx <;> rw [hx]
  · exact b0_0 l Z a0 hw n0 h O p a_INT8 a_INT64 a_INT32 a_STRING a_STRUCT a_FLOAT32 a_BYTES a_INT16 a_MAP a_ARRAY a_BOOLEAN a_FLOAT64 F
  · exact b0_1 l Z a0 hw n0 h O p a_INT8 a_INT64 a_INT32 a_STRING a_STRUCT a_FLOAT32 a_BYTES a_INT16 a_MAP a_ARRAY a_BOOLEAN a_FLOAT64 F
  · exact b0_2 l Z a0 hw n0 h O p a_INT8 a_INT64 a_INT32 a_STRING a_STRUCT a_FLOAT32 a_BYTES a_INT16 a_MAP a_ARRAY a_BOOLEAN a_FLOAT64 F
  · exact b0_3 l Z a0 hw n0 h O p a_INT8 a_INT64 a_INT32 a_STRING a_STRUCT a_FLOAT32 a_BYTES a_INT16 a_MAP a_ARRAY a_BOOLEAN a_FLOAT64 F
  · exact b0_4 l Z a0 hw n0 h O p a_INT8 a_INT64 a_INT32 a_STRING a_STRUCT a_FLOAT32 a_BYTES a_INT16 a_MAP a_ARRAY a_BOOLEAN a_FLOAT64 F
  · exact b0_5 l Z a0 hw n0 h O p a_INT8 a_INT64 a_INT32 a_STRING a_STRUCT a_FLOAT32 a_BYTES a_INT16 a_MAP a_ARRAY a_BOOLEAN a_FLOAT64 F
  · exact b0_6 l Z a0 hw n0 h O p a_INT8 a_INT64 a_INT32 a_STRING a_STRUCT a_FLOAT32 a_BYTES a_INT16 a_MAP a_ARRAY a_BOOLEAN a_FLOAT64 F
  · exact b0_7 l Z a0 hw n0 h O p a_INT8 a_INT64 a_INT32 a_STRING a_STRUCT a_FLOAT32 a_BYTES a_INT16 a_MAP a_ARRAY a_BOOLEAN a_FLOAT64 F
  · exact b0_8 l Z a0 hw n0 h O p a_INT8 a_INT64 a_INT32 a_STRING a_STRUCT a_FLOAT32 a_BYTES a_INT16 a_MAP a_ARRAY a_BOOLEAN a_FLOAT64 F
  · exact b0_9 l Z a0 hw n0 h O p a_INT8 a_INT64 a_INT32 a_STRING a_STRUCT a_FLOAT32 a_BYTES a_INT16 a_MAP a_ARRAY a_BOOLEAN a_FLOAT64 F
  · exact b0_10 l Z a0 hw n0 h O p a_INT8 a_INT64 a_INT32 a_STRING a_STRUCT a_FLOAT32 a_BYTES a_INT16 a_MAP a_ARRAY a_BOOLEAN a_FLOAT64 F
  · exact b0_11 l Z a0 hw n0 h O p a_INT8 a_INT64 a_INT32 a_STRING a_STRUCT a_FLOAT32 a_BYTES a_INT16 a_MAP a_ARRAY a_BOOLEAN a_FLOAT64 F
set_option maxRecDepth 65536 in
set_option maxHeartbeats 40000000 in
theorem comes_1 {Post : Tables → Env → Array Value → State → Outcome → State → Prop} (hpost : ∀ tb e args s v u, (limb_1_1.after args s (.returned v) u = true ∧ limb_1_2.after args s (.returned v) u = true ∧ True) → FrameEnd s (.returned v) u (Jvm.fieldLocs frame_1_writes args s ++ Jvm.arrayLocs frame_1_arrays args s ++ Jvm.staticLocs frame_1_statics s) 0 0 → Post tb e args s (.returned v) u) :
    ArmFor flags0 classFile x code maxLocals ret World_1 tables_1 room_1 Calls_1 rest_1 Pre_1 Post := by
  intro l hfl _ _ p e ha hc hk s m args below hf hA hF happ hP
  obtain ⟨hcalls, hrest, hpre⟩ := hP
  obtain ⟨-, -, -, hnamed, -, -, -, hat⟩ := (Spec.applies_iff hf).mp happ
  obtain ⟨hg, hn⟩ := and_e (Jvm.Cond.before_iff.mp (show (Jvm.Cond.and given_1 narrow_1).before args s = true from hpre))
  obtain ⟨g0, hg⟩ := and_e hg
  have g1 := hg
  obtain ⟨v0, rfl⟩ : ∃ v0 : Value, args = #[v0] := by
    have hs : args.size = 1 := by simpa [Jvm.Cond.value, given_1] using g0
    obtain ⟨L⟩ := args
    match L, hs with
    | [v0], _ => exact ⟨v0, rfl⟩
  have hw : Hw _ s := fun d (hd : d ∈ tables_1) => atoms_spec (ws := Jvm.Cond.code x code maxLocals ret :: tables_1) hat d (List.mem_cons_of_mem _ hd)
  have hfit : Fit s := fun {y c} hc i hi => by
    obtain ⟨ha, rfl⟩ := Array.getElem?_eq_some_iff.mp hc
    have q := List.all_eq_true.mp ((Array.all_eq_true_iff_forall_mem.mp hF) _ (Array.getElem_mem ha)) i (List.mem_range.mpr hi)
    simpa [Array.getElem?_eq_getElem hi] using q
  obtain ⟨x0, e0⟩ := is_v g1
  obtain rfl : v0 = (.int x0) := Option.some.inj e0
  obtain ⟨q0, hn⟩ := and_e hn
  obtain ⟨q1, hn⟩ := and_e hn
  obtain ⟨q2, hn⟩ := and_e hn
  obtain ⟨q3, hn⟩ := and_e hn
  obtain ⟨q4, hn⟩ := and_e hn
  obtain ⟨q5, hn⟩ := and_e hn
  obtain ⟨q6, hn⟩ := and_e hn
  obtain ⟨q7, hn⟩ := and_e hn
  obtain ⟨q8, hn⟩ := and_e hn
  obtain ⟨q9, hn⟩ := and_e hn
  obtain ⟨q10, hn⟩ := and_e hn
  obtain ⟨q11, hn⟩ := and_e hn
  obtain ⟨q12, hn⟩ := and_e hn
  obtain ⟨q13, hn⟩ := and_e hn
  obtain ⟨q14, hn⟩ := and_e hn
  obtain ⟨q15, hn⟩ := and_e hn
  obtain ⟨q16, hn⟩ := and_e hn
  obtain ⟨q17, hn⟩ := and_e hn
  obtain ⟨q18, hn⟩ := and_e hn
  obtain ⟨q19, hn⟩ := and_e hn
  obtain ⟨q20, hn⟩ := and_e hn
  obtain ⟨q21, hn⟩ := and_e hn
  obtain ⟨q22, hn⟩ := and_e hn
  obtain ⟨q23, hn⟩ := and_e hn
  obtain ⟨q24, hn⟩ := and_e hn
  obtain ⟨q25, hn⟩ := and_e hn
  obtain ⟨q26, hn⟩ := and_e hn
  obtain ⟨q27, hn⟩ := and_e hn
  obtain ⟨q28, hn⟩ := and_e hn
  obtain ⟨q29, hn⟩ := and_e hn
  obtain ⟨q30, hn⟩ := and_e hn
  obtain ⟨q31, hn⟩ := and_e hn
  obtain ⟨q32, hn⟩ := and_e hn
  obtain ⟨q33, hn⟩ := and_e hn
  obtain ⟨q34, hn⟩ := and_e hn
  have q35 := hn
  obtain ⟨a_INT8, ev_INT8, S_INT8, E_INT8⟩ := sta_ref q0 (w6 hw) (w7 hw)
  obtain ⟨a_INT64, ev_INT64, S_INT64, E_INT64⟩ := sta_ref q3 (w6 hw) (w18 hw)
  obtain ⟨a_INT32, ev_INT32, S_INT32, E_INT32⟩ := sta_ref q6 (w6 hw) (w20 hw)
  obtain ⟨a_STRING, ev_STRING, S_STRING, E_STRING⟩ := sta_ref q9 (w6 hw) (w22 hw)
  obtain ⟨a_STRUCT, ev_STRUCT, S_STRUCT, E_STRUCT⟩ := sta_ref q12 (w6 hw) (w24 hw)
  obtain ⟨a_FLOAT32, ev_FLOAT32, S_FLOAT32, E_FLOAT32⟩ := sta_ref q15 (w6 hw) (w26 hw)
  obtain ⟨a_BYTES, ev_BYTES, S_BYTES, E_BYTES⟩ := sta_ref q18 (w6 hw) (w28 hw)
  obtain ⟨a_INT16, ev_INT16, S_INT16, E_INT16⟩ := sta_ref q21 (w6 hw) (w30 hw)
  obtain ⟨a_MAP, ev_MAP, S_MAP, E_MAP⟩ := sta_ref q24 (w6 hw) (w32 hw)
  obtain ⟨a_ARRAY, ev_ARRAY, S_ARRAY, E_ARRAY⟩ := sta_ref q27 (w6 hw) (w34 hw)
  obtain ⟨a_BOOLEAN, ev_BOOLEAN, S_BOOLEAN, E_BOOLEAN⟩ := sta_ref q30 (w6 hw) (w36 hw)
  obtain ⟨a_FLOAT64, ev_FLOAT64, S_FLOAT64, E_FLOAT64⟩ := sta_ref q33 (w6 hw) (w38 hw)
  have F_INT8_min := fld_long ev_INT8 q1
  have F_INT8_max := fld_long ev_INT8 q2
  have F_INT64_min := fld_long ev_INT64 q4
  have F_INT64_max := fld_long ev_INT64 q5
  have F_INT32_min := fld_long ev_INT32 q7
  have F_INT32_max := fld_long ev_INT32 q8
  have F_STRING_min := fld_long ev_STRING q10
  have F_STRING_max := fld_long ev_STRING q11
  have F_STRUCT_min := fld_long ev_STRUCT q13
  have F_STRUCT_max := fld_long ev_STRUCT q14
  have F_FLOAT32_min := fld_long ev_FLOAT32 q16
  have F_FLOAT32_max := fld_long ev_FLOAT32 q17
  have F_BYTES_min := fld_long ev_BYTES q19
  have F_BYTES_max := fld_long ev_BYTES q20
  have F_INT16_min := fld_long ev_INT16 q22
  have F_INT16_max := fld_long ev_INT16 q23
  have F_MAP_min := fld_long ev_MAP q25
  have F_MAP_max := fld_long ev_MAP q26
  have F_ARRAY_min := fld_long ev_ARRAY q28
  have F_ARRAY_max := fld_long ev_ARRAY q29
  have F_BOOLEAN_min := fld_long ev_BOOLEAN q31
  have F_BOOLEAN_max := fld_long ev_BOOLEAN q32
  have F_FLOAT64_min := fld_long ev_FLOAT64 q34
  have F_FLOAT64_max := fld_long ev_FLOAT64 q35
  have G := b0 l s _ hw s.heap.size s.heap (Old.start s) x0 a_INT8 a_INT64 a_INT32 a_STRING a_STRUCT a_FLOAT32 a_BYTES a_INT16 a_MAP a_ARRAY a_BOOLEAN a_FLOAT64 (show Facts s a_INT8 a_INT64 a_INT32 a_STRING a_STRUCT a_FLOAT32 a_BYTES a_INT16 a_MAP a_ARRAY a_BOOLEAN a_FLOAT64 from ⟨S_INT8, E_INT8, S_INT64, E_INT64, S_INT32, E_INT32, S_STRING, E_STRING, S_STRUCT, E_STRUCT, S_FLOAT32, E_FLOAT32, S_BYTES, E_BYTES, S_INT16, E_INT16, S_MAP, E_MAP, S_ARRAY, E_ARRAY, S_BOOLEAN, E_BOOLEAN, S_FLOAT64, E_FLOAT64, F_INT8_min, F_INT8_max, F_INT64_min, F_INT64_max, F_INT32_min, F_INT32_max, F_STRING_min, F_STRING_max, F_STRUCT_min, F_STRUCT_max, F_FLOAT32_min, F_FLOAT32_max, F_BYTES_min, F_BYTES_max, F_INT16_min, F_INT16_max, F_MAP_min, F_MAP_max, F_ARRAY_min, F_ARRAY_max, F_BOOLEAN_min, F_BOOLEAN_max, F_FLOAT64_min, F_FLOAT64_max⟩)
  obtain ⟨n, o, h1, h2, h3, _, L, rfl, ⟨N, rfl⟩, hq⟩ := (G.met pn0 (fun m => rfl) tables_1) p e ha hc hk s m _ below hf ((Spec.applies_iff_loose hf).mp happ).1 ⟨rfl, State.Warmed39.refl s, rfl⟩ trivial
  refine ⟨n, _, h1, h2, h3, hpost _ _ _ _ _ _ ⟨Jvm.Cond.after_iff.mpr rfl, Jvm.Cond.after_iff.mpr (eq_i res_at (Term.int_eval (1)) rfl), trivial⟩ ⟨hq.1, hq.2.1, (hq.2.2.sift fun y hy => Or.inr (N y hy)).mono (by decide) (by decide)⟩⟩
theorem main_1_1 : Claimed_1_1 := comes_1 fun _ _ _ _ _ _ h hF => ⟨h.1, hF⟩
theorem main_1_2 : Claimed_1_2 := comes_1 fun _ _ _ _ _ _ h hF => ⟨h.2.1, hF⟩
end Jvm.Pilot.@@N@@
namespace Jvm.Pilot.@@N@@
open Jvm Jvm.ClassFile Sem Op Lib Jvm.Free Jvm.Stand Jvm.Pilot.@@N@@.Jvm.D
/-! MADE BY PROGRAM (witnessworld.py) out of the Statement's table words and the real class files: 12 classes; the members and pool entries that the words name. The judged class is class 1, her method 2. -/
namespace start1
open Jvm.ClassFile
def u (s : String) : CpInfo := .utf8 (stringToUtf16 s)
/-- a pool by its gaps: so many unusable entries, then the entry; so many at the end -/
def gap : Nat → List CpInfo → List CpInfo
  | 0, r => r
  | n + 1, r => .unusable :: gap n r
def poolList (es : List (Nat × CpInfo)) (last : Nat) : List CpInfo := es.foldr (fun e r => gap e.1 (e.2 :: r)) (gap last [])
def pool (es : List (Nat × CpInfo)) (last : Nat) : Array CpInfo := ⟨poolList es last⟩
def fileOf (pool : Array CpInfo) (this : Nat) (attrs : Array Attribute := #[]) (ms : Array MethodInfo := #[]) (fl : Nat := 33) (sup : Nat := 0) (ifs : Array Nat := #[]) (fds : Array FieldInfo := #[]) : ClassFile where
  minorVersion := 0
  majorVersion := 65
  constantPool := pool
  accessFlags := fl
  thisClass := this
  superClass := sup
  interfaces := ifs
  fields := fds
  methods := ms
  attributes := attrs
def plain (name : String) (sup : Option ClassId) : Class where
  name := name
  kind := .ordinary
  loader := none
  accessFlags := 33
  super := sup
  interfaces := #[]
  cf := none
  fields := #[]
  methods := #[]
  instanceTypes := #[]
  staticTypes := #[]
  resolved := #[]
  callSites := []
  init := .initialized
  statics := none
  mirror := none

def pool0 : Array CpInfo := pool [(5, u "<init>"), (0, u "()V"), (1, .class_ 10), (1, u "java/lang/Object")] 113

def k0m0 : Method := { name := "<init>", desc := "()V", sig := { parameters := [], returnType := none }, accessFlags := 1, code := none }
/-- java/lang/Object -/
def k0 : Class := { plain "java/lang/Object" none with
  accessFlags := 33
  interfaces := #[]
  cf := some (fileOf pool0 8 #[] #[{ accessFlags := 1, nameIndex := 5, descriptorIndex := 6, attributes := #[] }] 33 0 #[] #[])
  fields := #[]
  methods := #[k0m0]
  instanceTypes := #[]
  staticTypes := #[]
  resolved := Array.replicate 124 none
  statics := none }

def pool1 : Array CpInfo := pool [(2, .class_ 4), (1, u "java/lang/Object"), (0, u "<init>"), (0, u "()V"), (0, .fieldref 8 9), (0, .class_ 10), (0, .nameAndType 11 12), (0, u "com/example/fieldpath/fieldpath/record/Schema$Type"), (0, u "INT8"), (0, u "Lcom/example/fieldpath/fieldpath/record/Schema$Type;"), (0, .fieldref 8 14), (0, .nameAndType 15 12), (0, u "INT16"), (0, .fieldref 8 17), (0, .nameAndType 18 12), (0, u "INT32"), (0, .fieldref 8 20), (0, .nameAndType 21 12), (0, u "INT64"), (0, .fieldref 8 23), (0, .nameAndType 24 12), (0, u "FLOAT32"), (0, .fieldref 8 26), (0, .nameAndType 27 12), (0, u "FLOAT64"), (0, .fieldref 8 29), (0, .nameAndType 30 12), (0, u "BOOLEAN"), (0, .fieldref 8 32), (0, .nameAndType 33 12), (0, u "STRING"), (0, .fieldref 8 35), (0, .nameAndType 36 12), (0, u "BYTES"), (0, .fieldref 8 38), (0, .nameAndType 39 12), (0, u "ARRAY"), (0, .fieldref 8 41), (0, .nameAndType 42 12), (0, u "MAP"), (0, .fieldref 8 44), (0, .nameAndType 45 12), (0, u "STRUCT"), (0, .integer 2147483647), (0, .methodref 48 49), (0, .class_ 50), (0, .nameAndType 51 52), (0, u "com/example/fieldpath/fieldpath/record/TypeIsIntegerPinLaw"), (0, u "pick"), (0, u "(I)Lcom/example/fieldpath/fieldpath/record/Schema$Type;"), (0, .methodref 8 54), (0, .nameAndType 55 56), (0, u "isInteger"), (0, u "()Z"), (3, u "law"), (0, u "(I)Z")] 6

def k1m0 : Method := { name := "<init>", desc := "()V", sig := { parameters := [], returnType := none }, accessFlags := 1, code := none }
def k1c1 : Code := { maxStack := 2, maxLocals := 1, code := method_2_code, exceptionTable := #[], attributes := #[] }
def k1m1 : Method := { name := "pick", desc := "(I)Lcom/example/fieldpath/fieldpath/record/Schema$Type;", sig := { parameters := [.int], returnType := some (.object "com/example/fieldpath/fieldpath/record/Schema$Type") }, accessFlags := 10, code := some k1c1 }
def k1c2 : Code := { maxStack := 2, maxLocals := 4, code := code, exceptionTable := #[], attributes := #[] }
def k1m2 : Method := { name := "law", desc := "(I)Z", sig := { parameters := [.int], returnType := some .boolean }, accessFlags := 9, code := some k1c2 }
/-- com/example/fieldpath/fieldpath/record/TypeIsIntegerPinLaw -/
def k1 : Class := { plain "com/example/fieldpath/fieldpath/record/TypeIsIntegerPinLaw" (some 0) with
  accessFlags := 49
  interfaces := #[]
  cf := some (fileOf pool1 48 #[] #[{ accessFlags := 1, nameIndex := 5, descriptorIndex := 6, attributes := #[] }, { accessFlags := 10, nameIndex := 51, descriptorIndex := 52, attributes := #[] }, { accessFlags := 9, nameIndex := 60, descriptorIndex := 61, attributes := #[] }] 49 2 #[] #[])
  fields := #[]
  methods := #[k1m0, k1m1, k1m2]
  instanceTypes := #[]
  staticTypes := #[]
  resolved := Array.replicate 68 none
  statics := none }

def pool2 : Array CpInfo := pool [(1, .class_ 2), (0, u "java/lang/constant/Constable"), (0, .class_ 4), (0, u "java/lang/Object")] 6

/-- java/lang/constant/Constable -/
def k2 : Class := { plain "java/lang/constant/Constable" (some 0) with
  accessFlags := 1537
  interfaces := #[]
  cf := some (fileOf pool2 1 #[] #[] 1537 3 #[] #[])
  fields := #[]
  methods := #[]
  instanceTypes := #[]
  staticTypes := #[]
  resolved := Array.replicate 11 none
  statics := none }

def pool3 : Array CpInfo := pool [(1, .class_ 2), (0, u "java/lang/Comparable"), (0, .class_ 4), (0, u "java/lang/Object")] 7

/-- java/lang/Comparable -/
def k3 : Class := { plain "java/lang/Comparable" (some 0) with
  accessFlags := 1537
  interfaces := #[]
  cf := some (fileOf pool3 1 #[] #[] 1537 3 #[] #[])
  fields := #[]
  methods := #[]
  instanceTypes := #[]
  staticTypes := #[]
  resolved := Array.replicate 12 none
  statics := none }

def pool4 : Array CpInfo := pool [(1, .class_ 2), (0, u "java/io/Serializable"), (0, .class_ 4), (0, u "java/lang/Object")] 2

/-- java/io/Serializable -/
def k4 : Class := { plain "java/io/Serializable" (some 0) with
  accessFlags := 1537
  interfaces := #[]
  cf := some (fileOf pool4 1 #[] #[] 1537 3 #[] #[])
  fields := #[]
  methods := #[]
  instanceTypes := #[]
  staticTypes := #[]
  resolved := Array.replicate 7 none
  statics := none }

def pool5 : Array CpInfo := pool [(2, .class_ 4), (1, u "java/lang/Enum"), (0, u "name"), (0, u "Ljava/lang/String;"), (2, u "ordinal"), (0, u "I"), (1, .class_ 14), (1, u "java/lang/Object"), (4, u "hash"), (86, .class_ 108), (1, u "java/lang/Enum$EnumDesc"), (2, .class_ 112), (0, u "java/lang/constant/Constable"), (0, .class_ 114), (0, u "java/lang/Comparable"), (0, .class_ 116), (0, u "java/io/Serializable")] 87

/-- java/lang/Enum -/
def k5 : Class := { plain "java/lang/Enum" (some 0) with
  accessFlags := 1057
  interfaces := #[2, 3, 4]
  cf := some (fileOf pool5 2 #[.nestMembers #[106]] #[] 1057 12 #[111, 113, 115] #[{ accessFlags := 18, nameIndex := 5, descriptorIndex := 6, attributes := #[] }, { accessFlags := 18, nameIndex := 9, descriptorIndex := 10, attributes := #[] }, { accessFlags := 2, nameIndex := 19, descriptorIndex := 10, attributes := #[] }])
  fields := #[{ name := "name", type := (.object "java/lang/String"), accessFlags := 18, slot := 0, constantValue := 0 }, { name := "ordinal", type := .int, accessFlags := 18, slot := 1, constantValue := 0 }, { name := "hash", type := .int, accessFlags := 2, slot := 2, constantValue := 0 }]
  methods := #[]
  instanceTypes := #[(.object "java/lang/String"), .int, .int]
  staticTypes := #[]
  resolved := Array.replicate 204 none
  statics := none }

def pool6 : Array CpInfo := pool [(1, .class_ 2), (0, u "com/example/fieldpath/fieldpath/record/Schema$Type"), (2, u "INT8"), (0, u "Lcom/example/fieldpath/fieldpath/record/Schema$Type;"), (2, u "INT16"), (2, u "INT32"), (2, u "INT64"), (2, u "FLOAT32"), (2, u "FLOAT64"), (2, u "BOOLEAN"), (2, u "STRING"), (2, u "BYTES"), (2, u "ARRAY"), (2, u "MAP"), (2, u "STRUCT"), (2, u "$VALUES"), (0, u "[Lcom/example/fieldpath/fieldpath/record/Schema$Type;"), (6, .class_ 52), (1, u "java/lang/Enum"), (9, .fieldref 1 63), (0, .nameAndType 64 65), (0, u "min"), (0, u "J"), (0, .fieldref 1 67), (0, .nameAndType 68 65), (0, u "max"), (11, u "()Z"), (90, u "isInteger"), (12, .class_ 185), (0, u "com/example/fieldpath/fieldpath/record/Schema")] 2

def k6c0 : Code := { maxStack := 4, maxLocals := 1, code := prog_21_method_5_code, exceptionTable := #[], attributes := #[] }
def k6m0 : Method := { name := "isInteger", desc := "()Z", sig := { parameters := [], returnType := some .boolean }, accessFlags := 1, code := some k6c0 }
/-- com/example/fieldpath/fieldpath/record/Schema$Type -/
def k6 : Class := { plain "com/example/fieldpath/fieldpath/record/Schema$Type" (some 5) with
  accessFlags := 16433
  interfaces := #[]
  cf := some (fileOf pool6 1 #[.nestHost 184] #[{ accessFlags := 1, nameIndex := 171, descriptorIndex := 80, attributes := #[] }] 16433 50 #[] #[{ accessFlags := 16409, nameIndex := 5, descriptorIndex := 6, attributes := #[] }, { accessFlags := 16409, nameIndex := 9, descriptorIndex := 6, attributes := #[] }, { accessFlags := 16409, nameIndex := 12, descriptorIndex := 6, attributes := #[] }, { accessFlags := 16409, nameIndex := 15, descriptorIndex := 6, attributes := #[] }, { accessFlags := 16409, nameIndex := 18, descriptorIndex := 6, attributes := #[] }, { accessFlags := 16409, nameIndex := 21, descriptorIndex := 6, attributes := #[] }, { accessFlags := 16409, nameIndex := 24, descriptorIndex := 6, attributes := #[] }, { accessFlags := 16409, nameIndex := 27, descriptorIndex := 6, attributes := #[] }, { accessFlags := 16409, nameIndex := 30, descriptorIndex := 6, attributes := #[] }, { accessFlags := 16409, nameIndex := 33, descriptorIndex := 6, attributes := #[] }, { accessFlags := 16409, nameIndex := 36, descriptorIndex := 6, attributes := #[] }, { accessFlags := 16409, nameIndex := 39, descriptorIndex := 6, attributes := #[] }, { accessFlags := 18, nameIndex := 64, descriptorIndex := 65, attributes := #[] }, { accessFlags := 18, nameIndex := 68, descriptorIndex := 65, attributes := #[] }, { accessFlags := 4122, nameIndex := 42, descriptorIndex := 43, attributes := #[] }])
  fields := #[{ name := "INT8", type := (.object "com/example/fieldpath/fieldpath/record/Schema$Type"), accessFlags := 16409, slot := 0, constantValue := 0 }, { name := "INT16", type := (.object "com/example/fieldpath/fieldpath/record/Schema$Type"), accessFlags := 16409, slot := 1, constantValue := 0 }, { name := "INT32", type := (.object "com/example/fieldpath/fieldpath/record/Schema$Type"), accessFlags := 16409, slot := 2, constantValue := 0 }, { name := "INT64", type := (.object "com/example/fieldpath/fieldpath/record/Schema$Type"), accessFlags := 16409, slot := 3, constantValue := 0 }, { name := "FLOAT32", type := (.object "com/example/fieldpath/fieldpath/record/Schema$Type"), accessFlags := 16409, slot := 4, constantValue := 0 }, { name := "FLOAT64", type := (.object "com/example/fieldpath/fieldpath/record/Schema$Type"), accessFlags := 16409, slot := 5, constantValue := 0 }, { name := "BOOLEAN", type := (.object "com/example/fieldpath/fieldpath/record/Schema$Type"), accessFlags := 16409, slot := 6, constantValue := 0 }, { name := "STRING", type := (.object "com/example/fieldpath/fieldpath/record/Schema$Type"), accessFlags := 16409, slot := 7, constantValue := 0 }, { name := "BYTES", type := (.object "com/example/fieldpath/fieldpath/record/Schema$Type"), accessFlags := 16409, slot := 8, constantValue := 0 }, { name := "ARRAY", type := (.object "com/example/fieldpath/fieldpath/record/Schema$Type"), accessFlags := 16409, slot := 9, constantValue := 0 }, { name := "MAP", type := (.object "com/example/fieldpath/fieldpath/record/Schema$Type"), accessFlags := 16409, slot := 10, constantValue := 0 }, { name := "STRUCT", type := (.object "com/example/fieldpath/fieldpath/record/Schema$Type"), accessFlags := 16409, slot := 11, constantValue := 0 }, { name := "min", type := .long, accessFlags := 18, slot := 3, constantValue := 0 }, { name := "max", type := .long, accessFlags := 18, slot := 4, constantValue := 0 }, { name := "$VALUES", type := (.array (.object "com/example/fieldpath/fieldpath/record/Schema$Type")), accessFlags := 4122, slot := 12, constantValue := 0 }]
  methods := #[k6m0]
  instanceTypes := #[(.object "java/lang/String"), .int, .int, .long, .long]
  staticTypes := #[(.object "com/example/fieldpath/fieldpath/record/Schema$Type"), (.object "com/example/fieldpath/fieldpath/record/Schema$Type"), (.object "com/example/fieldpath/fieldpath/record/Schema$Type"), (.object "com/example/fieldpath/fieldpath/record/Schema$Type"), (.object "com/example/fieldpath/fieldpath/record/Schema$Type"), (.object "com/example/fieldpath/fieldpath/record/Schema$Type"), (.object "com/example/fieldpath/fieldpath/record/Schema$Type"), (.object "com/example/fieldpath/fieldpath/record/Schema$Type"), (.object "com/example/fieldpath/fieldpath/record/Schema$Type"), (.object "com/example/fieldpath/fieldpath/record/Schema$Type"), (.object "com/example/fieldpath/fieldpath/record/Schema$Type"), (.object "com/example/fieldpath/fieldpath/record/Schema$Type"), (.array (.object "com/example/fieldpath/fieldpath/record/Schema$Type"))]
  resolved := Array.replicate 188 none
  statics := some 0 }

def pool7 : Array CpInfo := pool [(1, u "java/lang/Cloneable"), (0, .class_ 1), (0, u "java/lang/Object"), (0, .class_ 3)] 3

/-- java/lang/Cloneable -/
def k7 : Class := { plain "java/lang/Cloneable" (some 0) with
  accessFlags := 1537
  interfaces := #[]
  cf := some (fileOf pool7 2 #[] #[] 1537 4 #[] #[])
  fields := #[]
  methods := #[]
  instanceTypes := #[]
  staticTypes := #[]
  resolved := Array.replicate 8 none
  statics := none }

/-- the primitive byte -/
def k8 : Class := { plain "byte" none with kind := .primitive 'B', accessFlags := 0x411 }
/-- [B -/
def k9 : Class := { plain "[B" (some 0) with kind := .array 8 .byte, interfaces := #[7, 4], accessFlags := 1041 }

/-- the primitive int -/
def k10 : Class := { plain "int" none with kind := .primitive 'I', accessFlags := 0x411 }
/-- [I -/
def k11 : Class := { plain "[I" (some 0) with kind := .array 10 .int, interfaces := #[7, 4], accessFlags := 1041 }

def heap : Heap := #[{ cls := 6, slots := #[.ref 1, .ref 8, .ref 3, .ref 2, .ref 6, .ref 12, .ref 11, .ref 4, .ref 7, .ref 10, .ref 9, .ref 5, .null], vm := .statics 6 },
  { cls := 6, slots := #[.null, .int 0, .int 0, .long (-128), .long 127], vm := .none },
  { cls := 6, slots := #[.null, .int 0, .int 0, .long (-9223372036854775808), .long 9223372036854775807], vm := .none },
  { cls := 6, slots := #[.null, .int 0, .int 0, .long (-2147483648), .long 2147483647], vm := .none },
  { cls := 6, slots := #[.null, .int 0, .int 0, .long 0, .long 0], vm := .none },
  { cls := 6, slots := #[.null, .int 0, .int 0, .long 0, .long 0], vm := .none },
  { cls := 6, slots := #[.null, .int 0, .int 0, .long 0, .long 0], vm := .none },
  { cls := 6, slots := #[.null, .int 0, .int 0, .long 0, .long 0], vm := .none },
  { cls := 6, slots := #[.null, .int 0, .int 0, .long (-32768), .long 32767], vm := .none },
  { cls := 6, slots := #[.null, .int 0, .int 0, .long 0, .long 0], vm := .none },
  { cls := 6, slots := #[.null, .int 0, .int 0, .long 0, .long 0], vm := .none },
  { cls := 6, slots := #[.null, .int 0, .int 0, .long 0, .long 0], vm := .none },
  { cls := 6, slots := #[.null, .int 0, .int 0, .long 0, .long 0], vm := .none }]
def classes : Array Class := #[k0, k1, k2, k3, k4, k5, k6, k7, k8, k9, k10, k11]
def interned : List (Array UInt16 × Addr) := []
def slotsUsed : Nat := 73
def theMethod : MethodId := ⟨1, 2⟩
def args0 : Array Value := #[.int 5]
def aboutOver (below : List Frame) : State where
  vm := { classes := classes, interned := interned.toArray }
  heap := heap
  slotsUsed := slotsUsed
  threads := #[{ frames := .invoking theMethod args0 :: below }]
def below0 : List Frame := [.native { method := ⟨0, 0⟩, args := #[] }]
def about1 : State := aboutOver below0
def p0 : Program := .bare "" "" ""
def e0 : Env := launch0.env 0 0 0
theorem w_frames : about1.frames = Frame.invoking theMethod args0 :: below0 := rfl
set_option maxRecDepth 65536 in
theorem w_args : argsFit about1.vm theMethod args0 = true := by decide +kernel
set_option maxRecDepth 65536 in
theorem w_heap : heapFits about1 = true := by decide +kernel
set_option maxRecDepth 65536 in
theorem w_runnable : about1.curStatus? = some .runnable := by decide +kernel
set_option maxRecDepth 65536 in
theorem w_alone : about1.alone = true := by decide +kernel
set_option maxRecDepth 65536 in
theorem w_named : about1.methodNamed? x = some theMethod := by decide +kernel
set_option maxRecDepth 65536 in
theorem w_hears : about1.hears theMethod below0 = true := by decide +kernel
set_option maxRecDepth 65536 in
theorem w_ripe : about1.ripe theMethod args0 below0 = true := by decide +kernel
theorem w_running : about1.status = .running := rfl
set_option maxRecDepth 65536 in
theorem w_room : about1.hasRoom e0.platform room_1 = true :=
  launch0.hasRoom_least _ room_1 (by decide +kernel) (by decide +kernel) (by decide +kernel) (by decide +kernel) (by decide +kernel) (by decide +kernel)
theorem allAtoms_all (ts : List Jvm.Cond) (a : Array Jvm.Value) (st : Jvm.State) : (allAtoms ts).before a st = ts.all (fun c => c.before a st) := by
  induction ts with
  | nil => rfl
  | cons c t ih =>
    show (Jvm.Cond.and c (allAtoms t)).before a st = _
    rw [Jvm.Cond.before_and, ih, List.all_cons]
def words1 : List Jvm.Cond := Jvm.Cond.code x code maxLocals ret :: tables_1
/-- a 'code' word, met by the world's own term for the bytes: nothing is compared byte by byte -/
theorem code_word {y : MethodName} {bytes : ByteArray} {mx : Nat} {rt : Option FieldType} {a : Array Value} {s : State} {m : MethodId} {meth : Method} {c : Code} (h1 : s.methodNamed? y = some m) (h2 : s.vm.method? m = some meth) (h3 : meth.code = some c) (h4 : c.code = bytes)
    (h5 : (c.maxLocals == mx && c.exceptionTable.isEmpty && decide (c.maxStack ≤ mostOperands) && decide (meth.sig.returnType = rt) && !meth.locks && decide (parseMethodDescriptor y.desc = some meth.sig)) = true) : (Jvm.Cond.code y bytes mx rt).before a s = true := by
  simp only [Bool.and_eq_true, beq_iff_eq, Bool.not_eq_true', decide_eq_true_eq] at h5
  obtain ⟨⟨⟨⟨⟨g1, g2⟩, g3⟩, g4⟩, g5⟩, g6⟩ := h5
  simp [Cond.before, Cond.holds, Cond.value, h1, h2, h3, h4, g1, g2, g3, g4, g5, g6]
def isCode : Jvm.Cond → Bool
  | .code _ _ _ _ => true
  | _ => false
theorem all_split {L : List Jvm.Cond} {P : Jvm.Cond → Bool} (h1 : L.all (fun c => isCode c || P c) = true) (h2 : ∀ c ∈ L.filter isCode, P c = true) : L.all P = true := by
  refine List.all_eq_true.mpr fun c hc => ?_
  have h := List.all_eq_true.mp h1 c hc
  rcases Bool.eq_false_or_eq_true (isCode c) with hi | hi
  · exact h2 c (List.mem_filter.mpr ⟨hc, hi⟩)
  · simpa [hi] using h
set_option maxRecDepth 65536 in
theorem w_c0 : (Jvm.Cond.code x code maxLocals ret).before args0 about1 = true := code_word (m := ⟨1, 2⟩) (meth := k1m2) (c := k1c2) (by decide +kernel) rfl rfl rfl (by decide +kernel)
set_option maxRecDepth 65536 in
theorem w_c1 : (Jvm.Cond.code ({ cls := "com/example/fieldpath/fieldpath/record/TypeIsIntegerPinLaw", name := "pick", desc := "(I)Lcom/example/fieldpath/fieldpath/record/Schema$Type;" } : Jvm.MethodName) method_2_code (1 : Nat) (Option.some (Jvm.ClassFile.FieldType.object "com/example/fieldpath/fieldpath/record/Schema$Type"))).before args0 about1 = true := code_word (m := ⟨1, 1⟩) (meth := k1m1) (c := k1c1) (by decide +kernel) rfl rfl rfl (by decide +kernel)
set_option maxRecDepth 65536 in
theorem w_c2 : (Jvm.Cond.code ({ cls := "com/example/fieldpath/fieldpath/record/Schema$Type", name := "isInteger", desc := "()Z" } : Jvm.MethodName) prog_21_method_5_code (1 : Nat) (Option.some Jvm.ClassFile.FieldType.boolean)).before args0 about1 = true := code_word (m := ⟨6, 0⟩) (meth := k6m0) (c := k6c0) (by decide +kernel) rfl rfl rfl (by decide +kernel)
def codes1 : List Jvm.Cond := [Jvm.Cond.code x code maxLocals ret, Jvm.Cond.code ({ cls := "com/example/fieldpath/fieldpath/record/TypeIsIntegerPinLaw", name := "pick", desc := "(I)Lcom/example/fieldpath/fieldpath/record/Schema$Type;" } : Jvm.MethodName) method_2_code (1 : Nat) (Option.some (Jvm.ClassFile.FieldType.object "com/example/fieldpath/fieldpath/record/Schema$Type")), Jvm.Cond.code ({ cls := "com/example/fieldpath/fieldpath/record/Schema$Type", name := "isInteger", desc := "()Z" } : Jvm.MethodName) prog_21_method_5_code (1 : Nat) (Option.some Jvm.ClassFile.FieldType.boolean)]
set_option maxRecDepth 65536 in
theorem codes_eq : words1.filter isCode = codes1 := rfl
theorem w_codes : ∀ c ∈ words1.filter isCode, c.before args0 about1 = true := by
  rw [codes_eq]
  intro c hc
  simp only [codes1, List.mem_cons, List.not_mem_nil, or_false] at hc
  rcases hc with rfl | rfl | rfl
  · exact w_c0
  · exact w_c1
  · exact w_c2
set_option maxRecDepth 65536 in
theorem w_t1 : (words1.take 24).all (fun c => isCode c || c.before args0 about1) = true := by decide +kernel
set_option maxRecDepth 65536 in
theorem w_t2 : (words1.drop 24).all (fun c => isCode c || c.before args0 about1) = true := by decide +kernel
theorem w_tables : (allAtoms (Jvm.Cond.code x code maxLocals ret :: tables_1)).before args0 about1 = true := by
  rw [allAtoms_all]
  show words1.all (fun c => c.before args0 about1) = true
  refine all_split ?_ w_codes
  rw [← List.take_append_drop 24 words1, List.all_append, w_t1, w_t2]
  rfl
set_option maxRecDepth 65536 in
theorem w_case : (Jvm.Cond.and given_1 narrow_1).before args0 about1 = true := by decide +kernel
theorem w_applies : (headSpec (Jvm.Cond.code x code maxLocals ret :: tables_1) room_1).applies x e0.platform about1 = true :=
  (Spec.applies_iff w_frames).mpr ⟨w_running, w_runnable, w_alone, w_named, w_hears, w_ripe, w_room, w_tables⟩
theorem atStart : AtStart classFile x code maxLocals ret World_1 tables_1 room_1 Calls_1 rest_1 Pre_1 launch0 p0 e0 about1 theMethod args0 below0 :=
  ⟨lists_1, trivial, launch0.admits_env _ _ _, launch0.least_env, fairChoices_fair.cas, fairChoices_fair.clock, w_frames, w_args, w_heap, w_applies, trivial, trivial, w_case⟩
end start1
theorem witness_1 : WitnessClaimed_1 := ⟨start1.p0, start1.e0, start1.about1, start1.theMethod, start1.args0, start1.below0, start1.atStart⟩
end Jvm.Pilot.@@N@@
