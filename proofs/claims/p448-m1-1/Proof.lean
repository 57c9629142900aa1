import JvmDerived
import JvmDerived.Pilot.@@N@@Statement
import JvmDerived.Pilot.@@N@@Code
set_option linter.unusedVariables false
set_option linter.unusedSimpArgs false
namespace Jvm.OwnKit
open Jvm Jvm.ClassFile Sem Op Lib Jvm.Free Jvm.Stand Jvm.LawKit Jvm.RoadKit
/-- the run from here ends in a return that answers Q, having written new cells alone -/
def Ends (p : Program) (e : Env) (below : List Frame) (s : State) (n0 : Nat) (Q : Option Value → Heap → Prop) (k n : Nat) (T : State) (g : JFrame) : Prop :=
  ∃ s₂ o, Steps p.tables e below (T.setTop g) s₂ ∧ s₂.status = .running ∧ Ended s₂ below o ∧ ∃ v L, o = .returned v ∧ (Fr n0 L ∧ Q v s₂.heap) ∧ FrameEnd s o s₂ L k n
theorem Ends.step {p : Program} {e : Env} {below : List Frame} {s : State} {n0 : Nat} {Q : Option Value → Heap → Prop} {k n : Nat} {T T' : State} {g g' : JFrame} (K : Ends p e below s n0 Q k n T' g') (f : ∀ t, Steps p.tables e below (T'.setTop g') t → Steps p.tables e below (T.setTop g) t) : Ends p e below s n0 Q k n T g := by
  obtain ⟨s2, o, h, r⟩ := K
  exact ⟨s2, o, f _ h, r⟩
/-- what is the same through a whole body -/
def Cx (Z : State) (mn : MethodName) (code : ByteArray) (maxL : Nat) (ret : Option FieldType) (p : Program) (s : State) (m : MethodId) (meth : Method) (c : Code) : Prop :=
  p.tables.exec = Jvm.exec ∧ Z.Warmed39 s.vm ∧ c.code = code ∧ c.maxLocals = maxL ∧ s.vm.findClass mn.cls = some m.cls ∧ meth.sig.returnType = ret ∧ meth.locks = false ∧ meth.name = mn.name
/-- from this pc, these locals and this stack, over the heap h, at most k cells and n slots made so far, the body ends as Q says -/
def Go (l : Launch) (Z : State) (mn : MethodName) (code : ByteArray) (maxL : Nat) (ret : Option FieldType) (R : Room) (n0 : Nat) (Q : Option Value → Heap → Prop) (h : Heap) (k n : Nat) (pc : Nat) (Ls : Array Slot) (st : List Value) : Prop :=
  ∀ (p : Program) (e : Env) (s : State) (m : MethodId) (args : Array Value) (below : List Frame) (meth : Method) (c : Code) (T : State) (locs : List Loc) (k' n' : Nat),
    Cx Z mn code maxL ret p s m meth c → Stand p l e R s m args below meth c T locs k' n' → k' ≤ k → n' ≤ n → Fr n0 locs → T.heap = h → Ends p e below s n0 Q R.cells R.slots T (mkF m pc Ls st)
/-- the answer of a body that returns a value | nothing -/
def RV (P : Value → Heap → Prop) : Option Value → Heap → Prop := fun v h => ∃ w, v = some w ∧ P w h
def RN (P : Heap → Prop) : Option Value → Heap → Prop := fun v h => v = none ∧ P h
section Laws
variable {l : Launch} {Z : State} {mn : MethodName} {code : ByteArray} {maxL : Nat} {ret : Option FieldType} {R : Room} {n0 : Nat} {Q : Option Value → Heap → Prop} {h : Heap} {k n pc q : Nat} {Ls Ls' : Array Slot} {st st' : List Value} {a0 : Array Value}
theorem Go.plain (K : Go l Z mn code maxL ret R n0 Q h k n q Ls' st') (f : ∀ (p : Program) (e : Env) (s : State) (m : MethodId) (args : Array Value) (below : List Frame) (meth : Method) (c : Code) (T : State) (locs : List Loc) (k' n' : Nat), p.tables.exec = Jvm.exec → c.code = code → Stand p l e R s m args below meth c T locs k' n' → ∀ t, Steps p.tables e below (T.setTop (mkF m q Ls' st')) t → Steps p.tables e below (T.setTop (mkF m pc Ls st)) t) : Go l Z mn code maxL ret R n0 Q h k n pc Ls st :=
  fun p e s m args below meth c T locs k' n' C X hk hn N eT => (K p e s m args below meth c T locs k' n' C X hk hn N eT).step (f p e s m args below meth c T locs k' n' C.1 C.2.2.1 X)
theorem Go.mono {k1 n1 : Nat} (K : Go l Z mn code maxL ret R n0 Q h k n pc Ls st) (h1 : k1 ≤ k) (h2 : n1 ≤ n) : Go l Z mn code maxL ret R n0 Q h k1 n1 pc Ls st :=
  fun p e s m args below meth c T locs k' n' C X hk hn N eT => K p e s m args below meth c T locs k' n' C X (Nat.le_trans hk h1) (Nat.le_trans hn h2) N eT
theorem Go.imp {Q' : Option Value → Heap → Prop} (K : Go l Z mn code maxL ret R n0 Q h k n pc Ls st) (f : ∀ v h, Q v h → Q' v h) : Go l Z mn code maxL ret R n0 Q' h k n pc Ls st :=
  fun p e s m args below meth c T locs k' n' C X hk hn N eT => by
    obtain ⟨s2, o, h1, h2, h3, v, L, h4, h5, h6⟩ := K p e s m args below meth c T locs k' n' C X hk hn N eT
    exact ⟨s2, o, h1, h2, h3, v, L, h4, ⟨h5.1, f _ _ h5.2⟩, h6⟩
theorem Go.met {as : Array Value} (pn : plainName mn.cls = true) (hef : ∀ m, entryFrame m as maxL = mkF m 0 Ls []) (G : Go l Z mn code maxL ret R n0 Q h 0 0 0 Ls []) (ws : List Jvm.Cond) :
    MetFree l mn (head1 (Jvm.Cond.code mn code maxL ret :: ws) R) (fun a U => a = as ∧ Z.Warmed39 U.vm ∧ U.heap = h) (fun _ _ _ _ _ => True) (fun _ U o U' => ∃ v L, o = .returned v ∧ (Fr n0 L ∧ Q v U'.heap) ∧ FrameEnd U o U' L R.cells R.slots) := by
  refine MetFree.of_bodySF (plainFor_of_name pn) hisR ?_
  intro p e s m args below meth c s₁ Bd hml0 hP hK
  obtain ⟨rfl, hZ, hh⟩ := hP
  have e0 : s₁.heap = h := by rw [← hh, Bd.state]; rfl
  rw [hef]
  exact G p e s m _ below meth c s₁ [] 0 0 ⟨Bd.exec, hZ, Bd.bytes, hml0, findClass_of_methodNamed Bd.named, Bd.returns, BodyLoose.notSynchronized Bd, (name_of_methodNamed Bd.named Bd.method).1⟩ (Stand.of_body Bd) (Nat.le_refl _) (Nat.le_refl _) (Fr.nil n0) e0

theorem Go.iloadN {i : Fin 4} {v : Int32} (hd : decode code pc = .ok (.iload_n i, 1)) (hq : q = pc + 1) (hl : Ls[i.val]? = some (.val (.int v))) (K : Go l Z mn code maxL ret R n0 Q h k n q Ls (.int v :: st)) : Go l Z mn code maxL ret R n0 Q h k n pc Ls (st) := by
  subst hq
  exact K.plain fun p e s m args below meth c T locs k' n' hx hby X t r => XS.iloadN X.here hx rfl (hb hby hd) hl r
theorem Go.iload {i : Nat} {v : Int32} (hd : decode code pc = .ok (.iload i, 2)) (hq : q = pc + 2) (hl : Ls[i]? = some (.val (.int v))) (K : Go l Z mn code maxL ret R n0 Q h k n q Ls (.int v :: st)) : Go l Z mn code maxL ret R n0 Q h k n pc Ls (st) := by
  subst hq
  exact K.plain fun p e s m args below meth c T locs k' n' hx hby X t r => XS.iload X.here hx rfl (hb hby hd) hl r
theorem Go.lloadN {i : Fin 4} {v : Int64} (hd : decode code pc = .ok (.lload_n i, 1)) (hq : q = pc + 1) (hl : Ls[i.val]? = some (.val (.long v))) (K : Go l Z mn code maxL ret R n0 Q h k n q Ls (.long v :: st)) : Go l Z mn code maxL ret R n0 Q h k n pc Ls (st) := by
  subst hq
  exact K.plain fun p e s m args below meth c T locs k' n' hx hby X t r => XT.lloadN X.here hx rfl (hb hby hd) hl r
theorem Go.lload {i : Nat} {v : Int64} (hd : decode code pc = .ok (.lload i, 2)) (hq : q = pc + 2) (hl : Ls[i]? = some (.val (.long v))) (K : Go l Z mn code maxL ret R n0 Q h k n q Ls (.long v :: st)) : Go l Z mn code maxL ret R n0 Q h k n pc Ls (st) := by
  subst hq
  exact K.plain fun p e s m args below meth c T locs k' n' hx hby X t r => XT.lload X.here hx rfl (hb hby hd) hl r
theorem Go.aloadN {i : Fin 4} {v : Value} (hd : decode code pc = .ok (.aload_n i, 1)) (hq : q = pc + 1) (hl : Ls[i.val]? = some (.val v)) (hv : v.isRef = true) (K : Go l Z mn code maxL ret R n0 Q h k n q Ls (v :: st)) : Go l Z mn code maxL ret R n0 Q h k n pc Ls (st) := by
  subst hq
  exact K.plain fun p e s m args below meth c T locs k' n' hx hby X t r => XS.aloadN X.here hx rfl (hb hby hd) hl hv r
theorem Go.aload {i : Nat} {v : Value} (hd : decode code pc = .ok (.aload i, 2)) (hq : q = pc + 2) (hl : Ls[i]? = some (.val v)) (hv : v.isRef = true) (K : Go l Z mn code maxL ret R n0 Q h k n q Ls (v :: st)) : Go l Z mn code maxL ret R n0 Q h k n pc Ls (st) := by
  subst hq
  exact K.plain fun p e s m args below meth c T locs k' n' hx hby X t r => XS.aload X.here hx rfl (hb hby hd) hl hv r
theorem Go.istoreN {i : Fin 4} {v : Int32} (hd : decode code pc = .ok (.istore_n i, 1)) (hq : q = pc + 1) (hl : storeLocals Ls i.val (.int v) = some Ls') (K : Go l Z mn code maxL ret R n0 Q h k n q Ls' (st)) : Go l Z mn code maxL ret R n0 Q h k n pc Ls (.int v :: st) := by
  subst hq
  exact K.plain fun p e s m args below meth c T locs k' n' hx hby X t r => XS.istoreN X.here hx rfl (hb hby hd) rfl hl r
theorem Go.istore {i : Nat} {v : Int32} (hd : decode code pc = .ok (.istore i, 2)) (hq : q = pc + 2) (hl : storeLocals Ls i (.int v) = some Ls') (K : Go l Z mn code maxL ret R n0 Q h k n q Ls' (st)) : Go l Z mn code maxL ret R n0 Q h k n pc Ls (.int v :: st) := by
  subst hq
  exact K.plain fun p e s m args below meth c T locs k' n' hx hby X t r => XS.istore X.here hx rfl (hb hby hd) rfl hl r
theorem Go.lstoreN {i : Fin 4} {v : Int64} (hd : decode code pc = .ok (.lstore_n i, 1)) (hq : q = pc + 1) (hl : storeLocals Ls i.val (.long v) = some Ls') (K : Go l Z mn code maxL ret R n0 Q h k n q Ls' (st)) : Go l Z mn code maxL ret R n0 Q h k n pc Ls (.long v :: st) := by
  subst hq
  exact K.plain fun p e s m args below meth c T locs k' n' hx hby X t r => XT.lstoreN X.here hx rfl (hb hby hd) rfl hl r
theorem Go.lstore {i : Nat} {v : Int64} (hd : decode code pc = .ok (.lstore i, 2)) (hq : q = pc + 2) (hl : storeLocals Ls i (.long v) = some Ls') (K : Go l Z mn code maxL ret R n0 Q h k n q Ls' (st)) : Go l Z mn code maxL ret R n0 Q h k n pc Ls (.long v :: st) := by
  subst hq
  exact K.plain fun p e s m args below meth c T locs k' n' hx hby X t r => XT.lstore X.here hx rfl (hb hby hd) rfl hl r
theorem Go.astoreN {i : Fin 4} {v : Value} (hd : decode code pc = .ok (.astore_n i, 1)) (hq : q = pc + 1) (hv : v.isRef = true) (hl : storeLocals Ls i.val v = some Ls') (K : Go l Z mn code maxL ret R n0 Q h k n q Ls' (st)) : Go l Z mn code maxL ret R n0 Q h k n pc Ls (v :: st) := by
  subst hq
  exact K.plain fun p e s m args below meth c T locs k' n' hx hby X t r => XS.astoreN X.here hx rfl (hb hby hd) rfl hv hl r
theorem Go.astore {i : Nat} {v : Value} (hd : decode code pc = .ok (.astore i, 2)) (hq : q = pc + 2) (hv : v.isRef = true) (hl : storeLocals Ls i v = some Ls') (K : Go l Z mn code maxL ret R n0 Q h k n q Ls' (st)) : Go l Z mn code maxL ret R n0 Q h k n pc Ls (v :: st) := by
  subst hq
  exact K.plain fun p e s m args below meth c T locs k' n' hx hby X t r => XS.astore X.here hx rfl (hb hby hd) rfl hv hl r
theorem Go.iconst {i : Int} {x : Int32} (hd : decode code pc = .ok (.iconst i, 1)) (hq : q = pc + 1) (hi : Int32.ofInt i = x) (K : Go l Z mn code maxL ret R n0 Q h k n q Ls (.int x :: st)) : Go l Z mn code maxL ret R n0 Q h k n pc Ls (st) := by
  subst hq
  exact K.plain fun p e s m args below meth c T locs k' n' hx hby X t r => XS.iconst X.here hx rfl (hb hby hd) (by rw [hi]; exact r)
theorem Go.bipush {i : Int} {x : Int32} (hd : decode code pc = .ok (.bipush i, 2)) (hq : q = pc + 2) (hi : (Int8.ofInt i).toInt32 = x) (K : Go l Z mn code maxL ret R n0 Q h k n q Ls (.int x :: st)) : Go l Z mn code maxL ret R n0 Q h k n pc Ls (st) := by
  subst hq
  exact K.plain fun p e s m args below meth c T locs k' n' hx hby X t r => XS.bipush X.here hx rfl (hb hby hd) (by rw [hi]; exact r)
theorem Go.sipush {i : Int} {x : Int32} (hd : decode code pc = .ok (.sipush i, 3)) (hq : q = pc + 3) (hi : (Int16.ofInt i).toInt32 = x) (K : Go l Z mn code maxL ret R n0 Q h k n q Ls (.int x :: st)) : Go l Z mn code maxL ret R n0 Q h k n pc Ls (st) := by
  subst hq
  exact K.plain fun p e s m args below meth c T locs k' n' hx hby X t r => XS.sipush X.here hx rfl (hb hby hd) (by rw [hi]; exact r)
theorem Go.lconst {i : Fin 2} {x : Int64} (hd : decode code pc = .ok (.lconst i, 1)) (hq : q = pc + 1) (hi : Int64.ofNat i = x) (K : Go l Z mn code maxL ret R n0 Q h k n q Ls (.long x :: st)) : Go l Z mn code maxL ret R n0 Q h k n pc Ls (st) := by
  subst hq
  exact K.plain fun p e s m args below meth c T locs k' n' hx hby X t r => XT.lconst X.here hx rfl (hb hby hd) (by rw [hi]; exact r)
theorem Go.aconstNull (hd : decode code pc = .ok (.aconst_null, 1)) (hq : q = pc + 1) (K : Go l Z mn code maxL ret R n0 Q h k n q Ls (.null :: st)) : Go l Z mn code maxL ret R n0 Q h k n pc Ls (st) := by
  subst hq
  exact K.plain fun p e s m args below meth c T locs k' n' hx hby X t r => XS.aconstNull X.here hx rfl (hb hby hd) r
theorem Go.iadd {x y : Int32} (hd : decode code pc = .ok (.iadd, 1)) (hq : q = pc + 1) (K : Go l Z mn code maxL ret R n0 Q h k n q Ls (.int (x + y) :: st)) : Go l Z mn code maxL ret R n0 Q h k n pc Ls (.int y :: .int x :: st) := by
  subst hq
  exact K.plain fun p e s m args below meth c T locs k' n' hx hby X t r => XS.iadd X.here hx rfl (hb hby hd) rfl r
theorem Go.isub {x y : Int32} (hd : decode code pc = .ok (.isub, 1)) (hq : q = pc + 1) (K : Go l Z mn code maxL ret R n0 Q h k n q Ls (.int (x - y) :: st)) : Go l Z mn code maxL ret R n0 Q h k n pc Ls (.int y :: .int x :: st) := by
  subst hq
  exact K.plain fun p e s m args below meth c T locs k' n' hx hby X t r => XS.isub X.here hx rfl (hb hby hd) rfl r
theorem Go.iand {x y : Int32} (hd : decode code pc = .ok (.iand, 1)) (hq : q = pc + 1) (K : Go l Z mn code maxL ret R n0 Q h k n q Ls (.int (x &&& y) :: st)) : Go l Z mn code maxL ret R n0 Q h k n pc Ls (.int y :: .int x :: st) := by
  subst hq
  exact K.plain fun p e s m args below meth c T locs k' n' hx hby X t r => XS.iand X.here hx rfl (hb hby hd) rfl r
theorem Go.imul {x y : Int32} (hd : decode code pc = .ok (.imul, 1)) (hq : q = pc + 1) (K : Go l Z mn code maxL ret R n0 Q h k n q Ls (.int (x * y) :: st)) : Go l Z mn code maxL ret R n0 Q h k n pc Ls (.int y :: .int x :: st) := by
  subst hq
  exact K.plain fun p e s m args below meth c T locs k' n' hx hby X t r => XS.imul X.here hx rfl (hb hby hd) rfl r
theorem Go.ixor {x y : Int32} (hd : decode code pc = .ok (.ixor, 1)) (hq : q = pc + 1) (K : Go l Z mn code maxL ret R n0 Q h k n q Ls (.int (x ^^^ y) :: st)) : Go l Z mn code maxL ret R n0 Q h k n pc Ls (.int y :: .int x :: st) := by
  subst hq
  exact K.plain fun p e s m args below meth c T locs k' n' hx hby X t r => XT.ixor X.here hx rfl (hb hby hd) rfl r
theorem Go.ior {x y : Int32} (hd : decode code pc = .ok (.ior, 1)) (hq : q = pc + 1) (K : Go l Z mn code maxL ret R n0 Q h k n q Ls (.int (x ||| y) :: st)) : Go l Z mn code maxL ret R n0 Q h k n pc Ls (.int y :: .int x :: st) := by
  subst hq
  exact K.plain fun p e s m args below meth c T locs k' n' hx hby X t r => XT.ior X.here hx rfl (hb hby hd) rfl r
theorem Go.ishl {x y : Int32} (hd : decode code pc = .ok (.ishl, 1)) (hq : q = pc + 1) (K : Go l Z mn code maxL ret R n0 Q h k n q Ls (.int (x <<< (y &&& 31)) :: st)) : Go l Z mn code maxL ret R n0 Q h k n pc Ls (.int y :: .int x :: st) := by
  subst hq
  exact K.plain fun p e s m args below meth c T locs k' n' hx hby X t r => XT.ishl X.here hx rfl (hb hby hd) rfl r
theorem Go.ishr {x y : Int32} (hd : decode code pc = .ok (.ishr, 1)) (hq : q = pc + 1) (K : Go l Z mn code maxL ret R n0 Q h k n q Ls (.int (x >>> (y &&& 31)) :: st)) : Go l Z mn code maxL ret R n0 Q h k n pc Ls (.int y :: .int x :: st) := by
  subst hq
  exact K.plain fun p e s m args below meth c T locs k' n' hx hby X t r => XT.ishr X.here hx rfl (hb hby hd) rfl r
theorem Go.iushr {x y : Int32} (hd : decode code pc = .ok (.iushr, 1)) (hq : q = pc + 1) (K : Go l Z mn code maxL ret R n0 Q h k n q Ls (.int (XT.ushr x y) :: st)) : Go l Z mn code maxL ret R n0 Q h k n pc Ls (.int y :: .int x :: st) := by
  subst hq
  exact K.plain fun p e s m args below meth c T locs k' n' hx hby X t r => XT.iushr X.here hx rfl (hb hby hd) rfl r
theorem Go.ladd {x y : Int64} (hd : decode code pc = .ok (.ladd, 1)) (hq : q = pc + 1) (K : Go l Z mn code maxL ret R n0 Q h k n q Ls (.long (x + y) :: st)) : Go l Z mn code maxL ret R n0 Q h k n pc Ls (.long y :: .long x :: st) := by
  subst hq
  exact K.plain fun p e s m args below meth c T locs k' n' hx hby X t r => XT.ladd X.here hx rfl (hb hby hd) rfl r
theorem Go.lsub {x y : Int64} (hd : decode code pc = .ok (.lsub, 1)) (hq : q = pc + 1) (K : Go l Z mn code maxL ret R n0 Q h k n q Ls (.long (x - y) :: st)) : Go l Z mn code maxL ret R n0 Q h k n pc Ls (.long y :: .long x :: st) := by
  subst hq
  exact K.plain fun p e s m args below meth c T locs k' n' hx hby X t r => XT.lsub X.here hx rfl (hb hby hd) rfl r
theorem Go.lmul {x y : Int64} (hd : decode code pc = .ok (.lmul, 1)) (hq : q = pc + 1) (K : Go l Z mn code maxL ret R n0 Q h k n q Ls (.long (x * y) :: st)) : Go l Z mn code maxL ret R n0 Q h k n pc Ls (.long y :: .long x :: st) := by
  subst hq
  exact K.plain fun p e s m args below meth c T locs k' n' hx hby X t r => XT.lmul X.here hx rfl (hb hby hd) rfl r
theorem Go.land {x y : Int64} (hd : decode code pc = .ok (.land, 1)) (hq : q = pc + 1) (K : Go l Z mn code maxL ret R n0 Q h k n q Ls (.long (x &&& y) :: st)) : Go l Z mn code maxL ret R n0 Q h k n pc Ls (.long y :: .long x :: st) := by
  subst hq
  exact K.plain fun p e s m args below meth c T locs k' n' hx hby X t r => XT.land X.here hx rfl (hb hby hd) rfl r
theorem Go.lor {x y : Int64} (hd : decode code pc = .ok (.lor, 1)) (hq : q = pc + 1) (K : Go l Z mn code maxL ret R n0 Q h k n q Ls (.long (x ||| y) :: st)) : Go l Z mn code maxL ret R n0 Q h k n pc Ls (.long y :: .long x :: st) := by
  subst hq
  exact K.plain fun p e s m args below meth c T locs k' n' hx hby X t r => XT.lor X.here hx rfl (hb hby hd) rfl r
theorem Go.lxor {x y : Int64} (hd : decode code pc = .ok (.lxor, 1)) (hq : q = pc + 1) (K : Go l Z mn code maxL ret R n0 Q h k n q Ls (.long (x ^^^ y) :: st)) : Go l Z mn code maxL ret R n0 Q h k n pc Ls (.long y :: .long x :: st) := by
  subst hq
  exact K.plain fun p e s m args below meth c T locs k' n' hx hby X t r => XT.lxor X.here hx rfl (hb hby hd) rfl r
theorem Go.lshl {x : Int64} {y : Int32} (hd : decode code pc = .ok (.lshl, 1)) (hq : q = pc + 1) (K : Go l Z mn code maxL ret R n0 Q h k n q Ls (.long (x <<< (y.toInt64 &&& 63)) :: st)) : Go l Z mn code maxL ret R n0 Q h k n pc Ls (.int y :: .long x :: st) := by
  subst hq
  exact K.plain fun p e s m args below meth c T locs k' n' hx hby X t r => XT.lshl X.here hx rfl (hb hby hd) rfl r
theorem Go.lshr {x : Int64} {y : Int32} (hd : decode code pc = .ok (.lshr, 1)) (hq : q = pc + 1) (K : Go l Z mn code maxL ret R n0 Q h k n q Ls (.long (x >>> (y.toInt64 &&& 63)) :: st)) : Go l Z mn code maxL ret R n0 Q h k n pc Ls (.int y :: .long x :: st) := by
  subst hq
  exact K.plain fun p e s m args below meth c T locs k' n' hx hby X t r => XT.lshr X.here hx rfl (hb hby hd) rfl r
theorem Go.lushr {x : Int64} {y : Int32} (hd : decode code pc = .ok (.lushr, 1)) (hq : q = pc + 1) (K : Go l Z mn code maxL ret R n0 Q h k n q Ls (.long (XT.ushrL x y) :: st)) : Go l Z mn code maxL ret R n0 Q h k n pc Ls (.int y :: .long x :: st) := by
  subst hq
  exact K.plain fun p e s m args below meth c T locs k' n' hx hby X t r => XT.lushr X.here hx rfl (hb hby hd) rfl r
theorem Go.idiv {x y : Int32} (hd : decode code pc = .ok (.idiv, 1)) (hq : q = pc + 1) (hy : y ≠ 0) (K : Go l Z mn code maxL ret R n0 Q h k n q Ls (.int (x / y) :: st)) : Go l Z mn code maxL ret R n0 Q h k n pc Ls (.int y :: .int x :: st) := by
  subst hq
  exact K.plain fun p e s m args below meth c T locs k' n' hx hby X t r => XS.idiv X.here hx rfl (hb hby hd) rfl hy r
theorem Go.irem {x y : Int32} (hd : decode code pc = .ok (.irem, 1)) (hq : q = pc + 1) (hy : y ≠ 0) (K : Go l Z mn code maxL ret R n0 Q h k n q Ls (.int (x % y) :: st)) : Go l Z mn code maxL ret R n0 Q h k n pc Ls (.int y :: .int x :: st) := by
  subst hq
  exact K.plain fun p e s m args below meth c T locs k' n' hx hby X t r => XS.irem X.here hx rfl (hb hby hd) rfl hy (by rw [irem_eq_mod]; exact r)
theorem Go.lrem {x y : Int64} (hd : decode code pc = .ok (.lrem, 1)) (hq : q = pc + 1) (hy : y ≠ 0) (K : Go l Z mn code maxL ret R n0 Q h k n q Ls (.long (x % y) :: st)) : Go l Z mn code maxL ret R n0 Q h k n pc Ls (.long y :: .long x :: st) := by
  subst hq
  exact K.plain fun p e s m args below meth c T locs k' n' hx hby X t r => XT.lrem X.here hx rfl (hb hby hd) rfl hy (by rw [lrem_mod]; exact r)
theorem Go.ineg {x : Int32} (hd : decode code pc = .ok (.ineg, 1)) (hq : q = pc + 1) (K : Go l Z mn code maxL ret R n0 Q h k n q Ls (.int (-x) :: st)) : Go l Z mn code maxL ret R n0 Q h k n pc Ls (.int x :: st) := by
  subst hq
  exact K.plain fun p e s m args below meth c T locs k' n' hx hby X t r => XS.ineg X.here hx rfl (hb hby hd) rfl r
theorem Go.lneg {x : Int64} (hd : decode code pc = .ok (.lneg, 1)) (hq : q = pc + 1) (K : Go l Z mn code maxL ret R n0 Q h k n q Ls (.long (-x) :: st)) : Go l Z mn code maxL ret R n0 Q h k n pc Ls (.long x :: st) := by
  subst hq
  exact K.plain fun p e s m args below meth c T locs k' n' hx hby X t r => XT.lneg X.here hx rfl (hb hby hd) rfl r
theorem Go.i2l {x : Int32} (hd : decode code pc = .ok (.i2l, 1)) (hq : q = pc + 1) (K : Go l Z mn code maxL ret R n0 Q h k n q Ls (.long x.toInt64 :: st)) : Go l Z mn code maxL ret R n0 Q h k n pc Ls (.int x :: st) := by
  subst hq
  exact K.plain fun p e s m args below meth c T locs k' n' hx hby X t r => XT.i2l X.here hx rfl (hb hby hd) rfl r
theorem Go.l2i {x : Int64} (hd : decode code pc = .ok (.l2i, 1)) (hq : q = pc + 1) (K : Go l Z mn code maxL ret R n0 Q h k n q Ls (.int x.toInt32 :: st)) : Go l Z mn code maxL ret R n0 Q h k n pc Ls (.long x :: st) := by
  subst hq
  exact K.plain fun p e s m args below meth c T locs k' n' hx hby X t r => XT.l2i X.here hx rfl (hb hby hd) rfl r
theorem Go.i2b {x : Int32} (hd : decode code pc = .ok (.i2b, 1)) (hq : q = pc + 1) (K : Go l Z mn code maxL ret R n0 Q h k n q Ls (.int x.toInt8.toInt32 :: st)) : Go l Z mn code maxL ret R n0 Q h k n pc Ls (.int x :: st) := by
  subst hq
  exact K.plain fun p e s m args below meth c T locs k' n' hx hby X t r => XT.i2b X.here hx rfl (hb hby hd) rfl r
theorem Go.i2s {x : Int32} (hd : decode code pc = .ok (.i2s, 1)) (hq : q = pc + 1) (K : Go l Z mn code maxL ret R n0 Q h k n q Ls (.int x.toInt16.toInt32 :: st)) : Go l Z mn code maxL ret R n0 Q h k n pc Ls (.int x :: st) := by
  subst hq
  exact K.plain fun p e s m args below meth c T locs k' n' hx hby X t r => XT.i2s X.here hx rfl (hb hby hd) rfl r
theorem Go.i2c {x : Int32} (hd : decode code pc = .ok (.i2c, 1)) (hq : q = pc + 1) (K : Go l Z mn code maxL ret R n0 Q h k n q Ls (.int x.toUInt32.toUInt16.toUInt32.toInt32 :: st)) : Go l Z mn code maxL ret R n0 Q h k n pc Ls (.int x :: st) := by
  subst hq
  exact K.plain fun p e s m args below meth c T locs k' n' hx hby X t r => XT.i2c X.here hx rfl (hb hby hd) rfl r
theorem Go.lcmp {x y : Int64} (hd : decode code pc = .ok (.lcmp, 1)) (hq : q = pc + 1) (K : Go l Z mn code maxL ret R n0 Q h k n q Ls (.int (XT.cmpL x y) :: st)) : Go l Z mn code maxL ret R n0 Q h k n pc Ls (.long y :: .long x :: st) := by
  subst hq
  exact K.plain fun p e s m args below meth c T locs k' n' hx hby X t r => XT.lcmp X.here hx rfl (hb hby hd) rfl r
theorem Go.iinc {i : Nat} {cst : Int} {x w : Int32} (hd : decode code pc = .ok (.iinc i cst, 3)) (hq : q = pc + 3) (hl : Ls[i]? = some (.val (.int x))) (hw : x + Int32.ofInt cst = w) (hl' : storeLocals Ls i (.int w) = some Ls') (K : Go l Z mn code maxL ret R n0 Q h k n q Ls' (st)) : Go l Z mn code maxL ret R n0 Q h k n pc Ls (st) := by
  subst hq
  exact K.plain fun p e s m args below meth c T locs k' n' hx hby X t r => XS.iinc X.here hx rfl (hb hby hd) hl (by rw [hw]; exact hl') r
theorem Go.dup {v : Value} (hd : decode code pc = .ok (.dup, 1)) (hq : q = pc + 1) (hc : v.category = 1) (K : Go l Z mn code maxL ret R n0 Q h k n q Ls (v :: v :: st)) : Go l Z mn code maxL ret R n0 Q h k n pc Ls (v :: st) := by
  subst hq
  exact K.plain fun p e s m args below meth c T locs k' n' hx hby X t r => XS.dup X.here hx rfl (hb hby hd) rfl hc r
theorem Go.pop {v : Value} (hd : decode code pc = .ok (.pop, 1)) (hq : q = pc + 1) (hc : v.category = 1) (K : Go l Z mn code maxL ret R n0 Q h k n q Ls (st)) : Go l Z mn code maxL ret R n0 Q h k n pc Ls (v :: st) := by
  subst hq
  exact K.plain fun p e s m args below meth c T locs k' n' hx hby X t r => XT.pop X.here hx rfl (hb hby hd) rfl hc r
theorem Go.dupX1 {v w : Value} (hd : decode code pc = .ok (.dup_x1, 1)) (hq : q = pc + 1) (hc : v.category = 1) (hc' : w.category = 1) (K : Go l Z mn code maxL ret R n0 Q h k n q Ls (v :: w :: v :: st)) : Go l Z mn code maxL ret R n0 Q h k n pc Ls (v :: w :: st) := by
  subst hq
  exact K.plain fun p e s m args below meth c T locs k' n' hx hby X t r => XT.dupX1 X.here hx rfl (hb hby hd) rfl hc hc' r
theorem Go.dup2 {v w : Value} (hd : decode code pc = .ok (.dup2, 1)) (hq : q = pc + 1) (hc : v.category = 1) (hc' : w.category = 1) (K : Go l Z mn code maxL ret R n0 Q h k n q Ls (v :: w :: v :: w :: st)) : Go l Z mn code maxL ret R n0 Q h k n pc Ls (v :: w :: st) := by
  subst hq
  exact K.plain fun p e s m args below meth c T locs k' n' hx hby X t r => XT.dup2 X.here hx rfl (hb hby hd) rfl hc hc' r
theorem Go.dup2L {x : Int64} (hd : decode code pc = .ok (.dup2, 1)) (hq : q = pc + 1) (K : Go l Z mn code maxL ret R n0 Q h k n q Ls (.long x :: .long x :: st)) : Go l Z mn code maxL ret R n0 Q h k n pc Ls (.long x :: st) := by
  subst hq
  exact K.plain fun p e s m args below meth c T locs k' n' hx hby X t r => XT.dup2L X.here hx rfl (hb hby hd) rfl r
theorem Go.goto {o : Int} (hd : decode code pc = .ok (.goto o, 3)) (ho : 0 ≤ (pc : Int) + o) (hq : ((pc : Int) + o).toNat = q) (K : Go l Z mn code maxL ret R n0 Q h k n q Ls st) : Go l Z mn code maxL ret R n0 Q h k n pc Ls st :=
  K.plain fun p e s m args below meth c T locs k' n' hx hby X t r => XS.goto X.here hx rfl rfl (hb hby hd) ho hq r
theorem Go.icmp_eq {x y' : Int32} {o : Int} {q' : Nat} (hd : decode code pc = .ok (.if_icmp .eq o, 3)) (ho : 0 ≤ (pc : Int) + o) (hq : ((pc : Int) + o).toNat = q) (hq' : q' = pc + 3) (K1 : x = y' → Go l Z mn code maxL ret R n0 Q h k n q Ls st) (K2 : ¬ x = y' → Go l Z mn code maxL ret R n0 Q h k n q' Ls st) : Go l Z mn code maxL ret R n0 Q h k n pc Ls (.int y' :: .int x :: st) := by
  subst hq'
  by_cases hc : x = y'
  · exact (K1 hc).plain fun p e s m args below meth c T locs k' n' hx hby X t r => XS.icmpYes X.here hx rfl rfl (hb hby hd) rfl (teq hc).1 ho hq r
  · exact (K2 (hc)).plain fun p e s m args below meth c T locs k' n' hx hby X t r => XS.icmpNo X.here hx rfl (hb hby hd) rfl (feq (hc)).1 r
theorem Go.if_eq {x : Int32} {o : Int} {q' : Nat} (hd : decode code pc = .ok (.ifCond .eq o, 3)) (ho : 0 ≤ (pc : Int) + o) (hq : ((pc : Int) + o).toNat = q) (hq' : q' = pc + 3) (K1 : x = 0 → Go l Z mn code maxL ret R n0 Q h k n q Ls st) (K2 : ¬ x = 0 → Go l Z mn code maxL ret R n0 Q h k n q' Ls st) : Go l Z mn code maxL ret R n0 Q h k n pc Ls (.int x :: st) := by
  subst hq'
  by_cases hc : x = 0
  · exact (K1 hc).plain fun p e s m args below meth c T locs k' n' hx hby X t r => XS.ifYes X.here hx rfl rfl (hb hby hd) rfl ((if0 _ _).trans (teq hc).1) ho hq r
  · exact (K2 (hc)).plain fun p e s m args below meth c T locs k' n' hx hby X t r => XS.ifNo X.here hx rfl (hb hby hd) rfl ((if0 _ _).trans (feq (hc)).1) r
theorem Go.icmp_ne {x y' : Int32} {o : Int} {q' : Nat} (hd : decode code pc = .ok (.if_icmp .ne o, 3)) (ho : 0 ≤ (pc : Int) + o) (hq : ((pc : Int) + o).toNat = q) (hq' : q' = pc + 3) (K1 : ¬ x = y' → Go l Z mn code maxL ret R n0 Q h k n q Ls st) (K2 : x = y' → Go l Z mn code maxL ret R n0 Q h k n q' Ls st) : Go l Z mn code maxL ret R n0 Q h k n pc Ls (.int y' :: .int x :: st) := by
  subst hq'
  by_cases hc : ¬ x = y'
  · exact (K1 hc).plain fun p e s m args below meth c T locs k' n' hx hby X t r => XS.icmpYes X.here hx rfl rfl (hb hby hd) rfl (feq hc).2 ho hq r
  · exact (K2 (Decidable.not_not.mp hc)).plain fun p e s m args below meth c T locs k' n' hx hby X t r => XS.icmpNo X.here hx rfl (hb hby hd) rfl (teq (Decidable.not_not.mp hc)).2 r
theorem Go.if_ne {x : Int32} {o : Int} {q' : Nat} (hd : decode code pc = .ok (.ifCond .ne o, 3)) (ho : 0 ≤ (pc : Int) + o) (hq : ((pc : Int) + o).toNat = q) (hq' : q' = pc + 3) (K1 : ¬ x = 0 → Go l Z mn code maxL ret R n0 Q h k n q Ls st) (K2 : x = 0 → Go l Z mn code maxL ret R n0 Q h k n q' Ls st) : Go l Z mn code maxL ret R n0 Q h k n pc Ls (.int x :: st) := by
  subst hq'
  by_cases hc : ¬ x = 0
  · exact (K1 hc).plain fun p e s m args below meth c T locs k' n' hx hby X t r => XS.ifYes X.here hx rfl rfl (hb hby hd) rfl ((if0 _ _).trans (feq hc).2) ho hq r
  · exact (K2 (Decidable.not_not.mp hc)).plain fun p e s m args below meth c T locs k' n' hx hby X t r => XS.ifNo X.here hx rfl (hb hby hd) rfl ((if0 _ _).trans (teq (Decidable.not_not.mp hc)).2) r
theorem Go.icmp_lt {x y' : Int32} {o : Int} {q' : Nat} (hd : decode code pc = .ok (.if_icmp .lt o, 3)) (ho : 0 ≤ (pc : Int) + o) (hq : ((pc : Int) + o).toNat = q) (hq' : q' = pc + 3) (K1 : x < y' → Go l Z mn code maxL ret R n0 Q h k n q Ls st) (K2 : ¬ x < y' → Go l Z mn code maxL ret R n0 Q h k n q' Ls st) : Go l Z mn code maxL ret R n0 Q h k n pc Ls (.int y' :: .int x :: st) := by
  subst hq'
  by_cases hc : x < y'
  · exact (K1 hc).plain fun p e s m args below meth c T locs k' n' hx hby X t r => XS.icmpYes X.here hx rfl rfl (hb hby hd) rfl (tlt hc).1 ho hq r
  · exact (K2 (hc)).plain fun p e s m args below meth c T locs k' n' hx hby X t r => XS.icmpNo X.here hx rfl (hb hby hd) rfl (flt (hc)).1 r
theorem Go.if_lt {x : Int32} {o : Int} {q' : Nat} (hd : decode code pc = .ok (.ifCond .lt o, 3)) (ho : 0 ≤ (pc : Int) + o) (hq : ((pc : Int) + o).toNat = q) (hq' : q' = pc + 3) (K1 : x < 0 → Go l Z mn code maxL ret R n0 Q h k n q Ls st) (K2 : ¬ x < 0 → Go l Z mn code maxL ret R n0 Q h k n q' Ls st) : Go l Z mn code maxL ret R n0 Q h k n pc Ls (.int x :: st) := by
  subst hq'
  by_cases hc : x < 0
  · exact (K1 hc).plain fun p e s m args below meth c T locs k' n' hx hby X t r => XS.ifYes X.here hx rfl rfl (hb hby hd) rfl ((if0 _ _).trans (tlt hc).1) ho hq r
  · exact (K2 (hc)).plain fun p e s m args below meth c T locs k' n' hx hby X t r => XS.ifNo X.here hx rfl (hb hby hd) rfl ((if0 _ _).trans (flt (hc)).1) r
theorem Go.icmp_ge {x y' : Int32} {o : Int} {q' : Nat} (hd : decode code pc = .ok (.if_icmp .ge o, 3)) (ho : 0 ≤ (pc : Int) + o) (hq : ((pc : Int) + o).toNat = q) (hq' : q' = pc + 3) (K1 : ¬ x < y' → Go l Z mn code maxL ret R n0 Q h k n q Ls st) (K2 : x < y' → Go l Z mn code maxL ret R n0 Q h k n q' Ls st) : Go l Z mn code maxL ret R n0 Q h k n pc Ls (.int y' :: .int x :: st) := by
  subst hq'
  by_cases hc : ¬ x < y'
  · exact (K1 hc).plain fun p e s m args below meth c T locs k' n' hx hby X t r => XS.icmpYes X.here hx rfl rfl (hb hby hd) rfl (flt hc).2.1 ho hq r
  · exact (K2 (Decidable.not_not.mp hc)).plain fun p e s m args below meth c T locs k' n' hx hby X t r => XS.icmpNo X.here hx rfl (hb hby hd) rfl (tlt (Decidable.not_not.mp hc)).2.1 r
theorem Go.if_ge {x : Int32} {o : Int} {q' : Nat} (hd : decode code pc = .ok (.ifCond .ge o, 3)) (ho : 0 ≤ (pc : Int) + o) (hq : ((pc : Int) + o).toNat = q) (hq' : q' = pc + 3) (K1 : ¬ x < 0 → Go l Z mn code maxL ret R n0 Q h k n q Ls st) (K2 : x < 0 → Go l Z mn code maxL ret R n0 Q h k n q' Ls st) : Go l Z mn code maxL ret R n0 Q h k n pc Ls (.int x :: st) := by
  subst hq'
  by_cases hc : ¬ x < 0
  · exact (K1 hc).plain fun p e s m args below meth c T locs k' n' hx hby X t r => XS.ifYes X.here hx rfl rfl (hb hby hd) rfl ((if0 _ _).trans (flt hc).2.1) ho hq r
  · exact (K2 (Decidable.not_not.mp hc)).plain fun p e s m args below meth c T locs k' n' hx hby X t r => XS.ifNo X.here hx rfl (hb hby hd) rfl ((if0 _ _).trans (tlt (Decidable.not_not.mp hc)).2.1) r
theorem Go.icmp_gt {x y' : Int32} {o : Int} {q' : Nat} (hd : decode code pc = .ok (.if_icmp .gt o, 3)) (ho : 0 ≤ (pc : Int) + o) (hq : ((pc : Int) + o).toNat = q) (hq' : q' = pc + 3) (K1 : y' < x → Go l Z mn code maxL ret R n0 Q h k n q Ls st) (K2 : ¬ y' < x → Go l Z mn code maxL ret R n0 Q h k n q' Ls st) : Go l Z mn code maxL ret R n0 Q h k n pc Ls (.int y' :: .int x :: st) := by
  subst hq'
  by_cases hc : y' < x
  · exact (K1 hc).plain fun p e s m args below meth c T locs k' n' hx hby X t r => XS.icmpYes X.here hx rfl rfl (hb hby hd) rfl (tlt hc).2.2.1 ho hq r
  · exact (K2 (hc)).plain fun p e s m args below meth c T locs k' n' hx hby X t r => XS.icmpNo X.here hx rfl (hb hby hd) rfl (flt (hc)).2.2.1 r
theorem Go.if_gt {x : Int32} {o : Int} {q' : Nat} (hd : decode code pc = .ok (.ifCond .gt o, 3)) (ho : 0 ≤ (pc : Int) + o) (hq : ((pc : Int) + o).toNat = q) (hq' : q' = pc + 3) (K1 : 0 < x → Go l Z mn code maxL ret R n0 Q h k n q Ls st) (K2 : ¬ 0 < x → Go l Z mn code maxL ret R n0 Q h k n q' Ls st) : Go l Z mn code maxL ret R n0 Q h k n pc Ls (.int x :: st) := by
  subst hq'
  by_cases hc : 0 < x
  · exact (K1 hc).plain fun p e s m args below meth c T locs k' n' hx hby X t r => XS.ifYes X.here hx rfl rfl (hb hby hd) rfl ((if0 _ _).trans (tlt hc).2.2.1) ho hq r
  · exact (K2 (hc)).plain fun p e s m args below meth c T locs k' n' hx hby X t r => XS.ifNo X.here hx rfl (hb hby hd) rfl ((if0 _ _).trans (flt (hc)).2.2.1) r
theorem Go.icmp_le {x y' : Int32} {o : Int} {q' : Nat} (hd : decode code pc = .ok (.if_icmp .le o, 3)) (ho : 0 ≤ (pc : Int) + o) (hq : ((pc : Int) + o).toNat = q) (hq' : q' = pc + 3) (K1 : ¬ y' < x → Go l Z mn code maxL ret R n0 Q h k n q Ls st) (K2 : y' < x → Go l Z mn code maxL ret R n0 Q h k n q' Ls st) : Go l Z mn code maxL ret R n0 Q h k n pc Ls (.int y' :: .int x :: st) := by
  subst hq'
  by_cases hc : ¬ y' < x
  · exact (K1 hc).plain fun p e s m args below meth c T locs k' n' hx hby X t r => XS.icmpYes X.here hx rfl rfl (hb hby hd) rfl (flt hc).2.2.2 ho hq r
  · exact (K2 (Decidable.not_not.mp hc)).plain fun p e s m args below meth c T locs k' n' hx hby X t r => XS.icmpNo X.here hx rfl (hb hby hd) rfl (tlt (Decidable.not_not.mp hc)).2.2.2 r
theorem Go.if_le {x : Int32} {o : Int} {q' : Nat} (hd : decode code pc = .ok (.ifCond .le o, 3)) (ho : 0 ≤ (pc : Int) + o) (hq : ((pc : Int) + o).toNat = q) (hq' : q' = pc + 3) (K1 : ¬ 0 < x → Go l Z mn code maxL ret R n0 Q h k n q Ls st) (K2 : 0 < x → Go l Z mn code maxL ret R n0 Q h k n q' Ls st) : Go l Z mn code maxL ret R n0 Q h k n pc Ls (.int x :: st) := by
  subst hq'
  by_cases hc : ¬ 0 < x
  · exact (K1 hc).plain fun p e s m args below meth c T locs k' n' hx hby X t r => XS.ifYes X.here hx rfl rfl (hb hby hd) rfl ((if0 _ _).trans (flt hc).2.2.2) ho hq r
  · exact (K2 (Decidable.not_not.mp hc)).plain fun p e s m args below meth c T locs k' n' hx hby X t r => XS.ifNo X.here hx rfl (hb hby hd) rfl ((if0 _ _).trans (tlt (Decidable.not_not.mp hc)).2.2.2) r
theorem Go.ifnull {v : Value} {o : Int} {q' : Nat} (hd : decode code pc = .ok (.ifnull o, 3)) (ho : 0 ≤ (pc : Int) + o) (hq : ((pc : Int) + o).toNat = q) (hq' : q' = pc + 3) (hv : v.isRef = true) (K1 : v = .null → Go l Z mn code maxL ret R n0 Q h k n q Ls st) (K2 : ∀ a, v = .ref a → Go l Z mn code maxL ret R n0 Q h k n q' Ls st) : Go l Z mn code maxL ret R n0 Q h k n pc Ls (v :: st) := by
  subst hq'
  rcases ref_cases hv with rfl | ⟨a, rfl⟩
  · exact (K1 rfl).plain fun p e s m args below meth c T locs k' n' hx hby X t r => XS.ifnullYes X.here hx rfl rfl (hb hby hd) rfl ho hq r
  · exact (K2 a rfl).plain fun p e s m args below meth c T locs k' n' hx hby X t r => XS.ifnullNo X.here hx rfl (hb hby hd) rfl r
theorem Go.ifnonnull {v : Value} {o : Int} {q' : Nat} (hd : decode code pc = .ok (.ifnonnull o, 3)) (ho : 0 ≤ (pc : Int) + o) (hq : ((pc : Int) + o).toNat = q) (hq' : q' = pc + 3) (hv : v.isRef = true) (K1 : ∀ a, v = .ref a → Go l Z mn code maxL ret R n0 Q h k n q Ls st) (K2 : v = .null → Go l Z mn code maxL ret R n0 Q h k n q' Ls st) : Go l Z mn code maxL ret R n0 Q h k n pc Ls (v :: st) := by
  subst hq'
  rcases ref_cases hv with rfl | ⟨a, rfl⟩
  · exact (K2 rfl).plain fun p e s m args below meth c T locs k' n' hx hby X t r => XT.ifnonnullNo X.here hx rfl (hb hby hd) rfl r
  · exact (K1 a rfl).plain fun p e s m args below meth c T locs k' n' hx hby X t r => XT.ifnonnullYes X.here hx rfl rfl (hb hby hd) rfl ho hq r
theorem Go.acmp_eq {v w : Value} {o : Int} {q' : Nat} (hd : decode code pc = .ok (.if_acmp .eq o, 3)) (ho : 0 ≤ (pc : Int) + o) (hq : ((pc : Int) + o).toNat = q) (hq' : q' = pc + 3) (hv : v.isRef = true) (hw : w.isRef = true) (K1 : v = w → Go l Z mn code maxL ret R n0 Q h k n q Ls st) (K2 : ¬ v = w → Go l Z mn code maxL ret R n0 Q h k n q' Ls st) : Go l Z mn code maxL ret R n0 Q h k n pc Ls (w :: v :: st) := by
  subst hq'
  by_cases hc : v = w
  · exact (K1 hc).plain fun p e s m args below meth c T locs k' n' hx hby X t r => RoadKit.acmp X hx rfl hv hw rfl (hb hby hd) rfl (same := true) (by simp [hc]) ho (by simp [acV, hq]) r
  · exact (K2 hc).plain fun p e s m args below meth c T locs k' n' hx hby X t r => RoadKit.acmp X hx rfl hv hw rfl (hb hby hd) rfl (same := false) (by simp [hc]) ho (by simp [acV]) r
theorem Go.acmp_ne {v w : Value} {o : Int} {q' : Nat} (hd : decode code pc = .ok (.if_acmp .ne o, 3)) (ho : 0 ≤ (pc : Int) + o) (hq : ((pc : Int) + o).toNat = q) (hq' : q' = pc + 3) (hv : v.isRef = true) (hw : w.isRef = true) (K1 : ¬ v = w → Go l Z mn code maxL ret R n0 Q h k n q Ls st) (K2 : v = w → Go l Z mn code maxL ret R n0 Q h k n q' Ls st) : Go l Z mn code maxL ret R n0 Q h k n pc Ls (w :: v :: st) := by
  subst hq'
  by_cases hc : v = w
  · exact (K2 hc).plain fun p e s m args below meth c T locs k' n' hx hby X t r => RoadKit.acmp X hx rfl hv hw rfl (hb hby hd) rfl (same := true) (by simp [hc]) ho (by simp [acV]) r
  · exact (K1 hc).plain fun p e s m args below meth c T locs k' n' hx hby X t r => RoadKit.acmp X hx rfl hv hw rfl (hb hby hd) rfl (same := false) (by simp [hc]) ho (by simp [acV, hq]) r
/-! constants of the pool -/
theorem Go.ldc {i : Nat} {v : Int32} (hd : decode code pc = .ok (.ldc i, 2)) (hq : q = pc + 2) (w : (Jvm.Cond.constant mn.cls i v).before a0 Z = true) (K : Go l Z mn code maxL ret R n0 Q h k n q Ls (.int v :: st)) : Go l Z mn code maxL ret R n0 Q h k n pc Ls st := by
  subst hq
  exact fun p e s m args below meth c T locs k' n' C X hk hn N eT => (K p e s m args below meth c T locs k' n' C X hk hn N eT).step fun t r => X.ldcI C.1 C.2.2.2.2.1 (mvT C.2.1 w) rfl (hb C.2.2.1 hd) r
theorem Go.ldcW {i : Nat} {v : Int32} (hd : decode code pc = .ok (.ldc_w i, 3)) (hq : q = pc + 3) (w : (Jvm.Cond.constant mn.cls i v).before a0 Z = true) (K : Go l Z mn code maxL ret R n0 Q h k n q Ls (.int v :: st)) : Go l Z mn code maxL ret R n0 Q h k n pc Ls st := by
  subst hq
  exact fun p e s m args below meth c T locs k' n' C X hk hn N eT => (K p e s m args below meth c T locs k' n' C X hk hn N eT).step fun t r => X.ldcWI C.1 C.2.2.2.2.1 (mvT C.2.1 w) rfl (hb C.2.2.1 hd) r
theorem Go.ldc2 {i : Nat} {v : Int64} (hd : decode code pc = .ok (.ldc2_w i, 3)) (hq : q = pc + 3) (w : (Jvm.Cond.constantLong mn.cls i v).before a0 Z = true) (K : Go l Z mn code maxL ret R n0 Q h k n q Ls (.long v :: st)) : Go l Z mn code maxL ret R n0 Q h k n pc Ls st := by
  subst hq
  exact fun p e s m args below meth c T locs k' n' C X hk hn N eT => (K p e s m args below meth c T locs k' n' C X hk hn N eT).step fun t r => X.ldc2J C.1 C.2.2.2.2.1 (mvT C.2.1 w) rfl (hb C.2.2.1 hd) r
/-! statics and fields -/
theorem Go.getS {i : Nat} {O nm d : String} {v : Value} (hd : decode code pc = .ok (.getstatic i, 3)) (hq : q = pc + 3) (w : (Jvm.Cond.fieldLink mn.cls i O nm d).before a0 Z = true) (F : Sta Z h O nm d v) (K : Go l Z mn code maxL ret R n0 Q h k n q Ls (v :: st)) : Go l Z mn code maxL ret R n0 Q h k n pc Ls st := by
  subst hq
  intro p e s m args below meth c T locs k' n' C X hk hn N eT
  obtain ⟨T', X', e', f⟩ := RoadKit.getS (host := "") X C.1 C.2.1 C.2.2.2.2.1 w Via.refl eT F (g := mkF m pc Ls st) rfl (hb C.2.2.1 hd)
  exact (K p e s m args below meth c T' locs k' n' C X' hk hn N e').step f
theorem Go.getF {i : Nat} {R0 O nm d host : String} {a : Addr} {v : Value} (hd : decode code pc = .ok (.getfield i, 3)) (hq : q = pc + 3) (w : (Jvm.Cond.fieldLink mn.cls i R0 nm d).before a0 Z = true ∨ (Jvm.Cond.fieldLinkNest mn.cls i R0 nm d host).before a0 Z = true) (via : Via Z R0 O nm d) (F : Fld Z h a O nm d v) (K : Go l Z mn code maxL ret R n0 Q h k n q Ls (v :: st)) : Go l Z mn code maxL ret R n0 Q h k n pc Ls (.ref a :: st) := by
  subst hq
  intro p e s m args below meth c T locs k' n' C X hk hn N eT
  obtain ⟨T', X', e', f⟩ := RoadKit.getF X C.1 C.2.1 C.2.2.2.2.1 w via eT F (g := mkF m pc Ls (.ref a :: st)) rfl rfl (hb C.2.2.1 hd)
  exact (K p e s m args below meth c T' locs k' n' C X' hk hn N e').step f
theorem Go.putF {i kk : Nat} {R0 O nm d host C : String} {a : Addr} {v old : Value} {ty : FieldType} (hd : decode code pc = .ok (.putfield i, 3)) (hq : q = pc + 3) (w : (Jvm.Cond.fieldLink mn.cls i R0 nm d).before a0 Z = true ∨ (Jvm.Cond.fieldLinkNest mn.cls i R0 nm d host).before a0 Z = true) (via : Via Z R0 O nm d) (F : Fld Z h a O nm d old) (E : Exa Z h a C) (L : (Jvm.Cond.lays C O nm d).before a0 Z = true ∨ ((Jvm.Cond.laysFinal C O nm d).before a0 Z = true ∧ mn.cls = O ∧ mn.name = "<init>")) (wi : (Jvm.Cond.instantiable C kk).before a0 Z = true)
    (hty : parseFieldDescriptor d = some ty) (hna : narrow ty v = v) (hf : fits ty v = true) (ha : n0 ≤ a) (K : ∀ h', Wr h h' a (RoadKit.slotOf Z O nm d) v → Go l Z mn code maxL ret R n0 Q h' k n q Ls st) : Go l Z mn code maxL ret R n0 Q h k n pc Ls (v :: .ref a :: st) := by
  subst hq
  intro p e s m args below meth c T locs k' n' Cc X hk hn N eT
  obtain ⟨T', h', X', e', W, f⟩ := RoadKit.putF X Cc.1 Cc.2.1 Cc.2.2.2.2.1 w via eT F E (L.imp id fun q => ⟨q.1, q.2.1, Cc.2.2.2.2.2.2.2.trans q.2.2⟩) wi hty hna hf (g := mkF m pc Ls (v :: .ref a :: st)) rfl rfl (hb Cc.2.2.1 hd)
  exact (K h' W p e s m args below meth c T' _ k' n' Cc X' hk hn (Fr.snoc X' N ha) e').step f
theorem Go.cast {i : Nat} {Kc : String} {a : Addr} (hd : decode code pc = .ok (.checkcast i, 3)) (hq : q = pc + 3) (w : (Jvm.Cond.classLink mn.cls i Kc).before a0 Z = true) (F : Ins Z h a Kc true) (K : Go l Z mn code maxL ret R n0 Q h k n q Ls (.ref a :: st)) : Go l Z mn code maxL ret R n0 Q h k n pc Ls (.ref a :: st) := by
  subst hq
  intro p e s m args below meth c T locs k' n' C X hk hn N eT
  obtain ⟨T', X', e', f⟩ := castY X C.1 C.2.1 C.2.2.2.2.1 w eT F (g := mkF m pc Ls (.ref a :: st)) rfl rfl (hb C.2.2.1 hd)
  exact (K p e s m args below meth c T' locs k' n' C X' hk hn N e').step f
/-! new, arrays -/
theorem Go.new {i kk : Nat} {C : String} (hd : decode code pc = .ok (.new i, 3)) (hq : q = pc + 3) (w : (Jvm.Cond.classLink mn.cls i C).before a0 Z = true) (wi : (Jvm.Cond.instantiable C kk).before a0 Z = true) (wz : (Jvm.Cond.initialized C).before a0 Z = true) (hc : k + 1 ≤ R.cells) (hs : n + kk ≤ R.slots)
    (K : ∀ h' a, a = h.size → Ext h h' → Exa Z h' a C → (∀ {O nm d : String} {ty : FieldType}, Laid Z a0 C O nm d → parseFieldDescriptor d = some ty → Fld Z h' a O nm d (defaultValue ty)) → Go l Z mn code maxL ret R n0 Q h' (k + 1) (n + kk) q Ls (.ref a :: st)) : Go l Z mn code maxL ret R n0 Q h k n pc Ls st := by
  subst hq
  intro p e s m args below meth c T locs k' n' Cc X hk hn N eT
  obtain ⟨T', h', X', e', E, A, D, -, f⟩ := newO X Cc.1 Cc.2.1 Cc.2.2.2.2.1 w wi wz eT (g := mkF m pc Ls st) rfl (hb Cc.2.2.1 hd) (by omega) (by omega)
  exact (K h' h.size rfl E A (fun L t => D L t) p e s m args below meth c T' locs _ _ Cc X' (by omega) (by omega) N e').step f
theorem Go.initObj {i wd : Nat} {a : Addr} (hd : decode code pc = .ok (.invokespecial i, 3)) (hq : q = pc + 3) (w1 : (Jvm.Cond.methodLink mn.cls i Lib.objectInit).before a0 Z = true) (w2 : (Jvm.Cond.instanceMethod Lib.objectInit).before a0 Z = true) (w3 : (Jvm.Cond.code Lib.objectInit ⟨#[0xb1]⟩ 1 none).before a0 Z = true) (hsz : Ls.size = maxL) (hf : 1 ≤ R.frames) (hW : (st.map fun v => v.category).sum = wd) (hl : wd + 12 ≤ R.locals) (K : Go l Z mn code maxL ret R n0 Q h k n q Ls st) : Go l Z mn code maxL ret R n0 Q h k n pc Ls (.ref a :: st) := by
  subst hq
  intro p e s m args below meth c T locs k' n' C X hk hn N eT
  obtain ⟨T', X', e', f⟩ := initO X C.1 C.2.1 C.2.2.2.2.1 w1 w2 w3 eT (g := mkF m pc Ls (.ref a :: st)) rfl (by rw [C.2.2.2.1]; exact hsz) rfl (hb C.2.2.1 hd) hf (W := wd) (by simp [hW]) hl
  exact (K p e s m args below meth c T' locs k' n' C X' hk hn N e').step f

end Laws
theorem cmpL_eq (x y : Int64) : XT.cmpL x y = 0 ↔ x = y := by
  unfold XT.cmpL
  by_cases h1 : y < x
  · rw [if_pos h1]; constructor
    · intro e; exact absurd e (by decide)
    · rintro rfl; exact absurd h1 Int64.lt_irrefl
  · rw [if_neg h1]
    by_cases h2 : x = y
    · simp [h2]
    · rw [if_neg h2]; constructor
      · intro e; exact absurd e (by decide)
      · intro e; exact absurd e h2
theorem cmpL_lt (x y : Int64) : XT.cmpL x y < 0 ↔ x < y := by
  unfold XT.cmpL
  by_cases h1 : y < x
  · rw [if_pos h1]; constructor
    · intro e; exact absurd e (by decide)
    · intro e; rw [Int64.lt_iff_toInt_lt] at e h1; omega
  · rw [if_neg h1]
    by_cases h2 : x = y
    · rw [if_pos h2]; constructor
      · intro e; exact absurd e (by decide)
      · intro e; rw [h2] at e; exact absurd e Int64.lt_irrefl
    · rw [if_neg h2]; constructor
      · intro _; rw [Int64.lt_iff_toInt_lt] at h1 ⊢; rw [← Int64.toInt_inj] at h2; omega
      · intro _; decide
theorem cmpL_gt (x y : Int64) : 0 < XT.cmpL x y ↔ y < x := by
  unfold XT.cmpL
  by_cases h1 : y < x
  · rw [if_pos h1]; constructor
    · intro _; exact h1
    · intro _; decide
  · rw [if_neg h1]
    by_cases h2 : x = y
    · rw [if_pos h2]; constructor
      · intro e; exact absurd e (by decide)
      · intro e; exact absurd e h1
    · rw [if_neg h2]; constructor
      · intro e; exact absurd e (by decide)
      · intro e; exact absurd e h1
section Laws2
variable {l : Launch} {Z : State} {mn : MethodName} {code : ByteArray} {maxL : Nat} {ret : Option FieldType} {R : Room} {n0 : Nat} {Q : Option Value → Heap → Prop} {h : Heap} {k n pc q : Nat} {Ls Ls' : Array Slot} {st st' : List Value} {a0 : Array Value}
theorem Go.lif_eq {x y' : Int64} {o : Int} {q' : Nat} (hd : decode code pc = .ok (.ifCond .eq o, 3)) (ho : 0 ≤ (pc : Int) + o) (hq : ((pc : Int) + o).toNat = q) (hq' : q' = pc + 3) (K1 : x = y' → Go l Z mn code maxL ret R n0 Q h k n q Ls st) (K2 : ¬ x = y' → Go l Z mn code maxL ret R n0 Q h k n q' Ls st) : Go l Z mn code maxL ret R n0 Q h k n pc Ls (.int (XT.cmpL x y') :: st) :=
  Go.if_eq hd ho hq hq' (fun c => K1 ((cmpL_eq _ _).mp c)) (fun c => K2 fun e => c ((cmpL_eq _ _).mpr e))
theorem Go.lif_ne {x y' : Int64} {o : Int} {q' : Nat} (hd : decode code pc = .ok (.ifCond .ne o, 3)) (ho : 0 ≤ (pc : Int) + o) (hq : ((pc : Int) + o).toNat = q) (hq' : q' = pc + 3) (K1 : ¬ x = y' → Go l Z mn code maxL ret R n0 Q h k n q Ls st) (K2 : x = y' → Go l Z mn code maxL ret R n0 Q h k n q' Ls st) : Go l Z mn code maxL ret R n0 Q h k n pc Ls (.int (XT.cmpL x y') :: st) :=
  Go.if_ne hd ho hq hq' (fun c => K1 fun e => c ((cmpL_eq _ _).mpr e)) (fun c => K2 ((cmpL_eq _ _).mp c))
theorem Go.lif_lt {x y' : Int64} {o : Int} {q' : Nat} (hd : decode code pc = .ok (.ifCond .lt o, 3)) (ho : 0 ≤ (pc : Int) + o) (hq : ((pc : Int) + o).toNat = q) (hq' : q' = pc + 3) (K1 : x < y' → Go l Z mn code maxL ret R n0 Q h k n q Ls st) (K2 : ¬ x < y' → Go l Z mn code maxL ret R n0 Q h k n q' Ls st) : Go l Z mn code maxL ret R n0 Q h k n pc Ls (.int (XT.cmpL x y') :: st) :=
  Go.if_lt hd ho hq hq' (fun c => K1 ((cmpL_lt _ _).mp c)) (fun c => K2 fun e => c ((cmpL_lt _ _).mpr e))
theorem Go.lif_ge {x y' : Int64} {o : Int} {q' : Nat} (hd : decode code pc = .ok (.ifCond .ge o, 3)) (ho : 0 ≤ (pc : Int) + o) (hq : ((pc : Int) + o).toNat = q) (hq' : q' = pc + 3) (K1 : ¬ x < y' → Go l Z mn code maxL ret R n0 Q h k n q Ls st) (K2 : x < y' → Go l Z mn code maxL ret R n0 Q h k n q' Ls st) : Go l Z mn code maxL ret R n0 Q h k n pc Ls (.int (XT.cmpL x y') :: st) :=
  Go.if_ge hd ho hq hq' (fun c => K1 fun e => c ((cmpL_lt _ _).mpr e)) (fun c => K2 ((cmpL_lt _ _).mp c))
theorem Go.lif_gt {x y' : Int64} {o : Int} {q' : Nat} (hd : decode code pc = .ok (.ifCond .gt o, 3)) (ho : 0 ≤ (pc : Int) + o) (hq : ((pc : Int) + o).toNat = q) (hq' : q' = pc + 3) (K1 : y' < x → Go l Z mn code maxL ret R n0 Q h k n q Ls st) (K2 : ¬ y' < x → Go l Z mn code maxL ret R n0 Q h k n q' Ls st) : Go l Z mn code maxL ret R n0 Q h k n pc Ls (.int (XT.cmpL x y') :: st) :=
  Go.if_gt hd ho hq hq' (fun c => K1 ((cmpL_gt _ _).mp c)) (fun c => K2 fun e => c ((cmpL_gt _ _).mpr e))
theorem Go.lif_le {x y' : Int64} {o : Int} {q' : Nat} (hd : decode code pc = .ok (.ifCond .le o, 3)) (ho : 0 ≤ (pc : Int) + o) (hq : ((pc : Int) + o).toNat = q) (hq' : q' = pc + 3) (K1 : ¬ y' < x → Go l Z mn code maxL ret R n0 Q h k n q Ls st) (K2 : y' < x → Go l Z mn code maxL ret R n0 Q h k n q' Ls st) : Go l Z mn code maxL ret R n0 Q h k n pc Ls (.int (XT.cmpL x y') :: st) :=
  Go.if_le hd ho hq hq' (fun c => K1 fun e => c ((cmpL_gt _ _).mpr e)) (fun c => K2 ((cmpL_gt _ _).mp c))
end Laws2
end Jvm.OwnKit

namespace Jvm.OwnKit
open Jvm Jvm.ClassFile Sem Op Lib Jvm.Free Jvm.Stand Jvm.LawKit Jvm.RoadKit
section Calls
variable {l : Launch} {Z : State} {mn : MethodName} {code : ByteArray} {maxL : Nat} {ret : Option FieldType} {R : Room} {n0 : Nat} {Q : Option Value → Heap → Prop} {h : Heap} {k n pc q : Nat} {Ls Ls' : Array Slot} {st st' : List Value} {a0 : Array Value}
  {y' : MethodName} {code' : ByteArray} {maxL' : Nat} {ret' : Option FieldType} {R' : Room} {Q' : Option Value → Heap → Prop} {argsL rest : List Value} {Ls1 : Array Slot} {ps : List FieldType} {r : Option FieldType} {i wd : Nat}
theorem Go.callS (hd : decode code pc = .ok (.invokestatic i, 3)) (hq : q = pc + 3) (w1 : (Jvm.Cond.methodLink mn.cls i y').before a0 Z = true) (w2 : (Jvm.Cond.static y').before a0 Z = true) (w3 : (Jvm.Cond.initialized y'.cls).before a0 Z = true) (w4 : (Jvm.Cond.code y' code' maxL' ret').before a0 Z = true)
    (hy : y'.cls ≠ "java/lang/invoke/MethodHandle" ∧ y'.cls ≠ "java/lang/invoke/VarHandle") (pn : plainName y'.cls = true) (pd : parseMethodDescriptor y'.desc = some ⟨ps, r⟩) (hl : argsL.length = ps.length) (hst : st = argsL.reverse ++ rest) (hef : ∀ m, entryFrame m argsL.toArray maxL' = mkF m 0 Ls1 []) (hsz : Ls.size = maxL)
    (hR1 : R'.frames + 1 ≤ R.frames) (hW : (rest.map fun v => v.category).sum = wd) (hR2 : wd + (maxL' + 11) + R'.locals ≤ R.locals) (hc : k + R'.cells ≤ R.cells) (hs : n + R'.slots ≤ R.slots)
    (G : Go l Z y' code' maxL' ret' R' n0 Q' h 0 0 0 Ls1 []) (K : ∀ v h', Q' v h' → Go l Z mn code maxL ret R n0 Q h' (k + R'.cells) (n + R'.slots) q Ls (v.toList ++ rest)) : Go l Z mn code maxL ret R n0 Q h k n pc Ls st := by
  subst hq hst hW
  intro p e s m args below meth c T locs k' n' C X hk hn N eT
  obtain ⟨v, vm1, ⟨T1, L1, k1, n1⟩, -, X1, ⟨Lc, hQ, e1, e2, e3⟩, f⟩ := Jvm.LawKit.callS X C.1 (y := y') C.2.2.2.2.1 (mvT C.2.1 w1) (mvT C.2.1 w2) (mvT C.2.1 w3) (mvT C.2.1 w4) hy (backOf (W := (rest.map fun v => v.category).sum) (Q := fun v h L => Fr n0 L ∧ Q' v h) (G.met pn hef []) C.2.1 w4 w3 hR1 hR2) (g := mkF m pc Ls (argsL.reverse ++ rest)) rfl (by rw [C.2.2.2.1]; exact hsz) (argsL := argsL) (rest := rest) (lenOf pd hl) rfl (by simp) (hb C.2.2.1 hd) (fun _ _ => ⟨rfl, eT, by show k' + _ ≤ _; omega, by show n' + _ ≤ _; omega⟩)
  dsimp only [Pt.U, Pt.locs, Pt.cells, Pt.slots] at X1 e1 e2 e3 f hQ
  subst e1 e2 e3
  exact (K v T1.heap hQ.2 p e s m args below meth c T1 _ _ _ C X1 (by omega) (by omega) (Fr.app N hQ.1) rfl).step f
theorem Go.callV {C : String} {a : Addr} (hd : decode code pc = .ok (.invokevirtual i, 3)) (hq : q = pc + 3) (w1 : (Jvm.Cond.methodLink mn.cls i y').before a0 Z = true) (w2 : (Jvm.Cond.declares y').before a0 Z = true) (w3 : (Jvm.Cond.selects C y' y').before a0 Z = true) (w4 : (Jvm.Cond.instanceMethod y').before a0 Z = true) (w5 : (Jvm.Cond.code y' code' maxL' ret').before a0 Z = true) (w6 : (Jvm.Cond.initialized y'.cls).before a0 Z = true)
    (hy : y'.cls ≠ "java/lang/invoke/MethodHandle" ∧ y'.cls ≠ "java/lang/invoke/VarHandle") (pn : plainName y'.cls = true) (pd : parseMethodDescriptor y'.desc = some ⟨ps, r⟩) (hl : argsL.length = ps.length) (hst : st = argsL.reverse ++ .ref a :: rest) (E : Exa Z h a C) (hef : ∀ m, entryFrame m (.ref a :: argsL).toArray maxL' = mkF m 0 Ls1 []) (hsz : Ls.size = maxL)
    (hR1 : R'.frames + 1 ≤ R.frames) (hW : (rest.map fun v => v.category).sum = wd) (hR2 : wd + (maxL' + 11) + R'.locals ≤ R.locals) (hc : k + R'.cells ≤ R.cells) (hs : n + R'.slots ≤ R.slots)
    (G : Go l Z y' code' maxL' ret' R' n0 Q' h 0 0 0 Ls1 []) (K : ∀ v h', Q' v h' → Go l Z mn code maxL ret R n0 Q h' (k + R'.cells) (n + R'.slots) q Ls (v.toList ++ rest)) : Go l Z mn code maxL ret R n0 Q h k n pc Ls st := by
  subst hq hst hW
  intro p e s m args below meth c T locs k' n' Cc X hk hn N eT
  obtain ⟨cq, kq, qa, qb, qc⟩ := isOf Cc.2.1 eT E
  obtain ⟨v, vm1, ⟨T1, L1, k1, n1⟩, -, X1, ⟨Lc, hQ, e1, e2, e3⟩, f⟩ := X.virtualBack Cc.1 (y := y') (z := y') Cc.2.2.2.2.1 (mvT Cc.2.1 w1) (mvT Cc.2.1 w2) (notFace_of_selects (args := #[]) (mvT Cc.2.1 w3)) (mvT Cc.2.1 w3) (mvT Cc.2.1 w4) hy (backOf (W := (rest.map fun v => v.category).sum) (Q := fun v h L => Fr n0 L ∧ Q' v h) (G.met pn hef []) Cc.2.1 w5 w6 hR1 hR2) qa qc (g := mkF m pc Ls (argsL.reverse ++ .ref a :: rest)) rfl (by rw [Cc.2.2.2.1]; exact hsz) (Steps.refl _) (argsL := argsL) (rest := rest) (lenOf pd hl) rfl (by simp) (hb Cc.2.2.1 hd) (fun _ _ => ⟨rfl, eT, by show k' + _ ≤ _; omega, by show n' + _ ≤ _; omega⟩)
  dsimp only [Pt.U, Pt.locs, Pt.cells, Pt.slots] at X1 e1 e2 e3 f hQ
  subst e1 e2 e3
  exact (K v T1.heap hQ.2 p e s m args below meth c T1 _ _ _ Cc X1 (by omega) (by omega) (Fr.app N hQ.1) rfl).step fun t r => f.trans r
theorem Go.callI {a : Addr} (hd : decode code pc = .ok (.invokespecial i, 3)) (hq : q = pc + 3) (hn1 : y'.name = "<init>") (w1 : (Jvm.Cond.methodLink mn.cls i y').before a0 Z = true) (w2 : (Jvm.Cond.instanceMethod y').before a0 Z = true) (w3 : (Jvm.Cond.initialized y'.cls).before a0 Z = true) (w4 : (Jvm.Cond.code y' code' maxL' none).before a0 Z = true)
    (hy : y'.cls ≠ "java/lang/invoke/MethodHandle" ∧ y'.cls ≠ "java/lang/invoke/VarHandle") (pn : plainName y'.cls = true) (pd : parseMethodDescriptor y'.desc = some ⟨ps, r⟩) (hl : argsL.length = ps.length) (hst : st = argsL.reverse ++ .ref a :: rest) (hef : ∀ m, entryFrame m (.ref a :: argsL).toArray maxL' = mkF m 0 Ls1 []) (hsz : Ls.size = maxL)
    (hR1 : R'.frames + 1 ≤ R.frames) (hW : (rest.map fun v => v.category).sum = wd) (hR2 : wd + (maxL' + 11) + R'.locals ≤ R.locals) (hc : k + R'.cells ≤ R.cells) (hs : n + R'.slots ≤ R.slots)
    (G : Go l Z y' code' maxL' none R' n0 Q' h 0 0 0 Ls1 []) (K : ∀ v h', Q' v h' → Go l Z mn code maxL ret R n0 Q h' (k + R'.cells) (n + R'.slots) q Ls (v.toList ++ rest)) : Go l Z mn code maxL ret R n0 Q h k n pc Ls st := by
  subst hq hst hW
  intro p e s m args below meth c T locs k' n' Cc X hk hn N eT
  obtain ⟨v, vm1, ⟨T1, L1, k1, n1⟩, -, X1, ⟨Lc, hQ, e1, e2, e3⟩, f⟩ := X.specialBack Cc.1 (y := y') hn1 Cc.2.2.2.2.1 (mvT Cc.2.1 w1) (mvT Cc.2.1 w2) (mvT Cc.2.1 w4) hy (backOf (W := (rest.map fun v => v.category).sum) (Q := fun v h L => Fr n0 L ∧ Q' v h) (G.met pn hef []) Cc.2.1 w4 w3 hR1 hR2) (g := mkF m pc Ls (argsL.reverse ++ .ref a :: rest)) rfl (by rw [Cc.2.2.2.1]; exact hsz) (Steps.refl _) (a := a) (argsL := argsL) (rest := rest) (lenOf pd hl) rfl (by simp) (hb Cc.2.2.1 hd) (fun _ _ => ⟨rfl, eT, by show k' + _ ≤ _; omega, by show n' + _ ≤ _; omega⟩)
  dsimp only [Pt.U, Pt.locs, Pt.cells, Pt.slots] at X1 e1 e2 e3 f hQ
  subst e1 e2 e3
  exact (K v T1.heap hQ.2 p e s m args below meth c T1 _ _ _ Cc X1 (by omega) (by omega) (Fr.app N hQ.1) rfl).step fun t r => f.trans r
theorem Go.callSV {P : Value → Heap → Prop} (hd : decode code pc = .ok (.invokestatic i, 3)) (hq : q = pc + 3) (w1 : (Jvm.Cond.methodLink mn.cls i y').before a0 Z = true) (w2 : (Jvm.Cond.static y').before a0 Z = true) (w3 : (Jvm.Cond.initialized y'.cls).before a0 Z = true) (w4 : (Jvm.Cond.code y' code' maxL' ret').before a0 Z = true)
    (hy : y'.cls ≠ "java/lang/invoke/MethodHandle" ∧ y'.cls ≠ "java/lang/invoke/VarHandle") (pn : plainName y'.cls = true) (pd : parseMethodDescriptor y'.desc = some ⟨ps, r⟩) (hl : argsL.length = ps.length) (hst : st = argsL.reverse ++ rest) (hef : ∀ m, entryFrame m argsL.toArray maxL' = mkF m 0 Ls1 []) (hsz : Ls.size = maxL)
    (hR1 : R'.frames + 1 ≤ R.frames) (hW : (rest.map fun v => v.category).sum = wd) (hR2 : wd + (maxL' + 11) + R'.locals ≤ R.locals) (hc : k + R'.cells ≤ R.cells) (hs : n + R'.slots ≤ R.slots)
    (G : Go l Z y' code' maxL' ret' R' n0 (RV P) h 0 0 0 Ls1 []) (K : ∀ w h', P w h' → Go l Z mn code maxL ret R n0 Q h' (k + R'.cells) (n + R'.slots) q Ls (w :: rest)) : Go l Z mn code maxL ret R n0 Q h k n pc Ls st :=
  Go.callS hd hq w1 w2 w3 w4 hy pn pd hl hst hef hsz hR1 hW hR2 hc hs G fun v h' ⟨w, e, q⟩ => by subst e; exact K w h' q
theorem Go.callSN {P : Heap → Prop} (hd : decode code pc = .ok (.invokestatic i, 3)) (hq : q = pc + 3) (w1 : (Jvm.Cond.methodLink mn.cls i y').before a0 Z = true) (w2 : (Jvm.Cond.static y').before a0 Z = true) (w3 : (Jvm.Cond.initialized y'.cls).before a0 Z = true) (w4 : (Jvm.Cond.code y' code' maxL' ret').before a0 Z = true)
    (hy : y'.cls ≠ "java/lang/invoke/MethodHandle" ∧ y'.cls ≠ "java/lang/invoke/VarHandle") (pn : plainName y'.cls = true) (pd : parseMethodDescriptor y'.desc = some ⟨ps, r⟩) (hl : argsL.length = ps.length) (hst : st = argsL.reverse ++ rest) (hef : ∀ m, entryFrame m argsL.toArray maxL' = mkF m 0 Ls1 []) (hsz : Ls.size = maxL)
    (hR1 : R'.frames + 1 ≤ R.frames) (hW : (rest.map fun v => v.category).sum = wd) (hR2 : wd + (maxL' + 11) + R'.locals ≤ R.locals) (hc : k + R'.cells ≤ R.cells) (hs : n + R'.slots ≤ R.slots)
    (G : Go l Z y' code' maxL' ret' R' n0 (RN P) h 0 0 0 Ls1 []) (K : ∀ h', P h' → Go l Z mn code maxL ret R n0 Q h' (k + R'.cells) (n + R'.slots) q Ls rest) : Go l Z mn code maxL ret R n0 Q h k n pc Ls st :=
  Go.callS hd hq w1 w2 w3 w4 hy pn pd hl hst hef hsz hR1 hW hR2 hc hs G fun v h' ⟨e, q⟩ => by subst e; exact K h' q
theorem Go.callVV {P : Value → Heap → Prop} {C : String} {a : Addr} (hd : decode code pc = .ok (.invokevirtual i, 3)) (hq : q = pc + 3) (w1 : (Jvm.Cond.methodLink mn.cls i y').before a0 Z = true) (w2 : (Jvm.Cond.declares y').before a0 Z = true) (w3 : (Jvm.Cond.selects C y' y').before a0 Z = true) (w4 : (Jvm.Cond.instanceMethod y').before a0 Z = true) (w5 : (Jvm.Cond.code y' code' maxL' ret').before a0 Z = true) (w6 : (Jvm.Cond.initialized y'.cls).before a0 Z = true)
    (hy : y'.cls ≠ "java/lang/invoke/MethodHandle" ∧ y'.cls ≠ "java/lang/invoke/VarHandle") (pn : plainName y'.cls = true) (pd : parseMethodDescriptor y'.desc = some ⟨ps, r⟩) (hl : argsL.length = ps.length) (hst : st = argsL.reverse ++ .ref a :: rest) (E : Exa Z h a C) (hef : ∀ m, entryFrame m (.ref a :: argsL).toArray maxL' = mkF m 0 Ls1 []) (hsz : Ls.size = maxL)
    (hR1 : R'.frames + 1 ≤ R.frames) (hW : (rest.map fun v => v.category).sum = wd) (hR2 : wd + (maxL' + 11) + R'.locals ≤ R.locals) (hc : k + R'.cells ≤ R.cells) (hs : n + R'.slots ≤ R.slots)
    (G : Go l Z y' code' maxL' ret' R' n0 (RV P) h 0 0 0 Ls1 []) (K : ∀ w h', P w h' → Go l Z mn code maxL ret R n0 Q h' (k + R'.cells) (n + R'.slots) q Ls (w :: rest)) : Go l Z mn code maxL ret R n0 Q h k n pc Ls st :=
  Go.callV hd hq w1 w2 w3 w4 w5 w6 hy pn pd hl hst E hef hsz hR1 hW hR2 hc hs G fun v h' ⟨w, e, q⟩ => by subst e; exact K w h' q
theorem Go.callVN {P : Heap → Prop} {C : String} {a : Addr} (hd : decode code pc = .ok (.invokevirtual i, 3)) (hq : q = pc + 3) (w1 : (Jvm.Cond.methodLink mn.cls i y').before a0 Z = true) (w2 : (Jvm.Cond.declares y').before a0 Z = true) (w3 : (Jvm.Cond.selects C y' y').before a0 Z = true) (w4 : (Jvm.Cond.instanceMethod y').before a0 Z = true) (w5 : (Jvm.Cond.code y' code' maxL' ret').before a0 Z = true) (w6 : (Jvm.Cond.initialized y'.cls).before a0 Z = true)
    (hy : y'.cls ≠ "java/lang/invoke/MethodHandle" ∧ y'.cls ≠ "java/lang/invoke/VarHandle") (pn : plainName y'.cls = true) (pd : parseMethodDescriptor y'.desc = some ⟨ps, r⟩) (hl : argsL.length = ps.length) (hst : st = argsL.reverse ++ .ref a :: rest) (E : Exa Z h a C) (hef : ∀ m, entryFrame m (.ref a :: argsL).toArray maxL' = mkF m 0 Ls1 []) (hsz : Ls.size = maxL)
    (hR1 : R'.frames + 1 ≤ R.frames) (hW : (rest.map fun v => v.category).sum = wd) (hR2 : wd + (maxL' + 11) + R'.locals ≤ R.locals) (hc : k + R'.cells ≤ R.cells) (hs : n + R'.slots ≤ R.slots)
    (G : Go l Z y' code' maxL' ret' R' n0 (RN P) h 0 0 0 Ls1 []) (K : ∀ h', P h' → Go l Z mn code maxL ret R n0 Q h' (k + R'.cells) (n + R'.slots) q Ls rest) : Go l Z mn code maxL ret R n0 Q h k n pc Ls st :=
  Go.callV hd hq w1 w2 w3 w4 w5 w6 hy pn pd hl hst E hef hsz hR1 hW hR2 hc hs G fun v h' ⟨e, q⟩ => by subst e; exact K h' q
theorem Go.callIN {P : Heap → Prop} {a : Addr} (hd : decode code pc = .ok (.invokespecial i, 3)) (hq : q = pc + 3) (hn1 : y'.name = "<init>") (w1 : (Jvm.Cond.methodLink mn.cls i y').before a0 Z = true) (w2 : (Jvm.Cond.instanceMethod y').before a0 Z = true) (w3 : (Jvm.Cond.initialized y'.cls).before a0 Z = true) (w4 : (Jvm.Cond.code y' code' maxL' none).before a0 Z = true)
    (hy : y'.cls ≠ "java/lang/invoke/MethodHandle" ∧ y'.cls ≠ "java/lang/invoke/VarHandle") (pn : plainName y'.cls = true) (pd : parseMethodDescriptor y'.desc = some ⟨ps, r⟩) (hl : argsL.length = ps.length) (hst : st = argsL.reverse ++ .ref a :: rest) (hef : ∀ m, entryFrame m (.ref a :: argsL).toArray maxL' = mkF m 0 Ls1 []) (hsz : Ls.size = maxL)
    (hR1 : R'.frames + 1 ≤ R.frames) (hW : (rest.map fun v => v.category).sum = wd) (hR2 : wd + (maxL' + 11) + R'.locals ≤ R.locals) (hc : k + R'.cells ≤ R.cells) (hs : n + R'.slots ≤ R.slots)
    (G : Go l Z y' code' maxL' none R' n0 (RN P) h 0 0 0 Ls1 []) (K : ∀ h', P h' → Go l Z mn code maxL ret R n0 Q h' (k + R'.cells) (n + R'.slots) q Ls rest) : Go l Z mn code maxL ret R n0 Q h k n pc Ls st :=
  Go.callI hd hq hn1 w1 w2 w3 w4 hy pn pd hl hst hef hsz hR1 hW hR2 hc hs G fun v h' ⟨e, q⟩ => by subst e; exact K h' q
end Calls
section Rets
variable {l : Launch} {Z : State} {mn : MethodName} {code : ByteArray} {maxL : Nat} {R : Room} {n0 : Nat} {Q : Option Value → Heap → Prop} {h : Heap} {k n pc q : Nat} {Ls : Array Slot} {st : List Value}
theorem Go.retOut {w : Value} {t : FieldType} {i : Instr} (hd : decode code pc = .ok (i, 1)) (hna : narrow t w = w)
    (hi : (i = .ireturn ∧ (t = .int ∨ t = .boolean ∨ t = .byte ∨ t = .char ∨ t = .short) ∧ ∃ z, w = .int z) ∨ (i = .lreturn ∧ t = .long ∧ ∃ z, w = .long z) ∨ (i = .dreturn ∧ t = .double ∧ ∃ z, w = .double z) ∨ (i = .freturn ∧ t = .float ∧ ∃ z, w = .float z) ∨ (i = .areturn ∧ t.isReference = true ∧ w.isRef = true))
    (hk : k ≤ R.cells) (hn : n ≤ R.slots) (hQ : Q (some w) h) : Go l Z mn code maxL (some t) R n0 Q h k n pc Ls (w :: st) := by
  intro p e s m args below meth c T locs k' n' C X hk' hn' N eT
  obtain ⟨fs, hr, hrun, hended, hW, hsame⟩ := X.leave (v := some w) (fun hh => by rw [C.2.2.2.2.2.1] at hh; cases hh) C.2.2.2.2.2.2.1
  exact ⟨_, _, RoadKit.retOut X C.1 C.2.2.2.2.2.1 hna hi (hb C.2.2.1 hd) hr, hrun, hended, _, locs, rfl, ⟨N, by show Q _ T.heap; rw [eT]; exact hQ⟩, ⟨_, rfl⟩, hW, hsame.mono (by omega) (by omega)⟩
theorem Go.ireturn {z : Int32} (hd : decode code pc = .ok (.ireturn, 1)) (hk : k ≤ R.cells) (hn : n ≤ R.slots) (hQ : Q (some (.int z)) h) : Go l Z mn code maxL (some .int) R n0 Q h k n pc Ls (.int z :: st) :=
  Go.retOut hd rfl (Or.inl ⟨rfl, Or.inl rfl, z, rfl⟩) hk hn hQ
theorem Go.zreturn {z : Int32} (hd : decode code pc = .ok (.ireturn, 1)) (hk : k ≤ R.cells) (hn : n ≤ R.slots) (hz : z = 0 ∨ z = 1) (hQ : Q (some (.int z)) h) : Go l Z mn code maxL (some .boolean) R n0 Q h k n pc Ls (.int z :: st) :=
  Go.retOut hd (by rcases hz with rfl | rfl <;> rfl) (Or.inl ⟨rfl, Or.inr (Or.inl rfl), z, rfl⟩) hk hn hQ
theorem Go.creturn {z : Int32} (hd : decode code pc = .ok (.ireturn, 1)) (hk : k ≤ R.cells) (hn : n ≤ R.slots) (hz : narrow .char (.int z) = .int z) (hQ : Q (some (.int z)) h) : Go l Z mn code maxL (some .char) R n0 Q h k n pc Ls (.int z :: st) :=
  Go.retOut hd hz (Or.inl ⟨rfl, Or.inr (Or.inr (Or.inr (Or.inl rfl))), z, rfl⟩) hk hn hQ
theorem Go.lreturn {z : Int64} (hd : decode code pc = .ok (.lreturn, 1)) (hk : k ≤ R.cells) (hn : n ≤ R.slots) (hQ : Q (some (.long z)) h) : Go l Z mn code maxL (some .long) R n0 Q h k n pc Ls (.long z :: st) :=
  Go.retOut hd rfl (Or.inr (Or.inl ⟨rfl, rfl, z, rfl⟩)) hk hn hQ
theorem Go.areturn {w : Value} {t : FieldType} (hd : decode code pc = .ok (.areturn, 1)) (hk : k ≤ R.cells) (hn : n ≤ R.slots) (ht : t.isReference = true) (hw : w.isRef = true) (hQ : Q (some w) h) : Go l Z mn code maxL (some t) R n0 Q h k n pc Ls (w :: st) :=
  Go.retOut hd (by rcases ref_cases hw with rfl | ⟨a, rfl⟩ <;> cases t <;> first | exact absurd ht (by decide) | rfl) (Or.inr (Or.inr (Or.inr (Or.inr ⟨rfl, ht, hw⟩)))) hk hn hQ
theorem Go.vreturn (hd : decode code pc = .ok (.return_, 1)) (hk : k ≤ R.cells) (hn : n ≤ R.slots) (hQ : Q none h) : Go l Z mn code maxL none R n0 Q h k n pc Ls [] := by
  intro p e s m args below meth c T locs k' n' C X hk' hn' N eT
  obtain ⟨fs, hr, hrun, hended, hW, hsame⟩ := X.leave (v := none) (fun _ => rfl) C.2.2.2.2.2.2.1
  exact ⟨_, _, X.returnOut C.1 C.2.2.2.2.2.1 (hb C.2.2.1 hd) hr, hrun, hended, _, locs, rfl, ⟨N, by show Q _ T.heap; rw [eT]; exact hQ⟩, ⟨_, rfl⟩, hW, hsame.mono (by omega) (by omega)⟩
end Rets
/-- an array's whole content -/
def Ar (Z : State) (h : Heap) (a : Addr) (ty : FieldType) (cA : ClassId) (vs : List Value) : Prop := ∃ c : Cell, Arr Z h a c ty ∧ c.cls = cA ∧ c.slots.toList = vs
section Arrs
variable {Z : State} {h h' : Heap} {a b : Addr} {ty : FieldType} {cA : ClassId} {vs : List Value} {sl : Nat} {v : Value} {ws : List Addr}
theorem Ar.lt (F : Ar Z h a ty cA vs) : a < h.size := by obtain ⟨c, A, -⟩ := F; exact A.lt
theorem Ar.ext (F : Ar Z h a ty cA vs) (E : Ext h h') : Ar Z h' a ty cA vs := by obtain ⟨c, A, r⟩ := F; exact ⟨c, A.ext E, r⟩
theorem Ar.other (F : Ar Z h b ty cA vs) (W : Wr h h' a sl v) (q : b ≠ a) : Ar Z h' b ty cA vs := by obtain ⟨c, A, r⟩ := F; exact ⟨c, A.other W q, r⟩
theorem Ar.keep (F : Ar Z h a ty cA vs) (K : Keep h h' ws) (q : a ∉ ws) : Ar Z h' a ty cA vs := by obtain ⟨c, A, r⟩ := F; exact ⟨c, ⟨K.2.1 a c A.1 q, A.2⟩, r⟩
theorem Ar.set (F : Ar Z h a ty cA vs) (W : Wr h h' a sl v) : Ar Z h' a ty cA (vs.set sl v) := by
  obtain ⟨c, A, r1, r2⟩ := F
  exact ⟨_, A.same W, r1, by simp [Cell.setSlot, r2]⟩
theorem Ar.size (F : Ar Z h a ty cA vs) {c : Cell} (hc : h[a]? = some c) : c.slots.size = vs.length := by
  obtain ⟨c', A, -, r⟩ := F
  cases hc.symm.trans A.1
  rw [← r]; simp
theorem Ar.ne {C : String} {k : Nat} {a0 : Array Value} (F : Exa Z h b C) (wi : (Jvm.Cond.instantiable C k).before a0 Z = true) (G : Ar Z h a ty cA vs) : b ≠ a := by
  obtain ⟨c, A, -⟩ := G; exact ne_arr F wi A
end Arrs
section ArrSteps
variable {l : Launch} {Z : State} {mn : MethodName} {code : ByteArray} {maxL : Nat} {ret : Option FieldType} {R : Room} {n0 : Nat} {Q : Option Value → Heap → Prop} {h : Heap} {k n pc q : Nat} {Ls : Array Slot} {st : List Value} {a0 : Array Value} {a : Addr} {ty : FieldType} {cA : ClassId} {vs : List Value} {v : Value} {j x : Int32}
theorem inb {c : Cell} (hj : ¬ j < 0) (r : c.slots.toList = vs) (hv : j.toNatClampNeg < vs.length) : ¬ (j < 0 ∨ c.slots.size ≤ j.toNatClampNeg) := by
  rintro (q | q)
  · exact hj q
  · rw [← r] at hv; simp at hv; omega
theorem at_l {c : Cell} {i : Nat} (r : c.slots.toList = vs) (hv : vs[i]? = some v) : c.slots[i]? = some v := by rw [← r] at hv; simpa using hv
theorem Go.arraylength (hd : decode code pc = .ok (.arraylength, 1)) (hq : q = pc + 1) (A : Ar Z h a ty cA vs) {z : Int32} (hz : vs.length.toInt32 = z) (K : Go l Z mn code maxL ret R n0 Q h k n q Ls (.int z :: st)) : Go l Z mn code maxL ret R n0 Q h k n pc Ls (.ref a :: st) := by
  subst hq hz
  intro p e s m args below meth c T locs k' n' C X hk hn N eT
  obtain ⟨cl, A, r1, r2⟩ := A
  exact (K p e s m args below meth c T locs k' n' C X hk hn N eT).step fun t r => X.arraylength (g := mkF m pc Ls (.ref a :: st)) C.1 (by rw [eT]; exact A.1) (State.isArrayOf_alike C.2.1.alike A.2.1) rfl rfl (hb C.2.2.1 hd) t (by rw [show cl.slots.size = vs.length by rw [← r2]; simp]; exact r)
theorem Go.iaload (hd : decode code pc = .ok (.iaload, 1)) (hq : q = pc + 1) (A : Ar Z h a .int cA vs) (hj : ¬ j < 0) (hv : vs[j.toNatClampNeg]? = some v) (K : Go l Z mn code maxL ret R n0 Q h k n q Ls (v :: st)) : Go l Z mn code maxL ret R n0 Q h k n pc Ls (.int j :: .ref a :: st) := by
  subst hq
  intro p e s m args below meth c T locs k' n' C X hk hn N eT
  obtain ⟨cl, A, r1, r2⟩ := A
  exact (K p e s m args below meth c T locs k' n' C X hk hn N eT).step fun t r => X.iaload (g := mkF m pc Ls (.int j :: .ref a :: st)) C.1 (by rw [eT]; exact A.1) (State.isArrayOf_alike C.2.1.alike A.2.1) A.2.2 (inb hj r2 (List.getElem?_eq_some_iff.mp hv).1) (at_l r2 hv) rfl rfl (hb C.2.2.1 hd) t r
theorem Go.laload (hd : decode code pc = .ok (.laload, 1)) (hq : q = pc + 1) (A : Ar Z h a .long cA vs) (hj : ¬ j < 0) (hv : vs[j.toNatClampNeg]? = some v) (K : Go l Z mn code maxL ret R n0 Q h k n q Ls (v :: st)) : Go l Z mn code maxL ret R n0 Q h k n pc Ls (.int j :: .ref a :: st) := by
  subst hq
  intro p e s m args below meth c T locs k' n' C X hk hn N eT
  obtain ⟨cl, A, r1, r2⟩ := A
  exact (K p e s m args below meth c T locs k' n' C X hk hn N eT).step fun t r => X.laload (g := mkF m pc Ls (.int j :: .ref a :: st)) C.1 (by rw [eT]; exact A.1) (State.isArrayOf_alike C.2.1.alike A.2.1) A.2.2 (inb hj r2 (List.getElem?_eq_some_iff.mp hv).1) (at_l r2 hv) rfl rfl (hb C.2.2.1 hd) t r
theorem Go.caload (hd : decode code pc = .ok (.caload, 1)) (hq : q = pc + 1) (A : Ar Z h a .char cA vs) (hj : ¬ j < 0) (hv : vs[j.toNatClampNeg]? = some v) (K : Go l Z mn code maxL ret R n0 Q h k n q Ls (v :: st)) : Go l Z mn code maxL ret R n0 Q h k n pc Ls (.int j :: .ref a :: st) := by
  subst hq
  intro p e s m args below meth c T locs k' n' C X hk hn N eT
  obtain ⟨cl, A, r1, r2⟩ := A
  exact (K p e s m args below meth c T locs k' n' C X hk hn N eT).step fun t r => X.caload (g := mkF m pc Ls (.int j :: .ref a :: st)) C.1 (by rw [eT]; exact A.1) (State.isArrayOf_alike C.2.1.alike A.2.1) A.2.2 (inb hj r2 (List.getElem?_eq_some_iff.mp hv).1) (at_l r2 hv) rfl rfl (hb C.2.2.1 hd) t r
theorem Go.zaload (hd : decode code pc = .ok (.baload, 1)) (hq : q = pc + 1) (A : Ar Z h a .boolean cA vs) (hj : ¬ j < 0) (hv : vs[j.toNatClampNeg]? = some v) (K : Go l Z mn code maxL ret R n0 Q h k n q Ls (v :: st)) : Go l Z mn code maxL ret R n0 Q h k n pc Ls (.int j :: .ref a :: st) := by
  subst hq
  intro p e s m args below meth c T locs k' n' C X hk hn N eT
  obtain ⟨cl, A, r1, r2⟩ := A
  exact (K p e s m args below meth c T locs k' n' C X hk hn N eT).step fun t r => X.baloadBooleans (g := mkF m pc Ls (.int j :: .ref a :: st)) C.1 (by rw [eT]; exact A.1) (State.isArrayOf_alike C.2.1.alike A.2.1) A.2.2 (inb hj r2 (List.getElem?_eq_some_iff.mp hv).1) (at_l r2 hv) rfl rfl (hb C.2.2.1 hd) t r
theorem Go.baload (hd : decode code pc = .ok (.baload, 1)) (hq : q = pc + 1) (A : Ar Z h a .byte cA vs) (hj : ¬ j < 0) (hv : vs[j.toNatClampNeg]? = some v) (K : Go l Z mn code maxL ret R n0 Q h k n q Ls (v :: st)) : Go l Z mn code maxL ret R n0 Q h k n pc Ls (.int j :: .ref a :: st) := by
  subst hq
  intro p e s m args below meth c T locs k' n' C X hk hn N eT
  obtain ⟨cl, A, r1, r2⟩ := A
  exact (K p e s m args below meth c T locs k' n' C X hk hn N eT).step fun t r => X.baloadBytes (g := mkF m pc Ls (.int j :: .ref a :: st)) C.1 (by rw [eT]; exact A.1) (State.isArrayOf_alike C.2.1.alike A.2.1) A.2.2 (inb hj r2 (List.getElem?_eq_some_iff.mp hv).1) (at_l r2 hv) rfl rfl (hb C.2.2.1 hd) t r
theorem Go.aaload (hd : decode code pc = .ok (.aaload, 1)) (hq : q = pc + 1) (A : Ar Z h a ty cA vs) (ht : ty.isReference = true) (hj : ¬ j < 0) (hv : vs[j.toNatClampNeg]? = some v) (K : Go l Z mn code maxL ret R n0 Q h k n q Ls (v :: st)) : Go l Z mn code maxL ret R n0 Q h k n pc Ls (.int j :: .ref a :: st) := by
  subst hq
  intro p e s m args below meth c T locs k' n' C X hk hn N eT
  obtain ⟨cl, A, r1, r2⟩ := A
  exact (K p e s m args below meth c T locs k' n' C X hk hn N eT).step fun t r => X.aaload (g := mkF m pc Ls (.int j :: .ref a :: st)) C.1 (by rw [eT]; exact A.1) (State.isArrayOf_alike C.2.1.alike A.2.1) ht A.2.2 (inb hj r2 (List.getElem?_eq_some_iff.mp hv).1) (at_l r2 hv) rfl rfl (hb C.2.2.1 hd) t r
theorem Go.iastore (hd : decode code pc = .ok (.iastore, 1)) (hq : q = pc + 1) (A : Ar Z h a .int cA vs) (hj : ¬ j < 0) (hv : j.toNatClampNeg < vs.length) (ha : n0 ≤ a) (K : ∀ h', Wr h h' a j.toNatClampNeg (.int x) → Go l Z mn code maxL ret R n0 Q h' k n q Ls st) : Go l Z mn code maxL ret R n0 Q h k n pc Ls (.int x :: .int j :: .ref a :: st) := by
  subst hq
  intro p e s m args below meth c T locs k' n' C X hk hn N eT
  obtain ⟨cl, A, r1, r2⟩ := A
  obtain ⟨T', h', X', e', W, f⟩ := stI X C.1 C.2.1 eT A (inb hj r2 hv) (g := mkF m pc Ls (.int x :: .int j :: .ref a :: st)) rfl rfl (hb C.2.2.1 hd)
  exact (K h' W p e s m args below meth c T' _ k' n' C X' hk hn (Fr.snoc X' N ha) e').step f
theorem Go.lastore {x : Int64} (hd : decode code pc = .ok (.lastore, 1)) (hq : q = pc + 1) (A : Ar Z h a .long cA vs) (hj : ¬ j < 0) (hv : j.toNatClampNeg < vs.length) (ha : n0 ≤ a) (K : ∀ h', Wr h h' a j.toNatClampNeg (.long x) → Go l Z mn code maxL ret R n0 Q h' k n q Ls st) : Go l Z mn code maxL ret R n0 Q h k n pc Ls (.long x :: .int j :: .ref a :: st) := by
  subst hq
  intro p e s m args below meth c T locs k' n' C X hk hn N eT
  obtain ⟨cl, A, r1, r2⟩ := A
  obtain ⟨T', h', X', e', W, f⟩ := stJ X C.1 C.2.1 eT A (inb hj r2 hv) (g := mkF m pc Ls (.long x :: .int j :: .ref a :: st)) rfl rfl (hb C.2.2.1 hd)
  exact (K h' W p e s m args below meth c T' _ k' n' C X' hk hn (Fr.snoc X' N ha) e').step f
theorem Go.castore (hd : decode code pc = .ok (.castore, 1)) (hq : q = pc + 1) (A : Ar Z h a .char cA vs) (hj : ¬ j < 0) (hv : j.toNatClampNeg < vs.length) (ha : n0 ≤ a) (K : ∀ h', Wr h h' a j.toNatClampNeg (.int (nar .char x)) → Go l Z mn code maxL ret R n0 Q h' k n q Ls st) : Go l Z mn code maxL ret R n0 Q h k n pc Ls (.int x :: .int j :: .ref a :: st) := by
  subst hq
  intro p e s m args below meth c T locs k' n' C X hk hn N eT
  obtain ⟨cl, A, r1, r2⟩ := A
  obtain ⟨T', h', X', e', W, f⟩ := stC X C.1 C.2.1 eT A (inb hj r2 hv) (g := mkF m pc Ls (.int x :: .int j :: .ref a :: st)) rfl rfl (hb C.2.2.1 hd)
  exact (K h' W p e s m args below meth c T' _ k' n' C X' hk hn (Fr.snoc X' N ha) e').step f
theorem Go.zastore (hd : decode code pc = .ok (.bastore, 1)) (hq : q = pc + 1) (A : Ar Z h a .boolean cA vs) (hj : ¬ j < 0) (hv : j.toNatClampNeg < vs.length) (ha : n0 ≤ a) (K : ∀ h', Wr h h' a j.toNatClampNeg (.int (nar .boolean x)) → Go l Z mn code maxL ret R n0 Q h' k n q Ls st) : Go l Z mn code maxL ret R n0 Q h k n pc Ls (.int x :: .int j :: .ref a :: st) := by
  subst hq
  intro p e s m args below meth c T locs k' n' C X hk hn N eT
  obtain ⟨cl, A, r1, r2⟩ := A
  obtain ⟨T', h', X', e', W, f⟩ := stZ X C.1 C.2.1 eT A (inb hj r2 hv) (g := mkF m pc Ls (.int x :: .int j :: .ref a :: st)) rfl rfl (hb C.2.2.1 hd)
  exact (K h' W p e s m args below meth c T' _ k' n' C X' hk hn (Fr.snoc X' N ha) e').step f
theorem Go.aastore (hd : decode code pc = .ok (.aastore, 1)) (hq : q = pc + 1) (A : Ar Z h a ty cA vs) (ht : ty.isReference = true) (hj : ¬ j < 0) (hv : j.toNatClampNeg < vs.length) (S : Sto Z h a v) (ha : n0 ≤ a) (K : ∀ h', Wr h h' a j.toNatClampNeg v → Go l Z mn code maxL ret R n0 Q h' k n q Ls st) : Go l Z mn code maxL ret R n0 Q h k n pc Ls (v :: .int j :: .ref a :: st) := by
  subst hq
  intro p e s m args below meth c T locs k' n' C X hk hn N eT
  obtain ⟨cl, A, r1, r2⟩ := A
  obtain ⟨T', h', X', e', W, f⟩ := stR X C.1 C.2.1 eT A (inb hj r2 hv) ht S (g := mkF m pc Ls (v :: .int j :: .ref a :: st)) rfl rfl (hb C.2.2.1 hd)
  exact (K h' W p e s m args below meth c T' _ k' n' C X' hk hn (Fr.snoc X' N ha) e').step f
theorem Go.newarray {aty : ArrayType} {z : Int32} {cap : Nat} (hd : decode code pc = .ok (.newarray aty, 2)) (hq : q = pc + 2) (w : (Jvm.Cond.arrayClass (newarray.typeOf aty)).before a0 Z = true) (hz : ¬ z < 0) (hcap : z.toNatClampNeg ≤ cap) (hb8 : cap * 8 ≤ 536870912) (hc : k + 1 ≤ R.cells) (hs : n + cap ≤ R.slots)
    (K : ∀ h' a cA, a = h.size → Ext h h' → Ar Z h' a (newarray.typeOf aty) cA (List.replicate z.toNatClampNeg (defaultValue (newarray.typeOf aty))) → Go l Z mn code maxL ret R n0 Q h' (k + 1) (n + cap) q Ls (.ref a :: st)) : Go l Z mn code maxL ret R n0 Q h k n pc Ls (.int z :: st) := by
  subst hq
  intro p e s m args below meth c T locs k' n' C X hk hn N eT
  obtain ⟨T', h', cA, X', e', E, A, f⟩ := newP X C.1 C.2.1 w eT (g := mkF m pc Ls (.int z :: st)) rfl (hb C.2.2.1 hd) rfl hz hcap hb8 (by omega) (by omega)
  exact (K h' h.size cA rfl E ⟨_, A, rfl, by simp [newA]⟩ p e s m args below meth c T' locs _ _ C X' (by omega) (by omega) N e').step f
theorem Go.anewarray {C : String} {i : Nat} {z : Int32} {cap : Nat} (hd : decode code pc = .ok (.anewarray i, 3)) (hq : q = pc + 3) (w1 : (Jvm.Cond.classLink mn.cls i C).before a0 Z = true) (w2 : (Jvm.Cond.arrayOver (.object C)).before a0 Z = true) (hz : ¬ z < 0) (hcap : z.toNatClampNeg ≤ cap) (hb8 : cap * 8 ≤ 536870912) (hc : k + 1 ≤ R.cells) (hs : n + cap ≤ R.slots)
    (K : ∀ h' a cA, a = h.size → Ext h h' → Ar Z h' a (.object C) cA (List.replicate z.toNatClampNeg .null) → Ovr Z cA C → Go l Z mn code maxL ret R n0 Q h' (k + 1) (n + cap) q Ls (.ref a :: st)) : Go l Z mn code maxL ret R n0 Q h k n pc Ls (.int z :: st) := by
  subst hq
  intro p e s m args below meth c T locs k' n' Cc X hk hn N eT
  obtain ⟨T', h', cA, X', e', E, A, O, f⟩ := newR X Cc.1 Cc.2.1 Cc.2.2.2.2.1 w1 w2 eT (g := mkF m pc Ls (.int z :: st)) rfl (hb Cc.2.2.1 hd) rfl hz hcap hb8 (by omega) (by omega)
  exact (K h' h.size cA rfl E ⟨_, A, rfl, by simp [newA, defaultValue]⟩ O p e s m args below meth c T' locs _ _ Cc X' (by omega) (by omega) N e').step f
theorem sto_of {C : String} {b : Addr} (A : Ar Z h a ty cA vs) (O : Ovr Z cA C) (I : Ins Z h b C true) : Sto Z h a (.ref b) := by
  obtain ⟨c, A, q, -⟩ := A
  exact Sto.ofV A q O I
end ArrSteps
end Jvm.OwnKit
namespace Jvm.OwnKit
open Jvm Jvm.ClassFile Sem Op Lib Jvm.Free Jvm.Stand Jvm.LawKit Jvm.RoadKit
section Case
variable {args : Array Value} {s : State} {idx : List Nat} {t u : Term} {a b : Addr} {ty : FieldType} {cA : ClassId} {vs : List Value} {O nm d C K : String}
theorem eq_int {v : Int32} (h : (Jvm.Cond.eq t (.int v)).value args s none s idx = some true) : t.eval args s none idx s = some (.int v) := by
  cases ha : t.eval args s none idx s with
  | none => simp [Jvm.Cond.value, ha] at h
  | some x => cases x <;> simp [Jvm.Cond.value, Term.eval, ha] at h ⊢ <;> exact h
theorem eq_long {v : Int64} (h : (Jvm.Cond.eq t (.long v)).value args s none s idx = some true) : t.eval args s none idx s = some (.long v) := by
  cases ha : t.eval args s none idx s with
  | none => simp [Jvm.Cond.value, ha] at h
  | some x => cases x <;> simp [Jvm.Cond.value, Term.eval, ha] at h ⊢ <;> exact h
theorem eq_ref (h : (Jvm.Cond.eq t u).value args s none s idx = some true) (hu : u.eval args s none idx s = some (.ref b)) : t.eval args s none idx s = some (.ref b) := by
  cases ha : t.eval args s none idx s with
  | none => simp [Jvm.Cond.value, ha] at h
  | some x => cases x <;> simp [Jvm.Cond.value, ha, hu] at h ⊢ <;> exact h
theorem sta_ref (h : (Jvm.Cond.exactly (.static C nm d) K).value args s none s [] = some true) (h1 : (Jvm.Cond.initialized C).before args s = true) (h2 : (Jvm.Cond.laysStatic C nm d).before args s = true) : ∃ a, (Term.static C nm d).eval args s none [] s = some (.ref a) ∧ Sta s s.heap C nm d (.ref a) ∧ Exa s s.heap a K := by
  obtain ⟨a, ea⟩ := exa_v h
  exact ⟨a, ea, Sta.start ea (Or.inr ⟨h1, h2⟩), Exa.start ea h⟩
theorem sta_arr (h : (Jvm.Cond.arrayOf (.static C nm d) ty).value args s none s [] = some true) (h1 : (Jvm.Cond.initialized C).before args s = true) (h2 : (Jvm.Cond.laysStatic C nm d).before args s = true) : ∃ a cA vs, (Term.static C nm d).eval args s none [] s = some (.ref a) ∧ Sta s s.heap C nm d (.ref a) ∧ Ar s s.heap a ty cA vs := by
  obtain ⟨a, ea⟩ := arr_v h
  obtain ⟨c, A⟩ := Arr.start ea h
  exact ⟨a, c.cls, c.slots.toList, ea, Sta.start ea (Or.inr ⟨h1, h2⟩), c, A, rfl, rfl⟩
theorem fld_int {v : Int32} (ev : t.eval args s none [] s = some (.ref a)) (h : (Jvm.Cond.eq (.field t O nm d) (.int v)).value args s none s [] = some true) : Fld s s.heap a O nm d (.int v) := Fld.start ((fld_at ev).symm.trans (eq_int h))
theorem fld_long {v : Int64} (ev : t.eval args s none [] s = some (.ref a)) (h : (Jvm.Cond.eq (.field t O nm d) (.long v)).value args s none s [] = some true) : Fld s s.heap a O nm d (.long v) := Fld.start ((fld_at ev).symm.trans (eq_long h))
theorem nat_small {m : Nat} (h : m < 2 ^ 31) : m.toInt32.toNatClampNeg = m := by
  show m.toInt32.toInt.toNat = m
  rw [len_toInt h]; rfl
theorem Ar.at_start (A : Ar s s.heap a ty cA vs) : ∃ c : Cell, s.arrayAt? a = some c ∧ c.slots.toList = vs ∧ c.slots.size = vs.length := by
  obtain ⟨c, A, -, r⟩ := A
  exact ⟨c, A.fin (Vm.Alike.refl _), r, by rw [← r]; simp⟩
theorem arr_len {z : Int32} (ev : t.eval args s none [] s = some (.ref a)) (A : Ar s s.heap a ty cA vs) (h : (Jvm.Cond.eq (.length t) (.int z)).value args s none s [] = some true) : vs.length = z.toNatClampNeg := by
  obtain ⟨c, hc, -, r⟩ := A.at_start
  have e := eq_int h
  simp only [Term.eval, ev, hc, Option.bind_eq_bind, Option.bind_some] at e
  split at e
  · rename_i q
    have e2 : c.slots.size.toInt32 = z := by simpa using e
    rw [← e2, nat_small q, r]
  · simp at e
theorem arr_elem {j : Int32} {v : Int32} (ev : t.eval args s none [] s = some (.ref a)) (A : Ar s s.heap a ty cA vs) (h : (Jvm.Cond.eq (.elem t (.int j)) (.int v)).value args s none s [] = some true) : vs[j.toNatClampNeg]? = some (.int v) := by
  obtain ⟨c, hc, r, -⟩ := A.at_start
  have e := eq_int h
  simp only [Term.eval, ev, hc, Option.bind_eq_bind, Option.bind_some] at e
  split at e
  · simp at e
  · rw [← r]; simpa using e
theorem arr_elemR {j : Int32} {u : Term} {b : Addr} (ev : t.eval args s none [] s = some (.ref a)) (A : Ar s s.heap a ty cA vs) (h : (Jvm.Cond.eq (.elem t (.int j)) u).value args s none s [] = some true) (hu : u.eval args s none [] s = some (.ref b)) : vs[j.toNatClampNeg]? = some (.ref b) := by
  obtain ⟨c, hc, r, -⟩ := A.at_start
  have e := eq_ref h hu
  simp only [Term.eval, ev, hc, Option.bind_eq_bind, Option.bind_some] at e
  split at e
  · simp at e
  · rw [← r]; simpa using e
theorem fold_no {f : Nat → Option Bool} {x : Option Bool} (hx : x ≠ some true) : ∀ L : List Nat, L.foldl (fun acc i => match acc with | some true => f i | x => x) x = x
  | [] => rfl
  | i :: L => by
    rw [List.foldl_cons]
    rcases x with _ | _ | _
    · exact fold_no hx L
    · exact fold_no hx L
    · exact absurd rfl hx
theorem fold_all {f : Nat → Option Bool} : ∀ L : List Nat, L.foldl (fun acc i => match acc with | some true => f i | x => x) (some true) = some true → ∀ i ∈ L, f i = some true
  | [], _, i, hi => nomatch hi
  | j :: L, h, i, hi => by
    rw [List.foldl_cons] at h
    by_cases hj : f j = some true
    · have h' : L.foldl (fun acc i => match acc with | some true => f i | x => x) (f j) = some true := h
      rw [hj] at h'
      rcases List.mem_cons.mp hi with rfl | hi
      · exact hj
      · exact fold_all L h' i hi
    · have h' : L.foldl (fun acc i => match acc with | some true => f i | x => x) (f j) = some true := h
      rw [fold_no hj L] at h'
      exact absurd h' hj
theorem arr_all {c : Jvm.Cond} (ev : t.eval args s none [] s = some (.ref a)) (A : Ar s s.heap a ty cA vs) (h : (Jvm.Cond.all t c).value args s none s [] = some true) : ∀ i, i < vs.length → c.value args s none s [i] = some true := by
  obtain ⟨cl, hc, -, r⟩ := A.at_start
  intro i hi
  simp only [Jvm.Cond.value, ev, hc] at h
  exact fold_all _ h i (List.mem_range.mpr (by omega))
theorem all_elem {i : Nat} {v : Int32} (ev : t.eval args s none [i] s = some (.ref a)) (A : Ar s s.heap a ty cA vs) (hi : i < 2 ^ 31) (h : (Jvm.Cond.eq (.elem t (.index 0)) (.int v)).value args s none s [i] = some true) : vs[i]? = some (.int v) := by
  obtain ⟨c, hc, r, -⟩ := A.at_start
  have e := eq_int h
  simp only [Term.eval, ev, hc, Option.bind_eq_bind, Option.bind_some, List.getElem?_cons_zero, Option.map_some] at e
  split at e
  · simp at e
  · rw [← r]; rw [nat_small hi] at e; simpa using e
theorem all_le {i : Nat} {v : Int32} {c : Jvm.Cond} (hi : i < 2 ^ 31) (h : (Jvm.Cond.or (.le (.int v) (.index 0)) c).value args s none s [i] = some true) : v.toInt ≤ i ∨ c.value args s none s [i] = some true := by
  simp only [Jvm.Cond.value, Term.eval, List.getElem?_cons_zero, Option.map_some] at h
  by_cases q : v ≤ i.toInt32
  · left; rw [Int32.le_iff_toInt_le, len_toInt hi] at q; exact q
  · right; simpa [q] using h
theorem all_lt {i : Nat} {v : Int32} {c : Jvm.Cond} (hi : i < 2 ^ 31) (h : (Jvm.Cond.or (.lt (.index 0) (.int v)) c).value args s none s [i] = some true) : (i : Int) < v.toInt ∨ c.value args s none s [i] = some true := by
  simp only [Jvm.Cond.value, Term.eval, List.getElem?_cons_zero, Option.map_some] at h
  by_cases q : i.toInt32 < v
  · left; rw [Int32.lt_iff_toInt_lt, len_toInt hi] at q; exact q
  · right; simpa [q] using h
theorem sta_idx {C nm d : String} {idx : List Nat} {v : Value} (ev : (Term.static C nm d).eval args s none [] s = some v) : (Term.static C nm d).eval args s none idx s = some v := ev
end Case
end Jvm.OwnKit
namespace Jvm.Pilot.@@N@@
open Jvm Jvm.ClassFile Sem Op Lib Jvm.Free Jvm.Stand Jvm.LawKit Jvm.RoadKit Bundle Jvm.OwnKit Jvm.Pilot.@@N@@.Jvm.D
def Hw (a0 : Array Value) (Z : State) : Prop := ∀ d ∈ tables_1, d.before a0 Z = true
theorem w0 {a0 : Array Value} {Z : State} (hw : Hw a0 Z) : ((Jvm.Cond.methodLink "com/example/deucalion/deucalion/match/UriTextNextDecodingPinLaw" (7 : Nat) ({ cls := "com/example/deucalion/deucalion/match/UriText", name := "nextDecoding", desc := "(II)I" } : Jvm.MethodName)) : Jvm.Cond).before a0 Z = true := hw _ (List.mem_of_getElem? (i := 0) rfl)
theorem w1 {a0 : Array Value} {Z : State} (hw : Hw a0 Z) : ((Jvm.Cond.static ({ cls := "com/example/deucalion/deucalion/match/UriText", name := "nextDecoding", desc := "(II)I" } : Jvm.MethodName)) : Jvm.Cond).before a0 Z = true := hw _ (List.mem_of_getElem? (i := 1) rfl)
theorem w2 {a0 : Array Value} {Z : State} (hw : Hw a0 Z) : ((Jvm.Cond.initialized "com/example/deucalion/deucalion/match/UriText") : Jvm.Cond).before a0 Z = true := hw _ (List.mem_of_getElem? (i := 2) rfl)
theorem w3 {a0 : Array Value} {Z : State} (hw : Hw a0 Z) : ((Jvm.Cond.code ({ cls := "com/example/deucalion/deucalion/match/UriText", name := "nextDecoding", desc := "(II)I" } : Jvm.MethodName) prog_28_method_10_code (4 : Nat) (Option.some Jvm.ClassFile.FieldType.int)) : Jvm.Cond).before a0 Z = true := hw _ (List.mem_of_getElem? (i := 3) rfl)
theorem w4 {a0 : Array Value} {Z : State} (hw : Hw a0 Z) : ((Jvm.Cond.fieldLink "com/example/deucalion/deucalion/match/UriText" (75 : Nat) "com/example/deucalion/deucalion/match/UriText" "IS_UNRESERVED" "[Z") : Jvm.Cond).before a0 Z = true := hw _ (List.mem_of_getElem? (i := 4) rfl)
theorem w5 {a0 : Array Value} {Z : State} (hw : Hw a0 Z) : ((Jvm.Cond.laysStatic "com/example/deucalion/deucalion/match/UriText" "IS_UNRESERVED" "[Z") : Jvm.Cond).before a0 Z = true := hw _ (List.mem_of_getElem? (i := 5) rfl)
theorem w6 {a0 : Array Value} {Z : State} (hw : Hw a0 Z) : ((Jvm.Cond.methodLink "com/example/deucalion/deucalion/match/UriTextNextDecodingPinLaw" (13 : Nat) ({ cls := "com/example/deucalion/deucalion/match/UriTextNextDecodingPinLaw", name := "expected", desc := "(II)I" } : Jvm.MethodName)) : Jvm.Cond).before a0 Z = true := hw _ (List.mem_of_getElem? (i := 6) rfl)
theorem w7 {a0 : Array Value} {Z : State} (hw : Hw a0 Z) : ((Jvm.Cond.static ({ cls := "com/example/deucalion/deucalion/match/UriTextNextDecodingPinLaw", name := "expected", desc := "(II)I" } : Jvm.MethodName)) : Jvm.Cond).before a0 Z = true := hw _ (List.mem_of_getElem? (i := 7) rfl)
theorem w8 {a0 : Array Value} {Z : State} (hw : Hw a0 Z) : ((Jvm.Cond.initialized "com/example/deucalion/deucalion/match/UriTextNextDecodingPinLaw") : Jvm.Cond).before a0 Z = true := hw _ (List.mem_of_getElem? (i := 8) rfl)
theorem w9 {a0 : Array Value} {Z : State} (hw : Hw a0 Z) : ((Jvm.Cond.code ({ cls := "com/example/deucalion/deucalion/match/UriTextNextDecodingPinLaw", name := "expected", desc := "(II)I" } : Jvm.MethodName) method_4_code (5 : Nat) (Option.some Jvm.ClassFile.FieldType.int)) : Jvm.Cond).before a0 Z = true := hw _ (List.mem_of_getElem? (i := 9) rfl)
theorem w10 {a0 : Array Value} {Z : State} (hw : Hw a0 Z) : ((Jvm.Cond.methodLink "com/example/deucalion/deucalion/match/UriTextNextDecodingPinLaw" (18 : Nat) ({ cls := "com/example/deucalion/deucalion/match/UriTextNextDecodingPinLaw", name := "unreserved", desc := "(I)Z" } : Jvm.MethodName)) : Jvm.Cond).before a0 Z = true := hw _ (List.mem_of_getElem? (i := 10) rfl)
theorem w11 {a0 : Array Value} {Z : State} (hw : Hw a0 Z) : ((Jvm.Cond.static ({ cls := "com/example/deucalion/deucalion/match/UriTextNextDecodingPinLaw", name := "unreserved", desc := "(I)Z" } : Jvm.MethodName)) : Jvm.Cond).before a0 Z = true := hw _ (List.mem_of_getElem? (i := 11) rfl)
theorem w12 {a0 : Array Value} {Z : State} (hw : Hw a0 Z) : ((Jvm.Cond.code ({ cls := "com/example/deucalion/deucalion/match/UriTextNextDecodingPinLaw", name := "unreserved", desc := "(I)Z" } : Jvm.MethodName) method_3_code (1 : Nat) (Option.some Jvm.ClassFile.FieldType.boolean)) : Jvm.Cond).before a0 Z = true := hw _ (List.mem_of_getElem? (i := 12) rfl)
theorem w13 {a0 : Array Value} {Z : State} (hw : Hw a0 Z) : ((Jvm.Cond.fieldLink "com/example/deucalion/deucalion/match/UriText" (66 : Nat) "com/example/deucalion/deucalion/match/UriText" "LOWEST" "[I") : Jvm.Cond).before a0 Z = true := hw _ (List.mem_of_getElem? (i := 13) rfl)
theorem w14 {a0 : Array Value} {Z : State} (hw : Hw a0 Z) : ((Jvm.Cond.laysStatic "com/example/deucalion/deucalion/match/UriText" "LOWEST" "[I") : Jvm.Cond).before a0 Z = true := hw _ (List.mem_of_getElem? (i := 14) rfl)
theorem w15 {a0 : Array Value} {Z : State} (hw : Hw a0 Z) : ((Jvm.Cond.fieldLink "com/example/deucalion/deucalion/match/UriText" (69 : Nat) "com/example/deucalion/deucalion/match/UriText" "HIGHEST" "[I") : Jvm.Cond).before a0 Z = true := hw _ (List.mem_of_getElem? (i := 15) rfl)
theorem w16 {a0 : Array Value} {Z : State} (hw : Hw a0 Z) : ((Jvm.Cond.laysStatic "com/example/deucalion/deucalion/match/UriText" "HIGHEST" "[I") : Jvm.Cond).before a0 Z = true := hw _ (List.mem_of_getElem? (i := 16) rfl)
theorem w17 {a0 : Array Value} {Z : State} (hw : Hw a0 Z) : ((Jvm.Cond.fieldLink "com/example/deucalion/deucalion/match/UriText" (72 : Nat) "com/example/deucalion/deucalion/match/UriText" "AFTER" "[I") : Jvm.Cond).before a0 Z = true := hw _ (List.mem_of_getElem? (i := 17) rfl)
theorem w18 {a0 : Array Value} {Z : State} (hw : Hw a0 Z) : ((Jvm.Cond.laysStatic "com/example/deucalion/deucalion/match/UriText" "AFTER" "[I") : Jvm.Cond).before a0 Z = true := hw _ (List.mem_of_getElem? (i := 18) rfl)
theorem pn0 : plainName "com/example/deucalion/deucalion/match/UriTextNextDecodingPinLaw" = true := by first | (simp [plainName, overriddenIn]; done) | decide +kernel
theorem pd0 : parseMethodDescriptor "(III)Z" = some ⟨[.int, .int, .int], some .boolean⟩ := by decide +kernel
theorem d1_0 : decode prog_28_method_10_code 0 = .ok (.iload_n 1, 1) := by decide +kernel
theorem d1_1 : decode prog_28_method_10_code 1 = .ok (.sipush 256, 3) := by decide +kernel
theorem d1_4 : decode prog_28_method_10_code 4 = .ok (.isub, 1) := by decide +kernel
theorem d1_5 : decode prog_28_method_10_code 5 = .ok (.istore_n 2, 1) := by decide +kernel
theorem d1_6 : decode prog_28_method_10_code 6 = .ok (.iconst (-1), 1) := by decide +kernel
theorem d1_7 : decode prog_28_method_10_code 7 = .ok (.istore_n 3, 1) := by decide +kernel
theorem d1_8 : decode prog_28_method_10_code 8 = .ok (.iload_n 0, 1) := by decide +kernel
theorem d1_9 : decode prog_28_method_10_code 9 = .ok (.ifCond .eq 30, 3) := by decide +kernel
theorem d1_12 : decode prog_28_method_10_code 12 = .ok (.iload_n 2, 1) := by decide +kernel
theorem d1_13 : decode prog_28_method_10_code 13 = .ok (.getstatic 66, 3) := by decide +kernel
theorem d1_16 : decode prog_28_method_10_code 16 = .ok (.iload_n 0, 1) := by decide +kernel
theorem d1_17 : decode prog_28_method_10_code 17 = .ok (.iaload, 1) := by decide +kernel
theorem d1_18 : decode prog_28_method_10_code 18 = .ok (.if_icmp .lt 181, 3) := by decide +kernel
theorem d1_21 : decode prog_28_method_10_code 21 = .ok (.iload_n 2, 1) := by decide +kernel
theorem d1_22 : decode prog_28_method_10_code 22 = .ok (.getstatic 69, 3) := by decide +kernel
theorem d1_25 : decode prog_28_method_10_code 25 = .ok (.iload_n 0, 1) := by decide +kernel
theorem d1_26 : decode prog_28_method_10_code 26 = .ok (.iaload, 1) := by decide +kernel
theorem d1_27 : decode prog_28_method_10_code 27 = .ok (.if_icmp .gt 172, 3) := by decide +kernel
theorem d1_30 : decode prog_28_method_10_code 30 = .ok (.getstatic 72, 3) := by decide +kernel
theorem d1_33 : decode prog_28_method_10_code 33 = .ok (.iload_n 0, 1) := by decide +kernel
theorem d1_34 : decode prog_28_method_10_code 34 = .ok (.iaload, 1) := by decide +kernel
theorem d1_35 : decode prog_28_method_10_code 35 = .ok (.istore_n 3, 1) := by decide +kernel
theorem d1_36 : decode prog_28_method_10_code 36 = .ok (.goto 163, 3) := by decide +kernel
theorem d1_39 : decode prog_28_method_10_code 39 = .ok (.iload_n 1, 1) := by decide +kernel
theorem d1_40 : decode prog_28_method_10_code 40 = .ok (.ifCond .lt 27, 3) := by decide +kernel
theorem d1_43 : decode prog_28_method_10_code 43 = .ok (.iload_n 1, 1) := by decide +kernel
theorem d1_44 : decode prog_28_method_10_code 44 = .ok (.sipush 128, 3) := by decide +kernel
theorem d1_47 : decode prog_28_method_10_code 47 = .ok (.if_icmp .ge 20, 3) := by decide +kernel
theorem d1_50 : decode prog_28_method_10_code 50 = .ok (.getstatic 75, 3) := by decide +kernel
theorem d1_53 : decode prog_28_method_10_code 53 = .ok (.iload_n 1, 1) := by decide +kernel
theorem d1_54 : decode prog_28_method_10_code 54 = .ok (.baload, 1) := by decide +kernel
theorem d1_55 : decode prog_28_method_10_code 55 = .ok (.ifCond .eq 7, 3) := by decide +kernel
theorem d1_58 : decode prog_28_method_10_code 58 = .ok (.iconst 0, 1) := by decide +kernel
theorem d1_59 : decode prog_28_method_10_code 59 = .ok (.goto 4, 3) := by decide +kernel
theorem d1_62 : decode prog_28_method_10_code 62 = .ok (.iconst (-1), 1) := by decide +kernel
theorem d1_63 : decode prog_28_method_10_code 63 = .ok (.istore_n 3, 1) := by decide +kernel
theorem d1_64 : decode prog_28_method_10_code 64 = .ok (.goto 135, 3) := by decide +kernel
theorem d1_67 : decode prog_28_method_10_code 67 = .ok (.iload_n 2, 1) := by decide +kernel
theorem d1_68 : decode prog_28_method_10_code 68 = .ok (.ifCond .lt 27, 3) := by decide +kernel
theorem d1_71 : decode prog_28_method_10_code 71 = .ok (.iload_n 2, 1) := by decide +kernel
theorem d1_72 : decode prog_28_method_10_code 72 = .ok (.sipush 128, 3) := by decide +kernel
theorem d1_75 : decode prog_28_method_10_code 75 = .ok (.if_icmp .ge 20, 3) := by decide +kernel
theorem d1_78 : decode prog_28_method_10_code 78 = .ok (.getstatic 75, 3) := by decide +kernel
theorem d1_81 : decode prog_28_method_10_code 81 = .ok (.iload_n 2, 1) := by decide +kernel
theorem d1_82 : decode prog_28_method_10_code 82 = .ok (.baload, 1) := by decide +kernel
theorem d1_83 : decode prog_28_method_10_code 83 = .ok (.ifCond .eq 7, 3) := by decide +kernel
theorem d1_86 : decode prog_28_method_10_code 86 = .ok (.iconst (-1), 1) := by decide +kernel
theorem d1_87 : decode prog_28_method_10_code 87 = .ok (.goto 4, 3) := by decide +kernel
theorem d1_90 : decode prog_28_method_10_code 90 = .ok (.iconst 0, 1) := by decide +kernel
theorem d1_91 : decode prog_28_method_10_code 91 = .ok (.istore_n 3, 1) := by decide +kernel
theorem d1_92 : decode prog_28_method_10_code 92 = .ok (.goto 107, 3) := by decide +kernel
theorem d1_95 : decode prog_28_method_10_code 95 = .ok (.iload_n 2, 1) := by decide +kernel
theorem d1_96 : decode prog_28_method_10_code 96 = .ok (.sipush 194, 3) := by decide +kernel
theorem d1_99 : decode prog_28_method_10_code 99 = .ok (.if_icmp .lt 15, 3) := by decide +kernel
theorem d1_102 : decode prog_28_method_10_code 102 = .ok (.iload_n 2, 1) := by decide +kernel
theorem d1_103 : decode prog_28_method_10_code 103 = .ok (.sipush 223, 3) := by decide +kernel
theorem d1_106 : decode prog_28_method_10_code 106 = .ok (.if_icmp .gt 8, 3) := by decide +kernel
theorem d1_109 : decode prog_28_method_10_code 109 = .ok (.iconst 1, 1) := by decide +kernel
theorem d1_110 : decode prog_28_method_10_code 110 = .ok (.istore_n 3, 1) := by decide +kernel
theorem d1_111 : decode prog_28_method_10_code 111 = .ok (.goto 88, 3) := by decide +kernel
theorem d1_114 : decode prog_28_method_10_code 114 = .ok (.iload_n 2, 1) := by decide +kernel
theorem d1_115 : decode prog_28_method_10_code 115 = .ok (.sipush 224, 3) := by decide +kernel
theorem d1_118 : decode prog_28_method_10_code 118 = .ok (.if_icmp .ne 8, 3) := by decide +kernel
theorem d1_121 : decode prog_28_method_10_code 121 = .ok (.iconst 4, 1) := by decide +kernel
theorem d1_122 : decode prog_28_method_10_code 122 = .ok (.istore_n 3, 1) := by decide +kernel
theorem d1_123 : decode prog_28_method_10_code 123 = .ok (.goto 76, 3) := by decide +kernel
theorem d1_126 : decode prog_28_method_10_code 126 = .ok (.iload_n 2, 1) := by decide +kernel
theorem d1_127 : decode prog_28_method_10_code 127 = .ok (.sipush 237, 3) := by decide +kernel
theorem d1_130 : decode prog_28_method_10_code 130 = .ok (.if_icmp .ne 8, 3) := by decide +kernel
theorem d1_133 : decode prog_28_method_10_code 133 = .ok (.iconst 5, 1) := by decide +kernel
theorem d1_134 : decode prog_28_method_10_code 134 = .ok (.istore_n 3, 1) := by decide +kernel
theorem d1_135 : decode prog_28_method_10_code 135 = .ok (.goto 64, 3) := by decide +kernel
theorem d1_138 : decode prog_28_method_10_code 138 = .ok (.iload_n 2, 1) := by decide +kernel
theorem d1_139 : decode prog_28_method_10_code 139 = .ok (.sipush 225, 3) := by decide +kernel
theorem d1_142 : decode prog_28_method_10_code 142 = .ok (.if_icmp .lt 15, 3) := by decide +kernel
theorem d1_145 : decode prog_28_method_10_code 145 = .ok (.iload_n 2, 1) := by decide +kernel
theorem d1_146 : decode prog_28_method_10_code 146 = .ok (.sipush 239, 3) := by decide +kernel
theorem d1_149 : decode prog_28_method_10_code 149 = .ok (.if_icmp .gt 8, 3) := by decide +kernel
theorem d1_152 : decode prog_28_method_10_code 152 = .ok (.iconst 2, 1) := by decide +kernel
theorem d1_153 : decode prog_28_method_10_code 153 = .ok (.istore_n 3, 1) := by decide +kernel
theorem d1_154 : decode prog_28_method_10_code 154 = .ok (.goto 45, 3) := by decide +kernel
theorem d1_157 : decode prog_28_method_10_code 157 = .ok (.iload_n 2, 1) := by decide +kernel
theorem d1_158 : decode prog_28_method_10_code 158 = .ok (.sipush 240, 3) := by decide +kernel
theorem d1_161 : decode prog_28_method_10_code 161 = .ok (.if_icmp .ne 9, 3) := by decide +kernel
theorem d1_164 : decode prog_28_method_10_code 164 = .ok (.bipush 6, 2) := by decide +kernel
theorem d1_166 : decode prog_28_method_10_code 166 = .ok (.istore_n 3, 1) := by decide +kernel
theorem d1_167 : decode prog_28_method_10_code 167 = .ok (.goto 32, 3) := by decide +kernel
theorem d1_170 : decode prog_28_method_10_code 170 = .ok (.iload_n 2, 1) := by decide +kernel
theorem d1_171 : decode prog_28_method_10_code 171 = .ok (.sipush 244, 3) := by decide +kernel
theorem d1_174 : decode prog_28_method_10_code 174 = .ok (.if_icmp .ne 9, 3) := by decide +kernel
theorem d1_177 : decode prog_28_method_10_code 177 = .ok (.bipush 7, 2) := by decide +kernel
theorem d1_179 : decode prog_28_method_10_code 179 = .ok (.istore_n 3, 1) := by decide +kernel
theorem d1_180 : decode prog_28_method_10_code 180 = .ok (.goto 19, 3) := by decide +kernel
theorem d1_183 : decode prog_28_method_10_code 183 = .ok (.iload_n 2, 1) := by decide +kernel
theorem d1_184 : decode prog_28_method_10_code 184 = .ok (.sipush 241, 3) := by decide +kernel
theorem d1_187 : decode prog_28_method_10_code 187 = .ok (.if_icmp .lt 12, 3) := by decide +kernel
theorem d1_190 : decode prog_28_method_10_code 190 = .ok (.iload_n 2, 1) := by decide +kernel
theorem d1_191 : decode prog_28_method_10_code 191 = .ok (.sipush 243, 3) := by decide +kernel
theorem d1_194 : decode prog_28_method_10_code 194 = .ok (.if_icmp .gt 5, 3) := by decide +kernel
theorem d1_197 : decode prog_28_method_10_code 197 = .ok (.iconst 3, 1) := by decide +kernel
theorem d1_198 : decode prog_28_method_10_code 198 = .ok (.istore_n 3, 1) := by decide +kernel
theorem d1_199 : decode prog_28_method_10_code 199 = .ok (.iload_n 3, 1) := by decide +kernel
theorem d1_200 : decode prog_28_method_10_code 200 = .ok (.ireturn, 1) := by decide +kernel
theorem pn1 : plainName "com/example/deucalion/deucalion/match/UriText" = true := by first | (simp [plainName, overriddenIn]; done) | decide +kernel
theorem pd1 : parseMethodDescriptor "(II)I" = some ⟨[.int, .int], (some .int)⟩ := by decide +kernel
theorem d2_0 : decode method_4_code 0 = .ok (.iload_n 1, 1) := by decide +kernel
theorem d2_1 : decode method_4_code 1 = .ok (.ifCond .lt 14, 3) := by decide +kernel
theorem d2_4 : decode method_4_code 4 = .ok (.iload_n 1, 1) := by decide +kernel
theorem d2_5 : decode method_4_code 5 = .ok (.sipush 128, 3) := by decide +kernel
theorem d2_8 : decode method_4_code 8 = .ok (.if_icmp .ge 7, 3) := by decide +kernel
theorem d2_11 : decode method_4_code 11 = .ok (.iconst 1, 1) := by decide +kernel
theorem d2_12 : decode method_4_code 12 = .ok (.goto 4, 3) := by decide +kernel
theorem d2_15 : decode method_4_code 15 = .ok (.iconst 0, 1) := by decide +kernel
theorem d2_16 : decode method_4_code 16 = .ok (.istore_n 2, 1) := by decide +kernel
theorem d2_17 : decode method_4_code 17 = .ok (.iload_n 1, 1) := by decide +kernel
theorem d2_18 : decode method_4_code 18 = .ok (.sipush 256, 3) := by decide +kernel
theorem d2_21 : decode method_4_code 21 = .ok (.if_icmp .lt 14, 3) := by decide +kernel
theorem d2_24 : decode method_4_code 24 = .ok (.iload_n 1, 1) := by decide +kernel
theorem d2_25 : decode method_4_code 25 = .ok (.sipush 512, 3) := by decide +kernel
theorem d2_28 : decode method_4_code 28 = .ok (.if_icmp .ge 7, 3) := by decide +kernel
theorem d2_31 : decode method_4_code 31 = .ok (.iconst 1, 1) := by decide +kernel
theorem d2_32 : decode method_4_code 32 = .ok (.goto 4, 3) := by decide +kernel
theorem d2_35 : decode method_4_code 35 = .ok (.iconst 0, 1) := by decide +kernel
theorem d2_36 : decode method_4_code 36 = .ok (.istore_n 3, 1) := by decide +kernel
theorem d2_37 : decode method_4_code 37 = .ok (.iload_n 2, 1) := by decide +kernel
theorem d2_38 : decode method_4_code 38 = .ok (.ifCond .ne 9, 3) := by decide +kernel
theorem d2_41 : decode method_4_code 41 = .ok (.iload_n 3, 1) := by decide +kernel
theorem d2_42 : decode method_4_code 42 = .ok (.ifCond .ne 5, 3) := by decide +kernel
theorem d2_45 : decode method_4_code 45 = .ok (.iconst (-1), 1) := by decide +kernel
theorem d2_46 : decode method_4_code 46 = .ok (.ireturn, 1) := by decide +kernel
theorem d2_47 : decode method_4_code 47 = .ok (.iload_n 0, 1) := by decide +kernel
theorem d2_48 : decode method_4_code 48 = .ok (.ifCond .ne 133, 3) := by decide +kernel
theorem d2_51 : decode method_4_code 51 = .ok (.iload_n 2, 1) := by decide +kernel
theorem d2_52 : decode method_4_code 52 = .ok (.ifCond .eq 16, 3) := by decide +kernel
theorem d2_55 : decode method_4_code 55 = .ok (.iload_n 1, 1) := by decide +kernel
theorem d2_56 : decode method_4_code 56 = .ok (.invokestatic 18, 3) := by decide +kernel
theorem d2_59 : decode method_4_code 59 = .ok (.ifCond .eq 7, 3) := by decide +kernel
theorem d2_62 : decode method_4_code 62 = .ok (.iconst 0, 1) := by decide +kernel
theorem d2_63 : decode method_4_code 63 = .ok (.goto 4, 3) := by decide +kernel
theorem d2_66 : decode method_4_code 66 = .ok (.iconst (-1), 1) := by decide +kernel
theorem d2_67 : decode method_4_code 67 = .ok (.ireturn, 1) := by decide +kernel
theorem d2_68 : decode method_4_code 68 = .ok (.iload_n 1, 1) := by decide +kernel
theorem d2_69 : decode method_4_code 69 = .ok (.sipush 256, 3) := by decide +kernel
theorem d2_72 : decode method_4_code 72 = .ok (.isub, 1) := by decide +kernel
theorem d2_73 : decode method_4_code 73 = .ok (.istore 4, 2) := by decide +kernel
theorem d2_75 : decode method_4_code 75 = .ok (.iload 4, 2) := by decide +kernel
theorem d2_77 : decode method_4_code 77 = .ok (.sipush 128, 3) := by decide +kernel
theorem d2_80 : decode method_4_code 80 = .ok (.if_icmp .ge 17, 3) := by decide +kernel
theorem d2_83 : decode method_4_code 83 = .ok (.iload 4, 2) := by decide +kernel
theorem d2_85 : decode method_4_code 85 = .ok (.invokestatic 18, 3) := by decide +kernel
theorem d2_88 : decode method_4_code 88 = .ok (.ifCond .eq 7, 3) := by decide +kernel
theorem d2_91 : decode method_4_code 91 = .ok (.iconst (-1), 1) := by decide +kernel
theorem d2_92 : decode method_4_code 92 = .ok (.goto 4, 3) := by decide +kernel
theorem d2_95 : decode method_4_code 95 = .ok (.iconst 0, 1) := by decide +kernel
theorem d2_96 : decode method_4_code 96 = .ok (.ireturn, 1) := by decide +kernel
theorem d2_97 : decode method_4_code 97 = .ok (.iload 4, 2) := by decide +kernel
theorem d2_99 : decode method_4_code 99 = .ok (.sipush 194, 3) := by decide +kernel
theorem d2_102 : decode method_4_code 102 = .ok (.if_icmp .ge 5, 3) := by decide +kernel
theorem d2_105 : decode method_4_code 105 = .ok (.iconst (-1), 1) := by decide +kernel
theorem d2_106 : decode method_4_code 106 = .ok (.ireturn, 1) := by decide +kernel
theorem d2_107 : decode method_4_code 107 = .ok (.iload 4, 2) := by decide +kernel
theorem d2_109 : decode method_4_code 109 = .ok (.sipush 223, 3) := by decide +kernel
theorem d2_112 : decode method_4_code 112 = .ok (.if_icmp .gt 5, 3) := by decide +kernel
theorem d2_115 : decode method_4_code 115 = .ok (.iconst 1, 1) := by decide +kernel
theorem d2_116 : decode method_4_code 116 = .ok (.ireturn, 1) := by decide +kernel
theorem d2_117 : decode method_4_code 117 = .ok (.iload 4, 2) := by decide +kernel
theorem d2_119 : decode method_4_code 119 = .ok (.sipush 224, 3) := by decide +kernel
theorem d2_122 : decode method_4_code 122 = .ok (.if_icmp .ne 5, 3) := by decide +kernel
theorem d2_125 : decode method_4_code 125 = .ok (.iconst 4, 1) := by decide +kernel
theorem d2_126 : decode method_4_code 126 = .ok (.ireturn, 1) := by decide +kernel
theorem d2_127 : decode method_4_code 127 = .ok (.iload 4, 2) := by decide +kernel
theorem d2_129 : decode method_4_code 129 = .ok (.sipush 237, 3) := by decide +kernel
theorem d2_132 : decode method_4_code 132 = .ok (.if_icmp .ne 5, 3) := by decide +kernel
theorem d2_135 : decode method_4_code 135 = .ok (.iconst 5, 1) := by decide +kernel
theorem d2_136 : decode method_4_code 136 = .ok (.ireturn, 1) := by decide +kernel
theorem d2_137 : decode method_4_code 137 = .ok (.iload 4, 2) := by decide +kernel
theorem d2_139 : decode method_4_code 139 = .ok (.sipush 239, 3) := by decide +kernel
theorem d2_142 : decode method_4_code 142 = .ok (.if_icmp .gt 5, 3) := by decide +kernel
theorem d2_145 : decode method_4_code 145 = .ok (.iconst 2, 1) := by decide +kernel
theorem d2_146 : decode method_4_code 146 = .ok (.ireturn, 1) := by decide +kernel
theorem d2_147 : decode method_4_code 147 = .ok (.iload 4, 2) := by decide +kernel
theorem d2_149 : decode method_4_code 149 = .ok (.sipush 240, 3) := by decide +kernel
theorem d2_152 : decode method_4_code 152 = .ok (.if_icmp .ne 6, 3) := by decide +kernel
theorem d2_155 : decode method_4_code 155 = .ok (.bipush 6, 2) := by decide +kernel
theorem d2_157 : decode method_4_code 157 = .ok (.ireturn, 1) := by decide +kernel
theorem d2_158 : decode method_4_code 158 = .ok (.iload 4, 2) := by decide +kernel
theorem d2_160 : decode method_4_code 160 = .ok (.sipush 243, 3) := by decide +kernel
theorem d2_163 : decode method_4_code 163 = .ok (.if_icmp .gt 5, 3) := by decide +kernel
theorem d2_166 : decode method_4_code 166 = .ok (.iconst 3, 1) := by decide +kernel
theorem d2_167 : decode method_4_code 167 = .ok (.ireturn, 1) := by decide +kernel
theorem d2_168 : decode method_4_code 168 = .ok (.iload 4, 2) := by decide +kernel
theorem d2_170 : decode method_4_code 170 = .ok (.sipush 244, 3) := by decide +kernel
theorem d2_173 : decode method_4_code 173 = .ok (.if_icmp .ne 6, 3) := by decide +kernel
theorem d2_176 : decode method_4_code 176 = .ok (.bipush 7, 2) := by decide +kernel
theorem d2_178 : decode method_4_code 178 = .ok (.ireturn, 1) := by decide +kernel
theorem d2_179 : decode method_4_code 179 = .ok (.iconst (-1), 1) := by decide +kernel
theorem d2_180 : decode method_4_code 180 = .ok (.ireturn, 1) := by decide +kernel
theorem d2_181 : decode method_4_code 181 = .ok (.iload_n 2, 1) := by decide +kernel
theorem d2_182 : decode method_4_code 182 = .ok (.ifCond .eq 5, 3) := by decide +kernel
theorem d2_185 : decode method_4_code 185 = .ok (.iconst (-1), 1) := by decide +kernel
theorem d2_186 : decode method_4_code 186 = .ok (.ireturn, 1) := by decide +kernel
theorem d2_187 : decode method_4_code 187 = .ok (.iload_n 1, 1) := by decide +kernel
theorem d2_188 : decode method_4_code 188 = .ok (.sipush 256, 3) := by decide +kernel
theorem d2_191 : decode method_4_code 191 = .ok (.isub, 1) := by decide +kernel
theorem d2_192 : decode method_4_code 192 = .ok (.istore 4, 2) := by decide +kernel
theorem d2_194 : decode method_4_code 194 = .ok (.iload_n 0, 1) := by decide +kernel
theorem d2_195 : decode method_4_code 195 = .ok (.iconst 1, 1) := by decide +kernel
theorem d2_196 : decode method_4_code 196 = .ok (.if_icmp .ne 25, 3) := by decide +kernel
theorem d2_199 : decode method_4_code 199 = .ok (.iload 4, 2) := by decide +kernel
theorem d2_201 : decode method_4_code 201 = .ok (.sipush 128, 3) := by decide +kernel
theorem d2_204 : decode method_4_code 204 = .ok (.if_icmp .lt 15, 3) := by decide +kernel
theorem d2_207 : decode method_4_code 207 = .ok (.iload 4, 2) := by decide +kernel
theorem d2_209 : decode method_4_code 209 = .ok (.sipush 191, 3) := by decide +kernel
theorem d2_212 : decode method_4_code 212 = .ok (.if_icmp .gt 7, 3) := by decide +kernel
theorem d2_215 : decode method_4_code 215 = .ok (.iconst 0, 1) := by decide +kernel
theorem d2_216 : decode method_4_code 216 = .ok (.goto 4, 3) := by decide +kernel
theorem d2_219 : decode method_4_code 219 = .ok (.iconst (-1), 1) := by decide +kernel
theorem d2_220 : decode method_4_code 220 = .ok (.ireturn, 1) := by decide +kernel
theorem d2_221 : decode method_4_code 221 = .ok (.iload_n 0, 1) := by decide +kernel
theorem d2_222 : decode method_4_code 222 = .ok (.iconst 2, 1) := by decide +kernel
theorem d2_223 : decode method_4_code 223 = .ok (.if_icmp .ne 25, 3) := by decide +kernel
theorem d2_226 : decode method_4_code 226 = .ok (.iload 4, 2) := by decide +kernel
theorem d2_228 : decode method_4_code 228 = .ok (.sipush 128, 3) := by decide +kernel
theorem d2_231 : decode method_4_code 231 = .ok (.if_icmp .lt 15, 3) := by decide +kernel
theorem d2_234 : decode method_4_code 234 = .ok (.iload 4, 2) := by decide +kernel
theorem d2_236 : decode method_4_code 236 = .ok (.sipush 191, 3) := by decide +kernel
theorem d2_239 : decode method_4_code 239 = .ok (.if_icmp .gt 7, 3) := by decide +kernel
theorem d2_242 : decode method_4_code 242 = .ok (.iconst 1, 1) := by decide +kernel
theorem d2_243 : decode method_4_code 243 = .ok (.goto 4, 3) := by decide +kernel
theorem d2_246 : decode method_4_code 246 = .ok (.iconst (-1), 1) := by decide +kernel
theorem d2_247 : decode method_4_code 247 = .ok (.ireturn, 1) := by decide +kernel
theorem d2_248 : decode method_4_code 248 = .ok (.iload_n 0, 1) := by decide +kernel
theorem d2_249 : decode method_4_code 249 = .ok (.iconst 3, 1) := by decide +kernel
theorem d2_250 : decode method_4_code 250 = .ok (.if_icmp .ne 25, 3) := by decide +kernel
theorem d2_253 : decode method_4_code 253 = .ok (.iload 4, 2) := by decide +kernel
theorem d2_255 : decode method_4_code 255 = .ok (.sipush 128, 3) := by decide +kernel
theorem d2_258 : decode method_4_code 258 = .ok (.if_icmp .lt 15, 3) := by decide +kernel
theorem d2_261 : decode method_4_code 261 = .ok (.iload 4, 2) := by decide +kernel
theorem d2_263 : decode method_4_code 263 = .ok (.sipush 191, 3) := by decide +kernel
theorem d2_266 : decode method_4_code 266 = .ok (.if_icmp .gt 7, 3) := by decide +kernel
theorem d2_269 : decode method_4_code 269 = .ok (.iconst 2, 1) := by decide +kernel
theorem d2_270 : decode method_4_code 270 = .ok (.goto 4, 3) := by decide +kernel
theorem d2_273 : decode method_4_code 273 = .ok (.iconst (-1), 1) := by decide +kernel
theorem d2_274 : decode method_4_code 274 = .ok (.ireturn, 1) := by decide +kernel
theorem d2_275 : decode method_4_code 275 = .ok (.iload_n 0, 1) := by decide +kernel
theorem d2_276 : decode method_4_code 276 = .ok (.iconst 4, 1) := by decide +kernel
theorem d2_277 : decode method_4_code 277 = .ok (.if_icmp .ne 25, 3) := by decide +kernel
theorem d2_280 : decode method_4_code 280 = .ok (.iload 4, 2) := by decide +kernel
theorem d2_282 : decode method_4_code 282 = .ok (.sipush 160, 3) := by decide +kernel
theorem d2_285 : decode method_4_code 285 = .ok (.if_icmp .lt 15, 3) := by decide +kernel
theorem d2_288 : decode method_4_code 288 = .ok (.iload 4, 2) := by decide +kernel
theorem d2_290 : decode method_4_code 290 = .ok (.sipush 191, 3) := by decide +kernel
theorem d2_293 : decode method_4_code 293 = .ok (.if_icmp .gt 7, 3) := by decide +kernel
theorem d2_296 : decode method_4_code 296 = .ok (.iconst 1, 1) := by decide +kernel
theorem d2_297 : decode method_4_code 297 = .ok (.goto 4, 3) := by decide +kernel
theorem d2_300 : decode method_4_code 300 = .ok (.iconst (-1), 1) := by decide +kernel
theorem d2_301 : decode method_4_code 301 = .ok (.ireturn, 1) := by decide +kernel
theorem d2_302 : decode method_4_code 302 = .ok (.iload_n 0, 1) := by decide +kernel
theorem d2_303 : decode method_4_code 303 = .ok (.iconst 5, 1) := by decide +kernel
theorem d2_304 : decode method_4_code 304 = .ok (.if_icmp .ne 25, 3) := by decide +kernel
theorem d2_307 : decode method_4_code 307 = .ok (.iload 4, 2) := by decide +kernel
theorem d2_309 : decode method_4_code 309 = .ok (.sipush 128, 3) := by decide +kernel
theorem d2_312 : decode method_4_code 312 = .ok (.if_icmp .lt 15, 3) := by decide +kernel
theorem d2_315 : decode method_4_code 315 = .ok (.iload 4, 2) := by decide +kernel
theorem d2_317 : decode method_4_code 317 = .ok (.sipush 159, 3) := by decide +kernel
theorem d2_320 : decode method_4_code 320 = .ok (.if_icmp .gt 7, 3) := by decide +kernel
theorem d2_323 : decode method_4_code 323 = .ok (.iconst 1, 1) := by decide +kernel
theorem d2_324 : decode method_4_code 324 = .ok (.goto 4, 3) := by decide +kernel
theorem d2_327 : decode method_4_code 327 = .ok (.iconst (-1), 1) := by decide +kernel
theorem d2_328 : decode method_4_code 328 = .ok (.ireturn, 1) := by decide +kernel
theorem d2_329 : decode method_4_code 329 = .ok (.iload_n 0, 1) := by decide +kernel
theorem d2_330 : decode method_4_code 330 = .ok (.bipush 6, 2) := by decide +kernel
theorem d2_332 : decode method_4_code 332 = .ok (.if_icmp .ne 25, 3) := by decide +kernel
theorem d2_335 : decode method_4_code 335 = .ok (.iload 4, 2) := by decide +kernel
theorem d2_337 : decode method_4_code 337 = .ok (.sipush 144, 3) := by decide +kernel
theorem d2_340 : decode method_4_code 340 = .ok (.if_icmp .lt 15, 3) := by decide +kernel
theorem d2_343 : decode method_4_code 343 = .ok (.iload 4, 2) := by decide +kernel
theorem d2_345 : decode method_4_code 345 = .ok (.sipush 191, 3) := by decide +kernel
theorem d2_348 : decode method_4_code 348 = .ok (.if_icmp .gt 7, 3) := by decide +kernel
theorem d2_351 : decode method_4_code 351 = .ok (.iconst 2, 1) := by decide +kernel
theorem d2_352 : decode method_4_code 352 = .ok (.goto 4, 3) := by decide +kernel
theorem d2_355 : decode method_4_code 355 = .ok (.iconst (-1), 1) := by decide +kernel
theorem d2_356 : decode method_4_code 356 = .ok (.ireturn, 1) := by decide +kernel
theorem d2_357 : decode method_4_code 357 = .ok (.iload 4, 2) := by decide +kernel
theorem d2_359 : decode method_4_code 359 = .ok (.sipush 128, 3) := by decide +kernel
theorem d2_362 : decode method_4_code 362 = .ok (.if_icmp .lt 15, 3) := by decide +kernel
theorem d2_365 : decode method_4_code 365 = .ok (.iload 4, 2) := by decide +kernel
theorem d2_367 : decode method_4_code 367 = .ok (.sipush 143, 3) := by decide +kernel
theorem d2_370 : decode method_4_code 370 = .ok (.if_icmp .gt 7, 3) := by decide +kernel
theorem d2_373 : decode method_4_code 373 = .ok (.iconst 2, 1) := by decide +kernel
theorem d2_374 : decode method_4_code 374 = .ok (.goto 4, 3) := by decide +kernel
theorem d2_377 : decode method_4_code 377 = .ok (.iconst (-1), 1) := by decide +kernel
theorem d2_378 : decode method_4_code 378 = .ok (.ireturn, 1) := by decide +kernel
theorem pn2 : plainName "com/example/deucalion/deucalion/match/UriTextNextDecodingPinLaw" = true := by first | (simp [plainName, overriddenIn]; done) | decide +kernel
theorem pd2 : parseMethodDescriptor "(II)I" = some ⟨[.int, .int], (some .int)⟩ := by decide +kernel
theorem d3_0 : decode method_3_code 0 = .ok (.iload_n 0, 1) := by decide +kernel
theorem d3_1 : decode method_3_code 1 = .ok (.bipush 65, 2) := by decide +kernel
theorem d3_3 : decode method_3_code 3 = .ok (.if_icmp .lt 9, 3) := by decide +kernel
theorem d3_6 : decode method_3_code 6 = .ok (.iload_n 0, 1) := by decide +kernel
theorem d3_7 : decode method_3_code 7 = .ok (.bipush 90, 2) := by decide +kernel
theorem d3_9 : decode method_3_code 9 = .ok (.if_icmp .le 51, 3) := by decide +kernel
theorem d3_12 : decode method_3_code 12 = .ok (.iload_n 0, 1) := by decide +kernel
theorem d3_13 : decode method_3_code 13 = .ok (.bipush 97, 2) := by decide +kernel
theorem d3_15 : decode method_3_code 15 = .ok (.if_icmp .lt 9, 3) := by decide +kernel
theorem d3_18 : decode method_3_code 18 = .ok (.iload_n 0, 1) := by decide +kernel
theorem d3_19 : decode method_3_code 19 = .ok (.bipush 122, 2) := by decide +kernel
theorem d3_21 : decode method_3_code 21 = .ok (.if_icmp .le 39, 3) := by decide +kernel
theorem d3_24 : decode method_3_code 24 = .ok (.iload_n 0, 1) := by decide +kernel
theorem d3_25 : decode method_3_code 25 = .ok (.bipush 48, 2) := by decide +kernel
theorem d3_27 : decode method_3_code 27 = .ok (.if_icmp .lt 9, 3) := by decide +kernel
theorem d3_30 : decode method_3_code 30 = .ok (.iload_n 0, 1) := by decide +kernel
theorem d3_31 : decode method_3_code 31 = .ok (.bipush 57, 2) := by decide +kernel
theorem d3_33 : decode method_3_code 33 = .ok (.if_icmp .le 27, 3) := by decide +kernel
theorem d3_36 : decode method_3_code 36 = .ok (.iload_n 0, 1) := by decide +kernel
theorem d3_37 : decode method_3_code 37 = .ok (.bipush 45, 2) := by decide +kernel
theorem d3_39 : decode method_3_code 39 = .ok (.if_icmp .eq 21, 3) := by decide +kernel
theorem d3_42 : decode method_3_code 42 = .ok (.iload_n 0, 1) := by decide +kernel
theorem d3_43 : decode method_3_code 43 = .ok (.bipush 46, 2) := by decide +kernel
theorem d3_45 : decode method_3_code 45 = .ok (.if_icmp .eq 15, 3) := by decide +kernel
theorem d3_48 : decode method_3_code 48 = .ok (.iload_n 0, 1) := by decide +kernel
theorem d3_49 : decode method_3_code 49 = .ok (.bipush 95, 2) := by decide +kernel
theorem d3_51 : decode method_3_code 51 = .ok (.if_icmp .eq 9, 3) := by decide +kernel
theorem d3_54 : decode method_3_code 54 = .ok (.iload_n 0, 1) := by decide +kernel
theorem d3_55 : decode method_3_code 55 = .ok (.bipush 126, 2) := by decide +kernel
theorem d3_57 : decode method_3_code 57 = .ok (.if_icmp .ne 7, 3) := by decide +kernel
theorem d3_60 : decode method_3_code 60 = .ok (.iconst 1, 1) := by decide +kernel
theorem d3_61 : decode method_3_code 61 = .ok (.goto 4, 3) := by decide +kernel
theorem d3_64 : decode method_3_code 64 = .ok (.iconst 0, 1) := by decide +kernel
theorem d3_65 : decode method_3_code 65 = .ok (.ireturn, 1) := by decide +kernel
theorem pn3 : plainName "com/example/deucalion/deucalion/match/UriTextNextDecodingPinLaw" = true := by first | (simp [plainName, overriddenIn]; done) | decide +kernel
theorem pd3 : parseMethodDescriptor "(I)Z" = some ⟨[.int], (some .boolean)⟩ := by decide +kernel
def T_IS_UNRESERVED (i : Nat) : Int32 := if i < 45 then 0 else if i < 46 then 1 else if i < 47 then 1 else if i < 48 then 0 else if i < 58 then 1 else if i < 65 then 0 else if i < 91 then 1 else if i < 95 then 0 else if i < 96 then 1 else if i < 97 then 0 else if i < 123 then 1 else if i < 124 then 0 else if i < 125 then 0 else if i < 126 then 0 else if i < 127 then 1 else 0
def T_LOWEST (i : Nat) : Int32 := if i < 1 then 0 else if i < 2 then 128 else if i < 3 then 128 else if i < 4 then 128 else if i < 5 then 160 else if i < 6 then 128 else if i < 7 then 144 else 128
def T_HIGHEST (i : Nat) : Int32 := if i < 1 then 0 else if i < 5 then 191 else if i < 6 then 159 else if i < 7 then 191 else 143
def T_AFTER (i : Nat) : Int32 := if i < 1 then 0 else if i < 2 then 0 else if i < 3 then 1 else if i < 4 then 2 else if i < 5 then 1 else if i < 6 then 1 else if i < 7 then 2 else 2
def Facts (Z : State) (a_IS_UNRESERVED a_LOWEST a_HIGHEST a_AFTER : Addr) (k_IS_UNRESERVED : ClassId) (vs_IS_UNRESERVED : List Value) (k_LOWEST : ClassId) (vs_LOWEST : List Value) (k_HIGHEST : ClassId) (vs_HIGHEST : List Value) (k_AFTER : ClassId) (vs_AFTER : List Value) : Prop := (Sta Z Z.heap "com/example/deucalion/deucalion/match/UriText" "IS_UNRESERVED" "[Z" (.ref a_IS_UNRESERVED)) ∧ (Ar Z Z.heap a_IS_UNRESERVED .boolean k_IS_UNRESERVED vs_IS_UNRESERVED) ∧ (Sta Z Z.heap "com/example/deucalion/deucalion/match/UriText" "LOWEST" "[I" (.ref a_LOWEST)) ∧ (Ar Z Z.heap a_LOWEST .int k_LOWEST vs_LOWEST) ∧ (Sta Z Z.heap "com/example/deucalion/deucalion/match/UriText" "HIGHEST" "[I" (.ref a_HIGHEST)) ∧ (Ar Z Z.heap a_HIGHEST .int k_HIGHEST vs_HIGHEST) ∧ (Sta Z Z.heap "com/example/deucalion/deucalion/match/UriText" "AFTER" "[I" (.ref a_AFTER)) ∧ (Ar Z Z.heap a_AFTER .int k_AFTER vs_AFTER) ∧ (vs_IS_UNRESERVED.length = 128) ∧ (vs_LOWEST.length = 8) ∧ (vs_HIGHEST.length = 8) ∧ (vs_AFTER.length = 8) ∧ (∀ i, i < vs_IS_UNRESERVED.length → vs_IS_UNRESERVED[i]? = some (.int (T_IS_UNRESERVED i))) ∧ (∀ i, i < vs_LOWEST.length → vs_LOWEST[i]? = some (.int (T_LOWEST i))) ∧ (∀ i, i < vs_HIGHEST.length → vs_HIGHEST[i]? = some (.int (T_HIGHEST i))) ∧ (∀ i, i < vs_AFTER.length → vs_AFTER[i]? = some (.int (T_AFTER i)))
theorem Facts.S_IS_UNRESERVED {Z : State} {a_IS_UNRESERVED a_LOWEST a_HIGHEST a_AFTER : Addr} {k_IS_UNRESERVED : ClassId} {vs_IS_UNRESERVED : List Value} {k_LOWEST : ClassId} {vs_LOWEST : List Value} {k_HIGHEST : ClassId} {vs_HIGHEST : List Value} {k_AFTER : ClassId} {vs_AFTER : List Value} (F : Facts Z a_IS_UNRESERVED a_LOWEST a_HIGHEST a_AFTER k_IS_UNRESERVED vs_IS_UNRESERVED k_LOWEST vs_LOWEST k_HIGHEST vs_HIGHEST k_AFTER vs_AFTER) : Sta Z Z.heap "com/example/deucalion/deucalion/match/UriText" "IS_UNRESERVED" "[Z" (.ref a_IS_UNRESERVED) := F.1
theorem Facts.A_IS_UNRESERVED {Z : State} {a_IS_UNRESERVED a_LOWEST a_HIGHEST a_AFTER : Addr} {k_IS_UNRESERVED : ClassId} {vs_IS_UNRESERVED : List Value} {k_LOWEST : ClassId} {vs_LOWEST : List Value} {k_HIGHEST : ClassId} {vs_HIGHEST : List Value} {k_AFTER : ClassId} {vs_AFTER : List Value} (F : Facts Z a_IS_UNRESERVED a_LOWEST a_HIGHEST a_AFTER k_IS_UNRESERVED vs_IS_UNRESERVED k_LOWEST vs_LOWEST k_HIGHEST vs_HIGHEST k_AFTER vs_AFTER) : Ar Z Z.heap a_IS_UNRESERVED .boolean k_IS_UNRESERVED vs_IS_UNRESERVED := F.2.1
theorem Facts.S_LOWEST {Z : State} {a_IS_UNRESERVED a_LOWEST a_HIGHEST a_AFTER : Addr} {k_IS_UNRESERVED : ClassId} {vs_IS_UNRESERVED : List Value} {k_LOWEST : ClassId} {vs_LOWEST : List Value} {k_HIGHEST : ClassId} {vs_HIGHEST : List Value} {k_AFTER : ClassId} {vs_AFTER : List Value} (F : Facts Z a_IS_UNRESERVED a_LOWEST a_HIGHEST a_AFTER k_IS_UNRESERVED vs_IS_UNRESERVED k_LOWEST vs_LOWEST k_HIGHEST vs_HIGHEST k_AFTER vs_AFTER) : Sta Z Z.heap "com/example/deucalion/deucalion/match/UriText" "LOWEST" "[I" (.ref a_LOWEST) := F.2.2.1
theorem Facts.A_LOWEST {Z : State} {a_IS_UNRESERVED a_LOWEST a_HIGHEST a_AFTER : Addr} {k_IS_UNRESERVED : ClassId} {vs_IS_UNRESERVED : List Value} {k_LOWEST : ClassId} {vs_LOWEST : List Value} {k_HIGHEST : ClassId} {vs_HIGHEST : List Value} {k_AFTER : ClassId} {vs_AFTER : List Value} (F : Facts Z a_IS_UNRESERVED a_LOWEST a_HIGHEST a_AFTER k_IS_UNRESERVED vs_IS_UNRESERVED k_LOWEST vs_LOWEST k_HIGHEST vs_HIGHEST k_AFTER vs_AFTER) : Ar Z Z.heap a_LOWEST .int k_LOWEST vs_LOWEST := F.2.2.2.1
theorem Facts.S_HIGHEST {Z : State} {a_IS_UNRESERVED a_LOWEST a_HIGHEST a_AFTER : Addr} {k_IS_UNRESERVED : ClassId} {vs_IS_UNRESERVED : List Value} {k_LOWEST : ClassId} {vs_LOWEST : List Value} {k_HIGHEST : ClassId} {vs_HIGHEST : List Value} {k_AFTER : ClassId} {vs_AFTER : List Value} (F : Facts Z a_IS_UNRESERVED a_LOWEST a_HIGHEST a_AFTER k_IS_UNRESERVED vs_IS_UNRESERVED k_LOWEST vs_LOWEST k_HIGHEST vs_HIGHEST k_AFTER vs_AFTER) : Sta Z Z.heap "com/example/deucalion/deucalion/match/UriText" "HIGHEST" "[I" (.ref a_HIGHEST) := F.2.2.2.2.1
theorem Facts.A_HIGHEST {Z : State} {a_IS_UNRESERVED a_LOWEST a_HIGHEST a_AFTER : Addr} {k_IS_UNRESERVED : ClassId} {vs_IS_UNRESERVED : List Value} {k_LOWEST : ClassId} {vs_LOWEST : List Value} {k_HIGHEST : ClassId} {vs_HIGHEST : List Value} {k_AFTER : ClassId} {vs_AFTER : List Value} (F : Facts Z a_IS_UNRESERVED a_LOWEST a_HIGHEST a_AFTER k_IS_UNRESERVED vs_IS_UNRESERVED k_LOWEST vs_LOWEST k_HIGHEST vs_HIGHEST k_AFTER vs_AFTER) : Ar Z Z.heap a_HIGHEST .int k_HIGHEST vs_HIGHEST := F.2.2.2.2.2.1
theorem Facts.S_AFTER {Z : State} {a_IS_UNRESERVED a_LOWEST a_HIGHEST a_AFTER : Addr} {k_IS_UNRESERVED : ClassId} {vs_IS_UNRESERVED : List Value} {k_LOWEST : ClassId} {vs_LOWEST : List Value} {k_HIGHEST : ClassId} {vs_HIGHEST : List Value} {k_AFTER : ClassId} {vs_AFTER : List Value} (F : Facts Z a_IS_UNRESERVED a_LOWEST a_HIGHEST a_AFTER k_IS_UNRESERVED vs_IS_UNRESERVED k_LOWEST vs_LOWEST k_HIGHEST vs_HIGHEST k_AFTER vs_AFTER) : Sta Z Z.heap "com/example/deucalion/deucalion/match/UriText" "AFTER" "[I" (.ref a_AFTER) := F.2.2.2.2.2.2.1
theorem Facts.A_AFTER {Z : State} {a_IS_UNRESERVED a_LOWEST a_HIGHEST a_AFTER : Addr} {k_IS_UNRESERVED : ClassId} {vs_IS_UNRESERVED : List Value} {k_LOWEST : ClassId} {vs_LOWEST : List Value} {k_HIGHEST : ClassId} {vs_HIGHEST : List Value} {k_AFTER : ClassId} {vs_AFTER : List Value} (F : Facts Z a_IS_UNRESERVED a_LOWEST a_HIGHEST a_AFTER k_IS_UNRESERVED vs_IS_UNRESERVED k_LOWEST vs_LOWEST k_HIGHEST vs_HIGHEST k_AFTER vs_AFTER) : Ar Z Z.heap a_AFTER .int k_AFTER vs_AFTER := F.2.2.2.2.2.2.2.1
theorem Facts.N_IS_UNRESERVED {Z : State} {a_IS_UNRESERVED a_LOWEST a_HIGHEST a_AFTER : Addr} {k_IS_UNRESERVED : ClassId} {vs_IS_UNRESERVED : List Value} {k_LOWEST : ClassId} {vs_LOWEST : List Value} {k_HIGHEST : ClassId} {vs_HIGHEST : List Value} {k_AFTER : ClassId} {vs_AFTER : List Value} (F : Facts Z a_IS_UNRESERVED a_LOWEST a_HIGHEST a_AFTER k_IS_UNRESERVED vs_IS_UNRESERVED k_LOWEST vs_LOWEST k_HIGHEST vs_HIGHEST k_AFTER vs_AFTER) : vs_IS_UNRESERVED.length = 128 := F.2.2.2.2.2.2.2.2.1
theorem Facts.N_LOWEST {Z : State} {a_IS_UNRESERVED a_LOWEST a_HIGHEST a_AFTER : Addr} {k_IS_UNRESERVED : ClassId} {vs_IS_UNRESERVED : List Value} {k_LOWEST : ClassId} {vs_LOWEST : List Value} {k_HIGHEST : ClassId} {vs_HIGHEST : List Value} {k_AFTER : ClassId} {vs_AFTER : List Value} (F : Facts Z a_IS_UNRESERVED a_LOWEST a_HIGHEST a_AFTER k_IS_UNRESERVED vs_IS_UNRESERVED k_LOWEST vs_LOWEST k_HIGHEST vs_HIGHEST k_AFTER vs_AFTER) : vs_LOWEST.length = 8 := F.2.2.2.2.2.2.2.2.2.1
theorem Facts.N_HIGHEST {Z : State} {a_IS_UNRESERVED a_LOWEST a_HIGHEST a_AFTER : Addr} {k_IS_UNRESERVED : ClassId} {vs_IS_UNRESERVED : List Value} {k_LOWEST : ClassId} {vs_LOWEST : List Value} {k_HIGHEST : ClassId} {vs_HIGHEST : List Value} {k_AFTER : ClassId} {vs_AFTER : List Value} (F : Facts Z a_IS_UNRESERVED a_LOWEST a_HIGHEST a_AFTER k_IS_UNRESERVED vs_IS_UNRESERVED k_LOWEST vs_LOWEST k_HIGHEST vs_HIGHEST k_AFTER vs_AFTER) : vs_HIGHEST.length = 8 := F.2.2.2.2.2.2.2.2.2.2.1
theorem Facts.N_AFTER {Z : State} {a_IS_UNRESERVED a_LOWEST a_HIGHEST a_AFTER : Addr} {k_IS_UNRESERVED : ClassId} {vs_IS_UNRESERVED : List Value} {k_LOWEST : ClassId} {vs_LOWEST : List Value} {k_HIGHEST : ClassId} {vs_HIGHEST : List Value} {k_AFTER : ClassId} {vs_AFTER : List Value} (F : Facts Z a_IS_UNRESERVED a_LOWEST a_HIGHEST a_AFTER k_IS_UNRESERVED vs_IS_UNRESERVED k_LOWEST vs_LOWEST k_HIGHEST vs_HIGHEST k_AFTER vs_AFTER) : vs_AFTER.length = 8 := F.2.2.2.2.2.2.2.2.2.2.2.1
theorem Facts.V_IS_UNRESERVED {Z : State} {a_IS_UNRESERVED a_LOWEST a_HIGHEST a_AFTER : Addr} {k_IS_UNRESERVED : ClassId} {vs_IS_UNRESERVED : List Value} {k_LOWEST : ClassId} {vs_LOWEST : List Value} {k_HIGHEST : ClassId} {vs_HIGHEST : List Value} {k_AFTER : ClassId} {vs_AFTER : List Value} (F : Facts Z a_IS_UNRESERVED a_LOWEST a_HIGHEST a_AFTER k_IS_UNRESERVED vs_IS_UNRESERVED k_LOWEST vs_LOWEST k_HIGHEST vs_HIGHEST k_AFTER vs_AFTER) : ∀ i, i < vs_IS_UNRESERVED.length → vs_IS_UNRESERVED[i]? = some (.int (T_IS_UNRESERVED i)) := F.2.2.2.2.2.2.2.2.2.2.2.2.1
theorem Facts.V_LOWEST {Z : State} {a_IS_UNRESERVED a_LOWEST a_HIGHEST a_AFTER : Addr} {k_IS_UNRESERVED : ClassId} {vs_IS_UNRESERVED : List Value} {k_LOWEST : ClassId} {vs_LOWEST : List Value} {k_HIGHEST : ClassId} {vs_HIGHEST : List Value} {k_AFTER : ClassId} {vs_AFTER : List Value} (F : Facts Z a_IS_UNRESERVED a_LOWEST a_HIGHEST a_AFTER k_IS_UNRESERVED vs_IS_UNRESERVED k_LOWEST vs_LOWEST k_HIGHEST vs_HIGHEST k_AFTER vs_AFTER) : ∀ i, i < vs_LOWEST.length → vs_LOWEST[i]? = some (.int (T_LOWEST i)) := F.2.2.2.2.2.2.2.2.2.2.2.2.2.1
theorem Facts.V_HIGHEST {Z : State} {a_IS_UNRESERVED a_LOWEST a_HIGHEST a_AFTER : Addr} {k_IS_UNRESERVED : ClassId} {vs_IS_UNRESERVED : List Value} {k_LOWEST : ClassId} {vs_LOWEST : List Value} {k_HIGHEST : ClassId} {vs_HIGHEST : List Value} {k_AFTER : ClassId} {vs_AFTER : List Value} (F : Facts Z a_IS_UNRESERVED a_LOWEST a_HIGHEST a_AFTER k_IS_UNRESERVED vs_IS_UNRESERVED k_LOWEST vs_LOWEST k_HIGHEST vs_HIGHEST k_AFTER vs_AFTER) : ∀ i, i < vs_HIGHEST.length → vs_HIGHEST[i]? = some (.int (T_HIGHEST i)) := F.2.2.2.2.2.2.2.2.2.2.2.2.2.2.1
theorem Facts.V_AFTER {Z : State} {a_IS_UNRESERVED a_LOWEST a_HIGHEST a_AFTER : Addr} {k_IS_UNRESERVED : ClassId} {vs_IS_UNRESERVED : List Value} {k_LOWEST : ClassId} {vs_LOWEST : List Value} {k_HIGHEST : ClassId} {vs_HIGHEST : List Value} {k_AFTER : ClassId} {vs_AFTER : List Value} (F : Facts Z a_IS_UNRESERVED a_LOWEST a_HIGHEST a_AFTER k_IS_UNRESERVED vs_IS_UNRESERVED k_LOWEST vs_LOWEST k_HIGHEST vs_HIGHEST k_AFTER vs_AFTER) : ∀ i, i < vs_AFTER.length → vs_AFTER[i]? = some (.int (T_AFTER i)) := F.2.2.2.2.2.2.2.2.2.2.2.2.2.2.2
theorem nat_lt {u : Int32} (h0 : ¬ u < 0) (h : u < 128) : u.toNatClampNeg < 128 := by
  rw [Int32.lt_iff_toInt_lt] at h h0
  have e : (128 : Int32).toInt = 128 := rfl
  have e0 : (0 : Int32).toInt = 0 := rfl
  show u.toInt.toNat < 128
  omega
def unF_64 (u : Int32) : Int32 :=
  (0 : Int32)
set_option maxRecDepth 65536 in
set_option maxHeartbeats 40000000 in
theorem b3_64 (l : Launch) (Z : State) (a0 : Array Value) (hw : Hw a0 Z) (n0 : Nat) (h : Heap) (u : Int32) {Q : Option Value → Heap → Prop} (hQ : Q (some (.int (unF_64 u))) h) :
    Go l Z (⟨"com/example/deucalion/deucalion/match/UriTextNextDecodingPinLaw", "unreserved", "(I)Z"⟩ : MethodName) method_3_code 1 (some .boolean) ({ frames := 0, cells := 0, slots := 0, locals := 0 } : Room) n0 Q h 0 0 64 #[.val (.int u)] [] := by
  refine Go.iconst d3_64 (q := 65) rfl (x := (0 : Int32)) (by decide) ?_
  refine Go.zreturn d3_65 (by decide) (by decide) (by decide) ?_
  unfold unF_64 at hQ
  exact hQ
def unF_60 (u : Int32) : Int32 :=
  (1 : Int32)
set_option maxRecDepth 65536 in
set_option maxHeartbeats 40000000 in
theorem b3_60 (l : Launch) (Z : State) (a0 : Array Value) (hw : Hw a0 Z) (n0 : Nat) (h : Heap) (u : Int32) {Q : Option Value → Heap → Prop} (hQ : Q (some (.int (unF_60 u))) h) :
    Go l Z (⟨"com/example/deucalion/deucalion/match/UriTextNextDecodingPinLaw", "unreserved", "(I)Z"⟩ : MethodName) method_3_code 1 (some .boolean) ({ frames := 0, cells := 0, slots := 0, locals := 0 } : Room) n0 Q h 0 0 60 #[.val (.int u)] [] := by
  refine Go.iconst d3_60 (q := 61) rfl (x := (1 : Int32)) (by decide) ?_
  refine Go.goto d3_61 (q := 65) (by decide) rfl ?_
  refine Go.zreturn d3_65 (by decide) (by decide) (by decide) ?_
  unfold unF_60 at hQ
  exact hQ
def unF_36 (u : Int32) : Int32 :=
  if u = (45 : Int32) then (unF_60 u) else
  if u = (46 : Int32) then (unF_60 u) else
  if u = (95 : Int32) then (unF_60 u) else
  if u = (126 : Int32) then (unF_60 u) else
  (unF_64 u)
set_option maxRecDepth 65536 in
set_option maxHeartbeats 40000000 in
theorem b3_36 (l : Launch) (Z : State) (a0 : Array Value) (hw : Hw a0 Z) (n0 : Nat) (h : Heap) (u : Int32) {Q : Option Value → Heap → Prop} (hQ : Q (some (.int (unF_36 u))) h) :
    Go l Z (⟨"com/example/deucalion/deucalion/match/UriTextNextDecodingPinLaw", "unreserved", "(I)Z"⟩ : MethodName) method_3_code 1 (some .boolean) ({ frames := 0, cells := 0, slots := 0, locals := 0 } : Room) n0 Q h 0 0 36 #[.val (.int u)] [] := by
  refine Go.iloadN d3_36 (q := 37) rfl rfl ?_
  refine Go.bipush d3_37 (q := 39) rfl (x := (45 : Int32)) (by decide) ?_
  refine Go.icmp_eq d3_39 (q := 60) (q' := 42) (by decide) rfl rfl (fun c1 => ?_) (fun c1 => ?_)
  · skip
    unfold unF_36 at hQ
    rw [if_pos c1] at hQ
    exact b3_60 l Z a0 hw n0 h u  hQ
  · skip
    refine Go.iloadN d3_42 (q := 43) rfl rfl ?_
    refine Go.bipush d3_43 (q := 45) rfl (x := (46 : Int32)) (by decide) ?_
    refine Go.icmp_eq d3_45 (q := 60) (q' := 48) (by decide) rfl rfl (fun c2 => ?_) (fun c2 => ?_)
    · skip
      unfold unF_36 at hQ
      rw [if_neg c1, if_pos c2] at hQ
      exact b3_60 l Z a0 hw n0 h u  hQ
    · skip
      refine Go.iloadN d3_48 (q := 49) rfl rfl ?_
      refine Go.bipush d3_49 (q := 51) rfl (x := (95 : Int32)) (by decide) ?_
      refine Go.icmp_eq d3_51 (q := 60) (q' := 54) (by decide) rfl rfl (fun c3 => ?_) (fun c3 => ?_)
      · skip
        unfold unF_36 at hQ
        rw [if_neg c1, if_neg c2, if_pos c3] at hQ
        exact b3_60 l Z a0 hw n0 h u  hQ
      · skip
        refine Go.iloadN d3_54 (q := 55) rfl rfl ?_
        refine Go.bipush d3_55 (q := 57) rfl (x := (126 : Int32)) (by decide) ?_
        refine Go.icmp_ne d3_57 (q := 64) (q' := 60) (by decide) rfl rfl (fun c4 => ?_) (fun c4 => ?_)
        · skip
          unfold unF_36 at hQ
          rw [if_neg c1, if_neg c2, if_neg c3, if_neg c4] at hQ
          exact b3_64 l Z a0 hw n0 h u  hQ
        · skip
          unfold unF_36 at hQ
          rw [if_neg c1, if_neg c2, if_neg c3, if_pos c4] at hQ
          exact b3_60 l Z a0 hw n0 h u  hQ
def unF_24 (u : Int32) : Int32 :=
  if u < (48 : Int32) then (unF_36 u) else
  if (57 : Int32) < u then (unF_36 u) else
  (unF_60 u)
set_option maxRecDepth 65536 in
set_option maxHeartbeats 40000000 in
theorem b3_24 (l : Launch) (Z : State) (a0 : Array Value) (hw : Hw a0 Z) (n0 : Nat) (h : Heap) (u : Int32) {Q : Option Value → Heap → Prop} (hQ : Q (some (.int (unF_24 u))) h) :
    Go l Z (⟨"com/example/deucalion/deucalion/match/UriTextNextDecodingPinLaw", "unreserved", "(I)Z"⟩ : MethodName) method_3_code 1 (some .boolean) ({ frames := 0, cells := 0, slots := 0, locals := 0 } : Room) n0 Q h 0 0 24 #[.val (.int u)] [] := by
  refine Go.iloadN d3_24 (q := 25) rfl rfl ?_
  refine Go.bipush d3_25 (q := 27) rfl (x := (48 : Int32)) (by decide) ?_
  refine Go.icmp_lt d3_27 (q := 36) (q' := 30) (by decide) rfl rfl (fun c5 => ?_) (fun c5 => ?_)
  · skip
    unfold unF_24 at hQ
    rw [if_pos c5] at hQ
    exact b3_36 l Z a0 hw n0 h u  hQ
  · skip
    refine Go.iloadN d3_30 (q := 31) rfl rfl ?_
    refine Go.bipush d3_31 (q := 33) rfl (x := (57 : Int32)) (by decide) ?_
    refine Go.icmp_le d3_33 (q := 60) (q' := 36) (by decide) rfl rfl (fun c6 => ?_) (fun c6 => ?_)
    · skip
      unfold unF_24 at hQ
      rw [if_neg c5, if_neg c6] at hQ
      exact b3_60 l Z a0 hw n0 h u  hQ
    · skip
      unfold unF_24 at hQ
      rw [if_neg c5, if_pos c6] at hQ
      exact b3_36 l Z a0 hw n0 h u  hQ
def unF_12 (u : Int32) : Int32 :=
  if u < (97 : Int32) then (unF_24 u) else
  if (122 : Int32) < u then (unF_24 u) else
  (unF_60 u)
set_option maxRecDepth 65536 in
set_option maxHeartbeats 40000000 in
theorem b3_12 (l : Launch) (Z : State) (a0 : Array Value) (hw : Hw a0 Z) (n0 : Nat) (h : Heap) (u : Int32) {Q : Option Value → Heap → Prop} (hQ : Q (some (.int (unF_12 u))) h) :
    Go l Z (⟨"com/example/deucalion/deucalion/match/UriTextNextDecodingPinLaw", "unreserved", "(I)Z"⟩ : MethodName) method_3_code 1 (some .boolean) ({ frames := 0, cells := 0, slots := 0, locals := 0 } : Room) n0 Q h 0 0 12 #[.val (.int u)] [] := by
  refine Go.iloadN d3_12 (q := 13) rfl rfl ?_
  refine Go.bipush d3_13 (q := 15) rfl (x := (97 : Int32)) (by decide) ?_
  refine Go.icmp_lt d3_15 (q := 24) (q' := 18) (by decide) rfl rfl (fun c7 => ?_) (fun c7 => ?_)
  · skip
    unfold unF_12 at hQ
    rw [if_pos c7] at hQ
    exact b3_24 l Z a0 hw n0 h u  hQ
  · skip
    refine Go.iloadN d3_18 (q := 19) rfl rfl ?_
    refine Go.bipush d3_19 (q := 21) rfl (x := (122 : Int32)) (by decide) ?_
    refine Go.icmp_le d3_21 (q := 60) (q' := 24) (by decide) rfl rfl (fun c8 => ?_) (fun c8 => ?_)
    · skip
      unfold unF_12 at hQ
      rw [if_neg c7, if_neg c8] at hQ
      exact b3_60 l Z a0 hw n0 h u  hQ
    · skip
      unfold unF_12 at hQ
      rw [if_neg c7, if_pos c8] at hQ
      exact b3_24 l Z a0 hw n0 h u  hQ
def unF (u : Int32) : Int32 :=
  if u < (65 : Int32) then (unF_12 u) else
  if (90 : Int32) < u then (unF_12 u) else
  (unF_60 u)
set_option maxRecDepth 65536 in
set_option maxHeartbeats 40000000 in
theorem b3 (l : Launch) (Z : State) (a0 : Array Value) (hw : Hw a0 Z) (n0 : Nat) (h : Heap) (u : Int32) {Q : Option Value → Heap → Prop} (hQ : Q (some (.int (unF u))) h) :
    Go l Z (⟨"com/example/deucalion/deucalion/match/UriTextNextDecodingPinLaw", "unreserved", "(I)Z"⟩ : MethodName) method_3_code 1 (some .boolean) ({ frames := 0, cells := 0, slots := 0, locals := 0 } : Room) n0 Q h 0 0 0 #[.val (.int u)] [] := by
  refine Go.iloadN d3_0 (q := 1) rfl rfl ?_
  refine Go.bipush d3_1 (q := 3) rfl (x := (65 : Int32)) (by decide) ?_
  refine Go.icmp_lt d3_3 (q := 12) (q' := 6) (by decide) rfl rfl (fun c9 => ?_) (fun c9 => ?_)
  · skip
    unfold unF at hQ
    rw [if_pos c9] at hQ
    exact b3_12 l Z a0 hw n0 h u  hQ
  · skip
    refine Go.iloadN d3_6 (q := 7) rfl rfl ?_
    refine Go.bipush d3_7 (q := 9) rfl (x := (90 : Int32)) (by decide) ?_
    refine Go.icmp_le d3_9 (q := 60) (q' := 12) (by decide) rfl rfl (fun c10 => ?_) (fun c10 => ?_)
    · skip
      unfold unF at hQ
      rw [if_neg c9, if_neg c10] at hQ
      exact b3_60 l Z a0 hw n0 h u  hQ
    · skip
      unfold unF at hQ
      rw [if_neg c9, if_pos c10] at hQ
      exact b3_12 l Z a0 hw n0 h u  hQ
def ndF_199 (s : Int32) (u : Int32) (o : Int32) (r : Int32) : Int32 :=
  r
set_option maxRecDepth 65536 in
set_option maxHeartbeats 40000000 in
theorem b1_199 (l : Launch) (Z : State) (a0 : Array Value) (hw : Hw a0 Z) (n0 : Nat) (h : Heap) (s : Int32) (u : Int32) (o : Int32) (r : Int32) (O : Old Z n0 h) (a_IS_UNRESERVED a_LOWEST a_HIGHEST a_AFTER : Addr) (k_IS_UNRESERVED : ClassId) (vs_IS_UNRESERVED : List Value) (k_LOWEST : ClassId) (vs_LOWEST : List Value) (k_HIGHEST : ClassId) (vs_HIGHEST : List Value) (k_AFTER : ClassId) (vs_AFTER : List Value) (F : Facts Z a_IS_UNRESERVED a_LOWEST a_HIGHEST a_AFTER k_IS_UNRESERVED vs_IS_UNRESERVED k_LOWEST vs_LOWEST k_HIGHEST vs_HIGHEST k_AFTER vs_AFTER) (hs : ¬ s < 0 ∧ s.toNatClampNeg < 8) {Q : Option Value → Heap → Prop} (hQ : Q (some (.int (ndF_199 s u o r))) h) :
    Go l Z (⟨"com/example/deucalion/deucalion/match/UriText", "nextDecoding", "(II)I"⟩ : MethodName) prog_28_method_10_code 4 (some .int) ({ frames := 0, cells := 0, slots := 0, locals := 0 } : Room) n0 Q h 0 0 199 #[.val (.int s), .val (.int u), .val (.int o), .val (.int r)] [] := by
  refine Go.iloadN d1_199 (q := 200) rfl rfl ?_
  refine Go.ireturn d1_200 (by decide) (by decide) ?_
  unfold ndF_199 at hQ
  exact hQ
def ndF_157 (s : Int32) (u : Int32) (o : Int32) (r : Int32) : Int32 :=
  if o = (240 : Int32) then (ndF_199 s u o (6 : Int32)) else
  if o = (244 : Int32) then (ndF_199 s u o (7 : Int32)) else
  if o < (241 : Int32) then (ndF_199 s u o r) else
  if (243 : Int32) < o then (ndF_199 s u o r) else
  (ndF_199 s u o (3 : Int32))
set_option maxRecDepth 65536 in
set_option maxHeartbeats 40000000 in
theorem b1_157 (l : Launch) (Z : State) (a0 : Array Value) (hw : Hw a0 Z) (n0 : Nat) (h : Heap) (s : Int32) (u : Int32) (o : Int32) (r : Int32) (O : Old Z n0 h) (a_IS_UNRESERVED a_LOWEST a_HIGHEST a_AFTER : Addr) (k_IS_UNRESERVED : ClassId) (vs_IS_UNRESERVED : List Value) (k_LOWEST : ClassId) (vs_LOWEST : List Value) (k_HIGHEST : ClassId) (vs_HIGHEST : List Value) (k_AFTER : ClassId) (vs_AFTER : List Value) (F : Facts Z a_IS_UNRESERVED a_LOWEST a_HIGHEST a_AFTER k_IS_UNRESERVED vs_IS_UNRESERVED k_LOWEST vs_LOWEST k_HIGHEST vs_HIGHEST k_AFTER vs_AFTER) (hs : ¬ s < 0 ∧ s.toNatClampNeg < 8) {Q : Option Value → Heap → Prop} (hQ : Q (some (.int (ndF_157 s u o r))) h) :
    Go l Z (⟨"com/example/deucalion/deucalion/match/UriText", "nextDecoding", "(II)I"⟩ : MethodName) prog_28_method_10_code 4 (some .int) ({ frames := 0, cells := 0, slots := 0, locals := 0 } : Room) n0 Q h 0 0 157 #[.val (.int s), .val (.int u), .val (.int o), .val (.int r)] [] := by
  refine Go.iloadN d1_157 (q := 158) rfl rfl ?_
  refine Go.sipush d1_158 (q := 161) rfl (x := (240 : Int32)) (by decide) ?_
  refine Go.icmp_ne d1_161 (q := 170) (q' := 164) (by decide) rfl rfl (fun c11 => ?_) (fun c11 => ?_)
  · skip
    refine Go.iloadN d1_170 (q := 171) rfl rfl ?_
    refine Go.sipush d1_171 (q := 174) rfl (x := (244 : Int32)) (by decide) ?_
    refine Go.icmp_ne d1_174 (q := 183) (q' := 177) (by decide) rfl rfl (fun c12 => ?_) (fun c12 => ?_)
    · skip
      refine Go.iloadN d1_183 (q := 184) rfl rfl ?_
      refine Go.sipush d1_184 (q := 187) rfl (x := (241 : Int32)) (by decide) ?_
      refine Go.icmp_lt d1_187 (q := 199) (q' := 190) (by decide) rfl rfl (fun c13 => ?_) (fun c13 => ?_)
      · skip
        unfold ndF_157 at hQ
        rw [if_neg c11, if_neg c12, if_pos c13] at hQ
        exact b1_199 l Z a0 hw n0 h s u o r O a_IS_UNRESERVED a_LOWEST a_HIGHEST a_AFTER k_IS_UNRESERVED vs_IS_UNRESERVED k_LOWEST vs_LOWEST k_HIGHEST vs_HIGHEST k_AFTER vs_AFTER F hs hQ
      · skip
        refine Go.iloadN d1_190 (q := 191) rfl rfl ?_
        refine Go.sipush d1_191 (q := 194) rfl (x := (243 : Int32)) (by decide) ?_
        refine Go.icmp_gt d1_194 (q := 199) (q' := 197) (by decide) rfl rfl (fun c14 => ?_) (fun c14 => ?_)
        · skip
          unfold ndF_157 at hQ
          rw [if_neg c11, if_neg c12, if_neg c13, if_pos c14] at hQ
          exact b1_199 l Z a0 hw n0 h s u o r O a_IS_UNRESERVED a_LOWEST a_HIGHEST a_AFTER k_IS_UNRESERVED vs_IS_UNRESERVED k_LOWEST vs_LOWEST k_HIGHEST vs_HIGHEST k_AFTER vs_AFTER F hs hQ
        · skip
          refine Go.iconst d1_197 (q := 198) rfl (x := (3 : Int32)) (by decide) ?_
          refine Go.istoreN d1_198 (q := 199) rfl (Ls' := #[.val (.int s), .val (.int u), .val (.int o), .val (.int (3 : Int32))]) rfl ?_
          unfold ndF_157 at hQ
          rw [if_neg c11, if_neg c12, if_neg c13, if_neg c14] at hQ
          exact b1_199 l Z a0 hw n0 h s u o (3 : Int32) O a_IS_UNRESERVED a_LOWEST a_HIGHEST a_AFTER k_IS_UNRESERVED vs_IS_UNRESERVED k_LOWEST vs_LOWEST k_HIGHEST vs_HIGHEST k_AFTER vs_AFTER F hs hQ
    · skip
      refine Go.bipush d1_177 (q := 179) rfl (x := (7 : Int32)) (by decide) ?_
      refine Go.istoreN d1_179 (q := 180) rfl (Ls' := #[.val (.int s), .val (.int u), .val (.int o), .val (.int (7 : Int32))]) rfl ?_
      refine Go.goto d1_180 (q := 199) (by decide) rfl ?_
      unfold ndF_157 at hQ
      rw [if_neg c11, if_pos c12] at hQ
      exact b1_199 l Z a0 hw n0 h s u o (7 : Int32) O a_IS_UNRESERVED a_LOWEST a_HIGHEST a_AFTER k_IS_UNRESERVED vs_IS_UNRESERVED k_LOWEST vs_LOWEST k_HIGHEST vs_HIGHEST k_AFTER vs_AFTER F hs hQ
  · skip
    refine Go.bipush d1_164 (q := 166) rfl (x := (6 : Int32)) (by decide) ?_
    refine Go.istoreN d1_166 (q := 167) rfl (Ls' := #[.val (.int s), .val (.int u), .val (.int o), .val (.int (6 : Int32))]) rfl ?_
    refine Go.goto d1_167 (q := 199) (by decide) rfl ?_
    unfold ndF_157 at hQ
    rw [if_pos c11] at hQ
    exact b1_199 l Z a0 hw n0 h s u o (6 : Int32) O a_IS_UNRESERVED a_LOWEST a_HIGHEST a_AFTER k_IS_UNRESERVED vs_IS_UNRESERVED k_LOWEST vs_LOWEST k_HIGHEST vs_HIGHEST k_AFTER vs_AFTER F hs hQ
def ndF_114 (s : Int32) (u : Int32) (o : Int32) (r : Int32) : Int32 :=
  if o = (224 : Int32) then (ndF_199 s u o (4 : Int32)) else
  if o = (237 : Int32) then (ndF_199 s u o (5 : Int32)) else
  if o < (225 : Int32) then (ndF_157 s u o r) else
  if (239 : Int32) < o then (ndF_157 s u o r) else
  (ndF_199 s u o (2 : Int32))
set_option maxRecDepth 65536 in
set_option maxHeartbeats 40000000 in
theorem b1_114 (l : Launch) (Z : State) (a0 : Array Value) (hw : Hw a0 Z) (n0 : Nat) (h : Heap) (s : Int32) (u : Int32) (o : Int32) (r : Int32) (O : Old Z n0 h) (a_IS_UNRESERVED a_LOWEST a_HIGHEST a_AFTER : Addr) (k_IS_UNRESERVED : ClassId) (vs_IS_UNRESERVED : List Value) (k_LOWEST : ClassId) (vs_LOWEST : List Value) (k_HIGHEST : ClassId) (vs_HIGHEST : List Value) (k_AFTER : ClassId) (vs_AFTER : List Value) (F : Facts Z a_IS_UNRESERVED a_LOWEST a_HIGHEST a_AFTER k_IS_UNRESERVED vs_IS_UNRESERVED k_LOWEST vs_LOWEST k_HIGHEST vs_HIGHEST k_AFTER vs_AFTER) (hs : ¬ s < 0 ∧ s.toNatClampNeg < 8) {Q : Option Value → Heap → Prop} (hQ : Q (some (.int (ndF_114 s u o r))) h) :
    Go l Z (⟨"com/example/deucalion/deucalion/match/UriText", "nextDecoding", "(II)I"⟩ : MethodName) prog_28_method_10_code 4 (some .int) ({ frames := 0, cells := 0, slots := 0, locals := 0 } : Room) n0 Q h 0 0 114 #[.val (.int s), .val (.int u), .val (.int o), .val (.int r)] [] := by
  refine Go.iloadN d1_114 (q := 115) rfl rfl ?_
  refine Go.sipush d1_115 (q := 118) rfl (x := (224 : Int32)) (by decide) ?_
  refine Go.icmp_ne d1_118 (q := 126) (q' := 121) (by decide) rfl rfl (fun c15 => ?_) (fun c15 => ?_)
  · skip
    refine Go.iloadN d1_126 (q := 127) rfl rfl ?_
    refine Go.sipush d1_127 (q := 130) rfl (x := (237 : Int32)) (by decide) ?_
    refine Go.icmp_ne d1_130 (q := 138) (q' := 133) (by decide) rfl rfl (fun c16 => ?_) (fun c16 => ?_)
    · skip
      refine Go.iloadN d1_138 (q := 139) rfl rfl ?_
      refine Go.sipush d1_139 (q := 142) rfl (x := (225 : Int32)) (by decide) ?_
      refine Go.icmp_lt d1_142 (q := 157) (q' := 145) (by decide) rfl rfl (fun c17 => ?_) (fun c17 => ?_)
      · skip
        unfold ndF_114 at hQ
        rw [if_neg c15, if_neg c16, if_pos c17] at hQ
        exact b1_157 l Z a0 hw n0 h s u o r O a_IS_UNRESERVED a_LOWEST a_HIGHEST a_AFTER k_IS_UNRESERVED vs_IS_UNRESERVED k_LOWEST vs_LOWEST k_HIGHEST vs_HIGHEST k_AFTER vs_AFTER F hs hQ
      · skip
        refine Go.iloadN d1_145 (q := 146) rfl rfl ?_
        refine Go.sipush d1_146 (q := 149) rfl (x := (239 : Int32)) (by decide) ?_
        refine Go.icmp_gt d1_149 (q := 157) (q' := 152) (by decide) rfl rfl (fun c18 => ?_) (fun c18 => ?_)
        · skip
          unfold ndF_114 at hQ
          rw [if_neg c15, if_neg c16, if_neg c17, if_pos c18] at hQ
          exact b1_157 l Z a0 hw n0 h s u o r O a_IS_UNRESERVED a_LOWEST a_HIGHEST a_AFTER k_IS_UNRESERVED vs_IS_UNRESERVED k_LOWEST vs_LOWEST k_HIGHEST vs_HIGHEST k_AFTER vs_AFTER F hs hQ
        · skip
          refine Go.iconst d1_152 (q := 153) rfl (x := (2 : Int32)) (by decide) ?_
          refine Go.istoreN d1_153 (q := 154) rfl (Ls' := #[.val (.int s), .val (.int u), .val (.int o), .val (.int (2 : Int32))]) rfl ?_
          refine Go.goto d1_154 (q := 199) (by decide) rfl ?_
          unfold ndF_114 at hQ
          rw [if_neg c15, if_neg c16, if_neg c17, if_neg c18] at hQ
          exact b1_199 l Z a0 hw n0 h s u o (2 : Int32) O a_IS_UNRESERVED a_LOWEST a_HIGHEST a_AFTER k_IS_UNRESERVED vs_IS_UNRESERVED k_LOWEST vs_LOWEST k_HIGHEST vs_HIGHEST k_AFTER vs_AFTER F hs hQ
    · skip
      refine Go.iconst d1_133 (q := 134) rfl (x := (5 : Int32)) (by decide) ?_
      refine Go.istoreN d1_134 (q := 135) rfl (Ls' := #[.val (.int s), .val (.int u), .val (.int o), .val (.int (5 : Int32))]) rfl ?_
      refine Go.goto d1_135 (q := 199) (by decide) rfl ?_
      unfold ndF_114 at hQ
      rw [if_neg c15, if_pos c16] at hQ
      exact b1_199 l Z a0 hw n0 h s u o (5 : Int32) O a_IS_UNRESERVED a_LOWEST a_HIGHEST a_AFTER k_IS_UNRESERVED vs_IS_UNRESERVED k_LOWEST vs_LOWEST k_HIGHEST vs_HIGHEST k_AFTER vs_AFTER F hs hQ
  · skip
    refine Go.iconst d1_121 (q := 122) rfl (x := (4 : Int32)) (by decide) ?_
    refine Go.istoreN d1_122 (q := 123) rfl (Ls' := #[.val (.int s), .val (.int u), .val (.int o), .val (.int (4 : Int32))]) rfl ?_
    refine Go.goto d1_123 (q := 199) (by decide) rfl ?_
    unfold ndF_114 at hQ
    rw [if_pos c15] at hQ
    exact b1_199 l Z a0 hw n0 h s u o (4 : Int32) O a_IS_UNRESERVED a_LOWEST a_HIGHEST a_AFTER k_IS_UNRESERVED vs_IS_UNRESERVED k_LOWEST vs_LOWEST k_HIGHEST vs_HIGHEST k_AFTER vs_AFTER F hs hQ
def ndF_95 (s : Int32) (u : Int32) (o : Int32) (r : Int32) : Int32 :=
  if o < (194 : Int32) then (ndF_114 s u o r) else
  if (223 : Int32) < o then (ndF_114 s u o r) else
  (ndF_199 s u o (1 : Int32))
set_option maxRecDepth 65536 in
set_option maxHeartbeats 40000000 in
theorem b1_95 (l : Launch) (Z : State) (a0 : Array Value) (hw : Hw a0 Z) (n0 : Nat) (h : Heap) (s : Int32) (u : Int32) (o : Int32) (r : Int32) (O : Old Z n0 h) (a_IS_UNRESERVED a_LOWEST a_HIGHEST a_AFTER : Addr) (k_IS_UNRESERVED : ClassId) (vs_IS_UNRESERVED : List Value) (k_LOWEST : ClassId) (vs_LOWEST : List Value) (k_HIGHEST : ClassId) (vs_HIGHEST : List Value) (k_AFTER : ClassId) (vs_AFTER : List Value) (F : Facts Z a_IS_UNRESERVED a_LOWEST a_HIGHEST a_AFTER k_IS_UNRESERVED vs_IS_UNRESERVED k_LOWEST vs_LOWEST k_HIGHEST vs_HIGHEST k_AFTER vs_AFTER) (hs : ¬ s < 0 ∧ s.toNatClampNeg < 8) {Q : Option Value → Heap → Prop} (hQ : Q (some (.int (ndF_95 s u o r))) h) :
    Go l Z (⟨"com/example/deucalion/deucalion/match/UriText", "nextDecoding", "(II)I"⟩ : MethodName) prog_28_method_10_code 4 (some .int) ({ frames := 0, cells := 0, slots := 0, locals := 0 } : Room) n0 Q h 0 0 95 #[.val (.int s), .val (.int u), .val (.int o), .val (.int r)] [] := by
  refine Go.iloadN d1_95 (q := 96) rfl rfl ?_
  refine Go.sipush d1_96 (q := 99) rfl (x := (194 : Int32)) (by decide) ?_
  refine Go.icmp_lt d1_99 (q := 114) (q' := 102) (by decide) rfl rfl (fun c19 => ?_) (fun c19 => ?_)
  · skip
    unfold ndF_95 at hQ
    rw [if_pos c19] at hQ
    exact b1_114 l Z a0 hw n0 h s u o r O a_IS_UNRESERVED a_LOWEST a_HIGHEST a_AFTER k_IS_UNRESERVED vs_IS_UNRESERVED k_LOWEST vs_LOWEST k_HIGHEST vs_HIGHEST k_AFTER vs_AFTER F hs hQ
  · skip
    refine Go.iloadN d1_102 (q := 103) rfl rfl ?_
    refine Go.sipush d1_103 (q := 106) rfl (x := (223 : Int32)) (by decide) ?_
    refine Go.icmp_gt d1_106 (q := 114) (q' := 109) (by decide) rfl rfl (fun c20 => ?_) (fun c20 => ?_)
    · skip
      unfold ndF_95 at hQ
      rw [if_neg c19, if_pos c20] at hQ
      exact b1_114 l Z a0 hw n0 h s u o r O a_IS_UNRESERVED a_LOWEST a_HIGHEST a_AFTER k_IS_UNRESERVED vs_IS_UNRESERVED k_LOWEST vs_LOWEST k_HIGHEST vs_HIGHEST k_AFTER vs_AFTER F hs hQ
    · skip
      refine Go.iconst d1_109 (q := 110) rfl (x := (1 : Int32)) (by decide) ?_
      refine Go.istoreN d1_110 (q := 111) rfl (Ls' := #[.val (.int s), .val (.int u), .val (.int o), .val (.int (1 : Int32))]) rfl ?_
      refine Go.goto d1_111 (q := 199) (by decide) rfl ?_
      unfold ndF_95 at hQ
      rw [if_neg c19, if_neg c20] at hQ
      exact b1_199 l Z a0 hw n0 h s u o (1 : Int32) O a_IS_UNRESERVED a_LOWEST a_HIGHEST a_AFTER k_IS_UNRESERVED vs_IS_UNRESERVED k_LOWEST vs_LOWEST k_HIGHEST vs_HIGHEST k_AFTER vs_AFTER F hs hQ
def ndF_67 (s : Int32) (u : Int32) (o : Int32) (r : Int32) : Int32 :=
  if o < 0 then (ndF_95 s u o r) else
  if o < (128 : Int32) then if (T_IS_UNRESERVED o.toNatClampNeg) = 0 then (ndF_199 s u o (0 : Int32)) else
    (ndF_199 s u o ((-1) : Int32)) else
  (ndF_95 s u o r)
set_option maxRecDepth 65536 in
set_option maxHeartbeats 40000000 in
theorem b1_67 (l : Launch) (Z : State) (a0 : Array Value) (hw : Hw a0 Z) (n0 : Nat) (h : Heap) (s : Int32) (u : Int32) (o : Int32) (r : Int32) (O : Old Z n0 h) (a_IS_UNRESERVED a_LOWEST a_HIGHEST a_AFTER : Addr) (k_IS_UNRESERVED : ClassId) (vs_IS_UNRESERVED : List Value) (k_LOWEST : ClassId) (vs_LOWEST : List Value) (k_HIGHEST : ClassId) (vs_HIGHEST : List Value) (k_AFTER : ClassId) (vs_AFTER : List Value) (F : Facts Z a_IS_UNRESERVED a_LOWEST a_HIGHEST a_AFTER k_IS_UNRESERVED vs_IS_UNRESERVED k_LOWEST vs_LOWEST k_HIGHEST vs_HIGHEST k_AFTER vs_AFTER) (hs : ¬ s < 0 ∧ s.toNatClampNeg < 8) {Q : Option Value → Heap → Prop} (hQ : Q (some (.int (ndF_67 s u o r))) h) :
    Go l Z (⟨"com/example/deucalion/deucalion/match/UriText", "nextDecoding", "(II)I"⟩ : MethodName) prog_28_method_10_code 4 (some .int) ({ frames := 0, cells := 0, slots := 0, locals := 0 } : Room) n0 Q h 0 0 67 #[.val (.int s), .val (.int u), .val (.int o), .val (.int r)] [] := by
  refine Go.iloadN d1_67 (q := 68) rfl rfl ?_
  refine Go.if_lt d1_68 (q := 95) (q' := 71) (by decide) rfl rfl (fun c21 => ?_) (fun c21 => ?_)
  · skip
    unfold ndF_67 at hQ
    rw [if_pos c21] at hQ
    exact b1_95 l Z a0 hw n0 h s u o r O a_IS_UNRESERVED a_LOWEST a_HIGHEST a_AFTER k_IS_UNRESERVED vs_IS_UNRESERVED k_LOWEST vs_LOWEST k_HIGHEST vs_HIGHEST k_AFTER vs_AFTER F hs hQ
  · skip
    refine Go.iloadN d1_71 (q := 72) rfl rfl ?_
    refine Go.sipush d1_72 (q := 75) rfl (x := (128 : Int32)) (by decide) ?_
    refine Go.icmp_ge d1_75 (q := 95) (q' := 78) (by decide) rfl rfl (fun c22 => ?_) (fun c22 => ?_)
    · skip
      unfold ndF_67 at hQ
      rw [if_neg c21, if_neg c22] at hQ
      exact b1_95 l Z a0 hw n0 h s u o r O a_IS_UNRESERVED a_LOWEST a_HIGHEST a_AFTER k_IS_UNRESERVED vs_IS_UNRESERVED k_LOWEST vs_LOWEST k_HIGHEST vs_HIGHEST k_AFTER vs_AFTER F hs hQ
    · skip
      refine Go.getS d1_78 (q := 81) rfl (w4 hw) (F.S_IS_UNRESERVED.ext O.2) ?_
      refine Go.iloadN d1_81 (q := 82) rfl rfl ?_
      refine Go.zaload d1_82 (q := 83) rfl (F.A_IS_UNRESERVED.ext O.2) c21 (F.V_IS_UNRESERVED _ (by rw [F.N_IS_UNRESERVED]; exact nat_lt c21 c22)) ?_
      refine Go.if_eq d1_83 (q := 90) (q' := 86) (by decide) rfl rfl (fun c23 => ?_) (fun c23 => ?_)
      · skip
        refine Go.iconst d1_90 (q := 91) rfl (x := (0 : Int32)) (by decide) ?_
        refine Go.istoreN d1_91 (q := 92) rfl (Ls' := #[.val (.int s), .val (.int u), .val (.int o), .val (.int (0 : Int32))]) rfl ?_
        refine Go.goto d1_92 (q := 199) (by decide) rfl ?_
        unfold ndF_67 at hQ
        rw [if_neg c21, if_pos c22, if_pos c23] at hQ
        exact b1_199 l Z a0 hw n0 h s u o (0 : Int32) O a_IS_UNRESERVED a_LOWEST a_HIGHEST a_AFTER k_IS_UNRESERVED vs_IS_UNRESERVED k_LOWEST vs_LOWEST k_HIGHEST vs_HIGHEST k_AFTER vs_AFTER F hs hQ
      · skip
        refine Go.iconst d1_86 (q := 87) rfl (x := ((-1) : Int32)) (by decide) ?_
        refine Go.goto d1_87 (q := 91) (by decide) rfl ?_
        refine Go.istoreN d1_91 (q := 92) rfl (Ls' := #[.val (.int s), .val (.int u), .val (.int o), .val (.int ((-1) : Int32))]) rfl ?_
        refine Go.goto d1_92 (q := 199) (by decide) rfl ?_
        unfold ndF_67 at hQ
        rw [if_neg c21, if_pos c22, if_neg c23] at hQ
        exact b1_199 l Z a0 hw n0 h s u o ((-1) : Int32) O a_IS_UNRESERVED a_LOWEST a_HIGHEST a_AFTER k_IS_UNRESERVED vs_IS_UNRESERVED k_LOWEST vs_LOWEST k_HIGHEST vs_HIGHEST k_AFTER vs_AFTER F hs hQ
def ndF (s : Int32) (u : Int32) : Int32 :=
  if s = 0 then if u < 0 then (ndF_67 s u (u - (256 : Int32)) ((-1) : Int32)) else
    if u < (128 : Int32) then if (T_IS_UNRESERVED u.toNatClampNeg) = 0 then (ndF_199 s u (u - (256 : Int32)) ((-1) : Int32)) else
      (ndF_199 s u (u - (256 : Int32)) (0 : Int32)) else
    (ndF_67 s u (u - (256 : Int32)) ((-1) : Int32)) else
  if (u - (256 : Int32)) < (T_LOWEST s.toNatClampNeg) then (ndF_199 s u (u - (256 : Int32)) ((-1) : Int32)) else
  if (T_HIGHEST s.toNatClampNeg) < (u - (256 : Int32)) then (ndF_199 s u (u - (256 : Int32)) ((-1) : Int32)) else
  (ndF_199 s u (u - (256 : Int32)) (T_AFTER s.toNatClampNeg))
set_option maxRecDepth 65536 in
set_option maxHeartbeats 40000000 in
theorem b1 (l : Launch) (Z : State) (a0 : Array Value) (hw : Hw a0 Z) (n0 : Nat) (h : Heap) (s : Int32) (u : Int32) (O : Old Z n0 h) (a_IS_UNRESERVED a_LOWEST a_HIGHEST a_AFTER : Addr) (k_IS_UNRESERVED : ClassId) (vs_IS_UNRESERVED : List Value) (k_LOWEST : ClassId) (vs_LOWEST : List Value) (k_HIGHEST : ClassId) (vs_HIGHEST : List Value) (k_AFTER : ClassId) (vs_AFTER : List Value) (F : Facts Z a_IS_UNRESERVED a_LOWEST a_HIGHEST a_AFTER k_IS_UNRESERVED vs_IS_UNRESERVED k_LOWEST vs_LOWEST k_HIGHEST vs_HIGHEST k_AFTER vs_AFTER) (hs : ¬ s < 0 ∧ s.toNatClampNeg < 8) {Q : Option Value → Heap → Prop} (hQ : Q (some (.int (ndF s u))) h) :
    Go l Z (⟨"com/example/deucalion/deucalion/match/UriText", "nextDecoding", "(II)I"⟩ : MethodName) prog_28_method_10_code 4 (some .int) ({ frames := 0, cells := 0, slots := 0, locals := 0 } : Room) n0 Q h 0 0 0 #[.val (.int s), .val (.int u), .unset, .unset] [] := by
  refine Go.iloadN d1_0 (q := 1) rfl rfl ?_
  refine Go.sipush d1_1 (q := 4) rfl (x := (256 : Int32)) (by decide) ?_
  refine Go.isub d1_4 (q := 5) rfl ?_
  refine Go.istoreN d1_5 (q := 6) rfl (Ls' := #[.val (.int s), .val (.int u), .val (.int (u - (256 : Int32))), .unset]) rfl ?_
  refine Go.iconst d1_6 (q := 7) rfl (x := ((-1) : Int32)) (by decide) ?_
  refine Go.istoreN d1_7 (q := 8) rfl (Ls' := #[.val (.int s), .val (.int u), .val (.int (u - (256 : Int32))), .val (.int ((-1) : Int32))]) rfl ?_
  refine Go.iloadN d1_8 (q := 9) rfl rfl ?_
  refine Go.if_eq d1_9 (q := 39) (q' := 12) (by decide) rfl rfl (fun c24 => ?_) (fun c24 => ?_)
  · skip
    refine Go.iloadN d1_39 (q := 40) rfl rfl ?_
    refine Go.if_lt d1_40 (q := 67) (q' := 43) (by decide) rfl rfl (fun c25 => ?_) (fun c25 => ?_)
    · skip
      unfold ndF at hQ
      rw [if_pos c24, if_pos c25] at hQ
      exact b1_67 l Z a0 hw n0 h s u (u - (256 : Int32)) ((-1) : Int32) O a_IS_UNRESERVED a_LOWEST a_HIGHEST a_AFTER k_IS_UNRESERVED vs_IS_UNRESERVED k_LOWEST vs_LOWEST k_HIGHEST vs_HIGHEST k_AFTER vs_AFTER F hs hQ
    · skip
      refine Go.iloadN d1_43 (q := 44) rfl rfl ?_
      refine Go.sipush d1_44 (q := 47) rfl (x := (128 : Int32)) (by decide) ?_
      refine Go.icmp_ge d1_47 (q := 67) (q' := 50) (by decide) rfl rfl (fun c26 => ?_) (fun c26 => ?_)
      · skip
        unfold ndF at hQ
        rw [if_pos c24, if_neg c25, if_neg c26] at hQ
        exact b1_67 l Z a0 hw n0 h s u (u - (256 : Int32)) ((-1) : Int32) O a_IS_UNRESERVED a_LOWEST a_HIGHEST a_AFTER k_IS_UNRESERVED vs_IS_UNRESERVED k_LOWEST vs_LOWEST k_HIGHEST vs_HIGHEST k_AFTER vs_AFTER F hs hQ
      · skip
        refine Go.getS d1_50 (q := 53) rfl (w4 hw) (F.S_IS_UNRESERVED.ext O.2) ?_
        refine Go.iloadN d1_53 (q := 54) rfl rfl ?_
        refine Go.zaload d1_54 (q := 55) rfl (F.A_IS_UNRESERVED.ext O.2) c25 (F.V_IS_UNRESERVED _ (by rw [F.N_IS_UNRESERVED]; exact nat_lt c25 c26)) ?_
        refine Go.if_eq d1_55 (q := 62) (q' := 58) (by decide) rfl rfl (fun c27 => ?_) (fun c27 => ?_)
        · skip
          refine Go.iconst d1_62 (q := 63) rfl (x := ((-1) : Int32)) (by decide) ?_
          refine Go.istoreN d1_63 (q := 64) rfl (Ls' := #[.val (.int s), .val (.int u), .val (.int (u - (256 : Int32))), .val (.int ((-1) : Int32))]) rfl ?_
          refine Go.goto d1_64 (q := 199) (by decide) rfl ?_
          unfold ndF at hQ
          rw [if_pos c24, if_neg c25, if_pos c26, if_pos c27] at hQ
          exact b1_199 l Z a0 hw n0 h s u (u - (256 : Int32)) ((-1) : Int32) O a_IS_UNRESERVED a_LOWEST a_HIGHEST a_AFTER k_IS_UNRESERVED vs_IS_UNRESERVED k_LOWEST vs_LOWEST k_HIGHEST vs_HIGHEST k_AFTER vs_AFTER F hs hQ
        · skip
          refine Go.iconst d1_58 (q := 59) rfl (x := (0 : Int32)) (by decide) ?_
          refine Go.goto d1_59 (q := 63) (by decide) rfl ?_
          refine Go.istoreN d1_63 (q := 64) rfl (Ls' := #[.val (.int s), .val (.int u), .val (.int (u - (256 : Int32))), .val (.int (0 : Int32))]) rfl ?_
          refine Go.goto d1_64 (q := 199) (by decide) rfl ?_
          unfold ndF at hQ
          rw [if_pos c24, if_neg c25, if_pos c26, if_neg c27] at hQ
          exact b1_199 l Z a0 hw n0 h s u (u - (256 : Int32)) (0 : Int32) O a_IS_UNRESERVED a_LOWEST a_HIGHEST a_AFTER k_IS_UNRESERVED vs_IS_UNRESERVED k_LOWEST vs_LOWEST k_HIGHEST vs_HIGHEST k_AFTER vs_AFTER F hs hQ
  · skip
    refine Go.iloadN d1_12 (q := 13) rfl rfl ?_
    refine Go.getS d1_13 (q := 16) rfl (w13 hw) (F.S_LOWEST.ext O.2) ?_
    refine Go.iloadN d1_16 (q := 17) rfl rfl ?_
    refine Go.iaload d1_17 (q := 18) rfl (F.A_LOWEST.ext O.2) hs.1 (F.V_LOWEST _ (by rw [F.N_LOWEST]; exact hs.2)) ?_
    refine Go.icmp_lt d1_18 (q := 199) (q' := 21) (by decide) rfl rfl (fun c28 => ?_) (fun c28 => ?_)
    · skip
      unfold ndF at hQ
      rw [if_neg c24, if_pos c28] at hQ
      exact b1_199 l Z a0 hw n0 h s u (u - (256 : Int32)) ((-1) : Int32) O a_IS_UNRESERVED a_LOWEST a_HIGHEST a_AFTER k_IS_UNRESERVED vs_IS_UNRESERVED k_LOWEST vs_LOWEST k_HIGHEST vs_HIGHEST k_AFTER vs_AFTER F hs hQ
    · skip
      refine Go.iloadN d1_21 (q := 22) rfl rfl ?_
      refine Go.getS d1_22 (q := 25) rfl (w15 hw) (F.S_HIGHEST.ext O.2) ?_
      refine Go.iloadN d1_25 (q := 26) rfl rfl ?_
      refine Go.iaload d1_26 (q := 27) rfl (F.A_HIGHEST.ext O.2) hs.1 (F.V_HIGHEST _ (by rw [F.N_HIGHEST]; exact hs.2)) ?_
      refine Go.icmp_gt d1_27 (q := 199) (q' := 30) (by decide) rfl rfl (fun c29 => ?_) (fun c29 => ?_)
      · skip
        unfold ndF at hQ
        rw [if_neg c24, if_neg c28, if_pos c29] at hQ
        exact b1_199 l Z a0 hw n0 h s u (u - (256 : Int32)) ((-1) : Int32) O a_IS_UNRESERVED a_LOWEST a_HIGHEST a_AFTER k_IS_UNRESERVED vs_IS_UNRESERVED k_LOWEST vs_LOWEST k_HIGHEST vs_HIGHEST k_AFTER vs_AFTER F hs hQ
      · skip
        refine Go.getS d1_30 (q := 33) rfl (w17 hw) (F.S_AFTER.ext O.2) ?_
        refine Go.iloadN d1_33 (q := 34) rfl rfl ?_
        refine Go.iaload d1_34 (q := 35) rfl (F.A_AFTER.ext O.2) hs.1 (F.V_AFTER _ (by rw [F.N_AFTER]; exact hs.2)) ?_
        refine Go.istoreN d1_35 (q := 36) rfl (Ls' := #[.val (.int s), .val (.int u), .val (.int (u - (256 : Int32))), .val (.int (T_AFTER s.toNatClampNeg))]) rfl ?_
        refine Go.goto d1_36 (q := 199) (by decide) rfl ?_
        unfold ndF at hQ
        rw [if_neg c24, if_neg c28, if_neg c29] at hQ
        exact b1_199 l Z a0 hw n0 h s u (u - (256 : Int32)) (T_AFTER s.toNatClampNeg) O a_IS_UNRESERVED a_LOWEST a_HIGHEST a_AFTER k_IS_UNRESERVED vs_IS_UNRESERVED k_LOWEST vs_LOWEST k_HIGHEST vs_HIGHEST k_AFTER vs_AFTER F hs hQ
def exF_181 (s : Int32) (u : Int32) (p : Int32) (t : Int32) : Int32 :=
  if p = 0 then if s = (1 : Int32) then if (u - (256 : Int32)) < (128 : Int32) then ((-1) : Int32) else
      if (191 : Int32) < (u - (256 : Int32)) then ((-1) : Int32) else
      (0 : Int32) else
    if s = (2 : Int32) then if (u - (256 : Int32)) < (128 : Int32) then ((-1) : Int32) else
      if (191 : Int32) < (u - (256 : Int32)) then ((-1) : Int32) else
      (1 : Int32) else
    if s = (3 : Int32) then if (u - (256 : Int32)) < (128 : Int32) then ((-1) : Int32) else
      if (191 : Int32) < (u - (256 : Int32)) then ((-1) : Int32) else
      (2 : Int32) else
    if s = (4 : Int32) then if (u - (256 : Int32)) < (160 : Int32) then ((-1) : Int32) else
      if (191 : Int32) < (u - (256 : Int32)) then ((-1) : Int32) else
      (1 : Int32) else
    if s = (5 : Int32) then if (u - (256 : Int32)) < (128 : Int32) then ((-1) : Int32) else
      if (159 : Int32) < (u - (256 : Int32)) then ((-1) : Int32) else
      (1 : Int32) else
    if s = (6 : Int32) then if (u - (256 : Int32)) < (144 : Int32) then ((-1) : Int32) else
      if (191 : Int32) < (u - (256 : Int32)) then ((-1) : Int32) else
      (2 : Int32) else
    if (u - (256 : Int32)) < (128 : Int32) then ((-1) : Int32) else
    if (143 : Int32) < (u - (256 : Int32)) then ((-1) : Int32) else
    (2 : Int32) else
  ((-1) : Int32)
set_option maxRecDepth 65536 in
set_option maxHeartbeats 40000000 in
theorem b2_181 (l : Launch) (Z : State) (a0 : Array Value) (hw : Hw a0 Z) (n0 : Nat) (h : Heap) (s : Int32) (u : Int32) (p : Int32) (t : Int32) {Q : Option Value → Heap → Prop} (hQ : Q (some (.int (exF_181 s u p t))) h) :
    Go l Z (⟨"com/example/deucalion/deucalion/match/UriTextNextDecodingPinLaw", "expected", "(II)I"⟩ : MethodName) method_4_code 5 (some .int) ({ frames := 1, cells := 0, slots := 0, locals := 12 } : Room) n0 Q h 0 0 181 #[.val (.int s), .val (.int u), .val (.int p), .val (.int t), .unset] [] := by
  refine Go.iloadN d2_181 (q := 182) rfl rfl ?_
  refine Go.if_eq d2_182 (q := 187) (q' := 185) (by decide) rfl rfl (fun c30 => ?_) (fun c30 => ?_)
  · skip
    refine Go.iloadN d2_187 (q := 188) rfl rfl ?_
    refine Go.sipush d2_188 (q := 191) rfl (x := (256 : Int32)) (by decide) ?_
    refine Go.isub d2_191 (q := 192) rfl ?_
    refine Go.istore d2_192 (q := 194) rfl (Ls' := #[.val (.int s), .val (.int u), .val (.int p), .val (.int t), .val (.int (u - (256 : Int32)))]) rfl ?_
    refine Go.iloadN d2_194 (q := 195) rfl rfl ?_
    refine Go.iconst d2_195 (q := 196) rfl (x := (1 : Int32)) (by decide) ?_
    refine Go.icmp_ne d2_196 (q := 221) (q' := 199) (by decide) rfl rfl (fun c31 => ?_) (fun c31 => ?_)
    · skip
      refine Go.iloadN d2_221 (q := 222) rfl rfl ?_
      refine Go.iconst d2_222 (q := 223) rfl (x := (2 : Int32)) (by decide) ?_
      refine Go.icmp_ne d2_223 (q := 248) (q' := 226) (by decide) rfl rfl (fun c32 => ?_) (fun c32 => ?_)
      · skip
        refine Go.iloadN d2_248 (q := 249) rfl rfl ?_
        refine Go.iconst d2_249 (q := 250) rfl (x := (3 : Int32)) (by decide) ?_
        refine Go.icmp_ne d2_250 (q := 275) (q' := 253) (by decide) rfl rfl (fun c33 => ?_) (fun c33 => ?_)
        · skip
          refine Go.iloadN d2_275 (q := 276) rfl rfl ?_
          refine Go.iconst d2_276 (q := 277) rfl (x := (4 : Int32)) (by decide) ?_
          refine Go.icmp_ne d2_277 (q := 302) (q' := 280) (by decide) rfl rfl (fun c34 => ?_) (fun c34 => ?_)
          · skip
            refine Go.iloadN d2_302 (q := 303) rfl rfl ?_
            refine Go.iconst d2_303 (q := 304) rfl (x := (5 : Int32)) (by decide) ?_
            refine Go.icmp_ne d2_304 (q := 329) (q' := 307) (by decide) rfl rfl (fun c35 => ?_) (fun c35 => ?_)
            · skip
              refine Go.iloadN d2_329 (q := 330) rfl rfl ?_
              refine Go.bipush d2_330 (q := 332) rfl (x := (6 : Int32)) (by decide) ?_
              refine Go.icmp_ne d2_332 (q := 357) (q' := 335) (by decide) rfl rfl (fun c36 => ?_) (fun c36 => ?_)
              · skip
                refine Go.iload d2_357 (q := 359) rfl rfl ?_
                refine Go.sipush d2_359 (q := 362) rfl (x := (128 : Int32)) (by decide) ?_
                refine Go.icmp_lt d2_362 (q := 377) (q' := 365) (by decide) rfl rfl (fun c37 => ?_) (fun c37 => ?_)
                · skip
                  refine Go.iconst d2_377 (q := 378) rfl (x := ((-1) : Int32)) (by decide) ?_
                  refine Go.ireturn d2_378 (by decide) (by decide) ?_
                  unfold exF_181 at hQ
                  rw [if_pos c30, if_neg c31, if_neg c32, if_neg c33, if_neg c34, if_neg c35, if_neg c36, if_pos c37] at hQ
                  exact hQ
                · skip
                  refine Go.iload d2_365 (q := 367) rfl rfl ?_
                  refine Go.sipush d2_367 (q := 370) rfl (x := (143 : Int32)) (by decide) ?_
                  refine Go.icmp_gt d2_370 (q := 377) (q' := 373) (by decide) rfl rfl (fun c38 => ?_) (fun c38 => ?_)
                  · skip
                    refine Go.iconst d2_377 (q := 378) rfl (x := ((-1) : Int32)) (by decide) ?_
                    refine Go.ireturn d2_378 (by decide) (by decide) ?_
                    unfold exF_181 at hQ
                    rw [if_pos c30, if_neg c31, if_neg c32, if_neg c33, if_neg c34, if_neg c35, if_neg c36, if_neg c37, if_pos c38] at hQ
                    exact hQ
                  · skip
                    refine Go.iconst d2_373 (q := 374) rfl (x := (2 : Int32)) (by decide) ?_
                    refine Go.goto d2_374 (q := 378) (by decide) rfl ?_
                    refine Go.ireturn d2_378 (by decide) (by decide) ?_
                    unfold exF_181 at hQ
                    rw [if_pos c30, if_neg c31, if_neg c32, if_neg c33, if_neg c34, if_neg c35, if_neg c36, if_neg c37, if_neg c38] at hQ
                    exact hQ
              · skip
                refine Go.iload d2_335 (q := 337) rfl rfl ?_
                refine Go.sipush d2_337 (q := 340) rfl (x := (144 : Int32)) (by decide) ?_
                refine Go.icmp_lt d2_340 (q := 355) (q' := 343) (by decide) rfl rfl (fun c39 => ?_) (fun c39 => ?_)
                · skip
                  refine Go.iconst d2_355 (q := 356) rfl (x := ((-1) : Int32)) (by decide) ?_
                  refine Go.ireturn d2_356 (by decide) (by decide) ?_
                  unfold exF_181 at hQ
                  rw [if_pos c30, if_neg c31, if_neg c32, if_neg c33, if_neg c34, if_neg c35, if_pos c36, if_pos c39] at hQ
                  exact hQ
                · skip
                  refine Go.iload d2_343 (q := 345) rfl rfl ?_
                  refine Go.sipush d2_345 (q := 348) rfl (x := (191 : Int32)) (by decide) ?_
                  refine Go.icmp_gt d2_348 (q := 355) (q' := 351) (by decide) rfl rfl (fun c40 => ?_) (fun c40 => ?_)
                  · skip
                    refine Go.iconst d2_355 (q := 356) rfl (x := ((-1) : Int32)) (by decide) ?_
                    refine Go.ireturn d2_356 (by decide) (by decide) ?_
                    unfold exF_181 at hQ
                    rw [if_pos c30, if_neg c31, if_neg c32, if_neg c33, if_neg c34, if_neg c35, if_pos c36, if_neg c39, if_pos c40] at hQ
                    exact hQ
                  · skip
                    refine Go.iconst d2_351 (q := 352) rfl (x := (2 : Int32)) (by decide) ?_
                    refine Go.goto d2_352 (q := 356) (by decide) rfl ?_
                    refine Go.ireturn d2_356 (by decide) (by decide) ?_
                    unfold exF_181 at hQ
                    rw [if_pos c30, if_neg c31, if_neg c32, if_neg c33, if_neg c34, if_neg c35, if_pos c36, if_neg c39, if_neg c40] at hQ
                    exact hQ
            · skip
              refine Go.iload d2_307 (q := 309) rfl rfl ?_
              refine Go.sipush d2_309 (q := 312) rfl (x := (128 : Int32)) (by decide) ?_
              refine Go.icmp_lt d2_312 (q := 327) (q' := 315) (by decide) rfl rfl (fun c41 => ?_) (fun c41 => ?_)
              · skip
                refine Go.iconst d2_327 (q := 328) rfl (x := ((-1) : Int32)) (by decide) ?_
                refine Go.ireturn d2_328 (by decide) (by decide) ?_
                unfold exF_181 at hQ
                rw [if_pos c30, if_neg c31, if_neg c32, if_neg c33, if_neg c34, if_pos c35, if_pos c41] at hQ
                exact hQ
              · skip
                refine Go.iload d2_315 (q := 317) rfl rfl ?_
                refine Go.sipush d2_317 (q := 320) rfl (x := (159 : Int32)) (by decide) ?_
                refine Go.icmp_gt d2_320 (q := 327) (q' := 323) (by decide) rfl rfl (fun c42 => ?_) (fun c42 => ?_)
                · skip
                  refine Go.iconst d2_327 (q := 328) rfl (x := ((-1) : Int32)) (by decide) ?_
                  refine Go.ireturn d2_328 (by decide) (by decide) ?_
                  unfold exF_181 at hQ
                  rw [if_pos c30, if_neg c31, if_neg c32, if_neg c33, if_neg c34, if_pos c35, if_neg c41, if_pos c42] at hQ
                  exact hQ
                · skip
                  refine Go.iconst d2_323 (q := 324) rfl (x := (1 : Int32)) (by decide) ?_
                  refine Go.goto d2_324 (q := 328) (by decide) rfl ?_
                  refine Go.ireturn d2_328 (by decide) (by decide) ?_
                  unfold exF_181 at hQ
                  rw [if_pos c30, if_neg c31, if_neg c32, if_neg c33, if_neg c34, if_pos c35, if_neg c41, if_neg c42] at hQ
                  exact hQ
          · skip
            refine Go.iload d2_280 (q := 282) rfl rfl ?_
            refine Go.sipush d2_282 (q := 285) rfl (x := (160 : Int32)) (by decide) ?_
            refine Go.icmp_lt d2_285 (q := 300) (q' := 288) (by decide) rfl rfl (fun c43 => ?_) (fun c43 => ?_)
            · skip
              refine Go.iconst d2_300 (q := 301) rfl (x := ((-1) : Int32)) (by decide) ?_
              refine Go.ireturn d2_301 (by decide) (by decide) ?_
              unfold exF_181 at hQ
              rw [if_pos c30, if_neg c31, if_neg c32, if_neg c33, if_pos c34, if_pos c43] at hQ
              exact hQ
            · skip
              refine Go.iload d2_288 (q := 290) rfl rfl ?_
              refine Go.sipush d2_290 (q := 293) rfl (x := (191 : Int32)) (by decide) ?_
              refine Go.icmp_gt d2_293 (q := 300) (q' := 296) (by decide) rfl rfl (fun c44 => ?_) (fun c44 => ?_)
              · skip
                refine Go.iconst d2_300 (q := 301) rfl (x := ((-1) : Int32)) (by decide) ?_
                refine Go.ireturn d2_301 (by decide) (by decide) ?_
                unfold exF_181 at hQ
                rw [if_pos c30, if_neg c31, if_neg c32, if_neg c33, if_pos c34, if_neg c43, if_pos c44] at hQ
                exact hQ
              · skip
                refine Go.iconst d2_296 (q := 297) rfl (x := (1 : Int32)) (by decide) ?_
                refine Go.goto d2_297 (q := 301) (by decide) rfl ?_
                refine Go.ireturn d2_301 (by decide) (by decide) ?_
                unfold exF_181 at hQ
                rw [if_pos c30, if_neg c31, if_neg c32, if_neg c33, if_pos c34, if_neg c43, if_neg c44] at hQ
                exact hQ
        · skip
          refine Go.iload d2_253 (q := 255) rfl rfl ?_
          refine Go.sipush d2_255 (q := 258) rfl (x := (128 : Int32)) (by decide) ?_
          refine Go.icmp_lt d2_258 (q := 273) (q' := 261) (by decide) rfl rfl (fun c45 => ?_) (fun c45 => ?_)
          · skip
            refine Go.iconst d2_273 (q := 274) rfl (x := ((-1) : Int32)) (by decide) ?_
            refine Go.ireturn d2_274 (by decide) (by decide) ?_
            unfold exF_181 at hQ
            rw [if_pos c30, if_neg c31, if_neg c32, if_pos c33, if_pos c45] at hQ
            exact hQ
          · skip
            refine Go.iload d2_261 (q := 263) rfl rfl ?_
            refine Go.sipush d2_263 (q := 266) rfl (x := (191 : Int32)) (by decide) ?_
            refine Go.icmp_gt d2_266 (q := 273) (q' := 269) (by decide) rfl rfl (fun c46 => ?_) (fun c46 => ?_)
            · skip
              refine Go.iconst d2_273 (q := 274) rfl (x := ((-1) : Int32)) (by decide) ?_
              refine Go.ireturn d2_274 (by decide) (by decide) ?_
              unfold exF_181 at hQ
              rw [if_pos c30, if_neg c31, if_neg c32, if_pos c33, if_neg c45, if_pos c46] at hQ
              exact hQ
            · skip
              refine Go.iconst d2_269 (q := 270) rfl (x := (2 : Int32)) (by decide) ?_
              refine Go.goto d2_270 (q := 274) (by decide) rfl ?_
              refine Go.ireturn d2_274 (by decide) (by decide) ?_
              unfold exF_181 at hQ
              rw [if_pos c30, if_neg c31, if_neg c32, if_pos c33, if_neg c45, if_neg c46] at hQ
              exact hQ
      · skip
        refine Go.iload d2_226 (q := 228) rfl rfl ?_
        refine Go.sipush d2_228 (q := 231) rfl (x := (128 : Int32)) (by decide) ?_
        refine Go.icmp_lt d2_231 (q := 246) (q' := 234) (by decide) rfl rfl (fun c47 => ?_) (fun c47 => ?_)
        · skip
          refine Go.iconst d2_246 (q := 247) rfl (x := ((-1) : Int32)) (by decide) ?_
          refine Go.ireturn d2_247 (by decide) (by decide) ?_
          unfold exF_181 at hQ
          rw [if_pos c30, if_neg c31, if_pos c32, if_pos c47] at hQ
          exact hQ
        · skip
          refine Go.iload d2_234 (q := 236) rfl rfl ?_
          refine Go.sipush d2_236 (q := 239) rfl (x := (191 : Int32)) (by decide) ?_
          refine Go.icmp_gt d2_239 (q := 246) (q' := 242) (by decide) rfl rfl (fun c48 => ?_) (fun c48 => ?_)
          · skip
            refine Go.iconst d2_246 (q := 247) rfl (x := ((-1) : Int32)) (by decide) ?_
            refine Go.ireturn d2_247 (by decide) (by decide) ?_
            unfold exF_181 at hQ
            rw [if_pos c30, if_neg c31, if_pos c32, if_neg c47, if_pos c48] at hQ
            exact hQ
          · skip
            refine Go.iconst d2_242 (q := 243) rfl (x := (1 : Int32)) (by decide) ?_
            refine Go.goto d2_243 (q := 247) (by decide) rfl ?_
            refine Go.ireturn d2_247 (by decide) (by decide) ?_
            unfold exF_181 at hQ
            rw [if_pos c30, if_neg c31, if_pos c32, if_neg c47, if_neg c48] at hQ
            exact hQ
    · skip
      refine Go.iload d2_199 (q := 201) rfl rfl ?_
      refine Go.sipush d2_201 (q := 204) rfl (x := (128 : Int32)) (by decide) ?_
      refine Go.icmp_lt d2_204 (q := 219) (q' := 207) (by decide) rfl rfl (fun c49 => ?_) (fun c49 => ?_)
      · skip
        refine Go.iconst d2_219 (q := 220) rfl (x := ((-1) : Int32)) (by decide) ?_
        refine Go.ireturn d2_220 (by decide) (by decide) ?_
        unfold exF_181 at hQ
        rw [if_pos c30, if_pos c31, if_pos c49] at hQ
        exact hQ
      · skip
        refine Go.iload d2_207 (q := 209) rfl rfl ?_
        refine Go.sipush d2_209 (q := 212) rfl (x := (191 : Int32)) (by decide) ?_
        refine Go.icmp_gt d2_212 (q := 219) (q' := 215) (by decide) rfl rfl (fun c50 => ?_) (fun c50 => ?_)
        · skip
          refine Go.iconst d2_219 (q := 220) rfl (x := ((-1) : Int32)) (by decide) ?_
          refine Go.ireturn d2_220 (by decide) (by decide) ?_
          unfold exF_181 at hQ
          rw [if_pos c30, if_pos c31, if_neg c49, if_pos c50] at hQ
          exact hQ
        · skip
          refine Go.iconst d2_215 (q := 216) rfl (x := (0 : Int32)) (by decide) ?_
          refine Go.goto d2_216 (q := 220) (by decide) rfl ?_
          refine Go.ireturn d2_220 (by decide) (by decide) ?_
          unfold exF_181 at hQ
          rw [if_pos c30, if_pos c31, if_neg c49, if_neg c50] at hQ
          exact hQ
  · skip
    refine Go.iconst d2_185 (q := 186) rfl (x := ((-1) : Int32)) (by decide) ?_
    refine Go.ireturn d2_186 (by decide) (by decide) ?_
    unfold exF_181 at hQ
    rw [if_neg c30] at hQ
    exact hQ
def exF_68 (s : Int32) (u : Int32) (p : Int32) (t : Int32) : Int32 :=
  if (u - (256 : Int32)) < (128 : Int32) then if (unF (u - (256 : Int32))) = 0 then (0 : Int32) else
    ((-1) : Int32) else
  if (u - (256 : Int32)) < (194 : Int32) then ((-1) : Int32) else
  if (223 : Int32) < (u - (256 : Int32)) then if (u - (256 : Int32)) = (224 : Int32) then (4 : Int32) else
    if (u - (256 : Int32)) = (237 : Int32) then (5 : Int32) else
    if (239 : Int32) < (u - (256 : Int32)) then if (u - (256 : Int32)) = (240 : Int32) then (6 : Int32) else
      if (243 : Int32) < (u - (256 : Int32)) then if (u - (256 : Int32)) = (244 : Int32) then (7 : Int32) else
        ((-1) : Int32) else
      (3 : Int32) else
    (2 : Int32) else
  (1 : Int32)
set_option maxRecDepth 65536 in
set_option maxHeartbeats 40000000 in
theorem b2_68 (l : Launch) (Z : State) (a0 : Array Value) (hw : Hw a0 Z) (n0 : Nat) (h : Heap) (s : Int32) (u : Int32) (p : Int32) (t : Int32) {Q : Option Value → Heap → Prop} (hQ : Q (some (.int (exF_68 s u p t))) h) :
    Go l Z (⟨"com/example/deucalion/deucalion/match/UriTextNextDecodingPinLaw", "expected", "(II)I"⟩ : MethodName) method_4_code 5 (some .int) ({ frames := 1, cells := 0, slots := 0, locals := 12 } : Room) n0 Q h 0 0 68 #[.val (.int s), .val (.int u), .val (.int p), .val (.int t), .unset] [] := by
  refine Go.iloadN d2_68 (q := 69) rfl rfl ?_
  refine Go.sipush d2_69 (q := 72) rfl (x := (256 : Int32)) (by decide) ?_
  refine Go.isub d2_72 (q := 73) rfl ?_
  refine Go.istore d2_73 (q := 75) rfl (Ls' := #[.val (.int s), .val (.int u), .val (.int p), .val (.int t), .val (.int (u - (256 : Int32)))]) rfl ?_
  refine Go.iload d2_75 (q := 77) rfl rfl ?_
  refine Go.sipush d2_77 (q := 80) rfl (x := (128 : Int32)) (by decide) ?_
  refine Go.icmp_ge d2_80 (q := 97) (q' := 83) (by decide) rfl rfl (fun c51 => ?_) (fun c51 => ?_)
  · skip
    refine Go.iload d2_97 (q := 99) rfl rfl ?_
    refine Go.sipush d2_99 (q := 102) rfl (x := (194 : Int32)) (by decide) ?_
    refine Go.icmp_ge d2_102 (q := 107) (q' := 105) (by decide) rfl rfl (fun c52 => ?_) (fun c52 => ?_)
    · skip
      refine Go.iload d2_107 (q := 109) rfl rfl ?_
      refine Go.sipush d2_109 (q := 112) rfl (x := (223 : Int32)) (by decide) ?_
      refine Go.icmp_gt d2_112 (q := 117) (q' := 115) (by decide) rfl rfl (fun c53 => ?_) (fun c53 => ?_)
      · skip
        refine Go.iload d2_117 (q := 119) rfl rfl ?_
        refine Go.sipush d2_119 (q := 122) rfl (x := (224 : Int32)) (by decide) ?_
        refine Go.icmp_ne d2_122 (q := 127) (q' := 125) (by decide) rfl rfl (fun c54 => ?_) (fun c54 => ?_)
        · skip
          refine Go.iload d2_127 (q := 129) rfl rfl ?_
          refine Go.sipush d2_129 (q := 132) rfl (x := (237 : Int32)) (by decide) ?_
          refine Go.icmp_ne d2_132 (q := 137) (q' := 135) (by decide) rfl rfl (fun c55 => ?_) (fun c55 => ?_)
          · skip
            refine Go.iload d2_137 (q := 139) rfl rfl ?_
            refine Go.sipush d2_139 (q := 142) rfl (x := (239 : Int32)) (by decide) ?_
            refine Go.icmp_gt d2_142 (q := 147) (q' := 145) (by decide) rfl rfl (fun c56 => ?_) (fun c56 => ?_)
            · skip
              refine Go.iload d2_147 (q := 149) rfl rfl ?_
              refine Go.sipush d2_149 (q := 152) rfl (x := (240 : Int32)) (by decide) ?_
              refine Go.icmp_ne d2_152 (q := 158) (q' := 155) (by decide) rfl rfl (fun c57 => ?_) (fun c57 => ?_)
              · skip
                refine Go.iload d2_158 (q := 160) rfl rfl ?_
                refine Go.sipush d2_160 (q := 163) rfl (x := (243 : Int32)) (by decide) ?_
                refine Go.icmp_gt d2_163 (q := 168) (q' := 166) (by decide) rfl rfl (fun c58 => ?_) (fun c58 => ?_)
                · skip
                  refine Go.iload d2_168 (q := 170) rfl rfl ?_
                  refine Go.sipush d2_170 (q := 173) rfl (x := (244 : Int32)) (by decide) ?_
                  refine Go.icmp_ne d2_173 (q := 179) (q' := 176) (by decide) rfl rfl (fun c59 => ?_) (fun c59 => ?_)
                  · skip
                    refine Go.iconst d2_179 (q := 180) rfl (x := ((-1) : Int32)) (by decide) ?_
                    refine Go.ireturn d2_180 (by decide) (by decide) ?_
                    unfold exF_68 at hQ
                    rw [if_neg c51, if_neg c52, if_pos c53, if_neg c54, if_neg c55, if_pos c56, if_neg c57, if_pos c58, if_neg c59] at hQ
                    exact hQ
                  · skip
                    refine Go.bipush d2_176 (q := 178) rfl (x := (7 : Int32)) (by decide) ?_
                    refine Go.ireturn d2_178 (by decide) (by decide) ?_
                    unfold exF_68 at hQ
                    rw [if_neg c51, if_neg c52, if_pos c53, if_neg c54, if_neg c55, if_pos c56, if_neg c57, if_pos c58, if_pos c59] at hQ
                    exact hQ
                · skip
                  refine Go.iconst d2_166 (q := 167) rfl (x := (3 : Int32)) (by decide) ?_
                  refine Go.ireturn d2_167 (by decide) (by decide) ?_
                  unfold exF_68 at hQ
                  rw [if_neg c51, if_neg c52, if_pos c53, if_neg c54, if_neg c55, if_pos c56, if_neg c57, if_neg c58] at hQ
                  exact hQ
              · skip
                refine Go.bipush d2_155 (q := 157) rfl (x := (6 : Int32)) (by decide) ?_
                refine Go.ireturn d2_157 (by decide) (by decide) ?_
                unfold exF_68 at hQ
                rw [if_neg c51, if_neg c52, if_pos c53, if_neg c54, if_neg c55, if_pos c56, if_pos c57] at hQ
                exact hQ
            · skip
              refine Go.iconst d2_145 (q := 146) rfl (x := (2 : Int32)) (by decide) ?_
              refine Go.ireturn d2_146 (by decide) (by decide) ?_
              unfold exF_68 at hQ
              rw [if_neg c51, if_neg c52, if_pos c53, if_neg c54, if_neg c55, if_neg c56] at hQ
              exact hQ
          · skip
            refine Go.iconst d2_135 (q := 136) rfl (x := (5 : Int32)) (by decide) ?_
            refine Go.ireturn d2_136 (by decide) (by decide) ?_
            unfold exF_68 at hQ
            rw [if_neg c51, if_neg c52, if_pos c53, if_neg c54, if_pos c55] at hQ
            exact hQ
        · skip
          refine Go.iconst d2_125 (q := 126) rfl (x := (4 : Int32)) (by decide) ?_
          refine Go.ireturn d2_126 (by decide) (by decide) ?_
          unfold exF_68 at hQ
          rw [if_neg c51, if_neg c52, if_pos c53, if_pos c54] at hQ
          exact hQ
      · skip
        refine Go.iconst d2_115 (q := 116) rfl (x := (1 : Int32)) (by decide) ?_
        refine Go.ireturn d2_116 (by decide) (by decide) ?_
        unfold exF_68 at hQ
        rw [if_neg c51, if_neg c52, if_neg c53] at hQ
        exact hQ
    · skip
      refine Go.iconst d2_105 (q := 106) rfl (x := ((-1) : Int32)) (by decide) ?_
      refine Go.ireturn d2_106 (by decide) (by decide) ?_
      unfold exF_68 at hQ
      rw [if_neg c51, if_pos c52] at hQ
      exact hQ
  · skip
    refine Go.iload d2_83 (q := 85) rfl rfl ?_
    refine Go.callSV (P := fun w h' => w = .int (unF (u - (256 : Int32))) ∧ h = h') (argsL := [(.int (u - (256 : Int32)))]) (rest := []) (wd := 0) (Ls1 := #[.val (.int (u - (256 : Int32)))]) d2_85 (q := 88) rfl (w10 hw) (w11 hw) (w8 hw) (w12 hw) (by decide) pn3 pd3 rfl rfl (fun m => rfl) rfl (by decide) rfl (by decide) (by decide) (by decide) (b3 l Z a0 hw n0 h (u - (256 : Int32)) (Q := RV (fun w h' => w = .int (unF (u - (256 : Int32))) ∧ h = h')) ⟨_, rfl, rfl, rfl⟩) ?_
    rintro _ _ ⟨rfl, rfl⟩
    refine Go.if_eq d2_88 (q := 95) (q' := 91) (by decide) rfl rfl (fun c60 => ?_) (fun c60 => ?_)
    · skip
      refine Go.iconst d2_95 (q := 96) rfl (x := (0 : Int32)) (by decide) ?_
      refine Go.ireturn d2_96 (by decide) (by decide) ?_
      unfold exF_68 at hQ
      rw [if_pos c51, if_pos c60] at hQ
      exact hQ
    · skip
      refine Go.iconst d2_91 (q := 92) rfl (x := ((-1) : Int32)) (by decide) ?_
      refine Go.goto d2_92 (q := 96) (by decide) rfl ?_
      refine Go.ireturn d2_96 (by decide) (by decide) ?_
      unfold exF_68 at hQ
      rw [if_pos c51, if_neg c60] at hQ
      exact hQ
def exF_47 (s : Int32) (u : Int32) (p : Int32) (t : Int32) : Int32 :=
  if s = 0 then if p = 0 then (exF_68 s u p t) else
    if (unF u) = 0 then ((-1) : Int32) else
    (0 : Int32) else
  (exF_181 s u p t)
set_option maxRecDepth 65536 in
set_option maxHeartbeats 40000000 in
theorem b2_47 (l : Launch) (Z : State) (a0 : Array Value) (hw : Hw a0 Z) (n0 : Nat) (h : Heap) (s : Int32) (u : Int32) (p : Int32) (t : Int32) {Q : Option Value → Heap → Prop} (hQ : Q (some (.int (exF_47 s u p t))) h) :
    Go l Z (⟨"com/example/deucalion/deucalion/match/UriTextNextDecodingPinLaw", "expected", "(II)I"⟩ : MethodName) method_4_code 5 (some .int) ({ frames := 1, cells := 0, slots := 0, locals := 12 } : Room) n0 Q h 0 0 47 #[.val (.int s), .val (.int u), .val (.int p), .val (.int t), .unset] [] := by
  refine Go.iloadN d2_47 (q := 48) rfl rfl ?_
  refine Go.if_ne d2_48 (q := 181) (q' := 51) (by decide) rfl rfl (fun c61 => ?_) (fun c61 => ?_)
  · skip
    unfold exF_47 at hQ
    rw [if_neg c61] at hQ
    exact b2_181 l Z a0 hw n0 h s u p t  hQ
  · skip
    refine Go.iloadN d2_51 (q := 52) rfl rfl ?_
    refine Go.if_eq d2_52 (q := 68) (q' := 55) (by decide) rfl rfl (fun c62 => ?_) (fun c62 => ?_)
    · skip
      unfold exF_47 at hQ
      rw [if_pos c61, if_pos c62] at hQ
      exact b2_68 l Z a0 hw n0 h s u p t  hQ
    · skip
      refine Go.iloadN d2_55 (q := 56) rfl rfl ?_
      refine Go.callSV (P := fun w h' => w = .int (unF u) ∧ h = h') (argsL := [(.int u)]) (rest := []) (wd := 0) (Ls1 := #[.val (.int u)]) d2_56 (q := 59) rfl (w10 hw) (w11 hw) (w8 hw) (w12 hw) (by decide) pn3 pd3 rfl rfl (fun m => rfl) rfl (by decide) rfl (by decide) (by decide) (by decide) (b3 l Z a0 hw n0 h u (Q := RV (fun w h' => w = .int (unF u) ∧ h = h')) ⟨_, rfl, rfl, rfl⟩) ?_
      rintro _ _ ⟨rfl, rfl⟩
      refine Go.if_eq d2_59 (q := 66) (q' := 62) (by decide) rfl rfl (fun c63 => ?_) (fun c63 => ?_)
      · skip
        refine Go.iconst d2_66 (q := 67) rfl (x := ((-1) : Int32)) (by decide) ?_
        refine Go.ireturn d2_67 (by decide) (by decide) ?_
        unfold exF_47 at hQ
        rw [if_pos c61, if_neg c62, if_pos c63] at hQ
        exact hQ
      · skip
        refine Go.iconst d2_62 (q := 63) rfl (x := (0 : Int32)) (by decide) ?_
        refine Go.goto d2_63 (q := 67) (by decide) rfl ?_
        refine Go.ireturn d2_67 (by decide) (by decide) ?_
        unfold exF_47 at hQ
        rw [if_pos c61, if_neg c62, if_neg c63] at hQ
        exact hQ
def exF_36 (s : Int32) (u : Int32) (p : Int32) (z : Int32) : Int32 :=
  if p = 0 then if z = 0 then ((-1) : Int32) else
    (exF_47 s u p z) else
  (exF_47 s u p z)
set_option maxRecDepth 65536 in
set_option maxHeartbeats 40000000 in
theorem b2_36 (l : Launch) (Z : State) (a0 : Array Value) (hw : Hw a0 Z) (n0 : Nat) (h : Heap) (s : Int32) (u : Int32) (p : Int32) (z : Int32) {Q : Option Value → Heap → Prop} (hQ : Q (some (.int (exF_36 s u p z))) h) :
    Go l Z (⟨"com/example/deucalion/deucalion/match/UriTextNextDecodingPinLaw", "expected", "(II)I"⟩ : MethodName) method_4_code 5 (some .int) ({ frames := 1, cells := 0, slots := 0, locals := 12 } : Room) n0 Q h 0 0 36 #[.val (.int s), .val (.int u), .val (.int p), .unset, .unset] [(.int z)] := by
  refine Go.istoreN d2_36 (q := 37) rfl (Ls' := #[.val (.int s), .val (.int u), .val (.int p), .val (.int z), .unset]) rfl ?_
  refine Go.iloadN d2_37 (q := 38) rfl rfl ?_
  refine Go.if_ne d2_38 (q := 47) (q' := 41) (by decide) rfl rfl (fun c64 => ?_) (fun c64 => ?_)
  · skip
    unfold exF_36 at hQ
    rw [if_neg c64] at hQ
    exact b2_47 l Z a0 hw n0 h s u p z  hQ
  · skip
    refine Go.iloadN d2_41 (q := 42) rfl rfl ?_
    refine Go.if_ne d2_42 (q := 47) (q' := 45) (by decide) rfl rfl (fun c65 => ?_) (fun c65 => ?_)
    · skip
      unfold exF_36 at hQ
      rw [if_pos c64, if_neg c65] at hQ
      exact b2_47 l Z a0 hw n0 h s u p z  hQ
    · skip
      refine Go.iconst d2_45 (q := 46) rfl (x := ((-1) : Int32)) (by decide) ?_
      refine Go.ireturn d2_46 (by decide) (by decide) ?_
      unfold exF_36 at hQ
      rw [if_pos c64, if_pos c65] at hQ
      exact hQ
def exF_16 (s : Int32) (u : Int32) (z : Int32) : Int32 :=
  if u < (256 : Int32) then (exF_36 s u z (0 : Int32)) else
  if u < (512 : Int32) then (exF_36 s u z (1 : Int32)) else
  (exF_36 s u z (0 : Int32))
set_option maxRecDepth 65536 in
set_option maxHeartbeats 40000000 in
theorem b2_16 (l : Launch) (Z : State) (a0 : Array Value) (hw : Hw a0 Z) (n0 : Nat) (h : Heap) (s : Int32) (u : Int32) (z : Int32) {Q : Option Value → Heap → Prop} (hQ : Q (some (.int (exF_16 s u z))) h) :
    Go l Z (⟨"com/example/deucalion/deucalion/match/UriTextNextDecodingPinLaw", "expected", "(II)I"⟩ : MethodName) method_4_code 5 (some .int) ({ frames := 1, cells := 0, slots := 0, locals := 12 } : Room) n0 Q h 0 0 16 #[.val (.int s), .val (.int u), .unset, .unset, .unset] [(.int z)] := by
  refine Go.istoreN d2_16 (q := 17) rfl (Ls' := #[.val (.int s), .val (.int u), .val (.int z), .unset, .unset]) rfl ?_
  refine Go.iloadN d2_17 (q := 18) rfl rfl ?_
  refine Go.sipush d2_18 (q := 21) rfl (x := (256 : Int32)) (by decide) ?_
  refine Go.icmp_lt d2_21 (q := 35) (q' := 24) (by decide) rfl rfl (fun c66 => ?_) (fun c66 => ?_)
  · skip
    refine Go.iconst d2_35 (q := 36) rfl (x := (0 : Int32)) (by decide) ?_
    unfold exF_16 at hQ
    rw [if_pos c66] at hQ
    exact b2_36 l Z a0 hw n0 h s u z (0 : Int32)  hQ
  · skip
    refine Go.iloadN d2_24 (q := 25) rfl rfl ?_
    refine Go.sipush d2_25 (q := 28) rfl (x := (512 : Int32)) (by decide) ?_
    refine Go.icmp_ge d2_28 (q := 35) (q' := 31) (by decide) rfl rfl (fun c67 => ?_) (fun c67 => ?_)
    · skip
      refine Go.iconst d2_35 (q := 36) rfl (x := (0 : Int32)) (by decide) ?_
      unfold exF_16 at hQ
      rw [if_neg c66, if_neg c67] at hQ
      exact b2_36 l Z a0 hw n0 h s u z (0 : Int32)  hQ
    · skip
      refine Go.iconst d2_31 (q := 32) rfl (x := (1 : Int32)) (by decide) ?_
      refine Go.goto d2_32 (q := 36) (by decide) rfl ?_
      unfold exF_16 at hQ
      rw [if_neg c66, if_pos c67] at hQ
      exact b2_36 l Z a0 hw n0 h s u z (1 : Int32)  hQ
def exF (s : Int32) (u : Int32) : Int32 :=
  if u < 0 then (exF_16 s u (0 : Int32)) else
  if u < (128 : Int32) then (exF_16 s u (1 : Int32)) else
  (exF_16 s u (0 : Int32))
set_option maxRecDepth 65536 in
set_option maxHeartbeats 40000000 in
theorem b2 (l : Launch) (Z : State) (a0 : Array Value) (hw : Hw a0 Z) (n0 : Nat) (h : Heap) (s : Int32) (u : Int32) {Q : Option Value → Heap → Prop} (hQ : Q (some (.int (exF s u))) h) :
    Go l Z (⟨"com/example/deucalion/deucalion/match/UriTextNextDecodingPinLaw", "expected", "(II)I"⟩ : MethodName) method_4_code 5 (some .int) ({ frames := 1, cells := 0, slots := 0, locals := 12 } : Room) n0 Q h 0 0 0 #[.val (.int s), .val (.int u), .unset, .unset, .unset] [] := by
  refine Go.iloadN d2_0 (q := 1) rfl rfl ?_
  refine Go.if_lt d2_1 (q := 15) (q' := 4) (by decide) rfl rfl (fun c68 => ?_) (fun c68 => ?_)
  · skip
    refine Go.iconst d2_15 (q := 16) rfl (x := (0 : Int32)) (by decide) ?_
    unfold exF at hQ
    rw [if_pos c68] at hQ
    exact b2_16 l Z a0 hw n0 h s u (0 : Int32)  hQ
  · skip
    refine Go.iloadN d2_4 (q := 5) rfl rfl ?_
    refine Go.sipush d2_5 (q := 8) rfl (x := (128 : Int32)) (by decide) ?_
    refine Go.icmp_ge d2_8 (q := 15) (q' := 11) (by decide) rfl rfl (fun c69 => ?_) (fun c69 => ?_)
    · skip
      refine Go.iconst d2_15 (q := 16) rfl (x := (0 : Int32)) (by decide) ?_
      unfold exF at hQ
      rw [if_neg c68, if_neg c69] at hQ
      exact b2_16 l Z a0 hw n0 h s u (0 : Int32)  hQ
    · skip
      refine Go.iconst d2_11 (q := 12) rfl (x := (1 : Int32)) (by decide) ?_
      refine Go.goto d2_12 (q := 16) (by decide) rfl ?_
      unfold exF at hQ
      rw [if_neg c68, if_pos c69] at hQ
      exact b2_16 l Z a0 hw n0 h s u (1 : Int32)  hQ
theorem nd_small : ∀ s : Fin 8, ∀ i : Fin 512, ndF (Int32.ofNat s.val) (Int32.ofNat i.val) = exF (Int32.ofNat s.val) (Int32.ofNat i.val) := by decide +kernel
theorem low_hi : ∀ s : Fin 8, s.val ≠ 0 → 0 ≤ (T_LOWEST s.val).toInt ∧ (T_HIGHEST s.val).toInt < 256 := by decide +kernel
theorem nd_eq (s u : Int32) (hs : ¬ s < 0 ∧ s.toNatClampNeg < 8) : ndF s u = exF s u := by
  have e := c_isub u 256
  have r := rng32 u
  have r' := rng32 (u - 256)
  have e1 : (256 : Int32).toInt = 256 := rfl
  have e2 : (512 : Int32).toInt = 512 := rfl
  have e3 : (128 : Int32).toInt = 128 := rfl
  have e0 : (0 : Int32).toInt = 0 := rfl
  by_cases hu : 0 ≤ u.toInt ∧ u.toInt < 512
  · have h0 : ¬ u < 0 := by rw [Int32.lt_iff_toInt_lt]; omega
    rw [← (back32 h0).1, ← (back32 hs.1).1]
    exact nd_small ⟨_, hs.2⟩ ⟨u.toNatClampNeg, by show u.toInt.toNat < 512; omega⟩
  · have hx : exF s u = -1 := by
      have a1 : ¬ (¬ u < 0 ∧ u < 128) := by
        rw [Int32.lt_iff_toInt_lt, Int32.lt_iff_toInt_lt]; omega
      have a2 : ¬ (¬ u < 256 ∧ u < 512) := by
        rw [Int32.lt_iff_toInt_lt, Int32.lt_iff_toInt_lt]; omega
      have x2 : exF_36 s u 0 0 = -1 := rfl
      have x1 : exF_16 s u 0 = -1 := by
        unfold exF_16
        by_cases b1 : u < 256
        · rw [if_pos b1]; exact x2
        · rw [if_neg b1]
          rw [if_neg (fun q => a2 ⟨b1, q⟩)]; exact x2
      unfold exF
      by_cases b1 : u < 0
      · rw [if_pos b1]; exact x1
      · rw [if_neg b1, if_neg (fun q => a1 ⟨b1, q⟩)]; exact x1
    rw [hx]
    have ho : (u - 256).toInt < 0 ∨ 256 ≤ (u - 256).toInt := by omega
    have hb : ∀ k k' : Int32, 0 ≤ k.toInt → k'.toInt < 256 → ¬ (¬ (u - 256) < k ∧ ¬ k' < (u - 256)) := by
      intro k k' q q'
      rw [Int32.lt_iff_toInt_lt, Int32.lt_iff_toInt_lt]; omega
    have hc : ∀ k : Int32, 0 ≤ k.toInt → k.toInt < 256 → ¬ (u - 256) = k := by
      intro k q q' e
      rw [← e] at q q'; omega
    generalize hoo : u - 256 = o at *
    by_cases s0 : s = 0
    · subst s0
      have z1 : ndF_157 0 u o (-1) = -1 := by
        unfold ndF_157 ndF_199
        rw [if_neg (hc 240 (by decide) (by decide)), if_neg (hc 244 (by decide) (by decide))]
        by_cases b1 : o < 241
        · rw [if_pos b1]
        · rw [if_neg b1]
          by_cases b2 : 243 < o
          · rw [if_pos b2]
          · exact absurd ⟨b1, b2⟩ (hb 241 243 (by decide) (by decide))
      have z2 : ndF_114 0 u o (-1) = -1 := by
        unfold ndF_114
        rw [if_neg (hc 224 (by decide) (by decide)), if_neg (hc 237 (by decide) (by decide))]
        by_cases b1 : o < 225
        · rw [if_pos b1]; exact z1
        · rw [if_neg b1]
          by_cases b2 : 239 < o
          · rw [if_pos b2]; exact z1
          · exact absurd ⟨b1, b2⟩ (hb 225 239 (by decide) (by decide))
      have z3 : ndF_95 0 u o (-1) = -1 := by
        unfold ndF_95
        by_cases b1 : o < 194
        · rw [if_pos b1]; exact z2
        · rw [if_neg b1]
          by_cases b2 : 223 < o
          · rw [if_pos b2]; exact z2
          · exact absurd ⟨b1, b2⟩ (hb 194 223 (by decide) (by decide))
      have z4 : ndF_67 0 u o (-1) = -1 := by
        unfold ndF_67
        by_cases b1 : o < 0
        · rw [if_pos b1]; exact z3
        · rw [if_neg b1, if_neg (by rw [Int32.lt_iff_toInt_lt] at b1 ⊢; omega)]; exact z3
      unfold ndF
      rw [if_pos rfl, hoo]
      by_cases b1 : u < 0
      · rw [if_pos b1]; exact z4
      · rw [if_neg b1, if_neg (by rw [Int32.lt_iff_toInt_lt] at b1 ⊢; omega)]; exact z4
    · have lh := low_hi ⟨_, hs.2⟩ (by
        intro q
        apply s0
        have q' : s.toNatClampNeg = 0 := q
        rw [← (back32 hs.1).1, q']; rfl)
      unfold ndF
      rw [if_neg s0, hoo]
      by_cases b1 : o < T_LOWEST s.toNatClampNeg
      · rw [if_pos b1]; rfl
      · rw [if_neg b1]
        by_cases b2 : T_HIGHEST s.toNatClampNeg < o
        · rw [if_pos b2]; rfl
        · exact absurd ⟨b1, b2⟩ (hb _ _ lh.1 lh.2)
theorem and7 (x : Int32) : ¬ (x &&& 7) < 0 ∧ (x &&& 7).toNatClampNeg < 8 := by
  have e := c_mask x 7 3 (by decide) (by decide)
  have e0 : (0 : Int32).toInt = 0 := rfl
  refine ⟨?_, ?_⟩
  · rw [Int32.lt_iff_toInt_lt]; omega
  · show (x &&& 7).toInt.toNat < 8; omega
set_option maxRecDepth 65536 in
set_option maxHeartbeats 40000000 in
theorem j59 (l : Launch) (Z : State) (a0 : Array Value) (hw : Hw a0 Z) (n0 : Nat) (h : Heap) (O : Old Z n0 h) (xa y z s m u : Int32) (hs : ¬ s < 0 ∧ s.toNatClampNeg < 8) (a_IS_UNRESERVED a_LOWEST a_HIGHEST a_AFTER : Addr) (k_IS_UNRESERVED : ClassId) (vs_IS_UNRESERVED : List Value) (k_LOWEST : ClassId) (vs_LOWEST : List Value) (k_HIGHEST : ClassId) (vs_HIGHEST : List Value) (k_AFTER : ClassId) (vs_AFTER : List Value) (F : Facts Z a_IS_UNRESERVED a_LOWEST a_HIGHEST a_AFTER k_IS_UNRESERVED vs_IS_UNRESERVED k_LOWEST vs_LOWEST k_HIGHEST vs_HIGHEST k_AFTER vs_AFTER) :
    Go l Z x code maxLocals ret room_1 n0 (fun v _ => v = some (.int 1)) h 0 0 59 #[.val (.int xa), .val (.int y), .val (.int z), .val (.int s), .val (.int m), .val (.int u)] [] := by
  refine Go.iloadN at_59 (q := 60) rfl rfl ?_
  refine Go.iload at_60 (q := 62) rfl rfl ?_
  refine Go.callSV (P := fun w h' => w = .int (ndF s u) ∧ h = h') (argsL := [(.int s), (.int u)]) (rest := []) (wd := 0) (Ls1 := #[.val (.int s), .val (.int u), .unset, .unset]) at_62 (q := 65) rfl (w0 hw) (w1 hw) (w2 hw) (w3 hw) (by decide) pn1 pd1 rfl rfl (fun m => rfl) rfl (by decide) rfl (by decide) (by decide) (by decide) (b1 l Z a0 hw n0 h s u O a_IS_UNRESERVED a_LOWEST a_HIGHEST a_AFTER k_IS_UNRESERVED vs_IS_UNRESERVED k_LOWEST vs_LOWEST k_HIGHEST vs_HIGHEST k_AFTER vs_AFTER F hs (Q := RV (fun w h' => w = .int (ndF s u) ∧ h = h')) ⟨_, rfl, rfl, rfl⟩) ?_
  rintro _ _ ⟨rfl, rfl⟩
  refine Go.iloadN at_65 (q := 66) rfl rfl ?_
  refine Go.iload at_66 (q := 68) rfl rfl ?_
  refine Go.callSV (P := fun w h' => w = .int (exF s u) ∧ h = h') (argsL := [(.int s), (.int u)]) (rest := [(.int (ndF s u))]) (wd := 1) (Ls1 := #[.val (.int s), .val (.int u), .unset, .unset, .unset]) at_68 (q := 71) rfl (w6 hw) (w7 hw) (w8 hw) (w9 hw) (by decide) pn2 pd2 rfl rfl (fun m => rfl) rfl (by decide) rfl (by decide) (by decide) (by decide) (b2 l Z a0 hw n0 h s u (Q := RV (fun w h' => w = .int (exF s u) ∧ h = h')) ⟨_, rfl, rfl, rfl⟩) ?_
  rintro _ _ ⟨rfl, rfl⟩
  refine Go.icmp_ne at_71 (q := 78) (q' := 74) (by decide) rfl rfl (fun c70 => ?_) (fun c70 => ?_)
  · exact absurd (nd_eq s u hs) c70
  · skip
    refine Go.iconst at_74 (q := 75) rfl (x := (1 : Int32)) (by decide) ?_
    refine Go.goto at_75 (q := 79) (by decide) rfl ?_
    refine Go.zreturn at_79 (by decide) (by decide) (by decide) ?_
    rfl
set_option maxRecDepth 65536 in
set_option maxHeartbeats 40000000 in
theorem b0 (l : Launch) (Z : State) (a0 : Array Value) (hw : Hw a0 Z) (n0 : Nat) (h : Heap) (O : Old Z n0 h) (xa y z : Int32) (a_IS_UNRESERVED a_LOWEST a_HIGHEST a_AFTER : Addr) (k_IS_UNRESERVED : ClassId) (vs_IS_UNRESERVED : List Value) (k_LOWEST : ClassId) (vs_LOWEST : List Value) (k_HIGHEST : ClassId) (vs_HIGHEST : List Value) (k_AFTER : ClassId) (vs_AFTER : List Value) (F : Facts Z a_IS_UNRESERVED a_LOWEST a_HIGHEST a_AFTER k_IS_UNRESERVED vs_IS_UNRESERVED k_LOWEST vs_LOWEST k_HIGHEST vs_HIGHEST k_AFTER vs_AFTER) :
    Go l Z x code maxLocals ret room_1 n0 (fun v _ => v = some (.int 1)) h 0 0 0 #[.val (.int xa), .val (.int y), .val (.int z), .unset, .unset, .unset] [] := by
  refine Go.iloadN at_0 (q := 1) rfl rfl ?_
  refine Go.bipush at_1 (q := 3) rfl (x := (7 : Int32)) (by decide) ?_
  refine Go.iand at_3 (q := 4) rfl ?_
  refine Go.istoreN at_4 (q := 5) rfl (Ls' := #[.val (.int xa), .val (.int y), .val (.int z), .val (.int (xa &&& (7 : Int32))), .unset, .unset]) rfl ?_
  refine Go.iloadN at_5 (q := 6) rfl rfl ?_
  refine Go.iconst at_6 (q := 7) rfl (x := (3 : Int32)) (by decide) ?_
  refine Go.iand at_7 (q := 8) rfl ?_
  refine Go.istore at_8 (q := 10) rfl (Ls' := #[.val (.int xa), .val (.int y), .val (.int z), .val (.int (xa &&& (7 : Int32))), .val (.int (z &&& (3 : Int32))), .unset]) rfl ?_
  refine Go.iload at_10 (q := 12) rfl rfl ?_
  refine Go.if_ne at_12 (q := 21) (q' := 15) (by decide) rfl rfl (fun c71 => ?_) (fun c71 => ?_)
  · skip
    refine Go.iload at_21 (q := 23) rfl rfl ?_
    refine Go.iconst at_23 (q := 24) rfl (x := (1 : Int32)) (by decide) ?_
    refine Go.icmp_ne at_24 (q := 33) (q' := 27) (by decide) rfl rfl (fun c72 => ?_) (fun c72 => ?_)
    · skip
      refine Go.iload at_33 (q := 35) rfl rfl ?_
      refine Go.iconst at_35 (q := 36) rfl (x := (2 : Int32)) (by decide) ?_
      refine Go.icmp_ne at_36 (q := 48) (q' := 39) (by decide) rfl rfl (fun c73 => ?_) (fun c73 => ?_)
      · skip
        refine Go.sipush at_48 (q := 51) rfl (x := (256 : Int32)) (by decide) ?_
        refine Go.iloadN at_51 (q := 52) rfl rfl ?_
        refine Go.sipush at_52 (q := 55) rfl (x := (255 : Int32)) (by decide) ?_
        refine Go.iand at_55 (q := 56) rfl ?_
        refine Go.iadd at_56 (q := 57) rfl ?_
        refine Go.istore at_57 (q := 59) rfl (Ls' := #[.val (.int xa), .val (.int y), .val (.int z), .val (.int (xa &&& (7 : Int32))), .val (.int (z &&& (3 : Int32))), .val (.int ((256 : Int32) + (y &&& (255 : Int32))))]) rfl ?_
        exact j59 l Z a0 hw n0 h O _ _ _ _ _ _ (and7 xa) a_IS_UNRESERVED a_LOWEST a_HIGHEST a_AFTER k_IS_UNRESERVED vs_IS_UNRESERVED k_LOWEST vs_LOWEST k_HIGHEST vs_HIGHEST k_AFTER vs_AFTER F
      · skip
        refine Go.iloadN at_39 (q := 40) rfl rfl ?_
        refine Go.bipush at_40 (q := 42) rfl (x := (127 : Int32)) (by decide) ?_
        refine Go.iand at_42 (q := 43) rfl ?_
        refine Go.istore at_43 (q := 45) rfl (Ls' := #[.val (.int xa), .val (.int y), .val (.int z), .val (.int (xa &&& (7 : Int32))), .val (.int (z &&& (3 : Int32))), .val (.int (y &&& (127 : Int32)))]) rfl ?_
        refine Go.goto at_45 (q := 59) (by decide) rfl ?_
        exact j59 l Z a0 hw n0 h O _ _ _ _ _ _ (and7 xa) a_IS_UNRESERVED a_LOWEST a_HIGHEST a_AFTER k_IS_UNRESERVED vs_IS_UNRESERVED k_LOWEST vs_LOWEST k_HIGHEST vs_HIGHEST k_AFTER vs_AFTER F
    · skip
      refine Go.iconst at_27 (q := 28) rfl (x := ((-1) : Int32)) (by decide) ?_
      refine Go.istore at_28 (q := 30) rfl (Ls' := #[.val (.int xa), .val (.int y), .val (.int z), .val (.int (xa &&& (7 : Int32))), .val (.int (z &&& (3 : Int32))), .val (.int ((-1) : Int32))]) rfl ?_
      refine Go.goto at_30 (q := 59) (by decide) rfl ?_
      exact j59 l Z a0 hw n0 h O _ _ _ _ _ _ (and7 xa) a_IS_UNRESERVED a_LOWEST a_HIGHEST a_AFTER k_IS_UNRESERVED vs_IS_UNRESERVED k_LOWEST vs_LOWEST k_HIGHEST vs_HIGHEST k_AFTER vs_AFTER F
  · skip
    refine Go.iloadN at_15 (q := 16) rfl rfl ?_
    refine Go.istore at_16 (q := 18) rfl (Ls' := #[.val (.int xa), .val (.int y), .val (.int z), .val (.int (xa &&& (7 : Int32))), .val (.int (z &&& (3 : Int32))), .val (.int y)]) rfl ?_
    refine Go.goto at_18 (q := 59) (by decide) rfl ?_
    exact j59 l Z a0 hw n0 h O _ _ _ _ _ _ (and7 xa) a_IS_UNRESERVED a_LOWEST a_HIGHEST a_AFTER k_IS_UNRESERVED vs_IS_UNRESERVED k_LOWEST vs_LOWEST k_HIGHEST vs_HIGHEST k_AFTER vs_AFTER F
set_option maxRecDepth 65536 in
set_option maxHeartbeats 40000000 in
theorem comes_1 {Post : Tables → Env → Array Value → State → Outcome → State → Prop} (hpost : ∀ tb e args s v u, (limb_1_1.after args s (.returned v) u = true ∧ limb_1_2.after args s (.returned v) u = true ∧ True) → FrameEnd s (.returned v) u (Jvm.fieldLocs frame_1_writes args s ++ Jvm.arrayLocs frame_1_arrays args s ++ Jvm.staticLocs frame_1_statics s) 0 0 → Post tb e args s (.returned v) u) :
    ArmFor flags0 classFile x code maxLocals ret World_1 tables_1 room_1 Calls_1 rest_1 Pre_1 Post := by
  intro l hfl _ _ p e ha hc hk s m args below hf hA hF happ hP
  obtain ⟨hcalls, hrest, hpre⟩ := hP
  obtain ⟨-, -, -, hnamed, -, -, -, hat⟩ := (Spec.applies_iff hf).mp happ
  obtain ⟨hg, hn⟩ := and_e (Jvm.Cond.before_iff.mp (show (Jvm.Cond.and given_1 narrow_1).before args s = true from hpre))
  obtain ⟨g0, hg⟩ := and_e hg
  obtain ⟨g1, hg⟩ := and_e hg
  obtain ⟨g2, hg⟩ := and_e hg
  have g3 := hg
  obtain ⟨v0, v1, v2, rfl⟩ : ∃ v0 v1 v2 : Value, args = #[v0, v1, v2] := by
    have hs : args.size = 3 := by simpa [Jvm.Cond.value, given_1] using g0
    obtain ⟨L⟩ := args
    match L, hs with
    | [v0, v1, v2], _ => exact ⟨v0, v1, v2, rfl⟩
  have hw : Hw _ s := fun d (hd : d ∈ tables_1) => atoms_spec (ws := Jvm.Cond.code x code maxLocals ret :: tables_1) hat d (List.mem_cons_of_mem _ hd)
  have hfit : Fit s := fun {y c} hc i hi => by
    obtain ⟨ha, rfl⟩ := Array.getElem?_eq_some_iff.mp hc
    have q := List.all_eq_true.mp ((Array.all_eq_true_iff_forall_mem.mp hF) _ (Array.getElem_mem ha)) i (List.mem_range.mpr hi)
    simpa [Array.getElem?_eq_getElem hi] using q
  obtain ⟨x0, e0⟩ := is_v g1
  obtain rfl : v0 = (.int x0) := Option.some.inj e0
  obtain ⟨x1, e1⟩ := is_v g2
  obtain rfl : v1 = (.int x1) := Option.some.inj e1
  obtain ⟨x2, e2⟩ := is_v g3
  obtain rfl : v2 = (.int x2) := Option.some.inj e2
  obtain ⟨q0, hn⟩ := and_e hn
  obtain ⟨q1, hn⟩ := and_e hn
  obtain ⟨q2, hn⟩ := and_e hn
  obtain ⟨q3, hn⟩ := and_e hn
  obtain ⟨q4, hn⟩ := and_e hn
  obtain ⟨q5, hn⟩ := and_e hn
  obtain ⟨q6, hn⟩ := and_e hn
  obtain ⟨q7, hn⟩ := and_e hn
  obtain ⟨q8, hn⟩ := and_e hn
  obtain ⟨q9, hn⟩ := and_e hn
  obtain ⟨q10, hn⟩ := and_e hn
  obtain ⟨q11, hn⟩ := and_e hn
  obtain ⟨q12, hn⟩ := and_e hn
  obtain ⟨q13, hn⟩ := and_e hn
  obtain ⟨q14, hn⟩ := and_e hn
  obtain ⟨q15, hn⟩ := and_e hn
  obtain ⟨q16, hn⟩ := and_e hn
  obtain ⟨q17, hn⟩ := and_e hn
  obtain ⟨q18, hn⟩ := and_e hn
  obtain ⟨q19, hn⟩ := and_e hn
  obtain ⟨q20, hn⟩ := and_e hn
  obtain ⟨q21, hn⟩ := and_e hn
  obtain ⟨q22, hn⟩ := and_e hn
  obtain ⟨q23, hn⟩ := and_e hn
  obtain ⟨q24, hn⟩ := and_e hn
  obtain ⟨q25, hn⟩ := and_e hn
  obtain ⟨q26, hn⟩ := and_e hn
  obtain ⟨q27, hn⟩ := and_e hn
  obtain ⟨q28, hn⟩ := and_e hn
  obtain ⟨q29, hn⟩ := and_e hn
  obtain ⟨q30, hn⟩ := and_e hn
  obtain ⟨q31, hn⟩ := and_e hn
  obtain ⟨q32, hn⟩ := and_e hn
  obtain ⟨q33, hn⟩ := and_e hn
  obtain ⟨q34, hn⟩ := and_e hn
  obtain ⟨q35, hn⟩ := and_e hn
  obtain ⟨q36, hn⟩ := and_e hn
  obtain ⟨q37, hn⟩ := and_e hn
  obtain ⟨q38, hn⟩ := and_e hn
  obtain ⟨q39, hn⟩ := and_e hn
  obtain ⟨q40, hn⟩ := and_e hn
  obtain ⟨q41, hn⟩ := and_e hn
  obtain ⟨q42, hn⟩ := and_e hn
  obtain ⟨q43, hn⟩ := and_e hn
  have q44 := hn
  obtain ⟨a_IS_UNRESERVED, k_IS_UNRESERVED, vs_IS_UNRESERVED, ev_IS_UNRESERVED, S_IS_UNRESERVED, A_IS_UNRESERVED⟩ := sta_arr q0 (w2 hw) (w5 hw)
  obtain ⟨a_LOWEST, k_LOWEST, vs_LOWEST, ev_LOWEST, S_LOWEST, A_LOWEST⟩ := sta_arr q2 (w2 hw) (w14 hw)
  obtain ⟨a_HIGHEST, k_HIGHEST, vs_HIGHEST, ev_HIGHEST, S_HIGHEST, A_HIGHEST⟩ := sta_arr q4 (w2 hw) (w16 hw)
  obtain ⟨a_AFTER, k_AFTER, vs_AFTER, ev_AFTER, S_AFTER, A_AFTER⟩ := sta_arr q6 (w2 hw) (w18 hw)
  have N_IS_UNRESERVED : vs_IS_UNRESERVED.length = 128 := arr_len ev_IS_UNRESERVED A_IS_UNRESERVED q1
  have N_LOWEST : vs_LOWEST.length = 8 := arr_len ev_LOWEST A_LOWEST q3
  have N_HIGHEST : vs_HIGHEST.length = 8 := arr_len ev_HIGHEST A_HIGHEST q5
  have N_AFTER : vs_AFTER.length = 8 := arr_len ev_AFTER A_AFTER q7
  have L_IS_UNRESERVED_0 : ∀ i, i < vs_IS_UNRESERVED.length → i < 2 ^ 31 → 0 ≤ i → i < 45 → vs_IS_UNRESERVED[i]? = some (.int 0) := by
    intro i hi hb hlo hhi
    have r := arr_all ev_IS_UNRESERVED A_IS_UNRESERVED q8 i hi
    have r := (all_le hb r).resolve_left (by simp; omega)
    exact all_elem (sta_idx ev_IS_UNRESERVED) A_IS_UNRESERVED hb r
  have V_IS_UNRESERVED_45 : vs_IS_UNRESERVED[45]? = some (.int 1) := arr_elem ev_IS_UNRESERVED A_IS_UNRESERVED q9
  have V_IS_UNRESERVED_46 : vs_IS_UNRESERVED[46]? = some (.int 1) := arr_elem ev_IS_UNRESERVED A_IS_UNRESERVED q10
  have V_IS_UNRESERVED_47 : vs_IS_UNRESERVED[47]? = some (.int 0) := arr_elem ev_IS_UNRESERVED A_IS_UNRESERVED q11
  have L_IS_UNRESERVED_48 : ∀ i, i < vs_IS_UNRESERVED.length → i < 2 ^ 31 → 48 ≤ i → i < 58 → vs_IS_UNRESERVED[i]? = some (.int 1) := by
    intro i hi hb hlo hhi
    have r := arr_all ev_IS_UNRESERVED A_IS_UNRESERVED q12 i hi
    have r := (all_lt hb r).resolve_left (by simp; omega)
    have r := (all_le hb r).resolve_left (by simp; omega)
    exact all_elem (sta_idx ev_IS_UNRESERVED) A_IS_UNRESERVED hb r
  have L_IS_UNRESERVED_58 : ∀ i, i < vs_IS_UNRESERVED.length → i < 2 ^ 31 → 58 ≤ i → i < 65 → vs_IS_UNRESERVED[i]? = some (.int 0) := by
    intro i hi hb hlo hhi
    have r := arr_all ev_IS_UNRESERVED A_IS_UNRESERVED q13 i hi
    have r := (all_lt hb r).resolve_left (by simp; omega)
    have r := (all_le hb r).resolve_left (by simp; omega)
    exact all_elem (sta_idx ev_IS_UNRESERVED) A_IS_UNRESERVED hb r
  have L_IS_UNRESERVED_65 : ∀ i, i < vs_IS_UNRESERVED.length → i < 2 ^ 31 → 65 ≤ i → i < 91 → vs_IS_UNRESERVED[i]? = some (.int 1) := by
    intro i hi hb hlo hhi
    have r := arr_all ev_IS_UNRESERVED A_IS_UNRESERVED q14 i hi
    have r := (all_lt hb r).resolve_left (by simp; omega)
    have r := (all_le hb r).resolve_left (by simp; omega)
    exact all_elem (sta_idx ev_IS_UNRESERVED) A_IS_UNRESERVED hb r
  have L_IS_UNRESERVED_91 : ∀ i, i < vs_IS_UNRESERVED.length → i < 2 ^ 31 → 91 ≤ i → i < 95 → vs_IS_UNRESERVED[i]? = some (.int 0) := by
    intro i hi hb hlo hhi
    have r := arr_all ev_IS_UNRESERVED A_IS_UNRESERVED q15 i hi
    have r := (all_lt hb r).resolve_left (by simp; omega)
    have r := (all_le hb r).resolve_left (by simp; omega)
    exact all_elem (sta_idx ev_IS_UNRESERVED) A_IS_UNRESERVED hb r
  have V_IS_UNRESERVED_95 : vs_IS_UNRESERVED[95]? = some (.int 1) := arr_elem ev_IS_UNRESERVED A_IS_UNRESERVED q16
  have V_IS_UNRESERVED_96 : vs_IS_UNRESERVED[96]? = some (.int 0) := arr_elem ev_IS_UNRESERVED A_IS_UNRESERVED q17
  have L_IS_UNRESERVED_97 : ∀ i, i < vs_IS_UNRESERVED.length → i < 2 ^ 31 → 97 ≤ i → i < 123 → vs_IS_UNRESERVED[i]? = some (.int 1) := by
    intro i hi hb hlo hhi
    have r := arr_all ev_IS_UNRESERVED A_IS_UNRESERVED q18 i hi
    have r := (all_lt hb r).resolve_left (by simp; omega)
    have r := (all_le hb r).resolve_left (by simp; omega)
    exact all_elem (sta_idx ev_IS_UNRESERVED) A_IS_UNRESERVED hb r
  have V_IS_UNRESERVED_123 : vs_IS_UNRESERVED[123]? = some (.int 0) := arr_elem ev_IS_UNRESERVED A_IS_UNRESERVED q19
  have V_IS_UNRESERVED_124 : vs_IS_UNRESERVED[124]? = some (.int 0) := arr_elem ev_IS_UNRESERVED A_IS_UNRESERVED q20
  have V_IS_UNRESERVED_125 : vs_IS_UNRESERVED[125]? = some (.int 0) := arr_elem ev_IS_UNRESERVED A_IS_UNRESERVED q21
  have V_IS_UNRESERVED_126 : vs_IS_UNRESERVED[126]? = some (.int 1) := arr_elem ev_IS_UNRESERVED A_IS_UNRESERVED q22
  have V_IS_UNRESERVED_127 : vs_IS_UNRESERVED[127]? = some (.int 0) := arr_elem ev_IS_UNRESERVED A_IS_UNRESERVED q23
  have V_LOWEST_0 : vs_LOWEST[0]? = some (.int 0) := arr_elem ev_LOWEST A_LOWEST q24
  have V_LOWEST_1 : vs_LOWEST[1]? = some (.int 128) := arr_elem ev_LOWEST A_LOWEST q25
  have V_LOWEST_2 : vs_LOWEST[2]? = some (.int 128) := arr_elem ev_LOWEST A_LOWEST q26
  have V_LOWEST_3 : vs_LOWEST[3]? = some (.int 128) := arr_elem ev_LOWEST A_LOWEST q27
  have V_LOWEST_4 : vs_LOWEST[4]? = some (.int 160) := arr_elem ev_LOWEST A_LOWEST q28
  have V_LOWEST_5 : vs_LOWEST[5]? = some (.int 128) := arr_elem ev_LOWEST A_LOWEST q29
  have V_LOWEST_6 : vs_LOWEST[6]? = some (.int 144) := arr_elem ev_LOWEST A_LOWEST q30
  have V_LOWEST_7 : vs_LOWEST[7]? = some (.int 128) := arr_elem ev_LOWEST A_LOWEST q31
  have V_HIGHEST_0 : vs_HIGHEST[0]? = some (.int 0) := arr_elem ev_HIGHEST A_HIGHEST q32
  have L_HIGHEST_1 : ∀ i, i < vs_HIGHEST.length → i < 2 ^ 31 → 1 ≤ i → i < 5 → vs_HIGHEST[i]? = some (.int 191) := by
    intro i hi hb hlo hhi
    have r := arr_all ev_HIGHEST A_HIGHEST q33 i hi
    have r := (all_lt hb r).resolve_left (by simp; omega)
    have r := (all_le hb r).resolve_left (by simp; omega)
    exact all_elem (sta_idx ev_HIGHEST) A_HIGHEST hb r
  have V_HIGHEST_5 : vs_HIGHEST[5]? = some (.int 159) := arr_elem ev_HIGHEST A_HIGHEST q34
  have V_HIGHEST_6 : vs_HIGHEST[6]? = some (.int 191) := arr_elem ev_HIGHEST A_HIGHEST q35
  have V_HIGHEST_7 : vs_HIGHEST[7]? = some (.int 143) := arr_elem ev_HIGHEST A_HIGHEST q36
  have V_AFTER_0 : vs_AFTER[0]? = some (.int 0) := arr_elem ev_AFTER A_AFTER q37
  have V_AFTER_1 : vs_AFTER[1]? = some (.int 0) := arr_elem ev_AFTER A_AFTER q38
  have V_AFTER_2 : vs_AFTER[2]? = some (.int 1) := arr_elem ev_AFTER A_AFTER q39
  have V_AFTER_3 : vs_AFTER[3]? = some (.int 2) := arr_elem ev_AFTER A_AFTER q40
  have V_AFTER_4 : vs_AFTER[4]? = some (.int 1) := arr_elem ev_AFTER A_AFTER q41
  have V_AFTER_5 : vs_AFTER[5]? = some (.int 1) := arr_elem ev_AFTER A_AFTER q42
  have V_AFTER_6 : vs_AFTER[6]? = some (.int 2) := arr_elem ev_AFTER A_AFTER q43
  have V_AFTER_7 : vs_AFTER[7]? = some (.int 2) := arr_elem ev_AFTER A_AFTER q44
  have V_IS_UNRESERVED : ∀ i, i < vs_IS_UNRESERVED.length → vs_IS_UNRESERVED[i]? = some (.int (T_IS_UNRESERVED i)) := by
    intro i hi
    rw [N_IS_UNRESERVED] at hi
    unfold T_IS_UNRESERVED
    by_cases t0 : i < 45
    · rw [if_pos t0]
      exact L_IS_UNRESERVED_0 i (by omega) (by omega) (by omega) (by omega)
    rw [if_neg t0]
    by_cases t1 : i < 46
    · rw [if_pos t1]
      rw [show i = 45 by omega]; exact V_IS_UNRESERVED_45
    rw [if_neg t1]
    by_cases t2 : i < 47
    · rw [if_pos t2]
      rw [show i = 46 by omega]; exact V_IS_UNRESERVED_46
    rw [if_neg t2]
    by_cases t3 : i < 48
    · rw [if_pos t3]
      rw [show i = 47 by omega]; exact V_IS_UNRESERVED_47
    rw [if_neg t3]
    by_cases t4 : i < 58
    · rw [if_pos t4]
      exact L_IS_UNRESERVED_48 i (by omega) (by omega) (by omega) (by omega)
    rw [if_neg t4]
    by_cases t5 : i < 65
    · rw [if_pos t5]
      exact L_IS_UNRESERVED_58 i (by omega) (by omega) (by omega) (by omega)
    rw [if_neg t5]
    by_cases t6 : i < 91
    · rw [if_pos t6]
      exact L_IS_UNRESERVED_65 i (by omega) (by omega) (by omega) (by omega)
    rw [if_neg t6]
    by_cases t7 : i < 95
    · rw [if_pos t7]
      exact L_IS_UNRESERVED_91 i (by omega) (by omega) (by omega) (by omega)
    rw [if_neg t7]
    by_cases t8 : i < 96
    · rw [if_pos t8]
      rw [show i = 95 by omega]; exact V_IS_UNRESERVED_95
    rw [if_neg t8]
    by_cases t9 : i < 97
    · rw [if_pos t9]
      rw [show i = 96 by omega]; exact V_IS_UNRESERVED_96
    rw [if_neg t9]
    by_cases t10 : i < 123
    · rw [if_pos t10]
      exact L_IS_UNRESERVED_97 i (by omega) (by omega) (by omega) (by omega)
    rw [if_neg t10]
    by_cases t11 : i < 124
    · rw [if_pos t11]
      rw [show i = 123 by omega]; exact V_IS_UNRESERVED_123
    rw [if_neg t11]
    by_cases t12 : i < 125
    · rw [if_pos t12]
      rw [show i = 124 by omega]; exact V_IS_UNRESERVED_124
    rw [if_neg t12]
    by_cases t13 : i < 126
    · rw [if_pos t13]
      rw [show i = 125 by omega]; exact V_IS_UNRESERVED_125
    rw [if_neg t13]
    by_cases t14 : i < 127
    · rw [if_pos t14]
      rw [show i = 126 by omega]; exact V_IS_UNRESERVED_126
    rw [if_neg t14]
    rw [show i = 127 by omega]; exact V_IS_UNRESERVED_127
  have V_LOWEST : ∀ i, i < vs_LOWEST.length → vs_LOWEST[i]? = some (.int (T_LOWEST i)) := by
    intro i hi
    rw [N_LOWEST] at hi
    unfold T_LOWEST
    by_cases t0 : i < 1
    · rw [if_pos t0]
      rw [show i = 0 by omega]; exact V_LOWEST_0
    rw [if_neg t0]
    by_cases t1 : i < 2
    · rw [if_pos t1]
      rw [show i = 1 by omega]; exact V_LOWEST_1
    rw [if_neg t1]
    by_cases t2 : i < 3
    · rw [if_pos t2]
      rw [show i = 2 by omega]; exact V_LOWEST_2
    rw [if_neg t2]
    by_cases t3 : i < 4
    · rw [if_pos t3]
      rw [show i = 3 by omega]; exact V_LOWEST_3
    rw [if_neg t3]
    by_cases t4 : i < 5
    · rw [if_pos t4]
      rw [show i = 4 by omega]; exact V_LOWEST_4
    rw [if_neg t4]
    by_cases t5 : i < 6
    · rw [if_pos t5]
      rw [show i = 5 by omega]; exact V_LOWEST_5
    rw [if_neg t5]
    by_cases t6 : i < 7
    · rw [if_pos t6]
      rw [show i = 6 by omega]; exact V_LOWEST_6
    rw [if_neg t6]
    rw [show i = 7 by omega]; exact V_LOWEST_7
  have V_HIGHEST : ∀ i, i < vs_HIGHEST.length → vs_HIGHEST[i]? = some (.int (T_HIGHEST i)) := by
    intro i hi
    rw [N_HIGHEST] at hi
    unfold T_HIGHEST
    by_cases t0 : i < 1
    · rw [if_pos t0]
      rw [show i = 0 by omega]; exact V_HIGHEST_0
    rw [if_neg t0]
    by_cases t1 : i < 5
    · rw [if_pos t1]
      exact L_HIGHEST_1 i (by omega) (by omega) (by omega) (by omega)
    rw [if_neg t1]
    by_cases t2 : i < 6
    · rw [if_pos t2]
      rw [show i = 5 by omega]; exact V_HIGHEST_5
    rw [if_neg t2]
    by_cases t3 : i < 7
    · rw [if_pos t3]
      rw [show i = 6 by omega]; exact V_HIGHEST_6
    rw [if_neg t3]
    rw [show i = 7 by omega]; exact V_HIGHEST_7
  have V_AFTER : ∀ i, i < vs_AFTER.length → vs_AFTER[i]? = some (.int (T_AFTER i)) := by
    intro i hi
    rw [N_AFTER] at hi
    unfold T_AFTER
    by_cases t0 : i < 1
    · rw [if_pos t0]
      rw [show i = 0 by omega]; exact V_AFTER_0
    rw [if_neg t0]
    by_cases t1 : i < 2
    · rw [if_pos t1]
      rw [show i = 1 by omega]; exact V_AFTER_1
    rw [if_neg t1]
    by_cases t2 : i < 3
    · rw [if_pos t2]
      rw [show i = 2 by omega]; exact V_AFTER_2
    rw [if_neg t2]
    by_cases t3 : i < 4
    · rw [if_pos t3]
      rw [show i = 3 by omega]; exact V_AFTER_3
    rw [if_neg t3]
    by_cases t4 : i < 5
    · rw [if_pos t4]
      rw [show i = 4 by omega]; exact V_AFTER_4
    rw [if_neg t4]
    by_cases t5 : i < 6
    · rw [if_pos t5]
      rw [show i = 5 by omega]; exact V_AFTER_5
    rw [if_neg t5]
    by_cases t6 : i < 7
    · rw [if_pos t6]
      rw [show i = 6 by omega]; exact V_AFTER_6
    rw [if_neg t6]
    rw [show i = 7 by omega]; exact V_AFTER_7
  have G := b0 l s _ hw s.heap.size s.heap (Old.start s) x0 x1 x2 a_IS_UNRESERVED a_LOWEST a_HIGHEST a_AFTER k_IS_UNRESERVED vs_IS_UNRESERVED k_LOWEST vs_LOWEST k_HIGHEST vs_HIGHEST k_AFTER vs_AFTER (show Facts s a_IS_UNRESERVED a_LOWEST a_HIGHEST a_AFTER k_IS_UNRESERVED vs_IS_UNRESERVED k_LOWEST vs_LOWEST k_HIGHEST vs_HIGHEST k_AFTER vs_AFTER from ⟨S_IS_UNRESERVED, A_IS_UNRESERVED, S_LOWEST, A_LOWEST, S_HIGHEST, A_HIGHEST, S_AFTER, A_AFTER, N_IS_UNRESERVED, N_LOWEST, N_HIGHEST, N_AFTER, V_IS_UNRESERVED, V_LOWEST, V_HIGHEST, V_AFTER⟩)
  obtain ⟨n, o, h1, h2, h3, _, L, rfl, ⟨N, rfl⟩, hq⟩ := (G.met pn0 (fun m => rfl) tables_1) p e ha hc hk s m _ below hf ((Spec.applies_iff_loose hf).mp happ).1 ⟨rfl, State.Warmed39.refl s, rfl⟩ trivial
  refine ⟨n, _, h1, h2, h3, hpost _ _ _ _ _ _ ⟨Jvm.Cond.after_iff.mpr rfl, Jvm.Cond.after_iff.mpr (eq_i res_at (Term.int_eval (1)) rfl), trivial⟩ ⟨hq.1, hq.2.1, (hq.2.2.sift fun y hy => Or.inr (N y hy)).mono (by decide) (by decide)⟩⟩
theorem main_1_1 : Claimed_1_1 := comes_1 fun _ _ _ _ _ _ h hF => ⟨h.1, hF⟩
theorem main_1_2 : Claimed_1_2 := comes_1 fun _ _ _ _ _ _ h hF => ⟨h.2.1, hF⟩
end Jvm.Pilot.@@N@@
namespace Jvm.Pilot.@@N@@
open Jvm Jvm.ClassFile Sem Op Lib Jvm.Free Jvm.Stand Jvm.Pilot.@@N@@.Jvm.D
/-! MADE BY PROGRAM (witnessworld.py) out of the Statement's table words and the real class files: 11 classes; the members and pool entries that the words name. The judged class is class 1, her method 1. -/
namespace start1
open Jvm.ClassFile
def u (s : String) : CpInfo := .utf8 (stringToUtf16 s)
/-- a pool by its gaps: so many unusable entries, then the entry; so many at the end -/
def gap : Nat → List CpInfo → List CpInfo
  | 0, r => r
  | n + 1, r => .unusable :: gap n r
def poolList (es : List (Nat × CpInfo)) (last : Nat) : List CpInfo := es.foldr (fun e r => gap e.1 (e.2 :: r)) (gap last [])
def pool (es : List (Nat × CpInfo)) (last : Nat) : Array CpInfo := ⟨poolList es last⟩
def fileOf (pool : Array CpInfo) (this : Nat) (attrs : Array Attribute := #[]) (ms : Array MethodInfo := #[]) (fl : Nat := 33) (sup : Nat := 0) (ifs : Array Nat := #[]) (fds : Array FieldInfo := #[]) : ClassFile where
  minorVersion := 0
  majorVersion := 65
  constantPool := pool
  accessFlags := fl
  thisClass := this
  superClass := sup
  interfaces := ifs
  fields := fds
  methods := ms
  attributes := attrs
def plain (name : String) (sup : Option ClassId) : Class where
  name := name
  kind := .ordinary
  loader := none
  accessFlags := 33
  super := sup
  interfaces := #[]
  cf := none
  fields := #[]
  methods := #[]
  instanceTypes := #[]
  staticTypes := #[]
  resolved := #[]
  callSites := []
  init := .initialized
  statics := none
  mirror := none

def pool0 : Array CpInfo := pool [(5, u "<init>"), (0, u "()V"), (1, .class_ 10), (1, u "java/lang/Object")] 113

def k0m0 : Method := { name := "<init>", desc := "()V", sig := { parameters := [], returnType := none }, accessFlags := 1, code := none }
/-- java/lang/Object -/
def k0 : Class := { plain "java/lang/Object" none with
  accessFlags := 33
  interfaces := #[]
  cf := some (fileOf pool0 8 #[] #[{ accessFlags := 1, nameIndex := 5, descriptorIndex := 6, attributes := #[] }] 33 0 #[] #[])
  fields := #[]
  methods := #[k0m0]
  instanceTypes := #[]
  staticTypes := #[]
  resolved := Array.replicate 124 none
  statics := none }

def pool1 : Array CpInfo := pool [(2, .class_ 4), (1, u "java/lang/Object"), (0, u "<init>"), (0, u "()V"), (0, .methodref 8 9), (0, .class_ 10), (0, .nameAndType 11 12), (0, u "com/example/deucalion/deucalion/match/UriText"), (0, u "nextDecoding"), (0, u "(II)I"), (0, .methodref 14 15), (0, .class_ 16), (0, .nameAndType 17 12), (0, u "com/example/deucalion/deucalion/match/UriTextNextDecodingPinLaw"), (0, u "expected"), (0, .methodref 14 19), (0, .nameAndType 20 21), (0, u "unreserved"), (0, u "(I)Z"), (2, u "law"), (0, u "(III)Z")] 3

def k1m0 : Method := { name := "<init>", desc := "()V", sig := { parameters := [], returnType := none }, accessFlags := 1, code := none }
def k1c1 : Code := { maxStack := 3, maxLocals := 6, code := code, exceptionTable := #[], attributes := #[] }
def k1m1 : Method := { name := "law", desc := "(III)Z", sig := { parameters := [.int, .int, .int], returnType := some .boolean }, accessFlags := 9, code := some k1c1 }
def k1c2 : Code := { maxStack := 2, maxLocals := 1, code := method_3_code, exceptionTable := #[], attributes := #[] }
def k1m2 : Method := { name := "unreserved", desc := "(I)Z", sig := { parameters := [.int], returnType := some .boolean }, accessFlags := 10, code := some k1c2 }
def k1c3 : Code := { maxStack := 2, maxLocals := 5, code := method_4_code, exceptionTable := #[], attributes := #[] }
def k1m3 : Method := { name := "expected", desc := "(II)I", sig := { parameters := [.int, .int], returnType := some .int }, accessFlags := 10, code := some k1c3 }
/-- com/example/deucalion/deucalion/match/UriTextNextDecodingPinLaw -/
def k1 : Class := { plain "com/example/deucalion/deucalion/match/UriTextNextDecodingPinLaw" (some 0) with
  accessFlags := 49
  interfaces := #[]
  cf := some (fileOf pool1 14 #[] #[{ accessFlags := 1, nameIndex := 5, descriptorIndex := 6, attributes := #[] }, { accessFlags := 9, nameIndex := 24, descriptorIndex := 25, attributes := #[] }, { accessFlags := 10, nameIndex := 20, descriptorIndex := 21, attributes := #[] }, { accessFlags := 10, nameIndex := 17, descriptorIndex := 12, attributes := #[] }] 49 2 #[] #[])
  fields := #[]
  methods := #[k1m0, k1m1, k1m2, k1m3]
  instanceTypes := #[]
  staticTypes := #[]
  resolved := Array.replicate 29 none
  statics := none }

def pool2 : Array CpInfo := pool [(1, .class_ 2), (0, u "com/example/deucalion/deucalion/match/UriText"), (1, .class_ 6), (1, u "java/lang/Object"), (6, u "length"), (17, u "text"), (0, u "Ljava/lang/String;"), (2, u "units"), (0, u "[I"), (2, u "starts"), (2, u "I"), (15, u "IS_RESERVED"), (0, u "[Z"), (5, u "(II)I"), (0, .fieldref 1 67), (0, .nameAndType 68 36), (0, u "LOWEST"), (0, .fieldref 1 70), (0, .nameAndType 71 36), (0, u "HIGHEST"), (0, .fieldref 1 73), (0, .nameAndType 74 36), (0, u "AFTER"), (0, .fieldref 1 76), (0, .nameAndType 77 59), (0, u "IS_UNRESERVED"), (2, u "IS_UNRESERVED_OR_RESERVED"), (10, u "FOREIGN"), (2, u "TRIPLET"), (1, u "WHOLE"), (1, u "DECODING_STATES"), (1, u "REJECTED"), (0, u "PERCENT"), (1, u "UNRESERVED"), (0, u "RESERVED"), (14, u "nextDecoding")] 5

def k2c0 : Code := { maxStack := 3, maxLocals := 4, code := prog_28_method_10_code, exceptionTable := #[], attributes := #[] }
def k2m0 : Method := { name := "nextDecoding", desc := "(II)I", sig := { parameters := [.int, .int], returnType := some .int }, accessFlags := 8, code := some k2c0 }
/-- com/example/deucalion/deucalion/match/UriText -/
def k2 : Class := { plain "com/example/deucalion/deucalion/match/UriText" (some 0) with
  accessFlags := 32
  interfaces := #[]
  cf := some (fileOf pool2 1 #[] #[{ accessFlags := 8, nameIndex := 119, descriptorIndex := 65, attributes := #[] }] 32 4 #[] #[{ accessFlags := 24, nameIndex := 91, descriptorIndex := 42, attributes := #[] }, { accessFlags := 24, nameIndex := 94, descriptorIndex := 42, attributes := #[] }, { accessFlags := 24, nameIndex := 96, descriptorIndex := 42, attributes := #[] }, { accessFlags := 24, nameIndex := 98, descriptorIndex := 42, attributes := #[] }, { accessFlags := 24, nameIndex := 100, descriptorIndex := 42, attributes := #[] }, { accessFlags := 24, nameIndex := 101, descriptorIndex := 42, attributes := #[] }, { accessFlags := 26, nameIndex := 103, descriptorIndex := 32, attributes := #[] }, { accessFlags := 26, nameIndex := 104, descriptorIndex := 32, attributes := #[] }, { accessFlags := 26, nameIndex := 77, descriptorIndex := 59, attributes := #[] }, { accessFlags := 26, nameIndex := 58, descriptorIndex := 59, attributes := #[] }, { accessFlags := 26, nameIndex := 80, descriptorIndex := 59, attributes := #[] }, { accessFlags := 26, nameIndex := 68, descriptorIndex := 36, attributes := #[] }, { accessFlags := 26, nameIndex := 71, descriptorIndex := 36, attributes := #[] }, { accessFlags := 26, nameIndex := 74, descriptorIndex := 36, attributes := #[] }, { accessFlags := 18, nameIndex := 31, descriptorIndex := 32, attributes := #[] }, { accessFlags := 18, nameIndex := 35, descriptorIndex := 36, attributes := #[] }, { accessFlags := 18, nameIndex := 39, descriptorIndex := 36, attributes := #[] }, { accessFlags := 18, nameIndex := 13, descriptorIndex := 42, attributes := #[] }])
  fields := #[{ name := "FOREIGN", type := .int, accessFlags := 24, slot := 0, constantValue := 0 }, { name := "TRIPLET", type := .int, accessFlags := 24, slot := 1, constantValue := 0 }, { name := "WHOLE", type := .int, accessFlags := 24, slot := 2, constantValue := 0 }, { name := "DECODING_STATES", type := .int, accessFlags := 24, slot := 3, constantValue := 0 }, { name := "REJECTED", type := .int, accessFlags := 24, slot := 4, constantValue := 0 }, { name := "PERCENT", type := .int, accessFlags := 24, slot := 5, constantValue := 0 }, { name := "UNRESERVED", type := (.object "java/lang/String"), accessFlags := 26, slot := 6, constantValue := 0 }, { name := "RESERVED", type := (.object "java/lang/String"), accessFlags := 26, slot := 7, constantValue := 0 }, { name := "IS_UNRESERVED", type := (.array .boolean), accessFlags := 26, slot := 8, constantValue := 0 }, { name := "IS_RESERVED", type := (.array .boolean), accessFlags := 26, slot := 9, constantValue := 0 }, { name := "IS_UNRESERVED_OR_RESERVED", type := (.array .boolean), accessFlags := 26, slot := 10, constantValue := 0 }, { name := "LOWEST", type := (.array .int), accessFlags := 26, slot := 11, constantValue := 0 }, { name := "HIGHEST", type := (.array .int), accessFlags := 26, slot := 12, constantValue := 0 }, { name := "AFTER", type := (.array .int), accessFlags := 26, slot := 13, constantValue := 0 }, { name := "text", type := (.object "java/lang/String"), accessFlags := 18, slot := 0, constantValue := 0 }, { name := "units", type := (.array .int), accessFlags := 18, slot := 1, constantValue := 0 }, { name := "starts", type := (.array .int), accessFlags := 18, slot := 2, constantValue := 0 }, { name := "length", type := .int, accessFlags := 18, slot := 3, constantValue := 0 }]
  methods := #[k2m0]
  instanceTypes := #[(.object "java/lang/String"), (.array .int), (.array .int), .int]
  staticTypes := #[.int, .int, .int, .int, .int, .int, (.object "java/lang/String"), (.object "java/lang/String"), (.array .boolean), (.array .boolean), (.array .boolean), (.array .int), (.array .int), (.array .int)]
  resolved := Array.replicate 125 none
  statics := some 0 }

def pool3 : Array CpInfo := pool [(1, u "java/lang/Cloneable"), (0, .class_ 1), (0, u "java/lang/Object"), (0, .class_ 3)] 3

/-- java/lang/Cloneable -/
def k3 : Class := { plain "java/lang/Cloneable" (some 0) with
  accessFlags := 1537
  interfaces := #[]
  cf := some (fileOf pool3 2 #[] #[] 1537 4 #[] #[])
  fields := #[]
  methods := #[]
  instanceTypes := #[]
  staticTypes := #[]
  resolved := Array.replicate 8 none
  statics := none }

def pool4 : Array CpInfo := pool [(1, u "java/io/Serializable"), (0, .class_ 1), (0, u "java/lang/Object"), (0, .class_ 3)] 3

/-- java/io/Serializable -/
def k4 : Class := { plain "java/io/Serializable" (some 0) with
  accessFlags := 1537
  interfaces := #[]
  cf := some (fileOf pool4 2 #[] #[] 1537 4 #[] #[])
  fields := #[]
  methods := #[]
  instanceTypes := #[]
  staticTypes := #[]
  resolved := Array.replicate 8 none
  statics := none }

/-- the primitive boolean -/
def k5 : Class := { plain "boolean" none with kind := .primitive 'Z', accessFlags := 0x411 }
/-- [Z -/
def k6 : Class := { plain "[Z" (some 0) with kind := .array 5 .boolean, interfaces := #[3, 4], accessFlags := 1041 }

/-- the primitive byte -/
def k7 : Class := { plain "byte" none with kind := .primitive 'B', accessFlags := 0x411 }
/-- [B -/
def k8 : Class := { plain "[B" (some 0) with kind := .array 7 .byte, interfaces := #[3, 4], accessFlags := 1041 }

/-- the primitive int -/
def k9 : Class := { plain "int" none with kind := .primitive 'I', accessFlags := 0x411 }
/-- [I -/
def k10 : Class := { plain "[I" (some 0) with kind := .array 9 .int, interfaces := #[3, 4], accessFlags := 1041 }

def heap : Heap := #[{ cls := 2, slots := #[.int 0, .int 0, .int 0, .int 0, .int 0, .int 0, .null, .null, .ref 1, .null, .null, .ref 2, .ref 3, .ref 4], vm := .statics 2 },
  { cls := 6, slots := #[.int 0, .int 0, .int 0, .int 0, .int 0, .int 0, .int 0, .int 0, .int 0, .int 0, .int 0, .int 0, .int 0, .int 0, .int 0, .int 0, .int 0, .int 0, .int 0, .int 0, .int 0, .int 0, .int 0, .int 0, .int 0, .int 0, .int 0, .int 0, .int 0, .int 0, .int 0, .int 0, .int 0, .int 0, .int 0, .int 0, .int 0, .int 0, .int 0, .int 0, .int 0, .int 0, .int 0, .int 0, .int 0, .int 1, .int 1, .int 0, .int 1, .int 1, .int 1, .int 1, .int 1, .int 1, .int 1, .int 1, .int 1, .int 1, .int 0, .int 0, .int 0, .int 0, .int 0, .int 0, .int 0, .int 1, .int 1, .int 1, .int 1, .int 1, .int 1, .int 1, .int 1, .int 1, .int 1, .int 1, .int 1, .int 1, .int 1, .int 1, .int 1, .int 1, .int 1, .int 1, .int 1, .int 1, .int 1, .int 1, .int 1, .int 1, .int 1, .int 0, .int 0, .int 0, .int 0, .int 1, .int 0, .int 1, .int 1, .int 1, .int 1, .int 1, .int 1, .int 1, .int 1, .int 1, .int 1, .int 1, .int 1, .int 1, .int 1, .int 1, .int 1, .int 1, .int 1, .int 1, .int 1, .int 1, .int 1, .int 1, .int 1, .int 1, .int 1, .int 0, .int 0, .int 0, .int 1, .int 0], vm := .none },
  { cls := 10, slots := #[.int 0, .int 128, .int 128, .int 128, .int 160, .int 128, .int 144, .int 128], vm := .none },
  { cls := 10, slots := #[.int 0, .int 191, .int 191, .int 191, .int 191, .int 159, .int 191, .int 143], vm := .none },
  { cls := 10, slots := #[.int 0, .int 0, .int 1, .int 2, .int 1, .int 1, .int 2, .int 2], vm := .none }]
def classes : Array Class := #[k0, k1, k2, k3, k4, k5, k6, k7, k8, k9, k10]
def interned : List (Array UInt16 × Addr) := []
def slotsUsed : Nat := 166
def theMethod : MethodId := ⟨1, 1⟩
def args0 : Array Value := #[.int 5, .int 3, .int 2]
def aboutOver (below : List Frame) : State where
  vm := { classes := classes, interned := interned.toArray }
  heap := heap
  slotsUsed := slotsUsed
  threads := #[{ frames := .invoking theMethod args0 :: below }]
def below0 : List Frame := [.native { method := ⟨0, 0⟩, args := #[] }]
def about1 : State := aboutOver below0
def p0 : Program := .bare "" "" ""
def e0 : Env := launch0.env 0 0 0
theorem w_frames : about1.frames = Frame.invoking theMethod args0 :: below0 := rfl
set_option maxRecDepth 65536 in
theorem w_args : argsFit about1.vm theMethod args0 = true := by decide +kernel
set_option maxRecDepth 65536 in
theorem w_heap : heapFits about1 = true := by decide +kernel
set_option maxRecDepth 65536 in
theorem w_runnable : about1.curStatus? = some .runnable := by decide +kernel
set_option maxRecDepth 65536 in
theorem w_alone : about1.alone = true := by decide +kernel
set_option maxRecDepth 65536 in
theorem w_named : about1.methodNamed? x = some theMethod := by decide +kernel
set_option maxRecDepth 65536 in
theorem w_hears : about1.hears theMethod below0 = true := by decide +kernel
set_option maxRecDepth 65536 in
theorem w_ripe : about1.ripe theMethod args0 below0 = true := by decide +kernel
theorem w_running : about1.status = .running := rfl
set_option maxRecDepth 65536 in
theorem w_room : about1.hasRoom e0.platform room_1 = true :=
  launch0.hasRoom_least _ room_1 (by decide +kernel) (by decide +kernel) (by decide +kernel) (by decide +kernel) (by decide +kernel) (by decide +kernel)
theorem allAtoms_all (ts : List Jvm.Cond) (a : Array Jvm.Value) (st : Jvm.State) : (allAtoms ts).before a st = ts.all (fun c => c.before a st) := by
  induction ts with
  | nil => rfl
  | cons c t ih =>
    show (Jvm.Cond.and c (allAtoms t)).before a st = _
    rw [Jvm.Cond.before_and, ih, List.all_cons]
def words1 : List Jvm.Cond := Jvm.Cond.code x code maxLocals ret :: tables_1
/-- a 'code' word, met by the world's own term for the bytes: nothing is compared byte by byte -/
theorem code_word {y : MethodName} {bytes : ByteArray} {mx : Nat} {rt : Option FieldType} {a : Array Value} {s : State} {m : MethodId} {meth : Method} {c : Code} (h1 : s.methodNamed? y = some m) (h2 : s.vm.method? m = some meth) (h3 : meth.code = some c) (h4 : c.code = bytes)
    (h5 : (c.maxLocals == mx && c.exceptionTable.isEmpty && decide (c.maxStack ≤ mostOperands) && decide (meth.sig.returnType = rt) && !meth.locks && decide (parseMethodDescriptor y.desc = some meth.sig)) = true) : (Jvm.Cond.code y bytes mx rt).before a s = true := by
  simp only [Bool.and_eq_true, beq_iff_eq, Bool.not_eq_true', decide_eq_true_eq] at h5
  obtain ⟨⟨⟨⟨⟨g1, g2⟩, g3⟩, g4⟩, g5⟩, g6⟩ := h5
  simp [Cond.before, Cond.holds, Cond.value, h1, h2, h3, h4, g1, g2, g3, g4, g5, g6]
def isCode : Jvm.Cond → Bool
  | .code _ _ _ _ => true
  | _ => false
theorem all_split {L : List Jvm.Cond} {P : Jvm.Cond → Bool} (h1 : L.all (fun c => isCode c || P c) = true) (h2 : ∀ c ∈ L.filter isCode, P c = true) : L.all P = true := by
  refine List.all_eq_true.mpr fun c hc => ?_
  have h := List.all_eq_true.mp h1 c hc
  rcases Bool.eq_false_or_eq_true (isCode c) with hi | hi
  · exact h2 c (List.mem_filter.mpr ⟨hc, hi⟩)
  · simpa [hi] using h
set_option maxRecDepth 65536 in
theorem w_c0 : (Jvm.Cond.code x code maxLocals ret).before args0 about1 = true := code_word (m := ⟨1, 1⟩) (meth := k1m1) (c := k1c1) (by decide +kernel) rfl rfl rfl (by decide +kernel)
set_option maxRecDepth 65536 in
theorem w_c1 : (Jvm.Cond.code ({ cls := "com/example/deucalion/deucalion/match/UriText", name := "nextDecoding", desc := "(II)I" } : Jvm.MethodName) prog_28_method_10_code (4 : Nat) (Option.some Jvm.ClassFile.FieldType.int)).before args0 about1 = true := code_word (m := ⟨2, 0⟩) (meth := k2m0) (c := k2c0) (by decide +kernel) rfl rfl rfl (by decide +kernel)
set_option maxRecDepth 65536 in
theorem w_c2 : (Jvm.Cond.code ({ cls := "com/example/deucalion/deucalion/match/UriTextNextDecodingPinLaw", name := "expected", desc := "(II)I" } : Jvm.MethodName) method_4_code (5 : Nat) (Option.some Jvm.ClassFile.FieldType.int)).before args0 about1 = true := code_word (m := ⟨1, 3⟩) (meth := k1m3) (c := k1c3) (by decide +kernel) rfl rfl rfl (by decide +kernel)
set_option maxRecDepth 65536 in
theorem w_c3 : (Jvm.Cond.code ({ cls := "com/example/deucalion/deucalion/match/UriTextNextDecodingPinLaw", name := "unreserved", desc := "(I)Z" } : Jvm.MethodName) method_3_code (1 : Nat) (Option.some Jvm.ClassFile.FieldType.boolean)).before args0 about1 = true := code_word (m := ⟨1, 2⟩) (meth := k1m2) (c := k1c2) (by decide +kernel) rfl rfl rfl (by decide +kernel)
def codes1 : List Jvm.Cond := [Jvm.Cond.code x code maxLocals ret, Jvm.Cond.code ({ cls := "com/example/deucalion/deucalion/match/UriText", name := "nextDecoding", desc := "(II)I" } : Jvm.MethodName) prog_28_method_10_code (4 : Nat) (Option.some Jvm.ClassFile.FieldType.int), Jvm.Cond.code ({ cls := "com/example/deucalion/deucalion/match/UriTextNextDecodingPinLaw", name := "expected", desc := "(II)I" } : Jvm.MethodName) method_4_code (5 : Nat) (Option.some Jvm.ClassFile.FieldType.int), Jvm.Cond.code ({ cls := "com/example/deucalion/deucalion/match/UriTextNextDecodingPinLaw", name := "unreserved", desc := "(I)Z" } : Jvm.MethodName) method_3_code (1 : Nat) (Option.some Jvm.ClassFile.FieldType.boolean)]
set_option maxRecDepth 65536 in
theorem codes_eq : words1.filter isCode = codes1 := rfl
theorem w_codes : ∀ c ∈ words1.filter isCode, c.before args0 about1 = true := by
  rw [codes_eq]
  intro c hc
  simp only [codes1, List.mem_cons, List.not_mem_nil, or_false] at hc
  rcases hc with rfl | rfl | rfl | rfl
  · exact w_c0
  · exact w_c1
  · exact w_c2
  · exact w_c3
set_option maxRecDepth 65536 in
theorem w_t1 : words1.all (fun c => isCode c || c.before args0 about1) = true := by decide +kernel
theorem w_tables : (allAtoms (Jvm.Cond.code x code maxLocals ret :: tables_1)).before args0 about1 = true := by
  rw [allAtoms_all]
  show words1.all (fun c => c.before args0 about1) = true
  refine all_split ?_ w_codes
  rw [w_t1]
set_option maxRecDepth 65536 in
theorem w_case : (Jvm.Cond.and given_1 narrow_1).before args0 about1 = true := by decide +kernel
theorem w_applies : (headSpec (Jvm.Cond.code x code maxLocals ret :: tables_1) room_1).applies x e0.platform about1 = true :=
  (Spec.applies_iff w_frames).mpr ⟨w_running, w_runnable, w_alone, w_named, w_hears, w_ripe, w_room, w_tables⟩
theorem atStart : AtStart classFile x code maxLocals ret World_1 tables_1 room_1 Calls_1 rest_1 Pre_1 launch0 p0 e0 about1 theMethod args0 below0 :=
  ⟨lists_1, trivial, launch0.admits_env _ _ _, launch0.least_env, fairChoices_fair.cas, fairChoices_fair.clock, w_frames, w_args, w_heap, w_applies, trivial, trivial, w_case⟩
end start1
theorem witness_1 : WitnessClaimed_1 := ⟨start1.p0, start1.e0, start1.about1, start1.theMethod, start1.args0, start1.below0, start1.atStart⟩
end Jvm.Pilot.@@N@@
