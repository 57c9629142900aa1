import JvmDerived
import JvmDerived.Pilot.@@N@@Statement
import JvmDerived.Pilot.@@N@@Code
set_option linter.unusedVariables false
set_option linter.unusedSimpArgs false
namespace Jvm.OwnKit
open Jvm Jvm.ClassFile Sem Op Lib Jvm.Free Jvm.Stand Jvm.LawKit Jvm.RoadKit
/-- the run from here ends in a return that answers Q, having written new cells alone -/
def Ends (p : Program) (e : Env) (below : List Frame) (s : State) (n0 : Nat) (Q : Option Value → Heap → Prop) (k n : Nat) (T : State) (g : JFrame) : Prop :=
  ∃ s₂ o, Steps p.tables e below (T.setTop g) s₂ ∧ s₂.status = .running ∧ Ended s₂ below o ∧ ∃ v L, o = .returned v ∧ (Fr n0 L ∧ Q v s₂.heap) ∧ FrameEnd s o s₂ L k n
theorem Ends.step {p : Program} {e : Env} {below : List Frame} {s : State} {n0 : Nat} {Q : Option Value → Heap → Prop} {k n : Nat} {T T' : State} {g g' : JFrame} (K : Ends p e below s n0 Q k n T' g') (f : ∀ t, Steps p.tables e below (T'.setTop g') t → Steps p.tables e below (T.setTop g) t) : Ends p e below s n0 Q k n T g := by
  obtain ⟨s2, o, h, r⟩ := K
  exact ⟨s2, o, f _ h, r⟩
/-- what is the same through a whole body -/
def Cx (Z : State) (mn : MethodName) (code : ByteArray) (maxL : Nat) (ret : Option FieldType) (p : Program) (s : State) (m : MethodId) (meth : Method) (c : Code) : Prop :=
  p.tables.exec = Jvm.exec ∧ Z.Warmed39 s.vm ∧ c.code = code ∧ c.maxLocals = maxL ∧ s.vm.findClass mn.cls = some m.cls ∧ meth.sig.returnType = ret ∧ meth.locks = false ∧ meth.name = mn.name
/-- from this pc, these locals and this stack, over the heap h, at most k cells and n slots made so far, the body ends as Q says -/
def Go (l : Launch) (Z : State) (mn : MethodName) (code : ByteArray) (maxL : Nat) (ret : Option FieldType) (R : Room) (n0 : Nat) (Q : Option Value → Heap → Prop) (h : Heap) (k n : Nat) (pc : Nat) (Ls : Array Slot) (st : List Value) : Prop :=
  ∀ (p : Program) (e : Env) (s : State) (m : MethodId) (args : Array Value) (below : List Frame) (meth : Method) (c : Code) (T : State) (locs : List Loc) (k' n' : Nat),
    Cx Z mn code maxL ret p s m meth c → Stand p l e R s m args below meth c T locs k' n' → k' ≤ k → n' ≤ n → Fr n0 locs → T.heap = h → Ends p e below s n0 Q R.cells R.slots T (mkF m pc Ls st)
/-- the answer of a body that returns a value | nothing -/
def RV (P : Value → Heap → Prop) : Option Value → Heap → Prop := fun v h => ∃ w, v = some w ∧ P w h
def RN (P : Heap → Prop) : Option Value → Heap → Prop := fun v h => v = none ∧ P h
section Laws
variable {l : Launch} {Z : State} {mn : MethodName} {code : ByteArray} {maxL : Nat} {ret : Option FieldType} {R : Room} {n0 : Nat} {Q : Option Value → Heap → Prop} {h : Heap} {k n pc q : Nat} {Ls Ls' : Array Slot} {st st' : List Value} {a0 : Array Value}
theorem Go.plain (K : Go l Z mn code maxL ret R n0 Q h k n q Ls' st') (f : ∀ (p : Program) (e : Env) (s : State) (m : MethodId) (args : Array Value) (below : List Frame) (meth : Method) (c : Code) (T : State) (locs : List Loc) (k' n' : Nat), p.tables.exec = Jvm.exec → c.code = code → Stand p l e R s m args below meth c T locs k' n' → ∀ t, Steps p.tables e below (T.setTop (mkF m q Ls' st')) t → Steps p.tables e below (T.setTop (mkF m pc Ls st)) t) : Go l Z mn code maxL ret R n0 Q h k n pc Ls st :=
  fun p e s m args below meth c T locs k' n' C X hk hn N eT => (K p e s m args below meth c T locs k' n' C X hk hn N eT).step (f p e s m args below meth c T locs k' n' C.1 C.2.2.1 X)
theorem Go.mono {k1 n1 : Nat} (K : Go l Z mn code maxL ret R n0 Q h k n pc Ls st) (h1 : k1 ≤ k) (h2 : n1 ≤ n) : Go l Z mn code maxL ret R n0 Q h k1 n1 pc Ls st :=
  fun p e s m args below meth c T locs k' n' C X hk hn N eT => K p e s m args below meth c T locs k' n' C X (Nat.le_trans hk h1) (Nat.le_trans hn h2) N eT
theorem Go.imp {Q' : Option Value → Heap → Prop} (K : Go l Z mn code maxL ret R n0 Q h k n pc Ls st) (f : ∀ v h, Q v h → Q' v h) : Go l Z mn code maxL ret R n0 Q' h k n pc Ls st :=
  fun p e s m args below meth c T locs k' n' C X hk hn N eT => by
    obtain ⟨s2, o, h1, h2, h3, v, L, h4, h5, h6⟩ := K p e s m args below meth c T locs k' n' C X hk hn N eT
    exact ⟨s2, o, h1, h2, h3, v, L, h4, ⟨h5.1, f _ _ h5.2⟩, h6⟩
theorem Go.met {as : Array Value} (pn : plainName mn.cls = true) (hef : ∀ m, entryFrame m as maxL = mkF m 0 Ls []) (G : Go l Z mn code maxL ret R n0 Q h 0 0 0 Ls []) (ws : List Jvm.Cond) :
    MetFree l mn (head1 (Jvm.Cond.code mn code maxL ret :: ws) R) (fun a U => a = as ∧ Z.Warmed39 U.vm ∧ U.heap = h) (fun _ _ _ _ _ => True) (fun _ U o U' => ∃ v L, o = .returned v ∧ (Fr n0 L ∧ Q v U'.heap) ∧ FrameEnd U o U' L R.cells R.slots) := by
  refine MetFree.of_bodySF (plainFor_of_name pn) hisR ?_
  intro p e s m args below meth c s₁ Bd hml0 hP hK
  obtain ⟨rfl, hZ, hh⟩ := hP
  have e0 : s₁.heap = h := by rw [← hh, Bd.state]; rfl
  rw [hef]
  exact G p e s m _ below meth c s₁ [] 0 0 ⟨Bd.exec, hZ, Bd.bytes, hml0, findClass_of_methodNamed Bd.named, Bd.returns, BodyLoose.notSynchronized Bd, (name_of_methodNamed Bd.named Bd.method).1⟩ (Stand.of_body Bd) (Nat.le_refl _) (Nat.le_refl _) (Fr.nil n0) e0

theorem Go.iloadN {i : Fin 4} {v : Int32} (hd : decode code pc = .ok (.iload_n i, 1)) (hq : q = pc + 1) (hl : Ls[i.val]? = some (.val (.int v))) (K : Go l Z mn code maxL ret R n0 Q h k n q Ls (.int v :: st)) : Go l Z mn code maxL ret R n0 Q h k n pc Ls (st) := by
  subst hq
  exact K.plain fun p e s m args below meth c T locs k' n' hx hby X t r => XS.iloadN X.here hx rfl (hb hby hd) hl r
theorem Go.iload {i : Nat} {v : Int32} (hd : decode code pc = .ok (.iload i, 2)) (hq : q = pc + 2) (hl : Ls[i]? = some (.val (.int v))) (K : Go l Z mn code maxL ret R n0 Q h k n q Ls (.int v :: st)) : Go l Z mn code maxL ret R n0 Q h k n pc Ls (st) := by
  subst hq
  exact K.plain fun p e s m args below meth c T locs k' n' hx hby X t r => XS.iload X.here hx rfl (hb hby hd) hl r
theorem Go.lloadN {i : Fin 4} {v : Int64} (hd : decode code pc = .ok (.lload_n i, 1)) (hq : q = pc + 1) (hl : Ls[i.val]? = some (.val (.long v))) (K : Go l Z mn code maxL ret R n0 Q h k n q Ls (.long v :: st)) : Go l Z mn code maxL ret R n0 Q h k n pc Ls (st) := by
  subst hq
  exact K.plain fun p e s m args below meth c T locs k' n' hx hby X t r => XT.lloadN X.here hx rfl (hb hby hd) hl r
theorem Go.lload {i : Nat} {v : Int64} (hd : decode code pc = .ok (.lload i, 2)) (hq : q = pc + 2) (hl : Ls[i]? = some (.val (.long v))) (K : Go l Z mn code maxL ret R n0 Q h k n q Ls (.long v :: st)) : Go l Z mn code maxL ret R n0 Q h k n pc Ls (st) := by
  subst hq
  exact K.plain fun p e s m args below meth c T locs k' n' hx hby X t r => XT.lload X.here hx rfl (hb hby hd) hl r
theorem Go.aloadN {i : Fin 4} {v : Value} (hd : decode code pc = .ok (.aload_n i, 1)) (hq : q = pc + 1) (hl : Ls[i.val]? = some (.val v)) (hv : v.isRef = true) (K : Go l Z mn code maxL ret R n0 Q h k n q Ls (v :: st)) : Go l Z mn code maxL ret R n0 Q h k n pc Ls (st) := by
  subst hq
  exact K.plain fun p e s m args below meth c T locs k' n' hx hby X t r => XS.aloadN X.here hx rfl (hb hby hd) hl hv r
theorem Go.aload {i : Nat} {v : Value} (hd : decode code pc = .ok (.aload i, 2)) (hq : q = pc + 2) (hl : Ls[i]? = some (.val v)) (hv : v.isRef = true) (K : Go l Z mn code maxL ret R n0 Q h k n q Ls (v :: st)) : Go l Z mn code maxL ret R n0 Q h k n pc Ls (st) := by
  subst hq
  exact K.plain fun p e s m args below meth c T locs k' n' hx hby X t r => XS.aload X.here hx rfl (hb hby hd) hl hv r
theorem Go.istoreN {i : Fin 4} {v : Int32} (hd : decode code pc = .ok (.istore_n i, 1)) (hq : q = pc + 1) (hl : storeLocals Ls i.val (.int v) = some Ls') (K : Go l Z mn code maxL ret R n0 Q h k n q Ls' (st)) : Go l Z mn code maxL ret R n0 Q h k n pc Ls (.int v :: st) := by
  subst hq
  exact K.plain fun p e s m args below meth c T locs k' n' hx hby X t r => XS.istoreN X.here hx rfl (hb hby hd) rfl hl r
theorem Go.istore {i : Nat} {v : Int32} (hd : decode code pc = .ok (.istore i, 2)) (hq : q = pc + 2) (hl : storeLocals Ls i (.int v) = some Ls') (K : Go l Z mn code maxL ret R n0 Q h k n q Ls' (st)) : Go l Z mn code maxL ret R n0 Q h k n pc Ls (.int v :: st) := by
  subst hq
  exact K.plain fun p e s m args below meth c T locs k' n' hx hby X t r => XS.istore X.here hx rfl (hb hby hd) rfl hl r
theorem Go.lstoreN {i : Fin 4} {v : Int64} (hd : decode code pc = .ok (.lstore_n i, 1)) (hq : q = pc + 1) (hl : storeLocals Ls i.val (.long v) = some Ls') (K : Go l Z mn code maxL ret R n0 Q h k n q Ls' (st)) : Go l Z mn code maxL ret R n0 Q h k n pc Ls (.long v :: st) := by
  subst hq
  exact K.plain fun p e s m args below meth c T locs k' n' hx hby X t r => XT.lstoreN X.here hx rfl (hb hby hd) rfl hl r
theorem Go.lstore {i : Nat} {v : Int64} (hd : decode code pc = .ok (.lstore i, 2)) (hq : q = pc + 2) (hl : storeLocals Ls i (.long v) = some Ls') (K : Go l Z mn code maxL ret R n0 Q h k n q Ls' (st)) : Go l Z mn code maxL ret R n0 Q h k n pc Ls (.long v :: st) := by
  subst hq
  exact K.plain fun p e s m args below meth c T locs k' n' hx hby X t r => XT.lstore X.here hx rfl (hb hby hd) rfl hl r
theorem Go.astoreN {i : Fin 4} {v : Value} (hd : decode code pc = .ok (.astore_n i, 1)) (hq : q = pc + 1) (hv : v.isRef = true) (hl : storeLocals Ls i.val v = some Ls') (K : Go l Z mn code maxL ret R n0 Q h k n q Ls' (st)) : Go l Z mn code maxL ret R n0 Q h k n pc Ls (v :: st) := by
  subst hq
  exact K.plain fun p e s m args below meth c T locs k' n' hx hby X t r => XS.astoreN X.here hx rfl (hb hby hd) rfl hv hl r
theorem Go.astore {i : Nat} {v : Value} (hd : decode code pc = .ok (.astore i, 2)) (hq : q = pc + 2) (hv : v.isRef = true) (hl : storeLocals Ls i v = some Ls') (K : Go l Z mn code maxL ret R n0 Q h k n q Ls' (st)) : Go l Z mn code maxL ret R n0 Q h k n pc Ls (v :: st) := by
  subst hq
  exact K.plain fun p e s m args below meth c T locs k' n' hx hby X t r => XS.astore X.here hx rfl (hb hby hd) rfl hv hl r
theorem Go.iconst {i : Int} {x : Int32} (hd : decode code pc = .ok (.iconst i, 1)) (hq : q = pc + 1) (hi : Int32.ofInt i = x) (K : Go l Z mn code maxL ret R n0 Q h k n q Ls (.int x :: st)) : Go l Z mn code maxL ret R n0 Q h k n pc Ls (st) := by
  subst hq
  exact K.plain fun p e s m args below meth c T locs k' n' hx hby X t r => XS.iconst X.here hx rfl (hb hby hd) (by rw [hi]; exact r)
theorem Go.bipush {i : Int} {x : Int32} (hd : decode code pc = .ok (.bipush i, 2)) (hq : q = pc + 2) (hi : (Int8.ofInt i).toInt32 = x) (K : Go l Z mn code maxL ret R n0 Q h k n q Ls (.int x :: st)) : Go l Z mn code maxL ret R n0 Q h k n pc Ls (st) := by
  subst hq
  exact K.plain fun p e s m args below meth c T locs k' n' hx hby X t r => XS.bipush X.here hx rfl (hb hby hd) (by rw [hi]; exact r)
theorem Go.sipush {i : Int} {x : Int32} (hd : decode code pc = .ok (.sipush i, 3)) (hq : q = pc + 3) (hi : (Int16.ofInt i).toInt32 = x) (K : Go l Z mn code maxL ret R n0 Q h k n q Ls (.int x :: st)) : Go l Z mn code maxL ret R n0 Q h k n pc Ls (st) := by
  subst hq
  exact K.plain fun p e s m args below meth c T locs k' n' hx hby X t r => XS.sipush X.here hx rfl (hb hby hd) (by rw [hi]; exact r)
theorem Go.lconst {i : Fin 2} {x : Int64} (hd : decode code pc = .ok (.lconst i, 1)) (hq : q = pc + 1) (hi : Int64.ofNat i = x) (K : Go l Z mn code maxL ret R n0 Q h k n q Ls (.long x :: st)) : Go l Z mn code maxL ret R n0 Q h k n pc Ls (st) := by
  subst hq
  exact K.plain fun p e s m args below meth c T locs k' n' hx hby X t r => XT.lconst X.here hx rfl (hb hby hd) (by rw [hi]; exact r)
theorem Go.aconstNull (hd : decode code pc = .ok (.aconst_null, 1)) (hq : q = pc + 1) (K : Go l Z mn code maxL ret R n0 Q h k n q Ls (.null :: st)) : Go l Z mn code maxL ret R n0 Q h k n pc Ls (st) := by
  subst hq
  exact K.plain fun p e s m args below meth c T locs k' n' hx hby X t r => XS.aconstNull X.here hx rfl (hb hby hd) r
theorem Go.iadd {x y : Int32} (hd : decode code pc = .ok (.iadd, 1)) (hq : q = pc + 1) (K : Go l Z mn code maxL ret R n0 Q h k n q Ls (.int (x + y) :: st)) : Go l Z mn code maxL ret R n0 Q h k n pc Ls (.int y :: .int x :: st) := by
  subst hq
  exact K.plain fun p e s m args below meth c T locs k' n' hx hby X t r => XS.iadd X.here hx rfl (hb hby hd) rfl r
theorem Go.isub {x y : Int32} (hd : decode code pc = .ok (.isub, 1)) (hq : q = pc + 1) (K : Go l Z mn code maxL ret R n0 Q h k n q Ls (.int (x - y) :: st)) : Go l Z mn code maxL ret R n0 Q h k n pc Ls (.int y :: .int x :: st) := by
  subst hq
  exact K.plain fun p e s m args below meth c T locs k' n' hx hby X t r => XS.isub X.here hx rfl (hb hby hd) rfl r
theorem Go.iand {x y : Int32} (hd : decode code pc = .ok (.iand, 1)) (hq : q = pc + 1) (K : Go l Z mn code maxL ret R n0 Q h k n q Ls (.int (x &&& y) :: st)) : Go l Z mn code maxL ret R n0 Q h k n pc Ls (.int y :: .int x :: st) := by
  subst hq
  exact K.plain fun p e s m args below meth c T locs k' n' hx hby X t r => XS.iand X.here hx rfl (hb hby hd) rfl r
theorem Go.imul {x y : Int32} (hd : decode code pc = .ok (.imul, 1)) (hq : q = pc + 1) (K : Go l Z mn code maxL ret R n0 Q h k n q Ls (.int (x * y) :: st)) : Go l Z mn code maxL ret R n0 Q h k n pc Ls (.int y :: .int x :: st) := by
  subst hq
  exact K.plain fun p e s m args below meth c T locs k' n' hx hby X t r => XS.imul X.here hx rfl (hb hby hd) rfl r
theorem Go.ixor {x y : Int32} (hd : decode code pc = .ok (.ixor, 1)) (hq : q = pc + 1) (K : Go l Z mn code maxL ret R n0 Q h k n q Ls (.int (x ^^^ y) :: st)) : Go l Z mn code maxL ret R n0 Q h k n pc Ls (.int y :: .int x :: st) := by
  subst hq
  exact K.plain fun p e s m args below meth c T locs k' n' hx hby X t r => XT.ixor X.here hx rfl (hb hby hd) rfl r
theorem Go.ior {x y : Int32} (hd : decode code pc = .ok (.ior, 1)) (hq : q = pc + 1) (K : Go l Z mn code maxL ret R n0 Q h k n q Ls (.int (x ||| y) :: st)) : Go l Z mn code maxL ret R n0 Q h k n pc Ls (.int y :: .int x :: st) := by
  subst hq
  exact K.plain fun p e s m args below meth c T locs k' n' hx hby X t r => XT.ior X.here hx rfl (hb hby hd) rfl r
theorem Go.ishl {x y : Int32} (hd : decode code pc = .ok (.ishl, 1)) (hq : q = pc + 1) (K : Go l Z mn code maxL ret R n0 Q h k n q Ls (.int (x <<< (y &&& 31)) :: st)) : Go l Z mn code maxL ret R n0 Q h k n pc Ls (.int y :: .int x :: st) := by
  subst hq
  exact K.plain fun p e s m args below meth c T locs k' n' hx hby X t r => XT.ishl X.here hx rfl (hb hby hd) rfl r
theorem Go.ishr {x y : Int32} (hd : decode code pc = .ok (.ishr, 1)) (hq : q = pc + 1) (K : Go l Z mn code maxL ret R n0 Q h k n q Ls (.int (x >>> (y &&& 31)) :: st)) : Go l Z mn code maxL ret R n0 Q h k n pc Ls (.int y :: .int x :: st) := by
  subst hq
  exact K.plain fun p e s m args below meth c T locs k' n' hx hby X t r => XT.ishr X.here hx rfl (hb hby hd) rfl r
theorem Go.iushr {x y : Int32} (hd : decode code pc = .ok (.iushr, 1)) (hq : q = pc + 1) (K : Go l Z mn code maxL ret R n0 Q h k n q Ls (.int (XT.ushr x y) :: st)) : Go l Z mn code maxL ret R n0 Q h k n pc Ls (.int y :: .int x :: st) := by
  subst hq
  exact K.plain fun p e s m args below meth c T locs k' n' hx hby X t r => XT.iushr X.here hx rfl (hb hby hd) rfl r
theorem Go.ladd {x y : Int64} (hd : decode code pc = .ok (.ladd, 1)) (hq : q = pc + 1) (K : Go l Z mn code maxL ret R n0 Q h k n q Ls (.long (x + y) :: st)) : Go l Z mn code maxL ret R n0 Q h k n pc Ls (.long y :: .long x :: st) := by
  subst hq
  exact K.plain fun p e s m args below meth c T locs k' n' hx hby X t r => XT.ladd X.here hx rfl (hb hby hd) rfl r
theorem Go.lsub {x y : Int64} (hd : decode code pc = .ok (.lsub, 1)) (hq : q = pc + 1) (K : Go l Z mn code maxL ret R n0 Q h k n q Ls (.long (x - y) :: st)) : Go l Z mn code maxL ret R n0 Q h k n pc Ls (.long y :: .long x :: st) := by
  subst hq
  exact K.plain fun p e s m args below meth c T locs k' n' hx hby X t r => XT.lsub X.here hx rfl (hb hby hd) rfl r
theorem Go.lmul {x y : Int64} (hd : decode code pc = .ok (.lmul, 1)) (hq : q = pc + 1) (K : Go l Z mn code maxL ret R n0 Q h k n q Ls (.long (x * y) :: st)) : Go l Z mn code maxL ret R n0 Q h k n pc Ls (.long y :: .long x :: st) := by
  subst hq
  exact K.plain fun p e s m args below meth c T locs k' n' hx hby X t r => XT.lmul X.here hx rfl (hb hby hd) rfl r
theorem Go.land {x y : Int64} (hd : decode code pc = .ok (.land, 1)) (hq : q = pc + 1) (K : Go l Z mn code maxL ret R n0 Q h k n q Ls (.long (x &&& y) :: st)) : Go l Z mn code maxL ret R n0 Q h k n pc Ls (.long y :: .long x :: st) := by
  subst hq
  exact K.plain fun p e s m args below meth c T locs k' n' hx hby X t r => XT.land X.here hx rfl (hb hby hd) rfl r
theorem Go.lor {x y : Int64} (hd : decode code pc = .ok (.lor, 1)) (hq : q = pc + 1) (K : Go l Z mn code maxL ret R n0 Q h k n q Ls (.long (x ||| y) :: st)) : Go l Z mn code maxL ret R n0 Q h k n pc Ls (.long y :: .long x :: st) := by
  subst hq
  exact K.plain fun p e s m args below meth c T locs k' n' hx hby X t r => XT.lor X.here hx rfl (hb hby hd) rfl r
theorem Go.lxor {x y : Int64} (hd : decode code pc = .ok (.lxor, 1)) (hq : q = pc + 1) (K : Go l Z mn code maxL ret R n0 Q h k n q Ls (.long (x ^^^ y) :: st)) : Go l Z mn code maxL ret R n0 Q h k n pc Ls (.long y :: .long x :: st) := by
  subst hq
  exact K.plain fun p e s m args below meth c T locs k' n' hx hby X t r => XT.lxor X.here hx rfl (hb hby hd) rfl r
theorem Go.lshl {x : Int64} {y : Int32} (hd : decode code pc = .ok (.lshl, 1)) (hq : q = pc + 1) (K : Go l Z mn code maxL ret R n0 Q h k n q Ls (.long (x <<< (y.toInt64 &&& 63)) :: st)) : Go l Z mn code maxL ret R n0 Q h k n pc Ls (.int y :: .long x :: st) := by
  subst hq
  exact K.plain fun p e s m args below meth c T locs k' n' hx hby X t r => XT.lshl X.here hx rfl (hb hby hd) rfl r
theorem Go.lshr {x : Int64} {y : Int32} (hd : decode code pc = .ok (.lshr, 1)) (hq : q = pc + 1) (K : Go l Z mn code maxL ret R n0 Q h k n q Ls (.long (x >>> (y.toInt64 &&& 63)) :: st)) : Go l Z mn code maxL ret R n0 Q h k n pc Ls (.int y :: .long x :: st) := by
  subst hq
  exact K.plain fun p e s m args below meth c T locs k' n' hx hby X t r => XT.lshr X.here hx rfl (hb hby hd) rfl r
theorem Go.lushr {x : Int64} {y : Int32} (hd : decode code pc = .ok (.lushr, 1)) (hq : q = pc + 1) (K : Go l Z mn code maxL ret R n0 Q h k n q Ls (.long (XT.ushrL x y) :: st)) : Go l Z mn code maxL ret R n0 Q h k n pc Ls (.int y :: .long x :: st) := by
  subst hq
  exact K.plain fun p e s m args below meth c T locs k' n' hx hby X t r => XT.lushr X.here hx rfl (hb hby hd) rfl r
theorem Go.idiv {x y : Int32} (hd : decode code pc = .ok (.idiv, 1)) (hq : q = pc + 1) (hy : y ≠ 0) (K : Go l Z mn code maxL ret R n0 Q h k n q Ls (.int (x / y) :: st)) : Go l Z mn code maxL ret R n0 Q h k n pc Ls (.int y :: .int x :: st) := by
  subst hq
  exact K.plain fun p e s m args below meth c T locs k' n' hx hby X t r => XS.idiv X.here hx rfl (hb hby hd) rfl hy r
theorem Go.irem {x y : Int32} (hd : decode code pc = .ok (.irem, 1)) (hq : q = pc + 1) (hy : y ≠ 0) (K : Go l Z mn code maxL ret R n0 Q h k n q Ls (.int (x % y) :: st)) : Go l Z mn code maxL ret R n0 Q h k n pc Ls (.int y :: .int x :: st) := by
  subst hq
  exact K.plain fun p e s m args below meth c T locs k' n' hx hby X t r => XS.irem X.here hx rfl (hb hby hd) rfl hy (by rw [irem_eq_mod]; exact r)
theorem Go.lrem {x y : Int64} (hd : decode code pc = .ok (.lrem, 1)) (hq : q = pc + 1) (hy : y ≠ 0) (K : Go l Z mn code maxL ret R n0 Q h k n q Ls (.long (x % y) :: st)) : Go l Z mn code maxL ret R n0 Q h k n pc Ls (.long y :: .long x :: st) := by
  subst hq
  exact K.plain fun p e s m args below meth c T locs k' n' hx hby X t r => XT.lrem X.here hx rfl (hb hby hd) rfl hy (by rw [lrem_mod]; exact r)
theorem Go.ineg {x : Int32} (hd : decode code pc = .ok (.ineg, 1)) (hq : q = pc + 1) (K : Go l Z mn code maxL ret R n0 Q h k n q Ls (.int (-x) :: st)) : Go l Z mn code maxL ret R n0 Q h k n pc Ls (.int x :: st) := by
  subst hq
  exact K.plain fun p e s m args below meth c T locs k' n' hx hby X t r => XS.ineg X.here hx rfl (hb hby hd) rfl r
theorem Go.lneg {x : Int64} (hd : decode code pc = .ok (.lneg, 1)) (hq : q = pc + 1) (K : Go l Z mn code maxL ret R n0 Q h k n q Ls (.long (-x) :: st)) : Go l Z mn code maxL ret R n0 Q h k n pc Ls (.long x :: st) := by
  subst hq
  exact K.plain fun p e s m args below meth c T locs k' n' hx hby X t r => XT.lneg X.here hx rfl (hb hby hd) rfl r
theorem Go.i2l {x : Int32} (hd : decode code pc = .ok (.i2l, 1)) (hq : q = pc + 1) (K : Go l Z mn code maxL ret R n0 Q h k n q Ls (.long x.toInt64 :: st)) : Go l Z mn code maxL ret R n0 Q h k n pc Ls (.int x :: st) := by
  subst hq
  exact K.plain fun p e s m args below meth c T locs k' n' hx hby X t r => XT.i2l X.here hx rfl (hb hby hd) rfl r
theorem Go.l2i {x : Int64} (hd : decode code pc = .ok (.l2i, 1)) (hq : q = pc + 1) (K : Go l Z mn code maxL ret R n0 Q h k n q Ls (.int x.toInt32 :: st)) : Go l Z mn code maxL ret R n0 Q h k n pc Ls (.long x :: st) := by
  subst hq
  exact K.plain fun p e s m args below meth c T locs k' n' hx hby X t r => XT.l2i X.here hx rfl (hb hby hd) rfl r
theorem Go.i2b {x : Int32} (hd : decode code pc = .ok (.i2b, 1)) (hq : q = pc + 1) (K : Go l Z mn code maxL ret R n0 Q h k n q Ls (.int x.toInt8.toInt32 :: st)) : Go l Z mn code maxL ret R n0 Q h k n pc Ls (.int x :: st) := by
  subst hq
  exact K.plain fun p e s m args below meth c T locs k' n' hx hby X t r => XT.i2b X.here hx rfl (hb hby hd) rfl r
theorem Go.i2s {x : Int32} (hd : decode code pc = .ok (.i2s, 1)) (hq : q = pc + 1) (K : Go l Z mn code maxL ret R n0 Q h k n q Ls (.int x.toInt16.toInt32 :: st)) : Go l Z mn code maxL ret R n0 Q h k n pc Ls (.int x :: st) := by
  subst hq
  exact K.plain fun p e s m args below meth c T locs k' n' hx hby X t r => XT.i2s X.here hx rfl (hb hby hd) rfl r
theorem Go.i2c {x : Int32} (hd : decode code pc = .ok (.i2c, 1)) (hq : q = pc + 1) (K : Go l Z mn code maxL ret R n0 Q h k n q Ls (.int x.toUInt32.toUInt16.toUInt32.toInt32 :: st)) : Go l Z mn code maxL ret R n0 Q h k n pc Ls (.int x :: st) := by
  subst hq
  exact K.plain fun p e s m args below meth c T locs k' n' hx hby X t r => XT.i2c X.here hx rfl (hb hby hd) rfl r
theorem Go.lcmp {x y : Int64} (hd : decode code pc = .ok (.lcmp, 1)) (hq : q = pc + 1) (K : Go l Z mn code maxL ret R n0 Q h k n q Ls (.int (XT.cmpL x y) :: st)) : Go l Z mn code maxL ret R n0 Q h k n pc Ls (.long y :: .long x :: st) := by
  subst hq
  exact K.plain fun p e s m args below meth c T locs k' n' hx hby X t r => XT.lcmp X.here hx rfl (hb hby hd) rfl r
theorem Go.iinc {i : Nat} {cst : Int} {x w : Int32} (hd : decode code pc = .ok (.iinc i cst, 3)) (hq : q = pc + 3) (hl : Ls[i]? = some (.val (.int x))) (hw : x + Int32.ofInt cst = w) (hl' : storeLocals Ls i (.int w) = some Ls') (K : Go l Z mn code maxL ret R n0 Q h k n q Ls' (st)) : Go l Z mn code maxL ret R n0 Q h k n pc Ls (st) := by
  subst hq
  exact K.plain fun p e s m args below meth c T locs k' n' hx hby X t r => XS.iinc X.here hx rfl (hb hby hd) hl (by rw [hw]; exact hl') r
theorem Go.dup {v : Value} (hd : decode code pc = .ok (.dup, 1)) (hq : q = pc + 1) (hc : v.category = 1) (K : Go l Z mn code maxL ret R n0 Q h k n q Ls (v :: v :: st)) : Go l Z mn code maxL ret R n0 Q h k n pc Ls (v :: st) := by
  subst hq
  exact K.plain fun p e s m args below meth c T locs k' n' hx hby X t r => XS.dup X.here hx rfl (hb hby hd) rfl hc r
theorem Go.pop {v : Value} (hd : decode code pc = .ok (.pop, 1)) (hq : q = pc + 1) (hc : v.category = 1) (K : Go l Z mn code maxL ret R n0 Q h k n q Ls (st)) : Go l Z mn code maxL ret R n0 Q h k n pc Ls (v :: st) := by
  subst hq
  exact K.plain fun p e s m args below meth c T locs k' n' hx hby X t r => XT.pop X.here hx rfl (hb hby hd) rfl hc r
theorem Go.dupX1 {v w : Value} (hd : decode code pc = .ok (.dup_x1, 1)) (hq : q = pc + 1) (hc : v.category = 1) (hc' : w.category = 1) (K : Go l Z mn code maxL ret R n0 Q h k n q Ls (v :: w :: v :: st)) : Go l Z mn code maxL ret R n0 Q h k n pc Ls (v :: w :: st) := by
  subst hq
  exact K.plain fun p e s m args below meth c T locs k' n' hx hby X t r => XT.dupX1 X.here hx rfl (hb hby hd) rfl hc hc' r
theorem Go.dup2 {v w : Value} (hd : decode code pc = .ok (.dup2, 1)) (hq : q = pc + 1) (hc : v.category = 1) (hc' : w.category = 1) (K : Go l Z mn code maxL ret R n0 Q h k n q Ls (v :: w :: v :: w :: st)) : Go l Z mn code maxL ret R n0 Q h k n pc Ls (v :: w :: st) := by
  subst hq
  exact K.plain fun p e s m args below meth c T locs k' n' hx hby X t r => XT.dup2 X.here hx rfl (hb hby hd) rfl hc hc' r
theorem Go.dup2L {x : Int64} (hd : decode code pc = .ok (.dup2, 1)) (hq : q = pc + 1) (K : Go l Z mn code maxL ret R n0 Q h k n q Ls (.long x :: .long x :: st)) : Go l Z mn code maxL ret R n0 Q h k n pc Ls (.long x :: st) := by
  subst hq
  exact K.plain fun p e s m args below meth c T locs k' n' hx hby X t r => XT.dup2L X.here hx rfl (hb hby hd) rfl r
theorem Go.goto {o : Int} (hd : decode code pc = .ok (.goto o, 3)) (ho : 0 ≤ (pc : Int) + o) (hq : ((pc : Int) + o).toNat = q) (K : Go l Z mn code maxL ret R n0 Q h k n q Ls st) : Go l Z mn code maxL ret R n0 Q h k n pc Ls st :=
  K.plain fun p e s m args below meth c T locs k' n' hx hby X t r => XS.goto X.here hx rfl rfl (hb hby hd) ho hq r
theorem Go.icmp_eq {x y' : Int32} {o : Int} {q' : Nat} (hd : decode code pc = .ok (.if_icmp .eq o, 3)) (ho : 0 ≤ (pc : Int) + o) (hq : ((pc : Int) + o).toNat = q) (hq' : q' = pc + 3) (K1 : x = y' → Go l Z mn code maxL ret R n0 Q h k n q Ls st) (K2 : ¬ x = y' → Go l Z mn code maxL ret R n0 Q h k n q' Ls st) : Go l Z mn code maxL ret R n0 Q h k n pc Ls (.int y' :: .int x :: st) := by
  subst hq'
  by_cases hc : x = y'
  · exact (K1 hc).plain fun p e s m args below meth c T locs k' n' hx hby X t r => XS.icmpYes X.here hx rfl rfl (hb hby hd) rfl (teq hc).1 ho hq r
  · exact (K2 (hc)).plain fun p e s m args below meth c T locs k' n' hx hby X t r => XS.icmpNo X.here hx rfl (hb hby hd) rfl (feq (hc)).1 r
theorem Go.if_eq {x : Int32} {o : Int} {q' : Nat} (hd : decode code pc = .ok (.ifCond .eq o, 3)) (ho : 0 ≤ (pc : Int) + o) (hq : ((pc : Int) + o).toNat = q) (hq' : q' = pc + 3) (K1 : x = 0 → Go l Z mn code maxL ret R n0 Q h k n q Ls st) (K2 : ¬ x = 0 → Go l Z mn code maxL ret R n0 Q h k n q' Ls st) : Go l Z mn code maxL ret R n0 Q h k n pc Ls (.int x :: st) := by
  subst hq'
  by_cases hc : x = 0
  · exact (K1 hc).plain fun p e s m args below meth c T locs k' n' hx hby X t r => XS.ifYes X.here hx rfl rfl (hb hby hd) rfl ((if0 _ _).trans (teq hc).1) ho hq r
  · exact (K2 (hc)).plain fun p e s m args below meth c T locs k' n' hx hby X t r => XS.ifNo X.here hx rfl (hb hby hd) rfl ((if0 _ _).trans (feq (hc)).1) r
theorem Go.icmp_ne {x y' : Int32} {o : Int} {q' : Nat} (hd : decode code pc = .ok (.if_icmp .ne o, 3)) (ho : 0 ≤ (pc : Int) + o) (hq : ((pc : Int) + o).toNat = q) (hq' : q' = pc + 3) (K1 : ¬ x = y' → Go l Z mn code maxL ret R n0 Q h k n q Ls st) (K2 : x = y' → Go l Z mn code maxL ret R n0 Q h k n q' Ls st) : Go l Z mn code maxL ret R n0 Q h k n pc Ls (.int y' :: .int x :: st) := by
  subst hq'
  by_cases hc : ¬ x = y'
  · exact (K1 hc).plain fun p e s m args below meth c T locs k' n' hx hby X t r => XS.icmpYes X.here hx rfl rfl (hb hby hd) rfl (feq hc).2 ho hq r
  · exact (K2 (Decidable.not_not.mp hc)).plain fun p e s m args below meth c T locs k' n' hx hby X t r => XS.icmpNo X.here hx rfl (hb hby hd) rfl (teq (Decidable.not_not.mp hc)).2 r
theorem Go.if_ne {x : Int32} {o : Int} {q' : Nat} (hd : decode code pc = .ok (.ifCond .ne o, 3)) (ho : 0 ≤ (pc : Int) + o) (hq : ((pc : Int) + o).toNat = q) (hq' : q' = pc + 3) (K1 : ¬ x = 0 → Go l Z mn code maxL ret R n0 Q h k n q Ls st) (K2 : x = 0 → Go l Z mn code maxL ret R n0 Q h k n q' Ls st) : Go l Z mn code maxL ret R n0 Q h k n pc Ls (.int x :: st) := by
  subst hq'
  by_cases hc : ¬ x = 0
  · exact (K1 hc).plain fun p e s m args below meth c T locs k' n' hx hby X t r => XS.ifYes X.here hx rfl rfl (hb hby hd) rfl ((if0 _ _).trans (feq hc).2) ho hq r
  · exact (K2 (Decidable.not_not.mp hc)).plain fun p e s m args below meth c T locs k' n' hx hby X t r => XS.ifNo X.here hx rfl (hb hby hd) rfl ((if0 _ _).trans (teq (Decidable.not_not.mp hc)).2) r
theorem Go.icmp_lt {x y' : Int32} {o : Int} {q' : Nat} (hd : decode code pc = .ok (.if_icmp .lt o, 3)) (ho : 0 ≤ (pc : Int) + o) (hq : ((pc : Int) + o).toNat = q) (hq' : q' = pc + 3) (K1 : x < y' → Go l Z mn code maxL ret R n0 Q h k n q Ls st) (K2 : ¬ x < y' → Go l Z mn code maxL ret R n0 Q h k n q' Ls st) : Go l Z mn code maxL ret R n0 Q h k n pc Ls (.int y' :: .int x :: st) := by
  subst hq'
  by_cases hc : x < y'
  · exact (K1 hc).plain fun p e s m args below meth c T locs k' n' hx hby X t r => XS.icmpYes X.here hx rfl rfl (hb hby hd) rfl (tlt hc).1 ho hq r
  · exact (K2 (hc)).plain fun p e s m args below meth c T locs k' n' hx hby X t r => XS.icmpNo X.here hx rfl (hb hby hd) rfl (flt (hc)).1 r
theorem Go.if_lt {x : Int32} {o : Int} {q' : Nat} (hd : decode code pc = .ok (.ifCond .lt o, 3)) (ho : 0 ≤ (pc : Int) + o) (hq : ((pc : Int) + o).toNat = q) (hq' : q' = pc + 3) (K1 : x < 0 → Go l Z mn code maxL ret R n0 Q h k n q Ls st) (K2 : ¬ x < 0 → Go l Z mn code maxL ret R n0 Q h k n q' Ls st) : Go l Z mn code maxL ret R n0 Q h k n pc Ls (.int x :: st) := by
  subst hq'
  by_cases hc : x < 0
  · exact (K1 hc).plain fun p e s m args below meth c T locs k' n' hx hby X t r => XS.ifYes X.here hx rfl rfl (hb hby hd) rfl ((if0 _ _).trans (tlt hc).1) ho hq r
  · exact (K2 (hc)).plain fun p e s m args below meth c T locs k' n' hx hby X t r => XS.ifNo X.here hx rfl (hb hby hd) rfl ((if0 _ _).trans (flt (hc)).1) r
theorem Go.icmp_ge {x y' : Int32} {o : Int} {q' : Nat} (hd : decode code pc = .ok (.if_icmp .ge o, 3)) (ho : 0 ≤ (pc : Int) + o) (hq : ((pc : Int) + o).toNat = q) (hq' : q' = pc + 3) (K1 : ¬ x < y' → Go l Z mn code maxL ret R n0 Q h k n q Ls st) (K2 : x < y' → Go l Z mn code maxL ret R n0 Q h k n q' Ls st) : Go l Z mn code maxL ret R n0 Q h k n pc Ls (.int y' :: .int x :: st) := by
  subst hq'
  by_cases hc : ¬ x < y'
  · exact (K1 hc).plain fun p e s m args below meth c T locs k' n' hx hby X t r => XS.icmpYes X.here hx rfl rfl (hb hby hd) rfl (flt hc).2.1 ho hq r
  · exact (K2 (Decidable.not_not.mp hc)).plain fun p e s m args below meth c T locs k' n' hx hby X t r => XS.icmpNo X.here hx rfl (hb hby hd) rfl (tlt (Decidable.not_not.mp hc)).2.1 r
theorem Go.if_ge {x : Int32} {o : Int} {q' : Nat} (hd : decode code pc = .ok (.ifCond .ge o, 3)) (ho : 0 ≤ (pc : Int) + o) (hq : ((pc : Int) + o).toNat = q) (hq' : q' = pc + 3) (K1 : ¬ x < 0 → Go l Z mn code maxL ret R n0 Q h k n q Ls st) (K2 : x < 0 → Go l Z mn code maxL ret R n0 Q h k n q' Ls st) : Go l Z mn code maxL ret R n0 Q h k n pc Ls (.int x :: st) := by
  subst hq'
  by_cases hc : ¬ x < 0
  · exact (K1 hc).plain fun p e s m args below meth c T locs k' n' hx hby X t r => XS.ifYes X.here hx rfl rfl (hb hby hd) rfl ((if0 _ _).trans (flt hc).2.1) ho hq r
  · exact (K2 (Decidable.not_not.mp hc)).plain fun p e s m args below meth c T locs k' n' hx hby X t r => XS.ifNo X.here hx rfl (hb hby hd) rfl ((if0 _ _).trans (tlt (Decidable.not_not.mp hc)).2.1) r
theorem Go.icmp_gt {x y' : Int32} {o : Int} {q' : Nat} (hd : decode code pc = .ok (.if_icmp .gt o, 3)) (ho : 0 ≤ (pc : Int) + o) (hq : ((pc : Int) + o).toNat = q) (hq' : q' = pc + 3) (K1 : y' < x → Go l Z mn code maxL ret R n0 Q h k n q Ls st) (K2 : ¬ y' < x → Go l Z mn code maxL ret R n0 Q h k n q' Ls st) : Go l Z mn code maxL ret R n0 Q h k n pc Ls (.int y' :: .int x :: st) := by
  subst hq'
  by_cases hc : y' < x
  · exact (K1 hc).plain fun p e s m args below meth c T locs k' n' hx hby X t r => XS.icmpYes X.here hx rfl rfl (hb hby hd) rfl (tlt hc).2.2.1 ho hq r
  · exact (K2 (hc)).plain fun p e s m args below meth c T locs k' n' hx hby X t r => XS.icmpNo X.here hx rfl (hb hby hd) rfl (flt (hc)).2.2.1 r
theorem Go.if_gt {x : Int32} {o : Int} {q' : Nat} (hd : decode code pc = .ok (.ifCond .gt o, 3)) (ho : 0 ≤ (pc : Int) + o) (hq : ((pc : Int) + o).toNat = q) (hq' : q' = pc + 3) (K1 : 0 < x → Go l Z mn code maxL ret R n0 Q h k n q Ls st) (K2 : ¬ 0 < x → Go l Z mn code maxL ret R n0 Q h k n q' Ls st) : Go l Z mn code maxL ret R n0 Q h k n pc Ls (.int x :: st) := by
  subst hq'
  by_cases hc : 0 < x
  · exact (K1 hc).plain fun p e s m args below meth c T locs k' n' hx hby X t r => XS.ifYes X.here hx rfl rfl (hb hby hd) rfl ((if0 _ _).trans (tlt hc).2.2.1) ho hq r
  · exact (K2 (hc)).plain fun p e s m args below meth c T locs k' n' hx hby X t r => XS.ifNo X.here hx rfl (hb hby hd) rfl ((if0 _ _).trans (flt (hc)).2.2.1) r
theorem Go.icmp_le {x y' : Int32} {o : Int} {q' : Nat} (hd : decode code pc = .ok (.if_icmp .le o, 3)) (ho : 0 ≤ (pc : Int) + o) (hq : ((pc : Int) + o).toNat = q) (hq' : q' = pc + 3) (K1 : ¬ y' < x → Go l Z mn code maxL ret R n0 Q h k n q Ls st) (K2 : y' < x → Go l Z mn code maxL ret R n0 Q h k n q' Ls st) : Go l Z mn code maxL ret R n0 Q h k n pc Ls (.int y' :: .int x :: st) := by
  subst hq'
  by_cases hc : ¬ y' < x
  · exact (K1 hc).plain fun p e s m args below meth c T locs k' n' hx hby X t r => XS.icmpYes X.here hx rfl rfl (hb hby hd) rfl (flt hc).2.2.2 ho hq r
  · exact (K2 (Decidable.not_not.mp hc)).plain fun p e s m args below meth c T locs k' n' hx hby X t r => XS.icmpNo X.here hx rfl (hb hby hd) rfl (tlt (Decidable.not_not.mp hc)).2.2.2 r
theorem Go.if_le {x : Int32} {o : Int} {q' : Nat} (hd : decode code pc = .ok (.ifCond .le o, 3)) (ho : 0 ≤ (pc : Int) + o) (hq : ((pc : Int) + o).toNat = q) (hq' : q' = pc + 3) (K1 : ¬ 0 < x → Go l Z mn code maxL ret R n0 Q h k n q Ls st) (K2 : 0 < x → Go l Z mn code maxL ret R n0 Q h k n q' Ls st) : Go l Z mn code maxL ret R n0 Q h k n pc Ls (.int x :: st) := by
  subst hq'
  by_cases hc : ¬ 0 < x
  · exact (K1 hc).plain fun p e s m args below meth c T locs k' n' hx hby X t r => XS.ifYes X.here hx rfl rfl (hb hby hd) rfl ((if0 _ _).trans (flt hc).2.2.2) ho hq r
  · exact (K2 (Decidable.not_not.mp hc)).plain fun p e s m args below meth c T locs k' n' hx hby X t r => XS.ifNo X.here hx rfl (hb hby hd) rfl ((if0 _ _).trans (tlt (Decidable.not_not.mp hc)).2.2.2) r
theorem Go.ifnull {v : Value} {o : Int} {q' : Nat} (hd : decode code pc = .ok (.ifnull o, 3)) (ho : 0 ≤ (pc : Int) + o) (hq : ((pc : Int) + o).toNat = q) (hq' : q' = pc + 3) (hv : v.isRef = true) (K1 : v = .null → Go l Z mn code maxL ret R n0 Q h k n q Ls st) (K2 : ∀ a, v = .ref a → Go l Z mn code maxL ret R n0 Q h k n q' Ls st) : Go l Z mn code maxL ret R n0 Q h k n pc Ls (v :: st) := by
  subst hq'
  rcases ref_cases hv with rfl | ⟨a, rfl⟩
  · exact (K1 rfl).plain fun p e s m args below meth c T locs k' n' hx hby X t r => XS.ifnullYes X.here hx rfl rfl (hb hby hd) rfl ho hq r
  · exact (K2 a rfl).plain fun p e s m args below meth c T locs k' n' hx hby X t r => XS.ifnullNo X.here hx rfl (hb hby hd) rfl r
theorem Go.ifnonnull {v : Value} {o : Int} {q' : Nat} (hd : decode code pc = .ok (.ifnonnull o, 3)) (ho : 0 ≤ (pc : Int) + o) (hq : ((pc : Int) + o).toNat = q) (hq' : q' = pc + 3) (hv : v.isRef = true) (K1 : ∀ a, v = .ref a → Go l Z mn code maxL ret R n0 Q h k n q Ls st) (K2 : v = .null → Go l Z mn code maxL ret R n0 Q h k n q' Ls st) : Go l Z mn code maxL ret R n0 Q h k n pc Ls (v :: st) := by
  subst hq'
  rcases ref_cases hv with rfl | ⟨a, rfl⟩
  · exact (K2 rfl).plain fun p e s m args below meth c T locs k' n' hx hby X t r => XT.ifnonnullNo X.here hx rfl (hb hby hd) rfl r
  · exact (K1 a rfl).plain fun p e s m args below meth c T locs k' n' hx hby X t r => XT.ifnonnullYes X.here hx rfl rfl (hb hby hd) rfl ho hq r
theorem Go.acmp_eq {v w : Value} {o : Int} {q' : Nat} (hd : decode code pc = .ok (.if_acmp .eq o, 3)) (ho : 0 ≤ (pc : Int) + o) (hq : ((pc : Int) + o).toNat = q) (hq' : q' = pc + 3) (hv : v.isRef = true) (hw : w.isRef = true) (K1 : v = w → Go l Z mn code maxL ret R n0 Q h k n q Ls st) (K2 : ¬ v = w → Go l Z mn code maxL ret R n0 Q h k n q' Ls st) : Go l Z mn code maxL ret R n0 Q h k n pc Ls (w :: v :: st) := by
  subst hq'
  by_cases hc : v = w
  · exact (K1 hc).plain fun p e s m args below meth c T locs k' n' hx hby X t r => RoadKit.acmp X hx rfl hv hw rfl (hb hby hd) rfl (same := true) (by simp [hc]) ho (by simp [acV, hq]) r
  · exact (K2 hc).plain fun p e s m args below meth c T locs k' n' hx hby X t r => RoadKit.acmp X hx rfl hv hw rfl (hb hby hd) rfl (same := false) (by simp [hc]) ho (by simp [acV]) r
theorem Go.acmp_ne {v w : Value} {o : Int} {q' : Nat} (hd : decode code pc = .ok (.if_acmp .ne o, 3)) (ho : 0 ≤ (pc : Int) + o) (hq : ((pc : Int) + o).toNat = q) (hq' : q' = pc + 3) (hv : v.isRef = true) (hw : w.isRef = true) (K1 : ¬ v = w → Go l Z mn code maxL ret R n0 Q h k n q Ls st) (K2 : v = w → Go l Z mn code maxL ret R n0 Q h k n q' Ls st) : Go l Z mn code maxL ret R n0 Q h k n pc Ls (w :: v :: st) := by
  subst hq'
  by_cases hc : v = w
  · exact (K2 hc).plain fun p e s m args below meth c T locs k' n' hx hby X t r => RoadKit.acmp X hx rfl hv hw rfl (hb hby hd) rfl (same := true) (by simp [hc]) ho (by simp [acV]) r
  · exact (K1 hc).plain fun p e s m args below meth c T locs k' n' hx hby X t r => RoadKit.acmp X hx rfl hv hw rfl (hb hby hd) rfl (same := false) (by simp [hc]) ho (by simp [acV, hq]) r
/-! constants of the pool -/
theorem Go.ldc {i : Nat} {v : Int32} (hd : decode code pc = .ok (.ldc i, 2)) (hq : q = pc + 2) (w : (Jvm.Cond.constant mn.cls i v).before a0 Z = true) (K : Go l Z mn code maxL ret R n0 Q h k n q Ls (.int v :: st)) : Go l Z mn code maxL ret R n0 Q h k n pc Ls st := by
  subst hq
  exact fun p e s m args below meth c T locs k' n' C X hk hn N eT => (K p e s m args below meth c T locs k' n' C X hk hn N eT).step fun t r => X.ldcI C.1 C.2.2.2.2.1 (mvT C.2.1 w) rfl (hb C.2.2.1 hd) r
theorem Go.ldcW {i : Nat} {v : Int32} (hd : decode code pc = .ok (.ldc_w i, 3)) (hq : q = pc + 3) (w : (Jvm.Cond.constant mn.cls i v).before a0 Z = true) (K : Go l Z mn code maxL ret R n0 Q h k n q Ls (.int v :: st)) : Go l Z mn code maxL ret R n0 Q h k n pc Ls st := by
  subst hq
  exact fun p e s m args below meth c T locs k' n' C X hk hn N eT => (K p e s m args below meth c T locs k' n' C X hk hn N eT).step fun t r => X.ldcWI C.1 C.2.2.2.2.1 (mvT C.2.1 w) rfl (hb C.2.2.1 hd) r
theorem Go.ldc2 {i : Nat} {v : Int64} (hd : decode code pc = .ok (.ldc2_w i, 3)) (hq : q = pc + 3) (w : (Jvm.Cond.constantLong mn.cls i v).before a0 Z = true) (K : Go l Z mn code maxL ret R n0 Q h k n q Ls (.long v :: st)) : Go l Z mn code maxL ret R n0 Q h k n pc Ls st := by
  subst hq
  exact fun p e s m args below meth c T locs k' n' C X hk hn N eT => (K p e s m args below meth c T locs k' n' C X hk hn N eT).step fun t r => X.ldc2J C.1 C.2.2.2.2.1 (mvT C.2.1 w) rfl (hb C.2.2.1 hd) r
/-! statics and fields -/
theorem Go.getS {i : Nat} {O nm d : String} {v : Value} (hd : decode code pc = .ok (.getstatic i, 3)) (hq : q = pc + 3) (w : (Jvm.Cond.fieldLink mn.cls i O nm d).before a0 Z = true) (F : Sta Z h O nm d v) (K : Go l Z mn code maxL ret R n0 Q h k n q Ls (v :: st)) : Go l Z mn code maxL ret R n0 Q h k n pc Ls st := by
  subst hq
  intro p e s m args below meth c T locs k' n' C X hk hn N eT
  obtain ⟨T', X', e', f⟩ := RoadKit.getS (host := "") X C.1 C.2.1 C.2.2.2.2.1 w Via.refl eT F (g := mkF m pc Ls st) rfl (hb C.2.2.1 hd)
  exact (K p e s m args below meth c T' locs k' n' C X' hk hn N e').step f
theorem Go.getF {i : Nat} {R0 O nm d host : String} {a : Addr} {v : Value} (hd : decode code pc = .ok (.getfield i, 3)) (hq : q = pc + 3) (w : (Jvm.Cond.fieldLink mn.cls i R0 nm d).before a0 Z = true ∨ (Jvm.Cond.fieldLinkNest mn.cls i R0 nm d host).before a0 Z = true) (via : Via Z R0 O nm d) (F : Fld Z h a O nm d v) (K : Go l Z mn code maxL ret R n0 Q h k n q Ls (v :: st)) : Go l Z mn code maxL ret R n0 Q h k n pc Ls (.ref a :: st) := by
  subst hq
  intro p e s m args below meth c T locs k' n' C X hk hn N eT
  obtain ⟨T', X', e', f⟩ := RoadKit.getF X C.1 C.2.1 C.2.2.2.2.1 w via eT F (g := mkF m pc Ls (.ref a :: st)) rfl rfl (hb C.2.2.1 hd)
  exact (K p e s m args below meth c T' locs k' n' C X' hk hn N e').step f
theorem Go.putF {i kk : Nat} {R0 O nm d host C : String} {a : Addr} {v old : Value} {ty : FieldType} (hd : decode code pc = .ok (.putfield i, 3)) (hq : q = pc + 3) (w : (Jvm.Cond.fieldLink mn.cls i R0 nm d).before a0 Z = true ∨ (Jvm.Cond.fieldLinkNest mn.cls i R0 nm d host).before a0 Z = true) (via : Via Z R0 O nm d) (F : Fld Z h a O nm d old) (E : Exa Z h a C) (L : (Jvm.Cond.lays C O nm d).before a0 Z = true ∨ ((Jvm.Cond.laysFinal C O nm d).before a0 Z = true ∧ mn.cls = O ∧ mn.name = "<init>")) (wi : (Jvm.Cond.instantiable C kk).before a0 Z = true)
    (hty : parseFieldDescriptor d = some ty) (hna : narrow ty v = v) (hf : fits ty v = true) (ha : n0 ≤ a) (K : ∀ h', Wr h h' a (RoadKit.slotOf Z O nm d) v → Go l Z mn code maxL ret R n0 Q h' k n q Ls st) : Go l Z mn code maxL ret R n0 Q h k n pc Ls (v :: .ref a :: st) := by
  subst hq
  intro p e s m args below meth c T locs k' n' Cc X hk hn N eT
  obtain ⟨T', h', X', e', W, f⟩ := RoadKit.putF X Cc.1 Cc.2.1 Cc.2.2.2.2.1 w via eT F E (L.imp id fun q => ⟨q.1, q.2.1, Cc.2.2.2.2.2.2.2.trans q.2.2⟩) wi hty hna hf (g := mkF m pc Ls (v :: .ref a :: st)) rfl rfl (hb Cc.2.2.1 hd)
  exact (K h' W p e s m args below meth c T' _ k' n' Cc X' hk hn (Fr.snoc X' N ha) e').step f
theorem Go.cast {i : Nat} {Kc : String} {a : Addr} (hd : decode code pc = .ok (.checkcast i, 3)) (hq : q = pc + 3) (w : (Jvm.Cond.classLink mn.cls i Kc).before a0 Z = true) (F : Ins Z h a Kc true) (K : Go l Z mn code maxL ret R n0 Q h k n q Ls (.ref a :: st)) : Go l Z mn code maxL ret R n0 Q h k n pc Ls (.ref a :: st) := by
  subst hq
  intro p e s m args below meth c T locs k' n' C X hk hn N eT
  obtain ⟨T', X', e', f⟩ := castY X C.1 C.2.1 C.2.2.2.2.1 w eT F (g := mkF m pc Ls (.ref a :: st)) rfl rfl (hb C.2.2.1 hd)
  exact (K p e s m args below meth c T' locs k' n' C X' hk hn N e').step f
/-! new, arrays -/
theorem Go.new {i kk : Nat} {C : String} (hd : decode code pc = .ok (.new i, 3)) (hq : q = pc + 3) (w : (Jvm.Cond.classLink mn.cls i C).before a0 Z = true) (wi : (Jvm.Cond.instantiable C kk).before a0 Z = true) (wz : (Jvm.Cond.initialized C).before a0 Z = true) (hc : k + 1 ≤ R.cells) (hs : n + kk ≤ R.slots)
    (K : ∀ h' a, a = h.size → Ext h h' → Exa Z h' a C → (∀ {O nm d : String} {ty : FieldType}, Laid Z a0 C O nm d → parseFieldDescriptor d = some ty → Fld Z h' a O nm d (defaultValue ty)) → Go l Z mn code maxL ret R n0 Q h' (k + 1) (n + kk) q Ls (.ref a :: st)) : Go l Z mn code maxL ret R n0 Q h k n pc Ls st := by
  subst hq
  intro p e s m args below meth c T locs k' n' Cc X hk hn N eT
  obtain ⟨T', h', X', e', E, A, D, -, f⟩ := newO X Cc.1 Cc.2.1 Cc.2.2.2.2.1 w wi wz eT (g := mkF m pc Ls st) rfl (hb Cc.2.2.1 hd) (by omega) (by omega)
  exact (K h' h.size rfl E A (fun L t => D L t) p e s m args below meth c T' locs _ _ Cc X' (by omega) (by omega) N e').step f
theorem Go.initObj {i wd : Nat} {a : Addr} (hd : decode code pc = .ok (.invokespecial i, 3)) (hq : q = pc + 3) (w1 : (Jvm.Cond.methodLink mn.cls i Lib.objectInit).before a0 Z = true) (w2 : (Jvm.Cond.instanceMethod Lib.objectInit).before a0 Z = true) (w3 : (Jvm.Cond.code Lib.objectInit ⟨#[0xb1]⟩ 1 none).before a0 Z = true) (hsz : Ls.size = maxL) (hf : 1 ≤ R.frames) (hW : (st.map fun v => v.category).sum = wd) (hl : wd + 12 ≤ R.locals) (K : Go l Z mn code maxL ret R n0 Q h k n q Ls st) : Go l Z mn code maxL ret R n0 Q h k n pc Ls (.ref a :: st) := by
  subst hq
  intro p e s m args below meth c T locs k' n' C X hk hn N eT
  obtain ⟨T', X', e', f⟩ := initO X C.1 C.2.1 C.2.2.2.2.1 w1 w2 w3 eT (g := mkF m pc Ls (.ref a :: st)) rfl (by rw [C.2.2.2.1]; exact hsz) rfl (hb C.2.2.1 hd) hf (W := wd) (by simp [hW]) hl
  exact (K p e s m args below meth c T' locs k' n' C X' hk hn N e').step f

end Laws
theorem cmpL_eq (x y : Int64) : XT.cmpL x y = 0 ↔ x = y := by
  unfold XT.cmpL
  by_cases h1 : y < x
  · rw [if_pos h1]; constructor
    · intro e; exact absurd e (by decide)
    · rintro rfl; exact absurd h1 Int64.lt_irrefl
  · rw [if_neg h1]
    by_cases h2 : x = y
    · simp [h2]
    · rw [if_neg h2]; constructor
      · intro e; exact absurd e (by decide)
      · intro e; exact absurd e h2
theorem cmpL_lt (x y : Int64) : XT.cmpL x y < 0 ↔ x < y := by
  unfold XT.cmpL
  by_cases h1 : y < x
  · rw [if_pos h1]; constructor
    · intro e; exact absurd e (by decide)
    · intro e; rw [Int64.lt_iff_toInt_lt] at e h1; omega
  · rw [if_neg h1]
    by_cases h2 : x = y
    · rw [if_pos h2]; constructor
      · intro e; exact absurd e (by decide)
      · intro e; rw [h2] at e; exact absurd e Int64.lt_irrefl
    · rw [if_neg h2]; constructor
      · intro _; rw [Int64.lt_iff_toInt_lt] at h1 ⊢; rw [← Int64.toInt_inj] at h2; omega
      · intro _; decide
theorem cmpL_gt (x y : Int64) : 0 < XT.cmpL x y ↔ y < x := by
  unfold XT.cmpL
  by_cases h1 : y < x
  · rw [if_pos h1]; constructor
    · intro _; exact h1
    · intro _; decide
  · rw [if_neg h1]
    by_cases h2 : x = y
    · rw [if_pos h2]; constructor
      · intro e; exact absurd e (by decide)
      · intro e; exact absurd e h1
    · rw [if_neg h2]; constructor
      · intro e; exact absurd e (by decide)
      · intro e; exact absurd e h1
section Laws2
variable {l : Launch} {Z : State} {mn : MethodName} {code : ByteArray} {maxL : Nat} {ret : Option FieldType} {R : Room} {n0 : Nat} {Q : Option Value → Heap → Prop} {h : Heap} {k n pc q : Nat} {Ls Ls' : Array Slot} {st st' : List Value} {a0 : Array Value}
theorem Go.lif_eq {x y' : Int64} {o : Int} {q' : Nat} (hd : decode code pc = .ok (.ifCond .eq o, 3)) (ho : 0 ≤ (pc : Int) + o) (hq : ((pc : Int) + o).toNat = q) (hq' : q' = pc + 3) (K1 : x = y' → Go l Z mn code maxL ret R n0 Q h k n q Ls st) (K2 : ¬ x = y' → Go l Z mn code maxL ret R n0 Q h k n q' Ls st) : Go l Z mn code maxL ret R n0 Q h k n pc Ls (.int (XT.cmpL x y') :: st) :=
  Go.if_eq hd ho hq hq' (fun c => K1 ((cmpL_eq _ _).mp c)) (fun c => K2 fun e => c ((cmpL_eq _ _).mpr e))
theorem Go.lif_ne {x y' : Int64} {o : Int} {q' : Nat} (hd : decode code pc = .ok (.ifCond .ne o, 3)) (ho : 0 ≤ (pc : Int) + o) (hq : ((pc : Int) + o).toNat = q) (hq' : q' = pc + 3) (K1 : ¬ x = y' → Go l Z mn code maxL ret R n0 Q h k n q Ls st) (K2 : x = y' → Go l Z mn code maxL ret R n0 Q h k n q' Ls st) : Go l Z mn code maxL ret R n0 Q h k n pc Ls (.int (XT.cmpL x y') :: st) :=
  Go.if_ne hd ho hq hq' (fun c => K1 fun e => c ((cmpL_eq _ _).mpr e)) (fun c => K2 ((cmpL_eq _ _).mp c))
theorem Go.lif_lt {x y' : Int64} {o : Int} {q' : Nat} (hd : decode code pc = .ok (.ifCond .lt o, 3)) (ho : 0 ≤ (pc : Int) + o) (hq : ((pc : Int) + o).toNat = q) (hq' : q' = pc + 3) (K1 : x < y' → Go l Z mn code maxL ret R n0 Q h k n q Ls st) (K2 : ¬ x < y' → Go l Z mn code maxL ret R n0 Q h k n q' Ls st) : Go l Z mn code maxL ret R n0 Q h k n pc Ls (.int (XT.cmpL x y') :: st) :=
  Go.if_lt hd ho hq hq' (fun c => K1 ((cmpL_lt _ _).mp c)) (fun c => K2 fun e => c ((cmpL_lt _ _).mpr e))
theorem Go.lif_ge {x y' : Int64} {o : Int} {q' : Nat} (hd : decode code pc = .ok (.ifCond .ge o, 3)) (ho : 0 ≤ (pc : Int) + o) (hq : ((pc : Int) + o).toNat = q) (hq' : q' = pc + 3) (K1 : ¬ x < y' → Go l Z mn code maxL ret R n0 Q h k n q Ls st) (K2 : x < y' → Go l Z mn code maxL ret R n0 Q h k n q' Ls st) : Go l Z mn code maxL ret R n0 Q h k n pc Ls (.int (XT.cmpL x y') :: st) :=
  Go.if_ge hd ho hq hq' (fun c => K1 fun e => c ((cmpL_lt _ _).mpr e)) (fun c => K2 ((cmpL_lt _ _).mp c))
theorem Go.lif_gt {x y' : Int64} {o : Int} {q' : Nat} (hd : decode code pc = .ok (.ifCond .gt o, 3)) (ho : 0 ≤ (pc : Int) + o) (hq : ((pc : Int) + o).toNat = q) (hq' : q' = pc + 3) (K1 : y' < x → Go l Z mn code maxL ret R n0 Q h k n q Ls st) (K2 : ¬ y' < x → Go l Z mn code maxL ret R n0 Q h k n q' Ls st) : Go l Z mn code maxL ret R n0 Q h k n pc Ls (.int (XT.cmpL x y') :: st) :=
  Go.if_gt hd ho hq hq' (fun c => K1 ((cmpL_gt _ _).mp c)) (fun c => K2 fun e => c ((cmpL_gt _ _).mpr e))
theorem Go.lif_le {x y' : Int64} {o : Int} {q' : Nat} (hd : decode code pc = .ok (.ifCond .le o, 3)) (ho : 0 ≤ (pc : Int) + o) (hq : ((pc : Int) + o).toNat = q) (hq' : q' = pc + 3) (K1 : ¬ y' < x → Go l Z mn code maxL ret R n0 Q h k n q Ls st) (K2 : y' < x → Go l Z mn code maxL ret R n0 Q h k n q' Ls st) : Go l Z mn code maxL ret R n0 Q h k n pc Ls (.int (XT.cmpL x y') :: st) :=
  Go.if_le hd ho hq hq' (fun c => K1 fun e => c ((cmpL_gt _ _).mpr e)) (fun c => K2 ((cmpL_gt _ _).mp c))
end Laws2
end Jvm.OwnKit

namespace Jvm.OwnKit
open Jvm Jvm.ClassFile Sem Op Lib Jvm.Free Jvm.Stand Jvm.LawKit Jvm.RoadKit
section Calls
variable {l : Launch} {Z : State} {mn : MethodName} {code : ByteArray} {maxL : Nat} {ret : Option FieldType} {R : Room} {n0 : Nat} {Q : Option Value → Heap → Prop} {h : Heap} {k n pc q : Nat} {Ls Ls' : Array Slot} {st st' : List Value} {a0 : Array Value}
  {y' : MethodName} {code' : ByteArray} {maxL' : Nat} {ret' : Option FieldType} {R' : Room} {Q' : Option Value → Heap → Prop} {argsL rest : List Value} {Ls1 : Array Slot} {ps : List FieldType} {r : Option FieldType} {i wd : Nat}
theorem Go.callS (hd : decode code pc = .ok (.invokestatic i, 3)) (hq : q = pc + 3) (w1 : (Jvm.Cond.methodLink mn.cls i y').before a0 Z = true) (w2 : (Jvm.Cond.static y').before a0 Z = true) (w3 : (Jvm.Cond.initialized y'.cls).before a0 Z = true) (w4 : (Jvm.Cond.code y' code' maxL' ret').before a0 Z = true)
    (hy : y'.cls ≠ "java/lang/invoke/MethodHandle" ∧ y'.cls ≠ "java/lang/invoke/VarHandle") (pn : plainName y'.cls = true) (pd : parseMethodDescriptor y'.desc = some ⟨ps, r⟩) (hl : argsL.length = ps.length) (hst : st = argsL.reverse ++ rest) (hef : ∀ m, entryFrame m argsL.toArray maxL' = mkF m 0 Ls1 []) (hsz : Ls.size = maxL)
    (hR1 : R'.frames + 1 ≤ R.frames) (hW : (rest.map fun v => v.category).sum = wd) (hR2 : wd + (maxL' + 11) + R'.locals ≤ R.locals) (hc : k + R'.cells ≤ R.cells) (hs : n + R'.slots ≤ R.slots)
    (G : Go l Z y' code' maxL' ret' R' n0 Q' h 0 0 0 Ls1 []) (K : ∀ v h', Q' v h' → Go l Z mn code maxL ret R n0 Q h' (k + R'.cells) (n + R'.slots) q Ls (v.toList ++ rest)) : Go l Z mn code maxL ret R n0 Q h k n pc Ls st := by
  subst hq hst hW
  intro p e s m args below meth c T locs k' n' C X hk hn N eT
  obtain ⟨v, vm1, ⟨T1, L1, k1, n1⟩, -, X1, ⟨Lc, hQ, e1, e2, e3⟩, f⟩ := Jvm.LawKit.callS X C.1 (y := y') C.2.2.2.2.1 (mvT C.2.1 w1) (mvT C.2.1 w2) (mvT C.2.1 w3) (mvT C.2.1 w4) hy (backOf (W := (rest.map fun v => v.category).sum) (Q := fun v h L => Fr n0 L ∧ Q' v h) (G.met pn hef []) C.2.1 w4 w3 hR1 hR2) (g := mkF m pc Ls (argsL.reverse ++ rest)) rfl (by rw [C.2.2.2.1]; exact hsz) (argsL := argsL) (rest := rest) (lenOf pd hl) rfl (by simp) (hb C.2.2.1 hd) (fun _ _ => ⟨rfl, eT, by show k' + _ ≤ _; omega, by show n' + _ ≤ _; omega⟩)
  dsimp only [Pt.U, Pt.locs, Pt.cells, Pt.slots] at X1 e1 e2 e3 f hQ
  subst e1 e2 e3
  exact (K v T1.heap hQ.2 p e s m args below meth c T1 _ _ _ C X1 (by omega) (by omega) (Fr.app N hQ.1) rfl).step f
theorem Go.callV {C : String} {a : Addr} (hd : decode code pc = .ok (.invokevirtual i, 3)) (hq : q = pc + 3) (w1 : (Jvm.Cond.methodLink mn.cls i y').before a0 Z = true) (w2 : (Jvm.Cond.declares y').before a0 Z = true) (w3 : (Jvm.Cond.selects C y' y').before a0 Z = true) (w4 : (Jvm.Cond.instanceMethod y').before a0 Z = true) (w5 : (Jvm.Cond.code y' code' maxL' ret').before a0 Z = true) (w6 : (Jvm.Cond.initialized y'.cls).before a0 Z = true)
    (hy : y'.cls ≠ "java/lang/invoke/MethodHandle" ∧ y'.cls ≠ "java/lang/invoke/VarHandle") (pn : plainName y'.cls = true) (pd : parseMethodDescriptor y'.desc = some ⟨ps, r⟩) (hl : argsL.length = ps.length) (hst : st = argsL.reverse ++ .ref a :: rest) (E : Exa Z h a C) (hef : ∀ m, entryFrame m (.ref a :: argsL).toArray maxL' = mkF m 0 Ls1 []) (hsz : Ls.size = maxL)
    (hR1 : R'.frames + 1 ≤ R.frames) (hW : (rest.map fun v => v.category).sum = wd) (hR2 : wd + (maxL' + 11) + R'.locals ≤ R.locals) (hc : k + R'.cells ≤ R.cells) (hs : n + R'.slots ≤ R.slots)
    (G : Go l Z y' code' maxL' ret' R' n0 Q' h 0 0 0 Ls1 []) (K : ∀ v h', Q' v h' → Go l Z mn code maxL ret R n0 Q h' (k + R'.cells) (n + R'.slots) q Ls (v.toList ++ rest)) : Go l Z mn code maxL ret R n0 Q h k n pc Ls st := by
  subst hq hst hW
  intro p e s m args below meth c T locs k' n' Cc X hk hn N eT
  obtain ⟨cq, kq, qa, qb, qc⟩ := isOf Cc.2.1 eT E
  obtain ⟨v, vm1, ⟨T1, L1, k1, n1⟩, -, X1, ⟨Lc, hQ, e1, e2, e3⟩, f⟩ := X.virtualBack Cc.1 (y := y') (z := y') Cc.2.2.2.2.1 (mvT Cc.2.1 w1) (mvT Cc.2.1 w2) (notFace_of_selects (args := #[]) (mvT Cc.2.1 w3)) (mvT Cc.2.1 w3) (mvT Cc.2.1 w4) hy (backOf (W := (rest.map fun v => v.category).sum) (Q := fun v h L => Fr n0 L ∧ Q' v h) (G.met pn hef []) Cc.2.1 w5 w6 hR1 hR2) qa qc (g := mkF m pc Ls (argsL.reverse ++ .ref a :: rest)) rfl (by rw [Cc.2.2.2.1]; exact hsz) (Steps.refl _) (argsL := argsL) (rest := rest) (lenOf pd hl) rfl (by simp) (hb Cc.2.2.1 hd) (fun _ _ => ⟨rfl, eT, by show k' + _ ≤ _; omega, by show n' + _ ≤ _; omega⟩)
  dsimp only [Pt.U, Pt.locs, Pt.cells, Pt.slots] at X1 e1 e2 e3 f hQ
  subst e1 e2 e3
  exact (K v T1.heap hQ.2 p e s m args below meth c T1 _ _ _ Cc X1 (by omega) (by omega) (Fr.app N hQ.1) rfl).step fun t r => f.trans r
theorem Go.callI {a : Addr} (hd : decode code pc = .ok (.invokespecial i, 3)) (hq : q = pc + 3) (hn1 : y'.name = "<init>") (w1 : (Jvm.Cond.methodLink mn.cls i y').before a0 Z = true) (w2 : (Jvm.Cond.instanceMethod y').before a0 Z = true) (w3 : (Jvm.Cond.initialized y'.cls).before a0 Z = true) (w4 : (Jvm.Cond.code y' code' maxL' none).before a0 Z = true)
    (hy : y'.cls ≠ "java/lang/invoke/MethodHandle" ∧ y'.cls ≠ "java/lang/invoke/VarHandle") (pn : plainName y'.cls = true) (pd : parseMethodDescriptor y'.desc = some ⟨ps, r⟩) (hl : argsL.length = ps.length) (hst : st = argsL.reverse ++ .ref a :: rest) (hef : ∀ m, entryFrame m (.ref a :: argsL).toArray maxL' = mkF m 0 Ls1 []) (hsz : Ls.size = maxL)
    (hR1 : R'.frames + 1 ≤ R.frames) (hW : (rest.map fun v => v.category).sum = wd) (hR2 : wd + (maxL' + 11) + R'.locals ≤ R.locals) (hc : k + R'.cells ≤ R.cells) (hs : n + R'.slots ≤ R.slots)
    (G : Go l Z y' code' maxL' none R' n0 Q' h 0 0 0 Ls1 []) (K : ∀ v h', Q' v h' → Go l Z mn code maxL ret R n0 Q h' (k + R'.cells) (n + R'.slots) q Ls (v.toList ++ rest)) : Go l Z mn code maxL ret R n0 Q h k n pc Ls st := by
  subst hq hst hW
  intro p e s m args below meth c T locs k' n' Cc X hk hn N eT
  obtain ⟨v, vm1, ⟨T1, L1, k1, n1⟩, -, X1, ⟨Lc, hQ, e1, e2, e3⟩, f⟩ := X.specialBack Cc.1 (y := y') hn1 Cc.2.2.2.2.1 (mvT Cc.2.1 w1) (mvT Cc.2.1 w2) (mvT Cc.2.1 w4) hy (backOf (W := (rest.map fun v => v.category).sum) (Q := fun v h L => Fr n0 L ∧ Q' v h) (G.met pn hef []) Cc.2.1 w4 w3 hR1 hR2) (g := mkF m pc Ls (argsL.reverse ++ .ref a :: rest)) rfl (by rw [Cc.2.2.2.1]; exact hsz) (Steps.refl _) (a := a) (argsL := argsL) (rest := rest) (lenOf pd hl) rfl (by simp) (hb Cc.2.2.1 hd) (fun _ _ => ⟨rfl, eT, by show k' + _ ≤ _; omega, by show n' + _ ≤ _; omega⟩)
  dsimp only [Pt.U, Pt.locs, Pt.cells, Pt.slots] at X1 e1 e2 e3 f hQ
  subst e1 e2 e3
  exact (K v T1.heap hQ.2 p e s m args below meth c T1 _ _ _ Cc X1 (by omega) (by omega) (Fr.app N hQ.1) rfl).step fun t r => f.trans r
theorem Go.callSV {P : Value → Heap → Prop} (hd : decode code pc = .ok (.invokestatic i, 3)) (hq : q = pc + 3) (w1 : (Jvm.Cond.methodLink mn.cls i y').before a0 Z = true) (w2 : (Jvm.Cond.static y').before a0 Z = true) (w3 : (Jvm.Cond.initialized y'.cls).before a0 Z = true) (w4 : (Jvm.Cond.code y' code' maxL' ret').before a0 Z = true)
    (hy : y'.cls ≠ "java/lang/invoke/MethodHandle" ∧ y'.cls ≠ "java/lang/invoke/VarHandle") (pn : plainName y'.cls = true) (pd : parseMethodDescriptor y'.desc = some ⟨ps, r⟩) (hl : argsL.length = ps.length) (hst : st = argsL.reverse ++ rest) (hef : ∀ m, entryFrame m argsL.toArray maxL' = mkF m 0 Ls1 []) (hsz : Ls.size = maxL)
    (hR1 : R'.frames + 1 ≤ R.frames) (hW : (rest.map fun v => v.category).sum = wd) (hR2 : wd + (maxL' + 11) + R'.locals ≤ R.locals) (hc : k + R'.cells ≤ R.cells) (hs : n + R'.slots ≤ R.slots)
    (G : Go l Z y' code' maxL' ret' R' n0 (RV P) h 0 0 0 Ls1 []) (K : ∀ w h', P w h' → Go l Z mn code maxL ret R n0 Q h' (k + R'.cells) (n + R'.slots) q Ls (w :: rest)) : Go l Z mn code maxL ret R n0 Q h k n pc Ls st :=
  Go.callS hd hq w1 w2 w3 w4 hy pn pd hl hst hef hsz hR1 hW hR2 hc hs G fun v h' ⟨w, e, q⟩ => by subst e; exact K w h' q
theorem Go.callSN {P : Heap → Prop} (hd : decode code pc = .ok (.invokestatic i, 3)) (hq : q = pc + 3) (w1 : (Jvm.Cond.methodLink mn.cls i y').before a0 Z = true) (w2 : (Jvm.Cond.static y').before a0 Z = true) (w3 : (Jvm.Cond.initialized y'.cls).before a0 Z = true) (w4 : (Jvm.Cond.code y' code' maxL' ret').before a0 Z = true)
    (hy : y'.cls ≠ "java/lang/invoke/MethodHandle" ∧ y'.cls ≠ "java/lang/invoke/VarHandle") (pn : plainName y'.cls = true) (pd : parseMethodDescriptor y'.desc = some ⟨ps, r⟩) (hl : argsL.length = ps.length) (hst : st = argsL.reverse ++ rest) (hef : ∀ m, entryFrame m argsL.toArray maxL' = mkF m 0 Ls1 []) (hsz : Ls.size = maxL)
    (hR1 : R'.frames + 1 ≤ R.frames) (hW : (rest.map fun v => v.category).sum = wd) (hR2 : wd + (maxL' + 11) + R'.locals ≤ R.locals) (hc : k + R'.cells ≤ R.cells) (hs : n + R'.slots ≤ R.slots)
    (G : Go l Z y' code' maxL' ret' R' n0 (RN P) h 0 0 0 Ls1 []) (K : ∀ h', P h' → Go l Z mn code maxL ret R n0 Q h' (k + R'.cells) (n + R'.slots) q Ls rest) : Go l Z mn code maxL ret R n0 Q h k n pc Ls st :=
  Go.callS hd hq w1 w2 w3 w4 hy pn pd hl hst hef hsz hR1 hW hR2 hc hs G fun v h' ⟨e, q⟩ => by subst e; exact K h' q
theorem Go.callVV {P : Value → Heap → Prop} {C : String} {a : Addr} (hd : decode code pc = .ok (.invokevirtual i, 3)) (hq : q = pc + 3) (w1 : (Jvm.Cond.methodLink mn.cls i y').before a0 Z = true) (w2 : (Jvm.Cond.declares y').before a0 Z = true) (w3 : (Jvm.Cond.selects C y' y').before a0 Z = true) (w4 : (Jvm.Cond.instanceMethod y').before a0 Z = true) (w5 : (Jvm.Cond.code y' code' maxL' ret').before a0 Z = true) (w6 : (Jvm.Cond.initialized y'.cls).before a0 Z = true)
    (hy : y'.cls ≠ "java/lang/invoke/MethodHandle" ∧ y'.cls ≠ "java/lang/invoke/VarHandle") (pn : plainName y'.cls = true) (pd : parseMethodDescriptor y'.desc = some ⟨ps, r⟩) (hl : argsL.length = ps.length) (hst : st = argsL.reverse ++ .ref a :: rest) (E : Exa Z h a C) (hef : ∀ m, entryFrame m (.ref a :: argsL).toArray maxL' = mkF m 0 Ls1 []) (hsz : Ls.size = maxL)
    (hR1 : R'.frames + 1 ≤ R.frames) (hW : (rest.map fun v => v.category).sum = wd) (hR2 : wd + (maxL' + 11) + R'.locals ≤ R.locals) (hc : k + R'.cells ≤ R.cells) (hs : n + R'.slots ≤ R.slots)
    (G : Go l Z y' code' maxL' ret' R' n0 (RV P) h 0 0 0 Ls1 []) (K : ∀ w h', P w h' → Go l Z mn code maxL ret R n0 Q h' (k + R'.cells) (n + R'.slots) q Ls (w :: rest)) : Go l Z mn code maxL ret R n0 Q h k n pc Ls st :=
  Go.callV hd hq w1 w2 w3 w4 w5 w6 hy pn pd hl hst E hef hsz hR1 hW hR2 hc hs G fun v h' ⟨w, e, q⟩ => by subst e; exact K w h' q
theorem Go.callVN {P : Heap → Prop} {C : String} {a : Addr} (hd : decode code pc = .ok (.invokevirtual i, 3)) (hq : q = pc + 3) (w1 : (Jvm.Cond.methodLink mn.cls i y').before a0 Z = true) (w2 : (Jvm.Cond.declares y').before a0 Z = true) (w3 : (Jvm.Cond.selects C y' y').before a0 Z = true) (w4 : (Jvm.Cond.instanceMethod y').before a0 Z = true) (w5 : (Jvm.Cond.code y' code' maxL' ret').before a0 Z = true) (w6 : (Jvm.Cond.initialized y'.cls).before a0 Z = true)
    (hy : y'.cls ≠ "java/lang/invoke/MethodHandle" ∧ y'.cls ≠ "java/lang/invoke/VarHandle") (pn : plainName y'.cls = true) (pd : parseMethodDescriptor y'.desc = some ⟨ps, r⟩) (hl : argsL.length = ps.length) (hst : st = argsL.reverse ++ .ref a :: rest) (E : Exa Z h a C) (hef : ∀ m, entryFrame m (.ref a :: argsL).toArray maxL' = mkF m 0 Ls1 []) (hsz : Ls.size = maxL)
    (hR1 : R'.frames + 1 ≤ R.frames) (hW : (rest.map fun v => v.category).sum = wd) (hR2 : wd + (maxL' + 11) + R'.locals ≤ R.locals) (hc : k + R'.cells ≤ R.cells) (hs : n + R'.slots ≤ R.slots)
    (G : Go l Z y' code' maxL' ret' R' n0 (RN P) h 0 0 0 Ls1 []) (K : ∀ h', P h' → Go l Z mn code maxL ret R n0 Q h' (k + R'.cells) (n + R'.slots) q Ls rest) : Go l Z mn code maxL ret R n0 Q h k n pc Ls st :=
  Go.callV hd hq w1 w2 w3 w4 w5 w6 hy pn pd hl hst E hef hsz hR1 hW hR2 hc hs G fun v h' ⟨e, q⟩ => by subst e; exact K h' q
theorem Go.callIN {P : Heap → Prop} {a : Addr} (hd : decode code pc = .ok (.invokespecial i, 3)) (hq : q = pc + 3) (hn1 : y'.name = "<init>") (w1 : (Jvm.Cond.methodLink mn.cls i y').before a0 Z = true) (w2 : (Jvm.Cond.instanceMethod y').before a0 Z = true) (w3 : (Jvm.Cond.initialized y'.cls).before a0 Z = true) (w4 : (Jvm.Cond.code y' code' maxL' none).before a0 Z = true)
    (hy : y'.cls ≠ "java/lang/invoke/MethodHandle" ∧ y'.cls ≠ "java/lang/invoke/VarHandle") (pn : plainName y'.cls = true) (pd : parseMethodDescriptor y'.desc = some ⟨ps, r⟩) (hl : argsL.length = ps.length) (hst : st = argsL.reverse ++ .ref a :: rest) (hef : ∀ m, entryFrame m (.ref a :: argsL).toArray maxL' = mkF m 0 Ls1 []) (hsz : Ls.size = maxL)
    (hR1 : R'.frames + 1 ≤ R.frames) (hW : (rest.map fun v => v.category).sum = wd) (hR2 : wd + (maxL' + 11) + R'.locals ≤ R.locals) (hc : k + R'.cells ≤ R.cells) (hs : n + R'.slots ≤ R.slots)
    (G : Go l Z y' code' maxL' none R' n0 (RN P) h 0 0 0 Ls1 []) (K : ∀ h', P h' → Go l Z mn code maxL ret R n0 Q h' (k + R'.cells) (n + R'.slots) q Ls rest) : Go l Z mn code maxL ret R n0 Q h k n pc Ls st :=
  Go.callI hd hq hn1 w1 w2 w3 w4 hy pn pd hl hst hef hsz hR1 hW hR2 hc hs G fun v h' ⟨e, q⟩ => by subst e; exact K h' q
end Calls
section Rets
variable {l : Launch} {Z : State} {mn : MethodName} {code : ByteArray} {maxL : Nat} {R : Room} {n0 : Nat} {Q : Option Value → Heap → Prop} {h : Heap} {k n pc q : Nat} {Ls : Array Slot} {st : List Value}
theorem Go.retOut {w : Value} {t : FieldType} {i : Instr} (hd : decode code pc = .ok (i, 1)) (hna : narrow t w = w)
    (hi : (i = .ireturn ∧ (t = .int ∨ t = .boolean ∨ t = .byte ∨ t = .char ∨ t = .short) ∧ ∃ z, w = .int z) ∨ (i = .lreturn ∧ t = .long ∧ ∃ z, w = .long z) ∨ (i = .dreturn ∧ t = .double ∧ ∃ z, w = .double z) ∨ (i = .freturn ∧ t = .float ∧ ∃ z, w = .float z) ∨ (i = .areturn ∧ t.isReference = true ∧ w.isRef = true))
    (hk : k ≤ R.cells) (hn : n ≤ R.slots) (hQ : Q (some w) h) : Go l Z mn code maxL (some t) R n0 Q h k n pc Ls (w :: st) := by
  intro p e s m args below meth c T locs k' n' C X hk' hn' N eT
  obtain ⟨fs, hr, hrun, hended, hW, hsame⟩ := X.leave (v := some w) (fun hh => by rw [C.2.2.2.2.2.1] at hh; cases hh) C.2.2.2.2.2.2.1
  exact ⟨_, _, RoadKit.retOut X C.1 C.2.2.2.2.2.1 hna hi (hb C.2.2.1 hd) hr, hrun, hended, _, locs, rfl, ⟨N, by show Q _ T.heap; rw [eT]; exact hQ⟩, ⟨_, rfl⟩, hW, hsame.mono (by omega) (by omega)⟩
theorem Go.ireturn {z : Int32} (hd : decode code pc = .ok (.ireturn, 1)) (hk : k ≤ R.cells) (hn : n ≤ R.slots) (hQ : Q (some (.int z)) h) : Go l Z mn code maxL (some .int) R n0 Q h k n pc Ls (.int z :: st) :=
  Go.retOut hd rfl (Or.inl ⟨rfl, Or.inl rfl, z, rfl⟩) hk hn hQ
theorem Go.zreturn {z : Int32} (hd : decode code pc = .ok (.ireturn, 1)) (hk : k ≤ R.cells) (hn : n ≤ R.slots) (hz : z = 0 ∨ z = 1) (hQ : Q (some (.int z)) h) : Go l Z mn code maxL (some .boolean) R n0 Q h k n pc Ls (.int z :: st) :=
  Go.retOut hd (by rcases hz with rfl | rfl <;> rfl) (Or.inl ⟨rfl, Or.inr (Or.inl rfl), z, rfl⟩) hk hn hQ
theorem Go.creturn {z : Int32} (hd : decode code pc = .ok (.ireturn, 1)) (hk : k ≤ R.cells) (hn : n ≤ R.slots) (hz : narrow .char (.int z) = .int z) (hQ : Q (some (.int z)) h) : Go l Z mn code maxL (some .char) R n0 Q h k n pc Ls (.int z :: st) :=
  Go.retOut hd hz (Or.inl ⟨rfl, Or.inr (Or.inr (Or.inr (Or.inl rfl))), z, rfl⟩) hk hn hQ
theorem Go.lreturn {z : Int64} (hd : decode code pc = .ok (.lreturn, 1)) (hk : k ≤ R.cells) (hn : n ≤ R.slots) (hQ : Q (some (.long z)) h) : Go l Z mn code maxL (some .long) R n0 Q h k n pc Ls (.long z :: st) :=
  Go.retOut hd rfl (Or.inr (Or.inl ⟨rfl, rfl, z, rfl⟩)) hk hn hQ
theorem Go.areturn {w : Value} {t : FieldType} (hd : decode code pc = .ok (.areturn, 1)) (hk : k ≤ R.cells) (hn : n ≤ R.slots) (ht : t.isReference = true) (hw : w.isRef = true) (hQ : Q (some w) h) : Go l Z mn code maxL (some t) R n0 Q h k n pc Ls (w :: st) :=
  Go.retOut hd (by rcases ref_cases hw with rfl | ⟨a, rfl⟩ <;> cases t <;> first | exact absurd ht (by decide) | rfl) (Or.inr (Or.inr (Or.inr (Or.inr ⟨rfl, ht, hw⟩)))) hk hn hQ
theorem Go.vreturn (hd : decode code pc = .ok (.return_, 1)) (hk : k ≤ R.cells) (hn : n ≤ R.slots) (hQ : Q none h) : Go l Z mn code maxL none R n0 Q h k n pc Ls [] := by
  intro p e s m args below meth c T locs k' n' C X hk' hn' N eT
  obtain ⟨fs, hr, hrun, hended, hW, hsame⟩ := X.leave (v := none) (fun _ => rfl) C.2.2.2.2.2.2.1
  exact ⟨_, _, X.returnOut C.1 C.2.2.2.2.2.1 (hb C.2.2.1 hd) hr, hrun, hended, _, locs, rfl, ⟨N, by show Q _ T.heap; rw [eT]; exact hQ⟩, ⟨_, rfl⟩, hW, hsame.mono (by omega) (by omega)⟩
end Rets
/-- an array's whole content -/
def Ar (Z : State) (h : Heap) (a : Addr) (ty : FieldType) (cA : ClassId) (vs : List Value) : Prop := ∃ c : Cell, Arr Z h a c ty ∧ c.cls = cA ∧ c.slots.toList = vs
section Arrs
variable {Z : State} {h h' : Heap} {a b : Addr} {ty : FieldType} {cA : ClassId} {vs : List Value} {sl : Nat} {v : Value} {ws : List Addr}
theorem Ar.lt (F : Ar Z h a ty cA vs) : a < h.size := by obtain ⟨c, A, -⟩ := F; exact A.lt
theorem Ar.ext (F : Ar Z h a ty cA vs) (E : Ext h h') : Ar Z h' a ty cA vs := by obtain ⟨c, A, r⟩ := F; exact ⟨c, A.ext E, r⟩
theorem Ar.other (F : Ar Z h b ty cA vs) (W : Wr h h' a sl v) (q : b ≠ a) : Ar Z h' b ty cA vs := by obtain ⟨c, A, r⟩ := F; exact ⟨c, A.other W q, r⟩
theorem Ar.keep (F : Ar Z h a ty cA vs) (K : Keep h h' ws) (q : a ∉ ws) : Ar Z h' a ty cA vs := by obtain ⟨c, A, r⟩ := F; exact ⟨c, ⟨K.2.1 a c A.1 q, A.2⟩, r⟩
theorem Ar.set (F : Ar Z h a ty cA vs) (W : Wr h h' a sl v) : Ar Z h' a ty cA (vs.set sl v) := by
  obtain ⟨c, A, r1, r2⟩ := F
  exact ⟨_, A.same W, r1, by simp [Cell.setSlot, r2]⟩
theorem Ar.size (F : Ar Z h a ty cA vs) {c : Cell} (hc : h[a]? = some c) : c.slots.size = vs.length := by
  obtain ⟨c', A, -, r⟩ := F
  cases hc.symm.trans A.1
  rw [← r]; simp
theorem Ar.ne {C : String} {k : Nat} {a0 : Array Value} (F : Exa Z h b C) (wi : (Jvm.Cond.instantiable C k).before a0 Z = true) (G : Ar Z h a ty cA vs) : b ≠ a := by
  obtain ⟨c, A, -⟩ := G; exact ne_arr F wi A
end Arrs
section ArrSteps
variable {l : Launch} {Z : State} {mn : MethodName} {code : ByteArray} {maxL : Nat} {ret : Option FieldType} {R : Room} {n0 : Nat} {Q : Option Value → Heap → Prop} {h : Heap} {k n pc q : Nat} {Ls : Array Slot} {st : List Value} {a0 : Array Value} {a : Addr} {ty : FieldType} {cA : ClassId} {vs : List Value} {v : Value} {j x : Int32}
theorem inb {c : Cell} (hj : ¬ j < 0) (r : c.slots.toList = vs) (hv : j.toNatClampNeg < vs.length) : ¬ (j < 0 ∨ c.slots.size ≤ j.toNatClampNeg) := by
  rintro (q | q)
  · exact hj q
  · rw [← r] at hv; simp at hv; omega
theorem at_l {c : Cell} {i : Nat} (r : c.slots.toList = vs) (hv : vs[i]? = some v) : c.slots[i]? = some v := by rw [← r] at hv; simpa using hv
theorem Go.arraylength (hd : decode code pc = .ok (.arraylength, 1)) (hq : q = pc + 1) (A : Ar Z h a ty cA vs) {z : Int32} (hz : vs.length.toInt32 = z) (K : Go l Z mn code maxL ret R n0 Q h k n q Ls (.int z :: st)) : Go l Z mn code maxL ret R n0 Q h k n pc Ls (.ref a :: st) := by
  subst hq hz
  intro p e s m args below meth c T locs k' n' C X hk hn N eT
  obtain ⟨cl, A, r1, r2⟩ := A
  exact (K p e s m args below meth c T locs k' n' C X hk hn N eT).step fun t r => X.arraylength (g := mkF m pc Ls (.ref a :: st)) C.1 (by rw [eT]; exact A.1) (State.isArrayOf_alike C.2.1.alike A.2.1) rfl rfl (hb C.2.2.1 hd) t (by rw [show cl.slots.size = vs.length by rw [← r2]; simp]; exact r)
theorem Go.iaload (hd : decode code pc = .ok (.iaload, 1)) (hq : q = pc + 1) (A : Ar Z h a .int cA vs) (hj : ¬ j < 0) (hv : vs[j.toNatClampNeg]? = some v) (K : Go l Z mn code maxL ret R n0 Q h k n q Ls (v :: st)) : Go l Z mn code maxL ret R n0 Q h k n pc Ls (.int j :: .ref a :: st) := by
  subst hq
  intro p e s m args below meth c T locs k' n' C X hk hn N eT
  obtain ⟨cl, A, r1, r2⟩ := A
  exact (K p e s m args below meth c T locs k' n' C X hk hn N eT).step fun t r => X.iaload (g := mkF m pc Ls (.int j :: .ref a :: st)) C.1 (by rw [eT]; exact A.1) (State.isArrayOf_alike C.2.1.alike A.2.1) A.2.2 (inb hj r2 (List.getElem?_eq_some_iff.mp hv).1) (at_l r2 hv) rfl rfl (hb C.2.2.1 hd) t r
theorem Go.laload (hd : decode code pc = .ok (.laload, 1)) (hq : q = pc + 1) (A : Ar Z h a .long cA vs) (hj : ¬ j < 0) (hv : vs[j.toNatClampNeg]? = some v) (K : Go l Z mn code maxL ret R n0 Q h k n q Ls (v :: st)) : Go l Z mn code maxL ret R n0 Q h k n pc Ls (.int j :: .ref a :: st) := by
  subst hq
  intro p e s m args below meth c T locs k' n' C X hk hn N eT
  obtain ⟨cl, A, r1, r2⟩ := A
  exact (K p e s m args below meth c T locs k' n' C X hk hn N eT).step fun t r => X.laload (g := mkF m pc Ls (.int j :: .ref a :: st)) C.1 (by rw [eT]; exact A.1) (State.isArrayOf_alike C.2.1.alike A.2.1) A.2.2 (inb hj r2 (List.getElem?_eq_some_iff.mp hv).1) (at_l r2 hv) rfl rfl (hb C.2.2.1 hd) t r
theorem Go.caload (hd : decode code pc = .ok (.caload, 1)) (hq : q = pc + 1) (A : Ar Z h a .char cA vs) (hj : ¬ j < 0) (hv : vs[j.toNatClampNeg]? = some v) (K : Go l Z mn code maxL ret R n0 Q h k n q Ls (v :: st)) : Go l Z mn code maxL ret R n0 Q h k n pc Ls (.int j :: .ref a :: st) := by
  subst hq
  intro p e s m args below meth c T locs k' n' C X hk hn N eT
  obtain ⟨cl, A, r1, r2⟩ := A
  exact (K p e s m args below meth c T locs k' n' C X hk hn N eT).step fun t r => X.caload (g := mkF m pc Ls (.int j :: .ref a :: st)) C.1 (by rw [eT]; exact A.1) (State.isArrayOf_alike C.2.1.alike A.2.1) A.2.2 (inb hj r2 (List.getElem?_eq_some_iff.mp hv).1) (at_l r2 hv) rfl rfl (hb C.2.2.1 hd) t r
theorem Go.zaload (hd : decode code pc = .ok (.baload, 1)) (hq : q = pc + 1) (A : Ar Z h a .boolean cA vs) (hj : ¬ j < 0) (hv : vs[j.toNatClampNeg]? = some v) (K : Go l Z mn code maxL ret R n0 Q h k n q Ls (v :: st)) : Go l Z mn code maxL ret R n0 Q h k n pc Ls (.int j :: .ref a :: st) := by
  subst hq
  intro p e s m args below meth c T locs k' n' C X hk hn N eT
  obtain ⟨cl, A, r1, r2⟩ := A
  exact (K p e s m args below meth c T locs k' n' C X hk hn N eT).step fun t r => X.baloadBooleans (g := mkF m pc Ls (.int j :: .ref a :: st)) C.1 (by rw [eT]; exact A.1) (State.isArrayOf_alike C.2.1.alike A.2.1) A.2.2 (inb hj r2 (List.getElem?_eq_some_iff.mp hv).1) (at_l r2 hv) rfl rfl (hb C.2.2.1 hd) t r
theorem Go.baload (hd : decode code pc = .ok (.baload, 1)) (hq : q = pc + 1) (A : Ar Z h a .byte cA vs) (hj : ¬ j < 0) (hv : vs[j.toNatClampNeg]? = some v) (K : Go l Z mn code maxL ret R n0 Q h k n q Ls (v :: st)) : Go l Z mn code maxL ret R n0 Q h k n pc Ls (.int j :: .ref a :: st) := by
  subst hq
  intro p e s m args below meth c T locs k' n' C X hk hn N eT
  obtain ⟨cl, A, r1, r2⟩ := A
  exact (K p e s m args below meth c T locs k' n' C X hk hn N eT).step fun t r => X.baloadBytes (g := mkF m pc Ls (.int j :: .ref a :: st)) C.1 (by rw [eT]; exact A.1) (State.isArrayOf_alike C.2.1.alike A.2.1) A.2.2 (inb hj r2 (List.getElem?_eq_some_iff.mp hv).1) (at_l r2 hv) rfl rfl (hb C.2.2.1 hd) t r
theorem Go.aaload (hd : decode code pc = .ok (.aaload, 1)) (hq : q = pc + 1) (A : Ar Z h a ty cA vs) (ht : ty.isReference = true) (hj : ¬ j < 0) (hv : vs[j.toNatClampNeg]? = some v) (K : Go l Z mn code maxL ret R n0 Q h k n q Ls (v :: st)) : Go l Z mn code maxL ret R n0 Q h k n pc Ls (.int j :: .ref a :: st) := by
  subst hq
  intro p e s m args below meth c T locs k' n' C X hk hn N eT
  obtain ⟨cl, A, r1, r2⟩ := A
  exact (K p e s m args below meth c T locs k' n' C X hk hn N eT).step fun t r => X.aaload (g := mkF m pc Ls (.int j :: .ref a :: st)) C.1 (by rw [eT]; exact A.1) (State.isArrayOf_alike C.2.1.alike A.2.1) ht A.2.2 (inb hj r2 (List.getElem?_eq_some_iff.mp hv).1) (at_l r2 hv) rfl rfl (hb C.2.2.1 hd) t r
theorem Go.iastore (hd : decode code pc = .ok (.iastore, 1)) (hq : q = pc + 1) (A : Ar Z h a .int cA vs) (hj : ¬ j < 0) (hv : j.toNatClampNeg < vs.length) (ha : n0 ≤ a) (K : ∀ h', Wr h h' a j.toNatClampNeg (.int x) → Go l Z mn code maxL ret R n0 Q h' k n q Ls st) : Go l Z mn code maxL ret R n0 Q h k n pc Ls (.int x :: .int j :: .ref a :: st) := by
  subst hq
  intro p e s m args below meth c T locs k' n' C X hk hn N eT
  obtain ⟨cl, A, r1, r2⟩ := A
  obtain ⟨T', h', X', e', W, f⟩ := stI X C.1 C.2.1 eT A (inb hj r2 hv) (g := mkF m pc Ls (.int x :: .int j :: .ref a :: st)) rfl rfl (hb C.2.2.1 hd)
  exact (K h' W p e s m args below meth c T' _ k' n' C X' hk hn (Fr.snoc X' N ha) e').step f
theorem Go.lastore {x : Int64} (hd : decode code pc = .ok (.lastore, 1)) (hq : q = pc + 1) (A : Ar Z h a .long cA vs) (hj : ¬ j < 0) (hv : j.toNatClampNeg < vs.length) (ha : n0 ≤ a) (K : ∀ h', Wr h h' a j.toNatClampNeg (.long x) → Go l Z mn code maxL ret R n0 Q h' k n q Ls st) : Go l Z mn code maxL ret R n0 Q h k n pc Ls (.long x :: .int j :: .ref a :: st) := by
  subst hq
  intro p e s m args below meth c T locs k' n' C X hk hn N eT
  obtain ⟨cl, A, r1, r2⟩ := A
  obtain ⟨T', h', X', e', W, f⟩ := stJ X C.1 C.2.1 eT A (inb hj r2 hv) (g := mkF m pc Ls (.long x :: .int j :: .ref a :: st)) rfl rfl (hb C.2.2.1 hd)
  exact (K h' W p e s m args below meth c T' _ k' n' C X' hk hn (Fr.snoc X' N ha) e').step f
theorem Go.castore (hd : decode code pc = .ok (.castore, 1)) (hq : q = pc + 1) (A : Ar Z h a .char cA vs) (hj : ¬ j < 0) (hv : j.toNatClampNeg < vs.length) (ha : n0 ≤ a) (K : ∀ h', Wr h h' a j.toNatClampNeg (.int (nar .char x)) → Go l Z mn code maxL ret R n0 Q h' k n q Ls st) : Go l Z mn code maxL ret R n0 Q h k n pc Ls (.int x :: .int j :: .ref a :: st) := by
  subst hq
  intro p e s m args below meth c T locs k' n' C X hk hn N eT
  obtain ⟨cl, A, r1, r2⟩ := A
  obtain ⟨T', h', X', e', W, f⟩ := stC X C.1 C.2.1 eT A (inb hj r2 hv) (g := mkF m pc Ls (.int x :: .int j :: .ref a :: st)) rfl rfl (hb C.2.2.1 hd)
  exact (K h' W p e s m args below meth c T' _ k' n' C X' hk hn (Fr.snoc X' N ha) e').step f
theorem Go.zastore (hd : decode code pc = .ok (.bastore, 1)) (hq : q = pc + 1) (A : Ar Z h a .boolean cA vs) (hj : ¬ j < 0) (hv : j.toNatClampNeg < vs.length) (ha : n0 ≤ a) (K : ∀ h', Wr h h' a j.toNatClampNeg (.int (nar .boolean x)) → Go l Z mn code maxL ret R n0 Q h' k n q Ls st) : Go l Z mn code maxL ret R n0 Q h k n pc Ls (.int x :: .int j :: .ref a :: st) := by
  subst hq
  intro p e s m args below meth c T locs k' n' C X hk hn N eT
  obtain ⟨cl, A, r1, r2⟩ := A
  obtain ⟨T', h', X', e', W, f⟩ := stZ X C.1 C.2.1 eT A (inb hj r2 hv) (g := mkF m pc Ls (.int x :: .int j :: .ref a :: st)) rfl rfl (hb C.2.2.1 hd)
  exact (K h' W p e s m args below meth c T' _ k' n' C X' hk hn (Fr.snoc X' N ha) e').step f
theorem Go.aastore (hd : decode code pc = .ok (.aastore, 1)) (hq : q = pc + 1) (A : Ar Z h a ty cA vs) (ht : ty.isReference = true) (hj : ¬ j < 0) (hv : j.toNatClampNeg < vs.length) (S : Sto Z h a v) (ha : n0 ≤ a) (K : ∀ h', Wr h h' a j.toNatClampNeg v → Go l Z mn code maxL ret R n0 Q h' k n q Ls st) : Go l Z mn code maxL ret R n0 Q h k n pc Ls (v :: .int j :: .ref a :: st) := by
  subst hq
  intro p e s m args below meth c T locs k' n' C X hk hn N eT
  obtain ⟨cl, A, r1, r2⟩ := A
  obtain ⟨T', h', X', e', W, f⟩ := stR X C.1 C.2.1 eT A (inb hj r2 hv) ht S (g := mkF m pc Ls (v :: .int j :: .ref a :: st)) rfl rfl (hb C.2.2.1 hd)
  exact (K h' W p e s m args below meth c T' _ k' n' C X' hk hn (Fr.snoc X' N ha) e').step f
theorem Go.newarray {aty : ArrayType} {z : Int32} {cap : Nat} (hd : decode code pc = .ok (.newarray aty, 2)) (hq : q = pc + 2) (w : (Jvm.Cond.arrayClass (newarray.typeOf aty)).before a0 Z = true) (hz : ¬ z < 0) (hcap : z.toNatClampNeg ≤ cap) (hb8 : cap * 8 ≤ 536870912) (hc : k + 1 ≤ R.cells) (hs : n + cap ≤ R.slots)
    (K : ∀ h' a cA, a = h.size → Ext h h' → Ar Z h' a (newarray.typeOf aty) cA (List.replicate z.toNatClampNeg (defaultValue (newarray.typeOf aty))) → Go l Z mn code maxL ret R n0 Q h' (k + 1) (n + cap) q Ls (.ref a :: st)) : Go l Z mn code maxL ret R n0 Q h k n pc Ls (.int z :: st) := by
  subst hq
  intro p e s m args below meth c T locs k' n' C X hk hn N eT
  obtain ⟨T', h', cA, X', e', E, A, f⟩ := newP X C.1 C.2.1 w eT (g := mkF m pc Ls (.int z :: st)) rfl (hb C.2.2.1 hd) rfl hz hcap hb8 (by omega) (by omega)
  exact (K h' h.size cA rfl E ⟨_, A, rfl, by simp [newA]⟩ p e s m args below meth c T' locs _ _ C X' (by omega) (by omega) N e').step f
theorem Go.anewarray {C : String} {i : Nat} {z : Int32} {cap : Nat} (hd : decode code pc = .ok (.anewarray i, 3)) (hq : q = pc + 3) (w1 : (Jvm.Cond.classLink mn.cls i C).before a0 Z = true) (w2 : (Jvm.Cond.arrayOver (.object C)).before a0 Z = true) (hz : ¬ z < 0) (hcap : z.toNatClampNeg ≤ cap) (hb8 : cap * 8 ≤ 536870912) (hc : k + 1 ≤ R.cells) (hs : n + cap ≤ R.slots)
    (K : ∀ h' a cA, a = h.size → Ext h h' → Ar Z h' a (.object C) cA (List.replicate z.toNatClampNeg .null) → Ovr Z cA C → Go l Z mn code maxL ret R n0 Q h' (k + 1) (n + cap) q Ls (.ref a :: st)) : Go l Z mn code maxL ret R n0 Q h k n pc Ls (.int z :: st) := by
  subst hq
  intro p e s m args below meth c T locs k' n' Cc X hk hn N eT
  obtain ⟨T', h', cA, X', e', E, A, O, f⟩ := newR X Cc.1 Cc.2.1 Cc.2.2.2.2.1 w1 w2 eT (g := mkF m pc Ls (.int z :: st)) rfl (hb Cc.2.2.1 hd) rfl hz hcap hb8 (by omega) (by omega)
  exact (K h' h.size cA rfl E ⟨_, A, rfl, by simp [newA, defaultValue]⟩ O p e s m args below meth c T' locs _ _ Cc X' (by omega) (by omega) N e').step f
theorem sto_of {C : String} {b : Addr} (A : Ar Z h a ty cA vs) (O : Ovr Z cA C) (I : Ins Z h b C true) : Sto Z h a (.ref b) := by
  obtain ⟨c, A, q, -⟩ := A
  exact Sto.ofV A q O I
end ArrSteps
end Jvm.OwnKit
namespace Jvm.OwnKit
open Jvm Jvm.ClassFile Sem Op Lib Jvm.Free Jvm.Stand Jvm.LawKit Jvm.RoadKit
section Case
variable {args : Array Value} {s : State} {idx : List Nat} {t u : Term} {a b : Addr} {ty : FieldType} {cA : ClassId} {vs : List Value} {O nm d C K : String}
theorem eq_int {v : Int32} (h : (Jvm.Cond.eq t (.int v)).value args s none s idx = some true) : t.eval args s none idx s = some (.int v) := by
  cases ha : t.eval args s none idx s with
  | none => simp [Jvm.Cond.value, ha] at h
  | some x => cases x <;> simp [Jvm.Cond.value, Term.eval, ha] at h ⊢ <;> exact h
theorem eq_long {v : Int64} (h : (Jvm.Cond.eq t (.long v)).value args s none s idx = some true) : t.eval args s none idx s = some (.long v) := by
  cases ha : t.eval args s none idx s with
  | none => simp [Jvm.Cond.value, ha] at h
  | some x => cases x <;> simp [Jvm.Cond.value, Term.eval, ha] at h ⊢ <;> exact h
theorem eq_ref (h : (Jvm.Cond.eq t u).value args s none s idx = some true) (hu : u.eval args s none idx s = some (.ref b)) : t.eval args s none idx s = some (.ref b) := by
  cases ha : t.eval args s none idx s with
  | none => simp [Jvm.Cond.value, ha] at h
  | some x => cases x <;> simp [Jvm.Cond.value, ha, hu] at h ⊢ <;> exact h
theorem sta_ref (h : (Jvm.Cond.exactly (.static C nm d) K).value args s none s [] = some true) (h1 : (Jvm.Cond.initialized C).before args s = true) (h2 : (Jvm.Cond.laysStatic C nm d).before args s = true) : ∃ a, (Term.static C nm d).eval args s none [] s = some (.ref a) ∧ Sta s s.heap C nm d (.ref a) ∧ Exa s s.heap a K := by
  obtain ⟨a, ea⟩ := exa_v h
  exact ⟨a, ea, Sta.start ea (Or.inr ⟨h1, h2⟩), Exa.start ea h⟩
theorem sta_arr (h : (Jvm.Cond.arrayOf (.static C nm d) ty).value args s none s [] = some true) (h1 : (Jvm.Cond.initialized C).before args s = true) (h2 : (Jvm.Cond.laysStatic C nm d).before args s = true) : ∃ a cA vs, (Term.static C nm d).eval args s none [] s = some (.ref a) ∧ Sta s s.heap C nm d (.ref a) ∧ Ar s s.heap a ty cA vs := by
  obtain ⟨a, ea⟩ := arr_v h
  obtain ⟨c, A⟩ := Arr.start ea h
  exact ⟨a, c.cls, c.slots.toList, ea, Sta.start ea (Or.inr ⟨h1, h2⟩), c, A, rfl, rfl⟩
theorem fld_int {v : Int32} (ev : t.eval args s none [] s = some (.ref a)) (h : (Jvm.Cond.eq (.field t O nm d) (.int v)).value args s none s [] = some true) : Fld s s.heap a O nm d (.int v) := Fld.start ((fld_at ev).symm.trans (eq_int h))
theorem fld_long {v : Int64} (ev : t.eval args s none [] s = some (.ref a)) (h : (Jvm.Cond.eq (.field t O nm d) (.long v)).value args s none s [] = some true) : Fld s s.heap a O nm d (.long v) := Fld.start ((fld_at ev).symm.trans (eq_long h))
theorem nat_small {m : Nat} (h : m < 2 ^ 31) : m.toInt32.toNatClampNeg = m := by
  show m.toInt32.toInt.toNat = m
  rw [len_toInt h]; rfl
theorem Ar.at_start (A : Ar s s.heap a ty cA vs) : ∃ c : Cell, s.arrayAt? a = some c ∧ c.slots.toList = vs ∧ c.slots.size = vs.length := by
  obtain ⟨c, A, -, r⟩ := A
  exact ⟨c, A.fin (Vm.Alike.refl _), r, by rw [← r]; simp⟩
theorem arr_len {z : Int32} (ev : t.eval args s none [] s = some (.ref a)) (A : Ar s s.heap a ty cA vs) (h : (Jvm.Cond.eq (.length t) (.int z)).value args s none s [] = some true) : vs.length = z.toNatClampNeg := by
  obtain ⟨c, hc, -, r⟩ := A.at_start
  have e := eq_int h
  simp only [Term.eval, ev, hc, Option.bind_eq_bind, Option.bind_some] at e
  split at e
  · rename_i q
    have e2 : c.slots.size.toInt32 = z := by simpa using e
    rw [← e2, nat_small q, r]
  · simp at e
theorem arr_elem {j : Int32} {v : Int32} (ev : t.eval args s none [] s = some (.ref a)) (A : Ar s s.heap a ty cA vs) (h : (Jvm.Cond.eq (.elem t (.int j)) (.int v)).value args s none s [] = some true) : vs[j.toNatClampNeg]? = some (.int v) := by
  obtain ⟨c, hc, r, -⟩ := A.at_start
  have e := eq_int h
  simp only [Term.eval, ev, hc, Option.bind_eq_bind, Option.bind_some] at e
  split at e
  · simp at e
  · rw [← r]; simpa using e
theorem arr_elemR {j : Int32} {u : Term} {b : Addr} (ev : t.eval args s none [] s = some (.ref a)) (A : Ar s s.heap a ty cA vs) (h : (Jvm.Cond.eq (.elem t (.int j)) u).value args s none s [] = some true) (hu : u.eval args s none [] s = some (.ref b)) : vs[j.toNatClampNeg]? = some (.ref b) := by
  obtain ⟨c, hc, r, -⟩ := A.at_start
  have e := eq_ref h hu
  simp only [Term.eval, ev, hc, Option.bind_eq_bind, Option.bind_some] at e
  split at e
  · simp at e
  · rw [← r]; simpa using e
theorem fold_no {f : Nat → Option Bool} {x : Option Bool} (hx : x ≠ some true) : ∀ L : List Nat, L.foldl (fun acc i => match acc with | some true => f i | x => x) x = x
  | [] => rfl
  | i :: L => by
    rw [List.foldl_cons]
    rcases x with _ | _ | _
    · exact fold_no hx L
    · exact fold_no hx L
    · exact absurd rfl hx
theorem fold_all {f : Nat → Option Bool} : ∀ L : List Nat, L.foldl (fun acc i => match acc with | some true => f i | x => x) (some true) = some true → ∀ i ∈ L, f i = some true
  | [], _, i, hi => nomatch hi
  | j :: L, h, i, hi => by
    rw [List.foldl_cons] at h
    by_cases hj : f j = some true
    · have h' : L.foldl (fun acc i => match acc with | some true => f i | x => x) (f j) = some true := h
      rw [hj] at h'
      rcases List.mem_cons.mp hi with rfl | hi
      · exact hj
      · exact fold_all L h' i hi
    · have h' : L.foldl (fun acc i => match acc with | some true => f i | x => x) (f j) = some true := h
      rw [fold_no hj L] at h'
      exact absurd h' hj
theorem arr_all {c : Jvm.Cond} (ev : t.eval args s none [] s = some (.ref a)) (A : Ar s s.heap a ty cA vs) (h : (Jvm.Cond.all t c).value args s none s [] = some true) : ∀ i, i < vs.length → c.value args s none s [i] = some true := by
  obtain ⟨cl, hc, -, r⟩ := A.at_start
  intro i hi
  simp only [Jvm.Cond.value, ev, hc] at h
  exact fold_all _ h i (List.mem_range.mpr (by omega))
theorem all_elem {i : Nat} {v : Int32} (ev : t.eval args s none [i] s = some (.ref a)) (A : Ar s s.heap a ty cA vs) (hi : i < 2 ^ 31) (h : (Jvm.Cond.eq (.elem t (.index 0)) (.int v)).value args s none s [i] = some true) : vs[i]? = some (.int v) := by
  obtain ⟨c, hc, r, -⟩ := A.at_start
  have e := eq_int h
  simp only [Term.eval, ev, hc, Option.bind_eq_bind, Option.bind_some, List.getElem?_cons_zero, Option.map_some] at e
  split at e
  · simp at e
  · rw [← r]; rw [nat_small hi] at e; simpa using e
theorem all_le {i : Nat} {v : Int32} {c : Jvm.Cond} (hi : i < 2 ^ 31) (h : (Jvm.Cond.or (.le (.int v) (.index 0)) c).value args s none s [i] = some true) : v.toInt ≤ i ∨ c.value args s none s [i] = some true := by
  simp only [Jvm.Cond.value, Term.eval, List.getElem?_cons_zero, Option.map_some] at h
  by_cases q : v ≤ i.toInt32
  · left; rw [Int32.le_iff_toInt_le, len_toInt hi] at q; exact q
  · right; simpa [q] using h
theorem all_lt {i : Nat} {v : Int32} {c : Jvm.Cond} (hi : i < 2 ^ 31) (h : (Jvm.Cond.or (.lt (.index 0) (.int v)) c).value args s none s [i] = some true) : (i : Int) < v.toInt ∨ c.value args s none s [i] = some true := by
  simp only [Jvm.Cond.value, Term.eval, List.getElem?_cons_zero, Option.map_some] at h
  by_cases q : i.toInt32 < v
  · left; rw [Int32.lt_iff_toInt_lt, len_toInt hi] at q; exact q
  · right; simpa [q] using h
theorem sta_idx {C nm d : String} {idx : List Nat} {v : Value} (ev : (Term.static C nm d).eval args s none [] s = some v) : (Term.static C nm d).eval args s none idx s = some v := ev
end Case
end Jvm.OwnKit
namespace Jvm.Pilot.@@N@@
open Jvm Jvm.ClassFile Sem Op Lib Jvm.Free Jvm.Stand Jvm.LawKit Jvm.RoadKit Bundle Jvm.OwnKit Jvm.Pilot.@@N@@.Jvm.D
def Hw (a0 : Array Value) (Z : State) : Prop := ∀ d ∈ tables_1, d.before a0 Z = true
theorem w0 {a0 : Array Value} {Z : State} (hw : Hw a0 Z) : ((Jvm.Cond.constant "com/example/exact_locks/exactlocks/KindHoldsPinLaw" (7 : Nat) (2147483647 : Int32)) : Jvm.Cond).before a0 Z = true := hw _ (List.mem_of_getElem? (i := 0) rfl)
theorem w1 {a0 : Array Value} {Z : State} (hw : Hw a0 Z) : ((Jvm.Cond.fieldLink "com/example/exact_locks/exactlocks/KindHoldsPinLaw" (26 : Nat) "com/example/exact_locks/exactlocks/ColumnType$Kind" "TINYINT" "Lcom/example/exact_locks/exactlocks/ColumnType$Kind;") : Jvm.Cond).before a0 Z = true := hw _ (List.mem_of_getElem? (i := 1) rfl)
theorem w2 {a0 : Array Value} {Z : State} (hw : Hw a0 Z) : ((Jvm.Cond.initialized "com/example/exact_locks/exactlocks/ColumnType$Kind") : Jvm.Cond).before a0 Z = true := hw _ (List.mem_of_getElem? (i := 2) rfl)
theorem w3 {a0 : Array Value} {Z : State} (hw : Hw a0 Z) : ((Jvm.Cond.laysStatic "com/example/exact_locks/exactlocks/ColumnType$Kind" "TINYINT" "Lcom/example/exact_locks/exactlocks/ColumnType$Kind;") : Jvm.Cond).before a0 Z = true := hw _ (List.mem_of_getElem? (i := 3) rfl)
theorem w4 {a0 : Array Value} {Z : State} (hw : Hw a0 Z) : ((Jvm.Cond.methodLink "com/example/exact_locks/exactlocks/KindHoldsPinLaw" (47 : Nat) ({ cls := "com/example/exact_locks/exactlocks/ColumnType$Kind", name := "holds", desc := "(J)Z" } : Jvm.MethodName)) : Jvm.Cond).before a0 Z = true := hw _ (List.mem_of_getElem? (i := 4) rfl)
theorem w5 {a0 : Array Value} {Z : State} (hw : Hw a0 Z) : ((Jvm.Cond.declares ({ cls := "com/example/exact_locks/exactlocks/ColumnType$Kind", name := "holds", desc := "(J)Z" } : Jvm.MethodName)) : Jvm.Cond).before a0 Z = true := hw _ (List.mem_of_getElem? (i := 5) rfl)
theorem w6 {a0 : Array Value} {Z : State} (hw : Hw a0 Z) : ((Jvm.Cond.instanceMethod ({ cls := "com/example/exact_locks/exactlocks/ColumnType$Kind", name := "holds", desc := "(J)Z" } : Jvm.MethodName)) : Jvm.Cond).before a0 Z = true := hw _ (List.mem_of_getElem? (i := 6) rfl)
theorem w7 {a0 : Array Value} {Z : State} (hw : Hw a0 Z) : ((Jvm.Cond.selects "com/example/exact_locks/exactlocks/ColumnType$Kind" ({ cls := "com/example/exact_locks/exactlocks/ColumnType$Kind", name := "holds", desc := "(J)Z" } : Jvm.MethodName) ({ cls := "com/example/exact_locks/exactlocks/ColumnType$Kind", name := "holds", desc := "(J)Z" } : Jvm.MethodName)) : Jvm.Cond).before a0 Z = true := hw _ (List.mem_of_getElem? (i := 7) rfl)
theorem w8 {a0 : Array Value} {Z : State} (hw : Hw a0 Z) : ((Jvm.Cond.code ({ cls := "com/example/exact_locks/exactlocks/ColumnType$Kind", name := "holds", desc := "(J)Z" } : Jvm.MethodName) prog_10_method_5_code (3 : Nat) (Option.some Jvm.ClassFile.FieldType.boolean)) : Jvm.Cond).before a0 Z = true := hw _ (List.mem_of_getElem? (i := 8) rfl)
theorem w9 {a0 : Array Value} {Z : State} (hw : Hw a0 Z) : ((Jvm.Cond.fieldLink "com/example/exact_locks/exactlocks/ColumnType$Kind" (41 : Nat) "com/example/exact_locks/exactlocks/ColumnType$Kind" "min" "J") : Jvm.Cond).before a0 Z = true := hw _ (List.mem_of_getElem? (i := 9) rfl)
theorem w11 {a0 : Array Value} {Z : State} (hw : Hw a0 Z) : ((Jvm.Cond.fieldLink "com/example/exact_locks/exactlocks/ColumnType$Kind" (45 : Nat) "com/example/exact_locks/exactlocks/ColumnType$Kind" "max" "J") : Jvm.Cond).before a0 Z = true := hw _ (List.mem_of_getElem? (i := 11) rfl)
theorem w13 {a0 : Array Value} {Z : State} (hw : Hw a0 Z) : ((Jvm.Cond.methodLink "com/example/exact_locks/exactlocks/KindHoldsPinLaw" (51 : Nat) ({ cls := "com/example/exact_locks/exactlocks/KindHoldsPinLaw", name := "ref", desc := "(IJ)Z" } : Jvm.MethodName)) : Jvm.Cond).before a0 Z = true := hw _ (List.mem_of_getElem? (i := 13) rfl)
theorem w14 {a0 : Array Value} {Z : State} (hw : Hw a0 Z) : ((Jvm.Cond.static ({ cls := "com/example/exact_locks/exactlocks/KindHoldsPinLaw", name := "ref", desc := "(IJ)Z" } : Jvm.MethodName)) : Jvm.Cond).before a0 Z = true := hw _ (List.mem_of_getElem? (i := 14) rfl)
theorem w15 {a0 : Array Value} {Z : State} (hw : Hw a0 Z) : ((Jvm.Cond.initialized "com/example/exact_locks/exactlocks/KindHoldsPinLaw") : Jvm.Cond).before a0 Z = true := hw _ (List.mem_of_getElem? (i := 15) rfl)
theorem w16 {a0 : Array Value} {Z : State} (hw : Hw a0 Z) : ((Jvm.Cond.code ({ cls := "com/example/exact_locks/exactlocks/KindHoldsPinLaw", name := "ref", desc := "(IJ)Z" } : Jvm.MethodName) method_3_code (3 : Nat) (Option.some Jvm.ClassFile.FieldType.boolean)) : Jvm.Cond).before a0 Z = true := hw _ (List.mem_of_getElem? (i := 16) rfl)
theorem w17 {a0 : Array Value} {Z : State} (hw : Hw a0 Z) : ((Jvm.Cond.fieldLink "com/example/exact_locks/exactlocks/KindHoldsPinLaw" (32 : Nat) "com/example/exact_locks/exactlocks/ColumnType$Kind" "SMALLINT" "Lcom/example/exact_locks/exactlocks/ColumnType$Kind;") : Jvm.Cond).before a0 Z = true := hw _ (List.mem_of_getElem? (i := 17) rfl)
theorem w18 {a0 : Array Value} {Z : State} (hw : Hw a0 Z) : ((Jvm.Cond.laysStatic "com/example/exact_locks/exactlocks/ColumnType$Kind" "SMALLINT" "Lcom/example/exact_locks/exactlocks/ColumnType$Kind;") : Jvm.Cond).before a0 Z = true := hw _ (List.mem_of_getElem? (i := 18) rfl)
theorem w19 {a0 : Array Value} {Z : State} (hw : Hw a0 Z) : ((Jvm.Cond.fieldLink "com/example/exact_locks/exactlocks/KindHoldsPinLaw" (41 : Nat) "com/example/exact_locks/exactlocks/ColumnType$Kind" "CHAR" "Lcom/example/exact_locks/exactlocks/ColumnType$Kind;") : Jvm.Cond).before a0 Z = true := hw _ (List.mem_of_getElem? (i := 19) rfl)
theorem w20 {a0 : Array Value} {Z : State} (hw : Hw a0 Z) : ((Jvm.Cond.laysStatic "com/example/exact_locks/exactlocks/ColumnType$Kind" "CHAR" "Lcom/example/exact_locks/exactlocks/ColumnType$Kind;") : Jvm.Cond).before a0 Z = true := hw _ (List.mem_of_getElem? (i := 20) rfl)
theorem w21 {a0 : Array Value} {Z : State} (hw : Hw a0 Z) : ((Jvm.Cond.constantLong "com/example/exact_locks/exactlocks/KindHoldsPinLaw" (57 : Nat) (255 : Int64)) : Jvm.Cond).before a0 Z = true := hw _ (List.mem_of_getElem? (i := 21) rfl)
theorem w22 {a0 : Array Value} {Z : State} (hw : Hw a0 Z) : ((Jvm.Cond.fieldLink "com/example/exact_locks/exactlocks/KindHoldsPinLaw" (38 : Nat) "com/example/exact_locks/exactlocks/ColumnType$Kind" "BIGINT" "Lcom/example/exact_locks/exactlocks/ColumnType$Kind;") : Jvm.Cond).before a0 Z = true := hw _ (List.mem_of_getElem? (i := 22) rfl)
theorem w23 {a0 : Array Value} {Z : State} (hw : Hw a0 Z) : ((Jvm.Cond.laysStatic "com/example/exact_locks/exactlocks/ColumnType$Kind" "BIGINT" "Lcom/example/exact_locks/exactlocks/ColumnType$Kind;") : Jvm.Cond).before a0 Z = true := hw _ (List.mem_of_getElem? (i := 23) rfl)
theorem w24 {a0 : Array Value} {Z : State} (hw : Hw a0 Z) : ((Jvm.Cond.fieldLink "com/example/exact_locks/exactlocks/KindHoldsPinLaw" (35 : Nat) "com/example/exact_locks/exactlocks/ColumnType$Kind" "INT" "Lcom/example/exact_locks/exactlocks/ColumnType$Kind;") : Jvm.Cond).before a0 Z = true := hw _ (List.mem_of_getElem? (i := 24) rfl)
theorem w25 {a0 : Array Value} {Z : State} (hw : Hw a0 Z) : ((Jvm.Cond.laysStatic "com/example/exact_locks/exactlocks/ColumnType$Kind" "INT" "Lcom/example/exact_locks/exactlocks/ColumnType$Kind;") : Jvm.Cond).before a0 Z = true := hw _ (List.mem_of_getElem? (i := 25) rfl)
theorem w26 {a0 : Array Value} {Z : State} (hw : Hw a0 Z) : ((Jvm.Cond.constantLong "com/example/exact_locks/exactlocks/KindHoldsPinLaw" (24 : Nat) (-2147483648 : Int64)) : Jvm.Cond).before a0 Z = true := hw _ (List.mem_of_getElem? (i := 26) rfl)
theorem w27 {a0 : Array Value} {Z : State} (hw : Hw a0 Z) : ((Jvm.Cond.constantLong "com/example/exact_locks/exactlocks/KindHoldsPinLaw" (20 : Nat) (7 : Int64)) : Jvm.Cond).before a0 Z = true := hw _ (List.mem_of_getElem? (i := 27) rfl)
theorem w28 {a0 : Array Value} {Z : State} (hw : Hw a0 Z) : ((Jvm.Cond.constantLong "com/example/exact_locks/exactlocks/KindHoldsPinLaw" (22 : Nat) (3 : Int64)) : Jvm.Cond).before a0 Z = true := hw _ (List.mem_of_getElem? (i := 28) rfl)
theorem w29 {a0 : Array Value} {Z : State} (hw : Hw a0 Z) : ((Jvm.Cond.constantLong "com/example/exact_locks/exactlocks/KindHoldsPinLaw" (12 : Nat) (262143 : Int64)) : Jvm.Cond).before a0 Z = true := hw _ (List.mem_of_getElem? (i := 29) rfl)
theorem w30 {a0 : Array Value} {Z : State} (hw : Hw a0 Z) : ((Jvm.Cond.constantLong "com/example/exact_locks/exactlocks/KindHoldsPinLaw" (14 : Nat) (131072 : Int64)) : Jvm.Cond).before a0 Z = true := hw _ (List.mem_of_getElem? (i := 30) rfl)
theorem w31 {a0 : Array Value} {Z : State} (hw : Hw a0 Z) : ((Jvm.Cond.fieldLink "com/example/exact_locks/exactlocks/KindHoldsPinLaw" (44 : Nat) "com/example/exact_locks/exactlocks/ColumnType$Kind" "VARCHAR" "Lcom/example/exact_locks/exactlocks/ColumnType$Kind;") : Jvm.Cond).before a0 Z = true := hw _ (List.mem_of_getElem? (i := 31) rfl)
theorem w32 {a0 : Array Value} {Z : State} (hw : Hw a0 Z) : ((Jvm.Cond.laysStatic "com/example/exact_locks/exactlocks/ColumnType$Kind" "VARCHAR" "Lcom/example/exact_locks/exactlocks/ColumnType$Kind;") : Jvm.Cond).before a0 Z = true := hw _ (List.mem_of_getElem? (i := 32) rfl)
theorem w33 {a0 : Array Value} {Z : State} (hw : Hw a0 Z) : ((Jvm.Cond.constantLong "com/example/exact_locks/exactlocks/KindHoldsPinLaw" (59 : Nat) (65535 : Int64)) : Jvm.Cond).before a0 Z = true := hw _ (List.mem_of_getElem? (i := 33) rfl)
theorem w34 {a0 : Array Value} {Z : State} (hw : Hw a0 Z) : ((Jvm.Cond.constantLong "com/example/exact_locks/exactlocks/KindHoldsPinLaw" (8 : Nat) (1023 : Int64)) : Jvm.Cond).before a0 Z = true := hw _ (List.mem_of_getElem? (i := 34) rfl)
theorem w35 {a0 : Array Value} {Z : State} (hw : Hw a0 Z) : ((Jvm.Cond.constantLong "com/example/exact_locks/exactlocks/KindHoldsPinLaw" (10 : Nat) (512 : Int64)) : Jvm.Cond).before a0 Z = true := hw _ (List.mem_of_getElem? (i := 35) rfl)
theorem w36 {a0 : Array Value} {Z : State} (hw : Hw a0 Z) : ((Jvm.Cond.constantLong "com/example/exact_locks/exactlocks/KindHoldsPinLaw" (18 : Nat) (2147483647 : Int64)) : Jvm.Cond).before a0 Z = true := hw _ (List.mem_of_getElem? (i := 36) rfl)
theorem pn0 : plainName "com/example/exact_locks/exactlocks/KindHoldsPinLaw" = true := by first | (simp [plainName, overriddenIn]; done) | decide +kernel
theorem pd0 : parseMethodDescriptor "(IJI)Z" = some ⟨[.int, .long, .int], some .boolean⟩ := by decide +kernel
theorem d1_0 : decode prog_10_method_5_code 0 = .ok (.lload_n 1, 1) := by decide +kernel
theorem d1_1 : decode prog_10_method_5_code 1 = .ok (.aload_n 0, 1) := by decide +kernel
theorem d1_2 : decode prog_10_method_5_code 2 = .ok (.getfield 41, 3) := by decide +kernel
theorem d1_5 : decode prog_10_method_5_code 5 = .ok (.lcmp, 1) := by decide +kernel
theorem d1_6 : decode prog_10_method_5_code 6 = .ok (.ifCond .lt 16, 3) := by decide +kernel
theorem d1_9 : decode prog_10_method_5_code 9 = .ok (.lload_n 1, 1) := by decide +kernel
theorem d1_10 : decode prog_10_method_5_code 10 = .ok (.aload_n 0, 1) := by decide +kernel
theorem d1_11 : decode prog_10_method_5_code 11 = .ok (.getfield 45, 3) := by decide +kernel
theorem d1_14 : decode prog_10_method_5_code 14 = .ok (.lcmp, 1) := by decide +kernel
theorem d1_15 : decode prog_10_method_5_code 15 = .ok (.ifCond .gt 7, 3) := by decide +kernel
theorem d1_18 : decode prog_10_method_5_code 18 = .ok (.iconst 1, 1) := by decide +kernel
theorem d1_19 : decode prog_10_method_5_code 19 = .ok (.goto 4, 3) := by decide +kernel
theorem d1_22 : decode prog_10_method_5_code 22 = .ok (.iconst 0, 1) := by decide +kernel
theorem d1_23 : decode prog_10_method_5_code 23 = .ok (.ireturn, 1) := by decide +kernel
theorem pn1 : plainName "com/example/exact_locks/exactlocks/ColumnType$Kind" = true := by first | (simp [plainName, overriddenIn]; done) | decide +kernel
theorem pd1 : parseMethodDescriptor "(J)Z" = some ⟨[.long], (some .boolean)⟩ := by decide +kernel
theorem d2_0 : decode method_3_code 0 = .ok (.iload_n 0, 1) := by decide +kernel
theorem d2_1 : decode method_3_code 1 = .ok (.ifCond .ne 18, 3) := by decide +kernel
theorem d2_4 : decode method_3_code 4 = .ok (.lload_n 1, 1) := by decide +kernel
theorem d2_5 : decode method_3_code 5 = .ok (.lload_n 1, 1) := by decide +kernel
theorem d2_6 : decode method_3_code 6 = .ok (.l2i, 1) := by decide +kernel
theorem d2_7 : decode method_3_code 7 = .ok (.i2b, 1) := by decide +kernel
theorem d2_8 : decode method_3_code 8 = .ok (.i2l, 1) := by decide +kernel
theorem d2_9 : decode method_3_code 9 = .ok (.lcmp, 1) := by decide +kernel
theorem d2_10 : decode method_3_code 10 = .ok (.ifCond .ne 7, 3) := by decide +kernel
theorem d2_13 : decode method_3_code 13 = .ok (.iconst 1, 1) := by decide +kernel
theorem d2_14 : decode method_3_code 14 = .ok (.goto 4, 3) := by decide +kernel
theorem d2_17 : decode method_3_code 17 = .ok (.iconst 0, 1) := by decide +kernel
theorem d2_18 : decode method_3_code 18 = .ok (.ireturn, 1) := by decide +kernel
theorem d2_19 : decode method_3_code 19 = .ok (.iload_n 0, 1) := by decide +kernel
theorem d2_20 : decode method_3_code 20 = .ok (.iconst 1, 1) := by decide +kernel
theorem d2_21 : decode method_3_code 21 = .ok (.if_icmp .ne 18, 3) := by decide +kernel
theorem d2_24 : decode method_3_code 24 = .ok (.lload_n 1, 1) := by decide +kernel
theorem d2_25 : decode method_3_code 25 = .ok (.lload_n 1, 1) := by decide +kernel
theorem d2_26 : decode method_3_code 26 = .ok (.l2i, 1) := by decide +kernel
theorem d2_27 : decode method_3_code 27 = .ok (.i2s, 1) := by decide +kernel
theorem d2_28 : decode method_3_code 28 = .ok (.i2l, 1) := by decide +kernel
theorem d2_29 : decode method_3_code 29 = .ok (.lcmp, 1) := by decide +kernel
theorem d2_30 : decode method_3_code 30 = .ok (.ifCond .ne 7, 3) := by decide +kernel
theorem d2_33 : decode method_3_code 33 = .ok (.iconst 1, 1) := by decide +kernel
theorem d2_34 : decode method_3_code 34 = .ok (.goto 4, 3) := by decide +kernel
theorem d2_37 : decode method_3_code 37 = .ok (.iconst 0, 1) := by decide +kernel
theorem d2_38 : decode method_3_code 38 = .ok (.ireturn, 1) := by decide +kernel
theorem d2_39 : decode method_3_code 39 = .ok (.iload_n 0, 1) := by decide +kernel
theorem d2_40 : decode method_3_code 40 = .ok (.iconst 2, 1) := by decide +kernel
theorem d2_41 : decode method_3_code 41 = .ok (.if_icmp .ne 17, 3) := by decide +kernel
theorem d2_44 : decode method_3_code 44 = .ok (.lload_n 1, 1) := by decide +kernel
theorem d2_45 : decode method_3_code 45 = .ok (.lload_n 1, 1) := by decide +kernel
theorem d2_46 : decode method_3_code 46 = .ok (.l2i, 1) := by decide +kernel
theorem d2_47 : decode method_3_code 47 = .ok (.i2l, 1) := by decide +kernel
theorem d2_48 : decode method_3_code 48 = .ok (.lcmp, 1) := by decide +kernel
theorem d2_49 : decode method_3_code 49 = .ok (.ifCond .ne 7, 3) := by decide +kernel
theorem d2_52 : decode method_3_code 52 = .ok (.iconst 1, 1) := by decide +kernel
theorem d2_53 : decode method_3_code 53 = .ok (.goto 4, 3) := by decide +kernel
theorem d2_56 : decode method_3_code 56 = .ok (.iconst 0, 1) := by decide +kernel
theorem d2_57 : decode method_3_code 57 = .ok (.ireturn, 1) := by decide +kernel
theorem d2_58 : decode method_3_code 58 = .ok (.iload_n 0, 1) := by decide +kernel
theorem d2_59 : decode method_3_code 59 = .ok (.iconst 3, 1) := by decide +kernel
theorem d2_60 : decode method_3_code 60 = .ok (.if_icmp .ne 5, 3) := by decide +kernel
theorem d2_63 : decode method_3_code 63 = .ok (.iconst 1, 1) := by decide +kernel
theorem d2_64 : decode method_3_code 64 = .ok (.ireturn, 1) := by decide +kernel
theorem d2_65 : decode method_3_code 65 = .ok (.iload_n 0, 1) := by decide +kernel
theorem d2_66 : decode method_3_code 66 = .ok (.iconst 4, 1) := by decide +kernel
theorem d2_67 : decode method_3_code 67 = .ok (.if_icmp .ne 19, 3) := by decide +kernel
theorem d2_70 : decode method_3_code 70 = .ok (.lload_n 1, 1) := by decide +kernel
theorem d2_71 : decode method_3_code 71 = .ok (.lload_n 1, 1) := by decide +kernel
theorem d2_72 : decode method_3_code 72 = .ok (.ldc2_w 57, 3) := by decide +kernel
theorem d2_75 : decode method_3_code 75 = .ok (.land, 1) := by decide +kernel
theorem d2_76 : decode method_3_code 76 = .ok (.lcmp, 1) := by decide +kernel
theorem d2_77 : decode method_3_code 77 = .ok (.ifCond .ne 7, 3) := by decide +kernel
theorem d2_80 : decode method_3_code 80 = .ok (.iconst 1, 1) := by decide +kernel
theorem d2_81 : decode method_3_code 81 = .ok (.goto 4, 3) := by decide +kernel
theorem d2_84 : decode method_3_code 84 = .ok (.iconst 0, 1) := by decide +kernel
theorem d2_85 : decode method_3_code 85 = .ok (.ireturn, 1) := by decide +kernel
theorem d2_86 : decode method_3_code 86 = .ok (.lload_n 1, 1) := by decide +kernel
theorem d2_87 : decode method_3_code 87 = .ok (.lload_n 1, 1) := by decide +kernel
theorem d2_88 : decode method_3_code 88 = .ok (.ldc2_w 59, 3) := by decide +kernel
theorem d2_91 : decode method_3_code 91 = .ok (.land, 1) := by decide +kernel
theorem d2_92 : decode method_3_code 92 = .ok (.lcmp, 1) := by decide +kernel
theorem d2_93 : decode method_3_code 93 = .ok (.ifCond .ne 7, 3) := by decide +kernel
theorem d2_96 : decode method_3_code 96 = .ok (.iconst 1, 1) := by decide +kernel
theorem d2_97 : decode method_3_code 97 = .ok (.goto 4, 3) := by decide +kernel
theorem d2_100 : decode method_3_code 100 = .ok (.iconst 0, 1) := by decide +kernel
theorem d2_101 : decode method_3_code 101 = .ok (.ireturn, 1) := by decide +kernel
theorem pn2 : plainName "com/example/exact_locks/exactlocks/KindHoldsPinLaw" = true := by first | (simp [plainName, overriddenIn]; done) | decide +kernel
theorem pd2 : parseMethodDescriptor "(IJ)Z" = some ⟨[.int, .long], (some .boolean)⟩ := by decide +kernel
def Facts (Z : State) (a_TINYINT a_SMALLINT a_CHAR a_BIGINT a_INT a_VARCHAR : Addr) : Prop := (Sta Z Z.heap "com/example/exact_locks/exactlocks/ColumnType$Kind" "TINYINT" "Lcom/example/exact_locks/exactlocks/ColumnType$Kind;" (.ref a_TINYINT)) ∧ (Exa Z Z.heap a_TINYINT "com/example/exact_locks/exactlocks/ColumnType$Kind") ∧ (Sta Z Z.heap "com/example/exact_locks/exactlocks/ColumnType$Kind" "SMALLINT" "Lcom/example/exact_locks/exactlocks/ColumnType$Kind;" (.ref a_SMALLINT)) ∧ (Exa Z Z.heap a_SMALLINT "com/example/exact_locks/exactlocks/ColumnType$Kind") ∧ (Sta Z Z.heap "com/example/exact_locks/exactlocks/ColumnType$Kind" "CHAR" "Lcom/example/exact_locks/exactlocks/ColumnType$Kind;" (.ref a_CHAR)) ∧ (Exa Z Z.heap a_CHAR "com/example/exact_locks/exactlocks/ColumnType$Kind") ∧ (Sta Z Z.heap "com/example/exact_locks/exactlocks/ColumnType$Kind" "BIGINT" "Lcom/example/exact_locks/exactlocks/ColumnType$Kind;" (.ref a_BIGINT)) ∧ (Exa Z Z.heap a_BIGINT "com/example/exact_locks/exactlocks/ColumnType$Kind") ∧ (Sta Z Z.heap "com/example/exact_locks/exactlocks/ColumnType$Kind" "INT" "Lcom/example/exact_locks/exactlocks/ColumnType$Kind;" (.ref a_INT)) ∧ (Exa Z Z.heap a_INT "com/example/exact_locks/exactlocks/ColumnType$Kind") ∧ (Sta Z Z.heap "com/example/exact_locks/exactlocks/ColumnType$Kind" "VARCHAR" "Lcom/example/exact_locks/exactlocks/ColumnType$Kind;" (.ref a_VARCHAR)) ∧ (Exa Z Z.heap a_VARCHAR "com/example/exact_locks/exactlocks/ColumnType$Kind") ∧ (Fld Z Z.heap a_TINYINT "com/example/exact_locks/exactlocks/ColumnType$Kind" "min" "J" (.long (-128))) ∧ (Fld Z Z.heap a_TINYINT "com/example/exact_locks/exactlocks/ColumnType$Kind" "max" "J" (.long 127)) ∧ (Fld Z Z.heap a_SMALLINT "com/example/exact_locks/exactlocks/ColumnType$Kind" "min" "J" (.long (-32768))) ∧ (Fld Z Z.heap a_SMALLINT "com/example/exact_locks/exactlocks/ColumnType$Kind" "max" "J" (.long 32767)) ∧ (Fld Z Z.heap a_CHAR "com/example/exact_locks/exactlocks/ColumnType$Kind" "min" "J" (.long 0)) ∧ (Fld Z Z.heap a_BIGINT "com/example/exact_locks/exactlocks/ColumnType$Kind" "min" "J" (.long (-9223372036854775808))) ∧ (Fld Z Z.heap a_BIGINT "com/example/exact_locks/exactlocks/ColumnType$Kind" "max" "J" (.long 9223372036854775807)) ∧ (Fld Z Z.heap a_INT "com/example/exact_locks/exactlocks/ColumnType$Kind" "min" "J" (.long (-2147483648))) ∧ (Fld Z Z.heap a_INT "com/example/exact_locks/exactlocks/ColumnType$Kind" "max" "J" (.long 2147483647)) ∧ (Fld Z Z.heap a_VARCHAR "com/example/exact_locks/exactlocks/ColumnType$Kind" "min" "J" (.long 0)) ∧ (Fld Z Z.heap a_CHAR "com/example/exact_locks/exactlocks/ColumnType$Kind" "max" "J" (.long 255)) ∧ (Fld Z Z.heap a_VARCHAR "com/example/exact_locks/exactlocks/ColumnType$Kind" "max" "J" (.long 65535))
theorem Facts.S_TINYINT {Z : State} {a_TINYINT a_SMALLINT a_CHAR a_BIGINT a_INT a_VARCHAR : Addr} (F : Facts Z a_TINYINT a_SMALLINT a_CHAR a_BIGINT a_INT a_VARCHAR) : Sta Z Z.heap "com/example/exact_locks/exactlocks/ColumnType$Kind" "TINYINT" "Lcom/example/exact_locks/exactlocks/ColumnType$Kind;" (.ref a_TINYINT) := F.1
theorem Facts.E_TINYINT {Z : State} {a_TINYINT a_SMALLINT a_CHAR a_BIGINT a_INT a_VARCHAR : Addr} (F : Facts Z a_TINYINT a_SMALLINT a_CHAR a_BIGINT a_INT a_VARCHAR) : Exa Z Z.heap a_TINYINT "com/example/exact_locks/exactlocks/ColumnType$Kind" := F.2.1
theorem Facts.S_SMALLINT {Z : State} {a_TINYINT a_SMALLINT a_CHAR a_BIGINT a_INT a_VARCHAR : Addr} (F : Facts Z a_TINYINT a_SMALLINT a_CHAR a_BIGINT a_INT a_VARCHAR) : Sta Z Z.heap "com/example/exact_locks/exactlocks/ColumnType$Kind" "SMALLINT" "Lcom/example/exact_locks/exactlocks/ColumnType$Kind;" (.ref a_SMALLINT) := F.2.2.1
theorem Facts.E_SMALLINT {Z : State} {a_TINYINT a_SMALLINT a_CHAR a_BIGINT a_INT a_VARCHAR : Addr} (F : Facts Z a_TINYINT a_SMALLINT a_CHAR a_BIGINT a_INT a_VARCHAR) : Exa Z Z.heap a_SMALLINT "com/example/exact_locks/exactlocks/ColumnType$Kind" := F.2.2.2.1
theorem Facts.S_CHAR {Z : State} {a_TINYINT a_SMALLINT a_CHAR a_BIGINT a_INT a_VARCHAR : Addr} (F : Facts Z a_TINYINT a_SMALLINT a_CHAR a_BIGINT a_INT a_VARCHAR) : Sta Z Z.heap "com/example/exact_locks/exactlocks/ColumnType$Kind" "CHAR" "Lcom/example/exact_locks/exactlocks/ColumnType$Kind;" (.ref a_CHAR) := F.2.2.2.2.1
theorem Facts.E_CHAR {Z : State} {a_TINYINT a_SMALLINT a_CHAR a_BIGINT a_INT a_VARCHAR : Addr} (F : Facts Z a_TINYINT a_SMALLINT a_CHAR a_BIGINT a_INT a_VARCHAR) : Exa Z Z.heap a_CHAR "com/example/exact_locks/exactlocks/ColumnType$Kind" := F.2.2.2.2.2.1
theorem Facts.S_BIGINT {Z : State} {a_TINYINT a_SMALLINT a_CHAR a_BIGINT a_INT a_VARCHAR : Addr} (F : Facts Z a_TINYINT a_SMALLINT a_CHAR a_BIGINT a_INT a_VARCHAR) : Sta Z Z.heap "com/example/exact_locks/exactlocks/ColumnType$Kind" "BIGINT" "Lcom/example/exact_locks/exactlocks/ColumnType$Kind;" (.ref a_BIGINT) := F.2.2.2.2.2.2.1
theorem Facts.E_BIGINT {Z : State} {a_TINYINT a_SMALLINT a_CHAR a_BIGINT a_INT a_VARCHAR : Addr} (F : Facts Z a_TINYINT a_SMALLINT a_CHAR a_BIGINT a_INT a_VARCHAR) : Exa Z Z.heap a_BIGINT "com/example/exact_locks/exactlocks/ColumnType$Kind" := F.2.2.2.2.2.2.2.1
theorem Facts.S_INT {Z : State} {a_TINYINT a_SMALLINT a_CHAR a_BIGINT a_INT a_VARCHAR : Addr} (F : Facts Z a_TINYINT a_SMALLINT a_CHAR a_BIGINT a_INT a_VARCHAR) : Sta Z Z.heap "com/example/exact_locks/exactlocks/ColumnType$Kind" "INT" "Lcom/example/exact_locks/exactlocks/ColumnType$Kind;" (.ref a_INT) := F.2.2.2.2.2.2.2.2.1
theorem Facts.E_INT {Z : State} {a_TINYINT a_SMALLINT a_CHAR a_BIGINT a_INT a_VARCHAR : Addr} (F : Facts Z a_TINYINT a_SMALLINT a_CHAR a_BIGINT a_INT a_VARCHAR) : Exa Z Z.heap a_INT "com/example/exact_locks/exactlocks/ColumnType$Kind" := F.2.2.2.2.2.2.2.2.2.1
theorem Facts.S_VARCHAR {Z : State} {a_TINYINT a_SMALLINT a_CHAR a_BIGINT a_INT a_VARCHAR : Addr} (F : Facts Z a_TINYINT a_SMALLINT a_CHAR a_BIGINT a_INT a_VARCHAR) : Sta Z Z.heap "com/example/exact_locks/exactlocks/ColumnType$Kind" "VARCHAR" "Lcom/example/exact_locks/exactlocks/ColumnType$Kind;" (.ref a_VARCHAR) := F.2.2.2.2.2.2.2.2.2.2.1
theorem Facts.E_VARCHAR {Z : State} {a_TINYINT a_SMALLINT a_CHAR a_BIGINT a_INT a_VARCHAR : Addr} (F : Facts Z a_TINYINT a_SMALLINT a_CHAR a_BIGINT a_INT a_VARCHAR) : Exa Z Z.heap a_VARCHAR "com/example/exact_locks/exactlocks/ColumnType$Kind" := F.2.2.2.2.2.2.2.2.2.2.2.1
theorem Facts.F_TINYINT_min {Z : State} {a_TINYINT a_SMALLINT a_CHAR a_BIGINT a_INT a_VARCHAR : Addr} (F : Facts Z a_TINYINT a_SMALLINT a_CHAR a_BIGINT a_INT a_VARCHAR) : Fld Z Z.heap a_TINYINT "com/example/exact_locks/exactlocks/ColumnType$Kind" "min" "J" (.long (-128)) := F.2.2.2.2.2.2.2.2.2.2.2.2.1
theorem Facts.F_TINYINT_max {Z : State} {a_TINYINT a_SMALLINT a_CHAR a_BIGINT a_INT a_VARCHAR : Addr} (F : Facts Z a_TINYINT a_SMALLINT a_CHAR a_BIGINT a_INT a_VARCHAR) : Fld Z Z.heap a_TINYINT "com/example/exact_locks/exactlocks/ColumnType$Kind" "max" "J" (.long 127) := F.2.2.2.2.2.2.2.2.2.2.2.2.2.1
theorem Facts.F_SMALLINT_min {Z : State} {a_TINYINT a_SMALLINT a_CHAR a_BIGINT a_INT a_VARCHAR : Addr} (F : Facts Z a_TINYINT a_SMALLINT a_CHAR a_BIGINT a_INT a_VARCHAR) : Fld Z Z.heap a_SMALLINT "com/example/exact_locks/exactlocks/ColumnType$Kind" "min" "J" (.long (-32768)) := F.2.2.2.2.2.2.2.2.2.2.2.2.2.2.1
theorem Facts.F_SMALLINT_max {Z : State} {a_TINYINT a_SMALLINT a_CHAR a_BIGINT a_INT a_VARCHAR : Addr} (F : Facts Z a_TINYINT a_SMALLINT a_CHAR a_BIGINT a_INT a_VARCHAR) : Fld Z Z.heap a_SMALLINT "com/example/exact_locks/exactlocks/ColumnType$Kind" "max" "J" (.long 32767) := F.2.2.2.2.2.2.2.2.2.2.2.2.2.2.2.1
theorem Facts.F_CHAR_min {Z : State} {a_TINYINT a_SMALLINT a_CHAR a_BIGINT a_INT a_VARCHAR : Addr} (F : Facts Z a_TINYINT a_SMALLINT a_CHAR a_BIGINT a_INT a_VARCHAR) : Fld Z Z.heap a_CHAR "com/example/exact_locks/exactlocks/ColumnType$Kind" "min" "J" (.long 0) := F.2.2.2.2.2.2.2.2.2.2.2.2.2.2.2.2.1
theorem Facts.F_BIGINT_min {Z : State} {a_TINYINT a_SMALLINT a_CHAR a_BIGINT a_INT a_VARCHAR : Addr} (F : Facts Z a_TINYINT a_SMALLINT a_CHAR a_BIGINT a_INT a_VARCHAR) : Fld Z Z.heap a_BIGINT "com/example/exact_locks/exactlocks/ColumnType$Kind" "min" "J" (.long (-9223372036854775808)) := F.2.2.2.2.2.2.2.2.2.2.2.2.2.2.2.2.2.1
theorem Facts.F_BIGINT_max {Z : State} {a_TINYINT a_SMALLINT a_CHAR a_BIGINT a_INT a_VARCHAR : Addr} (F : Facts Z a_TINYINT a_SMALLINT a_CHAR a_BIGINT a_INT a_VARCHAR) : Fld Z Z.heap a_BIGINT "com/example/exact_locks/exactlocks/ColumnType$Kind" "max" "J" (.long 9223372036854775807) := F.2.2.2.2.2.2.2.2.2.2.2.2.2.2.2.2.2.2.1
theorem Facts.F_INT_min {Z : State} {a_TINYINT a_SMALLINT a_CHAR a_BIGINT a_INT a_VARCHAR : Addr} (F : Facts Z a_TINYINT a_SMALLINT a_CHAR a_BIGINT a_INT a_VARCHAR) : Fld Z Z.heap a_INT "com/example/exact_locks/exactlocks/ColumnType$Kind" "min" "J" (.long (-2147483648)) := F.2.2.2.2.2.2.2.2.2.2.2.2.2.2.2.2.2.2.2.1
theorem Facts.F_INT_max {Z : State} {a_TINYINT a_SMALLINT a_CHAR a_BIGINT a_INT a_VARCHAR : Addr} (F : Facts Z a_TINYINT a_SMALLINT a_CHAR a_BIGINT a_INT a_VARCHAR) : Fld Z Z.heap a_INT "com/example/exact_locks/exactlocks/ColumnType$Kind" "max" "J" (.long 2147483647) := F.2.2.2.2.2.2.2.2.2.2.2.2.2.2.2.2.2.2.2.2.1
theorem Facts.F_VARCHAR_min {Z : State} {a_TINYINT a_SMALLINT a_CHAR a_BIGINT a_INT a_VARCHAR : Addr} (F : Facts Z a_TINYINT a_SMALLINT a_CHAR a_BIGINT a_INT a_VARCHAR) : Fld Z Z.heap a_VARCHAR "com/example/exact_locks/exactlocks/ColumnType$Kind" "min" "J" (.long 0) := F.2.2.2.2.2.2.2.2.2.2.2.2.2.2.2.2.2.2.2.2.2.1
theorem Facts.F_CHAR_max {Z : State} {a_TINYINT a_SMALLINT a_CHAR a_BIGINT a_INT a_VARCHAR : Addr} (F : Facts Z a_TINYINT a_SMALLINT a_CHAR a_BIGINT a_INT a_VARCHAR) : Fld Z Z.heap a_CHAR "com/example/exact_locks/exactlocks/ColumnType$Kind" "max" "J" (.long 255) := F.2.2.2.2.2.2.2.2.2.2.2.2.2.2.2.2.2.2.2.2.2.2.1
theorem Facts.F_VARCHAR_max {Z : State} {a_TINYINT a_SMALLINT a_CHAR a_BIGINT a_INT a_VARCHAR : Addr} (F : Facts Z a_TINYINT a_SMALLINT a_CHAR a_BIGINT a_INT a_VARCHAR) : Fld Z Z.heap a_VARCHAR "com/example/exact_locks/exactlocks/ColumnType$Kind" "max" "J" (.long 65535) := F.2.2.2.2.2.2.2.2.2.2.2.2.2.2.2.2.2.2.2.2.2.2.2
def hdF (mn mx v : Int64) : Int32 := if v < mn then (0 : Int32) else if mx < v then (0 : Int32) else (1 : Int32)
set_option maxRecDepth 65536 in
set_option maxHeartbeats 40000000 in
theorem b1_0 (l : Launch) (Z : State) (a0 : Array Value) (hw : Hw a0 Z) (n0 : Nat) (h : Heap) (O : Old Z n0 h) (v : Int64) (a_TINYINT a_SMALLINT a_CHAR a_BIGINT a_INT a_VARCHAR : Addr) (F : Facts Z a_TINYINT a_SMALLINT a_CHAR a_BIGINT a_INT a_VARCHAR) {Q : Option Value → Heap → Prop} (hQ : Q (some (.int (hdF (-128 : Int64) (127 : Int64) v))) h) :
    Go l Z (⟨"com/example/exact_locks/exactlocks/ColumnType$Kind", "holds", "(J)Z"⟩ : MethodName) prog_10_method_5_code 3 (some .boolean) ({ frames := 0, cells := 0, slots := 0, locals := 0 } : Room) n0 Q h 0 0 0 #[.val (.ref a_TINYINT), .val (.long v), .second] [] := by
  refine Go.lloadN d1_0 (q := 1) rfl rfl ?_
  refine Go.aloadN d1_1 (q := 2) rfl rfl rfl ?_
  refine Go.getF d1_2 (q := 5) rfl (host := "") (Or.inl (w9 hw)) Via.refl (F.F_TINYINT_min.ext O.2) ?_
  refine Go.lcmp d1_5 (q := 6) rfl ?_
  refine Go.lif_lt d1_6 (q := 22) (q' := 9) (by decide) rfl rfl (fun c1 => ?_) (fun c1 => ?_)
  · skip
    refine Go.iconst d1_22 (q := 23) rfl (x := (0 : Int32)) (by decide) ?_
    refine Go.zreturn d1_23 (by decide) (by decide) (by decide) ?_
    unfold hdF at hQ
    rw [if_pos c1] at hQ
    exact hQ
  · skip
    refine Go.lloadN d1_9 (q := 10) rfl rfl ?_
    refine Go.aloadN d1_10 (q := 11) rfl rfl rfl ?_
    refine Go.getF d1_11 (q := 14) rfl (host := "") (Or.inl (w11 hw)) Via.refl (F.F_TINYINT_max.ext O.2) ?_
    refine Go.lcmp d1_14 (q := 15) rfl ?_
    refine Go.lif_gt d1_15 (q := 22) (q' := 18) (by decide) rfl rfl (fun c2 => ?_) (fun c2 => ?_)
    · skip
      refine Go.iconst d1_22 (q := 23) rfl (x := (0 : Int32)) (by decide) ?_
      refine Go.zreturn d1_23 (by decide) (by decide) (by decide) ?_
      unfold hdF at hQ
      rw [if_neg c1, if_pos c2] at hQ
      exact hQ
    · skip
      refine Go.iconst d1_18 (q := 19) rfl (x := (1 : Int32)) (by decide) ?_
      refine Go.goto d1_19 (q := 23) (by decide) rfl ?_
      refine Go.zreturn d1_23 (by decide) (by decide) (by decide) ?_
      unfold hdF at hQ
      rw [if_neg c1, if_neg c2] at hQ
      exact hQ
set_option maxRecDepth 65536 in
set_option maxHeartbeats 40000000 in
theorem b1_1 (l : Launch) (Z : State) (a0 : Array Value) (hw : Hw a0 Z) (n0 : Nat) (h : Heap) (O : Old Z n0 h) (v : Int64) (a_TINYINT a_SMALLINT a_CHAR a_BIGINT a_INT a_VARCHAR : Addr) (F : Facts Z a_TINYINT a_SMALLINT a_CHAR a_BIGINT a_INT a_VARCHAR) {Q : Option Value → Heap → Prop} (hQ : Q (some (.int (hdF (-32768 : Int64) (32767 : Int64) v))) h) :
    Go l Z (⟨"com/example/exact_locks/exactlocks/ColumnType$Kind", "holds", "(J)Z"⟩ : MethodName) prog_10_method_5_code 3 (some .boolean) ({ frames := 0, cells := 0, slots := 0, locals := 0 } : Room) n0 Q h 0 0 0 #[.val (.ref a_SMALLINT), .val (.long v), .second] [] := by
  refine Go.lloadN d1_0 (q := 1) rfl rfl ?_
  refine Go.aloadN d1_1 (q := 2) rfl rfl rfl ?_
  refine Go.getF d1_2 (q := 5) rfl (host := "") (Or.inl (w9 hw)) Via.refl (F.F_SMALLINT_min.ext O.2) ?_
  refine Go.lcmp d1_5 (q := 6) rfl ?_
  refine Go.lif_lt d1_6 (q := 22) (q' := 9) (by decide) rfl rfl (fun c3 => ?_) (fun c3 => ?_)
  · skip
    refine Go.iconst d1_22 (q := 23) rfl (x := (0 : Int32)) (by decide) ?_
    refine Go.zreturn d1_23 (by decide) (by decide) (by decide) ?_
    unfold hdF at hQ
    rw [if_pos c3] at hQ
    exact hQ
  · skip
    refine Go.lloadN d1_9 (q := 10) rfl rfl ?_
    refine Go.aloadN d1_10 (q := 11) rfl rfl rfl ?_
    refine Go.getF d1_11 (q := 14) rfl (host := "") (Or.inl (w11 hw)) Via.refl (F.F_SMALLINT_max.ext O.2) ?_
    refine Go.lcmp d1_14 (q := 15) rfl ?_
    refine Go.lif_gt d1_15 (q := 22) (q' := 18) (by decide) rfl rfl (fun c4 => ?_) (fun c4 => ?_)
    · skip
      refine Go.iconst d1_22 (q := 23) rfl (x := (0 : Int32)) (by decide) ?_
      refine Go.zreturn d1_23 (by decide) (by decide) (by decide) ?_
      unfold hdF at hQ
      rw [if_neg c3, if_pos c4] at hQ
      exact hQ
    · skip
      refine Go.iconst d1_18 (q := 19) rfl (x := (1 : Int32)) (by decide) ?_
      refine Go.goto d1_19 (q := 23) (by decide) rfl ?_
      refine Go.zreturn d1_23 (by decide) (by decide) (by decide) ?_
      unfold hdF at hQ
      rw [if_neg c3, if_neg c4] at hQ
      exact hQ
set_option maxRecDepth 65536 in
set_option maxHeartbeats 40000000 in
theorem b1_2 (l : Launch) (Z : State) (a0 : Array Value) (hw : Hw a0 Z) (n0 : Nat) (h : Heap) (O : Old Z n0 h) (v : Int64) (a_TINYINT a_SMALLINT a_CHAR a_BIGINT a_INT a_VARCHAR : Addr) (F : Facts Z a_TINYINT a_SMALLINT a_CHAR a_BIGINT a_INT a_VARCHAR) {Q : Option Value → Heap → Prop} (hQ : Q (some (.int (hdF (-2147483648 : Int64) (2147483647 : Int64) v))) h) :
    Go l Z (⟨"com/example/exact_locks/exactlocks/ColumnType$Kind", "holds", "(J)Z"⟩ : MethodName) prog_10_method_5_code 3 (some .boolean) ({ frames := 0, cells := 0, slots := 0, locals := 0 } : Room) n0 Q h 0 0 0 #[.val (.ref a_INT), .val (.long v), .second] [] := by
  refine Go.lloadN d1_0 (q := 1) rfl rfl ?_
  refine Go.aloadN d1_1 (q := 2) rfl rfl rfl ?_
  refine Go.getF d1_2 (q := 5) rfl (host := "") (Or.inl (w9 hw)) Via.refl (F.F_INT_min.ext O.2) ?_
  refine Go.lcmp d1_5 (q := 6) rfl ?_
  refine Go.lif_lt d1_6 (q := 22) (q' := 9) (by decide) rfl rfl (fun c5 => ?_) (fun c5 => ?_)
  · skip
    refine Go.iconst d1_22 (q := 23) rfl (x := (0 : Int32)) (by decide) ?_
    refine Go.zreturn d1_23 (by decide) (by decide) (by decide) ?_
    unfold hdF at hQ
    rw [if_pos c5] at hQ
    exact hQ
  · skip
    refine Go.lloadN d1_9 (q := 10) rfl rfl ?_
    refine Go.aloadN d1_10 (q := 11) rfl rfl rfl ?_
    refine Go.getF d1_11 (q := 14) rfl (host := "") (Or.inl (w11 hw)) Via.refl (F.F_INT_max.ext O.2) ?_
    refine Go.lcmp d1_14 (q := 15) rfl ?_
    refine Go.lif_gt d1_15 (q := 22) (q' := 18) (by decide) rfl rfl (fun c6 => ?_) (fun c6 => ?_)
    · skip
      refine Go.iconst d1_22 (q := 23) rfl (x := (0 : Int32)) (by decide) ?_
      refine Go.zreturn d1_23 (by decide) (by decide) (by decide) ?_
      unfold hdF at hQ
      rw [if_neg c5, if_pos c6] at hQ
      exact hQ
    · skip
      refine Go.iconst d1_18 (q := 19) rfl (x := (1 : Int32)) (by decide) ?_
      refine Go.goto d1_19 (q := 23) (by decide) rfl ?_
      refine Go.zreturn d1_23 (by decide) (by decide) (by decide) ?_
      unfold hdF at hQ
      rw [if_neg c5, if_neg c6] at hQ
      exact hQ
set_option maxRecDepth 65536 in
set_option maxHeartbeats 40000000 in
theorem b1_3 (l : Launch) (Z : State) (a0 : Array Value) (hw : Hw a0 Z) (n0 : Nat) (h : Heap) (O : Old Z n0 h) (v : Int64) (a_TINYINT a_SMALLINT a_CHAR a_BIGINT a_INT a_VARCHAR : Addr) (F : Facts Z a_TINYINT a_SMALLINT a_CHAR a_BIGINT a_INT a_VARCHAR) {Q : Option Value → Heap → Prop} (hQ : Q (some (.int (hdF (-9223372036854775808 : Int64) (9223372036854775807 : Int64) v))) h) :
    Go l Z (⟨"com/example/exact_locks/exactlocks/ColumnType$Kind", "holds", "(J)Z"⟩ : MethodName) prog_10_method_5_code 3 (some .boolean) ({ frames := 0, cells := 0, slots := 0, locals := 0 } : Room) n0 Q h 0 0 0 #[.val (.ref a_BIGINT), .val (.long v), .second] [] := by
  refine Go.lloadN d1_0 (q := 1) rfl rfl ?_
  refine Go.aloadN d1_1 (q := 2) rfl rfl rfl ?_
  refine Go.getF d1_2 (q := 5) rfl (host := "") (Or.inl (w9 hw)) Via.refl (F.F_BIGINT_min.ext O.2) ?_
  refine Go.lcmp d1_5 (q := 6) rfl ?_
  refine Go.lif_lt d1_6 (q := 22) (q' := 9) (by decide) rfl rfl (fun c7 => ?_) (fun c7 => ?_)
  · skip
    refine Go.iconst d1_22 (q := 23) rfl (x := (0 : Int32)) (by decide) ?_
    refine Go.zreturn d1_23 (by decide) (by decide) (by decide) ?_
    unfold hdF at hQ
    rw [if_pos c7] at hQ
    exact hQ
  · skip
    refine Go.lloadN d1_9 (q := 10) rfl rfl ?_
    refine Go.aloadN d1_10 (q := 11) rfl rfl rfl ?_
    refine Go.getF d1_11 (q := 14) rfl (host := "") (Or.inl (w11 hw)) Via.refl (F.F_BIGINT_max.ext O.2) ?_
    refine Go.lcmp d1_14 (q := 15) rfl ?_
    refine Go.lif_gt d1_15 (q := 22) (q' := 18) (by decide) rfl rfl (fun c8 => ?_) (fun c8 => ?_)
    · skip
      refine Go.iconst d1_22 (q := 23) rfl (x := (0 : Int32)) (by decide) ?_
      refine Go.zreturn d1_23 (by decide) (by decide) (by decide) ?_
      unfold hdF at hQ
      rw [if_neg c7, if_pos c8] at hQ
      exact hQ
    · skip
      refine Go.iconst d1_18 (q := 19) rfl (x := (1 : Int32)) (by decide) ?_
      refine Go.goto d1_19 (q := 23) (by decide) rfl ?_
      refine Go.zreturn d1_23 (by decide) (by decide) (by decide) ?_
      unfold hdF at hQ
      rw [if_neg c7, if_neg c8] at hQ
      exact hQ
set_option maxRecDepth 65536 in
set_option maxHeartbeats 40000000 in
theorem b1_4 (l : Launch) (Z : State) (a0 : Array Value) (hw : Hw a0 Z) (n0 : Nat) (h : Heap) (O : Old Z n0 h) (v : Int64) (a_TINYINT a_SMALLINT a_CHAR a_BIGINT a_INT a_VARCHAR : Addr) (F : Facts Z a_TINYINT a_SMALLINT a_CHAR a_BIGINT a_INT a_VARCHAR) {Q : Option Value → Heap → Prop} (hQ : Q (some (.int (hdF (0 : Int64) (255 : Int64) v))) h) :
    Go l Z (⟨"com/example/exact_locks/exactlocks/ColumnType$Kind", "holds", "(J)Z"⟩ : MethodName) prog_10_method_5_code 3 (some .boolean) ({ frames := 0, cells := 0, slots := 0, locals := 0 } : Room) n0 Q h 0 0 0 #[.val (.ref a_CHAR), .val (.long v), .second] [] := by
  refine Go.lloadN d1_0 (q := 1) rfl rfl ?_
  refine Go.aloadN d1_1 (q := 2) rfl rfl rfl ?_
  refine Go.getF d1_2 (q := 5) rfl (host := "") (Or.inl (w9 hw)) Via.refl (F.F_CHAR_min.ext O.2) ?_
  refine Go.lcmp d1_5 (q := 6) rfl ?_
  refine Go.lif_lt d1_6 (q := 22) (q' := 9) (by decide) rfl rfl (fun c9 => ?_) (fun c9 => ?_)
  · skip
    refine Go.iconst d1_22 (q := 23) rfl (x := (0 : Int32)) (by decide) ?_
    refine Go.zreturn d1_23 (by decide) (by decide) (by decide) ?_
    unfold hdF at hQ
    rw [if_pos c9] at hQ
    exact hQ
  · skip
    refine Go.lloadN d1_9 (q := 10) rfl rfl ?_
    refine Go.aloadN d1_10 (q := 11) rfl rfl rfl ?_
    refine Go.getF d1_11 (q := 14) rfl (host := "") (Or.inl (w11 hw)) Via.refl (F.F_CHAR_max.ext O.2) ?_
    refine Go.lcmp d1_14 (q := 15) rfl ?_
    refine Go.lif_gt d1_15 (q := 22) (q' := 18) (by decide) rfl rfl (fun c10 => ?_) (fun c10 => ?_)
    · skip
      refine Go.iconst d1_22 (q := 23) rfl (x := (0 : Int32)) (by decide) ?_
      refine Go.zreturn d1_23 (by decide) (by decide) (by decide) ?_
      unfold hdF at hQ
      rw [if_neg c9, if_pos c10] at hQ
      exact hQ
    · skip
      refine Go.iconst d1_18 (q := 19) rfl (x := (1 : Int32)) (by decide) ?_
      refine Go.goto d1_19 (q := 23) (by decide) rfl ?_
      refine Go.zreturn d1_23 (by decide) (by decide) (by decide) ?_
      unfold hdF at hQ
      rw [if_neg c9, if_neg c10] at hQ
      exact hQ
set_option maxRecDepth 65536 in
set_option maxHeartbeats 40000000 in
theorem b1_5 (l : Launch) (Z : State) (a0 : Array Value) (hw : Hw a0 Z) (n0 : Nat) (h : Heap) (O : Old Z n0 h) (v : Int64) (a_TINYINT a_SMALLINT a_CHAR a_BIGINT a_INT a_VARCHAR : Addr) (F : Facts Z a_TINYINT a_SMALLINT a_CHAR a_BIGINT a_INT a_VARCHAR) {Q : Option Value → Heap → Prop} (hQ : Q (some (.int (hdF (0 : Int64) (65535 : Int64) v))) h) :
    Go l Z (⟨"com/example/exact_locks/exactlocks/ColumnType$Kind", "holds", "(J)Z"⟩ : MethodName) prog_10_method_5_code 3 (some .boolean) ({ frames := 0, cells := 0, slots := 0, locals := 0 } : Room) n0 Q h 0 0 0 #[.val (.ref a_VARCHAR), .val (.long v), .second] [] := by
  refine Go.lloadN d1_0 (q := 1) rfl rfl ?_
  refine Go.aloadN d1_1 (q := 2) rfl rfl rfl ?_
  refine Go.getF d1_2 (q := 5) rfl (host := "") (Or.inl (w9 hw)) Via.refl (F.F_VARCHAR_min.ext O.2) ?_
  refine Go.lcmp d1_5 (q := 6) rfl ?_
  refine Go.lif_lt d1_6 (q := 22) (q' := 9) (by decide) rfl rfl (fun c11 => ?_) (fun c11 => ?_)
  · skip
    refine Go.iconst d1_22 (q := 23) rfl (x := (0 : Int32)) (by decide) ?_
    refine Go.zreturn d1_23 (by decide) (by decide) (by decide) ?_
    unfold hdF at hQ
    rw [if_pos c11] at hQ
    exact hQ
  · skip
    refine Go.lloadN d1_9 (q := 10) rfl rfl ?_
    refine Go.aloadN d1_10 (q := 11) rfl rfl rfl ?_
    refine Go.getF d1_11 (q := 14) rfl (host := "") (Or.inl (w11 hw)) Via.refl (F.F_VARCHAR_max.ext O.2) ?_
    refine Go.lcmp d1_14 (q := 15) rfl ?_
    refine Go.lif_gt d1_15 (q := 22) (q' := 18) (by decide) rfl rfl (fun c12 => ?_) (fun c12 => ?_)
    · skip
      refine Go.iconst d1_22 (q := 23) rfl (x := (0 : Int32)) (by decide) ?_
      refine Go.zreturn d1_23 (by decide) (by decide) (by decide) ?_
      unfold hdF at hQ
      rw [if_neg c11, if_pos c12] at hQ
      exact hQ
    · skip
      refine Go.iconst d1_18 (q := 19) rfl (x := (1 : Int32)) (by decide) ?_
      refine Go.goto d1_19 (q := 23) (by decide) rfl ?_
      refine Go.zreturn d1_23 (by decide) (by decide) (by decide) ?_
      unfold hdF at hQ
      rw [if_neg c11, if_neg c12] at hQ
      exact hQ
def refF (kk : Int32) (v : Int64) : Int32 :=
  if kk = 0 then if v = v.toInt32.toInt8.toInt32.toInt64 then (1 : Int32) else
    (0 : Int32) else
  if kk = (1 : Int32) then if v = v.toInt32.toInt16.toInt32.toInt64 then (1 : Int32) else
    (0 : Int32) else
  if kk = (2 : Int32) then if v = v.toInt32.toInt64 then (1 : Int32) else
    (0 : Int32) else
  if kk = (3 : Int32) then (1 : Int32) else
  if kk = (4 : Int32) then if v = (v &&& (255 : Int64)) then (1 : Int32) else
    (0 : Int32) else
  if v = (v &&& (65535 : Int64)) then (1 : Int32) else
  (0 : Int32)
set_option maxRecDepth 65536 in
set_option maxHeartbeats 40000000 in
theorem b2 (l : Launch) (Z : State) (a0 : Array Value) (hw : Hw a0 Z) (n0 : Nat) (h : Heap) (kk : Int32) (v : Int64) {Q : Option Value → Heap → Prop} (hQ : Q (some (.int (refF kk v))) h) :
    Go l Z (⟨"com/example/exact_locks/exactlocks/KindHoldsPinLaw", "ref", "(IJ)Z"⟩ : MethodName) method_3_code 3 (some .boolean) ({ frames := 0, cells := 0, slots := 0, locals := 0 } : Room) n0 Q h 0 0 0 #[.val (.int kk), .val (.long v), .second] [] := by
  refine Go.iloadN d2_0 (q := 1) rfl rfl ?_
  refine Go.if_ne d2_1 (q := 19) (q' := 4) (by decide) rfl rfl (fun c13 => ?_) (fun c13 => ?_)
  · skip
    refine Go.iloadN d2_19 (q := 20) rfl rfl ?_
    refine Go.iconst d2_20 (q := 21) rfl (x := (1 : Int32)) (by decide) ?_
    refine Go.icmp_ne d2_21 (q := 39) (q' := 24) (by decide) rfl rfl (fun c14 => ?_) (fun c14 => ?_)
    · skip
      refine Go.iloadN d2_39 (q := 40) rfl rfl ?_
      refine Go.iconst d2_40 (q := 41) rfl (x := (2 : Int32)) (by decide) ?_
      refine Go.icmp_ne d2_41 (q := 58) (q' := 44) (by decide) rfl rfl (fun c15 => ?_) (fun c15 => ?_)
      · skip
        refine Go.iloadN d2_58 (q := 59) rfl rfl ?_
        refine Go.iconst d2_59 (q := 60) rfl (x := (3 : Int32)) (by decide) ?_
        refine Go.icmp_ne d2_60 (q := 65) (q' := 63) (by decide) rfl rfl (fun c16 => ?_) (fun c16 => ?_)
        · skip
          refine Go.iloadN d2_65 (q := 66) rfl rfl ?_
          refine Go.iconst d2_66 (q := 67) rfl (x := (4 : Int32)) (by decide) ?_
          refine Go.icmp_ne d2_67 (q := 86) (q' := 70) (by decide) rfl rfl (fun c17 => ?_) (fun c17 => ?_)
          · skip
            refine Go.lloadN d2_86 (q := 87) rfl rfl ?_
            refine Go.lloadN d2_87 (q := 88) rfl rfl ?_
            refine Go.ldc2 d2_88 (q := 91) rfl (v := (65535 : Int64)) (w33 hw) ?_
            refine Go.land d2_91 (q := 92) rfl ?_
            refine Go.lcmp d2_92 (q := 93) rfl ?_
            refine Go.lif_ne d2_93 (q := 100) (q' := 96) (by decide) rfl rfl (fun c18 => ?_) (fun c18 => ?_)
            · skip
              refine Go.iconst d2_100 (q := 101) rfl (x := (0 : Int32)) (by decide) ?_
              refine Go.zreturn d2_101 (by decide) (by decide) (by decide) ?_
              unfold refF at hQ
              rw [if_neg c13, if_neg c14, if_neg c15, if_neg c16, if_neg c17, if_neg c18] at hQ
              exact hQ
            · skip
              refine Go.iconst d2_96 (q := 97) rfl (x := (1 : Int32)) (by decide) ?_
              refine Go.goto d2_97 (q := 101) (by decide) rfl ?_
              refine Go.zreturn d2_101 (by decide) (by decide) (by decide) ?_
              unfold refF at hQ
              rw [if_neg c13, if_neg c14, if_neg c15, if_neg c16, if_neg c17, if_pos c18] at hQ
              exact hQ
          · skip
            refine Go.lloadN d2_70 (q := 71) rfl rfl ?_
            refine Go.lloadN d2_71 (q := 72) rfl rfl ?_
            refine Go.ldc2 d2_72 (q := 75) rfl (v := (255 : Int64)) (w21 hw) ?_
            refine Go.land d2_75 (q := 76) rfl ?_
            refine Go.lcmp d2_76 (q := 77) rfl ?_
            refine Go.lif_ne d2_77 (q := 84) (q' := 80) (by decide) rfl rfl (fun c19 => ?_) (fun c19 => ?_)
            · skip
              refine Go.iconst d2_84 (q := 85) rfl (x := (0 : Int32)) (by decide) ?_
              refine Go.zreturn d2_85 (by decide) (by decide) (by decide) ?_
              unfold refF at hQ
              rw [if_neg c13, if_neg c14, if_neg c15, if_neg c16, if_pos c17, if_neg c19] at hQ
              exact hQ
            · skip
              refine Go.iconst d2_80 (q := 81) rfl (x := (1 : Int32)) (by decide) ?_
              refine Go.goto d2_81 (q := 85) (by decide) rfl ?_
              refine Go.zreturn d2_85 (by decide) (by decide) (by decide) ?_
              unfold refF at hQ
              rw [if_neg c13, if_neg c14, if_neg c15, if_neg c16, if_pos c17, if_pos c19] at hQ
              exact hQ
        · skip
          refine Go.iconst d2_63 (q := 64) rfl (x := (1 : Int32)) (by decide) ?_
          refine Go.zreturn d2_64 (by decide) (by decide) (by decide) ?_
          unfold refF at hQ
          rw [if_neg c13, if_neg c14, if_neg c15, if_pos c16] at hQ
          exact hQ
      · skip
        refine Go.lloadN d2_44 (q := 45) rfl rfl ?_
        refine Go.lloadN d2_45 (q := 46) rfl rfl ?_
        refine Go.l2i d2_46 (q := 47) rfl ?_
        refine Go.i2l d2_47 (q := 48) rfl ?_
        refine Go.lcmp d2_48 (q := 49) rfl ?_
        refine Go.lif_ne d2_49 (q := 56) (q' := 52) (by decide) rfl rfl (fun c20 => ?_) (fun c20 => ?_)
        · skip
          refine Go.iconst d2_56 (q := 57) rfl (x := (0 : Int32)) (by decide) ?_
          refine Go.zreturn d2_57 (by decide) (by decide) (by decide) ?_
          unfold refF at hQ
          rw [if_neg c13, if_neg c14, if_pos c15, if_neg c20] at hQ
          exact hQ
        · skip
          refine Go.iconst d2_52 (q := 53) rfl (x := (1 : Int32)) (by decide) ?_
          refine Go.goto d2_53 (q := 57) (by decide) rfl ?_
          refine Go.zreturn d2_57 (by decide) (by decide) (by decide) ?_
          unfold refF at hQ
          rw [if_neg c13, if_neg c14, if_pos c15, if_pos c20] at hQ
          exact hQ
    · skip
      refine Go.lloadN d2_24 (q := 25) rfl rfl ?_
      refine Go.lloadN d2_25 (q := 26) rfl rfl ?_
      refine Go.l2i d2_26 (q := 27) rfl ?_
      refine Go.i2s d2_27 (q := 28) rfl ?_
      refine Go.i2l d2_28 (q := 29) rfl ?_
      refine Go.lcmp d2_29 (q := 30) rfl ?_
      refine Go.lif_ne d2_30 (q := 37) (q' := 33) (by decide) rfl rfl (fun c21 => ?_) (fun c21 => ?_)
      · skip
        refine Go.iconst d2_37 (q := 38) rfl (x := (0 : Int32)) (by decide) ?_
        refine Go.zreturn d2_38 (by decide) (by decide) (by decide) ?_
        unfold refF at hQ
        rw [if_neg c13, if_pos c14, if_neg c21] at hQ
        exact hQ
      · skip
        refine Go.iconst d2_33 (q := 34) rfl (x := (1 : Int32)) (by decide) ?_
        refine Go.goto d2_34 (q := 38) (by decide) rfl ?_
        refine Go.zreturn d2_38 (by decide) (by decide) (by decide) ?_
        unfold refF at hQ
        rw [if_neg c13, if_pos c14, if_pos c21] at hQ
        exact hQ
  · skip
    refine Go.lloadN d2_4 (q := 5) rfl rfl ?_
    refine Go.lloadN d2_5 (q := 6) rfl rfl ?_
    refine Go.l2i d2_6 (q := 7) rfl ?_
    refine Go.i2b d2_7 (q := 8) rfl ?_
    refine Go.i2l d2_8 (q := 9) rfl ?_
    refine Go.lcmp d2_9 (q := 10) rfl ?_
    refine Go.lif_ne d2_10 (q := 17) (q' := 13) (by decide) rfl rfl (fun c22 => ?_) (fun c22 => ?_)
    · skip
      refine Go.iconst d2_17 (q := 18) rfl (x := (0 : Int32)) (by decide) ?_
      refine Go.zreturn d2_18 (by decide) (by decide) (by decide) ?_
      unfold refF at hQ
      rw [if_pos c13, if_neg c22] at hQ
      exact hQ
    · skip
      refine Go.iconst d2_13 (q := 14) rfl (x := (1 : Int32)) (by decide) ?_
      refine Go.goto d2_14 (q := 18) (by decide) rfl ?_
      refine Go.zreturn d2_18 (by decide) (by decide) (by decide) ?_
      unfold refF at hQ
      rw [if_pos c13, if_pos c22] at hQ
      exact hQ
theorem hd0 (v : Int64) : hdF (-128 : Int64) (127 : Int64) v = if v = v.toInt32.toInt8.toInt32.toInt64 then (1 : Int32) else (0 : Int32) := by
  have f0 := c_l2i v
  have f1 := c_i2b v.toInt32
  have f2 := c_i2l v.toInt32.toInt8.toInt32
  have m1 : (-128 : Int64).toInt = -128 := rfl
  have m2 : (127 : Int64).toInt = 127 := rfl
  unfold hdF
  by_cases b1 : v < (-128 : Int64)
  · rw [if_pos b1, if_neg (by rw [Int64.lt_iff_toInt_lt] at b1; rw [← Int64.toInt_inj]; omega)]
  · rw [if_neg b1]
    by_cases b2 : (127 : Int64) < v
    · rw [if_pos b2, if_neg (by rw [Int64.lt_iff_toInt_lt] at b2; rw [← Int64.toInt_inj]; omega)]
    · rw [if_neg b2, if_pos (by rw [Int64.lt_iff_toInt_lt] at b1 b2; rw [← Int64.toInt_inj]; omega)]
theorem eq0 (v : Int64) : hdF (-128 : Int64) (127 : Int64) v = refF (0 : Int32) v := by
  rw [hd0]; rfl
theorem hd1 (v : Int64) : hdF (-32768 : Int64) (32767 : Int64) v = if v = v.toInt32.toInt16.toInt32.toInt64 then (1 : Int32) else (0 : Int32) := by
  have f0 := c_l2i v
  have f1 := c_i2s v.toInt32
  have f2 := c_i2l v.toInt32.toInt16.toInt32
  have m1 : (-32768 : Int64).toInt = -32768 := rfl
  have m2 : (32767 : Int64).toInt = 32767 := rfl
  unfold hdF
  by_cases b1 : v < (-32768 : Int64)
  · rw [if_pos b1, if_neg (by rw [Int64.lt_iff_toInt_lt] at b1; rw [← Int64.toInt_inj]; omega)]
  · rw [if_neg b1]
    by_cases b2 : (32767 : Int64) < v
    · rw [if_pos b2, if_neg (by rw [Int64.lt_iff_toInt_lt] at b2; rw [← Int64.toInt_inj]; omega)]
    · rw [if_neg b2, if_pos (by rw [Int64.lt_iff_toInt_lt] at b1 b2; rw [← Int64.toInt_inj]; omega)]
theorem eq1 (v : Int64) : hdF (-32768 : Int64) (32767 : Int64) v = refF (1 : Int32) v := by
  rw [hd1]; rfl
theorem hd2 (v : Int64) : hdF (-2147483648 : Int64) (2147483647 : Int64) v = if v = v.toInt32.toInt64 then (1 : Int32) else (0 : Int32) := by
  have f0 := c_l2i v
  have f1 := c_i2l v.toInt32
  have f2 := rng32 v.toInt32
  have m1 : (-2147483648 : Int64).toInt = -2147483648 := rfl
  have m2 : (2147483647 : Int64).toInt = 2147483647 := rfl
  unfold hdF
  by_cases b1 : v < (-2147483648 : Int64)
  · rw [if_pos b1, if_neg (by rw [Int64.lt_iff_toInt_lt] at b1; rw [← Int64.toInt_inj]; omega)]
  · rw [if_neg b1]
    by_cases b2 : (2147483647 : Int64) < v
    · rw [if_pos b2, if_neg (by rw [Int64.lt_iff_toInt_lt] at b2; rw [← Int64.toInt_inj]; omega)]
    · rw [if_neg b2, if_pos (by rw [Int64.lt_iff_toInt_lt] at b1 b2; rw [← Int64.toInt_inj]; omega)]
theorem eq2 (v : Int64) : hdF (-2147483648 : Int64) (2147483647 : Int64) v = refF (2 : Int32) v := by
  rw [hd2]; rfl
theorem hd3 (v : Int64) : hdF (-9223372036854775808 : Int64) (9223372036854775807 : Int64) v = 1 := by
  have r := rng64 v
  have m1 : (-9223372036854775808 : Int64).toInt = -9223372036854775808 := rfl
  have m2 : (9223372036854775807 : Int64).toInt = 9223372036854775807 := rfl
  unfold hdF
  rw [if_neg (by rw [Int64.lt_iff_toInt_lt]; omega), if_neg (by rw [Int64.lt_iff_toInt_lt]; omega)]
theorem eq3 (v : Int64) : hdF (-9223372036854775808 : Int64) (9223372036854775807 : Int64) v = refF (3 : Int32) v := by
  rw [hd3]; rfl
theorem hd4 (v : Int64) : hdF (0 : Int64) (255 : Int64) v = if v = (v &&& (255 : Int64)) then (1 : Int32) else (0 : Int32) := by
  have f0 := c_maskL v 255 8 (by decide) (by decide)
  have m1 : (0 : Int64).toInt = 0 := rfl
  have m2 : (255 : Int64).toInt = 255 := rfl
  unfold hdF
  by_cases b1 : v < (0 : Int64)
  · rw [if_pos b1, if_neg (by rw [Int64.lt_iff_toInt_lt] at b1; rw [← Int64.toInt_inj]; omega)]
  · rw [if_neg b1]
    by_cases b2 : (255 : Int64) < v
    · rw [if_pos b2, if_neg (by rw [Int64.lt_iff_toInt_lt] at b2; rw [← Int64.toInt_inj]; omega)]
    · rw [if_neg b2, if_pos (by rw [Int64.lt_iff_toInt_lt] at b1 b2; rw [← Int64.toInt_inj]; omega)]
theorem eq4 (v : Int64) : hdF (0 : Int64) (255 : Int64) v = refF (4 : Int32) v := by
  rw [hd4]; rfl
theorem hd5 (v : Int64) : hdF (0 : Int64) (65535 : Int64) v = if v = (v &&& (65535 : Int64)) then (1 : Int32) else (0 : Int32) := by
  have f0 := c_maskL v 65535 16 (by decide) (by decide)
  have m1 : (0 : Int64).toInt = 0 := rfl
  have m2 : (65535 : Int64).toInt = 65535 := rfl
  unfold hdF
  by_cases b1 : v < (0 : Int64)
  · rw [if_pos b1, if_neg (by rw [Int64.lt_iff_toInt_lt] at b1; rw [← Int64.toInt_inj]; omega)]
  · rw [if_neg b1]
    by_cases b2 : (65535 : Int64) < v
    · rw [if_pos b2, if_neg (by rw [Int64.lt_iff_toInt_lt] at b2; rw [← Int64.toInt_inj]; omega)]
    · rw [if_neg b2, if_pos (by rw [Int64.lt_iff_toInt_lt] at b1 b2; rw [← Int64.toInt_inj]; omega)]
theorem eq5 (v : Int64) : hdF (0 : Int64) (65535 : Int64) v = refF (5 : Int32) v := by
  rw [hd5]; rfl
set_option maxRecDepth 65536 in
set_option maxHeartbeats 40000000 in
theorem j150_0 (l : Launch) (Z : State) (a0 : Array Value) (hw : Hw a0 Z) (n0 : Nat) (h : Heap) (O : Old Z n0 h) (p : Int32) (n : Int64) (q s : Int32) (v : Int64) (a_TINYINT a_SMALLINT a_CHAR a_BIGINT a_INT a_VARCHAR : Addr) (F : Facts Z a_TINYINT a_SMALLINT a_CHAR a_BIGINT a_INT a_VARCHAR) :
    Go l Z x code maxLocals ret room_1 n0 (fun v _ => v = some (.int 1)) h 0 0 150 #[.val (.int p), .val (.long n), .second, .val (.int q), .val (.int (0 : Int32)), .val (.int s), .val (.long v), .second, .unset] [] := by
  refine Go.iload at_150 (q := 152) rfl rfl ?_
  refine Go.if_ne at_152 (q := 163) (q' := 155) (by decide) rfl rfl (fun c => absurd (by decide) c) (fun _ => ?_)
  refine Go.getS at_155 (q := 158) rfl (w1 hw) (F.S_TINYINT.ext O.2) ?_
  refine Go.astore at_158 (q := 160) rfl rfl (Ls' := #[.val (.int p), .val (.long n), .second, .val (.int q), .val (.int (0 : Int32)), .val (.int s), .val (.long v), .second, .val (.ref a_TINYINT)]) rfl ?_
  refine Go.goto at_160 (q := 224) (by decide) rfl ?_
  refine Go.aload at_224 (q := 226) rfl rfl rfl ?_
  refine Go.lload at_226 (q := 228) rfl rfl ?_
  refine Go.callVV (P := fun w h' => w = .int (hdF (-128 : Int64) (127 : Int64) v) ∧ h = h') (argsL := [(.long v)]) (rest := []) (wd := 0) (Ls1 := #[.val (.ref a_TINYINT), .val (.long v), .second]) at_228 (q := 231) rfl (w4 hw) (w5 hw) (w7 hw) (w6 hw) (w8 hw) (w2 hw) (by decide) pn1 pd1 rfl rfl (F.E_TINYINT.ext O.2) (fun m => rfl) rfl (by decide) rfl (by decide) (by decide) (by decide) (b1_0 l Z a0 hw n0 h O v a_TINYINT a_SMALLINT a_CHAR a_BIGINT a_INT a_VARCHAR F (Q := RV (fun w h' => w = .int (hdF (-128 : Int64) (127 : Int64) v) ∧ h = h')) ⟨_, rfl, rfl, rfl⟩) ?_
  rintro _ _ ⟨rfl, rfl⟩
  refine Go.iload at_231 (q := 233) rfl rfl ?_
  refine Go.lload at_233 (q := 235) rfl rfl ?_
  refine Go.callSV (P := fun w h' => w = .int (refF (0 : Int32) v) ∧ h = h') (argsL := [(.int (0 : Int32)), (.long v)]) (rest := [(.int (hdF (-128 : Int64) (127 : Int64) v))]) (wd := 1) (Ls1 := #[.val (.int (0 : Int32)), .val (.long v), .second]) at_235 (q := 238) rfl (w13 hw) (w14 hw) (w15 hw) (w16 hw) (by decide) pn2 pd2 rfl rfl (fun m => rfl) rfl (by decide) rfl (by decide) (by decide) (by decide) (b2 l Z a0 hw n0 h (0 : Int32) v (Q := RV (fun w h' => w = .int (refF (0 : Int32) v) ∧ h = h')) ⟨_, rfl, rfl, rfl⟩) ?_
  rintro _ _ ⟨rfl, rfl⟩
  refine Go.icmp_ne at_238 (q := 245) (q' := 241) (by decide) rfl rfl (fun c => absurd (eq0 _) c) (fun _ => ?_)
  refine Go.iconst at_241 (q := 242) rfl (x := (1 : Int32)) (by decide) ?_
  refine Go.goto at_242 (q := 246) (by decide) rfl ?_
  refine Go.zreturn at_246 (by decide) (by decide) (by decide) ?_
  rfl
set_option maxRecDepth 65536 in
set_option maxHeartbeats 40000000 in
theorem j150_1 (l : Launch) (Z : State) (a0 : Array Value) (hw : Hw a0 Z) (n0 : Nat) (h : Heap) (O : Old Z n0 h) (p : Int32) (n : Int64) (q s : Int32) (v : Int64) (a_TINYINT a_SMALLINT a_CHAR a_BIGINT a_INT a_VARCHAR : Addr) (F : Facts Z a_TINYINT a_SMALLINT a_CHAR a_BIGINT a_INT a_VARCHAR) :
    Go l Z x code maxLocals ret room_1 n0 (fun v _ => v = some (.int 1)) h 0 0 150 #[.val (.int p), .val (.long n), .second, .val (.int q), .val (.int (1 : Int32)), .val (.int s), .val (.long v), .second, .unset] [] := by
  refine Go.iload at_150 (q := 152) rfl rfl ?_
  refine Go.if_ne at_152 (q := 163) (q' := 155) (by decide) rfl rfl (fun _ => ?_) (fun c => absurd c (by decide))
  refine Go.iload at_163 (q := 165) rfl rfl ?_
  refine Go.iconst at_165 (q := 166) rfl (x := (1 : Int32)) (by decide) ?_
  refine Go.icmp_ne at_166 (q := 177) (q' := 169) (by decide) rfl rfl (fun c => absurd (by decide) c) (fun _ => ?_)
  refine Go.getS at_169 (q := 172) rfl (w17 hw) (F.S_SMALLINT.ext O.2) ?_
  refine Go.astore at_172 (q := 174) rfl rfl (Ls' := #[.val (.int p), .val (.long n), .second, .val (.int q), .val (.int (1 : Int32)), .val (.int s), .val (.long v), .second, .val (.ref a_SMALLINT)]) rfl ?_
  refine Go.goto at_174 (q := 224) (by decide) rfl ?_
  refine Go.aload at_224 (q := 226) rfl rfl rfl ?_
  refine Go.lload at_226 (q := 228) rfl rfl ?_
  refine Go.callVV (P := fun w h' => w = .int (hdF (-32768 : Int64) (32767 : Int64) v) ∧ h = h') (argsL := [(.long v)]) (rest := []) (wd := 0) (Ls1 := #[.val (.ref a_SMALLINT), .val (.long v), .second]) at_228 (q := 231) rfl (w4 hw) (w5 hw) (w7 hw) (w6 hw) (w8 hw) (w2 hw) (by decide) pn1 pd1 rfl rfl (F.E_SMALLINT.ext O.2) (fun m => rfl) rfl (by decide) rfl (by decide) (by decide) (by decide) (b1_1 l Z a0 hw n0 h O v a_TINYINT a_SMALLINT a_CHAR a_BIGINT a_INT a_VARCHAR F (Q := RV (fun w h' => w = .int (hdF (-32768 : Int64) (32767 : Int64) v) ∧ h = h')) ⟨_, rfl, rfl, rfl⟩) ?_
  rintro _ _ ⟨rfl, rfl⟩
  refine Go.iload at_231 (q := 233) rfl rfl ?_
  refine Go.lload at_233 (q := 235) rfl rfl ?_
  refine Go.callSV (P := fun w h' => w = .int (refF (1 : Int32) v) ∧ h = h') (argsL := [(.int (1 : Int32)), (.long v)]) (rest := [(.int (hdF (-32768 : Int64) (32767 : Int64) v))]) (wd := 1) (Ls1 := #[.val (.int (1 : Int32)), .val (.long v), .second]) at_235 (q := 238) rfl (w13 hw) (w14 hw) (w15 hw) (w16 hw) (by decide) pn2 pd2 rfl rfl (fun m => rfl) rfl (by decide) rfl (by decide) (by decide) (by decide) (b2 l Z a0 hw n0 h (1 : Int32) v (Q := RV (fun w h' => w = .int (refF (1 : Int32) v) ∧ h = h')) ⟨_, rfl, rfl, rfl⟩) ?_
  rintro _ _ ⟨rfl, rfl⟩
  refine Go.icmp_ne at_238 (q := 245) (q' := 241) (by decide) rfl rfl (fun c => absurd (eq1 _) c) (fun _ => ?_)
  refine Go.iconst at_241 (q := 242) rfl (x := (1 : Int32)) (by decide) ?_
  refine Go.goto at_242 (q := 246) (by decide) rfl ?_
  refine Go.zreturn at_246 (by decide) (by decide) (by decide) ?_
  rfl
set_option maxRecDepth 65536 in
set_option maxHeartbeats 40000000 in
theorem j150_2 (l : Launch) (Z : State) (a0 : Array Value) (hw : Hw a0 Z) (n0 : Nat) (h : Heap) (O : Old Z n0 h) (p : Int32) (n : Int64) (q s : Int32) (v : Int64) (a_TINYINT a_SMALLINT a_CHAR a_BIGINT a_INT a_VARCHAR : Addr) (F : Facts Z a_TINYINT a_SMALLINT a_CHAR a_BIGINT a_INT a_VARCHAR) :
    Go l Z x code maxLocals ret room_1 n0 (fun v _ => v = some (.int 1)) h 0 0 150 #[.val (.int p), .val (.long n), .second, .val (.int q), .val (.int (2 : Int32)), .val (.int s), .val (.long v), .second, .unset] [] := by
  refine Go.iload at_150 (q := 152) rfl rfl ?_
  refine Go.if_ne at_152 (q := 163) (q' := 155) (by decide) rfl rfl (fun _ => ?_) (fun c => absurd c (by decide))
  refine Go.iload at_163 (q := 165) rfl rfl ?_
  refine Go.iconst at_165 (q := 166) rfl (x := (1 : Int32)) (by decide) ?_
  refine Go.icmp_ne at_166 (q := 177) (q' := 169) (by decide) rfl rfl (fun _ => ?_) (fun c => absurd c (by decide))
  refine Go.iload at_177 (q := 179) rfl rfl ?_
  refine Go.iconst at_179 (q := 180) rfl (x := (2 : Int32)) (by decide) ?_
  refine Go.icmp_ne at_180 (q := 191) (q' := 183) (by decide) rfl rfl (fun c => absurd (by decide) c) (fun _ => ?_)
  refine Go.getS at_183 (q := 186) rfl (w24 hw) (F.S_INT.ext O.2) ?_
  refine Go.astore at_186 (q := 188) rfl rfl (Ls' := #[.val (.int p), .val (.long n), .second, .val (.int q), .val (.int (2 : Int32)), .val (.int s), .val (.long v), .second, .val (.ref a_INT)]) rfl ?_
  refine Go.goto at_188 (q := 224) (by decide) rfl ?_
  refine Go.aload at_224 (q := 226) rfl rfl rfl ?_
  refine Go.lload at_226 (q := 228) rfl rfl ?_
  refine Go.callVV (P := fun w h' => w = .int (hdF (-2147483648 : Int64) (2147483647 : Int64) v) ∧ h = h') (argsL := [(.long v)]) (rest := []) (wd := 0) (Ls1 := #[.val (.ref a_INT), .val (.long v), .second]) at_228 (q := 231) rfl (w4 hw) (w5 hw) (w7 hw) (w6 hw) (w8 hw) (w2 hw) (by decide) pn1 pd1 rfl rfl (F.E_INT.ext O.2) (fun m => rfl) rfl (by decide) rfl (by decide) (by decide) (by decide) (b1_2 l Z a0 hw n0 h O v a_TINYINT a_SMALLINT a_CHAR a_BIGINT a_INT a_VARCHAR F (Q := RV (fun w h' => w = .int (hdF (-2147483648 : Int64) (2147483647 : Int64) v) ∧ h = h')) ⟨_, rfl, rfl, rfl⟩) ?_
  rintro _ _ ⟨rfl, rfl⟩
  refine Go.iload at_231 (q := 233) rfl rfl ?_
  refine Go.lload at_233 (q := 235) rfl rfl ?_
  refine Go.callSV (P := fun w h' => w = .int (refF (2 : Int32) v) ∧ h = h') (argsL := [(.int (2 : Int32)), (.long v)]) (rest := [(.int (hdF (-2147483648 : Int64) (2147483647 : Int64) v))]) (wd := 1) (Ls1 := #[.val (.int (2 : Int32)), .val (.long v), .second]) at_235 (q := 238) rfl (w13 hw) (w14 hw) (w15 hw) (w16 hw) (by decide) pn2 pd2 rfl rfl (fun m => rfl) rfl (by decide) rfl (by decide) (by decide) (by decide) (b2 l Z a0 hw n0 h (2 : Int32) v (Q := RV (fun w h' => w = .int (refF (2 : Int32) v) ∧ h = h')) ⟨_, rfl, rfl, rfl⟩) ?_
  rintro _ _ ⟨rfl, rfl⟩
  refine Go.icmp_ne at_238 (q := 245) (q' := 241) (by decide) rfl rfl (fun c => absurd (eq2 _) c) (fun _ => ?_)
  refine Go.iconst at_241 (q := 242) rfl (x := (1 : Int32)) (by decide) ?_
  refine Go.goto at_242 (q := 246) (by decide) rfl ?_
  refine Go.zreturn at_246 (by decide) (by decide) (by decide) ?_
  rfl
set_option maxRecDepth 65536 in
set_option maxHeartbeats 40000000 in
theorem j150_3 (l : Launch) (Z : State) (a0 : Array Value) (hw : Hw a0 Z) (n0 : Nat) (h : Heap) (O : Old Z n0 h) (p : Int32) (n : Int64) (q s : Int32) (v : Int64) (a_TINYINT a_SMALLINT a_CHAR a_BIGINT a_INT a_VARCHAR : Addr) (F : Facts Z a_TINYINT a_SMALLINT a_CHAR a_BIGINT a_INT a_VARCHAR) :
    Go l Z x code maxLocals ret room_1 n0 (fun v _ => v = some (.int 1)) h 0 0 150 #[.val (.int p), .val (.long n), .second, .val (.int q), .val (.int (3 : Int32)), .val (.int s), .val (.long v), .second, .unset] [] := by
  refine Go.iload at_150 (q := 152) rfl rfl ?_
  refine Go.if_ne at_152 (q := 163) (q' := 155) (by decide) rfl rfl (fun _ => ?_) (fun c => absurd c (by decide))
  refine Go.iload at_163 (q := 165) rfl rfl ?_
  refine Go.iconst at_165 (q := 166) rfl (x := (1 : Int32)) (by decide) ?_
  refine Go.icmp_ne at_166 (q := 177) (q' := 169) (by decide) rfl rfl (fun _ => ?_) (fun c => absurd c (by decide))
  refine Go.iload at_177 (q := 179) rfl rfl ?_
  refine Go.iconst at_179 (q := 180) rfl (x := (2 : Int32)) (by decide) ?_
  refine Go.icmp_ne at_180 (q := 191) (q' := 183) (by decide) rfl rfl (fun _ => ?_) (fun c => absurd c (by decide))
  refine Go.iload at_191 (q := 193) rfl rfl ?_
  refine Go.iconst at_193 (q := 194) rfl (x := (3 : Int32)) (by decide) ?_
  refine Go.icmp_ne at_194 (q := 205) (q' := 197) (by decide) rfl rfl (fun c => absurd (by decide) c) (fun _ => ?_)
  refine Go.getS at_197 (q := 200) rfl (w22 hw) (F.S_BIGINT.ext O.2) ?_
  refine Go.astore at_200 (q := 202) rfl rfl (Ls' := #[.val (.int p), .val (.long n), .second, .val (.int q), .val (.int (3 : Int32)), .val (.int s), .val (.long v), .second, .val (.ref a_BIGINT)]) rfl ?_
  refine Go.goto at_202 (q := 224) (by decide) rfl ?_
  refine Go.aload at_224 (q := 226) rfl rfl rfl ?_
  refine Go.lload at_226 (q := 228) rfl rfl ?_
  refine Go.callVV (P := fun w h' => w = .int (hdF (-9223372036854775808 : Int64) (9223372036854775807 : Int64) v) ∧ h = h') (argsL := [(.long v)]) (rest := []) (wd := 0) (Ls1 := #[.val (.ref a_BIGINT), .val (.long v), .second]) at_228 (q := 231) rfl (w4 hw) (w5 hw) (w7 hw) (w6 hw) (w8 hw) (w2 hw) (by decide) pn1 pd1 rfl rfl (F.E_BIGINT.ext O.2) (fun m => rfl) rfl (by decide) rfl (by decide) (by decide) (by decide) (b1_3 l Z a0 hw n0 h O v a_TINYINT a_SMALLINT a_CHAR a_BIGINT a_INT a_VARCHAR F (Q := RV (fun w h' => w = .int (hdF (-9223372036854775808 : Int64) (9223372036854775807 : Int64) v) ∧ h = h')) ⟨_, rfl, rfl, rfl⟩) ?_
  rintro _ _ ⟨rfl, rfl⟩
  refine Go.iload at_231 (q := 233) rfl rfl ?_
  refine Go.lload at_233 (q := 235) rfl rfl ?_
  refine Go.callSV (P := fun w h' => w = .int (refF (3 : Int32) v) ∧ h = h') (argsL := [(.int (3 : Int32)), (.long v)]) (rest := [(.int (hdF (-9223372036854775808 : Int64) (9223372036854775807 : Int64) v))]) (wd := 1) (Ls1 := #[.val (.int (3 : Int32)), .val (.long v), .second]) at_235 (q := 238) rfl (w13 hw) (w14 hw) (w15 hw) (w16 hw) (by decide) pn2 pd2 rfl rfl (fun m => rfl) rfl (by decide) rfl (by decide) (by decide) (by decide) (b2 l Z a0 hw n0 h (3 : Int32) v (Q := RV (fun w h' => w = .int (refF (3 : Int32) v) ∧ h = h')) ⟨_, rfl, rfl, rfl⟩) ?_
  rintro _ _ ⟨rfl, rfl⟩
  refine Go.icmp_ne at_238 (q := 245) (q' := 241) (by decide) rfl rfl (fun c => absurd (eq3 _) c) (fun _ => ?_)
  refine Go.iconst at_241 (q := 242) rfl (x := (1 : Int32)) (by decide) ?_
  refine Go.goto at_242 (q := 246) (by decide) rfl ?_
  refine Go.zreturn at_246 (by decide) (by decide) (by decide) ?_
  rfl
set_option maxRecDepth 65536 in
set_option maxHeartbeats 40000000 in
theorem j150_4 (l : Launch) (Z : State) (a0 : Array Value) (hw : Hw a0 Z) (n0 : Nat) (h : Heap) (O : Old Z n0 h) (p : Int32) (n : Int64) (q s : Int32) (v : Int64) (a_TINYINT a_SMALLINT a_CHAR a_BIGINT a_INT a_VARCHAR : Addr) (F : Facts Z a_TINYINT a_SMALLINT a_CHAR a_BIGINT a_INT a_VARCHAR) :
    Go l Z x code maxLocals ret room_1 n0 (fun v _ => v = some (.int 1)) h 0 0 150 #[.val (.int p), .val (.long n), .second, .val (.int q), .val (.int (4 : Int32)), .val (.int s), .val (.long v), .second, .unset] [] := by
  refine Go.iload at_150 (q := 152) rfl rfl ?_
  refine Go.if_ne at_152 (q := 163) (q' := 155) (by decide) rfl rfl (fun _ => ?_) (fun c => absurd c (by decide))
  refine Go.iload at_163 (q := 165) rfl rfl ?_
  refine Go.iconst at_165 (q := 166) rfl (x := (1 : Int32)) (by decide) ?_
  refine Go.icmp_ne at_166 (q := 177) (q' := 169) (by decide) rfl rfl (fun _ => ?_) (fun c => absurd c (by decide))
  refine Go.iload at_177 (q := 179) rfl rfl ?_
  refine Go.iconst at_179 (q := 180) rfl (x := (2 : Int32)) (by decide) ?_
  refine Go.icmp_ne at_180 (q := 191) (q' := 183) (by decide) rfl rfl (fun _ => ?_) (fun c => absurd c (by decide))
  refine Go.iload at_191 (q := 193) rfl rfl ?_
  refine Go.iconst at_193 (q := 194) rfl (x := (3 : Int32)) (by decide) ?_
  refine Go.icmp_ne at_194 (q := 205) (q' := 197) (by decide) rfl rfl (fun _ => ?_) (fun c => absurd c (by decide))
  refine Go.iload at_205 (q := 207) rfl rfl ?_
  refine Go.iconst at_207 (q := 208) rfl (x := (4 : Int32)) (by decide) ?_
  refine Go.icmp_ne at_208 (q := 219) (q' := 211) (by decide) rfl rfl (fun c => absurd (by decide) c) (fun _ => ?_)
  refine Go.getS at_211 (q := 214) rfl (w19 hw) (F.S_CHAR.ext O.2) ?_
  refine Go.astore at_214 (q := 216) rfl rfl (Ls' := #[.val (.int p), .val (.long n), .second, .val (.int q), .val (.int (4 : Int32)), .val (.int s), .val (.long v), .second, .val (.ref a_CHAR)]) rfl ?_
  refine Go.goto at_216 (q := 224) (by decide) rfl ?_
  refine Go.aload at_224 (q := 226) rfl rfl rfl ?_
  refine Go.lload at_226 (q := 228) rfl rfl ?_
  refine Go.callVV (P := fun w h' => w = .int (hdF (0 : Int64) (255 : Int64) v) ∧ h = h') (argsL := [(.long v)]) (rest := []) (wd := 0) (Ls1 := #[.val (.ref a_CHAR), .val (.long v), .second]) at_228 (q := 231) rfl (w4 hw) (w5 hw) (w7 hw) (w6 hw) (w8 hw) (w2 hw) (by decide) pn1 pd1 rfl rfl (F.E_CHAR.ext O.2) (fun m => rfl) rfl (by decide) rfl (by decide) (by decide) (by decide) (b1_4 l Z a0 hw n0 h O v a_TINYINT a_SMALLINT a_CHAR a_BIGINT a_INT a_VARCHAR F (Q := RV (fun w h' => w = .int (hdF (0 : Int64) (255 : Int64) v) ∧ h = h')) ⟨_, rfl, rfl, rfl⟩) ?_
  rintro _ _ ⟨rfl, rfl⟩
  refine Go.iload at_231 (q := 233) rfl rfl ?_
  refine Go.lload at_233 (q := 235) rfl rfl ?_
  refine Go.callSV (P := fun w h' => w = .int (refF (4 : Int32) v) ∧ h = h') (argsL := [(.int (4 : Int32)), (.long v)]) (rest := [(.int (hdF (0 : Int64) (255 : Int64) v))]) (wd := 1) (Ls1 := #[.val (.int (4 : Int32)), .val (.long v), .second]) at_235 (q := 238) rfl (w13 hw) (w14 hw) (w15 hw) (w16 hw) (by decide) pn2 pd2 rfl rfl (fun m => rfl) rfl (by decide) rfl (by decide) (by decide) (by decide) (b2 l Z a0 hw n0 h (4 : Int32) v (Q := RV (fun w h' => w = .int (refF (4 : Int32) v) ∧ h = h')) ⟨_, rfl, rfl, rfl⟩) ?_
  rintro _ _ ⟨rfl, rfl⟩
  refine Go.icmp_ne at_238 (q := 245) (q' := 241) (by decide) rfl rfl (fun c => absurd (eq4 _) c) (fun _ => ?_)
  refine Go.iconst at_241 (q := 242) rfl (x := (1 : Int32)) (by decide) ?_
  refine Go.goto at_242 (q := 246) (by decide) rfl ?_
  refine Go.zreturn at_246 (by decide) (by decide) (by decide) ?_
  rfl
set_option maxRecDepth 65536 in
set_option maxHeartbeats 40000000 in
theorem j150_5 (l : Launch) (Z : State) (a0 : Array Value) (hw : Hw a0 Z) (n0 : Nat) (h : Heap) (O : Old Z n0 h) (p : Int32) (n : Int64) (q s : Int32) (v : Int64) (a_TINYINT a_SMALLINT a_CHAR a_BIGINT a_INT a_VARCHAR : Addr) (F : Facts Z a_TINYINT a_SMALLINT a_CHAR a_BIGINT a_INT a_VARCHAR) :
    Go l Z x code maxLocals ret room_1 n0 (fun v _ => v = some (.int 1)) h 0 0 150 #[.val (.int p), .val (.long n), .second, .val (.int q), .val (.int (5 : Int32)), .val (.int s), .val (.long v), .second, .unset] [] := by
  refine Go.iload at_150 (q := 152) rfl rfl ?_
  refine Go.if_ne at_152 (q := 163) (q' := 155) (by decide) rfl rfl (fun _ => ?_) (fun c => absurd c (by decide))
  refine Go.iload at_163 (q := 165) rfl rfl ?_
  refine Go.iconst at_165 (q := 166) rfl (x := (1 : Int32)) (by decide) ?_
  refine Go.icmp_ne at_166 (q := 177) (q' := 169) (by decide) rfl rfl (fun _ => ?_) (fun c => absurd c (by decide))
  refine Go.iload at_177 (q := 179) rfl rfl ?_
  refine Go.iconst at_179 (q := 180) rfl (x := (2 : Int32)) (by decide) ?_
  refine Go.icmp_ne at_180 (q := 191) (q' := 183) (by decide) rfl rfl (fun _ => ?_) (fun c => absurd c (by decide))
  refine Go.iload at_191 (q := 193) rfl rfl ?_
  refine Go.iconst at_193 (q := 194) rfl (x := (3 : Int32)) (by decide) ?_
  refine Go.icmp_ne at_194 (q := 205) (q' := 197) (by decide) rfl rfl (fun _ => ?_) (fun c => absurd c (by decide))
  refine Go.iload at_205 (q := 207) rfl rfl ?_
  refine Go.iconst at_207 (q := 208) rfl (x := (4 : Int32)) (by decide) ?_
  refine Go.icmp_ne at_208 (q := 219) (q' := 211) (by decide) rfl rfl (fun _ => ?_) (fun c => absurd c (by decide))
  refine Go.getS at_219 (q := 222) rfl (w31 hw) (F.S_VARCHAR.ext O.2) ?_
  refine Go.astore at_222 (q := 224) rfl rfl (Ls' := #[.val (.int p), .val (.long n), .second, .val (.int q), .val (.int (5 : Int32)), .val (.int s), .val (.long v), .second, .val (.ref a_VARCHAR)]) rfl ?_
  refine Go.aload at_224 (q := 226) rfl rfl rfl ?_
  refine Go.lload at_226 (q := 228) rfl rfl ?_
  refine Go.callVV (P := fun w h' => w = .int (hdF (0 : Int64) (65535 : Int64) v) ∧ h = h') (argsL := [(.long v)]) (rest := []) (wd := 0) (Ls1 := #[.val (.ref a_VARCHAR), .val (.long v), .second]) at_228 (q := 231) rfl (w4 hw) (w5 hw) (w7 hw) (w6 hw) (w8 hw) (w2 hw) (by decide) pn1 pd1 rfl rfl (F.E_VARCHAR.ext O.2) (fun m => rfl) rfl (by decide) rfl (by decide) (by decide) (by decide) (b1_5 l Z a0 hw n0 h O v a_TINYINT a_SMALLINT a_CHAR a_BIGINT a_INT a_VARCHAR F (Q := RV (fun w h' => w = .int (hdF (0 : Int64) (65535 : Int64) v) ∧ h = h')) ⟨_, rfl, rfl, rfl⟩) ?_
  rintro _ _ ⟨rfl, rfl⟩
  refine Go.iload at_231 (q := 233) rfl rfl ?_
  refine Go.lload at_233 (q := 235) rfl rfl ?_
  refine Go.callSV (P := fun w h' => w = .int (refF (5 : Int32) v) ∧ h = h') (argsL := [(.int (5 : Int32)), (.long v)]) (rest := [(.int (hdF (0 : Int64) (65535 : Int64) v))]) (wd := 1) (Ls1 := #[.val (.int (5 : Int32)), .val (.long v), .second]) at_235 (q := 238) rfl (w13 hw) (w14 hw) (w15 hw) (w16 hw) (by decide) pn2 pd2 rfl rfl (fun m => rfl) rfl (by decide) rfl (by decide) (by decide) (by decide) (b2 l Z a0 hw n0 h (5 : Int32) v (Q := RV (fun w h' => w = .int (refF (5 : Int32) v) ∧ h = h')) ⟨_, rfl, rfl, rfl⟩) ?_
  rintro _ _ ⟨rfl, rfl⟩
  refine Go.icmp_ne at_238 (q := 245) (q' := 241) (by decide) rfl rfl (fun c => absurd (eq5 _) c) (fun _ => ?_)
  refine Go.iconst at_241 (q := 242) rfl (x := (1 : Int32)) (by decide) ?_
  refine Go.goto at_242 (q := 246) (by decide) rfl ?_
  refine Go.zreturn at_246 (by decide) (by decide) (by decide) ?_
  rfl
theorem rem6 (x : Int32) : (x &&& 2147483647) % 6 = 0 ∨ (x &&& 2147483647) % 6 = 1 ∨ (x &&& 2147483647) % 6 = 2 ∨ (x &&& 2147483647) % 6 = 3 ∨ (x &&& 2147483647) % 6 = 4 ∨ (x &&& 2147483647) % 6 = 5 := by
  have e := c_mask x 2147483647 31 (by decide) (by decide)
  have e6 := (c_irem (x &&& 2147483647) 6 6 rfl).1 (by omega)
  simp only [← Int32.toInt_inj]
  have e0' : (0 : Int32).toInt = 0 := rfl
  have e1' : (1 : Int32).toInt = 1 := rfl
  have e2' : (2 : Int32).toInt = 2 := rfl
  have e3' : (3 : Int32).toInt = 3 := rfl
  have e4' : (4 : Int32).toInt = 4 := rfl
  have e5' : (5 : Int32).toInt = 5 := rfl
  omega
set_option maxRecDepth 65536 in
set_option maxHeartbeats 40000000 in
theorem j150 (l : Launch) (Z : State) (a0 : Array Value) (hw : Hw a0 Z) (n0 : Nat) (h : Heap) (O : Old Z n0 h) (p : Int32) (n : Int64) (q s : Int32) (v : Int64) (a_TINYINT a_SMALLINT a_CHAR a_BIGINT a_INT a_VARCHAR : Addr) (F : Facts Z a_TINYINT a_SMALLINT a_CHAR a_BIGINT a_INT a_VARCHAR) :
    Go l Z x code maxLocals ret room_1 n0 (fun v _ => v = some (.int 1)) h 0 0 150 #[.val (.int p), .val (.long n), .second, .val (.int q), .val (.int ((p &&& (2147483647 : Int32)) % (6 : Int32))), .val (.int s), .val (.long v), .second, .unset] [] := by
  rcases rem6 p with hx | hx | hx | hx | hx | hx <;> rw [hx]
  · exact j150_0 l Z a0 hw n0 h O _ _ _ _ _ a_TINYINT a_SMALLINT a_CHAR a_BIGINT a_INT a_VARCHAR F
  · exact j150_1 l Z a0 hw n0 h O _ _ _ _ _ a_TINYINT a_SMALLINT a_CHAR a_BIGINT a_INT a_VARCHAR F
  · exact j150_2 l Z a0 hw n0 h O _ _ _ _ _ a_TINYINT a_SMALLINT a_CHAR a_BIGINT a_INT a_VARCHAR F
  · exact j150_3 l Z a0 hw n0 h O _ _ _ _ _ a_TINYINT a_SMALLINT a_CHAR a_BIGINT a_INT a_VARCHAR F
  · exact j150_4 l Z a0 hw n0 h O _ _ _ _ _ a_TINYINT a_SMALLINT a_CHAR a_BIGINT a_INT a_VARCHAR F
  · exact j150_5 l Z a0 hw n0 h O _ _ _ _ _ a_TINYINT a_SMALLINT a_CHAR a_BIGINT a_INT a_VARCHAR F
set_option maxRecDepth 65536 in
set_option maxHeartbeats 40000000 in
theorem b0 (l : Launch) (Z : State) (a0 : Array Value) (hw : Hw a0 Z) (n0 : Nat) (h : Heap) (O : Old Z n0 h) (p : Int32) (n : Int64) (q : Int32) (a_TINYINT a_SMALLINT a_CHAR a_BIGINT a_INT a_VARCHAR : Addr) (F : Facts Z a_TINYINT a_SMALLINT a_CHAR a_BIGINT a_INT a_VARCHAR) :
    Go l Z x code maxLocals ret room_1 n0 (fun v _ => v = some (.int 1)) h 0 0 0 #[.val (.int p), .val (.long n), .second, .val (.int q), .unset, .unset, .unset, .unset, .unset] [] := by
  refine Go.iloadN at_0 (q := 1) rfl rfl ?_
  refine Go.ldc at_1 (q := 3) rfl (v := (2147483647 : Int32)) (w0 hw) ?_
  refine Go.iand at_3 (q := 4) rfl ?_
  refine Go.bipush at_4 (q := 6) rfl (x := (6 : Int32)) (by decide) ?_
  refine Go.irem at_6 (q := 7) rfl (by decide) ?_
  refine Go.istore at_7 (q := 9) rfl (Ls' := #[.val (.int p), .val (.long n), .second, .val (.int q), .val (.int ((p &&& (2147483647 : Int32)) % (6 : Int32))), .unset, .unset, .unset, .unset]) rfl ?_
  refine Go.iloadN at_9 (q := 10) rfl rfl ?_
  refine Go.bipush at_10 (q := 12) rfl (x := (7 : Int32)) (by decide) ?_
  refine Go.iand at_12 (q := 13) rfl ?_
  refine Go.istore at_13 (q := 15) rfl (Ls' := #[.val (.int p), .val (.long n), .second, .val (.int q), .val (.int ((p &&& (2147483647 : Int32)) % (6 : Int32))), .val (.int (q &&& (7 : Int32))), .unset, .unset, .unset]) rfl ?_
  refine Go.iload at_15 (q := 17) rfl rfl ?_
  refine Go.if_ne at_17 (q := 26) (q' := 20) (by decide) rfl rfl (fun c49 => ?_) (fun c49 => ?_)
  · skip
    refine Go.iload at_26 (q := 28) rfl rfl ?_
    refine Go.iconst at_28 (q := 29) rfl (x := (1 : Int32)) (by decide) ?_
    refine Go.icmp_ne at_29 (q := 40) (q' := 32) (by decide) rfl rfl (fun c50 => ?_) (fun c50 => ?_)
    · skip
      refine Go.iload at_40 (q := 42) rfl rfl ?_
      refine Go.iconst at_42 (q := 43) rfl (x := (2 : Int32)) (by decide) ?_
      refine Go.icmp_ne at_43 (q := 55) (q' := 46) (by decide) rfl rfl (fun c51 => ?_) (fun c51 => ?_)
      · skip
        refine Go.iload at_55 (q := 57) rfl rfl ?_
        refine Go.iconst at_57 (q := 58) rfl (x := (3 : Int32)) (by decide) ?_
        refine Go.icmp_ne at_58 (q := 70) (q' := 61) (by decide) rfl rfl (fun c52 => ?_) (fun c52 => ?_)
        · skip
          refine Go.iload at_70 (q := 72) rfl rfl ?_
          refine Go.iconst at_72 (q := 73) rfl (x := (4 : Int32)) (by decide) ?_
          refine Go.icmp_ne at_73 (q := 90) (q' := 76) (by decide) rfl rfl (fun c53 => ?_) (fun c53 => ?_)
          · skip
            refine Go.iload at_90 (q := 92) rfl rfl ?_
            refine Go.iconst at_92 (q := 93) rfl (x := (5 : Int32)) (by decide) ?_
            refine Go.icmp_ne at_93 (q := 110) (q' := 96) (by decide) rfl rfl (fun c54 => ?_) (fun c54 => ?_)
            · skip
              refine Go.iload at_110 (q := 112) rfl rfl ?_
              refine Go.bipush at_112 (q := 114) rfl (x := (6 : Int32)) (by decide) ?_
              refine Go.icmp_ne at_114 (q := 135) (q' := 117) (by decide) rfl rfl (fun c55 => ?_) (fun c55 => ?_)
              · skip
                refine Go.ldc2 at_135 (q := 138) rfl (v := (-2147483648 : Int64)) (w26 hw) ?_
                refine Go.lloadN at_138 (q := 139) rfl rfl ?_
                refine Go.ldc2 at_139 (q := 142) rfl (v := (7 : Int64)) (w27 hw) ?_
                refine Go.land at_142 (q := 143) rfl ?_
                refine Go.ldc2 at_143 (q := 146) rfl (v := (3 : Int64)) (w28 hw) ?_
                refine Go.lsub at_146 (q := 147) rfl ?_
                refine Go.ladd at_147 (q := 148) rfl ?_
                refine Go.lstore at_148 (q := 150) rfl (Ls' := #[.val (.int p), .val (.long n), .second, .val (.int q), .val (.int ((p &&& (2147483647 : Int32)) % (6 : Int32))), .val (.int (q &&& (7 : Int32))), .val (.long ((-2147483648 : Int64) + ((n &&& (7 : Int64)) - (3 : Int64)))), .second, .unset]) rfl ?_
                exact j150 l Z a0 hw n0 h O _ _ _ _ _ a_TINYINT a_SMALLINT a_CHAR a_BIGINT a_INT a_VARCHAR F
              · skip
                refine Go.ldc2 at_117 (q := 120) rfl (v := (2147483647 : Int64)) (w36 hw) ?_
                refine Go.lloadN at_120 (q := 121) rfl rfl ?_
                refine Go.ldc2 at_121 (q := 124) rfl (v := (7 : Int64)) (w27 hw) ?_
                refine Go.land at_124 (q := 125) rfl ?_
                refine Go.ldc2 at_125 (q := 128) rfl (v := (3 : Int64)) (w28 hw) ?_
                refine Go.lsub at_128 (q := 129) rfl ?_
                refine Go.ladd at_129 (q := 130) rfl ?_
                refine Go.lstore at_130 (q := 132) rfl (Ls' := #[.val (.int p), .val (.long n), .second, .val (.int q), .val (.int ((p &&& (2147483647 : Int32)) % (6 : Int32))), .val (.int (q &&& (7 : Int32))), .val (.long ((2147483647 : Int64) + ((n &&& (7 : Int64)) - (3 : Int64)))), .second, .unset]) rfl ?_
                refine Go.goto at_132 (q := 150) (by decide) rfl ?_
                exact j150 l Z a0 hw n0 h O _ _ _ _ _ a_TINYINT a_SMALLINT a_CHAR a_BIGINT a_INT a_VARCHAR F
            · skip
              refine Go.lloadN at_96 (q := 97) rfl rfl ?_
              refine Go.ldc2 at_97 (q := 100) rfl (v := (262143 : Int64)) (w29 hw) ?_
              refine Go.land at_100 (q := 101) rfl ?_
              refine Go.ldc2 at_101 (q := 104) rfl (v := (131072 : Int64)) (w30 hw) ?_
              refine Go.lsub at_104 (q := 105) rfl ?_
              refine Go.lstore at_105 (q := 107) rfl (Ls' := #[.val (.int p), .val (.long n), .second, .val (.int q), .val (.int ((p &&& (2147483647 : Int32)) % (6 : Int32))), .val (.int (q &&& (7 : Int32))), .val (.long ((n &&& (262143 : Int64)) - (131072 : Int64))), .second, .unset]) rfl ?_
              refine Go.goto at_107 (q := 150) (by decide) rfl ?_
              exact j150 l Z a0 hw n0 h O _ _ _ _ _ a_TINYINT a_SMALLINT a_CHAR a_BIGINT a_INT a_VARCHAR F
          · skip
            refine Go.lloadN at_76 (q := 77) rfl rfl ?_
            refine Go.ldc2 at_77 (q := 80) rfl (v := (1023 : Int64)) (w34 hw) ?_
            refine Go.land at_80 (q := 81) rfl ?_
            refine Go.ldc2 at_81 (q := 84) rfl (v := (512 : Int64)) (w35 hw) ?_
            refine Go.lsub at_84 (q := 85) rfl ?_
            refine Go.lstore at_85 (q := 87) rfl (Ls' := #[.val (.int p), .val (.long n), .second, .val (.int q), .val (.int ((p &&& (2147483647 : Int32)) % (6 : Int32))), .val (.int (q &&& (7 : Int32))), .val (.long ((n &&& (1023 : Int64)) - (512 : Int64))), .second, .unset]) rfl ?_
            refine Go.goto at_87 (q := 150) (by decide) rfl ?_
            exact j150 l Z a0 hw n0 h O _ _ _ _ _ a_TINYINT a_SMALLINT a_CHAR a_BIGINT a_INT a_VARCHAR F
        · skip
          refine Go.lloadN at_61 (q := 62) rfl rfl ?_
          refine Go.l2i at_62 (q := 63) rfl ?_
          refine Go.i2b at_63 (q := 64) rfl ?_
          refine Go.i2l at_64 (q := 65) rfl ?_
          refine Go.lstore at_65 (q := 67) rfl (Ls' := #[.val (.int p), .val (.long n), .second, .val (.int q), .val (.int ((p &&& (2147483647 : Int32)) % (6 : Int32))), .val (.int (q &&& (7 : Int32))), .val (.long n.toInt32.toInt8.toInt32.toInt64), .second, .unset]) rfl ?_
          refine Go.goto at_67 (q := 150) (by decide) rfl ?_
          exact j150 l Z a0 hw n0 h O _ _ _ _ _ a_TINYINT a_SMALLINT a_CHAR a_BIGINT a_INT a_VARCHAR F
      · skip
        refine Go.lloadN at_46 (q := 47) rfl rfl ?_
        refine Go.l2i at_47 (q := 48) rfl ?_
        refine Go.i2s at_48 (q := 49) rfl ?_
        refine Go.i2l at_49 (q := 50) rfl ?_
        refine Go.lstore at_50 (q := 52) rfl (Ls' := #[.val (.int p), .val (.long n), .second, .val (.int q), .val (.int ((p &&& (2147483647 : Int32)) % (6 : Int32))), .val (.int (q &&& (7 : Int32))), .val (.long n.toInt32.toInt16.toInt32.toInt64), .second, .unset]) rfl ?_
        refine Go.goto at_52 (q := 150) (by decide) rfl ?_
        exact j150 l Z a0 hw n0 h O _ _ _ _ _ a_TINYINT a_SMALLINT a_CHAR a_BIGINT a_INT a_VARCHAR F
    · skip
      refine Go.lloadN at_32 (q := 33) rfl rfl ?_
      refine Go.l2i at_33 (q := 34) rfl ?_
      refine Go.i2l at_34 (q := 35) rfl ?_
      refine Go.lstore at_35 (q := 37) rfl (Ls' := #[.val (.int p), .val (.long n), .second, .val (.int q), .val (.int ((p &&& (2147483647 : Int32)) % (6 : Int32))), .val (.int (q &&& (7 : Int32))), .val (.long n.toInt32.toInt64), .second, .unset]) rfl ?_
      refine Go.goto at_37 (q := 150) (by decide) rfl ?_
      exact j150 l Z a0 hw n0 h O _ _ _ _ _ a_TINYINT a_SMALLINT a_CHAR a_BIGINT a_INT a_VARCHAR F
  · skip
    refine Go.lloadN at_20 (q := 21) rfl rfl ?_
    refine Go.lstore at_21 (q := 23) rfl (Ls' := #[.val (.int p), .val (.long n), .second, .val (.int q), .val (.int ((p &&& (2147483647 : Int32)) % (6 : Int32))), .val (.int (q &&& (7 : Int32))), .val (.long n), .second, .unset]) rfl ?_
    refine Go.goto at_23 (q := 150) (by decide) rfl ?_
    exact j150 l Z a0 hw n0 h O _ _ _ _ _ a_TINYINT a_SMALLINT a_CHAR a_BIGINT a_INT a_VARCHAR F
set_option maxRecDepth 65536 in
set_option maxHeartbeats 40000000 in
theorem comes_1 {Post : Tables → Env → Array Value → State → Outcome → State → Prop} (hpost : ∀ tb e args s v u, (limb_1_1.after args s (.returned v) u = true ∧ limb_1_2.after args s (.returned v) u = true ∧ True) → FrameEnd s (.returned v) u (Jvm.fieldLocs frame_1_writes args s ++ Jvm.arrayLocs frame_1_arrays args s ++ Jvm.staticLocs frame_1_statics s) 0 0 → Post tb e args s (.returned v) u) :
    ArmFor flags0 classFile x code maxLocals ret World_1 tables_1 room_1 Calls_1 rest_1 Pre_1 Post := by
  intro l hfl _ _ p e ha hc hk s m args below hf hA hF happ hP
  obtain ⟨hcalls, hrest, hpre⟩ := hP
  obtain ⟨-, -, -, hnamed, -, -, -, hat⟩ := (Spec.applies_iff hf).mp happ
  obtain ⟨hg, hn⟩ := and_e (Jvm.Cond.before_iff.mp (show (Jvm.Cond.and given_1 narrow_1).before args s = true from hpre))
  obtain ⟨g0, hg⟩ := and_e hg
  obtain ⟨g1, hg⟩ := and_e hg
  obtain ⟨g2, hg⟩ := and_e hg
  have g3 := hg
  obtain ⟨v0, v1, v2, rfl⟩ : ∃ v0 v1 v2 : Value, args = #[v0, v1, v2] := by
    have hs : args.size = 3 := by simpa [Jvm.Cond.value, given_1] using g0
    obtain ⟨L⟩ := args
    match L, hs with
    | [v0, v1, v2], _ => exact ⟨v0, v1, v2, rfl⟩
  have hw : Hw _ s := fun d (hd : d ∈ tables_1) => atoms_spec (ws := Jvm.Cond.code x code maxLocals ret :: tables_1) hat d (List.mem_cons_of_mem _ hd)
  have hfit : Fit s := fun {y c} hc i hi => by
    obtain ⟨ha, rfl⟩ := Array.getElem?_eq_some_iff.mp hc
    have q := List.all_eq_true.mp ((Array.all_eq_true_iff_forall_mem.mp hF) _ (Array.getElem_mem ha)) i (List.mem_range.mpr hi)
    simpa [Array.getElem?_eq_getElem hi] using q
  obtain ⟨x0, e0⟩ := is_v g1
  obtain rfl : v0 = (.int x0) := Option.some.inj e0
  obtain ⟨x1, e1⟩ := isL_v g2
  obtain rfl : v1 = (.long x1) := Option.some.inj e1
  obtain ⟨x2, e2⟩ := is_v g3
  obtain rfl : v2 = (.int x2) := Option.some.inj e2
  obtain ⟨q0, hn⟩ := and_e hn
  obtain ⟨q1, hn⟩ := and_e hn
  obtain ⟨q2, hn⟩ := and_e hn
  obtain ⟨q3, hn⟩ := and_e hn
  obtain ⟨q4, hn⟩ := and_e hn
  obtain ⟨q5, hn⟩ := and_e hn
  obtain ⟨q6, hn⟩ := and_e hn
  obtain ⟨q7, hn⟩ := and_e hn
  obtain ⟨q8, hn⟩ := and_e hn
  obtain ⟨q9, hn⟩ := and_e hn
  obtain ⟨q10, hn⟩ := and_e hn
  obtain ⟨q11, hn⟩ := and_e hn
  obtain ⟨q12, hn⟩ := and_e hn
  obtain ⟨q13, hn⟩ := and_e hn
  obtain ⟨q14, hn⟩ := and_e hn
  obtain ⟨q15, hn⟩ := and_e hn
  obtain ⟨q16, hn⟩ := and_e hn
  have q17 := hn
  obtain ⟨a_TINYINT, ev_TINYINT, S_TINYINT, E_TINYINT⟩ := sta_ref q0 (w2 hw) (w3 hw)
  obtain ⟨a_SMALLINT, ev_SMALLINT, S_SMALLINT, E_SMALLINT⟩ := sta_ref q3 (w2 hw) (w18 hw)
  obtain ⟨a_CHAR, ev_CHAR, S_CHAR, E_CHAR⟩ := sta_ref q6 (w2 hw) (w20 hw)
  obtain ⟨a_BIGINT, ev_BIGINT, S_BIGINT, E_BIGINT⟩ := sta_ref q8 (w2 hw) (w23 hw)
  obtain ⟨a_INT, ev_INT, S_INT, E_INT⟩ := sta_ref q11 (w2 hw) (w25 hw)
  obtain ⟨a_VARCHAR, ev_VARCHAR, S_VARCHAR, E_VARCHAR⟩ := sta_ref q14 (w2 hw) (w32 hw)
  have F_TINYINT_min := fld_long ev_TINYINT q1
  have F_TINYINT_max := fld_long ev_TINYINT q2
  have F_SMALLINT_min := fld_long ev_SMALLINT q4
  have F_SMALLINT_max := fld_long ev_SMALLINT q5
  have F_CHAR_min := fld_long ev_CHAR q7
  have F_BIGINT_min := fld_long ev_BIGINT q9
  have F_BIGINT_max := fld_long ev_BIGINT q10
  have F_INT_min := fld_long ev_INT q12
  have F_INT_max := fld_long ev_INT q13
  have F_VARCHAR_min := fld_long ev_VARCHAR q15
  have F_CHAR_max := fld_long ev_CHAR q16
  have F_VARCHAR_max := fld_long ev_VARCHAR q17
  have G := b0 l s _ hw s.heap.size s.heap (Old.start s) x0 x1 x2 a_TINYINT a_SMALLINT a_CHAR a_BIGINT a_INT a_VARCHAR (show Facts s a_TINYINT a_SMALLINT a_CHAR a_BIGINT a_INT a_VARCHAR from ⟨S_TINYINT, E_TINYINT, S_SMALLINT, E_SMALLINT, S_CHAR, E_CHAR, S_BIGINT, E_BIGINT, S_INT, E_INT, S_VARCHAR, E_VARCHAR, F_TINYINT_min, F_TINYINT_max, F_SMALLINT_min, F_SMALLINT_max, F_CHAR_min, F_BIGINT_min, F_BIGINT_max, F_INT_min, F_INT_max, F_VARCHAR_min, F_CHAR_max, F_VARCHAR_max⟩)
  obtain ⟨n, o, h1, h2, h3, _, L, rfl, ⟨N, rfl⟩, hq⟩ := (G.met pn0 (fun m => rfl) tables_1) p e ha hc hk s m _ below hf ((Spec.applies_iff_loose hf).mp happ).1 ⟨rfl, State.Warmed39.refl s, rfl⟩ trivial
  refine ⟨n, _, h1, h2, h3, hpost _ _ _ _ _ _ ⟨Jvm.Cond.after_iff.mpr rfl, Jvm.Cond.after_iff.mpr (eq_i res_at (Term.int_eval (1)) rfl), trivial⟩ ⟨hq.1, hq.2.1, (hq.2.2.sift fun y hy => Or.inr (N y hy)).mono (by decide) (by decide)⟩⟩
theorem main_1_1 : Claimed_1_1 := comes_1 fun _ _ _ _ _ _ h hF => ⟨h.1, hF⟩
theorem main_1_2 : Claimed_1_2 := comes_1 fun _ _ _ _ _ _ h hF => ⟨h.2.1, hF⟩
end Jvm.Pilot.@@N@@
namespace Jvm.Pilot.@@N@@
open Jvm Jvm.ClassFile Sem Op Lib Jvm.Free Jvm.Stand Jvm.Pilot.@@N@@.Jvm.D
/-! MADE BY PROGRAM (witnessworld.py) out of the Statement's table words and the real class files: 12 classes; the members and pool entries that the words name. The judged class is class 1, her method 1. -/
namespace start1
open Jvm.ClassFile
def u (s : String) : CpInfo := .utf8 (stringToUtf16 s)
/-- a pool by its gaps: so many unusable entries, then the entry; so many at the end -/
def gap : Nat → List CpInfo → List CpInfo
  | 0, r => r
  | n + 1, r => .unusable :: gap n r
def poolList (es : List (Nat × CpInfo)) (last : Nat) : List CpInfo := es.foldr (fun e r => gap e.1 (e.2 :: r)) (gap last [])
def pool (es : List (Nat × CpInfo)) (last : Nat) : Array CpInfo := ⟨poolList es last⟩
def fileOf (pool : Array CpInfo) (this : Nat) (attrs : Array Attribute := #[]) (ms : Array MethodInfo := #[]) (fl : Nat := 33) (sup : Nat := 0) (ifs : Array Nat := #[]) (fds : Array FieldInfo := #[]) : ClassFile where
  minorVersion := 0
  majorVersion := 65
  constantPool := pool
  accessFlags := fl
  thisClass := this
  superClass := sup
  interfaces := ifs
  fields := fds
  methods := ms
  attributes := attrs
def plain (name : String) (sup : Option ClassId) : Class where
  name := name
  kind := .ordinary
  loader := none
  accessFlags := 33
  super := sup
  interfaces := #[]
  cf := none
  fields := #[]
  methods := #[]
  instanceTypes := #[]
  staticTypes := #[]
  resolved := #[]
  callSites := []
  init := .initialized
  statics := none
  mirror := none

def pool0 : Array CpInfo := pool [(5, u "<init>"), (0, u "()V"), (1, .class_ 10), (1, u "java/lang/Object")] 113

def k0m0 : Method := { name := "<init>", desc := "()V", sig := { parameters := [], returnType := none }, accessFlags := 1, code := none }
/-- java/lang/Object -/
def k0 : Class := { plain "java/lang/Object" none with
  accessFlags := 33
  interfaces := #[]
  cf := some (fileOf pool0 8 #[] #[{ accessFlags := 1, nameIndex := 5, descriptorIndex := 6, attributes := #[] }] 33 0 #[] #[])
  fields := #[]
  methods := #[k0m0]
  instanceTypes := #[]
  staticTypes := #[]
  resolved := Array.replicate 124 none
  statics := none }

def pool1 : Array CpInfo := pool [(2, .class_ 4), (1, u "java/lang/Object"), (0, u "<init>"), (0, u "()V"), (0, .integer 2147483647), (0, .long 1023), (1, .long 512), (1, .long 262143), (1, .long 131072), (3, .long 2147483647), (1, .long 7), (1, .long 3), (1, .long 18446744071562067968), (1, .fieldref 27 28), (0, .class_ 29), (0, .nameAndType 30 31), (0, u "com/example/exact_locks/exactlocks/ColumnType$Kind"), (0, u "TINYINT"), (0, u "Lcom/example/exact_locks/exactlocks/ColumnType$Kind;"), (0, .fieldref 27 33), (0, .nameAndType 34 31), (0, u "SMALLINT"), (0, .fieldref 27 36), (0, .nameAndType 37 31), (0, u "INT"), (0, .fieldref 27 39), (0, .nameAndType 40 31), (0, u "BIGINT"), (0, .fieldref 27 42), (0, .nameAndType 43 31), (0, u "CHAR"), (0, .fieldref 27 45), (0, .nameAndType 46 31), (0, u "VARCHAR"), (0, .methodref 27 48), (0, .nameAndType 49 50), (0, u "holds"), (0, u "(J)Z"), (0, .methodref 52 53), (0, .class_ 54), (0, .nameAndType 55 56), (0, u "com/example/exact_locks/exactlocks/KindHoldsPinLaw"), (0, u "ref"), (0, u "(IJ)Z"), (0, .long 255), (1, .long 65535), (3, u "law"), (0, u "(IJI)Z")] 7

def k1m0 : Method := { name := "<init>", desc := "()V", sig := { parameters := [], returnType := none }, accessFlags := 2, code := none }
def k1c1 : Code := { maxStack := 6, maxLocals := 9, code := code, exceptionTable := #[], attributes := #[] }
def k1m1 : Method := { name := "law", desc := "(IJI)Z", sig := { parameters := [.int, .long, .int], returnType := some .boolean }, accessFlags := 9, code := some k1c1 }
def k1c2 : Code := { maxStack := 6, maxLocals := 3, code := method_3_code, exceptionTable := #[], attributes := #[] }
def k1m2 : Method := { name := "ref", desc := "(IJ)Z", sig := { parameters := [.int, .long], returnType := some .boolean }, accessFlags := 10, code := some k1c2 }
/-- com/example/exact_locks/exactlocks/KindHoldsPinLaw -/
def k1 : Class := { plain "com/example/exact_locks/exactlocks/KindHoldsPinLaw" (some 0) with
  accessFlags := 49
  interfaces := #[]
  cf := some (fileOf pool1 52 #[] #[{ accessFlags := 2, nameIndex := 5, descriptorIndex := 6, attributes := #[] }, { accessFlags := 9, nameIndex := 63, descriptorIndex := 64, attributes := #[] }, { accessFlags := 10, nameIndex := 55, descriptorIndex := 56, attributes := #[] }] 49 2 #[] #[])
  fields := #[]
  methods := #[k1m0, k1m1, k1m2]
  instanceTypes := #[]
  staticTypes := #[]
  resolved := Array.replicate 72 none
  statics := none }

def pool2 : Array CpInfo := pool [(1, .class_ 2), (0, u "java/lang/constant/Constable"), (0, .class_ 4), (0, u "java/lang/Object")] 6

/-- java/lang/constant/Constable -/
def k2 : Class := { plain "java/lang/constant/Constable" (some 0) with
  accessFlags := 1537
  interfaces := #[]
  cf := some (fileOf pool2 1 #[] #[] 1537 3 #[] #[])
  fields := #[]
  methods := #[]
  instanceTypes := #[]
  staticTypes := #[]
  resolved := Array.replicate 11 none
  statics := none }

def pool3 : Array CpInfo := pool [(1, .class_ 2), (0, u "java/lang/Comparable"), (0, .class_ 4), (0, u "java/lang/Object")] 7

/-- java/lang/Comparable -/
def k3 : Class := { plain "java/lang/Comparable" (some 0) with
  accessFlags := 1537
  interfaces := #[]
  cf := some (fileOf pool3 1 #[] #[] 1537 3 #[] #[])
  fields := #[]
  methods := #[]
  instanceTypes := #[]
  staticTypes := #[]
  resolved := Array.replicate 12 none
  statics := none }

def pool4 : Array CpInfo := pool [(1, .class_ 2), (0, u "java/io/Serializable"), (0, .class_ 4), (0, u "java/lang/Object")] 2

/-- java/io/Serializable -/
def k4 : Class := { plain "java/io/Serializable" (some 0) with
  accessFlags := 1537
  interfaces := #[]
  cf := some (fileOf pool4 1 #[] #[] 1537 3 #[] #[])
  fields := #[]
  methods := #[]
  instanceTypes := #[]
  staticTypes := #[]
  resolved := Array.replicate 7 none
  statics := none }

def pool5 : Array CpInfo := pool [(2, .class_ 4), (1, u "java/lang/Enum"), (0, u "name"), (0, u "Ljava/lang/String;"), (2, u "ordinal"), (0, u "I"), (1, .class_ 14), (1, u "java/lang/Object"), (4, u "hash"), (86, .class_ 108), (1, u "java/lang/Enum$EnumDesc"), (2, .class_ 112), (0, u "java/lang/constant/Constable"), (0, .class_ 114), (0, u "java/lang/Comparable"), (0, .class_ 116), (0, u "java/io/Serializable")] 87

/-- java/lang/Enum -/
def k5 : Class := { plain "java/lang/Enum" (some 0) with
  accessFlags := 1057
  interfaces := #[2, 3, 4]
  cf := some (fileOf pool5 2 #[.nestMembers #[106]] #[] 1057 12 #[111, 113, 115] #[{ accessFlags := 18, nameIndex := 5, descriptorIndex := 6, attributes := #[] }, { accessFlags := 18, nameIndex := 9, descriptorIndex := 10, attributes := #[] }, { accessFlags := 2, nameIndex := 19, descriptorIndex := 10, attributes := #[] }])
  fields := #[{ name := "name", type := (.object "java/lang/String"), accessFlags := 18, slot := 0, constantValue := 0 }, { name := "ordinal", type := .int, accessFlags := 18, slot := 1, constantValue := 0 }, { name := "hash", type := .int, accessFlags := 2, slot := 2, constantValue := 0 }]
  methods := #[]
  instanceTypes := #[(.object "java/lang/String"), .int, .int]
  staticTypes := #[]
  resolved := Array.replicate 204 none
  statics := none }

def pool6 : Array CpInfo := pool [(1, .class_ 2), (0, u "com/example/exact_locks/exactlocks/ColumnType$Kind"), (2, u "TINYINT"), (0, u "Lcom/example/exact_locks/exactlocks/ColumnType$Kind;"), (2, u "SMALLINT"), (2, u "INT"), (2, u "BIGINT"), (2, u "CHAR"), (2, u "VARCHAR"), (2, u "$VALUES"), (0, u "[Lcom/example/exact_locks/exactlocks/ColumnType$Kind;"), (6, .class_ 34), (1, u "java/lang/Enum"), (6, .fieldref 1 42), (0, .nameAndType 43 44), (0, u "min"), (0, u "J"), (0, .fieldref 1 46), (0, .nameAndType 47 44), (0, u "max"), (47, u "holds"), (0, u "(J)Z"), (6, .class_ 104), (0, u "com/example/exact_locks/exactlocks/ColumnType")] 2

def k6c0 : Code := { maxStack := 4, maxLocals := 3, code := prog_10_method_5_code, exceptionTable := #[], attributes := #[] }
def k6m0 : Method := { name := "holds", desc := "(J)Z", sig := { parameters := [.long], returnType := some .boolean }, accessFlags := 0, code := some k6c0 }
/-- com/example/exact_locks/exactlocks/ColumnType$Kind -/
def k6 : Class := { plain "com/example/exact_locks/exactlocks/ColumnType$Kind" (some 5) with
  accessFlags := 16432
  interfaces := #[]
  cf := some (fileOf pool6 1 #[.nestHost 103] #[{ accessFlags := 0, nameIndex := 95, descriptorIndex := 96, attributes := #[] }] 16432 32 #[] #[{ accessFlags := 16409, nameIndex := 5, descriptorIndex := 6, attributes := #[] }, { accessFlags := 16409, nameIndex := 9, descriptorIndex := 6, attributes := #[] }, { accessFlags := 16409, nameIndex := 12, descriptorIndex := 6, attributes := #[] }, { accessFlags := 16409, nameIndex := 15, descriptorIndex := 6, attributes := #[] }, { accessFlags := 16409, nameIndex := 18, descriptorIndex := 6, attributes := #[] }, { accessFlags := 16409, nameIndex := 21, descriptorIndex := 6, attributes := #[] }, { accessFlags := 18, nameIndex := 43, descriptorIndex := 44, attributes := #[] }, { accessFlags := 18, nameIndex := 47, descriptorIndex := 44, attributes := #[] }, { accessFlags := 4122, nameIndex := 24, descriptorIndex := 25, attributes := #[] }])
  fields := #[{ name := "TINYINT", type := (.object "com/example/exact_locks/exactlocks/ColumnType$Kind"), accessFlags := 16409, slot := 0, constantValue := 0 }, { name := "SMALLINT", type := (.object "com/example/exact_locks/exactlocks/ColumnType$Kind"), accessFlags := 16409, slot := 1, constantValue := 0 }, { name := "INT", type := (.object "com/example/exact_locks/exactlocks/ColumnType$Kind"), accessFlags := 16409, slot := 2, constantValue := 0 }, { name := "BIGINT", type := (.object "com/example/exact_locks/exactlocks/ColumnType$Kind"), accessFlags := 16409, slot := 3, constantValue := 0 }, { name := "CHAR", type := (.object "com/example/exact_locks/exactlocks/ColumnType$Kind"), accessFlags := 16409, slot := 4, constantValue := 0 }, { name := "VARCHAR", type := (.object "com/example/exact_locks/exactlocks/ColumnType$Kind"), accessFlags := 16409, slot := 5, constantValue := 0 }, { name := "min", type := .long, accessFlags := 18, slot := 3, constantValue := 0 }, { name := "max", type := .long, accessFlags := 18, slot := 4, constantValue := 0 }, { name := "$VALUES", type := (.array (.object "com/example/exact_locks/exactlocks/ColumnType$Kind")), accessFlags := 4122, slot := 6, constantValue := 0 }]
  methods := #[k6m0]
  instanceTypes := #[(.object "java/lang/String"), .int, .int, .long, .long]
  staticTypes := #[(.object "com/example/exact_locks/exactlocks/ColumnType$Kind"), (.object "com/example/exact_locks/exactlocks/ColumnType$Kind"), (.object "com/example/exact_locks/exactlocks/ColumnType$Kind"), (.object "com/example/exact_locks/exactlocks/ColumnType$Kind"), (.object "com/example/exact_locks/exactlocks/ColumnType$Kind"), (.object "com/example/exact_locks/exactlocks/ColumnType$Kind"), (.array (.object "com/example/exact_locks/exactlocks/ColumnType$Kind"))]
  resolved := Array.replicate 107 none
  statics := some 0 }

def pool7 : Array CpInfo := pool [(1, u "java/lang/Cloneable"), (0, .class_ 1), (0, u "java/lang/Object"), (0, .class_ 3)] 3

/-- java/lang/Cloneable -/
def k7 : Class := { plain "java/lang/Cloneable" (some 0) with
  accessFlags := 1537
  interfaces := #[]
  cf := some (fileOf pool7 2 #[] #[] 1537 4 #[] #[])
  fields := #[]
  methods := #[]
  instanceTypes := #[]
  staticTypes := #[]
  resolved := Array.replicate 8 none
  statics := none }

/-- the primitive byte -/
def k8 : Class := { plain "byte" none with kind := .primitive 'B', accessFlags := 0x411 }
/-- [B -/
def k9 : Class := { plain "[B" (some 0) with kind := .array 8 .byte, interfaces := #[7, 4], accessFlags := 1041 }

/-- the primitive int -/
def k10 : Class := { plain "int" none with kind := .primitive 'I', accessFlags := 0x411 }
/-- [I -/
def k11 : Class := { plain "[I" (some 0) with kind := .array 10 .int, interfaces := #[7, 4], accessFlags := 1041 }

def heap : Heap := #[{ cls := 6, slots := #[.ref 1, .ref 2, .ref 5, .ref 4, .ref 3, .ref 6, .null], vm := .statics 6 },
  { cls := 6, slots := #[.null, .int 0, .int 0, .long (-128), .long 127], vm := .none },
  { cls := 6, slots := #[.null, .int 0, .int 0, .long (-32768), .long 32767], vm := .none },
  { cls := 6, slots := #[.null, .int 0, .int 0, .long 0, .long 255], vm := .none },
  { cls := 6, slots := #[.null, .int 0, .int 0, .long (-9223372036854775808), .long 9223372036854775807], vm := .none },
  { cls := 6, slots := #[.null, .int 0, .int 0, .long (-2147483648), .long 2147483647], vm := .none },
  { cls := 6, slots := #[.null, .int 0, .int 0, .long 0, .long 65535], vm := .none }]
def classes : Array Class := #[k0, k1, k2, k3, k4, k5, k6, k7, k8, k9, k10, k11]
def interned : List (Array UInt16 × Addr) := []
def slotsUsed : Nat := 37
def theMethod : MethodId := ⟨1, 1⟩
def args0 : Array Value := #[.int 5, .long 6, .int 1]
def aboutOver (below : List Frame) : State where
  vm := { classes := classes, interned := interned.toArray }
  heap := heap
  slotsUsed := slotsUsed
  threads := #[{ frames := .invoking theMethod args0 :: below }]
def below0 : List Frame := [.native { method := ⟨0, 0⟩, args := #[] }]
def about1 : State := aboutOver below0
def p0 : Program := .bare "" "" ""
def e0 : Env := launch0.env 0 0 0
theorem w_frames : about1.frames = Frame.invoking theMethod args0 :: below0 := rfl
set_option maxRecDepth 65536 in
theorem w_args : argsFit about1.vm theMethod args0 = true := by decide +kernel
set_option maxRecDepth 65536 in
theorem w_heap : heapFits about1 = true := by decide +kernel
set_option maxRecDepth 65536 in
theorem w_runnable : about1.curStatus? = some .runnable := by decide +kernel
set_option maxRecDepth 65536 in
theorem w_alone : about1.alone = true := by decide +kernel
set_option maxRecDepth 65536 in
theorem w_named : about1.methodNamed? x = some theMethod := by decide +kernel
set_option maxRecDepth 65536 in
theorem w_hears : about1.hears theMethod below0 = true := by decide +kernel
set_option maxRecDepth 65536 in
theorem w_ripe : about1.ripe theMethod args0 below0 = true := by decide +kernel
theorem w_running : about1.status = .running := rfl
set_option maxRecDepth 65536 in
theorem w_room : about1.hasRoom e0.platform room_1 = true :=
  launch0.hasRoom_least _ room_1 (by decide +kernel) (by decide +kernel) (by decide +kernel) (by decide +kernel) (by decide +kernel) (by decide +kernel)
theorem allAtoms_all (ts : List Jvm.Cond) (a : Array Jvm.Value) (st : Jvm.State) : (allAtoms ts).before a st = ts.all (fun c => c.before a st) := by
  induction ts with
  | nil => rfl
  | cons c t ih =>
    show (Jvm.Cond.and c (allAtoms t)).before a st = _
    rw [Jvm.Cond.before_and, ih, List.all_cons]
def words1 : List Jvm.Cond := Jvm.Cond.code x code maxLocals ret :: tables_1
/-- a 'code' word, met by the world's own term for the bytes: nothing is compared byte by byte -/
theorem code_word {y : MethodName} {bytes : ByteArray} {mx : Nat} {rt : Option FieldType} {a : Array Value} {s : State} {m : MethodId} {meth : Method} {c : Code} (h1 : s.methodNamed? y = some m) (h2 : s.vm.method? m = some meth) (h3 : meth.code = some c) (h4 : c.code = bytes)
    (h5 : (c.maxLocals == mx && c.exceptionTable.isEmpty && decide (c.maxStack ≤ mostOperands) && decide (meth.sig.returnType = rt) && !meth.locks && decide (parseMethodDescriptor y.desc = some meth.sig)) = true) : (Jvm.Cond.code y bytes mx rt).before a s = true := by
  simp only [Bool.and_eq_true, beq_iff_eq, Bool.not_eq_true', decide_eq_true_eq] at h5
  obtain ⟨⟨⟨⟨⟨g1, g2⟩, g3⟩, g4⟩, g5⟩, g6⟩ := h5
  simp [Cond.before, Cond.holds, Cond.value, h1, h2, h3, h4, g1, g2, g3, g4, g5, g6]
def isCode : Jvm.Cond → Bool
  | .code _ _ _ _ => true
  | _ => false
theorem all_split {L : List Jvm.Cond} {P : Jvm.Cond → Bool} (h1 : L.all (fun c => isCode c || P c) = true) (h2 : ∀ c ∈ L.filter isCode, P c = true) : L.all P = true := by
  refine List.all_eq_true.mpr fun c hc => ?_
  have h := List.all_eq_true.mp h1 c hc
  rcases Bool.eq_false_or_eq_true (isCode c) with hi | hi
  · exact h2 c (List.mem_filter.mpr ⟨hc, hi⟩)
  · simpa [hi] using h
set_option maxRecDepth 65536 in
theorem w_c0 : (Jvm.Cond.code x code maxLocals ret).before args0 about1 = true := code_word (m := ⟨1, 1⟩) (meth := k1m1) (c := k1c1) (by decide +kernel) rfl rfl rfl (by decide +kernel)
set_option maxRecDepth 65536 in
theorem w_c1 : (Jvm.Cond.code ({ cls := "com/example/exact_locks/exactlocks/ColumnType$Kind", name := "holds", desc := "(J)Z" } : Jvm.MethodName) prog_10_method_5_code (3 : Nat) (Option.some Jvm.ClassFile.FieldType.boolean)).before args0 about1 = true := code_word (m := ⟨6, 0⟩) (meth := k6m0) (c := k6c0) (by decide +kernel) rfl rfl rfl (by decide +kernel)
set_option maxRecDepth 65536 in
theorem w_c2 : (Jvm.Cond.code ({ cls := "com/example/exact_locks/exactlocks/KindHoldsPinLaw", name := "ref", desc := "(IJ)Z" } : Jvm.MethodName) method_3_code (3 : Nat) (Option.some Jvm.ClassFile.FieldType.boolean)).before args0 about1 = true := code_word (m := ⟨1, 2⟩) (meth := k1m2) (c := k1c2) (by decide +kernel) rfl rfl rfl (by decide +kernel)
def codes1 : List Jvm.Cond := [Jvm.Cond.code x code maxLocals ret, Jvm.Cond.code ({ cls := "com/example/exact_locks/exactlocks/ColumnType$Kind", name := "holds", desc := "(J)Z" } : Jvm.MethodName) prog_10_method_5_code (3 : Nat) (Option.some Jvm.ClassFile.FieldType.boolean), Jvm.Cond.code ({ cls := "com/example/exact_locks/exactlocks/KindHoldsPinLaw", name := "ref", desc := "(IJ)Z" } : Jvm.MethodName) method_3_code (3 : Nat) (Option.some Jvm.ClassFile.FieldType.boolean)]
set_option maxRecDepth 65536 in
theorem codes_eq : words1.filter isCode = codes1 := rfl
theorem w_codes : ∀ c ∈ words1.filter isCode, c.before args0 about1 = true := by
  rw [codes_eq]
  intro c hc
  simp only [codes1, List.mem_cons, List.not_mem_nil, or_false] at hc
  rcases hc with rfl | rfl | rfl
  · exact w_c0
  · exact w_c1
  · exact w_c2
set_option maxRecDepth 65536 in
theorem w_t1 : (words1.take 24).all (fun c => isCode c || c.before args0 about1) = true := by decide +kernel
set_option maxRecDepth 65536 in
theorem w_t2 : (words1.drop 24).all (fun c => isCode c || c.before args0 about1) = true := by decide +kernel
theorem w_tables : (allAtoms (Jvm.Cond.code x code maxLocals ret :: tables_1)).before args0 about1 = true := by
  rw [allAtoms_all]
  show words1.all (fun c => c.before args0 about1) = true
  refine all_split ?_ w_codes
  rw [← List.take_append_drop 24 words1, List.all_append, w_t1, w_t2]
  rfl
set_option maxRecDepth 65536 in
theorem w_case : (Jvm.Cond.and given_1 narrow_1).before args0 about1 = true := by decide +kernel
theorem w_applies : (headSpec (Jvm.Cond.code x code maxLocals ret :: tables_1) room_1).applies x e0.platform about1 = true :=
  (Spec.applies_iff w_frames).mpr ⟨w_running, w_runnable, w_alone, w_named, w_hears, w_ripe, w_room, w_tables⟩
theorem atStart : AtStart classFile x code maxLocals ret World_1 tables_1 room_1 Calls_1 rest_1 Pre_1 launch0 p0 e0 about1 theMethod args0 below0 :=
  ⟨lists_1, trivial, launch0.admits_env _ _ _, launch0.least_env, fairChoices_fair.cas, fairChoices_fair.clock, w_frames, w_args, w_heap, w_applies, trivial, trivial, w_case⟩
end start1
theorem witness_1 : WitnessClaimed_1 := ⟨start1.p0, start1.e0, start1.about1, start1.theMethod, start1.args0, start1.below0, start1.atStart⟩
end Jvm.Pilot.@@N@@
