import JvmDerived
import JvmDerived.Pilot.@@N@@Statement
import JvmDerived.Pilot.@@N@@Code
set_option linter.unusedVariables false
set_option linter.unusedSimpArgs false
namespace Jvm.OwnW
open Sem ClassFile Op Lib Jvm.Stand Jvm.Free Jvm.LawKit Jvm.RoadKit
section K
variable {p : Program} {l : Launch} {e : Env} {R : Room} {s : State} {m : MethodId} {args : Array Value} {below : List Frame} {meth : Method} {c : Code} {Z : State} {bytes : ByteArray} {ml : Nat} {own nm : String} {ret : Option FieldType} {n0 K S K' S' : Nat} {Q : Option Value → Heap → Prop} {h : Heap} {a0 : Array Value}
/-- what is fixed in the walk of one body -/
def Cx (p : Program) (l : Launch) (e : Env) (R : Room) (s : State) (m : MethodId) (args : Array Value) (below : List Frame) (meth : Method) (c : Code) (Z : State) (bytes : ByteArray) (ml : Nat) (own : String) (ret : Option FieldType) (nm : String) : Prop :=
  p.tables.exec = Jvm.exec ∧ Z.Warmed39 s.vm ∧ c.code = bytes ∧ c.maxLocals = ml ∧ s.vm.findClass own = some m.cls ∧ meth.locks = false ∧ meth.sig.returnType = ret ∧ meth.name = nm
/-- the walk stands in T: the heap is h, only new places have been written, at most K cells and S slots are made -/
def Sd (p : Program) (l : Launch) (e : Env) (R : Room) (s : State) (m : MethodId) (args : Array Value) (below : List Frame) (meth : Method) (c : Code) (n0 K S : Nat) (h : Heap) (T : State) : Prop :=
  ∃ locs cells slots, Stand p l e R s m args below meth c T locs cells slots ∧ Fr n0 locs ∧ cells ≤ K ∧ slots ≤ S ∧ T.heap = h
/-- from the frame g in T the body runs to its return, and Q holds of what it returns and of the heap -/
def Done (p : Program) (e : Env) (R : Room) (s : State) (below : List Frame) (n0 : Nat) (Q : Option Value → Heap → Prop) (T : State) (g : JFrame) : Prop :=
  ∃ s₂ v L, Steps p.tables e below (T.setTop g) s₂ ∧ s₂.status = .running ∧ Ended s₂ below (.returned v) ∧ Q v s₂.heap ∧ Fr n0 L ∧ FrameEnd s (.returned v) s₂ L R.cells R.slots
def Go (p : Program) (l : Launch) (e : Env) (R : Room) (s : State) (m : MethodId) (args : Array Value) (below : List Frame) (meth : Method) (c : Code) (n0 : Nat) (Q : Option Value → Heap → Prop) (K S : Nat) (h : Heap) (g : JFrame) : Prop :=
  ∀ T, Sd p l e R s m args below meth c n0 K S h T → Done p e R s below n0 Q T g
/-- the contract of a body at the arguments as and the heap h -/
def Ctr (l : Launch) (Z : State) (y : MethodName) (bytes : ByteArray) (ml : Nat) (ret : Option FieldType) (rm : Room) (as : Array Value) (h : Heap) (n0 : Nat) (Q : Option Value → Heap → Prop) : Prop :=
  ∀ ws : List Jvm.Cond, MetFree l y (head1 (Jvm.Cond.code y bytes ml ret :: ws) rm) (fun a U => a = as ∧ Z.Warmed39 U.vm ∧ U.heap = h) (fun _ _ _ _ _ => True) (fun _ U o U' => ∃ v L, o = .returned v ∧ (Q v U'.heap ∧ Fr n0 L) ∧ FrameEnd U o U' L rm.cells rm.slots)
theorem Ctr.of {y : MethodName} {rm : Room} {as : Array Value} (hn : plainFor y = true)
    (body : ∀ (p : Program) (e : Env) (s : State) (m : MethodId) (below : List Frame) (meth : Method) (c : Code), Cx p l e rm s m as below meth c Z bytes ml y.cls ret y.name → Go p l e rm s m as below meth c n0 Q 0 0 h (entryFrame m as ml)) :
    Ctr l Z y bytes ml ret rm as h n0 Q := by
  intro ws
  refine MetFree.of_bodySF hn hisR ?_
  intro p e s m args below meth c s₁ Bd hml hP hK
  obtain ⟨rfl, hZ, hh⟩ := hP
  have X0 : Stand p l e rm s m args below meth c s₁ [] 0 0 := Stand.of_body Bd
  obtain ⟨s₂, v, L, h1, h2, h3, h4, h5, h6⟩ := body p e s m below meth c ⟨Bd.exec, hZ, Bd.bytes, hml, findClass_of_methodNamed Bd.named, Bd.notSynchronized, Bd.returns, (name_of_methodNamed Bd.named Bd.method).1⟩ s₁ ⟨[], 0, 0, X0, Fr.nil _, Nat.le_refl _, Nat.le_refl _, by rw [← hh, Bd.state]; rfl⟩
  exact ⟨s₂, .returned v, h1, h2, h3, v, L, rfl, ⟨h4, h5⟩, h6⟩
theorem Ctr.mono {y : MethodName} {rm : Room} {as : Array Value} {Q' : Option Value → Heap → Prop} (hC : Ctr l Z y bytes ml ret rm as h n0 Q) (hq : ∀ v h', Q v h' → Q' v h') : Ctr l Z y bytes ml ret rm as h n0 Q' := by
  intro ws p e ha hc hk s m args below hf happ hP hK
  obtain ⟨n, o, h1, h2, h3, v, L, h4, ⟨h5, h6⟩, h7⟩ := hC ws p e ha hc hk s m args below hf happ hP hK
  exact ⟨n, o, h1, h2, h3, v, L, h4, ⟨hq _ _ h5, h6⟩, h7⟩
theorem Go.at {pc : Nat} {Ls : Array Slot} {st st' : List Value} (hst : st = st') (n : Go p l e R s m args below meth c n0 Q K S h (mkF m pc Ls st')) : Go p l e R s m args below meth c n0 Q K S h (mkF m pc Ls st) := hst ▸ n
theorem Go.frame {g g' : JFrame} (hg : g = g') (n : Go p l e R s m args below meth c n0 Q K S h g') : Go p l e R s m args below meth c n0 Q K S h g := hg ▸ n
theorem Go.heap {g : JFrame} {h' : Heap} (hh : h = h') (n : Go p l e R s m args below meth c n0 Q K S h' g) : Go p l e R s m args below meth c n0 Q K S h g := hh ▸ n
theorem Go.by {g g' : JFrame} (hst : ∀ T locs cells slots, Stand p l e R s m args below meth c T locs cells slots → T.heap = h → ∀ target, Steps p.tables e below (T.setTop g') target → Steps p.tables e below (T.setTop g) target) (n : Go p l e R s m args below meth c n0 Q K S h g') : Go p l e R s m args below meth c n0 Q K S h g :=
  fun T ⟨ls, cs, ss, X, r⟩ => by
    obtain ⟨s₂, v, L, h1, h2⟩ := n T ⟨ls, cs, ss, X, r⟩
    exact ⟨s₂, v, L, hst T ls cs ss X r.2.2.2 _ h1, h2⟩
theorem Go.weak {g : JFrame} (hK : K ≤ K') (hS : S ≤ S') (n : Go p l e R s m args below meth c n0 Q K' S' h g) : Go p l e R s m args below meth c n0 Q K S h g := fun T ⟨ls, cs, ss, X, N, a, b, e'⟩ => n T ⟨ls, cs, ss, X, N, Nat.le_trans a hK, Nat.le_trans b hS, e'⟩
/-- a law that hands back a new state over the same heap -/
theorem Go.law {g g' : JFrame} (hst : ∀ T locs cells slots, Stand p l e R s m args below meth c T locs cells slots → T.heap = h → ∃ T', Stand p l e R s m args below meth c T' locs cells slots ∧ T'.heap = h ∧ ∀ target, Steps p.tables e below (T'.setTop g') target → Steps p.tables e below (T.setTop g) target) (n : Go p l e R s m args below meth c n0 Q K S h g') : Go p l e R s m args below meth c n0 Q K S h g :=
  fun T ⟨ls, cs, ss, X, r⟩ => by
    obtain ⟨T', X', e', st⟩ := hst T ls cs ss X r.2.2.2
    obtain ⟨s₂, v, L, h1, h2⟩ := n T' ⟨ls, cs, ss, X', r.1, r.2.1, r.2.2.1, e'⟩
    exact ⟨s₂, v, L, st _ h1, h2⟩
/-- a law that writes one place of a new cell -/
theorem Go.write {g g' : JFrame} {a : Addr} {sl : Nat} {v : Value} (ha : n0 ≤ a) (hst : ∀ T locs cells slots, Stand p l e R s m args below meth c T locs cells slots → T.heap = h → ∃ T' h', Stand p l e R s m args below meth c T' (locs ++ [⟨a, sl⟩]) cells slots ∧ T'.heap = h' ∧ Wr h h' a sl v ∧ ∀ target, Steps p.tables e below (T'.setTop g') target → Steps p.tables e below (T.setTop g) target)
    (n : ∀ h', Wr h h' a sl v → Go p l e R s m args below meth c n0 Q K S h' g') : Go p l e R s m args below meth c n0 Q K S h g :=
  fun T ⟨ls, cs, ss, X, r⟩ => by
    obtain ⟨T', h', X', e', W, st⟩ := hst T ls cs ss X r.2.2.2
    obtain ⟨s₂, v, L, h1, h2⟩ := n h' W T' ⟨_, cs, ss, X', Fr.snoc X' r.1 ha, r.2.1, r.2.2.1, e'⟩
    exact ⟨s₂, v, L, st _ h1, h2⟩
theorem iloadN (C : Cx p l e R s m args below meth c Z bytes ml own ret nm) {pc pc' : Nat} {Ls : Array Slot} {st : List Value} {k : Fin 4} {v : Int32}  (hd : decode bytes pc = .ok (.iload_n k, 1)) (hp : pc + 1 = pc') (hl : Ls[k.val]? = some (.val (.int v))) (n : Go p l e R s m args below meth c n0 Q K S h (mkF m pc' Ls (.int v :: st))) : Go p l e R s m args below meth c n0 Q K S h (mkF m pc Ls st) := by
  subst hp; exact Go.by (g' := (mkF m (pc + 1) Ls (.int v :: st))) (fun T ls cs ss X eT t kt => XS.iloadN X.here C.1 rfl (hb C.2.2.1 hd) hl kt) n
theorem iload (C : Cx p l e R s m args below meth c Z bytes ml own ret nm) {pc pc' : Nat} {Ls : Array Slot} {st : List Value} {k : Nat} {v : Int32}  (hd : decode bytes pc = .ok (.iload k, 2)) (hp : pc + 2 = pc') (hl : Ls[k]? = some (.val (.int v))) (n : Go p l e R s m args below meth c n0 Q K S h (mkF m pc' Ls (.int v :: st))) : Go p l e R s m args below meth c n0 Q K S h (mkF m pc Ls st) := by
  subst hp; exact Go.by (g' := (mkF m (pc + 2) Ls (.int v :: st))) (fun T ls cs ss X eT t kt => XS.iload X.here C.1 rfl (hb C.2.2.1 hd) hl kt) n
theorem istoreN (C : Cx p l e R s m args below meth c Z bytes ml own ret nm) {pc pc' : Nat} {Ls : Array Slot} {st : List Value} {k : Fin 4} {v : Int32} {l' : Array Slot}  (hd : decode bytes pc = .ok (.istore_n k, 1)) (hp : pc + 1 = pc') (hl : storeLocals Ls k.val (.int v) = some l') (n : Go p l e R s m args below meth c n0 Q K S h (mkF m pc' l' st)) : Go p l e R s m args below meth c n0 Q K S h (mkF m pc Ls (.int v :: st)) := by
  subst hp; exact Go.by (g' := (mkF m (pc + 1) l' st)) (fun T ls cs ss X eT t kt => XS.istoreN X.here C.1 rfl (hb C.2.2.1 hd) rfl hl kt) n
theorem istore (C : Cx p l e R s m args below meth c Z bytes ml own ret nm) {pc pc' : Nat} {Ls : Array Slot} {st : List Value} {k : Nat} {v : Int32} {l' : Array Slot}  (hd : decode bytes pc = .ok (.istore k, 2)) (hp : pc + 2 = pc') (hl : storeLocals Ls k (.int v) = some l') (n : Go p l e R s m args below meth c n0 Q K S h (mkF m pc' l' st)) : Go p l e R s m args below meth c n0 Q K S h (mkF m pc Ls (.int v :: st)) := by
  subst hp; exact Go.by (g' := (mkF m (pc + 2) l' st)) (fun T ls cs ss X eT t kt => XS.istore X.here C.1 rfl (hb C.2.2.1 hd) rfl hl kt) n
theorem lloadN (C : Cx p l e R s m args below meth c Z bytes ml own ret nm) {pc pc' : Nat} {Ls : Array Slot} {st : List Value} {k : Fin 4} {v : Int64}  (hd : decode bytes pc = .ok (.lload_n k, 1)) (hp : pc + 1 = pc') (hl : Ls[k.val]? = some (.val (.long v))) (n : Go p l e R s m args below meth c n0 Q K S h (mkF m pc' Ls (.long v :: st))) : Go p l e R s m args below meth c n0 Q K S h (mkF m pc Ls st) := by
  subst hp; exact Go.by (g' := (mkF m (pc + 1) Ls (.long v :: st))) (fun T ls cs ss X eT t kt => XS.lloadN X.here C.1 rfl (hb C.2.2.1 hd) hl kt) n
theorem lload (C : Cx p l e R s m args below meth c Z bytes ml own ret nm) {pc pc' : Nat} {Ls : Array Slot} {st : List Value} {k : Nat} {v : Int64}  (hd : decode bytes pc = .ok (.lload k, 2)) (hp : pc + 2 = pc') (hl : Ls[k]? = some (.val (.long v))) (n : Go p l e R s m args below meth c n0 Q K S h (mkF m pc' Ls (.long v :: st))) : Go p l e R s m args below meth c n0 Q K S h (mkF m pc Ls st) := by
  subst hp; exact Go.by (g' := (mkF m (pc + 2) Ls (.long v :: st))) (fun T ls cs ss X eT t kt => XS.lload X.here C.1 rfl (hb C.2.2.1 hd) hl kt) n
theorem lstoreN (C : Cx p l e R s m args below meth c Z bytes ml own ret nm) {pc pc' : Nat} {Ls : Array Slot} {st : List Value} {k : Fin 4} {v : Int64} {l' : Array Slot}  (hd : decode bytes pc = .ok (.lstore_n k, 1)) (hp : pc + 1 = pc') (hl : storeLocals Ls k.val (.long v) = some l') (n : Go p l e R s m args below meth c n0 Q K S h (mkF m pc' l' st)) : Go p l e R s m args below meth c n0 Q K S h (mkF m pc Ls (.long v :: st)) := by
  subst hp; exact Go.by (g' := (mkF m (pc + 1) l' st)) (fun T ls cs ss X eT t kt => XS.lstoreN X.here C.1 rfl (hb C.2.2.1 hd) rfl hl kt) n
theorem lstore (C : Cx p l e R s m args below meth c Z bytes ml own ret nm) {pc pc' : Nat} {Ls : Array Slot} {st : List Value} {k : Nat} {v : Int64} {l' : Array Slot}  (hd : decode bytes pc = .ok (.lstore k, 2)) (hp : pc + 2 = pc') (hl : storeLocals Ls k (.long v) = some l') (n : Go p l e R s m args below meth c n0 Q K S h (mkF m pc' l' st)) : Go p l e R s m args below meth c n0 Q K S h (mkF m pc Ls (.long v :: st)) := by
  subst hp; exact Go.by (g' := (mkF m (pc + 2) l' st)) (fun T ls cs ss X eT t kt => XS.lstore X.here C.1 rfl (hb C.2.2.1 hd) rfl hl kt) n
theorem aloadN (C : Cx p l e R s m args below meth c Z bytes ml own ret nm) {pc pc' : Nat} {Ls : Array Slot} {st : List Value} {k : Fin 4} {v : Value}  (hd : decode bytes pc = .ok (.aload_n k, 1)) (hp : pc + 1 = pc') (hl : Ls[k.val]? = some (.val v)) (hv : v.isRef = true) (n : Go p l e R s m args below meth c n0 Q K S h (mkF m pc' Ls (v :: st))) : Go p l e R s m args below meth c n0 Q K S h (mkF m pc Ls st) := by
  subst hp; exact Go.by (g' := (mkF m (pc + 1) Ls (v :: st))) (fun T ls cs ss X eT t kt => XS.aloadN X.here C.1 rfl (hb C.2.2.1 hd) hl hv kt) n
theorem aload (C : Cx p l e R s m args below meth c Z bytes ml own ret nm) {pc pc' : Nat} {Ls : Array Slot} {st : List Value} {k : Nat} {v : Value}  (hd : decode bytes pc = .ok (.aload k, 2)) (hp : pc + 2 = pc') (hl : Ls[k]? = some (.val v)) (hv : v.isRef = true) (n : Go p l e R s m args below meth c n0 Q K S h (mkF m pc' Ls (v :: st))) : Go p l e R s m args below meth c n0 Q K S h (mkF m pc Ls st) := by
  subst hp; exact Go.by (g' := (mkF m (pc + 2) Ls (v :: st))) (fun T ls cs ss X eT t kt => XS.aload X.here C.1 rfl (hb C.2.2.1 hd) hl hv kt) n
theorem astoreN (C : Cx p l e R s m args below meth c Z bytes ml own ret nm) {pc pc' : Nat} {Ls : Array Slot} {st : List Value} {k : Fin 4} {v : Value} {l' : Array Slot}  (hd : decode bytes pc = .ok (.astore_n k, 1)) (hp : pc + 1 = pc') (hv : v.isRef = true) (hl : storeLocals Ls k.val v = some l') (n : Go p l e R s m args below meth c n0 Q K S h (mkF m pc' l' st)) : Go p l e R s m args below meth c n0 Q K S h (mkF m pc Ls (v :: st)) := by
  subst hp; exact Go.by (g' := (mkF m (pc + 1) l' st)) (fun T ls cs ss X eT t kt => XS.astoreN X.here C.1 rfl (hb C.2.2.1 hd) rfl hv hl kt) n
theorem astore (C : Cx p l e R s m args below meth c Z bytes ml own ret nm) {pc pc' : Nat} {Ls : Array Slot} {st : List Value} {k : Nat} {v : Value} {l' : Array Slot}  (hd : decode bytes pc = .ok (.astore k, 2)) (hp : pc + 2 = pc') (hv : v.isRef = true) (hl : storeLocals Ls k v = some l') (n : Go p l e R s m args below meth c n0 Q K S h (mkF m pc' l' st)) : Go p l e R s m args below meth c n0 Q K S h (mkF m pc Ls (v :: st)) := by
  subst hp; exact Go.by (g' := (mkF m (pc + 2) l' st)) (fun T ls cs ss X eT t kt => XS.astore X.here C.1 rfl (hb C.2.2.1 hd) rfl hv hl kt) n
theorem istoreS (C : Cx p l e R s m args below meth c Z bytes ml own ret nm) {pc pc' : Nat} {Ls : Array Slot} {st : List Value} {k : Nat} {v : Int32} {o : Slot} {l' : Array Slot}  (hd : decode bytes pc = .ok (.istore k, 2)) (hp : pc + 2 = pc') (ho : Ls[k]? = some o) (h1 : One o) (hl : Ls.setIfInBounds k (.val (.int v)) = l') (n : Go p l e R s m args below meth c n0 Q K S h (mkF m pc' l' st)) : Go p l e R s m args below meth c n0 Q K S h (mkF m pc Ls (.int v :: st)) := by
  subst hp; exact Go.by (g' := (mkF m (pc + 2) l' st)) (fun T ls cs ss X eT t kt => XS.istoreS X.here C.1 rfl (hb C.2.2.1 hd) rfl ho h1 (hl ▸ kt)) n
theorem astoreS (C : Cx p l e R s m args below meth c Z bytes ml own ret nm) {pc pc' : Nat} {Ls : Array Slot} {st : List Value} {k : Nat} {v : Value} {o : Slot} {l' : Array Slot}  (hd : decode bytes pc = .ok (.astore k, 2)) (hp : pc + 2 = pc') (hv : v.isRef = true) (hc : v.category = 1) (ho : Ls[k]? = some o) (h1 : One o) (hl : Ls.setIfInBounds k (.val v) = l') (n : Go p l e R s m args below meth c n0 Q K S h (mkF m pc' l' st)) : Go p l e R s m args below meth c n0 Q K S h (mkF m pc Ls (v :: st)) := by
  subst hp; exact Go.by (g' := (mkF m (pc + 2) l' st)) (fun T ls cs ss X eT t kt => XS.astoreS X.here C.1 rfl (hb C.2.2.1 hd) rfl hv hc ho h1 (hl ▸ kt)) n
theorem iconst (C : Cx p l e R s m args below meth c Z bytes ml own ret nm) {pc pc' : Nat} {Ls : Array Slot} {st : List Value} {i : Int} {z : Int32}  (hd : decode bytes pc = .ok (.iconst i, 1)) (hp : pc + 1 = pc') (hz : Int32.ofInt i = z) (n : Go p l e R s m args below meth c n0 Q K S h (mkF m pc' Ls (.int z :: st))) : Go p l e R s m args below meth c n0 Q K S h (mkF m pc Ls st) := by
  subst hp; exact Go.by (g' := (mkF m (pc + 1) Ls (.int z :: st))) (fun T ls cs ss X eT t kt => XS.iconst X.here C.1 rfl (hb C.2.2.1 hd) (hz ▸ kt)) n
theorem bipush (C : Cx p l e R s m args below meth c Z bytes ml own ret nm) {pc pc' : Nat} {Ls : Array Slot} {st : List Value} {i : Int} {z : Int32}  (hd : decode bytes pc = .ok (.bipush i, 2)) (hp : pc + 2 = pc') (hz : (Int8.ofInt i).toInt32 = z) (n : Go p l e R s m args below meth c n0 Q K S h (mkF m pc' Ls (.int z :: st))) : Go p l e R s m args below meth c n0 Q K S h (mkF m pc Ls st) := by
  subst hp; exact Go.by (g' := (mkF m (pc + 2) Ls (.int z :: st))) (fun T ls cs ss X eT t kt => XS.bipush X.here C.1 rfl (hb C.2.2.1 hd) (hz ▸ kt)) n
theorem sipush (C : Cx p l e R s m args below meth c Z bytes ml own ret nm) {pc pc' : Nat} {Ls : Array Slot} {st : List Value} {i : Int} {z : Int32}  (hd : decode bytes pc = .ok (.sipush i, 3)) (hp : pc + 3 = pc') (hz : (Int16.ofInt i).toInt32 = z) (n : Go p l e R s m args below meth c n0 Q K S h (mkF m pc' Ls (.int z :: st))) : Go p l e R s m args below meth c n0 Q K S h (mkF m pc Ls st) := by
  subst hp; exact Go.by (g' := (mkF m (pc + 3) Ls (.int z :: st))) (fun T ls cs ss X eT t kt => XS.sipush X.here C.1 rfl (hb C.2.2.1 hd) (hz ▸ kt)) n
theorem lconst (C : Cx p l e R s m args below meth c Z bytes ml own ret nm) {pc pc' : Nat} {Ls : Array Slot} {st : List Value} {i : Fin 2} {z : Int64}  (hd : decode bytes pc = .ok (.lconst i, 1)) (hp : pc + 1 = pc') (hz : Int64.ofNat i.val = z) (n : Go p l e R s m args below meth c n0 Q K S h (mkF m pc' Ls (.long z :: st))) : Go p l e R s m args below meth c n0 Q K S h (mkF m pc Ls st) := by
  subst hp; exact Go.by (g' := (mkF m (pc + 1) Ls (.long z :: st))) (fun T ls cs ss X eT t kt => XS.lconst X.here C.1 rfl (hb C.2.2.1 hd) (hz ▸ kt)) n
theorem aconstNull (C : Cx p l e R s m args below meth c Z bytes ml own ret nm) {pc pc' : Nat} {Ls : Array Slot} {st : List Value}  (hd : decode bytes pc = .ok (.aconst_null, 1)) (hp : pc + 1 = pc')  (n : Go p l e R s m args below meth c n0 Q K S h (mkF m pc' Ls (.null :: st))) : Go p l e R s m args below meth c n0 Q K S h (mkF m pc Ls st) := by
  subst hp; exact Go.by (g' := (mkF m (pc + 1) Ls (.null :: st))) (fun T ls cs ss X eT t kt => XS.aconstNull X.here C.1 rfl (hb C.2.2.1 hd) kt) n
theorem iadd (C : Cx p l e R s m args below meth c Z bytes ml own ret nm) {pc pc' : Nat} {Ls : Array Slot} {st : List Value} {x y : Int32} (hd : decode bytes pc = .ok (.iadd, 1)) (hp : pc + 1 = pc')  (n : Go p l e R s m args below meth c n0 Q K S h (mkF m pc' Ls (.int (x + y) :: st))) : Go p l e R s m args below meth c n0 Q K S h (mkF m pc Ls (.int y :: .int x :: st)) := by
  subst hp; exact Go.by (g' := (mkF m (pc + 1) Ls (.int (x + y) :: st))) (fun T ls cs ss X eT t kt => XS.iadd X.here C.1 rfl (hb C.2.2.1 hd) rfl kt) n
theorem isub (C : Cx p l e R s m args below meth c Z bytes ml own ret nm) {pc pc' : Nat} {Ls : Array Slot} {st : List Value} {x y : Int32} (hd : decode bytes pc = .ok (.isub, 1)) (hp : pc + 1 = pc')  (n : Go p l e R s m args below meth c n0 Q K S h (mkF m pc' Ls (.int (x - y) :: st))) : Go p l e R s m args below meth c n0 Q K S h (mkF m pc Ls (.int y :: .int x :: st)) := by
  subst hp; exact Go.by (g' := (mkF m (pc + 1) Ls (.int (x - y) :: st))) (fun T ls cs ss X eT t kt => XS.isub X.here C.1 rfl (hb C.2.2.1 hd) rfl kt) n
theorem imul (C : Cx p l e R s m args below meth c Z bytes ml own ret nm) {pc pc' : Nat} {Ls : Array Slot} {st : List Value} {x y : Int32} (hd : decode bytes pc = .ok (.imul, 1)) (hp : pc + 1 = pc')  (n : Go p l e R s m args below meth c n0 Q K S h (mkF m pc' Ls (.int (x * y) :: st))) : Go p l e R s m args below meth c n0 Q K S h (mkF m pc Ls (.int y :: .int x :: st)) := by
  subst hp; exact Go.by (g' := (mkF m (pc + 1) Ls (.int (x * y) :: st))) (fun T ls cs ss X eT t kt => XS.imul X.here C.1 rfl (hb C.2.2.1 hd) rfl kt) n
theorem iand (C : Cx p l e R s m args below meth c Z bytes ml own ret nm) {pc pc' : Nat} {Ls : Array Slot} {st : List Value} {x y : Int32} (hd : decode bytes pc = .ok (.iand, 1)) (hp : pc + 1 = pc')  (n : Go p l e R s m args below meth c n0 Q K S h (mkF m pc' Ls (.int (x &&& y) :: st))) : Go p l e R s m args below meth c n0 Q K S h (mkF m pc Ls (.int y :: .int x :: st)) := by
  subst hp; exact Go.by (g' := (mkF m (pc + 1) Ls (.int (x &&& y) :: st))) (fun T ls cs ss X eT t kt => XS.iand X.here C.1 rfl (hb C.2.2.1 hd) rfl kt) n
theorem ior (C : Cx p l e R s m args below meth c Z bytes ml own ret nm) {pc pc' : Nat} {Ls : Array Slot} {st : List Value} {x y : Int32} (hd : decode bytes pc = .ok (.ior, 1)) (hp : pc + 1 = pc')  (n : Go p l e R s m args below meth c n0 Q K S h (mkF m pc' Ls (.int (x ||| y) :: st))) : Go p l e R s m args below meth c n0 Q K S h (mkF m pc Ls (.int y :: .int x :: st)) := by
  subst hp; exact Go.by (g' := (mkF m (pc + 1) Ls (.int (x ||| y) :: st))) (fun T ls cs ss X eT t kt => XS.ior X.here C.1 rfl (hb C.2.2.1 hd) rfl kt) n
theorem ixor (C : Cx p l e R s m args below meth c Z bytes ml own ret nm) {pc pc' : Nat} {Ls : Array Slot} {st : List Value} {x y : Int32} (hd : decode bytes pc = .ok (.ixor, 1)) (hp : pc + 1 = pc')  (n : Go p l e R s m args below meth c n0 Q K S h (mkF m pc' Ls (.int (x ^^^ y) :: st))) : Go p l e R s m args below meth c n0 Q K S h (mkF m pc Ls (.int y :: .int x :: st)) := by
  subst hp; exact Go.by (g' := (mkF m (pc + 1) Ls (.int (x ^^^ y) :: st))) (fun T ls cs ss X eT t kt => XS.ixor X.here C.1 rfl (hb C.2.2.1 hd) rfl kt) n
theorem ladd (C : Cx p l e R s m args below meth c Z bytes ml own ret nm) {pc pc' : Nat} {Ls : Array Slot} {st : List Value} {x y : Int64} (hd : decode bytes pc = .ok (.ladd, 1)) (hp : pc + 1 = pc')  (n : Go p l e R s m args below meth c n0 Q K S h (mkF m pc' Ls (.long (x + y) :: st))) : Go p l e R s m args below meth c n0 Q K S h (mkF m pc Ls (.long y :: .long x :: st)) := by
  subst hp; exact Go.by (g' := (mkF m (pc + 1) Ls (.long (x + y) :: st))) (fun T ls cs ss X eT t kt => XS.ladd X.here C.1 rfl (hb C.2.2.1 hd) rfl kt) n
theorem lsub (C : Cx p l e R s m args below meth c Z bytes ml own ret nm) {pc pc' : Nat} {Ls : Array Slot} {st : List Value} {x y : Int64} (hd : decode bytes pc = .ok (.lsub, 1)) (hp : pc + 1 = pc')  (n : Go p l e R s m args below meth c n0 Q K S h (mkF m pc' Ls (.long (x - y) :: st))) : Go p l e R s m args below meth c n0 Q K S h (mkF m pc Ls (.long y :: .long x :: st)) := by
  subst hp; exact Go.by (g' := (mkF m (pc + 1) Ls (.long (x - y) :: st))) (fun T ls cs ss X eT t kt => XS.lsub X.here C.1 rfl (hb C.2.2.1 hd) rfl kt) n
theorem lmul (C : Cx p l e R s m args below meth c Z bytes ml own ret nm) {pc pc' : Nat} {Ls : Array Slot} {st : List Value} {x y : Int64} (hd : decode bytes pc = .ok (.lmul, 1)) (hp : pc + 1 = pc')  (n : Go p l e R s m args below meth c n0 Q K S h (mkF m pc' Ls (.long (x * y) :: st))) : Go p l e R s m args below meth c n0 Q K S h (mkF m pc Ls (.long y :: .long x :: st)) := by
  subst hp; exact Go.by (g' := (mkF m (pc + 1) Ls (.long (x * y) :: st))) (fun T ls cs ss X eT t kt => XS.lmul X.here C.1 rfl (hb C.2.2.1 hd) rfl kt) n
theorem land (C : Cx p l e R s m args below meth c Z bytes ml own ret nm) {pc pc' : Nat} {Ls : Array Slot} {st : List Value} {x y : Int64} (hd : decode bytes pc = .ok (.land, 1)) (hp : pc + 1 = pc')  (n : Go p l e R s m args below meth c n0 Q K S h (mkF m pc' Ls (.long (x &&& y) :: st))) : Go p l e R s m args below meth c n0 Q K S h (mkF m pc Ls (.long y :: .long x :: st)) := by
  subst hp; exact Go.by (g' := (mkF m (pc + 1) Ls (.long (x &&& y) :: st))) (fun T ls cs ss X eT t kt => XS.land X.here C.1 rfl (hb C.2.2.1 hd) rfl kt) n
theorem lor (C : Cx p l e R s m args below meth c Z bytes ml own ret nm) {pc pc' : Nat} {Ls : Array Slot} {st : List Value} {x y : Int64} (hd : decode bytes pc = .ok (.lor, 1)) (hp : pc + 1 = pc')  (n : Go p l e R s m args below meth c n0 Q K S h (mkF m pc' Ls (.long (x ||| y) :: st))) : Go p l e R s m args below meth c n0 Q K S h (mkF m pc Ls (.long y :: .long x :: st)) := by
  subst hp; exact Go.by (g' := (mkF m (pc + 1) Ls (.long (x ||| y) :: st))) (fun T ls cs ss X eT t kt => XS.lor X.here C.1 rfl (hb C.2.2.1 hd) rfl kt) n
theorem lxor (C : Cx p l e R s m args below meth c Z bytes ml own ret nm) {pc pc' : Nat} {Ls : Array Slot} {st : List Value} {x y : Int64} (hd : decode bytes pc = .ok (.lxor, 1)) (hp : pc + 1 = pc')  (n : Go p l e R s m args below meth c n0 Q K S h (mkF m pc' Ls (.long (x ^^^ y) :: st))) : Go p l e R s m args below meth c n0 Q K S h (mkF m pc Ls (.long y :: .long x :: st)) := by
  subst hp; exact Go.by (g' := (mkF m (pc + 1) Ls (.long (x ^^^ y) :: st))) (fun T ls cs ss X eT t kt => XS.lxor X.here C.1 rfl (hb C.2.2.1 hd) rfl kt) n
theorem ishl (C : Cx p l e R s m args below meth c Z bytes ml own ret nm) {pc pc' : Nat} {Ls : Array Slot} {st : List Value} {x y : Int32} (hd : decode bytes pc = .ok (.ishl, 1)) (hp : pc + 1 = pc')  (n : Go p l e R s m args below meth c n0 Q K S h (mkF m pc' Ls (.int (x <<< (y &&& 31)) :: st))) : Go p l e R s m args below meth c n0 Q K S h (mkF m pc Ls (.int y :: .int x :: st)) := by
  subst hp; exact Go.by (g' := (mkF m (pc + 1) Ls (.int (x <<< (y &&& 31)) :: st))) (fun T ls cs ss X eT t kt => XS.ishl X.here C.1 rfl (hb C.2.2.1 hd) rfl kt) n
theorem ishr (C : Cx p l e R s m args below meth c Z bytes ml own ret nm) {pc pc' : Nat} {Ls : Array Slot} {st : List Value} {x y : Int32} (hd : decode bytes pc = .ok (.ishr, 1)) (hp : pc + 1 = pc')  (n : Go p l e R s m args below meth c n0 Q K S h (mkF m pc' Ls (.int (x >>> (y &&& 31)) :: st))) : Go p l e R s m args below meth c n0 Q K S h (mkF m pc Ls (.int y :: .int x :: st)) := by
  subst hp; exact Go.by (g' := (mkF m (pc + 1) Ls (.int (x >>> (y &&& 31)) :: st))) (fun T ls cs ss X eT t kt => XS.ishr X.here C.1 rfl (hb C.2.2.1 hd) rfl kt) n
theorem iushr (C : Cx p l e R s m args below meth c Z bytes ml own ret nm) {pc pc' : Nat} {Ls : Array Slot} {st : List Value} {x y : Int32} (hd : decode bytes pc = .ok (.iushr, 1)) (hp : pc + 1 = pc')  (n : Go p l e R s m args below meth c n0 Q K S h (mkF m pc' Ls (.int ((x.toUInt32 >>> (y &&& 31).toUInt32).toInt32) :: st))) : Go p l e R s m args below meth c n0 Q K S h (mkF m pc Ls (.int y :: .int x :: st)) := by
  subst hp; exact Go.by (g' := (mkF m (pc + 1) Ls (.int ((x.toUInt32 >>> (y &&& 31).toUInt32).toInt32) :: st))) (fun T ls cs ss X eT t kt => XS.iushr X.here C.1 rfl (hb C.2.2.1 hd) rfl kt) n
theorem lshl (C : Cx p l e R s m args below meth c Z bytes ml own ret nm) {pc pc' : Nat} {Ls : Array Slot} {st : List Value} {x : Int64} {y : Int32} (hd : decode bytes pc = .ok (.lshl, 1)) (hp : pc + 1 = pc')  (n : Go p l e R s m args below meth c n0 Q K S h (mkF m pc' Ls (.long (x <<< (y &&& 0x3f).toInt64) :: st))) : Go p l e R s m args below meth c n0 Q K S h (mkF m pc Ls (.int y :: .long x :: st)) := by
  subst hp; exact Go.by (g' := (mkF m (pc + 1) Ls (.long (x <<< (y &&& 0x3f).toInt64) :: st))) (fun T ls cs ss X eT t kt => XS.lshl X.here C.1 rfl (hb C.2.2.1 hd) rfl kt) n
theorem lshr (C : Cx p l e R s m args below meth c Z bytes ml own ret nm) {pc pc' : Nat} {Ls : Array Slot} {st : List Value} {x : Int64} {y : Int32} (hd : decode bytes pc = .ok (.lshr, 1)) (hp : pc + 1 = pc')  (n : Go p l e R s m args below meth c n0 Q K S h (mkF m pc' Ls (.long (x >>> (y &&& 0x3f).toInt64) :: st))) : Go p l e R s m args below meth c n0 Q K S h (mkF m pc Ls (.int y :: .long x :: st)) := by
  subst hp; exact Go.by (g' := (mkF m (pc + 1) Ls (.long (x >>> (y &&& 0x3f).toInt64) :: st))) (fun T ls cs ss X eT t kt => XS.lshr X.here C.1 rfl (hb C.2.2.1 hd) rfl kt) n
theorem lushr (C : Cx p l e R s m args below meth c Z bytes ml own ret nm) {pc pc' : Nat} {Ls : Array Slot} {st : List Value} {x : Int64} {y : Int32} (hd : decode bytes pc = .ok (.lushr, 1)) (hp : pc + 1 = pc')  (n : Go p l e R s m args below meth c n0 Q K S h (mkF m pc' Ls (.long ((x.toUInt64 >>> (y &&& 0x3f).toInt64.toUInt64).toInt64) :: st))) : Go p l e R s m args below meth c n0 Q K S h (mkF m pc Ls (.int y :: .long x :: st)) := by
  subst hp; exact Go.by (g' := (mkF m (pc + 1) Ls (.long ((x.toUInt64 >>> (y &&& 0x3f).toInt64.toUInt64).toInt64) :: st))) (fun T ls cs ss X eT t kt => XS.lushr X.here C.1 rfl (hb C.2.2.1 hd) rfl kt) n
theorem idiv (C : Cx p l e R s m args below meth c Z bytes ml own ret nm) {pc pc' : Nat} {Ls : Array Slot} {st : List Value} {x y : Int32}  (hd : decode bytes pc = .ok (.idiv, 1)) (hp : pc + 1 = pc') (hy : y ≠ 0) (n : Go p l e R s m args below meth c n0 Q K S h (mkF m pc' Ls (.int (x / y) :: st))) : Go p l e R s m args below meth c n0 Q K S h (mkF m pc Ls (.int y :: .int x :: st)) := by
  subst hp; exact Go.by (g' := (mkF m (pc + 1) Ls (.int (x / y) :: st))) (fun T ls cs ss X eT t kt => XS.idiv X.here C.1 rfl (hb C.2.2.1 hd) rfl hy kt) n
theorem irem (C : Cx p l e R s m args below meth c Z bytes ml own ret nm) {pc pc' : Nat} {Ls : Array Slot} {st : List Value} {x y : Int32}  (hd : decode bytes pc = .ok (.irem, 1)) (hp : pc + 1 = pc') (hy : y ≠ 0) (n : Go p l e R s m args below meth c n0 Q K S h (mkF m pc' Ls (.int (x % y) :: st))) : Go p l e R s m args below meth c n0 Q K S h (mkF m pc Ls (.int y :: .int x :: st)) := by
  subst hp; exact Go.by (g' := (mkF m (pc + 1) Ls (.int (x % y) :: st))) (fun T ls cs ss X eT t kt => iremM X C.1 rfl (hb C.2.2.1 hd) rfl hy kt) n
theorem ldiv (C : Cx p l e R s m args below meth c Z bytes ml own ret nm) {pc pc' : Nat} {Ls : Array Slot} {st : List Value} {x y : Int64}  (hd : decode bytes pc = .ok (.ldiv, 1)) (hp : pc + 1 = pc') (hy : y ≠ 0) (n : Go p l e R s m args below meth c n0 Q K S h (mkF m pc' Ls (.long (x / y) :: st))) : Go p l e R s m args below meth c n0 Q K S h (mkF m pc Ls (.long y :: .long x :: st)) := by
  subst hp; exact Go.by (g' := (mkF m (pc + 1) Ls (.long (x / y) :: st))) (fun T ls cs ss X eT t kt => XS.ldiv X.here C.1 rfl (hb C.2.2.1 hd) rfl hy kt) n
theorem ineg (C : Cx p l e R s m args below meth c Z bytes ml own ret nm) {pc pc' : Nat} {Ls : Array Slot} {st : List Value} {x : Int32} (hd : decode bytes pc = .ok (.ineg, 1)) (hp : pc + 1 = pc')  (n : Go p l e R s m args below meth c n0 Q K S h (mkF m pc' Ls (.int (-x) :: st))) : Go p l e R s m args below meth c n0 Q K S h (mkF m pc Ls (.int x :: st)) := by
  subst hp; exact Go.by (g' := (mkF m (pc + 1) Ls (.int (-x) :: st))) (fun T ls cs ss X eT t kt => XS.ineg X.here C.1 rfl (hb C.2.2.1 hd) rfl kt) n
theorem lneg (C : Cx p l e R s m args below meth c Z bytes ml own ret nm) {pc pc' : Nat} {Ls : Array Slot} {st : List Value} {x : Int64} (hd : decode bytes pc = .ok (.lneg, 1)) (hp : pc + 1 = pc')  (n : Go p l e R s m args below meth c n0 Q K S h (mkF m pc' Ls (.long (-x) :: st))) : Go p l e R s m args below meth c n0 Q K S h (mkF m pc Ls (.long x :: st)) := by
  subst hp; exact Go.by (g' := (mkF m (pc + 1) Ls (.long (-x) :: st))) (fun T ls cs ss X eT t kt => XS.lneg X.here C.1 rfl (hb C.2.2.1 hd) rfl kt) n
theorem i2l (C : Cx p l e R s m args below meth c Z bytes ml own ret nm) {pc pc' : Nat} {Ls : Array Slot} {st : List Value} {x : Int32} (hd : decode bytes pc = .ok (.i2l, 1)) (hp : pc + 1 = pc')  (n : Go p l e R s m args below meth c n0 Q K S h (mkF m pc' Ls (.long (x.toInt64) :: st))) : Go p l e R s m args below meth c n0 Q K S h (mkF m pc Ls (.int x :: st)) := by
  subst hp; exact Go.by (g' := (mkF m (pc + 1) Ls (.long (x.toInt64) :: st))) (fun T ls cs ss X eT t kt => XS.i2l X.here C.1 rfl (hb C.2.2.1 hd) rfl kt) n
theorem i2b (C : Cx p l e R s m args below meth c Z bytes ml own ret nm) {pc pc' : Nat} {Ls : Array Slot} {st : List Value} {x : Int32} (hd : decode bytes pc = .ok (.i2b, 1)) (hp : pc + 1 = pc')  (n : Go p l e R s m args below meth c n0 Q K S h (mkF m pc' Ls (.int (x.toInt8.toInt32) :: st))) : Go p l e R s m args below meth c n0 Q K S h (mkF m pc Ls (.int x :: st)) := by
  subst hp; exact Go.by (g' := (mkF m (pc + 1) Ls (.int (x.toInt8.toInt32) :: st))) (fun T ls cs ss X eT t kt => XS.i2b X.here C.1 rfl (hb C.2.2.1 hd) rfl kt) n
theorem i2s (C : Cx p l e R s m args below meth c Z bytes ml own ret nm) {pc pc' : Nat} {Ls : Array Slot} {st : List Value} {x : Int32} (hd : decode bytes pc = .ok (.i2s, 1)) (hp : pc + 1 = pc')  (n : Go p l e R s m args below meth c n0 Q K S h (mkF m pc' Ls (.int (x.toInt16.toInt32) :: st))) : Go p l e R s m args below meth c n0 Q K S h (mkF m pc Ls (.int x :: st)) := by
  subst hp; exact Go.by (g' := (mkF m (pc + 1) Ls (.int (x.toInt16.toInt32) :: st))) (fun T ls cs ss X eT t kt => XS.i2s X.here C.1 rfl (hb C.2.2.1 hd) rfl kt) n
theorem i2c (C : Cx p l e R s m args below meth c Z bytes ml own ret nm) {pc pc' : Nat} {Ls : Array Slot} {st : List Value} {x : Int32} (hd : decode bytes pc = .ok (.i2c, 1)) (hp : pc + 1 = pc')  (n : Go p l e R s m args below meth c n0 Q K S h (mkF m pc' Ls (.int (x.toUInt32.toUInt16.toUInt32.toInt32) :: st))) : Go p l e R s m args below meth c n0 Q K S h (mkF m pc Ls (.int x :: st)) := by
  subst hp; exact Go.by (g' := (mkF m (pc + 1) Ls (.int (x.toUInt32.toUInt16.toUInt32.toInt32) :: st))) (fun T ls cs ss X eT t kt => XS.i2c X.here C.1 rfl (hb C.2.2.1 hd) rfl kt) n
theorem l2i (C : Cx p l e R s m args below meth c Z bytes ml own ret nm) {pc pc' : Nat} {Ls : Array Slot} {st : List Value} {x : Int64} (hd : decode bytes pc = .ok (.l2i, 1)) (hp : pc + 1 = pc')  (n : Go p l e R s m args below meth c n0 Q K S h (mkF m pc' Ls (.int x.toInt32 :: st))) : Go p l e R s m args below meth c n0 Q K S h (mkF m pc Ls (.long x :: st)) := by
  subst hp; exact Go.by (g' := (mkF m (pc + 1) Ls (.int x.toInt32 :: st))) (fun T ls cs ss X eT t kt => XS.l2i X.here C.1 rfl (hb C.2.2.1 hd) rfl kt) n
theorem lcmp (C : Cx p l e R s m args below meth c Z bytes ml own ret nm) {pc pc' : Nat} {Ls : Array Slot} {st : List Value} {x y : Int64} (hd : decode bytes pc = .ok (.lcmp, 1)) (hp : pc + 1 = pc')  (n : Go p l e R s m args below meth c n0 Q K S h (mkF m pc' Ls (.int (lcmpW x y) :: st))) : Go p l e R s m args below meth c n0 Q K S h (mkF m pc Ls (.long y :: .long x :: st)) := by
  subst hp; exact Go.by (g' := (mkF m (pc + 1) Ls (.int (lcmpW x y) :: st))) (fun T ls cs ss X eT t kt => XS.lcmp X.here C.1 rfl (hb C.2.2.1 hd) rfl kt) n
theorem iinc (C : Cx p l e R s m args below meth c Z bytes ml own ret nm) {pc pc' : Nat} {Ls : Array Slot} {st : List Value} {k : Nat} {i : Int} {x : Int32} {l' : Array Slot}  (hd : decode bytes pc = .ok (.iinc k i, 3)) (hp : pc + 3 = pc') (hl : Ls[k]? = some (.val (.int x))) (hl' : storeLocals Ls k (.int (x + Int32.ofInt i)) = some l') (n : Go p l e R s m args below meth c n0 Q K S h (mkF m pc' l' st)) : Go p l e R s m args below meth c n0 Q K S h (mkF m pc Ls st) := by
  subst hp; exact Go.by (g' := (mkF m (pc + 3) l' st)) (fun T ls cs ss X eT t kt => XS.iinc X.here C.1 rfl (hb C.2.2.1 hd) hl hl' kt) n
theorem dup (C : Cx p l e R s m args below meth c Z bytes ml own ret nm) {pc pc' : Nat} {Ls : Array Slot} {st : List Value} {x : Value}  (hd : decode bytes pc = .ok (.dup, 1)) (hp : pc + 1 = pc') (hc : x.category = 1) (n : Go p l e R s m args below meth c n0 Q K S h (mkF m pc' Ls (x :: x :: st))) : Go p l e R s m args below meth c n0 Q K S h (mkF m pc Ls (x :: st)) := by
  subst hp; exact Go.by (g' := (mkF m (pc + 1) Ls (x :: x :: st))) (fun T ls cs ss X eT t kt => XS.dup X.here C.1 rfl (hb C.2.2.1 hd) rfl hc kt) n
theorem pop (C : Cx p l e R s m args below meth c Z bytes ml own ret nm) {pc pc' : Nat} {Ls : Array Slot} {st : List Value} {x : Value}  (hd : decode bytes pc = .ok (.pop, 1)) (hp : pc + 1 = pc') (hc : x.category = 1) (n : Go p l e R s m args below meth c n0 Q K S h (mkF m pc' Ls st)) : Go p l e R s m args below meth c n0 Q K S h (mkF m pc Ls (x :: st)) := by
  subst hp; exact Go.by (g' := (mkF m (pc + 1) Ls st)) (fun T ls cs ss X eT t kt => XS.pop X.here C.1 rfl (hb C.2.2.1 hd) rfl hc kt) n
theorem dupX1 (C : Cx p l e R s m args below meth c Z bytes ml own ret nm) {pc pc' : Nat} {Ls : Array Slot} {st : List Value} {x y : Value}  (hd : decode bytes pc = .ok (.dup_x1, 1)) (hp : pc + 1 = pc') (hc : x.category = 1) (hc' : y.category = 1) (n : Go p l e R s m args below meth c n0 Q K S h (mkF m pc' Ls (x :: y :: x :: st))) : Go p l e R s m args below meth c n0 Q K S h (mkF m pc Ls (x :: y :: st)) := by
  subst hp; exact Go.by (g' := (mkF m (pc + 1) Ls (x :: y :: x :: st))) (fun T ls cs ss X eT t kt => XS.dupX1 X.here C.1 rfl (hb C.2.2.1 hd) rfl hc hc' kt) n
theorem dloadN (C : Cx p l e R s m args below meth c Z bytes ml own ret nm) {pc pc' : Nat} {Ls : Array Slot} {st : List Value} {k : Fin 4} {v : UInt64}  (hd : decode bytes pc = .ok (.dload_n k, 1)) (hp : pc + 1 = pc') (hl : Ls[k.val]? = some (.val (.double v))) (n : Go p l e R s m args below meth c n0 Q K S h (mkF m pc' Ls (.double v :: st))) : Go p l e R s m args below meth c n0 Q K S h (mkF m pc Ls st) := by
  subst hp; exact Go.by (g' := (mkF m (pc + 1) Ls (.double v :: st))) (fun T ls cs ss X eT t kt => XS.dloadN X.here C.1 rfl (hb C.2.2.1 hd) hl kt) n
theorem dload (C : Cx p l e R s m args below meth c Z bytes ml own ret nm) {pc pc' : Nat} {Ls : Array Slot} {st : List Value} {k : Nat} {v : UInt64}  (hd : decode bytes pc = .ok (.dload k, 2)) (hp : pc + 2 = pc') (hl : Ls[k]? = some (.val (.double v))) (n : Go p l e R s m args below meth c n0 Q K S h (mkF m pc' Ls (.double v :: st))) : Go p l e R s m args below meth c n0 Q K S h (mkF m pc Ls st) := by
  subst hp; exact Go.by (g' := (mkF m (pc + 2) Ls (.double v :: st))) (fun T ls cs ss X eT t kt => XS.dload X.here C.1 rfl (hb C.2.2.1 hd) hl kt) n
theorem i2d (C : Cx p l e R s m args below meth c Z bytes ml own ret nm) {pc pc' : Nat} {Ls : Array Slot} {st : List Value} {x : Int32} (hd : decode bytes pc = .ok (.i2d, 1)) (hp : pc + 1 = pc')  (n : Go p l e R s m args below meth c n0 Q K S h (mkF m pc' Ls (.double (FP.i2d x) :: st))) : Go p l e R s m args below meth c n0 Q K S h (mkF m pc Ls (.int x :: st)) := by
  subst hp; exact Go.by (g' := (mkF m (pc + 1) Ls (.double (FP.i2d x) :: st))) (fun T ls cs ss X eT t kt => XS.i2dS X.here C.1 rfl (hb C.2.2.1 hd) rfl rfl kt) n
theorem ddiv (C : Cx p l e R s m args below meth c Z bytes ml own ret nm) {pc pc' : Nat} {Ls : Array Slot} {st : List Value} {x y v : UInt64}  (hd : decode bytes pc = .ok (.ddiv, 1)) (hp : pc + 1 = pc') (hn : Jvm.Free.Fl.NoNaN64 (FP.ddiv x y)) (hv : FP.ddiv x y = v) (n : Go p l e R s m args below meth c n0 Q K S h (mkF m pc' Ls (.double v :: st))) : Go p l e R s m args below meth c n0 Q K S h (mkF m pc Ls (.double y :: .double x :: st)) := by
  subst hp; exact Go.by (g' := (mkF m (pc + 1) Ls (.double v :: st))) (fun T ls cs ss X eT t kt => XS.ddivS X.here C.1 rfl (hb C.2.2.1 hd) rfl hn hv kt) n
theorem dcmp (C : Cx p l e R s m args below meth c Z bytes ml own ret nm) {pc pc' : Nat} {Ls : Array Slot} {st : List Value} {x y : UInt64} {o : CmpOp} {v : Int32}  (hd : decode bytes pc = .ok (.dcmp o, 1)) (hp : pc + 1 = pc') (hv : cmpValue (FP.dcmp x y) o = v) (n : Go p l e R s m args below meth c n0 Q K S h (mkF m pc' Ls (.int v :: st))) : Go p l e R s m args below meth c n0 Q K S h (mkF m pc Ls (.double y :: .double x :: st)) := by
  subst hp; exact Go.by (g' := (mkF m (pc + 1) Ls (.int v :: st))) (fun T ls cs ss X eT t kt => XS.dcmpS X.here C.1 rfl (hb C.2.2.1 hd) rfl hv kt) n
theorem goto (C : Cx p l e R s m args below meth c Z bytes ml own ret nm) {pc pc' : Nat} {Ls : Array Slot} {st : List Value} {o : Int} (hd : decode bytes pc = .ok (.goto o, 3)) (ho : 0 ≤ (pc : Int) + o) (hp : ((pc : Int) + o).toNat = pc') (n : Go p l e R s m args below meth c n0 Q K S h (mkF m pc' Ls st)) : Go p l e R s m args below meth c n0 Q K S h (mkF m pc Ls st) :=
  Go.by (fun T ls cs ss X eT t kt => XS.goto X.here C.1 rfl rfl (hb C.2.2.1 hd) ho hp kt) n
theorem ifG (C : Cx p l e R s m args below meth c Z bytes ml own ret nm) {pc pcY pcN : Nat} {Ls : Array Slot} {st : List Value} {cd : ClassFile.Cond} {o : Int} {x : Int32} (hd : decode bytes pc = .ok (.ifCond cd o, 3)) (ho : 0 ≤ (pc : Int) + o) (hp : ((pc : Int) + o).toNat = pcY) (hp' : pc + 3 = pcN) (ny : ifCond.holds cd x = true → Go p l e R s m args below meth c n0 Q K S h (mkF m pcY Ls st)) (nn : ifCond.holds cd x = false → Go p l e R s m args below meth c n0 Q K S h (mkF m pcN Ls st)) : Go p l e R s m args below meth c n0 Q K S h (mkF m pc Ls (.int x :: st)) := by
  subst hp'
  cases hc : ifCond.holds cd x
  · exact Go.by (g' := (mkF m (pc + 3) Ls st)) (fun T ls cs ss X eT t kt => XS.ifNo X.here C.1 rfl (hb C.2.2.1 hd) rfl hc kt) (nn hc)
  · exact Go.by (fun T ls cs ss X eT t kt => XS.ifYes X.here C.1 rfl rfl (hb C.2.2.1 hd) rfl hc ho hp kt) (ny hc)
theorem icmpG (C : Cx p l e R s m args below meth c Z bytes ml own ret nm) {pc pcY pcN : Nat} {Ls : Array Slot} {st : List Value} {cd : ClassFile.Cond} {o : Int} {x y : Int32} (hd : decode bytes pc = .ok (.if_icmp cd o, 3)) (ho : 0 ≤ (pc : Int) + o) (hp : ((pc : Int) + o).toNat = pcY) (hp' : pc + 3 = pcN) (ny : if_icmp.holds cd x y = true → Go p l e R s m args below meth c n0 Q K S h (mkF m pcY Ls st)) (nn : if_icmp.holds cd x y = false → Go p l e R s m args below meth c n0 Q K S h (mkF m pcN Ls st)) : Go p l e R s m args below meth c n0 Q K S h (mkF m pc Ls (.int y :: .int x :: st)) := by
  subst hp'
  cases hc : if_icmp.holds cd x y
  · exact Go.by (g' := (mkF m (pc + 3) Ls st)) (fun T ls cs ss X eT t kt => XS.icmpNo X.here C.1 rfl (hb C.2.2.1 hd) rfl hc kt) (nn hc)
  · exact Go.by (fun T ls cs ss X eT t kt => XS.icmpYes X.here C.1 rfl rfl (hb C.2.2.1 hd) rfl hc ho hp kt) (ny hc)
theorem ifEq (C : Cx p l e R s m args below meth c Z bytes ml own ret nm) {pc pcY pcN : Nat} {Ls : Array Slot} {st : List Value} {o : Int} {x : Int32} (hd : decode bytes pc = .ok (.ifCond .eq o, 3)) (ho : 0 ≤ (pc : Int) + o) (hp : ((pc : Int) + o).toNat = pcY) (hp' : pc + 3 = pcN) (ny : x = 0 → Go p l e R s m args below meth c n0 Q K S h (mkF m pcY Ls st)) (nn : ¬ x = 0 → Go p l e R s m args below meth c n0 Q K S h (mkF m pcN Ls st)) : Go p l e R s m args below meth c n0 Q K S h (mkF m pc Ls (.int x :: st)) := by
  by_cases hq : x = 0
  · exact ifG C hd ho hp hp' (fun hc => ny hq) (fun hc => absurd (hc.symm.trans ((if0 _ _).trans (teq hq).1)) (by decide))
  · exact ifG C hd ho hp hp' (fun hc => absurd (hc.symm.trans ((if0 _ _).trans (feq hq).1)) (by decide)) (fun hc => nn hq)
theorem icEq (C : Cx p l e R s m args below meth c Z bytes ml own ret nm) {pc pcY pcN : Nat} {Ls : Array Slot} {st : List Value} {o : Int} {x y : Int32} (hd : decode bytes pc = .ok (.if_icmp .eq o, 3)) (ho : 0 ≤ (pc : Int) + o) (hp : ((pc : Int) + o).toNat = pcY) (hp' : pc + 3 = pcN) (ny : x = y → Go p l e R s m args below meth c n0 Q K S h (mkF m pcY Ls st)) (nn : ¬ x = y → Go p l e R s m args below meth c n0 Q K S h (mkF m pcN Ls st)) : Go p l e R s m args below meth c n0 Q K S h (mkF m pc Ls (.int y :: .int x :: st)) := by
  by_cases hq : x = y
  · exact icmpG C hd ho hp hp' (fun hc => ny hq) (fun hc => absurd (hc.symm.trans ((teq hq).1)) (by decide))
  · exact icmpG C hd ho hp hp' (fun hc => absurd (hc.symm.trans ((feq hq).1)) (by decide)) (fun hc => nn hq)
theorem ifNe (C : Cx p l e R s m args below meth c Z bytes ml own ret nm) {pc pcY pcN : Nat} {Ls : Array Slot} {st : List Value} {o : Int} {x : Int32} (hd : decode bytes pc = .ok (.ifCond .ne o, 3)) (ho : 0 ≤ (pc : Int) + o) (hp : ((pc : Int) + o).toNat = pcY) (hp' : pc + 3 = pcN) (ny : ¬ x = 0 → Go p l e R s m args below meth c n0 Q K S h (mkF m pcY Ls st)) (nn : x = 0 → Go p l e R s m args below meth c n0 Q K S h (mkF m pcN Ls st)) : Go p l e R s m args below meth c n0 Q K S h (mkF m pc Ls (.int x :: st)) := by
  by_cases hq : x = 0
  · exact ifG C hd ho hp hp' (fun hc => absurd (hc.symm.trans ((if0 _ _).trans (teq hq).2)) (by decide)) (fun hc => nn hq)
  · exact ifG C hd ho hp hp' (fun hc => ny hq) (fun hc => absurd (hc.symm.trans ((if0 _ _).trans (feq hq).2)) (by decide))
theorem icNe (C : Cx p l e R s m args below meth c Z bytes ml own ret nm) {pc pcY pcN : Nat} {Ls : Array Slot} {st : List Value} {o : Int} {x y : Int32} (hd : decode bytes pc = .ok (.if_icmp .ne o, 3)) (ho : 0 ≤ (pc : Int) + o) (hp : ((pc : Int) + o).toNat = pcY) (hp' : pc + 3 = pcN) (ny : ¬ x = y → Go p l e R s m args below meth c n0 Q K S h (mkF m pcY Ls st)) (nn : x = y → Go p l e R s m args below meth c n0 Q K S h (mkF m pcN Ls st)) : Go p l e R s m args below meth c n0 Q K S h (mkF m pc Ls (.int y :: .int x :: st)) := by
  by_cases hq : x = y
  · exact icmpG C hd ho hp hp' (fun hc => absurd (hc.symm.trans ((teq hq).2)) (by decide)) (fun hc => nn hq)
  · exact icmpG C hd ho hp hp' (fun hc => ny hq) (fun hc => absurd (hc.symm.trans ((feq hq).2)) (by decide))
theorem ifLt (C : Cx p l e R s m args below meth c Z bytes ml own ret nm) {pc pcY pcN : Nat} {Ls : Array Slot} {st : List Value} {o : Int} {x : Int32} (hd : decode bytes pc = .ok (.ifCond .lt o, 3)) (ho : 0 ≤ (pc : Int) + o) (hp : ((pc : Int) + o).toNat = pcY) (hp' : pc + 3 = pcN) (ny : x < 0 → Go p l e R s m args below meth c n0 Q K S h (mkF m pcY Ls st)) (nn : ¬ x < 0 → Go p l e R s m args below meth c n0 Q K S h (mkF m pcN Ls st)) : Go p l e R s m args below meth c n0 Q K S h (mkF m pc Ls (.int x :: st)) := by
  by_cases hq : x < 0
  · exact ifG C hd ho hp hp' (fun hc => ny hq) (fun hc => absurd (hc.symm.trans ((if0 _ _).trans (tlt hq).1)) (by decide))
  · exact ifG C hd ho hp hp' (fun hc => absurd (hc.symm.trans ((if0 _ _).trans (flt hq).1)) (by decide)) (fun hc => nn hq)
theorem icLt (C : Cx p l e R s m args below meth c Z bytes ml own ret nm) {pc pcY pcN : Nat} {Ls : Array Slot} {st : List Value} {o : Int} {x y : Int32} (hd : decode bytes pc = .ok (.if_icmp .lt o, 3)) (ho : 0 ≤ (pc : Int) + o) (hp : ((pc : Int) + o).toNat = pcY) (hp' : pc + 3 = pcN) (ny : x < y → Go p l e R s m args below meth c n0 Q K S h (mkF m pcY Ls st)) (nn : ¬ x < y → Go p l e R s m args below meth c n0 Q K S h (mkF m pcN Ls st)) : Go p l e R s m args below meth c n0 Q K S h (mkF m pc Ls (.int y :: .int x :: st)) := by
  by_cases hq : x < y
  · exact icmpG C hd ho hp hp' (fun hc => ny hq) (fun hc => absurd (hc.symm.trans ((tlt hq).1)) (by decide))
  · exact icmpG C hd ho hp hp' (fun hc => absurd (hc.symm.trans ((flt hq).1)) (by decide)) (fun hc => nn hq)
theorem ifGe (C : Cx p l e R s m args below meth c Z bytes ml own ret nm) {pc pcY pcN : Nat} {Ls : Array Slot} {st : List Value} {o : Int} {x : Int32} (hd : decode bytes pc = .ok (.ifCond .ge o, 3)) (ho : 0 ≤ (pc : Int) + o) (hp : ((pc : Int) + o).toNat = pcY) (hp' : pc + 3 = pcN) (ny : ¬ x < 0 → Go p l e R s m args below meth c n0 Q K S h (mkF m pcY Ls st)) (nn : x < 0 → Go p l e R s m args below meth c n0 Q K S h (mkF m pcN Ls st)) : Go p l e R s m args below meth c n0 Q K S h (mkF m pc Ls (.int x :: st)) := by
  by_cases hq : x < 0
  · exact ifG C hd ho hp hp' (fun hc => absurd (hc.symm.trans ((if0 _ _).trans (tlt hq).2.1)) (by decide)) (fun hc => nn hq)
  · exact ifG C hd ho hp hp' (fun hc => ny hq) (fun hc => absurd (hc.symm.trans ((if0 _ _).trans (flt hq).2.1)) (by decide))
theorem icGe (C : Cx p l e R s m args below meth c Z bytes ml own ret nm) {pc pcY pcN : Nat} {Ls : Array Slot} {st : List Value} {o : Int} {x y : Int32} (hd : decode bytes pc = .ok (.if_icmp .ge o, 3)) (ho : 0 ≤ (pc : Int) + o) (hp : ((pc : Int) + o).toNat = pcY) (hp' : pc + 3 = pcN) (ny : ¬ x < y → Go p l e R s m args below meth c n0 Q K S h (mkF m pcY Ls st)) (nn : x < y → Go p l e R s m args below meth c n0 Q K S h (mkF m pcN Ls st)) : Go p l e R s m args below meth c n0 Q K S h (mkF m pc Ls (.int y :: .int x :: st)) := by
  by_cases hq : x < y
  · exact icmpG C hd ho hp hp' (fun hc => absurd (hc.symm.trans ((tlt hq).2.1)) (by decide)) (fun hc => nn hq)
  · exact icmpG C hd ho hp hp' (fun hc => ny hq) (fun hc => absurd (hc.symm.trans ((flt hq).2.1)) (by decide))
theorem ifGt (C : Cx p l e R s m args below meth c Z bytes ml own ret nm) {pc pcY pcN : Nat} {Ls : Array Slot} {st : List Value} {o : Int} {x : Int32} (hd : decode bytes pc = .ok (.ifCond .gt o, 3)) (ho : 0 ≤ (pc : Int) + o) (hp : ((pc : Int) + o).toNat = pcY) (hp' : pc + 3 = pcN) (ny : 0 < x → Go p l e R s m args below meth c n0 Q K S h (mkF m pcY Ls st)) (nn : ¬ 0 < x → Go p l e R s m args below meth c n0 Q K S h (mkF m pcN Ls st)) : Go p l e R s m args below meth c n0 Q K S h (mkF m pc Ls (.int x :: st)) := by
  by_cases hq : 0 < x
  · exact ifG C hd ho hp hp' (fun hc => ny hq) (fun hc => absurd (hc.symm.trans ((if0 _ _).trans (tlt hq).2.2.1)) (by decide))
  · exact ifG C hd ho hp hp' (fun hc => absurd (hc.symm.trans ((if0 _ _).trans (flt hq).2.2.1)) (by decide)) (fun hc => nn hq)
theorem icGt (C : Cx p l e R s m args below meth c Z bytes ml own ret nm) {pc pcY pcN : Nat} {Ls : Array Slot} {st : List Value} {o : Int} {x y : Int32} (hd : decode bytes pc = .ok (.if_icmp .gt o, 3)) (ho : 0 ≤ (pc : Int) + o) (hp : ((pc : Int) + o).toNat = pcY) (hp' : pc + 3 = pcN) (ny : y < x → Go p l e R s m args below meth c n0 Q K S h (mkF m pcY Ls st)) (nn : ¬ y < x → Go p l e R s m args below meth c n0 Q K S h (mkF m pcN Ls st)) : Go p l e R s m args below meth c n0 Q K S h (mkF m pc Ls (.int y :: .int x :: st)) := by
  by_cases hq : y < x
  · exact icmpG C hd ho hp hp' (fun hc => ny hq) (fun hc => absurd (hc.symm.trans ((tlt hq).2.2.1)) (by decide))
  · exact icmpG C hd ho hp hp' (fun hc => absurd (hc.symm.trans ((flt hq).2.2.1)) (by decide)) (fun hc => nn hq)
theorem ifLe (C : Cx p l e R s m args below meth c Z bytes ml own ret nm) {pc pcY pcN : Nat} {Ls : Array Slot} {st : List Value} {o : Int} {x : Int32} (hd : decode bytes pc = .ok (.ifCond .le o, 3)) (ho : 0 ≤ (pc : Int) + o) (hp : ((pc : Int) + o).toNat = pcY) (hp' : pc + 3 = pcN) (ny : ¬ 0 < x → Go p l e R s m args below meth c n0 Q K S h (mkF m pcY Ls st)) (nn : 0 < x → Go p l e R s m args below meth c n0 Q K S h (mkF m pcN Ls st)) : Go p l e R s m args below meth c n0 Q K S h (mkF m pc Ls (.int x :: st)) := by
  by_cases hq : 0 < x
  · exact ifG C hd ho hp hp' (fun hc => absurd (hc.symm.trans ((if0 _ _).trans (tlt hq).2.2.2)) (by decide)) (fun hc => nn hq)
  · exact ifG C hd ho hp hp' (fun hc => ny hq) (fun hc => absurd (hc.symm.trans ((if0 _ _).trans (flt hq).2.2.2)) (by decide))
theorem icLe (C : Cx p l e R s m args below meth c Z bytes ml own ret nm) {pc pcY pcN : Nat} {Ls : Array Slot} {st : List Value} {o : Int} {x y : Int32} (hd : decode bytes pc = .ok (.if_icmp .le o, 3)) (ho : 0 ≤ (pc : Int) + o) (hp : ((pc : Int) + o).toNat = pcY) (hp' : pc + 3 = pcN) (ny : ¬ y < x → Go p l e R s m args below meth c n0 Q K S h (mkF m pcY Ls st)) (nn : y < x → Go p l e R s m args below meth c n0 Q K S h (mkF m pcN Ls st)) : Go p l e R s m args below meth c n0 Q K S h (mkF m pc Ls (.int y :: .int x :: st)) := by
  by_cases hq : y < x
  · exact icmpG C hd ho hp hp' (fun hc => absurd (hc.symm.trans ((tlt hq).2.2.2)) (by decide)) (fun hc => nn hq)
  · exact icmpG C hd ho hp hp' (fun hc => ny hq) (fun hc => absurd (hc.symm.trans ((flt hq).2.2.2)) (by decide))
theorem acEq (C : Cx p l e R s m args below meth c Z bytes ml own ret nm) {pc pcY pcN : Nat} {Ls : Array Slot} {st : List Value} {o : Int} {x y : Value} (hx : x.isRef = true) (hy : y.isRef = true) (hd : decode bytes pc = .ok (.if_acmp .eq o, 3)) (ho : 0 ≤ (pc : Int) + o) (hp : ((pc : Int) + o).toNat = pcY) (hp' : pc + 3 = pcN) (ny : x = y → Go p l e R s m args below meth c n0 Q K S h (mkF m pcY Ls st)) (nn : ¬ x = y → Go p l e R s m args below meth c n0 Q K S h (mkF m pcN Ls st)) : Go p l e R s m args below meth c n0 Q K S h (mkF m pc Ls (y :: x :: st)) := by
  by_cases hq : x = y
  · exact Go.by (fun T ls cs ss X eT t kt => Jvm.RoadKit.acmp (g := mkF m pc Ls (y :: x :: st)) X C.1 rfl hx hy (same := true) rfl (hb C.2.2.1 hd) rfl (decide_eq_true hq) ho (by first | (simp [acV]; omega) | (simp [acV, ← hp'])) kt) (ny hq)
  · exact Go.by (fun T ls cs ss X eT t kt => Jvm.RoadKit.acmp (g := mkF m pc Ls (y :: x :: st)) X C.1 rfl hx hy (same := false) rfl (hb C.2.2.1 hd) rfl (decide_eq_false hq) ho (by first | (simp [acV]; omega) | (simp [acV, ← hp'])) kt) (nn hq)
theorem acNe (C : Cx p l e R s m args below meth c Z bytes ml own ret nm) {pc pcY pcN : Nat} {Ls : Array Slot} {st : List Value} {o : Int} {x y : Value} (hx : x.isRef = true) (hy : y.isRef = true) (hd : decode bytes pc = .ok (.if_acmp .ne o, 3)) (ho : 0 ≤ (pc : Int) + o) (hp : ((pc : Int) + o).toNat = pcY) (hp' : pc + 3 = pcN) (ny : ¬ x = y → Go p l e R s m args below meth c n0 Q K S h (mkF m pcY Ls st)) (nn : x = y → Go p l e R s m args below meth c n0 Q K S h (mkF m pcN Ls st)) : Go p l e R s m args below meth c n0 Q K S h (mkF m pc Ls (y :: x :: st)) := by
  by_cases hq : x = y
  · exact Go.by (fun T ls cs ss X eT t kt => Jvm.RoadKit.acmp (g := mkF m pc Ls (y :: x :: st)) X C.1 rfl hx hy (same := true) rfl (hb C.2.2.1 hd) rfl (decide_eq_true hq) ho (by first | (simp [acV]; omega) | (simp [acV, ← hp'])) kt) (nn hq)
  · exact Go.by (fun T ls cs ss X eT t kt => Jvm.RoadKit.acmp (g := mkF m pc Ls (y :: x :: st)) X C.1 rfl hx hy (same := false) rfl (hb C.2.2.1 hd) rfl (decide_eq_false hq) ho (by first | (simp [acV]; omega) | (simp [acV, ← hp'])) kt) (ny hq)
theorem ifnull (C : Cx p l e R s m args below meth c Z bytes ml own ret nm) {pc pcY pcN : Nat} {Ls : Array Slot} {st : List Value} {o : Int} {x : Value} (hx : x.isRef = true) (hd : decode bytes pc = .ok (.ifnull o, 3)) (ho : 0 ≤ (pc : Int) + o) (hp : ((pc : Int) + o).toNat = pcY) (hp' : pc + 3 = pcN) (ny : x = .null → Go p l e R s m args below meth c n0 Q K S h (mkF m pcY Ls st)) (nn : (∃ a, x = .ref a) → Go p l e R s m args below meth c n0 Q K S h (mkF m pcN Ls st)) : Go p l e R s m args below meth c n0 Q K S h (mkF m pc Ls (x :: st)) := by
  subst hp'
  rcases ref_cases hx with rfl | ⟨a, rfl⟩
  · exact Go.by (fun T ls cs ss X eT t kt => XS.ifnullYes X.here C.1 rfl rfl (hb C.2.2.1 hd) rfl ho hp kt) (ny rfl)
  · exact Go.by (g' := (mkF m (pc + 3) Ls st)) (fun T ls cs ss X eT t kt => XS.ifnullNo X.here C.1 rfl (hb C.2.2.1 hd) rfl kt) (nn ⟨a, rfl⟩)
theorem ifnonnull (C : Cx p l e R s m args below meth c Z bytes ml own ret nm) {pc pcY pcN : Nat} {Ls : Array Slot} {st : List Value} {o : Int} {x : Value} (hx : x.isRef = true) (hd : decode bytes pc = .ok (.ifnonnull o, 3)) (ho : 0 ≤ (pc : Int) + o) (hp : ((pc : Int) + o).toNat = pcY) (hp' : pc + 3 = pcN) (ny : (∃ a, x = .ref a) → Go p l e R s m args below meth c n0 Q K S h (mkF m pcY Ls st)) (nn : x = .null → Go p l e R s m args below meth c n0 Q K S h (mkF m pcN Ls st)) : Go p l e R s m args below meth c n0 Q K S h (mkF m pc Ls (x :: st)) := by
  subst hp'
  rcases ref_cases hx with rfl | ⟨a, rfl⟩
  · exact Go.by (g' := (mkF m (pc + 3) Ls st)) (fun T ls cs ss X eT t kt => XS.ifnonnullNo X.here C.1 rfl (hb C.2.2.1 hd) rfl kt) (nn rfl)
  · exact Go.by (fun T ls cs ss X eT t kt => XS.ifnonnullYes X.here C.1 rfl rfl (hb C.2.2.1 hd) rfl ho hp kt) (ny ⟨a, rfl⟩)
theorem tsw (C : Cx p l e R s m args below meth c Z bytes ml own ret nm) {pc pc' : Nat} {Ls : Array Slot} {st : List Value} {dflt low high : Int} {offs : Array Int} {len : Nat} {o : Int} {i : Int32} (hd : decode bytes pc = .ok (.tableswitch dflt low high offs, len)) (hin : ¬ (i.toInt < low ∨ i.toInt > high)) (hoff : offs[(i.toInt - low).toNat]? = some o) (ho : 0 ≤ (pc : Int) + o) (hp : ((pc : Int) + o).toNat = pc') (n : Go p l e R s m args below meth c n0 Q K S h (mkF m pc' Ls st)) : Go p l e R s m args below meth c n0 Q K S h (mkF m pc Ls (.int i :: st)) :=
  Go.by (fun T ls cs ss X eT t kt => XS.tswIn X.here C.1 rfl rfl (hb C.2.2.1 hd) rfl hin hoff ho hp kt) n
theorem tswD (C : Cx p l e R s m args below meth c Z bytes ml own ret nm) {pc pc' : Nat} {Ls : Array Slot} {st : List Value} {dflt low high : Int} {offs : Array Int} {len : Nat} {i : Int32} (hd : decode bytes pc = .ok (.tableswitch dflt low high offs, len)) (hin : i.toInt < low ∨ i.toInt > high) (ho : 0 ≤ (pc : Int) + dflt) (hp : ((pc : Int) + dflt).toNat = pc') (n : Go p l e R s m args below meth c n0 Q K S h (mkF m pc' Ls st)) : Go p l e R s m args below meth c n0 Q K S h (mkF m pc Ls (.int i :: st)) :=
  Go.by (fun T ls cs ss X eT t kt => XS.tswOut X.here C.1 rfl rfl (hb C.2.2.1 hd) rfl hin ho hp kt) n
theorem ldcI (C : Cx p l e R s m args below meth c Z bytes ml own ret nm) {pc pc' : Nat} {Ls : Array Slot} {st : List Value} {index : Nat} {v : Int32}  (hd : decode bytes pc = .ok (.ldc index, 2)) (hp : pc + 2 = pc') (w : (Jvm.Cond.constant own index v).before a0 Z = true) (n : Go p l e R s m args below meth c n0 Q K S h (mkF m pc' Ls (.int v :: st))) : Go p l e R s m args below meth c n0 Q K S h (mkF m pc Ls st) := by
  subst hp; exact Go.by (g' := (mkF m (pc + 2) Ls (.int v :: st))) (fun T ls cs ss X eT t kt => X.ldcInt C.1 C.2.2.2.2.1 (mvT C.2.1 w) (g := (mkF m pc Ls st)) rfl (hb C.2.2.1 hd) t kt) n
theorem ldcwI (C : Cx p l e R s m args below meth c Z bytes ml own ret nm) {pc pc' : Nat} {Ls : Array Slot} {st : List Value} {index : Nat} {v : Int32}  (hd : decode bytes pc = .ok (.ldc_w index, 3)) (hp : pc + 3 = pc') (w : (Jvm.Cond.constant own index v).before a0 Z = true) (n : Go p l e R s m args below meth c n0 Q K S h (mkF m pc' Ls (.int v :: st))) : Go p l e R s m args below meth c n0 Q K S h (mkF m pc Ls st) := by
  subst hp; exact Go.by (g' := (mkF m (pc + 3) Ls (.int v :: st))) (fun T ls cs ss X eT t kt => X.ldcwInt C.1 C.2.2.2.2.1 (mvT C.2.1 w) (g := (mkF m pc Ls st)) rfl (hb C.2.2.1 hd) t kt) n
theorem ldc2L (C : Cx p l e R s m args below meth c Z bytes ml own ret nm) {pc pc' : Nat} {Ls : Array Slot} {st : List Value} {index : Nat} {v : Int64}  (hd : decode bytes pc = .ok (.ldc2_w index, 3)) (hp : pc + 3 = pc') (w : (Jvm.Cond.constantLong own index v).before a0 Z = true) (n : Go p l e R s m args below meth c n0 Q K S h (mkF m pc' Ls (.long v :: st))) : Go p l e R s m args below meth c n0 Q K S h (mkF m pc Ls st) := by
  subst hp; exact Go.by (g' := (mkF m (pc + 3) Ls (.long v :: st))) (fun T ls cs ss X eT t kt => X.ldc2Long C.1 C.2.2.2.2.1 (mvT C.2.1 w) (g := (mkF m pc Ls st)) rfl (hb C.2.2.1 hd) t kt) n
theorem ldc2D (C : Cx p l e R s m args below meth c Z bytes ml own ret nm) {pc pc' : Nat} {Ls : Array Slot} {st : List Value} {index : Nat} {v : UInt64}  (hd : decode bytes pc = .ok (.ldc2_w index, 3)) (hp : pc + 3 = pc') (w : (Jvm.Cond.constantDouble own index v).before a0 Z = true) (n : Go p l e R s m args below meth c n0 Q K S h (mkF m pc' Ls (.double v :: st))) : Go p l e R s m args below meth c n0 Q K S h (mkF m pc Ls st) := by
  subst hp; exact Go.by (g' := (mkF m (pc + 3) Ls (.double v :: st))) (fun T ls cs ss X eT t kt => X.ldc2DoubleC C.1 C.2.2.2.2.1 (mvT C.2.1 w) (g := (mkF m pc Ls st)) rfl (hb C.2.2.1 hd) t kt) n
theorem getS (C : Cx p l e R s m args below meth c Z bytes ml own ret nm) {pc pc' : Nat} {Ls : Array Slot} {st : List Value} {R0 O n d host : String} {index : Nat} (w : (Jvm.Cond.fieldLink own index R0 n d).before a0 Z = true ∨ (Jvm.Cond.fieldLinkNest own index R0 n d host).before a0 Z = true) (via : Via Z R0 O n d) {v : Value} (F : Sta Z h O n d v) (hd : decode bytes pc = .ok (.getstatic index, 3)) (hp : pc + 3 = pc') (k : Go p l e R s m args below meth c n0 Q K S h (mkF m pc' Ls (v :: st))) : Go p l e R s m args below meth c n0 Q K S h (mkF m pc Ls st) := by
  subst hp; exact Go.law (fun T ls cs ss X eT => getS2 X C.1 C.2.1 C.2.2.2.2.1 w via eT F (g := (mkF m pc Ls st)) rfl (hb C.2.2.1 hd)) k
theorem getF (C : Cx p l e R s m args below meth c Z bytes ml own ret nm) {pc pc' : Nat} {Ls : Array Slot} {st : List Value} {R0 O n d host : String} {index : Nat} (w : (Jvm.Cond.fieldLink own index R0 n d).before a0 Z = true ∨ (Jvm.Cond.fieldLinkNest own index R0 n d host).before a0 Z = true) (via : Via Z R0 O n d) {a : Addr} {v : Value} (F : Fld Z h a O n d v) (hd : decode bytes pc = .ok (.getfield index, 3)) (hp : pc + 3 = pc') (k : Go p l e R s m args below meth c n0 Q K S h (mkF m pc' Ls (v :: st))) : Go p l e R s m args below meth c n0 Q K S h (mkF m pc Ls (.ref a :: st)) := by
  subst hp; exact Go.law (fun T ls cs ss X eT => Jvm.RoadKit.getF X C.1 C.2.1 C.2.2.2.2.1 w via eT F (g := (mkF m pc Ls (.ref a :: st))) rfl rfl (hb C.2.2.1 hd)) k
theorem putF (C : Cx p l e R s m args below meth c Z bytes ml own ret nm) {pc pc' : Nat} {Ls : Array Slot} {st : List Value} {R0 O n d host : String} {index : Nat} (w : (Jvm.Cond.fieldLink own index R0 n d).before a0 Z = true ∨ (Jvm.Cond.fieldLinkNest own index R0 n d host).before a0 Z = true) (via : Via Z R0 O n d) {Cn : String} {kk : Nat} {ty : FieldType} {a : Addr} {v old : Value} (F : Fld Z h a O n d old) (E : Exa Z h a Cn) (L : (Jvm.Cond.lays Cn O n d).before a0 Z = true ∨ ((Jvm.Cond.laysFinal Cn O n d).before a0 Z = true ∧ own = O ∧ nm = "<init>")) (wi : (Jvm.Cond.instantiable Cn kk).before a0 Z = true) (hty : parseFieldDescriptor d = some ty) (hn : narrow ty v = v) (hf : fits ty v = true) (ha : n0 ≤ a) (hd : decode bytes pc = .ok (.putfield index, 3)) (hp : pc + 3 = pc') (k : ∀ h', Wr h h' a (Jvm.RoadKit.slotOf Z O n d) v → Go p l e R s m args below meth c n0 Q K S h' (mkF m pc' Ls st)) : Go p l e R s m args below meth c n0 Q K S h (mkF m pc Ls (v :: .ref a :: st)) := by
  subst hp; exact Go.write ha (fun T ls cs ss X eT => Jvm.RoadKit.putF X C.1 C.2.1 C.2.2.2.2.1 w via eT F E (L.imp id fun q => ⟨q.1, q.2.1, C.2.2.2.2.2.2.2.trans q.2.2⟩) wi hty hn hf (g := (mkF m pc Ls (v :: .ref a :: st))) rfl rfl (hb C.2.2.1 hd)) k
theorem castY (C : Cx p l e R s m args below meth c Z bytes ml own ret nm) {pc pc' : Nat} {Ls : Array Slot} {st : List Value} {Kn : String} {index : Nat} (w : (Jvm.Cond.classLink own index Kn).before a0 Z = true) {a : Addr} (F : Ins Z h a Kn true) (hd : decode bytes pc = .ok (.checkcast index, 3)) (hp : pc + 3 = pc') (k : Go p l e R s m args below meth c n0 Q K S h (mkF m pc' Ls (.ref a :: st))) : Go p l e R s m args below meth c n0 Q K S h (mkF m pc Ls (.ref a :: st)) := by
  subst hp; exact Go.law (fun T ls cs ss X eT => Jvm.RoadKit.castY X C.1 C.2.1 C.2.2.2.2.1 w eT F (g := (mkF m pc Ls (.ref a :: st))) rfl rfl (hb C.2.2.1 hd)) k
theorem castNull (C : Cx p l e R s m args below meth c Z bytes ml own ret nm) {pc pc' : Nat} {Ls : Array Slot} {st : List Value} {index : Nat} (hd : decode bytes pc = .ok (.checkcast index, 3)) (hp : pc + 3 = pc') (k : Go p l e R s m args below meth c n0 Q K S h (mkF m pc' Ls (.null :: st))) : Go p l e R s m args below meth c n0 Q K S h (mkF m pc Ls (.null :: st)) := by
  subst hp; exact Go.by (g' := (mkF m (pc + 3) Ls (.null :: st))) (fun T ls cs ss X eT t kt => X.checkcastNull C.1 (g := (mkF m pc Ls (.null :: st))) rfl rfl (hb C.2.2.1 hd) t kt) k
theorem newO (C : Cx p l e R s m args below meth c Z bytes ml own ret nm) {pc pc' : Nat} {Ls : Array Slot} {st : List Value} {Cn : String} {index k : Nat} (w : (Jvm.Cond.classLink own index Cn).before a0 Z = true) (wi : (Jvm.Cond.instantiable Cn k).before a0 Z = true) (wz : (Jvm.Cond.initialized Cn).before a0 Z = true) (hd : decode bytes pc = .ok (.new index, 3)) (hp : pc + 3 = pc') (hK : K + 1 = K') (hS : S + k = S') (hK' : K' ≤ R.cells) (hS' : S' ≤ R.slots)
    (n : ∀ (h' : Heap) (a : Addr), a = h.size → Ext h h' → Exa Z h' a Cn → (∀ {O nm d : String} {ty : FieldType}, Laid Z a0 Cn O nm d → parseFieldDescriptor d = some ty → Fld Z h' a O nm d (defaultValue ty)) → Go p l e R s m args below meth c n0 Q K' S' h' (mkF m pc' Ls (.ref a :: st))) : Go p l e R s m args below meth c n0 Q K S h (mkF m pc Ls st) :=
  fun T ⟨ls, cs, ss, X, N, hc, hs, eT⟩ => by
    subst hp hK hS
    obtain ⟨T', h', X', e', E', A', D', -, st⟩ := Jvm.RoadKit.newO X C.1 C.2.1 C.2.2.2.2.1 w wi wz eT (g := (mkF m pc Ls st)) rfl (hb C.2.2.1 hd) (by omega) (by omega)
    obtain ⟨s₂, v, L, h1, h2⟩ := n h' _ rfl E' A' D' T' ⟨ls, _, _, X', N, by omega, by omega, e'⟩
    exact ⟨s₂, v, L, st _ h1, h2⟩
theorem newP (C : Cx p l e R s m args below meth c Z bytes ml own ret nm) {pc pc' : Nat} {Ls : Array Slot} {st : List Value} {aty : ArrayType} (w : (Jvm.Cond.arrayClass (newarray.typeOf aty)).before a0 Z = true) {i : Int32} {cap : Nat} (hn : ¬ i < 0) (hcap : i.toNatClampNeg ≤ cap) (hb8 : cap * 8 ≤ 536870912) (hd : decode bytes pc = .ok (.newarray aty, 2)) (hp : pc + 2 = pc') (hK : K + 1 = K') (hS : S + cap = S') (hK' : K' ≤ R.cells) (hS' : S' ≤ R.slots)
    (n : ∀ (h' : Heap) (a : Addr) (cA : ClassId), a = h.size → Ext h h' → Arv Z h' a cA (newarray.typeOf aty) i [] (defaultValue (newarray.typeOf aty)) → Go p l e R s m args below meth c n0 Q K' S' h' (mkF m pc' Ls (.ref a :: st))) : Go p l e R s m args below meth c n0 Q K S h (mkF m pc Ls (.int i :: st)) :=
  fun T ⟨ls, cs, ss, X, N, hc, hs, eT⟩ => by
    subst hp hK hS
    obtain ⟨T', h', cA, X', e', E', A', st⟩ := Jvm.RoadKit.newP X C.1 C.2.1 w eT (g := (mkF m pc Ls (.int i :: st))) rfl (hb C.2.2.1 hd) rfl hn hcap hb8 (by omega) (by omega)
    obtain ⟨s₂, v, L, h1, h2⟩ := n h' _ cA rfl E' (Arv.new A' hn) T' ⟨ls, _, _, X', N, by omega, by omega, e'⟩
    exact ⟨s₂, v, L, st _ h1, h2⟩
theorem newR (C : Cx p l e R s m args below meth c Z bytes ml own ret nm) {pc pc' : Nat} {Ls : Array Slot} {st : List Value} {Cn ad : String} {index : Nat} (had : "[" ++ (FieldType.object Cn).toString = ad) (w1 : (Jvm.Cond.classLink own index Cn).before a0 Z = true) (w2 : (Jvm.Cond.arrayOver (.object Cn)).before a0 Z = true) {i : Int32} {cap : Nat} (hn : ¬ i < 0) (hcap : i.toNatClampNeg ≤ cap) (hb8 : cap * 8 ≤ 536870912) (hd : decode bytes pc = .ok (.anewarray index, 3)) (hp : pc + 3 = pc') (hK : K + 1 = K') (hS : S + cap = S') (hK' : K' ≤ R.cells) (hS' : S' ≤ R.slots)
    (n : ∀ (h' : Heap) (a : Addr) (cA : ClassId), a = h.size → Ext h h' → Arv Z h' a cA (.object Cn) i [] .null → Exa Z h' a ad → Ovr Z cA Cn → Go p l e R s m args below meth c n0 Q K' S' h' (mkF m pc' Ls (.ref a :: st))) : Go p l e R s m args below meth c n0 Q K S h (mkF m pc Ls (.int i :: st)) :=
  fun T ⟨ls, cs, ss, X, N, hc, hs, eT⟩ => by
    subst hp hK hS
    obtain ⟨T', h', cA, X', e', E', A', X2, O', st⟩ := Jvm.RoadKit.newRE X C.1 C.2.1 C.2.2.2.2.1 w1 w2 eT (g := (mkF m pc Ls (.int i :: st))) rfl (hb C.2.2.1 hd) rfl hn hcap hb8 (by omega) (by omega) had
    obtain ⟨s₂, v, L, h1, h2⟩ := n h' _ cA rfl E' (Arv.new A' hn) X2 O' T' ⟨ls, _, _, X', N, by omega, by omega, e'⟩
    exact ⟨s₂, v, L, st _ h1, h2⟩
theorem newPE (C : Cx p l e R s m args below meth c Z bytes ml own ret nm) {pc pc' : Nat} {Ls : Array Slot} {st : List Value} {aty : ArrayType} {ad : String} (had : "[" ++ (newarray.typeOf aty).toString = ad) (w : (Jvm.Cond.arrayClass (newarray.typeOf aty)).before a0 Z = true) {i : Int32} {cap : Nat} (hn : ¬ i < 0) (hcap : i.toNatClampNeg ≤ cap) (hb8 : cap * 8 ≤ 536870912) (hd : decode bytes pc = .ok (.newarray aty, 2)) (hp : pc + 2 = pc') (hK : K + 1 = K') (hS : S + cap = S') (hK' : K' ≤ R.cells) (hS' : S' ≤ R.slots)
    (n : ∀ (h' : Heap) (a : Addr) (cA : ClassId), a = h.size → Ext h h' → Arv Z h' a cA (newarray.typeOf aty) i [] (defaultValue (newarray.typeOf aty)) → Exa Z h' a ad → Go p l e R s m args below meth c n0 Q K' S' h' (mkF m pc' Ls (.ref a :: st))) : Go p l e R s m args below meth c n0 Q K S h (mkF m pc Ls (.int i :: st)) :=
  fun T ⟨ls, cs, ss, X, N, hc, hs, eT⟩ => by
    subst hp hK hS
    obtain ⟨T', h', cA, X', e', E', A', X2, st⟩ := Jvm.RoadKit.newPE X C.1 C.2.1 w eT (g := (mkF m pc Ls (.int i :: st))) rfl (hb C.2.2.1 hd) rfl hn hcap hb8 (by omega) (by omega) had
    obtain ⟨s₂, v, L, h1, h2⟩ := n h' _ cA rfl E' (Arv.new A' hn) X2 T' ⟨ls, _, _, X', N, by omega, by omega, e'⟩
    exact ⟨s₂, v, L, st _ h1, h2⟩
theorem newRA (C : Cx p l e R s m args below meth c Z bytes ml own ret nm) {pc pc' : Nat} {Ls : Array Slot} {st : List Value} {Cn ad : String} {ty : FieldType} {index : Nat} (hC : (FieldType.array ty).toString = Cn) (had : "[" ++ Cn = ad) (w1 : (Jvm.Cond.classLink own index Cn).before a0 Z = true) (w2 : (Jvm.Cond.arrayOver (.array ty)).before a0 Z = true) {i : Int32} {cap : Nat} (hn : ¬ i < 0) (hcap : i.toNatClampNeg ≤ cap) (hb8 : cap * 8 ≤ 536870912) (hd : decode bytes pc = .ok (.anewarray index, 3)) (hp : pc + 3 = pc') (hK : K + 1 = K') (hS : S + cap = S') (hK' : K' ≤ R.cells) (hS' : S' ≤ R.slots)
    (n : ∀ (h' : Heap) (a : Addr) (cA : ClassId), a = h.size → Ext h h' → Arv Z h' a cA (.array ty) i [] .null → Exa Z h' a ad → OvrA Z cA ty Cn → Go p l e R s m args below meth c n0 Q K' S' h' (mkF m pc' Ls (.ref a :: st))) : Go p l e R s m args below meth c n0 Q K S h (mkF m pc Ls (.int i :: st)) :=
  fun T ⟨ls, cs, ss, X, N, hc, hs, eT⟩ => by
    subst hp hK hS
    obtain ⟨T', h', cA, X', e', E', A', X2, O', st⟩ := Jvm.RoadKit.newRA X C.1 C.2.1 C.2.2.2.2.1 hC w1 w2 eT (g := (mkF m pc Ls (.int i :: st))) rfl (hb C.2.2.1 hd) rfl hn hcap hb8 (by omega) (by omega) had
    obtain ⟨s₂, v, L, h1, h2⟩ := n h' _ cA rfl E' (Arv.new A' hn) X2 O' T' ⟨ls, _, _, X', N, by omega, by omega, e'⟩
    exact ⟨s₂, v, L, st _ h1, h2⟩
theorem iaload (C : Cx p l e R s m args below meth c Z bytes ml own ret nm) {pc pc' : Nat} {Ls : Array Slot} {st : List Value} {a : Addr} {cA : ClassId} {i j : Int32} {vs : List Value} {dv v : Value} (F : Arv Z h a cA .int i vs dv) (hj : ¬ j < 0 ∧ j < i) (hv : vs.getD j.toNatClampNeg dv = v) (hd : decode bytes pc = .ok (.iaload, 1)) (hp : pc + 1 = pc') (n : Go p l e R s m args below meth c n0 Q K S h (mkF m pc' Ls (v :: st))) : Go p l e R s m args below meth c n0 Q K S h (mkF m pc Ls (.int j :: .ref a :: st)) := by
  subst hp; obtain ⟨cl, A, q1, Sz, q3, H, G⟩ := F
  exact Go.by (g' := (mkF m (pc + 1) Ls (v :: st))) (fun T ls cs ss X eT t kt => X.iaload C.1 (j := j) (v := v) (by rw [eT]; exact A.1) (State.isArrayOf_alike C.2.1.alike A.2.1) A.2.2 (inb_of Sz hj) (H.at (inb_of Sz hj) hv) (g := (mkF m pc Ls (.int j :: .ref a :: st))) rfl rfl (hb C.2.2.1 hd) t kt) n
theorem caload (C : Cx p l e R s m args below meth c Z bytes ml own ret nm) {pc pc' : Nat} {Ls : Array Slot} {st : List Value} {a : Addr} {cA : ClassId} {i j : Int32} {vs : List Value} {dv v : Value} (F : Arv Z h a cA .char i vs dv) (hj : ¬ j < 0 ∧ j < i) (hv : vs.getD j.toNatClampNeg dv = v) (hd : decode bytes pc = .ok (.caload, 1)) (hp : pc + 1 = pc') (n : Go p l e R s m args below meth c n0 Q K S h (mkF m pc' Ls (v :: st))) : Go p l e R s m args below meth c n0 Q K S h (mkF m pc Ls (.int j :: .ref a :: st)) := by
  subst hp; obtain ⟨cl, A, q1, Sz, q3, H, G⟩ := F
  exact Go.by (g' := (mkF m (pc + 1) Ls (v :: st))) (fun T ls cs ss X eT t kt => X.caload C.1 (j := j) (v := v) (by rw [eT]; exact A.1) (State.isArrayOf_alike C.2.1.alike A.2.1) A.2.2 (inb_of Sz hj) (H.at (inb_of Sz hj) hv) (g := (mkF m pc Ls (.int j :: .ref a :: st))) rfl rfl (hb C.2.2.1 hd) t kt) n
theorem baload (C : Cx p l e R s m args below meth c Z bytes ml own ret nm) {pc pc' : Nat} {Ls : Array Slot} {st : List Value} {a : Addr} {cA : ClassId} {i j : Int32} {vs : List Value} {dv v : Value} (F : Arv Z h a cA .byte i vs dv) (hj : ¬ j < 0 ∧ j < i) (hv : vs.getD j.toNatClampNeg dv = v) (hd : decode bytes pc = .ok (.baload, 1)) (hp : pc + 1 = pc') (n : Go p l e R s m args below meth c n0 Q K S h (mkF m pc' Ls (v :: st))) : Go p l e R s m args below meth c n0 Q K S h (mkF m pc Ls (.int j :: .ref a :: st)) := by
  subst hp; obtain ⟨cl, A, q1, Sz, q3, H, G⟩ := F
  exact Go.by (g' := (mkF m (pc + 1) Ls (v :: st))) (fun T ls cs ss X eT t kt => X.baloadBytes C.1 (j := j) (v := v) (by rw [eT]; exact A.1) (State.isArrayOf_alike C.2.1.alike A.2.1) A.2.2 (inb_of Sz hj) (H.at (inb_of Sz hj) hv) (g := (mkF m pc Ls (.int j :: .ref a :: st))) rfl rfl (hb C.2.2.1 hd) t kt) n
theorem laload (C : Cx p l e R s m args below meth c Z bytes ml own ret nm) {pc pc' : Nat} {Ls : Array Slot} {st : List Value} {a : Addr} {cA : ClassId} {i j : Int32} {vs : List Value} {dv v : Value} (F : Arv Z h a cA .long i vs dv) (hj : ¬ j < 0 ∧ j < i) (hv : vs.getD j.toNatClampNeg dv = v) (hd : decode bytes pc = .ok (.laload, 1)) (hp : pc + 1 = pc') (n : Go p l e R s m args below meth c n0 Q K S h (mkF m pc' Ls (v :: st))) : Go p l e R s m args below meth c n0 Q K S h (mkF m pc Ls (.int j :: .ref a :: st)) := by
  subst hp; obtain ⟨cl, A, q1, Sz, q3, H, G⟩ := F
  exact Go.by (g' := (mkF m (pc + 1) Ls (v :: st))) (fun T ls cs ss X eT t kt => X.laload C.1 (j := j) (v := v) (by rw [eT]; exact A.1) (State.isArrayOf_alike C.2.1.alike A.2.1) A.2.2 (inb_of Sz hj) (H.at (inb_of Sz hj) hv) (g := (mkF m pc Ls (.int j :: .ref a :: st))) rfl rfl (hb C.2.2.1 hd) t kt) n
theorem aaload (C : Cx p l e R s m args below meth c Z bytes ml own ret nm) {pc pc' : Nat} {Ls : Array Slot} {st : List Value} {a : Addr} {cA : ClassId} {ty : FieldType} {i j : Int32} {vs : List Value} {dv v : Value} (F : Arv Z h a cA ty i vs dv) (ht : ty.isReference = true) (hj : ¬ j < 0 ∧ j < i) (hv : vs.getD j.toNatClampNeg dv = v) (hd : decode bytes pc = .ok (.aaload, 1)) (hp : pc + 1 = pc') (n : Go p l e R s m args below meth c n0 Q K S h (mkF m pc' Ls (v :: st))) : Go p l e R s m args below meth c n0 Q K S h (mkF m pc Ls (.int j :: .ref a :: st)) := by
  subst hp; obtain ⟨cl, A, q1, Sz, q3, H, G⟩ := F
  exact Go.by (g' := (mkF m (pc + 1) Ls (v :: st))) (fun T ls cs ss X eT t kt => X.aaload C.1 (j := j) (v := v) (by rw [eT]; exact A.1) (State.isArrayOf_alike C.2.1.alike A.2.1) ht A.2.2 (inb_of Sz hj) (H.at (inb_of Sz hj) hv) (g := (mkF m pc Ls (.int j :: .ref a :: st))) rfl rfl (hb C.2.2.1 hd) t kt) n
theorem aaloadA (C : Cx p l e R s m args below meth c Z bytes ml own ret nm) {pc pc' : Nat} {Ls : Array Slot} {st : List Value} {a : Addr} {cl : Cell} {ty : FieldType} {j : Int32} {v : Value} (A : Arr Z h a cl ty) (ht : ty.isReference = true) (hj : ¬ (j < 0 ∨ cl.slots.size ≤ j.toNatClampNeg)) (hv : cl.slots[j.toNatClampNeg]? = some v) (hd : decode bytes pc = .ok (.aaload, 1)) (hp : pc + 1 = pc') (n : Go p l e R s m args below meth c n0 Q K S h (mkF m pc' Ls (v :: st))) : Go p l e R s m args below meth c n0 Q K S h (mkF m pc Ls (.int j :: .ref a :: st)) := by
  subst hp
  exact Go.by (g' := (mkF m (pc + 1) Ls (v :: st))) (fun T ls cs ss X eT t kt => X.aaload C.1 (j := j) (v := v) (by rw [eT]; exact A.1) (State.isArrayOf_alike C.2.1.alike A.2.1) ht A.2.2 hj hv (g := (mkF m pc Ls (.int j :: .ref a :: st))) rfl rfl (hb C.2.2.1 hd) t kt) n
theorem alen (C : Cx p l e R s m args below meth c Z bytes ml own ret nm) {pc pc' : Nat} {Ls : Array Slot} {st : List Value} {a : Addr} {cA : ClassId} {ty : FieldType} {i : Int32} {vs : List Value} {dv : Value} (F : Arv Z h a cA ty i vs dv) (hd : decode bytes pc = .ok (.arraylength, 1)) (hp : pc + 1 = pc') (n : Go p l e R s m args below meth c n0 Q K S h (mkF m pc' Ls (.int i :: st))) : Go p l e R s m args below meth c n0 Q K S h (mkF m pc Ls (.ref a :: st)) := by
  subst hp; obtain ⟨cl, A, q1, Sz, q3, H, G⟩ := F
  exact Go.by (g' := (mkF m (pc + 1) Ls (.int i :: st))) (fun T ls cs ss X eT t kt => X.arraylength C.1 (by rw [eT]; exact A.1) (State.isArrayOf_alike C.2.1.alike A.2.1) (g := (mkF m pc Ls (.ref a :: st))) rfl rfl (hb C.2.2.1 hd) t (by rw [len_of Sz q3]; exact kt)) n
theorem iastore (C : Cx p l e R s m args below meth c Z bytes ml own ret nm) {pc pc' : Nat} {Ls : Array Slot} {st : List Value} {a : Addr} {cA : ClassId} {i j : Int32} {k : Nat} {x : Int32} {vs : List Value} {dv : Value} (F : Arv Z h a cA .int i vs dv) (ha : n0 ≤ a) (hj : ¬ j < 0 ∧ j < i) (hk : j.toNatClampNeg = k) (hlen : k < vs.length) (hd : decode bytes pc = .ok (.iastore, 1)) (hp : pc + 1 = pc') (n : ∀ h', Wr h h' a j.toNatClampNeg (.int x) → Arv Z h' a cA .int i (vs.set k (.int x)) dv → Go p l e R s m args below meth c n0 Q K S h' (mkF m pc' Ls st)) : Go p l e R s m args below meth c n0 Q K S h (mkF m pc Ls (.int x :: .int j :: .ref a :: st)) := by
  subst hp; obtain ⟨cl, A, q1, Sz, q3, H, G⟩ := F
  exact Go.write ha (fun T ls cs ss X eT => stI X C.1 C.2.1 eT A (inb_of Sz hj) (g := (mkF m pc Ls (.int x :: .int j :: .ref a :: st))) rfl rfl (hb C.2.2.1 hd)) (fun h' W => n h' W (Arv.set A q1 Sz q3 H G rfl W k hk hlen))
theorem castore (C : Cx p l e R s m args below meth c Z bytes ml own ret nm) {pc pc' : Nat} {Ls : Array Slot} {st : List Value} {a : Addr} {cA : ClassId} {i j : Int32} {k : Nat} {x : Int32} {vs : List Value} {dv : Value} (F : Arv Z h a cA .char i vs dv) (ha : n0 ≤ a) (hj : ¬ j < 0 ∧ j < i) (hk : j.toNatClampNeg = k) (hlen : k < vs.length) (hd : decode bytes pc = .ok (.castore, 1)) (hp : pc + 1 = pc') (n : ∀ h', Wr h h' a j.toNatClampNeg (.int (nar .char x)) → Arv Z h' a cA .char i (vs.set k (.int (nar .char x))) dv → Go p l e R s m args below meth c n0 Q K S h' (mkF m pc' Ls st)) : Go p l e R s m args below meth c n0 Q K S h (mkF m pc Ls (.int x :: .int j :: .ref a :: st)) := by
  subst hp; obtain ⟨cl, A, q1, Sz, q3, H, G⟩ := F
  exact Go.write ha (fun T ls cs ss X eT => stC X C.1 C.2.1 eT A (inb_of Sz hj) (g := (mkF m pc Ls (.int x :: .int j :: .ref a :: st))) rfl rfl (hb C.2.2.1 hd)) (fun h' W => n h' W (Arv.set A q1 Sz q3 H G (fits_nar_char _) W k hk hlen))
theorem bastore (C : Cx p l e R s m args below meth c Z bytes ml own ret nm) {pc pc' : Nat} {Ls : Array Slot} {st : List Value} {a : Addr} {cA : ClassId} {i j : Int32} {k : Nat} {x : Int32} {vs : List Value} {dv : Value} (F : Arv Z h a cA .byte i vs dv) (ha : n0 ≤ a) (hj : ¬ j < 0 ∧ j < i) (hk : j.toNatClampNeg = k) (hlen : k < vs.length) (hd : decode bytes pc = .ok (.bastore, 1)) (hp : pc + 1 = pc') (n : ∀ h', Wr h h' a j.toNatClampNeg (.int (nar .byte x)) → Arv Z h' a cA .byte i (vs.set k (.int (nar .byte x))) dv → Go p l e R s m args below meth c n0 Q K S h' (mkF m pc' Ls st)) : Go p l e R s m args below meth c n0 Q K S h (mkF m pc Ls (.int x :: .int j :: .ref a :: st)) := by
  subst hp; obtain ⟨cl, A, q1, Sz, q3, H, G⟩ := F
  exact Go.write ha (fun T ls cs ss X eT => stB X C.1 C.2.1 eT A (inb_of Sz hj) (g := (mkF m pc Ls (.int x :: .int j :: .ref a :: st))) rfl rfl (hb C.2.2.1 hd)) (fun h' W => n h' W (Arv.set A q1 Sz q3 H G (fits_nar_byte _) W k hk hlen))
theorem lastore (C : Cx p l e R s m args below meth c Z bytes ml own ret nm) {pc pc' : Nat} {Ls : Array Slot} {st : List Value} {a : Addr} {cA : ClassId} {i j : Int32} {k : Nat} {x : Int64} {vs : List Value} {dv : Value} (F : Arv Z h a cA .long i vs dv) (ha : n0 ≤ a) (hj : ¬ j < 0 ∧ j < i) (hk : j.toNatClampNeg = k) (hlen : k < vs.length) (hd : decode bytes pc = .ok (.lastore, 1)) (hp : pc + 1 = pc') (n : ∀ h', Wr h h' a j.toNatClampNeg (.long x) → Arv Z h' a cA .long i (vs.set k (.long x)) dv → Go p l e R s m args below meth c n0 Q K S h' (mkF m pc' Ls st)) : Go p l e R s m args below meth c n0 Q K S h (mkF m pc Ls (.long x :: .int j :: .ref a :: st)) := by
  subst hp; obtain ⟨cl, A, q1, Sz, q3, H, G⟩ := F
  exact Go.write ha (fun T ls cs ss X eT => stJ X C.1 C.2.1 eT A (inb_of Sz hj) (g := (mkF m pc Ls (.long x :: .int j :: .ref a :: st))) rfl rfl (hb C.2.2.1 hd)) (fun h' W => n h' W (Arv.set A q1 Sz q3 H G rfl W k hk hlen))
theorem aastore (C : Cx p l e R s m args below meth c Z bytes ml own ret nm) {pc pc' : Nat} {Ls : Array Slot} {st : List Value} {a : Addr} {cA : ClassId} {ty : FieldType} {i j : Int32} {k : Nat} {x : Value} {vs : List Value} {dv : Value} (F : Arv Z h a cA ty i vs dv) (ht : ty.isReference = true) (ha : n0 ≤ a) (hj : ¬ j < 0 ∧ j < i) (hk : j.toNatClampNeg = k) (hlen : k < vs.length) (hx : Sto Z h a x) (hf : fits ty x = true) (hd : decode bytes pc = .ok (.aastore, 1)) (hp : pc + 1 = pc') (n : ∀ h', Wr h h' a j.toNatClampNeg x → Arv Z h' a cA ty i (vs.set k x) dv → Go p l e R s m args below meth c n0 Q K S h' (mkF m pc' Ls st)) : Go p l e R s m args below meth c n0 Q K S h (mkF m pc Ls (x :: .int j :: .ref a :: st)) := by
  subst hp; obtain ⟨cl, A, q1, Sz, q3, H, G⟩ := F
  exact Go.write ha (fun T ls cs ss X eT => stR X C.1 C.2.1 eT A (inb_of Sz hj) ht hx (g := (mkF m pc Ls (x :: .int j :: .ref a :: st))) rfl rfl (hb C.2.2.1 hd)) (fun h' W => n h' W (Arv.set A q1 Sz q3 H G hf W k hk hlen))
theorem initO (C : Cx p l e R s m args below meth c Z bytes ml own ret nm) {pc pc' : Nat} {Ls : Array Slot} {st : List Value} {idx : Nat} (w1 : (Jvm.Cond.methodLink own idx Lib.objectInit).before a0 Z = true) (w2 : (Jvm.Cond.instanceMethod Lib.objectInit).before a0 Z = true) (w3 : (Jvm.Cond.code Lib.objectInit ⟨#[0xb1]⟩ 1 none).before a0 Z = true) {a : Addr} (hsz : Ls.size = ml) (hf : 1 ≤ R.frames) {W : Nat} (hW : 2 * 0 + (st.map fun v => v.category).sum ≤ W) (hl : W + 12 ≤ R.locals) (hd : decode bytes pc = .ok (.invokespecial idx, 3)) (hp : pc + 3 = pc') (n : Go p l e R s m args below meth c n0 Q K S h (mkF m pc' Ls st)) : Go p l e R s m args below meth c n0 Q K S h (mkF m pc Ls (.ref a :: st)) := by
  subst hp; exact Go.law (fun T ls cs ss X eT => Jvm.RoadKit.initO X C.1 C.2.1 C.2.2.2.2.1 w1 w2 w3 eT (g := (mkF m pc Ls (.ref a :: st))) rfl (hsz.trans C.2.2.2.1.symm) rfl (hb C.2.2.1 hd) hf hW hl) n
theorem cloneV (C : Cx p l e R s m args below meth c Z bytes ml own ret nm) {pc pc' : Nat} {Ls : Array Slot} {st : List Value} {ad : String} {idx : Nat} (w1 : (Jvm.Cond.methodLink own idx ⟨ad, "clone", "()Ljava/lang/Object;"⟩).before a0 Z = true) (w2 : (Jvm.Cond.sameMethod ad "java/lang/Object" "clone" "()Ljava/lang/Object;").before a0 Z = true) (w3 : (Jvm.Cond.native ⟨"java/lang/Object", "clone", "()Ljava/lang/Object;"⟩).before a0 Z = true)
    (w4 : (Jvm.Cond.instanceMethod ⟨"java/lang/Object", "clone", "()Ljava/lang/Object;"⟩).before a0 Z = true) (w5 : (Jvm.Cond.selects ad ⟨ad, "clone", "()Ljava/lang/Object;"⟩ ⟨"java/lang/Object", "clone", "()Ljava/lang/Object;"⟩).before a0 Z = true) (w6 : (Jvm.Cond.castable ad "java/lang/Cloneable").before a0 Z = true)
    {a : Addr} {cA : ClassId} {ty : FieldType} {i : Int32} {vs : List Value} {dv : Value} (F : Arv Z h a cA ty i vs dv) (E : Exa Z h a ad) (hsz : Ls.size = ml) (hf : 1 ≤ R.frames) {W cap : Nat} (hW : 2 * 0 + (st.map fun v => v.category).sum ≤ W) (hl : W + 14 ≤ R.locals) (hcap : i.toNatClampNeg ≤ cap) (hd : decode bytes pc = .ok (.invokevirtual idx, 3)) (hp : pc + 3 = pc') (hK : K + 1 = K') (hS : S + cap = S') (hK' : K' ≤ R.cells) (hS' : S' ≤ R.slots)
    (n : ∀ (h' : Heap) (b : Addr), b = h.size → Ext h h' → Arv Z h' b cA ty i vs dv → Exa Z h' b ad → Go p l e R s m args below meth c n0 Q K' S' h' (mkF m pc' Ls (.ref b :: st))) : Go p l e R s m args below meth c n0 Q K S h (mkF m pc Ls (.ref a :: st)) :=
  fun T ⟨ls, cs, ss, X, N, hc, hs, eT⟩ => by
    subst hp hK hS
    obtain ⟨T', h', X', e', E', A', X2, st'⟩ := cloneH X C.1 C.2.1 C.2.2.2.2.1 w1 w2 w3 w4 w5 w6 eT F.arh E (g := (mkF m pc Ls (.ref a :: st))) rfl (hsz.trans C.2.2.2.1.symm) rfl (hb C.2.2.1 hd) hf hW hl hcap (by omega) (by omega)
    obtain ⟨s₂, v, L, h1, h2⟩ := n h' _ rfl E' A' X2 T' ⟨ls, _, _, X', N, by omega, by omega, e'⟩
    exact ⟨s₂, v, L, st' _ h1, h2⟩
def Mi (Z : State) (Cn : String) (a : Addr) : Prop := ∃ (c : ClassId) (k : Class), Z.vm.findClass Cn = some c ∧ Z.vm.classes[c]? = some k ∧ k.mirror = some a
theorem ldcMi (C : Cx p l e R s m args below meth c Z bytes ml own ret nm) {pc pc' : Nat} {Ls : Array Slot} {st : List Value} {Cn : String} {index : Nat} {a : Addr} (w : (Jvm.Cond.classLink own index Cn).before a0 Z = true) (M : Mi Z Cn a) (hd : decode bytes pc = .ok (.ldc index, 2)) (hp : pc + 2 = pc') (n : Go p l e R s m args below meth c n0 Q K S h (mkF m pc' Ls (.ref a :: st))) : Go p l e R s m args below meth c n0 Q K S h (mkF m pc Ls st) := by
  subst hp
  have hev : (Term.mirror Cn).eval args s none [] s = some (.ref a) := by
    obtain ⟨c', k, m1, m2, m3⟩ := M
    obtain ⟨k', q, ek⟩ := C.2.1.alike.2.2 _ _ m2
    have m3' : k'.mirror = some a := by rw [ek]; exact m3
    simp [Term.eval, C.2.1.alike.findClass, m1, q, m3']
  exact Go.law (fun T ls cs ss X eT => by
    obtain ⟨vm', X', st'⟩ := X.ldcMirror C.1 C.2.2.2.2.1 (mvT C.2.1 w) hev (g := (mkF m pc Ls st)) rfl (hb C.2.2.1 hd)
    exact ⟨_, X', eT, st'⟩) n
theorem getCls (C : Cx p l e R s m args below meth c Z bytes ml own ret nm) {pc pc' : Nat} {Ls : Array Slot} {st : List Value} {Cn : String} {index : Nat} {a mr : Addr} (w1 : (Jvm.Cond.methodLink own index ⟨"java/lang/Object", "getClass", "()Ljava/lang/Class;"⟩).before a0 Z = true) (w2 : (Jvm.Cond.declares ⟨"java/lang/Object", "getClass", "()Ljava/lang/Class;"⟩).before a0 Z = true) (w3 : (Jvm.Cond.noSuperclass "java/lang/Object").before a0 Z = true) (w4 : (Jvm.Cond.selects Cn ⟨"java/lang/Object", "getClass", "()Ljava/lang/Class;"⟩ ⟨"java/lang/Object", "getClass", "()Ljava/lang/Class;"⟩).before a0 Z = true) (w5 : (Jvm.Cond.instanceMethod ⟨"java/lang/Object", "getClass", "()Ljava/lang/Class;"⟩).before a0 Z = true) (w6 : (Jvm.Cond.native ⟨"java/lang/Object", "getClass", "()Ljava/lang/Class;"⟩).before a0 Z = true) (E : Exa Z h a Cn) (M : Mi Z Cn mr) (hsz : Ls.size = ml) (hf : 1 ≤ R.frames) {W : Nat} (hW : 2 * 0 + (st.map fun v => v.category).sum ≤ W) (hl : W + (nativeFrameWords "java/lang/Object" "getClass" 1 + 11) ≤ R.locals) (hd : decode bytes pc = .ok (.invokevirtual index, 3)) (hp : pc + 3 = pc') (n : Go p l e R s m args below meth c n0 Q K S h (mkF m pc' Ls (.ref mr :: st))) : Go p l e R s m args below meth c n0 Q K S h (mkF m pc Ls (.ref a :: st)) := by
  subst hp
  exact Go.law (fun T ls cs ss X eT => by
    obtain ⟨cB, kB, i1, i2, i3⟩ := isOf C.2.1 eT E
    obtain ⟨cc, kc, m1, m2, m3⟩ := M
    rw [C.2.1.alike.findClass] at i1
    cases i1.symm.trans m1
    obtain ⟨k', q, ek⟩ := C.2.1.alike.2.2 _ _ m2
    obtain ⟨vm', X', st'⟩ := X.getClassOf C.1 C.2.2.2.2.1 (mvT C.2.1 w1) (mvT C.2.1 w2) (nf_top (args := #[]) (mvT C.2.1 w3)) (mvT C.2.1 w4) (mvT C.2.1 w5) (mvT C.2.1 w6) (by rw [C.2.1.alike.findClass]; exact m1) i3 q (by rw [ek]; exact m3) (g := (mkF m pc Ls (.ref a :: st))) rfl (hsz.trans C.2.2.2.1.symm) rfl (hb C.2.2.1 hd) hf (Nat.le_trans (Nat.add_le_add_right hW _) hl)
    exact ⟨_, X', eT, st'⟩) n
theorem instNo (C : Cx p l e R s m args below meth c Z bytes ml own ret nm) {pc pc' : Nat} {Ls : Array Slot} {st : List Value} {Cn Kn : String} {index : Nat} {a : Addr} (w : (Jvm.Cond.classLink own index Kn).before a0 Z = true) (E : Exa Z h a Cn) (F : ∃ c t, Z.vm.findClass Cn = some c ∧ Z.vm.findClass Kn = some t ∧ Z.vm.assignable c t = false) (hd : decode bytes pc = .ok (.instanceof index, 3)) (hp : pc + 3 = pc') (n : Go p l e R s m args below meth c n0 Q K S h (mkF m pc' Ls (.int 0 :: st))) : Go p l e R s m args below meth c n0 Q K S h (mkF m pc Ls (.ref a :: st)) := by
  subst hp; exact Go.law (fun T ls cs ss X eT => Jvm.RoadKit.instNo X C.1 C.2.1 C.2.2.2.2.1 w eT E F (g := (mkF m pc Ls (.ref a :: st))) rfl rfl (hb C.2.2.1 hd)) n
theorem instY (C : Cx p l e R s m args below meth c Z bytes ml own ret nm) {pc pc' : Nat} {Ls : Array Slot} {st : List Value} {Kn : String} {index : Nat} {a : Addr} (w : (Jvm.Cond.classLink own index Kn).before a0 Z = true) (F : Ins Z h a Kn true) (hd : decode bytes pc = .ok (.instanceof index, 3)) (hp : pc + 3 = pc') (n : Go p l e R s m args below meth c n0 Q K S h (mkF m pc' Ls (.int 1 :: st))) : Go p l e R s m args below meth c n0 Q K S h (mkF m pc Ls (.ref a :: st)) := by
  subst hp; exact Go.law (fun T ls cs ss X eT => Jvm.RoadKit.instY X C.1 C.2.1 C.2.2.2.2.1 w eT F (g := (mkF m pc Ls (.ref a :: st))) rfl rfl (hb C.2.2.1 hd)) n
theorem putFN (C : Cx p l e R s m args below meth c Z bytes ml own ret nm) {pc pc' : Nat} {Ls : Array Slot} {st : List Value} {R0 O n d Cn : String} {index kk : Nat} {ty : FieldType} (w : (Jvm.Cond.fieldLink own index R0 n d).before a0 Z = true) (via : Via Z R0 O n d) {a : Addr} {v v' old : Value} (F : Fld Z h a O n d old) (E : Exa Z h a Cn) (L : (Jvm.Cond.lays Cn O n d).before a0 Z = true ∨ ((Jvm.Cond.laysFinal Cn O n d).before a0 Z = true ∧ own = O ∧ nm = "<init>")) (wi : (Jvm.Cond.instantiable Cn kk).before a0 Z = true) (hty : parseFieldDescriptor d = some ty) (hn : narrow ty v = v') (hf : fits ty v' = true) (ha : n0 ≤ a) (hd : decode bytes pc = .ok (.putfield index, 3)) (hp : pc + 3 = pc') (k : ∀ h', Wr h h' a (Jvm.RoadKit.slotOf Z O n d) v' → Go p l e R s m args below meth c n0 Q K S h' (mkF m pc' Ls st)) : Go p l e R s m args below meth c n0 Q K S h (mkF m pc Ls (v :: .ref a :: st)) := by
  subst hp; exact Go.write ha (fun T ls cs ss X eT => Jvm.RoadKit.putFN X C.1 C.2.1 C.2.2.2.2.1 w via eT F E (L.imp id fun q => ⟨q.1, q.2.1, C.2.2.2.2.2.2.2.trans q.2.2⟩) wi hty hn hf (g := (mkF m pc Ls (v :: .ref a :: st))) rfl rfl (hb C.2.2.1 hd)) k
theorem acopy (C : Cx p l e R s m args below meth c Z bytes ml own ret nm) {pc pc' : Nat} {Ls : Array Slot} {st : List Value} {index : Nat} {a b : Addr} {k1 k2 : ClassId} {t1 t2 : FieldType} {z1 z2 sp dp nn : Int32} {vs vd us : List Value} {d1 d2 : Value} (w1 : (Jvm.Cond.methodLink own index Jvm.Stand.acN).before a0 Z = true) (w2 : (Jvm.Cond.native Jvm.Stand.acN).before a0 Z = true) (w3 : (Jvm.Cond.static Jvm.Stand.acN).before a0 Z = true) (w4 : (Jvm.Cond.initialized "java/lang/System").before a0 Z = true) (A : Arv Z h a k1 t1 z1 vs d1) (B : Arv Z h b k2 t2 z2 vd d2) (hty : (t1 = t2 ∧ refKind t1 = false) ∨ (refKind t1 = true ∧ refKind t2 = true ∧ StoL Z h b us)) (h1 : ¬ sp < 0) (h2 : ¬ dp < 0) (h3 : ¬ nn < 0) (h4 : sp.toNatClampNeg + nn.toNatClampNeg ≤ z1.toNatClampNeg) (h5 : dp.toNatClampNeg + nn.toNatClampNeg ≤ z2.toNatClampNeg) (hus : us = (List.range nn.toNatClampNeg).map fun i => vs.getD (sp.toNatClampNeg + i) d1) (hlen : dp.toNatClampNeg + nn.toNatClampNeg ≤ vd.length) (ha : n0 ≤ b) (hsz : Ls.size = ml) (hf : 1 ≤ R.frames) {W : Nat} (hW : 2 * 0 + (st.map fun v => v.category).sum ≤ W) (hl : W + (nativeFrameWords "java/lang/System" "arraycopy" 5 + 11) ≤ R.locals) (hd : decode bytes pc = .ok (.invokestatic index, 3)) (hp : pc + 3 = pc')
    (n : ∀ h', Keep h h' [b] → Arv Z h' b k2 t2 z2 (vd.take dp.toNatClampNeg ++ us ++ vd.drop (dp.toNatClampNeg + nn.toNatClampNeg)) d2 → Go p l e R s m args below meth c n0 Q K S h' (mkF m pc' Ls st)) : Go p l e R s m args below meth c n0 Q K S h (mkF m pc Ls (.int nn :: .int dp :: .ref b :: .int sp :: .ref a :: st)) :=
  fun T ⟨ls, cs, ss, X, N, hc, hs, eT⟩ => by
    subst hp
    obtain ⟨T', h', L', X', e', N', K', V', st'⟩ := cpA X C.1 C.2.1 C.2.2.2.2.1 w1 w2 w3 w4 eT A B hty h1 h2 h3 h4 h5 hus hlen N ha (g := (mkF m pc Ls (.int nn :: .int dp :: .ref b :: .int sp :: .ref a :: st))) rfl (hsz.trans C.2.2.2.1.symm) rfl (hb C.2.2.1 hd) hf hW hl
    obtain ⟨s₂, v, L, q1, q2⟩ := n h' K' V' T' ⟨L', _, _, X', N', hc, hs, e'⟩
    exact ⟨s₂, v, L, st' _ q1, q2⟩
theorem callS (C : Cx p l e R s m args below meth c Z bytes ml own ret nm) {pc pc' : Nat} {Ls : Array Slot} {st : List Value} {y : MethodName} {yb : ByteArray} {yl idx : Nat} {yr r : Option FieldType} {rm : Room} {Qc : Option Value → Heap → Prop} {argsL rest : List Value} {ps : List FieldType} {W : Nat} (w1 : (Jvm.Cond.methodLink own idx y).before a0 Z = true) (w2 : (Jvm.Cond.static y).before a0 Z = true) (w3 : (Jvm.Cond.initialized y.cls).before a0 Z = true) (w4 : (Jvm.Cond.code y yb yl yr).before a0 Z = true) (hy : y.cls ≠ "java/lang/invoke/MethodHandle" ∧ y.cls ≠ "java/lang/invoke/VarHandle") (hC : Ctr l Z y yb yl yr rm argsL.toArray h n0 Qc) (hf : rm.frames + 1 ≤ R.frames) (hl : W + (yl + 11) + rm.locals ≤ R.locals) (hsz : Ls.size = ml) (hpd : parseMethodDescriptor y.desc = some ⟨ps, r⟩) (hn : argsL.length = ps.length) (hW : 2 * 0 + (rest.map fun v => v.category).sum ≤ W) (hK : K + rm.cells = K') (hS : S + rm.slots = S') (hK' : K' ≤ R.cells) (hS' : S' ≤ R.slots) (hst : st = argsL.reverse ++ rest) (hd : decode bytes pc = .ok (.invokestatic idx, 3)) (hp : pc + 3 = pc')
    (n : ∀ v h', Qc v h' → Go p l e R s m args below meth c n0 Q K' S' h' (mkF m pc' Ls (v.toList ++ rest))) : Go p l e R s m args below meth c n0 Q K S h (mkF m pc Ls st) :=
  fun T ⟨ls, cs, ss, X, N, hc, hs, eT⟩ => by
    subst hp hK hS
    obtain ⟨v, _, ⟨T', L', k', n'⟩, -, X', ⟨Lc', hQ', l', y', z'⟩, st'⟩ := Jvm.LawKit.callS X C.1 (y := y) C.2.2.2.2.1 (mvT C.2.1 w1) (mvT C.2.1 w2) (mvT C.2.1 w3) (mvT C.2.1 w4) hy (backOf (Q := fun v h L => Qc v h ∧ Fr n0 L) (W := W) (hC []) C.2.1 w4 w3 hf hl) (g := (mkF m pc Ls st)) rfl (hsz.trans C.2.2.2.1.symm) (argsL := argsL) (rest := rest) (lenOf hpd hn) hst hW (hb C.2.2.1 hd) (fun _ _ => ⟨rfl, eT, (show cs + rm.cells ≤ R.cells by omega), (show ss + rm.slots ≤ R.slots by omega)⟩)
    dsimp only [Pt.U, Pt.locs, Pt.cells, Pt.slots] at X' l' y' z' st' hQ'
    subst l' y' z'
    obtain ⟨s₂, v2, L, h1, h2⟩ := n v T'.heap hQ'.1 T' ⟨_, _, _, X', Fr.app N hQ'.2, by omega, by omega, rfl⟩
    exact ⟨s₂, v2, L, st' _ h1, h2⟩
theorem callX (C : Cx p l e R s m args below meth c Z bytes ml own ret nm) {pc pc' : Nat} {Ls : Array Slot} {st : List Value} {y : MethodName} {yb : ByteArray} {yl idx : Nat} {yr r : Option FieldType} {rm : Room} {Qc : Option Value → Heap → Prop} {argsL rest : List Value} {ps : List FieldType} {W : Nat} {a : Addr} (hy1 : y.name = "<init>") (w1 : (Jvm.Cond.methodLink own idx y).before a0 Z = true) (w2 : (Jvm.Cond.instanceMethod y).before a0 Z = true) (w3 : (Jvm.Cond.initialized y.cls).before a0 Z = true) (w4 : (Jvm.Cond.code y yb yl none).before a0 Z = true) (hy : y.cls ≠ "java/lang/invoke/MethodHandle" ∧ y.cls ≠ "java/lang/invoke/VarHandle") (hC : Ctr l Z y yb yl none rm (.ref a :: argsL).toArray h n0 Qc) (hf : rm.frames + 1 ≤ R.frames) (hl : W + (yl + 11) + rm.locals ≤ R.locals) (hsz : Ls.size = ml) (hpd : parseMethodDescriptor y.desc = some ⟨ps, r⟩) (hn : argsL.length = ps.length) (hW : 2 * 0 + (rest.map fun v => v.category).sum ≤ W) (hK : K + rm.cells = K') (hS : S + rm.slots = S') (hK' : K' ≤ R.cells) (hS' : S' ≤ R.slots) (hst : st = argsL.reverse ++ .ref a :: rest) (hd : decode bytes pc = .ok (.invokespecial idx, 3)) (hp : pc + 3 = pc')
    (n : ∀ v h', Qc v h' → Go p l e R s m args below meth c n0 Q K' S' h' (mkF m pc' Ls (v.toList ++ rest))) : Go p l e R s m args below meth c n0 Q K S h (mkF m pc Ls st) :=
  fun T ⟨ls, cs, ss, X, N, hc, hs, eT⟩ => by
    subst hp hK hS
    obtain ⟨v, _, ⟨T', L', k', n'⟩, -, X', ⟨Lc', hQ', l', y', z'⟩, st'⟩ := X.specialBack C.1 (y := y) hy1 C.2.2.2.2.1 (mvT C.2.1 w1) (mvT C.2.1 w2) (mvT C.2.1 w4) hy (backOf (Q := fun v h L => Qc v h ∧ Fr n0 L) (W := W) (hC []) C.2.1 w4 w3 hf hl) (g := (mkF m pc Ls st)) rfl (hsz.trans C.2.2.2.1.symm) (Steps.refl _) (a := a) (argsL := argsL) (rest := rest) (lenOf hpd hn) hst hW (hb C.2.2.1 hd) (fun _ _ => ⟨rfl, eT, (show cs + rm.cells ≤ R.cells by omega), (show ss + rm.slots ≤ R.slots by omega)⟩)
    dsimp only [Pt.U, Pt.locs, Pt.cells, Pt.slots] at X' l' y' z' st' hQ'
    subst l' y' z'
    obtain ⟨s₂, v2, L, h1, h2⟩ := n v T'.heap hQ'.1 T' ⟨_, _, _, X', Fr.app N hQ'.2, by omega, by omega, rfl⟩
    exact ⟨s₂, v2, L, st'.trans h1, h2⟩
theorem callV (C : Cx p l e R s m args below meth c Z bytes ml own ret nm) {pc pc' : Nat} {Ls : Array Slot} {st : List Value} {y z : MethodName} {yb : ByteArray} {yl idx : Nat} {yr r : Option FieldType} {rm : Room} {Qc : Option Value → Heap → Prop} {argsL rest : List Value} {ps : List FieldType} {W : Nat} {a : Addr} {Cn : String} (w1 : (Jvm.Cond.methodLink own idx y).before a0 Z = true) (w2 : (Jvm.Cond.declares y).before a0 Z = true) (wf : NotFace s y) (w5 : (Jvm.Cond.selects Cn y z).before a0 Z = true) (w6 : (Jvm.Cond.instanceMethod z).before a0 Z = true) (w3 : (Jvm.Cond.initialized z.cls).before a0 Z = true) (w4 : (Jvm.Cond.code z yb yl yr).before a0 Z = true) (E : Exa Z h a Cn) (hy : y.cls ≠ "java/lang/invoke/MethodHandle" ∧ y.cls ≠ "java/lang/invoke/VarHandle") (hC : Ctr l Z z yb yl yr rm (.ref a :: argsL).toArray h n0 Qc) (hf : rm.frames + 1 ≤ R.frames) (hl : W + (yl + 11) + rm.locals ≤ R.locals) (hsz : Ls.size = ml) (hpd : parseMethodDescriptor y.desc = some ⟨ps, r⟩) (hn : argsL.length = ps.length) (hW : 2 * 0 + (rest.map fun v => v.category).sum ≤ W) (hK : K + rm.cells = K') (hS : S + rm.slots = S') (hK' : K' ≤ R.cells) (hS' : S' ≤ R.slots) (hst : st = argsL.reverse ++ .ref a :: rest) (hd : decode bytes pc = .ok (.invokevirtual idx, 3)) (hp : pc + 3 = pc')
    (n : ∀ v h', Qc v h' → Go p l e R s m args below meth c n0 Q K' S' h' (mkF m pc' Ls (v.toList ++ rest))) : Go p l e R s m args below meth c n0 Q K S h (mkF m pc Ls st) :=
  fun T ⟨ls, cs, ss, X, N, hc, hs, eT⟩ => by
    subst hp hK hS
    obtain ⟨cq, kq, qa, qb, qc⟩ := isOf C.2.1 eT E
    obtain ⟨v, _, ⟨T', L', k', n'⟩, -, X', ⟨Lc', hQ', l', y', z'⟩, st'⟩ := X.virtualBack C.1 (y := y) (z := z) C.2.2.2.2.1 (mvT C.2.1 w1) (mvT C.2.1 w2) wf (mvT C.2.1 w5) (mvT C.2.1 w6) hy (backOf (Q := fun v h L => Qc v h ∧ Fr n0 L) (W := W) (hC []) C.2.1 w4 w3 hf hl) qa qc (g := (mkF m pc Ls st)) rfl (hsz.trans C.2.2.2.1.symm) (Steps.refl _) (argsL := argsL) (rest := rest) (lenOf hpd hn) hst hW (hb C.2.2.1 hd) (fun _ _ => ⟨rfl, eT, (show cs + rm.cells ≤ R.cells by omega), (show ss + rm.slots ≤ R.slots by omega)⟩)
    dsimp only [Pt.U, Pt.locs, Pt.cells, Pt.slots] at X' l' y' z' st' hQ'
    subst l' y' z'
    obtain ⟨s₂, v2, L, h1, h2⟩ := n v T'.heap hQ'.1 T' ⟨_, _, _, X', Fr.app N hQ'.2, by omega, by omega, rfl⟩
    exact ⟨s₂, v2, L, st'.trans h1, h2⟩
theorem callVU (C : Cx p l e R s m args below meth c Z bytes ml own ret nm) {pc pc' : Nat} {Ls : Array Slot} {st : List Value} {y z : MethodName} {yb : ByteArray} {yl idx : Nat} {yr r : Option FieldType} {rm : Room} {Qc : Option Value → Heap → Prop} {argsL rest : List Value} {ps : List FieldType} {W : Nat} {a : Addr} {Cn owner : String} (w1 : (Jvm.Cond.methodLink own idx y).before a0 Z = true) (wS : (Jvm.Cond.sameMethod y.cls owner y.name y.desc).before a0 Z = true) (w2 : (Jvm.Cond.declares ⟨owner, y.name, y.desc⟩).before a0 Z = true) (w5 : (Jvm.Cond.selects Cn y z).before a0 Z = true) (w6 : (Jvm.Cond.instanceMethod z).before a0 Z = true) (w3 : (Jvm.Cond.initialized z.cls).before a0 Z = true) (w4 : (Jvm.Cond.code z yb yl yr).before a0 Z = true) (E : Exa Z h a Cn) (hy : owner ≠ "java/lang/invoke/MethodHandle" ∧ owner ≠ "java/lang/invoke/VarHandle") (hC : Ctr l Z z yb yl yr rm (.ref a :: argsL).toArray h n0 Qc) (hf : rm.frames + 1 ≤ R.frames) (hl : W + (yl + 11) + rm.locals ≤ R.locals) (hsz : Ls.size = ml) (hpd : parseMethodDescriptor y.desc = some ⟨ps, r⟩) (hn : argsL.length = ps.length) (hW : 2 * 0 + (rest.map fun v => v.category).sum ≤ W) (hK : K + rm.cells = K') (hS : S + rm.slots = S') (hK' : K' ≤ R.cells) (hS' : S' ≤ R.slots) (hst : st = argsL.reverse ++ .ref a :: rest) (hd : decode bytes pc = .ok (.invokevirtual idx, 3)) (hp : pc + 3 = pc')
    (n : ∀ v h', Qc v h' → Go p l e R s m args below meth c n0 Q K' S' h' (mkF m pc' Ls (v.toList ++ rest))) : Go p l e R s m args below meth c n0 Q K S h (mkF m pc Ls st) :=
  fun T ⟨ls, cs, ss, X, N, hc, hs, eT⟩ => by
    subst hp hK hS
    obtain ⟨cq, kq, qa, qb, qc⟩ := isOf C.2.1 eT E
    obtain ⟨v, _, ⟨T', L', k', n'⟩, -, X', ⟨Lc', hQ', l', y', z'⟩, st'⟩ := X.virtualBackUp C.1 (x := y) (y := z) C.2.2.2.2.1 (mvT C.2.1 w1) (mvT C.2.1 wS) (mvT C.2.1 w2) hy (mvT C.2.1 w5) (mvT C.2.1 w6) (backOf (Q := fun v h L => Qc v h ∧ Fr n0 L) (W := W) (hC []) C.2.1 w4 w3 hf hl) qa qc (g := (mkF m pc Ls st)) rfl (hsz.trans C.2.2.2.1.symm) (Steps.refl _) (argsL := argsL) (rest := rest) (lenOf hpd hn) hst hW (hb C.2.2.1 hd) (fun _ _ => ⟨rfl, eT, (show cs + rm.cells ≤ R.cells by omega), (show ss + rm.slots ≤ R.slots by omega)⟩)
    dsimp only [Pt.U, Pt.locs, Pt.cells, Pt.slots] at X' l' y' z' st' hQ'
    subst l' y' z'
    obtain ⟨s₂, v2, L, h1, h2⟩ := n v T'.heap hQ'.1 T' ⟨_, _, _, X', Fr.app N hQ'.2, by omega, by omega, rfl⟩
    exact ⟨s₂, v2, L, st'.trans h1, h2⟩
theorem callP (C : Cx p l e R s m args below meth c Z bytes ml own ret nm) {pc pc' : Nat} {Ls : Array Slot} {st : List Value} {y : MethodName} {yb : ByteArray} {yl idx : Nat} {yr r : Option FieldType} {rm : Room} {Qc : Option Value → Heap → Prop} {argsL rest : List Value} {ps : List FieldType} {W : Nat} {a : Addr} {Cn : String} (w1 : (Jvm.Cond.methodLink own idx y).before a0 Z = true) (w2 : (Jvm.Cond.instanceMethod y).before a0 Z = true) (w5 : (Jvm.Cond.selects y.cls y y).before a0 Z = true) (w6 : (Jvm.Cond.privateMethod y).before a0 Z = true) (w3 : (Jvm.Cond.initialized y.cls).before a0 Z = true) (w4 : (Jvm.Cond.code y yb yl yr).before a0 Z = true) (E : Exa Z h a Cn) (hy : y.cls ≠ "java/lang/invoke/MethodHandle" ∧ y.cls ≠ "java/lang/invoke/VarHandle") (hC : Ctr l Z y yb yl yr rm (.ref a :: argsL).toArray h n0 Qc) (hf : rm.frames + 1 ≤ R.frames) (hl : W + (yl + 11) + rm.locals ≤ R.locals) (hsz : Ls.size = ml) (hpd : parseMethodDescriptor y.desc = some ⟨ps, r⟩) (hn : argsL.length = ps.length) (hW : 2 * 0 + (rest.map fun v => v.category).sum ≤ W) (hK : K + rm.cells = K') (hS : S + rm.slots = S') (hK' : K' ≤ R.cells) (hS' : S' ≤ R.slots) (hst : st = argsL.reverse ++ .ref a :: rest) (hd : decode bytes pc = .ok (.invokevirtual idx, 3)) (hp : pc + 3 = pc')
    (n : ∀ v h', Qc v h' → Go p l e R s m args below meth c n0 Q K' S' h' (mkF m pc' Ls (v.toList ++ rest))) : Go p l e R s m args below meth c n0 Q K S h (mkF m pc Ls st) :=
  fun T ⟨ls, cs, ss, X, N, hc, hs, eT⟩ => by
    subst hp hK hS
    obtain ⟨cq, qa, qb⟩ := E.cell
    obtain ⟨v, _, ⟨T', L', k', n'⟩, -, X', ⟨Lc', hQ', l', y', z'⟩, st'⟩ := X.privateBack C.1 (y := y) C.2.2.2.2.1 (mvT C.2.1 w1) (mvT C.2.1 w2) (mvT C.2.1 w5) (Cond.privateMethod_at (mvP C.2.1 w6 (args := #[]))) (mvT C.2.1 w4) hy (backOf (Q := fun v h L => Qc v h ∧ Fr n0 L) (W := W) (hC []) C.2.1 w4 w3 hf hl) (g := (mkF m pc Ls st)) rfl (hsz.trans C.2.2.2.1.symm) (Steps.refl _) (a := a) (by rw [eT]; exact qa) qb (argsL := argsL) (rest := rest) (lenOf hpd hn) hst hW (hb C.2.2.1 hd) (fun _ _ => ⟨rfl, eT, (show cs + rm.cells ≤ R.cells by omega), (show ss + rm.slots ≤ R.slots by omega)⟩)
    dsimp only [Pt.U, Pt.locs, Pt.cells, Pt.slots] at X' l' y' z' st' hQ'
    subst l' y' z'
    obtain ⟨s₂, v2, L, h1, h2⟩ := n v T'.heap hQ'.1 T' ⟨_, _, _, X', Fr.app N hQ'.2, by omega, by omega, rfl⟩
    exact ⟨s₂, v2, L, st'.trans h1, h2⟩
theorem callI (C : Cx p l e R s m args below meth c Z bytes ml own ret nm) {pc pc' : Nat} {Ls : Array Slot} {st : List Value} {y z : MethodName} {yb : ByteArray} {yl idx : Nat} {yr r : Option FieldType} {rm : Room} {Qc : Option Value → Heap → Prop} {argsL rest : List Value} {ps : List FieldType} {W : Nat} {a : Addr} {Cn : String} {count : Nat} (w1 : (Jvm.Cond.methodLink own idx y).before a0 Z = true) (w2 : (Jvm.Cond.declares y).before a0 Z = true) (wf : (Jvm.Cond.interfaceMethod y.cls y.cls y.name y.desc).before a0 Z = true) (wfk : ((Jvm.Cond.interfaceMethod y.cls y.cls y.name y.desc).onTables && (Jvm.Cond.interfaceMethod y.cls y.cls y.name y.desc).keepsFace) = true) (w5 : (Jvm.Cond.selects Cn y z).before a0 Z = true) (w6 : (Jvm.Cond.instanceMethod z).before a0 Z = true) (w7 : (Jvm.Cond.publicMethod z).before a0 Z = true) (w8 : (Jvm.Cond.unhidden Cn y.name y.desc).before a0 Z = true) (w9 : (Jvm.Cond.castable Cn y.cls).before a0 Z = true) (w3 : (Jvm.Cond.initialized z.cls).before a0 Z = true) (w4 : (Jvm.Cond.code z yb yl yr).before a0 Z = true) (E : Exa Z h a Cn) (hy : y.cls ≠ "java/lang/invoke/MethodHandle" ∧ y.cls ≠ "java/lang/invoke/VarHandle") (hC : Ctr l Z z yb yl yr rm (.ref a :: argsL).toArray h n0 Qc) (hf : rm.frames + 1 ≤ R.frames) (hl : W + (yl + 11) + rm.locals ≤ R.locals) (hsz : Ls.size = ml) (hpd : parseMethodDescriptor y.desc = some ⟨ps, r⟩) (hn : argsL.length = ps.length) (hW : 2 * 0 + (rest.map fun v => v.category).sum ≤ W) (hK : K + rm.cells = K') (hS : S + rm.slots = S') (hK' : K' ≤ R.cells) (hS' : S' ≤ R.slots) (hst : st = argsL.reverse ++ .ref a :: rest) (hd : decode bytes pc = .ok (.invokeinterface idx count, 5)) (hp : pc + 5 = pc')
    (n : ∀ v h', Qc v h' → Go p l e R s m args below meth c n0 Q K' S' h' (mkF m pc' Ls (v.toList ++ rest))) : Go p l e R s m args below meth c n0 Q K S h (mkF m pc Ls st) :=
  fun T ⟨ls, cs, ss, X, N, hc, hs, eT⟩ => by
    subst hp hK hS
    obtain ⟨cq, kq, qa, qb, qc⟩ := isOf C.2.1 eT E
    obtain ⟨v, _, ⟨T', L', k', n'⟩, -, X', ⟨Lc', hQ', l', y', z'⟩, st'⟩ := X.interfaceBack C.1 (xi := y) (y := z) C.2.2.2.2.1 (mvT C.2.1 w1) (mvT C.2.1 w2) (mvT C.2.1 wf wfk) (mvT C.2.1 w5) (mvT C.2.1 w6) (mvT C.2.1 w7) (mvT C.2.1 w8) (mvT C.2.1 w9) hy (backOf (Q := fun v h L => Qc v h ∧ Fr n0 L) (W := W) (hC []) C.2.1 w4 w3 hf hl) qa qb qc (g := (mkF m pc Ls st)) rfl (hsz.trans C.2.2.2.1.symm) (Steps.refl _) (argsL := argsL) (rest := rest) (lenOf hpd hn) hst hW (hb C.2.2.1 hd) (fun _ _ => ⟨rfl, eT, (show cs + rm.cells ≤ R.cells by omega), (show ss + rm.slots ≤ R.slots by omega)⟩)
    dsimp only [Pt.U, Pt.locs, Pt.cells, Pt.slots] at X' l' y' z' st' hQ'
    subst l' y' z'
    obtain ⟨s₂, v2, L, h1, h2⟩ := n v T'.heap hQ'.1 T' ⟨_, _, _, X', Fr.app N hQ'.2, by omega, by omega, rfl⟩
    exact ⟨s₂, v2, L, st'.trans h1, h2⟩
theorem callXN (C : Cx p l e R s m args below meth c Z bytes ml own ret nm) {pc pc' : Nat} {Ls : Array Slot} {st : List Value} {y : MethodName} {yb : ByteArray} {yl idx : Nat} {yr r : Option FieldType} {rm : Room} {Qc : Option Value → Heap → Prop} {argsL rest : List Value} {ps : List FieldType} {W : Nat} {a : Addr} {host : String} (hy1 : y.name = "<init>") (w1 : (Jvm.Cond.methodLinkNest own idx y host).before a0 Z = true) (w2 : (Jvm.Cond.instanceMethod y).before a0 Z = true) (w3 : (Jvm.Cond.initialized y.cls).before a0 Z = true) (w4 : (Jvm.Cond.code y yb yl none).before a0 Z = true) (hy : y.cls ≠ "java/lang/invoke/MethodHandle" ∧ y.cls ≠ "java/lang/invoke/VarHandle") (hC : Ctr l Z y yb yl none rm (.ref a :: argsL).toArray h n0 Qc) (hf : rm.frames + 1 ≤ R.frames) (hl : W + (yl + 11) + rm.locals ≤ R.locals) (hsz : Ls.size = ml) (hpd : parseMethodDescriptor y.desc = some ⟨ps, r⟩) (hn : argsL.length = ps.length) (hW : 2 * 0 + (rest.map fun v => v.category).sum ≤ W) (hK : K + rm.cells = K') (hS : S + rm.slots = S') (hK' : K' ≤ R.cells) (hS' : S' ≤ R.slots) (hst : st = argsL.reverse ++ .ref a :: rest) (hd : decode bytes pc = .ok (.invokespecial idx, 3)) (hp : pc + 3 = pc')
    (n : ∀ v h', Qc v h' → Go p l e R s m args below meth c n0 Q K' S' h' (mkF m pc' Ls (v.toList ++ rest))) : Go p l e R s m args below meth c n0 Q K S h (mkF m pc Ls st) :=
  fun T ⟨ls, cs, ss, X, N, hc, hs, eT⟩ => by
    subst hp hK hS
    obtain ⟨v, _, ⟨T', L', k', n'⟩, -, X', ⟨Lc', hQ', l', y', z'⟩, st'⟩ := X.specialBackNest C.1 (y := y) hy1 C.2.2.2.2.1 (Cond.methodLinkNest_wide C.2.1 w1 :) (mvT C.2.1 w2) (mvT C.2.1 w4) hy (backOf (Q := fun v h L => Qc v h ∧ Fr n0 L) (W := W) (hC []) C.2.1 w4 w3 hf hl) (g := (mkF m pc Ls st)) rfl (hsz.trans C.2.2.2.1.symm) (Steps.refl _) (a := a) (argsL := argsL) (rest := rest) (lenOf hpd hn) hst hW (hb C.2.2.1 hd) (fun _ _ => ⟨rfl, eT, (show cs + rm.cells ≤ R.cells by omega), (show ss + rm.slots ≤ R.slots by omega)⟩)
    dsimp only [Pt.U, Pt.locs, Pt.cells, Pt.slots] at X' l' y' z' st' hQ'
    subst l' y' z'
    obtain ⟨s₂, v2, L, h1, h2⟩ := n v T'.heap hQ'.1 T' ⟨_, _, _, X', Fr.app N hQ'.2, by omega, by omega, rfl⟩
    exact ⟨s₂, v2, L, st'.trans h1, h2⟩
theorem retN (C : Cx p l e R s m args below meth c Z bytes ml own ret nm) {pc : Nat} {Ls : Array Slot} {st : List Value} {x z : Int32} {t : FieldType} (hr0 : ret = some t) (ht : t = .boolean ∨ t = .byte ∨ t = .char ∨ t = .short) (hz : nar t x = z) (hq : Q (some (.int z)) h) (hK : K ≤ R.cells) (hS : S ≤ R.slots) (hd : decode bytes pc = .ok (.ireturn, 1)) : Go p l e R s m args below meth c n0 Q K S h (mkF m pc Ls (.int x :: st)) :=
  fun T ⟨ls, cs, ss, X, N, hc, hs, eT⟩ => by
    obtain ⟨fs, hr, hrun, hended, hW, hsame⟩ := X.leave (v := (some (.int z))) (fun h => by rw [C.2.2.2.2.2.2.1, hr0] at h; cases h) C.2.2.2.2.2.1
    exact ⟨_, _, _, Jvm.RoadKit.retN X C.1 (C.2.2.2.2.2.2.1.trans hr0) ht (hb C.2.2.1 hd) (hz ▸ hr), hrun, hended, (show Q (some (.int z)) T.heap from eT.symm ▸ hq), N, ⟨_, rfl⟩, hW, hsame.mono (Nat.le_trans hc hK) (Nat.le_trans hs hS)⟩
theorem retI (C : Cx p l e R s m args below meth c Z bytes ml own ret nm) {pc : Nat} {Ls : Array Slot} {st : List Value} {x : Int32} (hr0 : ret = some .int) (hq : Q (some (.int x)) h) (hK : K ≤ R.cells) (hS : S ≤ R.slots) (hd : decode bytes pc = .ok (.ireturn, 1)) : Go p l e R s m args below meth c n0 Q K S h (mkF m pc Ls (.int x :: st)) :=
  fun T ⟨ls, cs, ss, X, N, hc, hs, eT⟩ => by
    obtain ⟨fs, hr, hrun, hended, hW, hsame⟩ := X.leave (v := (some (.int x))) (fun h => by rw [C.2.2.2.2.2.2.1, hr0] at h; cases h) C.2.2.2.2.2.1
    exact ⟨_, _, _, retOut X C.1 (C.2.2.2.2.2.2.1.trans hr0) rfl (Or.inl ⟨rfl, Or.inl rfl, x, rfl⟩) (hb C.2.2.1 hd) hr, hrun, hended, (show Q (some (.int x)) T.heap from eT.symm ▸ hq), N, ⟨_, rfl⟩, hW, hsame.mono (Nat.le_trans hc hK) (Nat.le_trans hs hS)⟩
theorem retL (C : Cx p l e R s m args below meth c Z bytes ml own ret nm) {pc : Nat} {Ls : Array Slot} {st : List Value} {x : Int64} (hr0 : ret = some .long) (hq : Q (some (.long x)) h) (hK : K ≤ R.cells) (hS : S ≤ R.slots) (hd : decode bytes pc = .ok (.lreturn, 1)) : Go p l e R s m args below meth c n0 Q K S h (mkF m pc Ls (.long x :: st)) :=
  fun T ⟨ls, cs, ss, X, N, hc, hs, eT⟩ => by
    obtain ⟨fs, hr, hrun, hended, hW, hsame⟩ := X.leave (v := (some (.long x))) (fun h => by rw [C.2.2.2.2.2.2.1, hr0] at h; cases h) C.2.2.2.2.2.1
    exact ⟨_, _, _, retOut X C.1 (C.2.2.2.2.2.2.1.trans hr0) rfl (Or.inr (Or.inl ⟨rfl, rfl, x, rfl⟩)) (hb C.2.2.1 hd) hr, hrun, hended, (show Q (some (.long x)) T.heap from eT.symm ▸ hq), N, ⟨_, rfl⟩, hW, hsame.mono (Nat.le_trans hc hK) (Nat.le_trans hs hS)⟩
theorem retA (C : Cx p l e R s m args below meth c Z bytes ml own ret nm) {pc : Nat} {Ls : Array Slot} {st : List Value} {x : Value} {t : FieldType} (hr0 : ret = some t) (ht : t.isReference = true) (hx : x.isRef = true) (hq : Q (some x) h) (hK : K ≤ R.cells) (hS : S ≤ R.slots) (hd : decode bytes pc = .ok (.areturn, 1)) : Go p l e R s m args below meth c n0 Q K S h (mkF m pc Ls (x :: st)) :=
  fun T ⟨ls, cs, ss, X, N, hc, hs, eT⟩ => by
    obtain ⟨fs, hr, hrun, hended, hW, hsame⟩ := X.leave (v := (some x)) (fun h => by rw [C.2.2.2.2.2.2.1, hr0] at h; cases h) C.2.2.2.2.2.1
    exact ⟨_, _, _, retOut X C.1 (C.2.2.2.2.2.2.1.trans hr0) (by cases t <;> first | (cases ht; done) | rfl) (Or.inr (Or.inr (Or.inr (Or.inr ⟨rfl, ht, hx⟩)))) (hb C.2.2.1 hd) hr, hrun, hended, (show Q (some x) T.heap from eT.symm ▸ hq), N, ⟨_, rfl⟩, hW, hsame.mono (Nat.le_trans hc hK) (Nat.le_trans hs hS)⟩
theorem retV (C : Cx p l e R s m args below meth c Z bytes ml own ret nm) {pc : Nat} {Ls : Array Slot} (hr0 : ret = none) (hq : Q none h) (hK : K ≤ R.cells) (hS : S ≤ R.slots) (hd : decode bytes pc = .ok (.return_, 1)) : Go p l e R s m args below meth c n0 Q K S h (mkF m pc Ls []) :=
  fun T ⟨ls, cs, ss, X, N, hc, hs, eT⟩ => by
    obtain ⟨fs, hr, hrun, hended, hW, hsame⟩ := X.leave (v := none) (fun _ => rfl) C.2.2.2.2.2.1
    exact ⟨_, _, _, X.returnOut C.1 (C.2.2.2.2.2.2.1.trans hr0) (hb C.2.2.1 hd) hr, hrun, hended, (show Q none T.heap from eT.symm ▸ hq), N, ⟨_, rfl⟩, hW, hsame.mono (Nat.le_trans hc hK) (Nat.le_trans hs hS)⟩
theorem fld_int {t : Term} {a : Addr} {Cn n d : String} {k : Int32} (ev : t.eval args s none [] s = some (.ref a)) (h : (Jvm.Cond.eq (.field t Cn n d) (.int k)).value args s none s [] = some true) : Fld s s.heap a Cn n d (.int k) := by
  obtain ⟨x, y, e1, e2, k1, k2⟩ := cmp_v (Or.inl h)
  rw [Term.int_eval] at e2; cases e2
  cases x with
  | int z =>
    have q : z = k := by simpa [Jvm.Cond.value, e1, Term.int_eval] using h
    subst q; rw [fld_at ev] at e1; exact Fld.start e1
  | _ => simp [Jvm.Cond.value, e1, Term.int_eval] at h
theorem fld_ref {t u : Term} {a b : Addr} {Cn n d : String} (ev : t.eval args s none [] s = some (.ref a)) (eu : u.eval args s none [] s = some (.ref b)) (h : (Jvm.Cond.eq (.field t Cn n d) u).value args s none s [] = some true) : Fld s s.heap a Cn n d (.ref b) := by
  obtain ⟨x, y, e1, e2, k1, k2⟩ := cmp_v (Or.inl h)
  rw [eu] at e2; cases e2
  cases x with
  | ref z =>
    have q : z = b := by simpa [Jvm.Cond.value, e1, eu] using h
    subst q; rw [fld_at ev] at e1; exact Fld.start e1
  | _ => simp [Jvm.Cond.value, e1, eu] at h
theorem ref_ne {a b : Addr} (h : a ≠ b) : ¬ (Value.ref a = Value.ref b) := fun q => h (Value.ref.inj q)
theorem len_start {t : Term} {a : Addr} {cl : Cell} {ty : FieldType} {k : Int32} (ev : t.eval args s none [] s = some (.ref a)) (A : Arr s s.heap a cl ty) (hl : (Jvm.Cond.eq (.length t) (.int k)).value args s none s [] = some true) : cl.slots.size < 2 ^ 31 ∧ cl.slots.size.toInt32 = k := by
  obtain ⟨x, y, e1, e2, -, -⟩ := cmp_v (Or.inl hl)
  obtain ⟨b, cell, q1, q2, q3, rfl⟩ := Jvm.Lib.length_spec e1
  cases ev.symm.trans q1
  cases q2.symm.trans (A.fin (Vm.Alike.refl _))
  rw [Term.int_eval] at e2; cases e2
  exact ⟨q3, by simpa [Jvm.Cond.value, e1, Term.int_eval] using hl⟩
theorem elem_start {t u : Term} {a b : Addr} {cl : Cell} {j : Int32} (ev : t.eval args s none [] s = some (.ref a)) (hc : s.heap[a]? = some cl) (eu : u.eval args s none [] s = some (.ref b)) (h : (Jvm.Cond.eq (.elem t (.int j)) u).value args s none s [] = some true) : cl.slots[j.toNatClampNeg]? = some (.ref b) := by
  obtain ⟨x, y, e1, e2, -, -⟩ := cmp_v (Or.inl h)
  rw [eu] at e2; cases e2
  have q := (elem_in e1 ev (Term.int_eval j) hc).2
  cases x with
  | ref z =>
    have q' : z = b := by simpa [Jvm.Cond.value, e1, eu] using h
    subst q'; exact q
  | _ => simp [Jvm.Cond.value, e1, eu] at h
theorem sto_of {a y : Addr} {cA : ClassId} {ty : FieldType} {i : Int32} {vs : List Value} {dv : Value} {Cn : String} (F : Arv Z h a cA ty i vs dv) (O : Ovr Z cA Cn) (I : Ins Z h y Cn true) : Sto Z h a (.ref y) := by
  obtain ⟨c, A, q, -⟩ := F; exact Sto.ofV A q O I
theorem sto_ofA {a y : Addr} {cA : ClassId} {ty t : FieldType} {i : Int32} {vs : List Value} {dv : Value} {Cn : String} (F : Arv Z h a cA ty i vs dv) (O : OvrA Z cA t Cn) (I : Ins Z h y Cn true) : Sto Z h a (.ref y) := by
  obtain ⟨c, A, q, -⟩ := F; exact Sto.ofVA A q O I
theorem ins_keep {a : Addr} {Cn : String} {b : Bool} {h' : Heap} {ws : List Addr} (F : Ins Z h a Cn b) (K : Keep h h' ws) : Ins Z h' a Cn b := by
  obtain ⟨cell, cT, h1, h2, h3⟩ := F
  obtain ⟨c', q, r1, r2, r3⟩ := K.2.2 a cell h1
  exact ⟨c', cT, q, h2, by rw [r1, r2]; exact h3⟩
theorem sta_keep {Cn n d Cm : String} {v : Value} {a : Addr} {h' : Heap} (F : Sta Z h Cn n d v) (K : Keep h h' [a]) (E : Exa Z h a Cm) : Sta Z h' Cn n d v := by
  obtain ⟨cf, i, k, f, st, cell, h1, h2, h3, h4, h5, h6, h7⟩ := F
  obtain ⟨c2, k2, g1, -, -, g4, -⟩ := E
  have ne : st ≠ a := fun q => by subst q; cases h5.symm.trans g1; rw [h6] at g4; cases g4
  exact ⟨cf, i, k, f, st, cell, h1, h2, h3, h4, K.2.1 st cell h5 (fun q => ne (List.mem_singleton.mp q)), h6, h7⟩
theorem nar_b {x : Int32} (h : x = 0 ∨ x = 1) : nar .boolean x = x := by rcases h with rfl | rfl <;> rfl
end K
end Jvm.OwnW
namespace Jvm.Pilot.@@N@@
open Jvm Jvm.ClassFile Sem Op Lib Jvm.Free Jvm.Stand Jvm.LawKit Jvm.RoadKit Jvm.OwnW Bundle Jvm.Pilot.@@N@@.Jvm.D
theorem own_pn_Enum : plainName "java/lang/Enum" = true := by first | (simp [plainName, overriddenIn]; done) | decide +kernel
theorem own_d_jdk_37_method_2_code_0 : decode jdk_37_method_2_code 0 = .ok (.aload_n 0, 1) := by decide +kernel
theorem own_d_jdk_37_method_2_code_1 : decode jdk_37_method_2_code 1 = .ok (.getfield 7, 3) := by decide +kernel
theorem own_d_jdk_37_method_2_code_4 : decode jdk_37_method_2_code 4 = .ok (.ireturn, 1) := by decide +kernel
theorem own_pn_Condition_Comparison_Operator : plainName "com/example/schema_facade/schemafacade/statement/Condition$Comparison$Operator" = true := by first | (simp [plainName, overriddenIn]; done) | decide +kernel
theorem own_d_prog_54_method_5_code_0 : decode prog_54_method_5_code 0 = .ok (.aload_n 0, 1) := by decide +kernel
theorem own_d_prog_54_method_5_code_1 : decode prog_54_method_5_code 1 = .ok (.invokevirtual 45, 3) := by decide +kernel
theorem own_pd___I : parseMethodDescriptor "()I" = some ⟨[], some .int⟩ := by decide +kernel
theorem own_d_prog_54_method_5_code_4 : decode prog_54_method_5_code 4 = .ok (.tableswitch 56 2 5 #[32, 38, 44, 50], 32) := by decide +kernel
theorem own_d_prog_54_method_5_code_60 : decode prog_54_method_5_code 60 = .ok (.aload_n 0, 1) := by decide +kernel
theorem own_d_prog_54_method_5_code_61 : decode prog_54_method_5_code 61 = .ok (.areturn, 1) := by decide +kernel
theorem own_d_prog_54_method_5_code_36 : decode prog_54_method_5_code 36 = .ok (.getstatic 16, 3) := by decide +kernel
theorem own_d_prog_54_method_5_code_39 : decode prog_54_method_5_code 39 = .ok (.goto 22, 3) := by decide +kernel
theorem own_d_prog_54_method_5_code_42 : decode prog_54_method_5_code 42 = .ok (.getstatic 19, 3) := by decide +kernel
theorem own_d_prog_54_method_5_code_45 : decode prog_54_method_5_code 45 = .ok (.goto 16, 3) := by decide +kernel
theorem own_d_prog_54_method_5_code_48 : decode prog_54_method_5_code 48 = .ok (.getstatic 10, 3) := by decide +kernel
theorem own_d_prog_54_method_5_code_51 : decode prog_54_method_5_code 51 = .ok (.goto 10, 3) := by decide +kernel
theorem own_d_prog_54_method_5_code_54 : decode prog_54_method_5_code 54 = .ok (.getstatic 13, 3) := by decide +kernel
theorem own_d_prog_54_method_5_code_57 : decode prog_54_method_5_code 57 = .ok (.goto 4, 3) := by decide +kernel
theorem own_pn_OperatorSwappedPinLaw : plainName "com/example/schema_facade/schemafacade/statement/OperatorSwappedPinLaw" = true := by first | (simp [plainName, overriddenIn]; done) | decide +kernel
theorem own_d_method_2_code_0 : decode method_2_code 0 = .ok (.aload_n 0, 1) := by decide +kernel
theorem own_d_method_2_code_1 : decode method_2_code 1 = .ok (.getstatic 7, 3) := by decide +kernel
theorem own_d_method_2_code_4 : decode method_2_code 4 = .ok (.if_acmp .ne 15, 3) := by decide +kernel
theorem own_d_method_2_code_7 : decode method_2_code 7 = .ok (.lload_n 1, 1) := by decide +kernel
theorem own_d_method_2_code_8 : decode method_2_code 8 = .ok (.lload_n 3, 1) := by decide +kernel
theorem own_d_method_2_code_9 : decode method_2_code 9 = .ok (.lcmp, 1) := by decide +kernel
theorem own_d_method_2_code_10 : decode method_2_code 10 = .ok (.ifCond .ne 7, 3) := by decide +kernel
theorem own_d_method_2_code_17 : decode method_2_code 17 = .ok (.iconst 0, 1) := by decide +kernel
theorem own_d_method_2_code_18 : decode method_2_code 18 = .ok (.ireturn, 1) := by decide +kernel
theorem own_d_method_2_code_13 : decode method_2_code 13 = .ok (.iconst 1, 1) := by decide +kernel
theorem own_d_method_2_code_14 : decode method_2_code 14 = .ok (.goto 4, 3) := by decide +kernel
theorem own_d_method_2_code_19 : decode method_2_code 19 = .ok (.aload_n 0, 1) := by decide +kernel
theorem own_d_method_2_code_20 : decode method_2_code 20 = .ok (.getstatic 13, 3) := by decide +kernel
theorem own_d_method_2_code_23 : decode method_2_code 23 = .ok (.if_acmp .ne 15, 3) := by decide +kernel
theorem own_d_method_2_code_26 : decode method_2_code 26 = .ok (.lload_n 1, 1) := by decide +kernel
theorem own_d_method_2_code_27 : decode method_2_code 27 = .ok (.lload_n 3, 1) := by decide +kernel
theorem own_d_method_2_code_28 : decode method_2_code 28 = .ok (.lcmp, 1) := by decide +kernel
theorem own_d_method_2_code_29 : decode method_2_code 29 = .ok (.ifCond .eq 7, 3) := by decide +kernel
theorem own_d_method_2_code_36 : decode method_2_code 36 = .ok (.iconst 0, 1) := by decide +kernel
theorem own_d_method_2_code_37 : decode method_2_code 37 = .ok (.ireturn, 1) := by decide +kernel
theorem own_d_method_2_code_32 : decode method_2_code 32 = .ok (.iconst 1, 1) := by decide +kernel
theorem own_d_method_2_code_33 : decode method_2_code 33 = .ok (.goto 4, 3) := by decide +kernel
theorem own_d_method_2_code_38 : decode method_2_code 38 = .ok (.aload_n 0, 1) := by decide +kernel
theorem own_d_method_2_code_39 : decode method_2_code 39 = .ok (.getstatic 16, 3) := by decide +kernel
theorem own_d_method_2_code_42 : decode method_2_code 42 = .ok (.if_acmp .ne 15, 3) := by decide +kernel
theorem own_d_method_2_code_45 : decode method_2_code 45 = .ok (.lload_n 1, 1) := by decide +kernel
theorem own_d_method_2_code_46 : decode method_2_code 46 = .ok (.lload_n 3, 1) := by decide +kernel
theorem own_d_method_2_code_47 : decode method_2_code 47 = .ok (.lcmp, 1) := by decide +kernel
theorem own_d_method_2_code_48 : decode method_2_code 48 = .ok (.ifCond .ge 7, 3) := by decide +kernel
theorem own_d_method_2_code_55 : decode method_2_code 55 = .ok (.iconst 0, 1) := by decide +kernel
theorem own_d_method_2_code_56 : decode method_2_code 56 = .ok (.ireturn, 1) := by decide +kernel
theorem own_d_method_2_code_51 : decode method_2_code 51 = .ok (.iconst 1, 1) := by decide +kernel
theorem own_d_method_2_code_52 : decode method_2_code 52 = .ok (.goto 4, 3) := by decide +kernel
theorem own_d_method_2_code_57 : decode method_2_code 57 = .ok (.aload_n 0, 1) := by decide +kernel
theorem own_d_method_2_code_58 : decode method_2_code 58 = .ok (.getstatic 19, 3) := by decide +kernel
theorem own_d_method_2_code_61 : decode method_2_code 61 = .ok (.if_acmp .ne 15, 3) := by decide +kernel
theorem own_d_method_2_code_64 : decode method_2_code 64 = .ok (.lload_n 1, 1) := by decide +kernel
theorem own_d_method_2_code_65 : decode method_2_code 65 = .ok (.lload_n 3, 1) := by decide +kernel
theorem own_d_method_2_code_66 : decode method_2_code 66 = .ok (.lcmp, 1) := by decide +kernel
theorem own_d_method_2_code_67 : decode method_2_code 67 = .ok (.ifCond .gt 7, 3) := by decide +kernel
theorem own_d_method_2_code_74 : decode method_2_code 74 = .ok (.iconst 0, 1) := by decide +kernel
theorem own_d_method_2_code_75 : decode method_2_code 75 = .ok (.ireturn, 1) := by decide +kernel
theorem own_d_method_2_code_70 : decode method_2_code 70 = .ok (.iconst 1, 1) := by decide +kernel
theorem own_d_method_2_code_71 : decode method_2_code 71 = .ok (.goto 4, 3) := by decide +kernel
theorem own_d_method_2_code_76 : decode method_2_code 76 = .ok (.aload_n 0, 1) := by decide +kernel
theorem own_d_method_2_code_77 : decode method_2_code 77 = .ok (.getstatic 22, 3) := by decide +kernel
theorem own_d_method_2_code_80 : decode method_2_code 80 = .ok (.if_acmp .ne 15, 3) := by decide +kernel
theorem own_d_method_2_code_83 : decode method_2_code 83 = .ok (.lload_n 1, 1) := by decide +kernel
theorem own_d_method_2_code_84 : decode method_2_code 84 = .ok (.lload_n 3, 1) := by decide +kernel
theorem own_d_method_2_code_85 : decode method_2_code 85 = .ok (.lcmp, 1) := by decide +kernel
theorem own_d_method_2_code_86 : decode method_2_code 86 = .ok (.ifCond .le 7, 3) := by decide +kernel
theorem own_d_method_2_code_93 : decode method_2_code 93 = .ok (.iconst 0, 1) := by decide +kernel
theorem own_d_method_2_code_94 : decode method_2_code 94 = .ok (.ireturn, 1) := by decide +kernel
theorem own_d_method_2_code_89 : decode method_2_code 89 = .ok (.iconst 1, 1) := by decide +kernel
theorem own_d_method_2_code_90 : decode method_2_code 90 = .ok (.goto 4, 3) := by decide +kernel
theorem own_d_method_2_code_95 : decode method_2_code 95 = .ok (.aload_n 0, 1) := by decide +kernel
theorem own_d_method_2_code_96 : decode method_2_code 96 = .ok (.getstatic 25, 3) := by decide +kernel
theorem own_d_method_2_code_99 : decode method_2_code 99 = .ok (.if_acmp .ne 15, 3) := by decide +kernel
theorem own_d_method_2_code_102 : decode method_2_code 102 = .ok (.lload_n 1, 1) := by decide +kernel
theorem own_d_method_2_code_103 : decode method_2_code 103 = .ok (.lload_n 3, 1) := by decide +kernel
theorem own_d_method_2_code_104 : decode method_2_code 104 = .ok (.lcmp, 1) := by decide +kernel
theorem own_d_method_2_code_105 : decode method_2_code 105 = .ok (.ifCond .lt 7, 3) := by decide +kernel
theorem own_d_method_2_code_112 : decode method_2_code 112 = .ok (.iconst 0, 1) := by decide +kernel
theorem own_d_method_2_code_113 : decode method_2_code 113 = .ok (.ireturn, 1) := by decide +kernel
theorem own_d_method_2_code_108 : decode method_2_code 108 = .ok (.iconst 1, 1) := by decide +kernel
theorem own_d_method_2_code_109 : decode method_2_code 109 = .ok (.goto 4, 3) := by decide +kernel
theorem own_pd___Lcom_example_schema_facade_schemafacade_statement_Condition_Comparison_Operator_ : parseMethodDescriptor "()Lcom/example/schema_facade/schemafacade/statement/Condition$Comparison$Operator;" = some ⟨[], some (.object "com/example/schema_facade/schemafacade/statement/Condition$Comparison$Operator")⟩ := by decide +kernel
theorem own_pd__Lcom_example_schema_facade_schemafacade_statement_Condition_Comparison_Operator_JJ_I : parseMethodDescriptor "(Lcom/example/schema_facade/schemafacade/statement/Condition$Comparison$Operator;JJ)I" = some ⟨[(.object "com/example/schema_facade/schemafacade/statement/Condition$Comparison$Operator"), .long, .long], some .int⟩ := by decide +kernel
set_option maxRecDepth 65536 in
set_option maxHeartbeats 40000000 in
theorem own_ordinal (l : Launch) (Z : State) (a0 : Array Value) (hw : ∀ d ∈ tables_1, d.before a0 Z = true) (a1 : Addr) (j : Int32) (h0 : Heap) (n0 : Nat) (F : Fld Z h0 a1 "java/lang/Enum" "ordinal" "I" (.int j)) :
    Ctr l Z (⟨"java/lang/Enum", "ordinal", "()I"⟩ : MethodName) jdk_37_method_2_code 1 (some .int) ({ frames := 0, cells := 0, slots := 0, locals := 0 } : Room) #[(.ref a1)] h0 n0 (fun v h => v = some (.int j) ∧ h = h0) := by
  refine Ctr.of (plainFor_of_name own_pn_Enum) ?_
  intro p e s m below meth c C
  refine Go.frame (g' := mkF m 0 #[.val (.ref a1)] []) (by first | (simp [entryFrame, mkF, argsToLocals, Value.category]; done) | rfl) ?_
  refine OwnW.aloadN C (pc' := 1) own_d_jdk_37_method_2_code_0 rfl rfl rfl ?_
  refine OwnW.getF C (pc' := 4) (host := "") (Or.inl (hw _ (List.mem_of_getElem? (i := 29) rfl))) Via.refl F own_d_jdk_37_method_2_code_1 rfl ?_
  exact OwnW.retI C rfl ⟨rfl, rfl⟩ (by decide) (by decide) own_d_jdk_37_method_2_code_4
set_option maxRecDepth 65536 in
set_option maxHeartbeats 40000000 in
theorem own_swapped_EQUALS (l : Launch) (Z : State) (a0 : Array Value) (hw : ∀ d ∈ tables_1, d.before a0 Z = true) (w_EQUALS : Addr) (h0 : Heap) (n0 : Nat) (F : Fld Z h0 w_EQUALS "java/lang/Enum" "ordinal" "I" (.int 0)) (X : Exa Z h0 w_EQUALS "com/example/schema_facade/schemafacade/statement/Condition$Comparison$Operator") :
    Ctr l Z (⟨"com/example/schema_facade/schemafacade/statement/Condition$Comparison$Operator", "swapped", "()Lcom/example/schema_facade/schemafacade/statement/Condition$Comparison$Operator;"⟩ : MethodName) prog_54_method_5_code 1 (some (.object "com/example/schema_facade/schemafacade/statement/Condition$Comparison$Operator")) ({ frames := 1, cells := 0, slots := 0, locals := 12 } : Room) #[(.ref w_EQUALS)] h0 n0 (fun v h => v = some (.ref w_EQUALS) ∧ h = h0) := by
  refine Ctr.of (plainFor_of_name own_pn_Condition_Comparison_Operator) ?_
  intro p e s m below meth c C
  refine Go.frame (g' := mkF m 0 #[.val (.ref w_EQUALS)] []) (by first | (simp [entryFrame, mkF, argsToLocals, Value.category]; done) | rfl) ?_
  refine OwnW.aloadN C (pc' := 1) own_d_prog_54_method_5_code_0 rfl rfl rfl ?_
  refine OwnW.callVU C (pc' := 4) (y := (⟨"com/example/schema_facade/schemafacade/statement/Condition$Comparison$Operator", "ordinal", "()I"⟩ : MethodName)) (z := (⟨"java/lang/Enum", "ordinal", "()I"⟩ : MethodName)) (W := 0) (argsL := []) (rest := []) (hw _ (List.mem_of_getElem? (i := 22) rfl)) (hw _ (List.mem_of_getElem? (i := 23) rfl)) (hw _ (List.mem_of_getElem? (i := 24) rfl)) (hw _ (List.mem_of_getElem? (i := 26) rfl)) (hw _ (List.mem_of_getElem? (i := 25) rfl)) (hw _ (List.mem_of_getElem? (i := 27) rfl)) (hw _ (List.mem_of_getElem? (i := 28) rfl)) X (by decide) (own_ordinal l Z a0 hw w_EQUALS 0 h0 n0 F) (K' := 0) (S' := 0) (by decide) (by decide) rfl own_pd___I rfl (Nat.le_of_eq rfl) rfl rfl (by decide) (by decide) rfl own_d_prog_54_method_5_code_1 rfl (fun v h' hq => ?_)
  obtain ⟨rfl, hh⟩ := hq
  refine Go.at (st' := [(.int (0 : Int32))]) rfl ?_
  refine Go.heap hh ?_
  refine OwnW.tswD C (pc' := 60) own_d_prog_54_method_5_code_4 (by decide) (by decide) rfl ?_
  refine OwnW.aloadN C (pc' := 61) own_d_prog_54_method_5_code_60 rfl rfl rfl ?_
  exact OwnW.retA C rfl rfl rfl ⟨rfl, rfl⟩ (by decide) (by decide) own_d_prog_54_method_5_code_61
set_option maxRecDepth 65536 in
set_option maxHeartbeats 40000000 in
theorem own_swapped_NOT_EQUALS (l : Launch) (Z : State) (a0 : Array Value) (hw : ∀ d ∈ tables_1, d.before a0 Z = true) (w_NOT_EQUALS : Addr) (h0 : Heap) (n0 : Nat) (F : Fld Z h0 w_NOT_EQUALS "java/lang/Enum" "ordinal" "I" (.int 1)) (X : Exa Z h0 w_NOT_EQUALS "com/example/schema_facade/schemafacade/statement/Condition$Comparison$Operator") :
    Ctr l Z (⟨"com/example/schema_facade/schemafacade/statement/Condition$Comparison$Operator", "swapped", "()Lcom/example/schema_facade/schemafacade/statement/Condition$Comparison$Operator;"⟩ : MethodName) prog_54_method_5_code 1 (some (.object "com/example/schema_facade/schemafacade/statement/Condition$Comparison$Operator")) ({ frames := 1, cells := 0, slots := 0, locals := 12 } : Room) #[(.ref w_NOT_EQUALS)] h0 n0 (fun v h => v = some (.ref w_NOT_EQUALS) ∧ h = h0) := by
  refine Ctr.of (plainFor_of_name own_pn_Condition_Comparison_Operator) ?_
  intro p e s m below meth c C
  refine Go.frame (g' := mkF m 0 #[.val (.ref w_NOT_EQUALS)] []) (by first | (simp [entryFrame, mkF, argsToLocals, Value.category]; done) | rfl) ?_
  refine OwnW.aloadN C (pc' := 1) own_d_prog_54_method_5_code_0 rfl rfl rfl ?_
  refine OwnW.callVU C (pc' := 4) (y := (⟨"com/example/schema_facade/schemafacade/statement/Condition$Comparison$Operator", "ordinal", "()I"⟩ : MethodName)) (z := (⟨"java/lang/Enum", "ordinal", "()I"⟩ : MethodName)) (W := 0) (argsL := []) (rest := []) (hw _ (List.mem_of_getElem? (i := 22) rfl)) (hw _ (List.mem_of_getElem? (i := 23) rfl)) (hw _ (List.mem_of_getElem? (i := 24) rfl)) (hw _ (List.mem_of_getElem? (i := 26) rfl)) (hw _ (List.mem_of_getElem? (i := 25) rfl)) (hw _ (List.mem_of_getElem? (i := 27) rfl)) (hw _ (List.mem_of_getElem? (i := 28) rfl)) X (by decide) (own_ordinal l Z a0 hw w_NOT_EQUALS 1 h0 n0 F) (K' := 0) (S' := 0) (by decide) (by decide) rfl own_pd___I rfl (Nat.le_of_eq rfl) rfl rfl (by decide) (by decide) rfl own_d_prog_54_method_5_code_1 rfl (fun v h' hq => ?_)
  obtain ⟨rfl, hh⟩ := hq
  refine Go.at (st' := [(.int (1 : Int32))]) rfl ?_
  refine Go.heap hh ?_
  refine OwnW.tswD C (pc' := 60) own_d_prog_54_method_5_code_4 (by decide) (by decide) rfl ?_
  refine OwnW.aloadN C (pc' := 61) own_d_prog_54_method_5_code_60 rfl rfl rfl ?_
  exact OwnW.retA C rfl rfl rfl ⟨rfl, rfl⟩ (by decide) (by decide) own_d_prog_54_method_5_code_61
set_option maxRecDepth 65536 in
set_option maxHeartbeats 40000000 in
theorem own_swapped_LESS (l : Launch) (Z : State) (a0 : Array Value) (hw : ∀ d ∈ tables_1, d.before a0 Z = true) (w_LESS w_GREATER : Addr) (h0 : Heap) (n0 : Nat) (F : Fld Z h0 w_LESS "java/lang/Enum" "ordinal" "I" (.int 2)) (X : Exa Z h0 w_LESS "com/example/schema_facade/schemafacade/statement/Condition$Comparison$Operator") (S_GREATER : Sta Z h0 "com/example/schema_facade/schemafacade/statement/Condition$Comparison$Operator" "GREATER" "Lcom/example/schema_facade/schemafacade/statement/Condition$Comparison$Operator;" (.ref w_GREATER)) :
    Ctr l Z (⟨"com/example/schema_facade/schemafacade/statement/Condition$Comparison$Operator", "swapped", "()Lcom/example/schema_facade/schemafacade/statement/Condition$Comparison$Operator;"⟩ : MethodName) prog_54_method_5_code 1 (some (.object "com/example/schema_facade/schemafacade/statement/Condition$Comparison$Operator")) ({ frames := 1, cells := 0, slots := 0, locals := 12 } : Room) #[(.ref w_LESS)] h0 n0 (fun v h => v = some (.ref w_GREATER) ∧ h = h0) := by
  refine Ctr.of (plainFor_of_name own_pn_Condition_Comparison_Operator) ?_
  intro p e s m below meth c C
  refine Go.frame (g' := mkF m 0 #[.val (.ref w_LESS)] []) (by first | (simp [entryFrame, mkF, argsToLocals, Value.category]; done) | rfl) ?_
  refine OwnW.aloadN C (pc' := 1) own_d_prog_54_method_5_code_0 rfl rfl rfl ?_
  refine OwnW.callVU C (pc' := 4) (y := (⟨"com/example/schema_facade/schemafacade/statement/Condition$Comparison$Operator", "ordinal", "()I"⟩ : MethodName)) (z := (⟨"java/lang/Enum", "ordinal", "()I"⟩ : MethodName)) (W := 0) (argsL := []) (rest := []) (hw _ (List.mem_of_getElem? (i := 22) rfl)) (hw _ (List.mem_of_getElem? (i := 23) rfl)) (hw _ (List.mem_of_getElem? (i := 24) rfl)) (hw _ (List.mem_of_getElem? (i := 26) rfl)) (hw _ (List.mem_of_getElem? (i := 25) rfl)) (hw _ (List.mem_of_getElem? (i := 27) rfl)) (hw _ (List.mem_of_getElem? (i := 28) rfl)) X (by decide) (own_ordinal l Z a0 hw w_LESS 2 h0 n0 F) (K' := 0) (S' := 0) (by decide) (by decide) rfl own_pd___I rfl (Nat.le_of_eq rfl) rfl rfl (by decide) (by decide) rfl own_d_prog_54_method_5_code_1 rfl (fun v h' hq => ?_)
  obtain ⟨rfl, hh⟩ := hq
  refine Go.at (st' := [(.int (2 : Int32))]) rfl ?_
  refine Go.heap hh ?_
  refine OwnW.tsw C (pc' := 36) (o := 32) own_d_prog_54_method_5_code_4 (by decide) rfl (by decide) rfl ?_
  refine OwnW.getS C (pc' := 39) (host := "") (Or.inl (hw _ (List.mem_of_getElem? (i := 37) rfl))) Via.refl S_GREATER own_d_prog_54_method_5_code_36 rfl ?_
  refine OwnW.goto C (pc' := 61) own_d_prog_54_method_5_code_39 (by decide) rfl ?_
  exact OwnW.retA C rfl rfl rfl ⟨rfl, rfl⟩ (by decide) (by decide) own_d_prog_54_method_5_code_61
set_option maxRecDepth 65536 in
set_option maxHeartbeats 40000000 in
theorem own_swapped_LESS_OR_EQUAL (l : Launch) (Z : State) (a0 : Array Value) (hw : ∀ d ∈ tables_1, d.before a0 Z = true) (w_LESS_OR_EQUAL w_GREATER_OR_EQUAL : Addr) (h0 : Heap) (n0 : Nat) (F : Fld Z h0 w_LESS_OR_EQUAL "java/lang/Enum" "ordinal" "I" (.int 3)) (X : Exa Z h0 w_LESS_OR_EQUAL "com/example/schema_facade/schemafacade/statement/Condition$Comparison$Operator") (S_GREATER_OR_EQUAL : Sta Z h0 "com/example/schema_facade/schemafacade/statement/Condition$Comparison$Operator" "GREATER_OR_EQUAL" "Lcom/example/schema_facade/schemafacade/statement/Condition$Comparison$Operator;" (.ref w_GREATER_OR_EQUAL)) :
    Ctr l Z (⟨"com/example/schema_facade/schemafacade/statement/Condition$Comparison$Operator", "swapped", "()Lcom/example/schema_facade/schemafacade/statement/Condition$Comparison$Operator;"⟩ : MethodName) prog_54_method_5_code 1 (some (.object "com/example/schema_facade/schemafacade/statement/Condition$Comparison$Operator")) ({ frames := 1, cells := 0, slots := 0, locals := 12 } : Room) #[(.ref w_LESS_OR_EQUAL)] h0 n0 (fun v h => v = some (.ref w_GREATER_OR_EQUAL) ∧ h = h0) := by
  refine Ctr.of (plainFor_of_name own_pn_Condition_Comparison_Operator) ?_
  intro p e s m below meth c C
  refine Go.frame (g' := mkF m 0 #[.val (.ref w_LESS_OR_EQUAL)] []) (by first | (simp [entryFrame, mkF, argsToLocals, Value.category]; done) | rfl) ?_
  refine OwnW.aloadN C (pc' := 1) own_d_prog_54_method_5_code_0 rfl rfl rfl ?_
  refine OwnW.callVU C (pc' := 4) (y := (⟨"com/example/schema_facade/schemafacade/statement/Condition$Comparison$Operator", "ordinal", "()I"⟩ : MethodName)) (z := (⟨"java/lang/Enum", "ordinal", "()I"⟩ : MethodName)) (W := 0) (argsL := []) (rest := []) (hw _ (List.mem_of_getElem? (i := 22) rfl)) (hw _ (List.mem_of_getElem? (i := 23) rfl)) (hw _ (List.mem_of_getElem? (i := 24) rfl)) (hw _ (List.mem_of_getElem? (i := 26) rfl)) (hw _ (List.mem_of_getElem? (i := 25) rfl)) (hw _ (List.mem_of_getElem? (i := 27) rfl)) (hw _ (List.mem_of_getElem? (i := 28) rfl)) X (by decide) (own_ordinal l Z a0 hw w_LESS_OR_EQUAL 3 h0 n0 F) (K' := 0) (S' := 0) (by decide) (by decide) rfl own_pd___I rfl (Nat.le_of_eq rfl) rfl rfl (by decide) (by decide) rfl own_d_prog_54_method_5_code_1 rfl (fun v h' hq => ?_)
  obtain ⟨rfl, hh⟩ := hq
  refine Go.at (st' := [(.int (3 : Int32))]) rfl ?_
  refine Go.heap hh ?_
  refine OwnW.tsw C (pc' := 42) (o := 38) own_d_prog_54_method_5_code_4 (by decide) rfl (by decide) rfl ?_
  refine OwnW.getS C (pc' := 45) (host := "") (Or.inl (hw _ (List.mem_of_getElem? (i := 36) rfl))) Via.refl S_GREATER_OR_EQUAL own_d_prog_54_method_5_code_42 rfl ?_
  refine OwnW.goto C (pc' := 61) own_d_prog_54_method_5_code_45 (by decide) rfl ?_
  exact OwnW.retA C rfl rfl rfl ⟨rfl, rfl⟩ (by decide) (by decide) own_d_prog_54_method_5_code_61
set_option maxRecDepth 65536 in
set_option maxHeartbeats 40000000 in
theorem own_swapped_GREATER (l : Launch) (Z : State) (a0 : Array Value) (hw : ∀ d ∈ tables_1, d.before a0 Z = true) (w_GREATER w_LESS : Addr) (h0 : Heap) (n0 : Nat) (F : Fld Z h0 w_GREATER "java/lang/Enum" "ordinal" "I" (.int 4)) (X : Exa Z h0 w_GREATER "com/example/schema_facade/schemafacade/statement/Condition$Comparison$Operator") (S_LESS : Sta Z h0 "com/example/schema_facade/schemafacade/statement/Condition$Comparison$Operator" "LESS" "Lcom/example/schema_facade/schemafacade/statement/Condition$Comparison$Operator;" (.ref w_LESS)) :
    Ctr l Z (⟨"com/example/schema_facade/schemafacade/statement/Condition$Comparison$Operator", "swapped", "()Lcom/example/schema_facade/schemafacade/statement/Condition$Comparison$Operator;"⟩ : MethodName) prog_54_method_5_code 1 (some (.object "com/example/schema_facade/schemafacade/statement/Condition$Comparison$Operator")) ({ frames := 1, cells := 0, slots := 0, locals := 12 } : Room) #[(.ref w_GREATER)] h0 n0 (fun v h => v = some (.ref w_LESS) ∧ h = h0) := by
  refine Ctr.of (plainFor_of_name own_pn_Condition_Comparison_Operator) ?_
  intro p e s m below meth c C
  refine Go.frame (g' := mkF m 0 #[.val (.ref w_GREATER)] []) (by first | (simp [entryFrame, mkF, argsToLocals, Value.category]; done) | rfl) ?_
  refine OwnW.aloadN C (pc' := 1) own_d_prog_54_method_5_code_0 rfl rfl rfl ?_
  refine OwnW.callVU C (pc' := 4) (y := (⟨"com/example/schema_facade/schemafacade/statement/Condition$Comparison$Operator", "ordinal", "()I"⟩ : MethodName)) (z := (⟨"java/lang/Enum", "ordinal", "()I"⟩ : MethodName)) (W := 0) (argsL := []) (rest := []) (hw _ (List.mem_of_getElem? (i := 22) rfl)) (hw _ (List.mem_of_getElem? (i := 23) rfl)) (hw _ (List.mem_of_getElem? (i := 24) rfl)) (hw _ (List.mem_of_getElem? (i := 26) rfl)) (hw _ (List.mem_of_getElem? (i := 25) rfl)) (hw _ (List.mem_of_getElem? (i := 27) rfl)) (hw _ (List.mem_of_getElem? (i := 28) rfl)) X (by decide) (own_ordinal l Z a0 hw w_GREATER 4 h0 n0 F) (K' := 0) (S' := 0) (by decide) (by decide) rfl own_pd___I rfl (Nat.le_of_eq rfl) rfl rfl (by decide) (by decide) rfl own_d_prog_54_method_5_code_1 rfl (fun v h' hq => ?_)
  obtain ⟨rfl, hh⟩ := hq
  refine Go.at (st' := [(.int (4 : Int32))]) rfl ?_
  refine Go.heap hh ?_
  refine OwnW.tsw C (pc' := 48) (o := 44) own_d_prog_54_method_5_code_4 (by decide) rfl (by decide) rfl ?_
  refine OwnW.getS C (pc' := 51) (host := "") (Or.inl (hw _ (List.mem_of_getElem? (i := 35) rfl))) Via.refl S_LESS own_d_prog_54_method_5_code_48 rfl ?_
  refine OwnW.goto C (pc' := 61) own_d_prog_54_method_5_code_51 (by decide) rfl ?_
  exact OwnW.retA C rfl rfl rfl ⟨rfl, rfl⟩ (by decide) (by decide) own_d_prog_54_method_5_code_61
set_option maxRecDepth 65536 in
set_option maxHeartbeats 40000000 in
theorem own_swapped_GREATER_OR_EQUAL (l : Launch) (Z : State) (a0 : Array Value) (hw : ∀ d ∈ tables_1, d.before a0 Z = true) (w_GREATER_OR_EQUAL w_LESS_OR_EQUAL : Addr) (h0 : Heap) (n0 : Nat) (F : Fld Z h0 w_GREATER_OR_EQUAL "java/lang/Enum" "ordinal" "I" (.int 5)) (X : Exa Z h0 w_GREATER_OR_EQUAL "com/example/schema_facade/schemafacade/statement/Condition$Comparison$Operator") (S_LESS_OR_EQUAL : Sta Z h0 "com/example/schema_facade/schemafacade/statement/Condition$Comparison$Operator" "LESS_OR_EQUAL" "Lcom/example/schema_facade/schemafacade/statement/Condition$Comparison$Operator;" (.ref w_LESS_OR_EQUAL)) :
    Ctr l Z (⟨"com/example/schema_facade/schemafacade/statement/Condition$Comparison$Operator", "swapped", "()Lcom/example/schema_facade/schemafacade/statement/Condition$Comparison$Operator;"⟩ : MethodName) prog_54_method_5_code 1 (some (.object "com/example/schema_facade/schemafacade/statement/Condition$Comparison$Operator")) ({ frames := 1, cells := 0, slots := 0, locals := 12 } : Room) #[(.ref w_GREATER_OR_EQUAL)] h0 n0 (fun v h => v = some (.ref w_LESS_OR_EQUAL) ∧ h = h0) := by
  refine Ctr.of (plainFor_of_name own_pn_Condition_Comparison_Operator) ?_
  intro p e s m below meth c C
  refine Go.frame (g' := mkF m 0 #[.val (.ref w_GREATER_OR_EQUAL)] []) (by first | (simp [entryFrame, mkF, argsToLocals, Value.category]; done) | rfl) ?_
  refine OwnW.aloadN C (pc' := 1) own_d_prog_54_method_5_code_0 rfl rfl rfl ?_
  refine OwnW.callVU C (pc' := 4) (y := (⟨"com/example/schema_facade/schemafacade/statement/Condition$Comparison$Operator", "ordinal", "()I"⟩ : MethodName)) (z := (⟨"java/lang/Enum", "ordinal", "()I"⟩ : MethodName)) (W := 0) (argsL := []) (rest := []) (hw _ (List.mem_of_getElem? (i := 22) rfl)) (hw _ (List.mem_of_getElem? (i := 23) rfl)) (hw _ (List.mem_of_getElem? (i := 24) rfl)) (hw _ (List.mem_of_getElem? (i := 26) rfl)) (hw _ (List.mem_of_getElem? (i := 25) rfl)) (hw _ (List.mem_of_getElem? (i := 27) rfl)) (hw _ (List.mem_of_getElem? (i := 28) rfl)) X (by decide) (own_ordinal l Z a0 hw w_GREATER_OR_EQUAL 5 h0 n0 F) (K' := 0) (S' := 0) (by decide) (by decide) rfl own_pd___I rfl (Nat.le_of_eq rfl) rfl rfl (by decide) (by decide) rfl own_d_prog_54_method_5_code_1 rfl (fun v h' hq => ?_)
  obtain ⟨rfl, hh⟩ := hq
  refine Go.at (st' := [(.int (5 : Int32))]) rfl ?_
  refine Go.heap hh ?_
  refine OwnW.tsw C (pc' := 54) (o := 50) own_d_prog_54_method_5_code_4 (by decide) rfl (by decide) rfl ?_
  refine OwnW.getS C (pc' := 57) (host := "") (Or.inl (hw _ (List.mem_of_getElem? (i := 38) rfl))) Via.refl S_LESS_OR_EQUAL own_d_prog_54_method_5_code_54 rfl ?_
  refine OwnW.goto C (pc' := 61) own_d_prog_54_method_5_code_57 (by decide) rfl ?_
  exact OwnW.retA C rfl rfl rfl ⟨rfl, rfl⟩ (by decide) (by decide) own_d_prog_54_method_5_code_61
set_option maxRecDepth 65536 in
set_option maxHeartbeats 40000000 in
theorem own_eval_EQUALS (l : Launch) (Z : State) (a0 : Array Value) (hw : ∀ d ∈ tables_1, d.before a0 Z = true) (w_EQUALS : Addr) (q1 q2 : Int64) (h0 : Heap) (n0 : Nat) (S_EQUALS : Sta Z h0 "com/example/schema_facade/schemafacade/statement/Condition$Comparison$Operator" "EQUALS" "Lcom/example/schema_facade/schemafacade/statement/Condition$Comparison$Operator;" (.ref w_EQUALS))  :
    Ctr l Z (⟨"com/example/schema_facade/schemafacade/statement/OperatorSwappedPinLaw", "eval", "(Lcom/example/schema_facade/schemafacade/statement/Condition$Comparison$Operator;JJ)I"⟩ : MethodName) method_2_code 5 (some .int) ({ frames := 0, cells := 0, slots := 0, locals := 0 } : Room) #[(.ref w_EQUALS), (.long q1), (.long q2)] h0 n0 (fun v h => v = some (.int (if lcmpW q1 q2 = 0 then (1 : Int32) else 0)) ∧ h = h0) := by
  refine Ctr.of (plainFor_of_name own_pn_OperatorSwappedPinLaw) ?_
  intro p e s m below meth c C
  refine Go.frame (g' := mkF m 0 #[.val (.ref w_EQUALS), .val (.long q1), .second, .val (.long q2), .second] []) (by first | (simp [entryFrame, mkF, argsToLocals, Value.category]; done) | rfl) ?_
  refine OwnW.aloadN C (pc' := 1) own_d_method_2_code_0 rfl rfl rfl ?_
  refine OwnW.getS C (pc' := 4) (host := "") (Or.inl (hw _ (List.mem_of_getElem? (i := 2) rfl))) Via.refl S_EQUALS own_d_method_2_code_1 rfl ?_
  refine OwnW.acNe C (pcY := 19) (pcN := 7) rfl rfl own_d_method_2_code_4 (by decide) rfl rfl (fun hc4 => absurd rfl hc4) (fun hc4 => ?_)
  refine OwnW.lloadN C (pc' := 8) own_d_method_2_code_7 rfl rfl ?_
  refine OwnW.lloadN C (pc' := 9) own_d_method_2_code_8 rfl rfl ?_
  refine OwnW.lcmp C (pc' := 10) own_d_method_2_code_9 rfl ?_
  refine OwnW.ifNe C (pcY := 17) (pcN := 13) own_d_method_2_code_10 (by decide) rfl rfl (fun hc10 => ?_) (fun hc10 => ?_)
  · refine OwnW.iconst C (pc' := 18) own_d_method_2_code_17 rfl (z := 0) rfl ?_
    exact OwnW.retI C rfl ⟨by rw [if_neg hc10], rfl⟩ (by decide) (by decide) own_d_method_2_code_18
  · refine OwnW.iconst C (pc' := 14) own_d_method_2_code_13 rfl (z := 1) rfl ?_
    refine OwnW.goto C (pc' := 18) own_d_method_2_code_14 (by decide) rfl ?_
    exact OwnW.retI C rfl ⟨by rw [if_pos hc10], rfl⟩ (by decide) (by decide) own_d_method_2_code_18
set_option maxRecDepth 65536 in
set_option maxHeartbeats 40000000 in
theorem own_eval_NOT_EQUALS (l : Launch) (Z : State) (a0 : Array Value) (hw : ∀ d ∈ tables_1, d.before a0 Z = true) (w_EQUALS w_NOT_EQUALS : Addr) (q1 q2 : Int64) (h0 : Heap) (n0 : Nat) (S_EQUALS : Sta Z h0 "com/example/schema_facade/schemafacade/statement/Condition$Comparison$Operator" "EQUALS" "Lcom/example/schema_facade/schemafacade/statement/Condition$Comparison$Operator;" (.ref w_EQUALS)) (S_NOT_EQUALS : Sta Z h0 "com/example/schema_facade/schemafacade/statement/Condition$Comparison$Operator" "NOT_EQUALS" "Lcom/example/schema_facade/schemafacade/statement/Condition$Comparison$Operator;" (.ref w_NOT_EQUALS)) (n_NOT_EQUALS_EQUALS : ¬ w_NOT_EQUALS = w_EQUALS) :
    Ctr l Z (⟨"com/example/schema_facade/schemafacade/statement/OperatorSwappedPinLaw", "eval", "(Lcom/example/schema_facade/schemafacade/statement/Condition$Comparison$Operator;JJ)I"⟩ : MethodName) method_2_code 5 (some .int) ({ frames := 0, cells := 0, slots := 0, locals := 0 } : Room) #[(.ref w_NOT_EQUALS), (.long q1), (.long q2)] h0 n0 (fun v h => v = some (.int (if lcmpW q1 q2 = 0 then (0 : Int32) else 1)) ∧ h = h0) := by
  refine Ctr.of (plainFor_of_name own_pn_OperatorSwappedPinLaw) ?_
  intro p e s m below meth c C
  refine Go.frame (g' := mkF m 0 #[.val (.ref w_NOT_EQUALS), .val (.long q1), .second, .val (.long q2), .second] []) (by first | (simp [entryFrame, mkF, argsToLocals, Value.category]; done) | rfl) ?_
  refine OwnW.aloadN C (pc' := 1) own_d_method_2_code_0 rfl rfl rfl ?_
  refine OwnW.getS C (pc' := 4) (host := "") (Or.inl (hw _ (List.mem_of_getElem? (i := 2) rfl))) Via.refl S_EQUALS own_d_method_2_code_1 rfl ?_
  refine OwnW.acNe C (pcY := 19) (pcN := 7) rfl rfl own_d_method_2_code_4 (by decide) rfl rfl (fun hc4 => ?_) (fun hc4 => absurd (Value.ref.inj hc4) n_NOT_EQUALS_EQUALS)
  refine OwnW.aloadN C (pc' := 20) own_d_method_2_code_19 rfl rfl rfl ?_
  refine OwnW.getS C (pc' := 23) (host := "") (Or.inl (hw _ (List.mem_of_getElem? (i := 6) rfl))) Via.refl S_NOT_EQUALS own_d_method_2_code_20 rfl ?_
  refine OwnW.acNe C (pcY := 38) (pcN := 26) rfl rfl own_d_method_2_code_23 (by decide) rfl rfl (fun hc23 => absurd rfl hc23) (fun hc23 => ?_)
  refine OwnW.lloadN C (pc' := 27) own_d_method_2_code_26 rfl rfl ?_
  refine OwnW.lloadN C (pc' := 28) own_d_method_2_code_27 rfl rfl ?_
  refine OwnW.lcmp C (pc' := 29) own_d_method_2_code_28 rfl ?_
  refine OwnW.ifEq C (pcY := 36) (pcN := 32) own_d_method_2_code_29 (by decide) rfl rfl (fun hc29 => ?_) (fun hc29 => ?_)
  · refine OwnW.iconst C (pc' := 37) own_d_method_2_code_36 rfl (z := 0) rfl ?_
    exact OwnW.retI C rfl ⟨by rw [if_pos hc29], rfl⟩ (by decide) (by decide) own_d_method_2_code_37
  · refine OwnW.iconst C (pc' := 33) own_d_method_2_code_32 rfl (z := 1) rfl ?_
    refine OwnW.goto C (pc' := 37) own_d_method_2_code_33 (by decide) rfl ?_
    exact OwnW.retI C rfl ⟨by rw [if_neg hc29], rfl⟩ (by decide) (by decide) own_d_method_2_code_37
set_option maxRecDepth 65536 in
set_option maxHeartbeats 40000000 in
theorem own_eval_LESS (l : Launch) (Z : State) (a0 : Array Value) (hw : ∀ d ∈ tables_1, d.before a0 Z = true) (w_EQUALS w_NOT_EQUALS w_LESS : Addr) (q1 q2 : Int64) (h0 : Heap) (n0 : Nat) (S_EQUALS : Sta Z h0 "com/example/schema_facade/schemafacade/statement/Condition$Comparison$Operator" "EQUALS" "Lcom/example/schema_facade/schemafacade/statement/Condition$Comparison$Operator;" (.ref w_EQUALS)) (S_NOT_EQUALS : Sta Z h0 "com/example/schema_facade/schemafacade/statement/Condition$Comparison$Operator" "NOT_EQUALS" "Lcom/example/schema_facade/schemafacade/statement/Condition$Comparison$Operator;" (.ref w_NOT_EQUALS)) (S_LESS : Sta Z h0 "com/example/schema_facade/schemafacade/statement/Condition$Comparison$Operator" "LESS" "Lcom/example/schema_facade/schemafacade/statement/Condition$Comparison$Operator;" (.ref w_LESS)) (n_LESS_EQUALS : ¬ w_LESS = w_EQUALS) (n_LESS_NOT_EQUALS : ¬ w_LESS = w_NOT_EQUALS) :
    Ctr l Z (⟨"com/example/schema_facade/schemafacade/statement/OperatorSwappedPinLaw", "eval", "(Lcom/example/schema_facade/schemafacade/statement/Condition$Comparison$Operator;JJ)I"⟩ : MethodName) method_2_code 5 (some .int) ({ frames := 0, cells := 0, slots := 0, locals := 0 } : Room) #[(.ref w_LESS), (.long q1), (.long q2)] h0 n0 (fun v h => v = some (.int (if lcmpW q1 q2 < 0 then (1 : Int32) else 0)) ∧ h = h0) := by
  refine Ctr.of (plainFor_of_name own_pn_OperatorSwappedPinLaw) ?_
  intro p e s m below meth c C
  refine Go.frame (g' := mkF m 0 #[.val (.ref w_LESS), .val (.long q1), .second, .val (.long q2), .second] []) (by first | (simp [entryFrame, mkF, argsToLocals, Value.category]; done) | rfl) ?_
  refine OwnW.aloadN C (pc' := 1) own_d_method_2_code_0 rfl rfl rfl ?_
  refine OwnW.getS C (pc' := 4) (host := "") (Or.inl (hw _ (List.mem_of_getElem? (i := 2) rfl))) Via.refl S_EQUALS own_d_method_2_code_1 rfl ?_
  refine OwnW.acNe C (pcY := 19) (pcN := 7) rfl rfl own_d_method_2_code_4 (by decide) rfl rfl (fun hc4 => ?_) (fun hc4 => absurd (Value.ref.inj hc4) n_LESS_EQUALS)
  refine OwnW.aloadN C (pc' := 20) own_d_method_2_code_19 rfl rfl rfl ?_
  refine OwnW.getS C (pc' := 23) (host := "") (Or.inl (hw _ (List.mem_of_getElem? (i := 6) rfl))) Via.refl S_NOT_EQUALS own_d_method_2_code_20 rfl ?_
  refine OwnW.acNe C (pcY := 38) (pcN := 26) rfl rfl own_d_method_2_code_23 (by decide) rfl rfl (fun hc23 => ?_) (fun hc23 => absurd (Value.ref.inj hc23) n_LESS_NOT_EQUALS)
  refine OwnW.aloadN C (pc' := 39) own_d_method_2_code_38 rfl rfl rfl ?_
  refine OwnW.getS C (pc' := 42) (host := "") (Or.inl (hw _ (List.mem_of_getElem? (i := 8) rfl))) Via.refl S_LESS own_d_method_2_code_39 rfl ?_
  refine OwnW.acNe C (pcY := 57) (pcN := 45) rfl rfl own_d_method_2_code_42 (by decide) rfl rfl (fun hc42 => absurd rfl hc42) (fun hc42 => ?_)
  refine OwnW.lloadN C (pc' := 46) own_d_method_2_code_45 rfl rfl ?_
  refine OwnW.lloadN C (pc' := 47) own_d_method_2_code_46 rfl rfl ?_
  refine OwnW.lcmp C (pc' := 48) own_d_method_2_code_47 rfl ?_
  refine OwnW.ifGe C (pcY := 55) (pcN := 51) own_d_method_2_code_48 (by decide) rfl rfl (fun hc48 => ?_) (fun hc48 => ?_)
  · refine OwnW.iconst C (pc' := 56) own_d_method_2_code_55 rfl (z := 0) rfl ?_
    exact OwnW.retI C rfl ⟨by rw [if_neg hc48], rfl⟩ (by decide) (by decide) own_d_method_2_code_56
  · refine OwnW.iconst C (pc' := 52) own_d_method_2_code_51 rfl (z := 1) rfl ?_
    refine OwnW.goto C (pc' := 56) own_d_method_2_code_52 (by decide) rfl ?_
    exact OwnW.retI C rfl ⟨by rw [if_pos hc48], rfl⟩ (by decide) (by decide) own_d_method_2_code_56
set_option maxRecDepth 65536 in
set_option maxHeartbeats 40000000 in
theorem own_eval_LESS_OR_EQUAL (l : Launch) (Z : State) (a0 : Array Value) (hw : ∀ d ∈ tables_1, d.before a0 Z = true) (w_EQUALS w_NOT_EQUALS w_LESS w_LESS_OR_EQUAL : Addr) (q1 q2 : Int64) (h0 : Heap) (n0 : Nat) (S_EQUALS : Sta Z h0 "com/example/schema_facade/schemafacade/statement/Condition$Comparison$Operator" "EQUALS" "Lcom/example/schema_facade/schemafacade/statement/Condition$Comparison$Operator;" (.ref w_EQUALS)) (S_NOT_EQUALS : Sta Z h0 "com/example/schema_facade/schemafacade/statement/Condition$Comparison$Operator" "NOT_EQUALS" "Lcom/example/schema_facade/schemafacade/statement/Condition$Comparison$Operator;" (.ref w_NOT_EQUALS)) (S_LESS : Sta Z h0 "com/example/schema_facade/schemafacade/statement/Condition$Comparison$Operator" "LESS" "Lcom/example/schema_facade/schemafacade/statement/Condition$Comparison$Operator;" (.ref w_LESS)) (S_LESS_OR_EQUAL : Sta Z h0 "com/example/schema_facade/schemafacade/statement/Condition$Comparison$Operator" "LESS_OR_EQUAL" "Lcom/example/schema_facade/schemafacade/statement/Condition$Comparison$Operator;" (.ref w_LESS_OR_EQUAL)) (n_LESS_OR_EQUAL_EQUALS : ¬ w_LESS_OR_EQUAL = w_EQUALS) (n_LESS_OR_EQUAL_NOT_EQUALS : ¬ w_LESS_OR_EQUAL = w_NOT_EQUALS) (n_LESS_OR_EQUAL_LESS : ¬ w_LESS_OR_EQUAL = w_LESS) :
    Ctr l Z (⟨"com/example/schema_facade/schemafacade/statement/OperatorSwappedPinLaw", "eval", "(Lcom/example/schema_facade/schemafacade/statement/Condition$Comparison$Operator;JJ)I"⟩ : MethodName) method_2_code 5 (some .int) ({ frames := 0, cells := 0, slots := 0, locals := 0 } : Room) #[(.ref w_LESS_OR_EQUAL), (.long q1), (.long q2)] h0 n0 (fun v h => v = some (.int (if 0 < lcmpW q1 q2 then (0 : Int32) else 1)) ∧ h = h0) := by
  refine Ctr.of (plainFor_of_name own_pn_OperatorSwappedPinLaw) ?_
  intro p e s m below meth c C
  refine Go.frame (g' := mkF m 0 #[.val (.ref w_LESS_OR_EQUAL), .val (.long q1), .second, .val (.long q2), .second] []) (by first | (simp [entryFrame, mkF, argsToLocals, Value.category]; done) | rfl) ?_
  refine OwnW.aloadN C (pc' := 1) own_d_method_2_code_0 rfl rfl rfl ?_
  refine OwnW.getS C (pc' := 4) (host := "") (Or.inl (hw _ (List.mem_of_getElem? (i := 2) rfl))) Via.refl S_EQUALS own_d_method_2_code_1 rfl ?_
  refine OwnW.acNe C (pcY := 19) (pcN := 7) rfl rfl own_d_method_2_code_4 (by decide) rfl rfl (fun hc4 => ?_) (fun hc4 => absurd (Value.ref.inj hc4) n_LESS_OR_EQUAL_EQUALS)
  refine OwnW.aloadN C (pc' := 20) own_d_method_2_code_19 rfl rfl rfl ?_
  refine OwnW.getS C (pc' := 23) (host := "") (Or.inl (hw _ (List.mem_of_getElem? (i := 6) rfl))) Via.refl S_NOT_EQUALS own_d_method_2_code_20 rfl ?_
  refine OwnW.acNe C (pcY := 38) (pcN := 26) rfl rfl own_d_method_2_code_23 (by decide) rfl rfl (fun hc23 => ?_) (fun hc23 => absurd (Value.ref.inj hc23) n_LESS_OR_EQUAL_NOT_EQUALS)
  refine OwnW.aloadN C (pc' := 39) own_d_method_2_code_38 rfl rfl rfl ?_
  refine OwnW.getS C (pc' := 42) (host := "") (Or.inl (hw _ (List.mem_of_getElem? (i := 8) rfl))) Via.refl S_LESS own_d_method_2_code_39 rfl ?_
  refine OwnW.acNe C (pcY := 57) (pcN := 45) rfl rfl own_d_method_2_code_42 (by decide) rfl rfl (fun hc42 => ?_) (fun hc42 => absurd (Value.ref.inj hc42) n_LESS_OR_EQUAL_LESS)
  refine OwnW.aloadN C (pc' := 58) own_d_method_2_code_57 rfl rfl rfl ?_
  refine OwnW.getS C (pc' := 61) (host := "") (Or.inl (hw _ (List.mem_of_getElem? (i := 10) rfl))) Via.refl S_LESS_OR_EQUAL own_d_method_2_code_58 rfl ?_
  refine OwnW.acNe C (pcY := 76) (pcN := 64) rfl rfl own_d_method_2_code_61 (by decide) rfl rfl (fun hc61 => absurd rfl hc61) (fun hc61 => ?_)
  refine OwnW.lloadN C (pc' := 65) own_d_method_2_code_64 rfl rfl ?_
  refine OwnW.lloadN C (pc' := 66) own_d_method_2_code_65 rfl rfl ?_
  refine OwnW.lcmp C (pc' := 67) own_d_method_2_code_66 rfl ?_
  refine OwnW.ifGt C (pcY := 74) (pcN := 70) own_d_method_2_code_67 (by decide) rfl rfl (fun hc67 => ?_) (fun hc67 => ?_)
  · refine OwnW.iconst C (pc' := 75) own_d_method_2_code_74 rfl (z := 0) rfl ?_
    exact OwnW.retI C rfl ⟨by rw [if_pos hc67], rfl⟩ (by decide) (by decide) own_d_method_2_code_75
  · refine OwnW.iconst C (pc' := 71) own_d_method_2_code_70 rfl (z := 1) rfl ?_
    refine OwnW.goto C (pc' := 75) own_d_method_2_code_71 (by decide) rfl ?_
    exact OwnW.retI C rfl ⟨by rw [if_neg hc67], rfl⟩ (by decide) (by decide) own_d_method_2_code_75
set_option maxRecDepth 65536 in
set_option maxHeartbeats 40000000 in
theorem own_eval_GREATER (l : Launch) (Z : State) (a0 : Array Value) (hw : ∀ d ∈ tables_1, d.before a0 Z = true) (w_EQUALS w_NOT_EQUALS w_LESS w_LESS_OR_EQUAL w_GREATER : Addr) (q1 q2 : Int64) (h0 : Heap) (n0 : Nat) (S_EQUALS : Sta Z h0 "com/example/schema_facade/schemafacade/statement/Condition$Comparison$Operator" "EQUALS" "Lcom/example/schema_facade/schemafacade/statement/Condition$Comparison$Operator;" (.ref w_EQUALS)) (S_NOT_EQUALS : Sta Z h0 "com/example/schema_facade/schemafacade/statement/Condition$Comparison$Operator" "NOT_EQUALS" "Lcom/example/schema_facade/schemafacade/statement/Condition$Comparison$Operator;" (.ref w_NOT_EQUALS)) (S_LESS : Sta Z h0 "com/example/schema_facade/schemafacade/statement/Condition$Comparison$Operator" "LESS" "Lcom/example/schema_facade/schemafacade/statement/Condition$Comparison$Operator;" (.ref w_LESS)) (S_LESS_OR_EQUAL : Sta Z h0 "com/example/schema_facade/schemafacade/statement/Condition$Comparison$Operator" "LESS_OR_EQUAL" "Lcom/example/schema_facade/schemafacade/statement/Condition$Comparison$Operator;" (.ref w_LESS_OR_EQUAL)) (S_GREATER : Sta Z h0 "com/example/schema_facade/schemafacade/statement/Condition$Comparison$Operator" "GREATER" "Lcom/example/schema_facade/schemafacade/statement/Condition$Comparison$Operator;" (.ref w_GREATER)) (n_GREATER_EQUALS : ¬ w_GREATER = w_EQUALS) (n_GREATER_NOT_EQUALS : ¬ w_GREATER = w_NOT_EQUALS) (n_GREATER_LESS : ¬ w_GREATER = w_LESS) (n_GREATER_LESS_OR_EQUAL : ¬ w_GREATER = w_LESS_OR_EQUAL) :
    Ctr l Z (⟨"com/example/schema_facade/schemafacade/statement/OperatorSwappedPinLaw", "eval", "(Lcom/example/schema_facade/schemafacade/statement/Condition$Comparison$Operator;JJ)I"⟩ : MethodName) method_2_code 5 (some .int) ({ frames := 0, cells := 0, slots := 0, locals := 0 } : Room) #[(.ref w_GREATER), (.long q1), (.long q2)] h0 n0 (fun v h => v = some (.int (if 0 < lcmpW q1 q2 then (1 : Int32) else 0)) ∧ h = h0) := by
  refine Ctr.of (plainFor_of_name own_pn_OperatorSwappedPinLaw) ?_
  intro p e s m below meth c C
  refine Go.frame (g' := mkF m 0 #[.val (.ref w_GREATER), .val (.long q1), .second, .val (.long q2), .second] []) (by first | (simp [entryFrame, mkF, argsToLocals, Value.category]; done) | rfl) ?_
  refine OwnW.aloadN C (pc' := 1) own_d_method_2_code_0 rfl rfl rfl ?_
  refine OwnW.getS C (pc' := 4) (host := "") (Or.inl (hw _ (List.mem_of_getElem? (i := 2) rfl))) Via.refl S_EQUALS own_d_method_2_code_1 rfl ?_
  refine OwnW.acNe C (pcY := 19) (pcN := 7) rfl rfl own_d_method_2_code_4 (by decide) rfl rfl (fun hc4 => ?_) (fun hc4 => absurd (Value.ref.inj hc4) n_GREATER_EQUALS)
  refine OwnW.aloadN C (pc' := 20) own_d_method_2_code_19 rfl rfl rfl ?_
  refine OwnW.getS C (pc' := 23) (host := "") (Or.inl (hw _ (List.mem_of_getElem? (i := 6) rfl))) Via.refl S_NOT_EQUALS own_d_method_2_code_20 rfl ?_
  refine OwnW.acNe C (pcY := 38) (pcN := 26) rfl rfl own_d_method_2_code_23 (by decide) rfl rfl (fun hc23 => ?_) (fun hc23 => absurd (Value.ref.inj hc23) n_GREATER_NOT_EQUALS)
  refine OwnW.aloadN C (pc' := 39) own_d_method_2_code_38 rfl rfl rfl ?_
  refine OwnW.getS C (pc' := 42) (host := "") (Or.inl (hw _ (List.mem_of_getElem? (i := 8) rfl))) Via.refl S_LESS own_d_method_2_code_39 rfl ?_
  refine OwnW.acNe C (pcY := 57) (pcN := 45) rfl rfl own_d_method_2_code_42 (by decide) rfl rfl (fun hc42 => ?_) (fun hc42 => absurd (Value.ref.inj hc42) n_GREATER_LESS)
  refine OwnW.aloadN C (pc' := 58) own_d_method_2_code_57 rfl rfl rfl ?_
  refine OwnW.getS C (pc' := 61) (host := "") (Or.inl (hw _ (List.mem_of_getElem? (i := 10) rfl))) Via.refl S_LESS_OR_EQUAL own_d_method_2_code_58 rfl ?_
  refine OwnW.acNe C (pcY := 76) (pcN := 64) rfl rfl own_d_method_2_code_61 (by decide) rfl rfl (fun hc61 => ?_) (fun hc61 => absurd (Value.ref.inj hc61) n_GREATER_LESS_OR_EQUAL)
  refine OwnW.aloadN C (pc' := 77) own_d_method_2_code_76 rfl rfl rfl ?_
  refine OwnW.getS C (pc' := 80) (host := "") (Or.inl (hw _ (List.mem_of_getElem? (i := 12) rfl))) Via.refl S_GREATER own_d_method_2_code_77 rfl ?_
  refine OwnW.acNe C (pcY := 95) (pcN := 83) rfl rfl own_d_method_2_code_80 (by decide) rfl rfl (fun hc80 => absurd rfl hc80) (fun hc80 => ?_)
  refine OwnW.lloadN C (pc' := 84) own_d_method_2_code_83 rfl rfl ?_
  refine OwnW.lloadN C (pc' := 85) own_d_method_2_code_84 rfl rfl ?_
  refine OwnW.lcmp C (pc' := 86) own_d_method_2_code_85 rfl ?_
  refine OwnW.ifLe C (pcY := 93) (pcN := 89) own_d_method_2_code_86 (by decide) rfl rfl (fun hc86 => ?_) (fun hc86 => ?_)
  · refine OwnW.iconst C (pc' := 94) own_d_method_2_code_93 rfl (z := 0) rfl ?_
    exact OwnW.retI C rfl ⟨by rw [if_neg hc86], rfl⟩ (by decide) (by decide) own_d_method_2_code_94
  · refine OwnW.iconst C (pc' := 90) own_d_method_2_code_89 rfl (z := 1) rfl ?_
    refine OwnW.goto C (pc' := 94) own_d_method_2_code_90 (by decide) rfl ?_
    exact OwnW.retI C rfl ⟨by rw [if_pos hc86], rfl⟩ (by decide) (by decide) own_d_method_2_code_94
set_option maxRecDepth 65536 in
set_option maxHeartbeats 40000000 in
theorem own_eval_GREATER_OR_EQUAL (l : Launch) (Z : State) (a0 : Array Value) (hw : ∀ d ∈ tables_1, d.before a0 Z = true) (w_EQUALS w_NOT_EQUALS w_LESS w_LESS_OR_EQUAL w_GREATER w_GREATER_OR_EQUAL : Addr) (q1 q2 : Int64) (h0 : Heap) (n0 : Nat) (S_EQUALS : Sta Z h0 "com/example/schema_facade/schemafacade/statement/Condition$Comparison$Operator" "EQUALS" "Lcom/example/schema_facade/schemafacade/statement/Condition$Comparison$Operator;" (.ref w_EQUALS)) (S_NOT_EQUALS : Sta Z h0 "com/example/schema_facade/schemafacade/statement/Condition$Comparison$Operator" "NOT_EQUALS" "Lcom/example/schema_facade/schemafacade/statement/Condition$Comparison$Operator;" (.ref w_NOT_EQUALS)) (S_LESS : Sta Z h0 "com/example/schema_facade/schemafacade/statement/Condition$Comparison$Operator" "LESS" "Lcom/example/schema_facade/schemafacade/statement/Condition$Comparison$Operator;" (.ref w_LESS)) (S_LESS_OR_EQUAL : Sta Z h0 "com/example/schema_facade/schemafacade/statement/Condition$Comparison$Operator" "LESS_OR_EQUAL" "Lcom/example/schema_facade/schemafacade/statement/Condition$Comparison$Operator;" (.ref w_LESS_OR_EQUAL)) (S_GREATER : Sta Z h0 "com/example/schema_facade/schemafacade/statement/Condition$Comparison$Operator" "GREATER" "Lcom/example/schema_facade/schemafacade/statement/Condition$Comparison$Operator;" (.ref w_GREATER)) (S_GREATER_OR_EQUAL : Sta Z h0 "com/example/schema_facade/schemafacade/statement/Condition$Comparison$Operator" "GREATER_OR_EQUAL" "Lcom/example/schema_facade/schemafacade/statement/Condition$Comparison$Operator;" (.ref w_GREATER_OR_EQUAL)) (n_GREATER_OR_EQUAL_EQUALS : ¬ w_GREATER_OR_EQUAL = w_EQUALS) (n_GREATER_OR_EQUAL_NOT_EQUALS : ¬ w_GREATER_OR_EQUAL = w_NOT_EQUALS) (n_GREATER_OR_EQUAL_LESS : ¬ w_GREATER_OR_EQUAL = w_LESS) (n_GREATER_OR_EQUAL_LESS_OR_EQUAL : ¬ w_GREATER_OR_EQUAL = w_LESS_OR_EQUAL) (n_GREATER_OR_EQUAL_GREATER : ¬ w_GREATER_OR_EQUAL = w_GREATER) :
    Ctr l Z (⟨"com/example/schema_facade/schemafacade/statement/OperatorSwappedPinLaw", "eval", "(Lcom/example/schema_facade/schemafacade/statement/Condition$Comparison$Operator;JJ)I"⟩ : MethodName) method_2_code 5 (some .int) ({ frames := 0, cells := 0, slots := 0, locals := 0 } : Room) #[(.ref w_GREATER_OR_EQUAL), (.long q1), (.long q2)] h0 n0 (fun v h => v = some (.int (if lcmpW q1 q2 < 0 then (0 : Int32) else 1)) ∧ h = h0) := by
  refine Ctr.of (plainFor_of_name own_pn_OperatorSwappedPinLaw) ?_
  intro p e s m below meth c C
  refine Go.frame (g' := mkF m 0 #[.val (.ref w_GREATER_OR_EQUAL), .val (.long q1), .second, .val (.long q2), .second] []) (by first | (simp [entryFrame, mkF, argsToLocals, Value.category]; done) | rfl) ?_
  refine OwnW.aloadN C (pc' := 1) own_d_method_2_code_0 rfl rfl rfl ?_
  refine OwnW.getS C (pc' := 4) (host := "") (Or.inl (hw _ (List.mem_of_getElem? (i := 2) rfl))) Via.refl S_EQUALS own_d_method_2_code_1 rfl ?_
  refine OwnW.acNe C (pcY := 19) (pcN := 7) rfl rfl own_d_method_2_code_4 (by decide) rfl rfl (fun hc4 => ?_) (fun hc4 => absurd (Value.ref.inj hc4) n_GREATER_OR_EQUAL_EQUALS)
  refine OwnW.aloadN C (pc' := 20) own_d_method_2_code_19 rfl rfl rfl ?_
  refine OwnW.getS C (pc' := 23) (host := "") (Or.inl (hw _ (List.mem_of_getElem? (i := 6) rfl))) Via.refl S_NOT_EQUALS own_d_method_2_code_20 rfl ?_
  refine OwnW.acNe C (pcY := 38) (pcN := 26) rfl rfl own_d_method_2_code_23 (by decide) rfl rfl (fun hc23 => ?_) (fun hc23 => absurd (Value.ref.inj hc23) n_GREATER_OR_EQUAL_NOT_EQUALS)
  refine OwnW.aloadN C (pc' := 39) own_d_method_2_code_38 rfl rfl rfl ?_
  refine OwnW.getS C (pc' := 42) (host := "") (Or.inl (hw _ (List.mem_of_getElem? (i := 8) rfl))) Via.refl S_LESS own_d_method_2_code_39 rfl ?_
  refine OwnW.acNe C (pcY := 57) (pcN := 45) rfl rfl own_d_method_2_code_42 (by decide) rfl rfl (fun hc42 => ?_) (fun hc42 => absurd (Value.ref.inj hc42) n_GREATER_OR_EQUAL_LESS)
  refine OwnW.aloadN C (pc' := 58) own_d_method_2_code_57 rfl rfl rfl ?_
  refine OwnW.getS C (pc' := 61) (host := "") (Or.inl (hw _ (List.mem_of_getElem? (i := 10) rfl))) Via.refl S_LESS_OR_EQUAL own_d_method_2_code_58 rfl ?_
  refine OwnW.acNe C (pcY := 76) (pcN := 64) rfl rfl own_d_method_2_code_61 (by decide) rfl rfl (fun hc61 => ?_) (fun hc61 => absurd (Value.ref.inj hc61) n_GREATER_OR_EQUAL_LESS_OR_EQUAL)
  refine OwnW.aloadN C (pc' := 77) own_d_method_2_code_76 rfl rfl rfl ?_
  refine OwnW.getS C (pc' := 80) (host := "") (Or.inl (hw _ (List.mem_of_getElem? (i := 12) rfl))) Via.refl S_GREATER own_d_method_2_code_77 rfl ?_
  refine OwnW.acNe C (pcY := 95) (pcN := 83) rfl rfl own_d_method_2_code_80 (by decide) rfl rfl (fun hc80 => ?_) (fun hc80 => absurd (Value.ref.inj hc80) n_GREATER_OR_EQUAL_GREATER)
  refine OwnW.aloadN C (pc' := 96) own_d_method_2_code_95 rfl rfl rfl ?_
  refine OwnW.getS C (pc' := 99) (host := "") (Or.inl (hw _ (List.mem_of_getElem? (i := 14) rfl))) Via.refl S_GREATER_OR_EQUAL own_d_method_2_code_96 rfl ?_
  refine OwnW.acNe C (pcY := 114) (pcN := 102) rfl rfl own_d_method_2_code_99 (by decide) rfl rfl (fun hc99 => absurd rfl hc99) (fun hc99 => ?_)
  refine OwnW.lloadN C (pc' := 103) own_d_method_2_code_102 rfl rfl ?_
  refine OwnW.lloadN C (pc' := 104) own_d_method_2_code_103 rfl rfl ?_
  refine OwnW.lcmp C (pc' := 105) own_d_method_2_code_104 rfl ?_
  refine OwnW.ifLt C (pcY := 112) (pcN := 108) own_d_method_2_code_105 (by decide) rfl rfl (fun hc105 => ?_) (fun hc105 => ?_)
  · refine OwnW.iconst C (pc' := 113) own_d_method_2_code_112 rfl (z := 0) rfl ?_
    exact OwnW.retI C rfl ⟨by rw [if_pos hc105], rfl⟩ (by decide) (by decide) own_d_method_2_code_113
  · refine OwnW.iconst C (pc' := 109) own_d_method_2_code_108 rfl (z := 1) rfl ?_
    refine OwnW.goto C (pc' := 113) own_d_method_2_code_109 (by decide) rfl ?_
    exact OwnW.retI C rfl ⟨by rw [if_neg hc105], rfl⟩ (by decide) (by decide) own_d_method_2_code_113
theorem own_sw_EQUALS (a b : Int64) : (if lcmpW b a = 0 then (1 : Int32) else 0) = (if lcmpW a b = 0 then (1 : Int32) else 0) := by
  have h : lcmpW b a = 0 ↔ lcmpW a b = 0 := by rw [lw_eq, lw_eq]; exact eq_comm
  simp only [h]
theorem own_nn_EQUALS (a b : Int64) : ¬ (if lcmpW a b = 0 then (1 : Int32) else 0) < 0 := by
  split <;> decide
theorem own_sw_NOT_EQUALS (a b : Int64) : (if lcmpW b a = 0 then (0 : Int32) else 1) = (if lcmpW a b = 0 then (0 : Int32) else 1) := by
  have h : lcmpW b a = 0 ↔ lcmpW a b = 0 := by rw [lw_eq, lw_eq]; exact eq_comm
  simp only [h]
theorem own_nn_NOT_EQUALS (a b : Int64) : ¬ (if lcmpW a b = 0 then (0 : Int32) else 1) < 0 := by
  split <;> decide
theorem own_sw_LESS (a b : Int64) : (if 0 < lcmpW b a then (1 : Int32) else 0) = (if lcmpW a b < 0 then (1 : Int32) else 0) := by
  simp only [lw_eq, lw_lt, lw_gt]
theorem own_nn_LESS (a b : Int64) : ¬ (if lcmpW a b < 0 then (1 : Int32) else 0) < 0 := by
  split <;> decide
theorem own_sw_LESS_OR_EQUAL (a b : Int64) : (if lcmpW b a < 0 then (0 : Int32) else 1) = (if 0 < lcmpW a b then (0 : Int32) else 1) := by
  simp only [lw_eq, lw_lt, lw_gt]
theorem own_nn_LESS_OR_EQUAL (a b : Int64) : ¬ (if 0 < lcmpW a b then (0 : Int32) else 1) < 0 := by
  split <;> decide
theorem own_sw_GREATER (a b : Int64) : (if lcmpW b a < 0 then (1 : Int32) else 0) = (if 0 < lcmpW a b then (1 : Int32) else 0) := by
  simp only [lw_eq, lw_lt, lw_gt]
theorem own_nn_GREATER (a b : Int64) : ¬ (if 0 < lcmpW a b then (1 : Int32) else 0) < 0 := by
  split <;> decide
theorem own_sw_GREATER_OR_EQUAL (a b : Int64) : (if 0 < lcmpW b a then (0 : Int32) else 1) = (if lcmpW a b < 0 then (0 : Int32) else 1) := by
  simp only [lw_eq, lw_lt, lw_gt]
theorem own_nn_GREATER_OR_EQUAL (a b : Int64) : ¬ (if lcmpW a b < 0 then (0 : Int32) else 1) < 0 := by
  split <;> decide
theorem own_c6 (i0 : Int32) : ((i0 &&& (2147483647 : Int32)) % (6 : Int32)) = 0 ∨ ((i0 &&& (2147483647 : Int32)) % (6 : Int32)) = 1 ∨ ((i0 &&& (2147483647 : Int32)) % (6 : Int32)) = 2 ∨ ((i0 &&& (2147483647 : Int32)) % (6 : Int32)) = 3 ∨ ((i0 &&& (2147483647 : Int32)) % (6 : Int32)) = 4 ∨ ((i0 &&& (2147483647 : Int32)) % (6 : Int32)) = 5 := by
  have h1 := c_and i0 2147483647 (by decide)
  have h2 := (c_irem (i0 &&& 2147483647) 6 6 (by decide)).1 h1.1
  have : (((i0 &&& (2147483647 : Int32)) % (6 : Int32))).toInt = 0 ∨ (((i0 &&& (2147483647 : Int32)) % (6 : Int32))).toInt = 1 ∨ (((i0 &&& (2147483647 : Int32)) % (6 : Int32))).toInt = 2 ∨ (((i0 &&& (2147483647 : Int32)) % (6 : Int32))).toInt = 3 ∨ (((i0 &&& (2147483647 : Int32)) % (6 : Int32))).toInt = 4 ∨ (((i0 &&& (2147483647 : Int32)) % (6 : Int32))).toInt = 5 := by omega
  rcases this with q | q | q | q | q | q
  · exact Or.inl (Int32.toInt_inj.mp q)
  · exact Or.inr (Or.inl (Int32.toInt_inj.mp q))
  · exact Or.inr (Or.inr (Or.inl (Int32.toInt_inj.mp q)))
  · exact Or.inr (Or.inr (Or.inr (Or.inl (Int32.toInt_inj.mp q))))
  · exact Or.inr (Or.inr (Or.inr (Or.inr (Or.inl (Int32.toInt_inj.mp q)))))
  · exact Or.inr (Or.inr (Or.inr (Or.inr (Or.inr ((Int32.toInt_inj.mp q))))))
set_option maxRecDepth 65536 in
set_option maxHeartbeats 40000000 in
theorem own_law (l : Launch) (Z : State) (a0 : Array Value) (hw : ∀ d ∈ tables_1, d.before a0 Z = true) (i0 : Int32) (i1 i2 : Int64) (w_EQUALS w_NOT_EQUALS w_LESS w_LESS_OR_EQUAL w_GREATER w_GREATER_OR_EQUAL : Addr) (h0 : Heap) (n0 : Nat) (O : Old Z n0 h0) (Sz : n0 ≤ h0.size) (S_EQUALS : Sta Z Z.heap "com/example/schema_facade/schemafacade/statement/Condition$Comparison$Operator" "EQUALS" "Lcom/example/schema_facade/schemafacade/statement/Condition$Comparison$Operator;" (.ref w_EQUALS)) (X_EQUALS : Exa Z Z.heap w_EQUALS "com/example/schema_facade/schemafacade/statement/Condition$Comparison$Operator") (F_EQUALS : Fld Z Z.heap w_EQUALS "java/lang/Enum" "ordinal" "I" (.int 0)) (S_NOT_EQUALS : Sta Z Z.heap "com/example/schema_facade/schemafacade/statement/Condition$Comparison$Operator" "NOT_EQUALS" "Lcom/example/schema_facade/schemafacade/statement/Condition$Comparison$Operator;" (.ref w_NOT_EQUALS)) (X_NOT_EQUALS : Exa Z Z.heap w_NOT_EQUALS "com/example/schema_facade/schemafacade/statement/Condition$Comparison$Operator") (F_NOT_EQUALS : Fld Z Z.heap w_NOT_EQUALS "java/lang/Enum" "ordinal" "I" (.int 1)) (S_LESS : Sta Z Z.heap "com/example/schema_facade/schemafacade/statement/Condition$Comparison$Operator" "LESS" "Lcom/example/schema_facade/schemafacade/statement/Condition$Comparison$Operator;" (.ref w_LESS)) (X_LESS : Exa Z Z.heap w_LESS "com/example/schema_facade/schemafacade/statement/Condition$Comparison$Operator") (F_LESS : Fld Z Z.heap w_LESS "java/lang/Enum" "ordinal" "I" (.int 2)) (S_LESS_OR_EQUAL : Sta Z Z.heap "com/example/schema_facade/schemafacade/statement/Condition$Comparison$Operator" "LESS_OR_EQUAL" "Lcom/example/schema_facade/schemafacade/statement/Condition$Comparison$Operator;" (.ref w_LESS_OR_EQUAL)) (X_LESS_OR_EQUAL : Exa Z Z.heap w_LESS_OR_EQUAL "com/example/schema_facade/schemafacade/statement/Condition$Comparison$Operator") (F_LESS_OR_EQUAL : Fld Z Z.heap w_LESS_OR_EQUAL "java/lang/Enum" "ordinal" "I" (.int 3)) (S_GREATER : Sta Z Z.heap "com/example/schema_facade/schemafacade/statement/Condition$Comparison$Operator" "GREATER" "Lcom/example/schema_facade/schemafacade/statement/Condition$Comparison$Operator;" (.ref w_GREATER)) (X_GREATER : Exa Z Z.heap w_GREATER "com/example/schema_facade/schemafacade/statement/Condition$Comparison$Operator") (F_GREATER : Fld Z Z.heap w_GREATER "java/lang/Enum" "ordinal" "I" (.int 4)) (S_GREATER_OR_EQUAL : Sta Z Z.heap "com/example/schema_facade/schemafacade/statement/Condition$Comparison$Operator" "GREATER_OR_EQUAL" "Lcom/example/schema_facade/schemafacade/statement/Condition$Comparison$Operator;" (.ref w_GREATER_OR_EQUAL)) (X_GREATER_OR_EQUAL : Exa Z Z.heap w_GREATER_OR_EQUAL "com/example/schema_facade/schemafacade/statement/Condition$Comparison$Operator") (F_GREATER_OR_EQUAL : Fld Z Z.heap w_GREATER_OR_EQUAL "java/lang/Enum" "ordinal" "I" (.int 5)) (n_NOT_EQUALS_EQUALS : ¬ w_NOT_EQUALS = w_EQUALS) (n_LESS_EQUALS : ¬ w_LESS = w_EQUALS) (n_LESS_NOT_EQUALS : ¬ w_LESS = w_NOT_EQUALS) (n_LESS_OR_EQUAL_EQUALS : ¬ w_LESS_OR_EQUAL = w_EQUALS) (n_LESS_OR_EQUAL_NOT_EQUALS : ¬ w_LESS_OR_EQUAL = w_NOT_EQUALS) (n_LESS_OR_EQUAL_LESS : ¬ w_LESS_OR_EQUAL = w_LESS) (n_GREATER_EQUALS : ¬ w_GREATER = w_EQUALS) (n_GREATER_NOT_EQUALS : ¬ w_GREATER = w_NOT_EQUALS) (n_GREATER_LESS : ¬ w_GREATER = w_LESS) (n_GREATER_LESS_OR_EQUAL : ¬ w_GREATER = w_LESS_OR_EQUAL) (n_GREATER_OR_EQUAL_EQUALS : ¬ w_GREATER_OR_EQUAL = w_EQUALS) (n_GREATER_OR_EQUAL_NOT_EQUALS : ¬ w_GREATER_OR_EQUAL = w_NOT_EQUALS) (n_GREATER_OR_EQUAL_LESS : ¬ w_GREATER_OR_EQUAL = w_LESS) (n_GREATER_OR_EQUAL_LESS_OR_EQUAL : ¬ w_GREATER_OR_EQUAL = w_LESS_OR_EQUAL) (n_GREATER_OR_EQUAL_GREATER : ¬ w_GREATER_OR_EQUAL = w_GREATER) :
    Ctr l Z x code maxLocals ret room_1 #[(.int i0), (.long i1), (.long i2)] h0 n0 (fun v _ => v = some (.int 1)) := by
  refine Ctr.of (plainFor_of_name own_pn_OperatorSwappedPinLaw) ?_
  intro p e s m below meth c C
  refine Go.frame (g' := mkF m 0 #[.val (.int i0), .val (.long i1), .second, .val (.long i2), .second, .unset, .unset, .unset, .unset, .unset] []) (by first | (simp [entryFrame, mkF, argsToLocals, Value.category, maxLocals]; done) | rfl) ?_
  refine OwnW.bipush C (pc' := 2) at_0 rfl (z := 6) rfl ?_
  refine OwnW.newR C (pc' := 5) (K' := 1) (S' := 6) (ad := "[Lcom/example/schema_facade/schemafacade/statement/Condition$Comparison$Operator;") (by decide +kernel) (hw _ (List.mem_of_getElem? (i := 0) rfl)) (hw _ (List.mem_of_getElem? (i := 1) rfl)) (cap := 6) (by decide) (by decide) (by decide) at_2 rfl rfl rfl (by decide) (by decide) (fun h1 b1 cA_b1 g1 E1 V_b1 X_b1 O_b1 => ?_)
  have g_b1 : n0 ≤ b1 := Nat.le_trans Sz (Nat.le_of_eq g1.symm)
  have O := O.ext E1
  have Sz := Nat.le_trans Sz E1.1
  have V_b1 : Arv Z h1 b1 cA_b1 (.object "com/example/schema_facade/schemafacade/statement/Condition$Comparison$Operator") (6 : Int32) [.null, .null, .null, .null, .null, .null] .null := V_b1.pad (pad_rep [] .null 6)
  refine OwnW.dup C (pc' := 6) at_5 rfl rfl ?_
  refine OwnW.iconst C (pc' := 7) at_6 rfl (z := 0) rfl ?_
  refine OwnW.getS C (pc' := 10) (host := "") (Or.inl (hw _ (List.mem_of_getElem? (i := 2) rfl))) Via.refl (S_EQUALS.ext O.2) at_7 rfl ?_
  refine OwnW.aastore C (pc' := 11) V_b1 rfl g_b1 ⟨by decide, by decide⟩ (k := 0) rfl (Nat.le_of_ble_eq_true rfl) (sto_of V_b1 O_b1 (Ins.self (X_EQUALS.ext O.2))) rfl at_10 rfl (fun h2 W2 V_b1 => ?_)
  have V_b1 : Arv Z h2 b1 cA_b1 (.object "com/example/schema_facade/schemafacade/statement/Condition$Comparison$Operator") (6 : Int32) [(.ref w_EQUALS), .null, .null, .null, .null, .null] .null := V_b1
  have O := O.wr W2 g_b1
  have Sz := Nat.le_trans Sz (Keep.of_wr W2).1
  have X_b1 := X_b1.wr W2
  refine OwnW.dup C (pc' := 12) at_11 rfl rfl ?_
  refine OwnW.iconst C (pc' := 13) at_12 rfl (z := 1) rfl ?_
  refine OwnW.getS C (pc' := 16) (host := "") (Or.inl (hw _ (List.mem_of_getElem? (i := 6) rfl))) Via.refl (S_NOT_EQUALS.ext O.2) at_13 rfl ?_
  refine OwnW.aastore C (pc' := 17) V_b1 rfl g_b1 ⟨by decide, by decide⟩ (k := 1) rfl (Nat.le_of_ble_eq_true rfl) (sto_of V_b1 O_b1 (Ins.self (X_NOT_EQUALS.ext O.2))) rfl at_16 rfl (fun h3 W3 V_b1 => ?_)
  have V_b1 : Arv Z h3 b1 cA_b1 (.object "com/example/schema_facade/schemafacade/statement/Condition$Comparison$Operator") (6 : Int32) [(.ref w_EQUALS), (.ref w_NOT_EQUALS), .null, .null, .null, .null] .null := V_b1
  have O := O.wr W3 g_b1
  have Sz := Nat.le_trans Sz (Keep.of_wr W3).1
  have X_b1 := X_b1.wr W3
  refine OwnW.dup C (pc' := 18) at_17 rfl rfl ?_
  refine OwnW.iconst C (pc' := 19) at_18 rfl (z := 2) rfl ?_
  refine OwnW.getS C (pc' := 22) (host := "") (Or.inl (hw _ (List.mem_of_getElem? (i := 8) rfl))) Via.refl (S_LESS.ext O.2) at_19 rfl ?_
  refine OwnW.aastore C (pc' := 23) V_b1 rfl g_b1 ⟨by decide, by decide⟩ (k := 2) rfl (Nat.le_of_ble_eq_true rfl) (sto_of V_b1 O_b1 (Ins.self (X_LESS.ext O.2))) rfl at_22 rfl (fun h4 W4 V_b1 => ?_)
  have V_b1 : Arv Z h4 b1 cA_b1 (.object "com/example/schema_facade/schemafacade/statement/Condition$Comparison$Operator") (6 : Int32) [(.ref w_EQUALS), (.ref w_NOT_EQUALS), (.ref w_LESS), .null, .null, .null] .null := V_b1
  have O := O.wr W4 g_b1
  have Sz := Nat.le_trans Sz (Keep.of_wr W4).1
  have X_b1 := X_b1.wr W4
  refine OwnW.dup C (pc' := 24) at_23 rfl rfl ?_
  refine OwnW.iconst C (pc' := 25) at_24 rfl (z := 3) rfl ?_
  refine OwnW.getS C (pc' := 28) (host := "") (Or.inl (hw _ (List.mem_of_getElem? (i := 10) rfl))) Via.refl (S_LESS_OR_EQUAL.ext O.2) at_25 rfl ?_
  refine OwnW.aastore C (pc' := 29) V_b1 rfl g_b1 ⟨by decide, by decide⟩ (k := 3) rfl (Nat.le_of_ble_eq_true rfl) (sto_of V_b1 O_b1 (Ins.self (X_LESS_OR_EQUAL.ext O.2))) rfl at_28 rfl (fun h5 W5 V_b1 => ?_)
  have V_b1 : Arv Z h5 b1 cA_b1 (.object "com/example/schema_facade/schemafacade/statement/Condition$Comparison$Operator") (6 : Int32) [(.ref w_EQUALS), (.ref w_NOT_EQUALS), (.ref w_LESS), (.ref w_LESS_OR_EQUAL), .null, .null] .null := V_b1
  have O := O.wr W5 g_b1
  have Sz := Nat.le_trans Sz (Keep.of_wr W5).1
  have X_b1 := X_b1.wr W5
  refine OwnW.dup C (pc' := 30) at_29 rfl rfl ?_
  refine OwnW.iconst C (pc' := 31) at_30 rfl (z := 4) rfl ?_
  refine OwnW.getS C (pc' := 34) (host := "") (Or.inl (hw _ (List.mem_of_getElem? (i := 12) rfl))) Via.refl (S_GREATER.ext O.2) at_31 rfl ?_
  refine OwnW.aastore C (pc' := 35) V_b1 rfl g_b1 ⟨by decide, by decide⟩ (k := 4) rfl (Nat.le_of_ble_eq_true rfl) (sto_of V_b1 O_b1 (Ins.self (X_GREATER.ext O.2))) rfl at_34 rfl (fun h6 W6 V_b1 => ?_)
  have V_b1 : Arv Z h6 b1 cA_b1 (.object "com/example/schema_facade/schemafacade/statement/Condition$Comparison$Operator") (6 : Int32) [(.ref w_EQUALS), (.ref w_NOT_EQUALS), (.ref w_LESS), (.ref w_LESS_OR_EQUAL), (.ref w_GREATER), .null] .null := V_b1
  have O := O.wr W6 g_b1
  have Sz := Nat.le_trans Sz (Keep.of_wr W6).1
  have X_b1 := X_b1.wr W6
  refine OwnW.dup C (pc' := 36) at_35 rfl rfl ?_
  refine OwnW.iconst C (pc' := 37) at_36 rfl (z := 5) rfl ?_
  refine OwnW.getS C (pc' := 40) (host := "") (Or.inl (hw _ (List.mem_of_getElem? (i := 14) rfl))) Via.refl (S_GREATER_OR_EQUAL.ext O.2) at_37 rfl ?_
  refine OwnW.aastore C (pc' := 41) V_b1 rfl g_b1 ⟨by decide, by decide⟩ (k := 5) rfl (Nat.le_of_ble_eq_true rfl) (sto_of V_b1 O_b1 (Ins.self (X_GREATER_OR_EQUAL.ext O.2))) rfl at_40 rfl (fun h7 W7 V_b1 => ?_)
  have V_b1 : Arv Z h7 b1 cA_b1 (.object "com/example/schema_facade/schemafacade/statement/Condition$Comparison$Operator") (6 : Int32) [(.ref w_EQUALS), (.ref w_NOT_EQUALS), (.ref w_LESS), (.ref w_LESS_OR_EQUAL), (.ref w_GREATER), (.ref w_GREATER_OR_EQUAL)] .null := V_b1
  have O := O.wr W7 g_b1
  have Sz := Nat.le_trans Sz (Keep.of_wr W7).1
  have X_b1 := X_b1.wr W7
  refine OwnW.astore C (pc' := 43) at_41 rfl rfl (l' := #[.val (.int i0), .val (.long i1), .second, .val (.long i2), .second, .val (.ref b1), .unset, .unset, .unset, .unset]) rfl ?_
  refine OwnW.aload C (pc' := 45) at_43 rfl rfl rfl ?_
  refine OwnW.iloadN C (pc' := 46) at_45 rfl rfl ?_
  refine OwnW.ldcI C (pc' := 48) at_46 rfl (v := 2147483647) (hw _ (List.mem_of_getElem? (i := 16) rfl)) ?_
  refine OwnW.iand C (pc' := 49) at_48 rfl ?_
  refine OwnW.bipush C (pc' := 51) at_49 rfl (z := 6) rfl ?_
  refine OwnW.irem C (pc' := 52) at_51 rfl (by first | decide | assumption) ?_
  rcases own_c6 i0 with hk | hk | hk | hk | hk | hk
  · rw [hk]
    refine OwnW.aaload C (pc' := 53) V_b1 rfl ⟨by decide, by decide⟩ (v := (.ref w_EQUALS)) rfl at_52 rfl ?_
    refine OwnW.astore C (pc' := 55) at_53 rfl rfl (l' := #[.val (.int i0), .val (.long i1), .second, .val (.long i2), .second, .val (.ref b1), .val (.ref w_EQUALS), .unset, .unset, .unset]) rfl ?_
    refine OwnW.aload C (pc' := 57) at_55 rfl rfl rfl ?_
    refine OwnW.callV C (pc' := 60) (y := (⟨"com/example/schema_facade/schemafacade/statement/Condition$Comparison$Operator", "swapped", "()Lcom/example/schema_facade/schemafacade/statement/Condition$Comparison$Operator;"⟩ : MethodName)) (z := (⟨"com/example/schema_facade/schemafacade/statement/Condition$Comparison$Operator", "swapped", "()Lcom/example/schema_facade/schemafacade/statement/Condition$Comparison$Operator;"⟩ : MethodName)) (W := 0) (argsL := []) (rest := []) (hw _ (List.mem_of_getElem? (i := 17) rfl)) (hw _ (List.mem_of_getElem? (i := 18) rfl)) (notFace_of_selects (args := #[]) (mvT C.2.1 (hw _ (List.mem_of_getElem? (i := 20) rfl)))) (hw _ (List.mem_of_getElem? (i := 20) rfl)) (hw _ (List.mem_of_getElem? (i := 19) rfl)) (hw _ (List.mem_of_getElem? (i := 3) rfl)) (hw _ (List.mem_of_getElem? (i := 21) rfl)) (X_EQUALS.ext O.2) (by decide) (own_swapped_EQUALS l Z a0 hw w_EQUALS h7 n0 (F_EQUALS.ext O.2) (X_EQUALS.ext O.2)) (K' := 1) (S' := 6) (by decide) (by decide) rfl own_pd___Lcom_example_schema_facade_schemafacade_statement_Condition_Comparison_Operator_ rfl (Nat.le_of_eq rfl) rfl rfl (by decide) (by decide) rfl at_57 rfl (fun v h' hq => ?_)
    obtain ⟨rfl, hh⟩ := hq
    refine Go.at (st' := [(.ref w_EQUALS)]) rfl ?_
    refine Go.heap hh ?_
    refine OwnW.astore C (pc' := 62) at_60 rfl rfl (l' := #[.val (.int i0), .val (.long i1), .second, .val (.long i2), .second, .val (.ref b1), .val (.ref w_EQUALS), .val (.ref w_EQUALS), .unset, .unset]) rfl ?_
    refine OwnW.aload C (pc' := 64) at_62 rfl rfl rfl ?_
    refine OwnW.lloadN C (pc' := 65) at_64 rfl rfl ?_
    refine OwnW.lloadN C (pc' := 66) at_65 rfl rfl ?_
    refine OwnW.callS C (pc' := 69) (y := (⟨"com/example/schema_facade/schemafacade/statement/OperatorSwappedPinLaw", "eval", "(Lcom/example/schema_facade/schemafacade/statement/Condition$Comparison$Operator;JJ)I"⟩ : MethodName)) (W := 0) (argsL := [(.ref w_EQUALS), (.long i1), (.long i2)]) (rest := []) (hw _ (List.mem_of_getElem? (i := 31) rfl)) (hw _ (List.mem_of_getElem? (i := 32) rfl)) (hw _ (List.mem_of_getElem? (i := 33) rfl)) (hw _ (List.mem_of_getElem? (i := 34) rfl)) (by decide) (own_eval_EQUALS l Z a0 hw w_EQUALS i1 i2 h7 n0 (S_EQUALS.ext O.2) ) (K' := 1) (S' := 6) (by decide) (by decide) rfl own_pd__Lcom_example_schema_facade_schemafacade_statement_Condition_Comparison_Operator_JJ_I rfl (Nat.le_of_eq rfl) rfl rfl (by decide) (by decide) rfl at_66 rfl (fun v h' hq => ?_)
    obtain ⟨rfl, hh⟩ := hq
    refine Go.at (st' := [(.int (if lcmpW i1 i2 = 0 then (1 : Int32) else 0))]) rfl ?_
    refine Go.heap hh ?_
    refine OwnW.istore C (pc' := 71) at_69 rfl (l' := #[.val (.int i0), .val (.long i1), .second, .val (.long i2), .second, .val (.ref b1), .val (.ref w_EQUALS), .val (.ref w_EQUALS), .val (.int (if lcmpW i1 i2 = 0 then (1 : Int32) else 0)), .unset]) rfl ?_
    refine OwnW.aload C (pc' := 73) at_71 rfl rfl rfl ?_
    refine OwnW.lloadN C (pc' := 74) at_73 rfl rfl ?_
    refine OwnW.lloadN C (pc' := 75) at_74 rfl rfl ?_
    refine OwnW.callS C (pc' := 78) (y := (⟨"com/example/schema_facade/schemafacade/statement/OperatorSwappedPinLaw", "eval", "(Lcom/example/schema_facade/schemafacade/statement/Condition$Comparison$Operator;JJ)I"⟩ : MethodName)) (W := 0) (argsL := [(.ref w_EQUALS), (.long i2), (.long i1)]) (rest := []) (hw _ (List.mem_of_getElem? (i := 31) rfl)) (hw _ (List.mem_of_getElem? (i := 32) rfl)) (hw _ (List.mem_of_getElem? (i := 33) rfl)) (hw _ (List.mem_of_getElem? (i := 34) rfl)) (by decide) (own_eval_EQUALS l Z a0 hw w_EQUALS i2 i1 h7 n0 (S_EQUALS.ext O.2) ) (K' := 1) (S' := 6) (by decide) (by decide) rfl own_pd__Lcom_example_schema_facade_schemafacade_statement_Condition_Comparison_Operator_JJ_I rfl (Nat.le_of_eq rfl) rfl rfl (by decide) (by decide) rfl at_75 rfl (fun v h' hq => ?_)
    obtain ⟨rfl, hh⟩ := hq
    refine Go.at (st' := [(.int (if lcmpW i2 i1 = 0 then (1 : Int32) else 0))]) rfl ?_
    refine Go.heap hh ?_
    refine OwnW.istore C (pc' := 80) at_78 rfl (l' := #[.val (.int i0), .val (.long i1), .second, .val (.long i2), .second, .val (.ref b1), .val (.ref w_EQUALS), .val (.ref w_EQUALS), .val (.int (if lcmpW i1 i2 = 0 then (1 : Int32) else 0)), .val (.int (if lcmpW i2 i1 = 0 then (1 : Int32) else 0))]) rfl ?_
    refine OwnW.iload C (pc' := 82) at_80 rfl rfl ?_
    refine OwnW.ifLt C (pcY := 96) (pcN := 85) at_82 (by decide) rfl rfl (fun hc82 => absurd hc82 (own_nn_EQUALS i1 i2)) (fun hc82 => ?_)
    refine OwnW.iload C (pc' := 87) at_85 rfl rfl ?_
    refine OwnW.iload C (pc' := 89) at_87 rfl rfl ?_
    refine OwnW.icNe C (pcY := 96) (pcN := 92) at_89 (by decide) rfl rfl (fun hc89 => absurd (own_sw_EQUALS i1 i2) hc89) (fun hc89 => ?_)
    refine OwnW.iconst C (pc' := 93) at_92 rfl (z := 1) rfl ?_
    refine OwnW.goto C (pc' := 97) at_93 (by decide) rfl ?_
    exact OwnW.retN C (t := .boolean) (z := (1 : Int32)) rfl (by simp) rfl rfl (by decide) (by decide) at_97
  · rw [hk]
    refine OwnW.aaload C (pc' := 53) V_b1 rfl ⟨by decide, by decide⟩ (v := (.ref w_NOT_EQUALS)) rfl at_52 rfl ?_
    refine OwnW.astore C (pc' := 55) at_53 rfl rfl (l' := #[.val (.int i0), .val (.long i1), .second, .val (.long i2), .second, .val (.ref b1), .val (.ref w_NOT_EQUALS), .unset, .unset, .unset]) rfl ?_
    refine OwnW.aload C (pc' := 57) at_55 rfl rfl rfl ?_
    refine OwnW.callV C (pc' := 60) (y := (⟨"com/example/schema_facade/schemafacade/statement/Condition$Comparison$Operator", "swapped", "()Lcom/example/schema_facade/schemafacade/statement/Condition$Comparison$Operator;"⟩ : MethodName)) (z := (⟨"com/example/schema_facade/schemafacade/statement/Condition$Comparison$Operator", "swapped", "()Lcom/example/schema_facade/schemafacade/statement/Condition$Comparison$Operator;"⟩ : MethodName)) (W := 0) (argsL := []) (rest := []) (hw _ (List.mem_of_getElem? (i := 17) rfl)) (hw _ (List.mem_of_getElem? (i := 18) rfl)) (notFace_of_selects (args := #[]) (mvT C.2.1 (hw _ (List.mem_of_getElem? (i := 20) rfl)))) (hw _ (List.mem_of_getElem? (i := 20) rfl)) (hw _ (List.mem_of_getElem? (i := 19) rfl)) (hw _ (List.mem_of_getElem? (i := 3) rfl)) (hw _ (List.mem_of_getElem? (i := 21) rfl)) (X_NOT_EQUALS.ext O.2) (by decide) (own_swapped_NOT_EQUALS l Z a0 hw w_NOT_EQUALS h7 n0 (F_NOT_EQUALS.ext O.2) (X_NOT_EQUALS.ext O.2)) (K' := 1) (S' := 6) (by decide) (by decide) rfl own_pd___Lcom_example_schema_facade_schemafacade_statement_Condition_Comparison_Operator_ rfl (Nat.le_of_eq rfl) rfl rfl (by decide) (by decide) rfl at_57 rfl (fun v h' hq => ?_)
    obtain ⟨rfl, hh⟩ := hq
    refine Go.at (st' := [(.ref w_NOT_EQUALS)]) rfl ?_
    refine Go.heap hh ?_
    refine OwnW.astore C (pc' := 62) at_60 rfl rfl (l' := #[.val (.int i0), .val (.long i1), .second, .val (.long i2), .second, .val (.ref b1), .val (.ref w_NOT_EQUALS), .val (.ref w_NOT_EQUALS), .unset, .unset]) rfl ?_
    refine OwnW.aload C (pc' := 64) at_62 rfl rfl rfl ?_
    refine OwnW.lloadN C (pc' := 65) at_64 rfl rfl ?_
    refine OwnW.lloadN C (pc' := 66) at_65 rfl rfl ?_
    refine OwnW.callS C (pc' := 69) (y := (⟨"com/example/schema_facade/schemafacade/statement/OperatorSwappedPinLaw", "eval", "(Lcom/example/schema_facade/schemafacade/statement/Condition$Comparison$Operator;JJ)I"⟩ : MethodName)) (W := 0) (argsL := [(.ref w_NOT_EQUALS), (.long i1), (.long i2)]) (rest := []) (hw _ (List.mem_of_getElem? (i := 31) rfl)) (hw _ (List.mem_of_getElem? (i := 32) rfl)) (hw _ (List.mem_of_getElem? (i := 33) rfl)) (hw _ (List.mem_of_getElem? (i := 34) rfl)) (by decide) (own_eval_NOT_EQUALS l Z a0 hw w_EQUALS w_NOT_EQUALS i1 i2 h7 n0 (S_EQUALS.ext O.2) (S_NOT_EQUALS.ext O.2) n_NOT_EQUALS_EQUALS) (K' := 1) (S' := 6) (by decide) (by decide) rfl own_pd__Lcom_example_schema_facade_schemafacade_statement_Condition_Comparison_Operator_JJ_I rfl (Nat.le_of_eq rfl) rfl rfl (by decide) (by decide) rfl at_66 rfl (fun v h' hq => ?_)
    obtain ⟨rfl, hh⟩ := hq
    refine Go.at (st' := [(.int (if lcmpW i1 i2 = 0 then (0 : Int32) else 1))]) rfl ?_
    refine Go.heap hh ?_
    refine OwnW.istore C (pc' := 71) at_69 rfl (l' := #[.val (.int i0), .val (.long i1), .second, .val (.long i2), .second, .val (.ref b1), .val (.ref w_NOT_EQUALS), .val (.ref w_NOT_EQUALS), .val (.int (if lcmpW i1 i2 = 0 then (0 : Int32) else 1)), .unset]) rfl ?_
    refine OwnW.aload C (pc' := 73) at_71 rfl rfl rfl ?_
    refine OwnW.lloadN C (pc' := 74) at_73 rfl rfl ?_
    refine OwnW.lloadN C (pc' := 75) at_74 rfl rfl ?_
    refine OwnW.callS C (pc' := 78) (y := (⟨"com/example/schema_facade/schemafacade/statement/OperatorSwappedPinLaw", "eval", "(Lcom/example/schema_facade/schemafacade/statement/Condition$Comparison$Operator;JJ)I"⟩ : MethodName)) (W := 0) (argsL := [(.ref w_NOT_EQUALS), (.long i2), (.long i1)]) (rest := []) (hw _ (List.mem_of_getElem? (i := 31) rfl)) (hw _ (List.mem_of_getElem? (i := 32) rfl)) (hw _ (List.mem_of_getElem? (i := 33) rfl)) (hw _ (List.mem_of_getElem? (i := 34) rfl)) (by decide) (own_eval_NOT_EQUALS l Z a0 hw w_EQUALS w_NOT_EQUALS i2 i1 h7 n0 (S_EQUALS.ext O.2) (S_NOT_EQUALS.ext O.2) n_NOT_EQUALS_EQUALS) (K' := 1) (S' := 6) (by decide) (by decide) rfl own_pd__Lcom_example_schema_facade_schemafacade_statement_Condition_Comparison_Operator_JJ_I rfl (Nat.le_of_eq rfl) rfl rfl (by decide) (by decide) rfl at_75 rfl (fun v h' hq => ?_)
    obtain ⟨rfl, hh⟩ := hq
    refine Go.at (st' := [(.int (if lcmpW i2 i1 = 0 then (0 : Int32) else 1))]) rfl ?_
    refine Go.heap hh ?_
    refine OwnW.istore C (pc' := 80) at_78 rfl (l' := #[.val (.int i0), .val (.long i1), .second, .val (.long i2), .second, .val (.ref b1), .val (.ref w_NOT_EQUALS), .val (.ref w_NOT_EQUALS), .val (.int (if lcmpW i1 i2 = 0 then (0 : Int32) else 1)), .val (.int (if lcmpW i2 i1 = 0 then (0 : Int32) else 1))]) rfl ?_
    refine OwnW.iload C (pc' := 82) at_80 rfl rfl ?_
    refine OwnW.ifLt C (pcY := 96) (pcN := 85) at_82 (by decide) rfl rfl (fun hc82 => absurd hc82 (own_nn_NOT_EQUALS i1 i2)) (fun hc82 => ?_)
    refine OwnW.iload C (pc' := 87) at_85 rfl rfl ?_
    refine OwnW.iload C (pc' := 89) at_87 rfl rfl ?_
    refine OwnW.icNe C (pcY := 96) (pcN := 92) at_89 (by decide) rfl rfl (fun hc89 => absurd (own_sw_NOT_EQUALS i1 i2) hc89) (fun hc89 => ?_)
    refine OwnW.iconst C (pc' := 93) at_92 rfl (z := 1) rfl ?_
    refine OwnW.goto C (pc' := 97) at_93 (by decide) rfl ?_
    exact OwnW.retN C (t := .boolean) (z := (1 : Int32)) rfl (by simp) rfl rfl (by decide) (by decide) at_97
  · rw [hk]
    refine OwnW.aaload C (pc' := 53) V_b1 rfl ⟨by decide, by decide⟩ (v := (.ref w_LESS)) rfl at_52 rfl ?_
    refine OwnW.astore C (pc' := 55) at_53 rfl rfl (l' := #[.val (.int i0), .val (.long i1), .second, .val (.long i2), .second, .val (.ref b1), .val (.ref w_LESS), .unset, .unset, .unset]) rfl ?_
    refine OwnW.aload C (pc' := 57) at_55 rfl rfl rfl ?_
    refine OwnW.callV C (pc' := 60) (y := (⟨"com/example/schema_facade/schemafacade/statement/Condition$Comparison$Operator", "swapped", "()Lcom/example/schema_facade/schemafacade/statement/Condition$Comparison$Operator;"⟩ : MethodName)) (z := (⟨"com/example/schema_facade/schemafacade/statement/Condition$Comparison$Operator", "swapped", "()Lcom/example/schema_facade/schemafacade/statement/Condition$Comparison$Operator;"⟩ : MethodName)) (W := 0) (argsL := []) (rest := []) (hw _ (List.mem_of_getElem? (i := 17) rfl)) (hw _ (List.mem_of_getElem? (i := 18) rfl)) (notFace_of_selects (args := #[]) (mvT C.2.1 (hw _ (List.mem_of_getElem? (i := 20) rfl)))) (hw _ (List.mem_of_getElem? (i := 20) rfl)) (hw _ (List.mem_of_getElem? (i := 19) rfl)) (hw _ (List.mem_of_getElem? (i := 3) rfl)) (hw _ (List.mem_of_getElem? (i := 21) rfl)) (X_LESS.ext O.2) (by decide) (own_swapped_LESS l Z a0 hw w_LESS w_GREATER h7 n0 (F_LESS.ext O.2) (X_LESS.ext O.2) (S_GREATER.ext O.2)) (K' := 1) (S' := 6) (by decide) (by decide) rfl own_pd___Lcom_example_schema_facade_schemafacade_statement_Condition_Comparison_Operator_ rfl (Nat.le_of_eq rfl) rfl rfl (by decide) (by decide) rfl at_57 rfl (fun v h' hq => ?_)
    obtain ⟨rfl, hh⟩ := hq
    refine Go.at (st' := [(.ref w_GREATER)]) rfl ?_
    refine Go.heap hh ?_
    refine OwnW.astore C (pc' := 62) at_60 rfl rfl (l' := #[.val (.int i0), .val (.long i1), .second, .val (.long i2), .second, .val (.ref b1), .val (.ref w_LESS), .val (.ref w_GREATER), .unset, .unset]) rfl ?_
    refine OwnW.aload C (pc' := 64) at_62 rfl rfl rfl ?_
    refine OwnW.lloadN C (pc' := 65) at_64 rfl rfl ?_
    refine OwnW.lloadN C (pc' := 66) at_65 rfl rfl ?_
    refine OwnW.callS C (pc' := 69) (y := (⟨"com/example/schema_facade/schemafacade/statement/OperatorSwappedPinLaw", "eval", "(Lcom/example/schema_facade/schemafacade/statement/Condition$Comparison$Operator;JJ)I"⟩ : MethodName)) (W := 0) (argsL := [(.ref w_LESS), (.long i1), (.long i2)]) (rest := []) (hw _ (List.mem_of_getElem? (i := 31) rfl)) (hw _ (List.mem_of_getElem? (i := 32) rfl)) (hw _ (List.mem_of_getElem? (i := 33) rfl)) (hw _ (List.mem_of_getElem? (i := 34) rfl)) (by decide) (own_eval_LESS l Z a0 hw w_EQUALS w_NOT_EQUALS w_LESS i1 i2 h7 n0 (S_EQUALS.ext O.2) (S_NOT_EQUALS.ext O.2) (S_LESS.ext O.2) n_LESS_EQUALS n_LESS_NOT_EQUALS) (K' := 1) (S' := 6) (by decide) (by decide) rfl own_pd__Lcom_example_schema_facade_schemafacade_statement_Condition_Comparison_Operator_JJ_I rfl (Nat.le_of_eq rfl) rfl rfl (by decide) (by decide) rfl at_66 rfl (fun v h' hq => ?_)
    obtain ⟨rfl, hh⟩ := hq
    refine Go.at (st' := [(.int (if lcmpW i1 i2 < 0 then (1 : Int32) else 0))]) rfl ?_
    refine Go.heap hh ?_
    refine OwnW.istore C (pc' := 71) at_69 rfl (l' := #[.val (.int i0), .val (.long i1), .second, .val (.long i2), .second, .val (.ref b1), .val (.ref w_LESS), .val (.ref w_GREATER), .val (.int (if lcmpW i1 i2 < 0 then (1 : Int32) else 0)), .unset]) rfl ?_
    refine OwnW.aload C (pc' := 73) at_71 rfl rfl rfl ?_
    refine OwnW.lloadN C (pc' := 74) at_73 rfl rfl ?_
    refine OwnW.lloadN C (pc' := 75) at_74 rfl rfl ?_
    refine OwnW.callS C (pc' := 78) (y := (⟨"com/example/schema_facade/schemafacade/statement/OperatorSwappedPinLaw", "eval", "(Lcom/example/schema_facade/schemafacade/statement/Condition$Comparison$Operator;JJ)I"⟩ : MethodName)) (W := 0) (argsL := [(.ref w_GREATER), (.long i2), (.long i1)]) (rest := []) (hw _ (List.mem_of_getElem? (i := 31) rfl)) (hw _ (List.mem_of_getElem? (i := 32) rfl)) (hw _ (List.mem_of_getElem? (i := 33) rfl)) (hw _ (List.mem_of_getElem? (i := 34) rfl)) (by decide) (own_eval_GREATER l Z a0 hw w_EQUALS w_NOT_EQUALS w_LESS w_LESS_OR_EQUAL w_GREATER i2 i1 h7 n0 (S_EQUALS.ext O.2) (S_NOT_EQUALS.ext O.2) (S_LESS.ext O.2) (S_LESS_OR_EQUAL.ext O.2) (S_GREATER.ext O.2) n_GREATER_EQUALS n_GREATER_NOT_EQUALS n_GREATER_LESS n_GREATER_LESS_OR_EQUAL) (K' := 1) (S' := 6) (by decide) (by decide) rfl own_pd__Lcom_example_schema_facade_schemafacade_statement_Condition_Comparison_Operator_JJ_I rfl (Nat.le_of_eq rfl) rfl rfl (by decide) (by decide) rfl at_75 rfl (fun v h' hq => ?_)
    obtain ⟨rfl, hh⟩ := hq
    refine Go.at (st' := [(.int (if 0 < lcmpW i2 i1 then (1 : Int32) else 0))]) rfl ?_
    refine Go.heap hh ?_
    refine OwnW.istore C (pc' := 80) at_78 rfl (l' := #[.val (.int i0), .val (.long i1), .second, .val (.long i2), .second, .val (.ref b1), .val (.ref w_LESS), .val (.ref w_GREATER), .val (.int (if lcmpW i1 i2 < 0 then (1 : Int32) else 0)), .val (.int (if 0 < lcmpW i2 i1 then (1 : Int32) else 0))]) rfl ?_
    refine OwnW.iload C (pc' := 82) at_80 rfl rfl ?_
    refine OwnW.ifLt C (pcY := 96) (pcN := 85) at_82 (by decide) rfl rfl (fun hc82 => absurd hc82 (own_nn_LESS i1 i2)) (fun hc82 => ?_)
    refine OwnW.iload C (pc' := 87) at_85 rfl rfl ?_
    refine OwnW.iload C (pc' := 89) at_87 rfl rfl ?_
    refine OwnW.icNe C (pcY := 96) (pcN := 92) at_89 (by decide) rfl rfl (fun hc89 => absurd (own_sw_LESS i1 i2) hc89) (fun hc89 => ?_)
    refine OwnW.iconst C (pc' := 93) at_92 rfl (z := 1) rfl ?_
    refine OwnW.goto C (pc' := 97) at_93 (by decide) rfl ?_
    exact OwnW.retN C (t := .boolean) (z := (1 : Int32)) rfl (by simp) rfl rfl (by decide) (by decide) at_97
  · rw [hk]
    refine OwnW.aaload C (pc' := 53) V_b1 rfl ⟨by decide, by decide⟩ (v := (.ref w_LESS_OR_EQUAL)) rfl at_52 rfl ?_
    refine OwnW.astore C (pc' := 55) at_53 rfl rfl (l' := #[.val (.int i0), .val (.long i1), .second, .val (.long i2), .second, .val (.ref b1), .val (.ref w_LESS_OR_EQUAL), .unset, .unset, .unset]) rfl ?_
    refine OwnW.aload C (pc' := 57) at_55 rfl rfl rfl ?_
    refine OwnW.callV C (pc' := 60) (y := (⟨"com/example/schema_facade/schemafacade/statement/Condition$Comparison$Operator", "swapped", "()Lcom/example/schema_facade/schemafacade/statement/Condition$Comparison$Operator;"⟩ : MethodName)) (z := (⟨"com/example/schema_facade/schemafacade/statement/Condition$Comparison$Operator", "swapped", "()Lcom/example/schema_facade/schemafacade/statement/Condition$Comparison$Operator;"⟩ : MethodName)) (W := 0) (argsL := []) (rest := []) (hw _ (List.mem_of_getElem? (i := 17) rfl)) (hw _ (List.mem_of_getElem? (i := 18) rfl)) (notFace_of_selects (args := #[]) (mvT C.2.1 (hw _ (List.mem_of_getElem? (i := 20) rfl)))) (hw _ (List.mem_of_getElem? (i := 20) rfl)) (hw _ (List.mem_of_getElem? (i := 19) rfl)) (hw _ (List.mem_of_getElem? (i := 3) rfl)) (hw _ (List.mem_of_getElem? (i := 21) rfl)) (X_LESS_OR_EQUAL.ext O.2) (by decide) (own_swapped_LESS_OR_EQUAL l Z a0 hw w_LESS_OR_EQUAL w_GREATER_OR_EQUAL h7 n0 (F_LESS_OR_EQUAL.ext O.2) (X_LESS_OR_EQUAL.ext O.2) (S_GREATER_OR_EQUAL.ext O.2)) (K' := 1) (S' := 6) (by decide) (by decide) rfl own_pd___Lcom_example_schema_facade_schemafacade_statement_Condition_Comparison_Operator_ rfl (Nat.le_of_eq rfl) rfl rfl (by decide) (by decide) rfl at_57 rfl (fun v h' hq => ?_)
    obtain ⟨rfl, hh⟩ := hq
    refine Go.at (st' := [(.ref w_GREATER_OR_EQUAL)]) rfl ?_
    refine Go.heap hh ?_
    refine OwnW.astore C (pc' := 62) at_60 rfl rfl (l' := #[.val (.int i0), .val (.long i1), .second, .val (.long i2), .second, .val (.ref b1), .val (.ref w_LESS_OR_EQUAL), .val (.ref w_GREATER_OR_EQUAL), .unset, .unset]) rfl ?_
    refine OwnW.aload C (pc' := 64) at_62 rfl rfl rfl ?_
    refine OwnW.lloadN C (pc' := 65) at_64 rfl rfl ?_
    refine OwnW.lloadN C (pc' := 66) at_65 rfl rfl ?_
    refine OwnW.callS C (pc' := 69) (y := (⟨"com/example/schema_facade/schemafacade/statement/OperatorSwappedPinLaw", "eval", "(Lcom/example/schema_facade/schemafacade/statement/Condition$Comparison$Operator;JJ)I"⟩ : MethodName)) (W := 0) (argsL := [(.ref w_LESS_OR_EQUAL), (.long i1), (.long i2)]) (rest := []) (hw _ (List.mem_of_getElem? (i := 31) rfl)) (hw _ (List.mem_of_getElem? (i := 32) rfl)) (hw _ (List.mem_of_getElem? (i := 33) rfl)) (hw _ (List.mem_of_getElem? (i := 34) rfl)) (by decide) (own_eval_LESS_OR_EQUAL l Z a0 hw w_EQUALS w_NOT_EQUALS w_LESS w_LESS_OR_EQUAL i1 i2 h7 n0 (S_EQUALS.ext O.2) (S_NOT_EQUALS.ext O.2) (S_LESS.ext O.2) (S_LESS_OR_EQUAL.ext O.2) n_LESS_OR_EQUAL_EQUALS n_LESS_OR_EQUAL_NOT_EQUALS n_LESS_OR_EQUAL_LESS) (K' := 1) (S' := 6) (by decide) (by decide) rfl own_pd__Lcom_example_schema_facade_schemafacade_statement_Condition_Comparison_Operator_JJ_I rfl (Nat.le_of_eq rfl) rfl rfl (by decide) (by decide) rfl at_66 rfl (fun v h' hq => ?_)
    obtain ⟨rfl, hh⟩ := hq
    refine Go.at (st' := [(.int (if 0 < lcmpW i1 i2 then (0 : Int32) else 1))]) rfl ?_
    refine Go.heap hh ?_
    refine OwnW.istore C (pc' := 71) at_69 rfl (l' := #[.val (.int i0), .val (.long i1), .second, .val (.long i2), .second, .val (.ref b1), .val (.ref w_LESS_OR_EQUAL), .val (.ref w_GREATER_OR_EQUAL), .val (.int (if 0 < lcmpW i1 i2 then (0 : Int32) else 1)), .unset]) rfl ?_
    refine OwnW.aload C (pc' := 73) at_71 rfl rfl rfl ?_
    refine OwnW.lloadN C (pc' := 74) at_73 rfl rfl ?_
    refine OwnW.lloadN C (pc' := 75) at_74 rfl rfl ?_
    refine OwnW.callS C (pc' := 78) (y := (⟨"com/example/schema_facade/schemafacade/statement/OperatorSwappedPinLaw", "eval", "(Lcom/example/schema_facade/schemafacade/statement/Condition$Comparison$Operator;JJ)I"⟩ : MethodName)) (W := 0) (argsL := [(.ref w_GREATER_OR_EQUAL), (.long i2), (.long i1)]) (rest := []) (hw _ (List.mem_of_getElem? (i := 31) rfl)) (hw _ (List.mem_of_getElem? (i := 32) rfl)) (hw _ (List.mem_of_getElem? (i := 33) rfl)) (hw _ (List.mem_of_getElem? (i := 34) rfl)) (by decide) (own_eval_GREATER_OR_EQUAL l Z a0 hw w_EQUALS w_NOT_EQUALS w_LESS w_LESS_OR_EQUAL w_GREATER w_GREATER_OR_EQUAL i2 i1 h7 n0 (S_EQUALS.ext O.2) (S_NOT_EQUALS.ext O.2) (S_LESS.ext O.2) (S_LESS_OR_EQUAL.ext O.2) (S_GREATER.ext O.2) (S_GREATER_OR_EQUAL.ext O.2) n_GREATER_OR_EQUAL_EQUALS n_GREATER_OR_EQUAL_NOT_EQUALS n_GREATER_OR_EQUAL_LESS n_GREATER_OR_EQUAL_LESS_OR_EQUAL n_GREATER_OR_EQUAL_GREATER) (K' := 1) (S' := 6) (by decide) (by decide) rfl own_pd__Lcom_example_schema_facade_schemafacade_statement_Condition_Comparison_Operator_JJ_I rfl (Nat.le_of_eq rfl) rfl rfl (by decide) (by decide) rfl at_75 rfl (fun v h' hq => ?_)
    obtain ⟨rfl, hh⟩ := hq
    refine Go.at (st' := [(.int (if lcmpW i2 i1 < 0 then (0 : Int32) else 1))]) rfl ?_
    refine Go.heap hh ?_
    refine OwnW.istore C (pc' := 80) at_78 rfl (l' := #[.val (.int i0), .val (.long i1), .second, .val (.long i2), .second, .val (.ref b1), .val (.ref w_LESS_OR_EQUAL), .val (.ref w_GREATER_OR_EQUAL), .val (.int (if 0 < lcmpW i1 i2 then (0 : Int32) else 1)), .val (.int (if lcmpW i2 i1 < 0 then (0 : Int32) else 1))]) rfl ?_
    refine OwnW.iload C (pc' := 82) at_80 rfl rfl ?_
    refine OwnW.ifLt C (pcY := 96) (pcN := 85) at_82 (by decide) rfl rfl (fun hc82 => absurd hc82 (own_nn_LESS_OR_EQUAL i1 i2)) (fun hc82 => ?_)
    refine OwnW.iload C (pc' := 87) at_85 rfl rfl ?_
    refine OwnW.iload C (pc' := 89) at_87 rfl rfl ?_
    refine OwnW.icNe C (pcY := 96) (pcN := 92) at_89 (by decide) rfl rfl (fun hc89 => absurd (own_sw_LESS_OR_EQUAL i1 i2) hc89) (fun hc89 => ?_)
    refine OwnW.iconst C (pc' := 93) at_92 rfl (z := 1) rfl ?_
    refine OwnW.goto C (pc' := 97) at_93 (by decide) rfl ?_
    exact OwnW.retN C (t := .boolean) (z := (1 : Int32)) rfl (by simp) rfl rfl (by decide) (by decide) at_97
  · rw [hk]
    refine OwnW.aaload C (pc' := 53) V_b1 rfl ⟨by decide, by decide⟩ (v := (.ref w_GREATER)) rfl at_52 rfl ?_
    refine OwnW.astore C (pc' := 55) at_53 rfl rfl (l' := #[.val (.int i0), .val (.long i1), .second, .val (.long i2), .second, .val (.ref b1), .val (.ref w_GREATER), .unset, .unset, .unset]) rfl ?_
    refine OwnW.aload C (pc' := 57) at_55 rfl rfl rfl ?_
    refine OwnW.callV C (pc' := 60) (y := (⟨"com/example/schema_facade/schemafacade/statement/Condition$Comparison$Operator", "swapped", "()Lcom/example/schema_facade/schemafacade/statement/Condition$Comparison$Operator;"⟩ : MethodName)) (z := (⟨"com/example/schema_facade/schemafacade/statement/Condition$Comparison$Operator", "swapped", "()Lcom/example/schema_facade/schemafacade/statement/Condition$Comparison$Operator;"⟩ : MethodName)) (W := 0) (argsL := []) (rest := []) (hw _ (List.mem_of_getElem? (i := 17) rfl)) (hw _ (List.mem_of_getElem? (i := 18) rfl)) (notFace_of_selects (args := #[]) (mvT C.2.1 (hw _ (List.mem_of_getElem? (i := 20) rfl)))) (hw _ (List.mem_of_getElem? (i := 20) rfl)) (hw _ (List.mem_of_getElem? (i := 19) rfl)) (hw _ (List.mem_of_getElem? (i := 3) rfl)) (hw _ (List.mem_of_getElem? (i := 21) rfl)) (X_GREATER.ext O.2) (by decide) (own_swapped_GREATER l Z a0 hw w_GREATER w_LESS h7 n0 (F_GREATER.ext O.2) (X_GREATER.ext O.2) (S_LESS.ext O.2)) (K' := 1) (S' := 6) (by decide) (by decide) rfl own_pd___Lcom_example_schema_facade_schemafacade_statement_Condition_Comparison_Operator_ rfl (Nat.le_of_eq rfl) rfl rfl (by decide) (by decide) rfl at_57 rfl (fun v h' hq => ?_)
    obtain ⟨rfl, hh⟩ := hq
    refine Go.at (st' := [(.ref w_LESS)]) rfl ?_
    refine Go.heap hh ?_
    refine OwnW.astore C (pc' := 62) at_60 rfl rfl (l' := #[.val (.int i0), .val (.long i1), .second, .val (.long i2), .second, .val (.ref b1), .val (.ref w_GREATER), .val (.ref w_LESS), .unset, .unset]) rfl ?_
    refine OwnW.aload C (pc' := 64) at_62 rfl rfl rfl ?_
    refine OwnW.lloadN C (pc' := 65) at_64 rfl rfl ?_
    refine OwnW.lloadN C (pc' := 66) at_65 rfl rfl ?_
    refine OwnW.callS C (pc' := 69) (y := (⟨"com/example/schema_facade/schemafacade/statement/OperatorSwappedPinLaw", "eval", "(Lcom/example/schema_facade/schemafacade/statement/Condition$Comparison$Operator;JJ)I"⟩ : MethodName)) (W := 0) (argsL := [(.ref w_GREATER), (.long i1), (.long i2)]) (rest := []) (hw _ (List.mem_of_getElem? (i := 31) rfl)) (hw _ (List.mem_of_getElem? (i := 32) rfl)) (hw _ (List.mem_of_getElem? (i := 33) rfl)) (hw _ (List.mem_of_getElem? (i := 34) rfl)) (by decide) (own_eval_GREATER l Z a0 hw w_EQUALS w_NOT_EQUALS w_LESS w_LESS_OR_EQUAL w_GREATER i1 i2 h7 n0 (S_EQUALS.ext O.2) (S_NOT_EQUALS.ext O.2) (S_LESS.ext O.2) (S_LESS_OR_EQUAL.ext O.2) (S_GREATER.ext O.2) n_GREATER_EQUALS n_GREATER_NOT_EQUALS n_GREATER_LESS n_GREATER_LESS_OR_EQUAL) (K' := 1) (S' := 6) (by decide) (by decide) rfl own_pd__Lcom_example_schema_facade_schemafacade_statement_Condition_Comparison_Operator_JJ_I rfl (Nat.le_of_eq rfl) rfl rfl (by decide) (by decide) rfl at_66 rfl (fun v h' hq => ?_)
    obtain ⟨rfl, hh⟩ := hq
    refine Go.at (st' := [(.int (if 0 < lcmpW i1 i2 then (1 : Int32) else 0))]) rfl ?_
    refine Go.heap hh ?_
    refine OwnW.istore C (pc' := 71) at_69 rfl (l' := #[.val (.int i0), .val (.long i1), .second, .val (.long i2), .second, .val (.ref b1), .val (.ref w_GREATER), .val (.ref w_LESS), .val (.int (if 0 < lcmpW i1 i2 then (1 : Int32) else 0)), .unset]) rfl ?_
    refine OwnW.aload C (pc' := 73) at_71 rfl rfl rfl ?_
    refine OwnW.lloadN C (pc' := 74) at_73 rfl rfl ?_
    refine OwnW.lloadN C (pc' := 75) at_74 rfl rfl ?_
    refine OwnW.callS C (pc' := 78) (y := (⟨"com/example/schema_facade/schemafacade/statement/OperatorSwappedPinLaw", "eval", "(Lcom/example/schema_facade/schemafacade/statement/Condition$Comparison$Operator;JJ)I"⟩ : MethodName)) (W := 0) (argsL := [(.ref w_LESS), (.long i2), (.long i1)]) (rest := []) (hw _ (List.mem_of_getElem? (i := 31) rfl)) (hw _ (List.mem_of_getElem? (i := 32) rfl)) (hw _ (List.mem_of_getElem? (i := 33) rfl)) (hw _ (List.mem_of_getElem? (i := 34) rfl)) (by decide) (own_eval_LESS l Z a0 hw w_EQUALS w_NOT_EQUALS w_LESS i2 i1 h7 n0 (S_EQUALS.ext O.2) (S_NOT_EQUALS.ext O.2) (S_LESS.ext O.2) n_LESS_EQUALS n_LESS_NOT_EQUALS) (K' := 1) (S' := 6) (by decide) (by decide) rfl own_pd__Lcom_example_schema_facade_schemafacade_statement_Condition_Comparison_Operator_JJ_I rfl (Nat.le_of_eq rfl) rfl rfl (by decide) (by decide) rfl at_75 rfl (fun v h' hq => ?_)
    obtain ⟨rfl, hh⟩ := hq
    refine Go.at (st' := [(.int (if lcmpW i2 i1 < 0 then (1 : Int32) else 0))]) rfl ?_
    refine Go.heap hh ?_
    refine OwnW.istore C (pc' := 80) at_78 rfl (l' := #[.val (.int i0), .val (.long i1), .second, .val (.long i2), .second, .val (.ref b1), .val (.ref w_GREATER), .val (.ref w_LESS), .val (.int (if 0 < lcmpW i1 i2 then (1 : Int32) else 0)), .val (.int (if lcmpW i2 i1 < 0 then (1 : Int32) else 0))]) rfl ?_
    refine OwnW.iload C (pc' := 82) at_80 rfl rfl ?_
    refine OwnW.ifLt C (pcY := 96) (pcN := 85) at_82 (by decide) rfl rfl (fun hc82 => absurd hc82 (own_nn_GREATER i1 i2)) (fun hc82 => ?_)
    refine OwnW.iload C (pc' := 87) at_85 rfl rfl ?_
    refine OwnW.iload C (pc' := 89) at_87 rfl rfl ?_
    refine OwnW.icNe C (pcY := 96) (pcN := 92) at_89 (by decide) rfl rfl (fun hc89 => absurd (own_sw_GREATER i1 i2) hc89) (fun hc89 => ?_)
    refine OwnW.iconst C (pc' := 93) at_92 rfl (z := 1) rfl ?_
    refine OwnW.goto C (pc' := 97) at_93 (by decide) rfl ?_
    exact OwnW.retN C (t := .boolean) (z := (1 : Int32)) rfl (by simp) rfl rfl (by decide) (by decide) at_97
  · rw [hk]
    refine OwnW.aaload C (pc' := 53) V_b1 rfl ⟨by decide, by decide⟩ (v := (.ref w_GREATER_OR_EQUAL)) rfl at_52 rfl ?_
    refine OwnW.astore C (pc' := 55) at_53 rfl rfl (l' := #[.val (.int i0), .val (.long i1), .second, .val (.long i2), .second, .val (.ref b1), .val (.ref w_GREATER_OR_EQUAL), .unset, .unset, .unset]) rfl ?_
    refine OwnW.aload C (pc' := 57) at_55 rfl rfl rfl ?_
    refine OwnW.callV C (pc' := 60) (y := (⟨"com/example/schema_facade/schemafacade/statement/Condition$Comparison$Operator", "swapped", "()Lcom/example/schema_facade/schemafacade/statement/Condition$Comparison$Operator;"⟩ : MethodName)) (z := (⟨"com/example/schema_facade/schemafacade/statement/Condition$Comparison$Operator", "swapped", "()Lcom/example/schema_facade/schemafacade/statement/Condition$Comparison$Operator;"⟩ : MethodName)) (W := 0) (argsL := []) (rest := []) (hw _ (List.mem_of_getElem? (i := 17) rfl)) (hw _ (List.mem_of_getElem? (i := 18) rfl)) (notFace_of_selects (args := #[]) (mvT C.2.1 (hw _ (List.mem_of_getElem? (i := 20) rfl)))) (hw _ (List.mem_of_getElem? (i := 20) rfl)) (hw _ (List.mem_of_getElem? (i := 19) rfl)) (hw _ (List.mem_of_getElem? (i := 3) rfl)) (hw _ (List.mem_of_getElem? (i := 21) rfl)) (X_GREATER_OR_EQUAL.ext O.2) (by decide) (own_swapped_GREATER_OR_EQUAL l Z a0 hw w_GREATER_OR_EQUAL w_LESS_OR_EQUAL h7 n0 (F_GREATER_OR_EQUAL.ext O.2) (X_GREATER_OR_EQUAL.ext O.2) (S_LESS_OR_EQUAL.ext O.2)) (K' := 1) (S' := 6) (by decide) (by decide) rfl own_pd___Lcom_example_schema_facade_schemafacade_statement_Condition_Comparison_Operator_ rfl (Nat.le_of_eq rfl) rfl rfl (by decide) (by decide) rfl at_57 rfl (fun v h' hq => ?_)
    obtain ⟨rfl, hh⟩ := hq
    refine Go.at (st' := [(.ref w_LESS_OR_EQUAL)]) rfl ?_
    refine Go.heap hh ?_
    refine OwnW.astore C (pc' := 62) at_60 rfl rfl (l' := #[.val (.int i0), .val (.long i1), .second, .val (.long i2), .second, .val (.ref b1), .val (.ref w_GREATER_OR_EQUAL), .val (.ref w_LESS_OR_EQUAL), .unset, .unset]) rfl ?_
    refine OwnW.aload C (pc' := 64) at_62 rfl rfl rfl ?_
    refine OwnW.lloadN C (pc' := 65) at_64 rfl rfl ?_
    refine OwnW.lloadN C (pc' := 66) at_65 rfl rfl ?_
    refine OwnW.callS C (pc' := 69) (y := (⟨"com/example/schema_facade/schemafacade/statement/OperatorSwappedPinLaw", "eval", "(Lcom/example/schema_facade/schemafacade/statement/Condition$Comparison$Operator;JJ)I"⟩ : MethodName)) (W := 0) (argsL := [(.ref w_GREATER_OR_EQUAL), (.long i1), (.long i2)]) (rest := []) (hw _ (List.mem_of_getElem? (i := 31) rfl)) (hw _ (List.mem_of_getElem? (i := 32) rfl)) (hw _ (List.mem_of_getElem? (i := 33) rfl)) (hw _ (List.mem_of_getElem? (i := 34) rfl)) (by decide) (own_eval_GREATER_OR_EQUAL l Z a0 hw w_EQUALS w_NOT_EQUALS w_LESS w_LESS_OR_EQUAL w_GREATER w_GREATER_OR_EQUAL i1 i2 h7 n0 (S_EQUALS.ext O.2) (S_NOT_EQUALS.ext O.2) (S_LESS.ext O.2) (S_LESS_OR_EQUAL.ext O.2) (S_GREATER.ext O.2) (S_GREATER_OR_EQUAL.ext O.2) n_GREATER_OR_EQUAL_EQUALS n_GREATER_OR_EQUAL_NOT_EQUALS n_GREATER_OR_EQUAL_LESS n_GREATER_OR_EQUAL_LESS_OR_EQUAL n_GREATER_OR_EQUAL_GREATER) (K' := 1) (S' := 6) (by decide) (by decide) rfl own_pd__Lcom_example_schema_facade_schemafacade_statement_Condition_Comparison_Operator_JJ_I rfl (Nat.le_of_eq rfl) rfl rfl (by decide) (by decide) rfl at_66 rfl (fun v h' hq => ?_)
    obtain ⟨rfl, hh⟩ := hq
    refine Go.at (st' := [(.int (if lcmpW i1 i2 < 0 then (0 : Int32) else 1))]) rfl ?_
    refine Go.heap hh ?_
    refine OwnW.istore C (pc' := 71) at_69 rfl (l' := #[.val (.int i0), .val (.long i1), .second, .val (.long i2), .second, .val (.ref b1), .val (.ref w_GREATER_OR_EQUAL), .val (.ref w_LESS_OR_EQUAL), .val (.int (if lcmpW i1 i2 < 0 then (0 : Int32) else 1)), .unset]) rfl ?_
    refine OwnW.aload C (pc' := 73) at_71 rfl rfl rfl ?_
    refine OwnW.lloadN C (pc' := 74) at_73 rfl rfl ?_
    refine OwnW.lloadN C (pc' := 75) at_74 rfl rfl ?_
    refine OwnW.callS C (pc' := 78) (y := (⟨"com/example/schema_facade/schemafacade/statement/OperatorSwappedPinLaw", "eval", "(Lcom/example/schema_facade/schemafacade/statement/Condition$Comparison$Operator;JJ)I"⟩ : MethodName)) (W := 0) (argsL := [(.ref w_LESS_OR_EQUAL), (.long i2), (.long i1)]) (rest := []) (hw _ (List.mem_of_getElem? (i := 31) rfl)) (hw _ (List.mem_of_getElem? (i := 32) rfl)) (hw _ (List.mem_of_getElem? (i := 33) rfl)) (hw _ (List.mem_of_getElem? (i := 34) rfl)) (by decide) (own_eval_LESS_OR_EQUAL l Z a0 hw w_EQUALS w_NOT_EQUALS w_LESS w_LESS_OR_EQUAL i2 i1 h7 n0 (S_EQUALS.ext O.2) (S_NOT_EQUALS.ext O.2) (S_LESS.ext O.2) (S_LESS_OR_EQUAL.ext O.2) n_LESS_OR_EQUAL_EQUALS n_LESS_OR_EQUAL_NOT_EQUALS n_LESS_OR_EQUAL_LESS) (K' := 1) (S' := 6) (by decide) (by decide) rfl own_pd__Lcom_example_schema_facade_schemafacade_statement_Condition_Comparison_Operator_JJ_I rfl (Nat.le_of_eq rfl) rfl rfl (by decide) (by decide) rfl at_75 rfl (fun v h' hq => ?_)
    obtain ⟨rfl, hh⟩ := hq
    refine Go.at (st' := [(.int (if 0 < lcmpW i2 i1 then (0 : Int32) else 1))]) rfl ?_
    refine Go.heap hh ?_
    refine OwnW.istore C (pc' := 80) at_78 rfl (l' := #[.val (.int i0), .val (.long i1), .second, .val (.long i2), .second, .val (.ref b1), .val (.ref w_GREATER_OR_EQUAL), .val (.ref w_LESS_OR_EQUAL), .val (.int (if lcmpW i1 i2 < 0 then (0 : Int32) else 1)), .val (.int (if 0 < lcmpW i2 i1 then (0 : Int32) else 1))]) rfl ?_
    refine OwnW.iload C (pc' := 82) at_80 rfl rfl ?_
    refine OwnW.ifLt C (pcY := 96) (pcN := 85) at_82 (by decide) rfl rfl (fun hc82 => absurd hc82 (own_nn_GREATER_OR_EQUAL i1 i2)) (fun hc82 => ?_)
    refine OwnW.iload C (pc' := 87) at_85 rfl rfl ?_
    refine OwnW.iload C (pc' := 89) at_87 rfl rfl ?_
    refine OwnW.icNe C (pcY := 96) (pcN := 92) at_89 (by decide) rfl rfl (fun hc89 => absurd (own_sw_GREATER_OR_EQUAL i1 i2) hc89) (fun hc89 => ?_)
    refine OwnW.iconst C (pc' := 93) at_92 rfl (z := 1) rfl ?_
    refine OwnW.goto C (pc' := 97) at_93 (by decide) rfl ?_
    exact OwnW.retN C (t := .boolean) (z := (1 : Int32)) rfl (by simp) rfl rfl (by decide) (by decide) at_97
set_option maxRecDepth 65536 in
set_option maxHeartbeats 40000000 in
theorem own_comes {Post : Tables → Env → Array Value → State → Outcome → State → Prop} (hpost : ∀ tb e args s v u, (limb_1_1.after args s (.returned v) u = true ∧ limb_1_2.after args s (.returned v) u = true) → FrameEnd s (.returned v) u (Jvm.fieldLocs frame_1_writes args s ++ Jvm.arrayLocs frame_1_arrays args s ++ Jvm.staticLocs frame_1_statics s) 16 128 → Post tb e args s (.returned v) u) :
    ArmFor flags0 classFile x code maxLocals ret World_1 tables_1 room_1 Calls_1 rest_1 Pre_1 Post := by
  intro l hfl _ _ p e ha hc hk s m args below hf hA hF happ hP
  obtain ⟨hcalls, hrest, hpre⟩ := hP
  obtain ⟨-, -, -, hnamed, -, -, -, hat⟩ := (Spec.applies_iff hf).mp happ
  obtain ⟨hg, hn⟩ := and_e (Cond.before_iff.mp (show (Jvm.Cond.and given_1 narrow_1).before args s = true from hpre))
  obtain ⟨gl1, gr1⟩ := and_e hg
  obtain ⟨gl2, gr2⟩ := and_e gr1
  obtain ⟨gl3, gr3⟩ := and_e gr2
  obtain ⟨w0, w1, w2, rfl⟩ : ∃ w0 w1 w2 : Value, args = #[w0, w1, w2] := by
    have hs : args.size = 3 := by simpa [Cond.value, given_1] using gl1
    obtain ⟨L⟩ := args
    match L, hs with
    | [w0, w1, w2], _ => exact ⟨w0, w1, w2, rfl⟩
  have hw := fun d (hd : d ∈ tables_1) => atoms_spec (ws := Jvm.Cond.code x code maxLocals ret :: tables_1) hat d (List.mem_cons_of_mem _ hd)
  obtain ⟨i0, ei0⟩ := is_v gl2
  obtain rfl : w0 = (.int i0) := Option.some.inj ei0
  obtain ⟨i1, ei1⟩ := isL_v gl3
  obtain rfl : w1 = (.long i1) := Option.some.inj ei1
  obtain ⟨i2, ei2⟩ := isL_v gr3
  obtain rfl : w2 = (.long i2) := Option.some.inj ei2
  obtain ⟨gl4, gr4⟩ := and_e hn
  obtain ⟨gl5, gr5⟩ := and_e gr4
  obtain ⟨gl6, gr6⟩ := and_e gr5
  obtain ⟨gl7, gr7⟩ := and_e gr6
  obtain ⟨gl8, gr8⟩ := and_e gr7
  obtain ⟨gl9, gr9⟩ := and_e gr8
  obtain ⟨gl10, gr10⟩ := and_e gr9
  obtain ⟨gl11, gr11⟩ := and_e gr10
  obtain ⟨gl12, gr12⟩ := and_e gr11
  obtain ⟨gl13, gr13⟩ := and_e gr12
  obtain ⟨gl14, gr14⟩ := and_e gr13
  obtain ⟨a_EQUALS, ev_a_EQUALS⟩ := exa_v gl4
  have X_a_EQUALS : Exa s s.heap a_EQUALS "com/example/schema_facade/schemafacade/statement/Condition$Comparison$Operator" := Exa.start ev_a_EQUALS gl4
  have S_a_EQUALS : Sta s s.heap "com/example/schema_facade/schemafacade/statement/Condition$Comparison$Operator" "EQUALS" "Lcom/example/schema_facade/schemafacade/statement/Condition$Comparison$Operator;" (.ref a_EQUALS) := Sta.start ev_a_EQUALS (Or.inr ⟨(hw _ (List.mem_of_getElem? (i := 3) rfl)), (hw _ (List.mem_of_getElem? (i := 4) rfl))⟩)
  obtain ⟨a_NOT_EQUALS, ev_a_NOT_EQUALS⟩ := exa_v gl5
  have X_a_NOT_EQUALS : Exa s s.heap a_NOT_EQUALS "com/example/schema_facade/schemafacade/statement/Condition$Comparison$Operator" := Exa.start ev_a_NOT_EQUALS gl5
  have S_a_NOT_EQUALS : Sta s s.heap "com/example/schema_facade/schemafacade/statement/Condition$Comparison$Operator" "NOT_EQUALS" "Lcom/example/schema_facade/schemafacade/statement/Condition$Comparison$Operator;" (.ref a_NOT_EQUALS) := Sta.start ev_a_NOT_EQUALS (Or.inr ⟨(hw _ (List.mem_of_getElem? (i := 3) rfl)), (hw _ (List.mem_of_getElem? (i := 7) rfl))⟩)
  obtain ⟨a_LESS, ev_a_LESS⟩ := exa_v gl6
  have X_a_LESS : Exa s s.heap a_LESS "com/example/schema_facade/schemafacade/statement/Condition$Comparison$Operator" := Exa.start ev_a_LESS gl6
  have S_a_LESS : Sta s s.heap "com/example/schema_facade/schemafacade/statement/Condition$Comparison$Operator" "LESS" "Lcom/example/schema_facade/schemafacade/statement/Condition$Comparison$Operator;" (.ref a_LESS) := Sta.start ev_a_LESS (Or.inr ⟨(hw _ (List.mem_of_getElem? (i := 3) rfl)), (hw _ (List.mem_of_getElem? (i := 9) rfl))⟩)
  obtain ⟨a_LESS_OR_EQUAL, ev_a_LESS_OR_EQUAL⟩ := exa_v gl7
  have X_a_LESS_OR_EQUAL : Exa s s.heap a_LESS_OR_EQUAL "com/example/schema_facade/schemafacade/statement/Condition$Comparison$Operator" := Exa.start ev_a_LESS_OR_EQUAL gl7
  have S_a_LESS_OR_EQUAL : Sta s s.heap "com/example/schema_facade/schemafacade/statement/Condition$Comparison$Operator" "LESS_OR_EQUAL" "Lcom/example/schema_facade/schemafacade/statement/Condition$Comparison$Operator;" (.ref a_LESS_OR_EQUAL) := Sta.start ev_a_LESS_OR_EQUAL (Or.inr ⟨(hw _ (List.mem_of_getElem? (i := 3) rfl)), (hw _ (List.mem_of_getElem? (i := 11) rfl))⟩)
  obtain ⟨a_GREATER, ev_a_GREATER⟩ := exa_v gl8
  have X_a_GREATER : Exa s s.heap a_GREATER "com/example/schema_facade/schemafacade/statement/Condition$Comparison$Operator" := Exa.start ev_a_GREATER gl8
  have S_a_GREATER : Sta s s.heap "com/example/schema_facade/schemafacade/statement/Condition$Comparison$Operator" "GREATER" "Lcom/example/schema_facade/schemafacade/statement/Condition$Comparison$Operator;" (.ref a_GREATER) := Sta.start ev_a_GREATER (Or.inr ⟨(hw _ (List.mem_of_getElem? (i := 3) rfl)), (hw _ (List.mem_of_getElem? (i := 13) rfl))⟩)
  obtain ⟨a_GREATER_OR_EQUAL, ev_a_GREATER_OR_EQUAL⟩ := exa_v gl9
  have X_a_GREATER_OR_EQUAL : Exa s s.heap a_GREATER_OR_EQUAL "com/example/schema_facade/schemafacade/statement/Condition$Comparison$Operator" := Exa.start ev_a_GREATER_OR_EQUAL gl9
  have S_a_GREATER_OR_EQUAL : Sta s s.heap "com/example/schema_facade/schemafacade/statement/Condition$Comparison$Operator" "GREATER_OR_EQUAL" "Lcom/example/schema_facade/schemafacade/statement/Condition$Comparison$Operator;" (.ref a_GREATER_OR_EQUAL) := Sta.start ev_a_GREATER_OR_EQUAL (Or.inr ⟨(hw _ (List.mem_of_getElem? (i := 3) rfl)), (hw _ (List.mem_of_getElem? (i := 15) rfl))⟩)
  have F_ordinal_a_EQUALS : Fld s s.heap a_EQUALS "java/lang/Enum" "ordinal" "I" (.int 0) := fld_int ev_a_EQUALS gl10
  have F_ordinal_a_GREATER : Fld s s.heap a_GREATER "java/lang/Enum" "ordinal" "I" (.int 4) := fld_int ev_a_GREATER gl11
  have F_ordinal_a_NOT_EQUALS : Fld s s.heap a_NOT_EQUALS "java/lang/Enum" "ordinal" "I" (.int 1) := fld_int ev_a_NOT_EQUALS gl12
  have F_ordinal_a_LESS : Fld s s.heap a_LESS "java/lang/Enum" "ordinal" "I" (.int 2) := fld_int ev_a_LESS gl13
  have F_ordinal_a_LESS_OR_EQUAL : Fld s s.heap a_LESS_OR_EQUAL "java/lang/Enum" "ordinal" "I" (.int 3) := fld_int ev_a_LESS_OR_EQUAL gl14
  have F_ordinal_a_GREATER_OR_EQUAL : Fld s s.heap a_GREATER_OR_EQUAL "java/lang/Enum" "ordinal" "I" (.int 5) := fld_int ev_a_GREATER_OR_EQUAL gr14
  obtain ⟨n, o, h1, h2, h3, v, L, rfl, ⟨rfl, N⟩, hq⟩ := (own_law l s _ hw i0 i1 i2 a_EQUALS a_NOT_EQUALS a_LESS a_LESS_OR_EQUAL a_GREATER a_GREATER_OR_EQUAL s.heap s.heap.size (Old.start s) (Nat.le_refl _) S_a_EQUALS X_a_EQUALS F_ordinal_a_EQUALS S_a_NOT_EQUALS X_a_NOT_EQUALS F_ordinal_a_NOT_EQUALS S_a_LESS X_a_LESS F_ordinal_a_LESS S_a_LESS_OR_EQUAL X_a_LESS_OR_EQUAL F_ordinal_a_LESS_OR_EQUAL S_a_GREATER X_a_GREATER F_ordinal_a_GREATER S_a_GREATER_OR_EQUAL X_a_GREATER_OR_EQUAL F_ordinal_a_GREATER_OR_EQUAL (Fld.ne F_ordinal_a_NOT_EQUALS F_ordinal_a_EQUALS (by decide)) (Fld.ne F_ordinal_a_LESS F_ordinal_a_EQUALS (by decide)) (Fld.ne F_ordinal_a_LESS F_ordinal_a_NOT_EQUALS (by decide)) (Fld.ne F_ordinal_a_LESS_OR_EQUAL F_ordinal_a_EQUALS (by decide)) (Fld.ne F_ordinal_a_LESS_OR_EQUAL F_ordinal_a_NOT_EQUALS (by decide)) (Fld.ne F_ordinal_a_LESS_OR_EQUAL F_ordinal_a_LESS (by decide)) (Fld.ne F_ordinal_a_GREATER F_ordinal_a_EQUALS (by decide)) (Fld.ne F_ordinal_a_GREATER F_ordinal_a_NOT_EQUALS (by decide)) (Fld.ne F_ordinal_a_GREATER F_ordinal_a_LESS (by decide)) (Fld.ne F_ordinal_a_GREATER F_ordinal_a_LESS_OR_EQUAL (by decide)) (Fld.ne F_ordinal_a_GREATER_OR_EQUAL F_ordinal_a_EQUALS (by decide)) (Fld.ne F_ordinal_a_GREATER_OR_EQUAL F_ordinal_a_NOT_EQUALS (by decide)) (Fld.ne F_ordinal_a_GREATER_OR_EQUAL F_ordinal_a_LESS (by decide)) (Fld.ne F_ordinal_a_GREATER_OR_EQUAL F_ordinal_a_LESS_OR_EQUAL (by decide)) (Fld.ne F_ordinal_a_GREATER_OR_EQUAL F_ordinal_a_GREATER (by decide))) tables_1 p e ha hc hk s m _ below hf ((Spec.applies_iff_loose hf).mp happ).1 ⟨rfl, State.Warmed39.refl s, rfl⟩ trivial
  refine ⟨n, _, h1, h2, h3, hpost _ _ _ _ _ _ ⟨Cond.after_iff.mpr rfl, Cond.after_iff.mpr (eq_i res_at (Term.int_eval (1)) rfl)⟩ ⟨hq.1, hq.2.1, (hq.2.2.sift fun y hy => Or.inr (N y hy)).mono (by decide) (by decide)⟩⟩
theorem main_1_1 : Claimed_1_1 := own_comes fun _ _ _ _ _ _ h hF => ⟨h.1, hF⟩
theorem main_1_2 : Claimed_1_2 := own_comes fun _ _ _ _ _ _ h hF => ⟨h.2, hF⟩
end Jvm.Pilot.@@N@@
namespace Jvm.Pilot.@@N@@
open Jvm Jvm.ClassFile Sem Op Lib Jvm.Free Jvm.Stand Jvm.Pilot.@@N@@.Jvm.D
/-! MADE BY PROGRAM (witnessworld.py) out of the Statement's table words and the real class files: 13 classes; the members and pool entries that the words name. The judged class is class 1, her method 2. -/
namespace start1
open Jvm.ClassFile
def u (s : String) : CpInfo := .utf8 (stringToUtf16 s)
/-- a pool by its gaps: so many unusable entries, then the entry; so many at the end -/
def gap : Nat → List CpInfo → List CpInfo
  | 0, r => r
  | n + 1, r => .unusable :: gap n r
def poolList (es : List (Nat × CpInfo)) (last : Nat) : List CpInfo := es.foldr (fun e r => gap e.1 (e.2 :: r)) (gap last [])
def pool (es : List (Nat × CpInfo)) (last : Nat) : Array CpInfo := ⟨poolList es last⟩
def fileOf (pool : Array CpInfo) (this : Nat) (attrs : Array Attribute := #[]) (ms : Array MethodInfo := #[]) (fl : Nat := 33) (sup : Nat := 0) (ifs : Array Nat := #[]) (fds : Array FieldInfo := #[]) : ClassFile where
  minorVersion := 0
  majorVersion := 65
  constantPool := pool
  accessFlags := fl
  thisClass := this
  superClass := sup
  interfaces := ifs
  fields := fds
  methods := ms
  attributes := attrs
def plain (name : String) (sup : Option ClassId) : Class where
  name := name
  kind := .ordinary
  loader := none
  accessFlags := 33
  super := sup
  interfaces := #[]
  cf := none
  fields := #[]
  methods := #[]
  instanceTypes := #[]
  staticTypes := #[]
  resolved := #[]
  callSites := []
  init := .initialized
  statics := none
  mirror := none

def pool0 : Array CpInfo := pool [(5, u "<init>"), (0, u "()V"), (1, .class_ 10), (1, u "java/lang/Object")] 113

def k0m0 : Method := { name := "<init>", desc := "()V", sig := { parameters := [], returnType := none }, accessFlags := 1, code := none }
/-- java/lang/Object -/
def k0 : Class := { plain "java/lang/Object" none with
  accessFlags := 33
  interfaces := #[]
  cf := some (fileOf pool0 8 #[] #[{ accessFlags := 1, nameIndex := 5, descriptorIndex := 6, attributes := #[] }] 33 0 #[] #[])
  fields := #[]
  methods := #[k0m0]
  instanceTypes := #[]
  staticTypes := #[]
  resolved := Array.replicate 124 none
  statics := none }

def pool1 : Array CpInfo := pool [(2, .class_ 4), (1, u "java/lang/Object"), (0, u "<init>"), (0, u "()V"), (0, .fieldref 8 9), (0, .class_ 10), (0, .nameAndType 11 12), (0, u "com/example/schema_facade/schemafacade/statement/Condition$Comparison$Operator"), (0, u "EQUALS"), (0, u "Lcom/example/schema_facade/schemafacade/statement/Condition$Comparison$Operator;"), (0, .fieldref 8 14), (0, .nameAndType 15 12), (0, u "NOT_EQUALS"), (0, .fieldref 8 17), (0, .nameAndType 18 12), (0, u "LESS"), (0, .fieldref 8 20), (0, .nameAndType 21 12), (0, u "LESS_OR_EQUAL"), (0, .fieldref 8 23), (0, .nameAndType 24 12), (0, u "GREATER"), (0, .fieldref 8 26), (0, .nameAndType 27 12), (0, u "GREATER_OR_EQUAL"), (0, .integer 2147483647), (0, .methodref 8 30), (0, .nameAndType 31 32), (0, u "swapped"), (0, u "()Lcom/example/schema_facade/schemafacade/statement/Condition$Comparison$Operator;"), (0, .methodref 34 35), (0, .class_ 36), (0, .nameAndType 37 38), (0, u "com/example/schema_facade/schemafacade/statement/OperatorSwappedPinLaw"), (0, u "eval"), (0, u "(Lcom/example/schema_facade/schemafacade/statement/Condition$Comparison$Operator;JJ)I"), (3, u "law"), (0, u "(IJJ)Z")] 11

def k1m0 : Method := { name := "<init>", desc := "()V", sig := { parameters := [], returnType := none }, accessFlags := 1, code := none }
def k1c1 : Code := { maxStack := 4, maxLocals := 5, code := method_2_code, exceptionTable := #[], attributes := #[] }
def k1m1 : Method := { name := "eval", desc := "(Lcom/example/schema_facade/schemafacade/statement/Condition$Comparison$Operator;JJ)I", sig := { parameters := [(.object "com/example/schema_facade/schemafacade/statement/Condition$Comparison$Operator"), .long, .long], returnType := some .int }, accessFlags := 10, code := some k1c1 }
def k1c2 : Code := { maxStack := 5, maxLocals := 10, code := code, exceptionTable := #[], attributes := #[] }
def k1m2 : Method := { name := "law", desc := "(IJJ)Z", sig := { parameters := [.int, .long, .long], returnType := some .boolean }, accessFlags := 9, code := some k1c2 }
/-- com/example/schema_facade/schemafacade/statement/OperatorSwappedPinLaw -/
def k1 : Class := { plain "com/example/schema_facade/schemafacade/statement/OperatorSwappedPinLaw" (some 0) with
  accessFlags := 49
  interfaces := #[]
  cf := some (fileOf pool1 34 #[] #[{ accessFlags := 1, nameIndex := 5, descriptorIndex := 6, attributes := #[] }, { accessFlags := 10, nameIndex := 37, descriptorIndex := 38, attributes := #[] }, { accessFlags := 9, nameIndex := 42, descriptorIndex := 43, attributes := #[] }] 49 2 #[] #[])
  fields := #[]
  methods := #[k1m0, k1m1, k1m2]
  instanceTypes := #[]
  staticTypes := #[]
  resolved := Array.replicate 55 none
  statics := none }

def pool2 : Array CpInfo := pool [(1, .class_ 2), (0, u "java/lang/constant/Constable"), (0, .class_ 4), (0, u "java/lang/Object")] 6

/-- java/lang/constant/Constable -/
def k2 : Class := { plain "java/lang/constant/Constable" (some 0) with
  accessFlags := 1537
  interfaces := #[]
  cf := some (fileOf pool2 1 #[] #[] 1537 3 #[] #[])
  fields := #[]
  methods := #[]
  instanceTypes := #[]
  staticTypes := #[]
  resolved := Array.replicate 11 none
  statics := none }

def pool3 : Array CpInfo := pool [(1, .class_ 2), (0, u "java/lang/Comparable"), (0, .class_ 4), (0, u "java/lang/Object")] 7

/-- java/lang/Comparable -/
def k3 : Class := { plain "java/lang/Comparable" (some 0) with
  accessFlags := 1537
  interfaces := #[]
  cf := some (fileOf pool3 1 #[] #[] 1537 3 #[] #[])
  fields := #[]
  methods := #[]
  instanceTypes := #[]
  staticTypes := #[]
  resolved := Array.replicate 12 none
  statics := none }

def pool4 : Array CpInfo := pool [(1, .class_ 2), (0, u "java/io/Serializable"), (0, .class_ 4), (0, u "java/lang/Object")] 2

/-- java/io/Serializable -/
def k4 : Class := { plain "java/io/Serializable" (some 0) with
  accessFlags := 1537
  interfaces := #[]
  cf := some (fileOf pool4 1 #[] #[] 1537 3 #[] #[])
  fields := #[]
  methods := #[]
  instanceTypes := #[]
  staticTypes := #[]
  resolved := Array.replicate 7 none
  statics := none }

def pool5 : Array CpInfo := pool [(2, .class_ 4), (1, u "java/lang/Enum"), (0, u "name"), (0, u "Ljava/lang/String;"), (0, .fieldref 2 8), (0, .nameAndType 9 10), (0, u "ordinal"), (0, u "I"), (1, .class_ 14), (1, u "java/lang/Object"), (4, u "hash"), (86, .class_ 108), (1, u "java/lang/Enum$EnumDesc"), (2, .class_ 112), (0, u "java/lang/constant/Constable"), (0, .class_ 114), (0, u "java/lang/Comparable"), (0, .class_ 116), (0, u "java/io/Serializable"), (9, u "()I")] 77

def k5c0 : Code := { maxStack := 1, maxLocals := 1, code := jdk_37_method_2_code, exceptionTable := #[], attributes := #[] }
def k5m0 : Method := { name := "ordinal", desc := "()I", sig := { parameters := [], returnType := some .int }, accessFlags := 17, code := some k5c0 }
/-- java/lang/Enum -/
def k5 : Class := { plain "java/lang/Enum" (some 0) with
  accessFlags := 1057
  interfaces := #[2, 3, 4]
  cf := some (fileOf pool5 2 #[.nestMembers #[106]] #[{ accessFlags := 17, nameIndex := 9, descriptorIndex := 126, attributes := #[] }] 1057 12 #[111, 113, 115] #[{ accessFlags := 18, nameIndex := 5, descriptorIndex := 6, attributes := #[] }, { accessFlags := 18, nameIndex := 9, descriptorIndex := 10, attributes := #[] }, { accessFlags := 2, nameIndex := 19, descriptorIndex := 10, attributes := #[] }])
  fields := #[{ name := "name", type := (.object "java/lang/String"), accessFlags := 18, slot := 0, constantValue := 0 }, { name := "ordinal", type := .int, accessFlags := 18, slot := 1, constantValue := 0 }, { name := "hash", type := .int, accessFlags := 2, slot := 2, constantValue := 0 }]
  methods := #[k5m0]
  instanceTypes := #[(.object "java/lang/String"), .int, .int]
  staticTypes := #[]
  resolved := Array.replicate 204 none
  statics := none }

def pool6 : Array CpInfo := pool [(1, .class_ 2), (0, u "com/example/schema_facade/schemafacade/statement/Condition$Comparison$Operator"), (2, u "EQUALS"), (0, u "Lcom/example/schema_facade/schemafacade/statement/Condition$Comparison$Operator;"), (2, u "NOT_EQUALS"), (0, .fieldref 1 11), (0, .nameAndType 12 6), (0, u "LESS"), (0, .fieldref 1 14), (0, .nameAndType 15 6), (0, u "LESS_OR_EQUAL"), (0, .fieldref 1 17), (0, .nameAndType 18 6), (0, u "GREATER"), (0, .fieldref 1 20), (0, .nameAndType 21 6), (0, u "GREATER_OR_EQUAL"), (2, u "$VALUES"), (0, u "[Lcom/example/schema_facade/schemafacade/statement/Condition$Comparison$Operator;"), (6, .class_ 34), (1, u "java/lang/Enum"), (8, u "sql"), (0, u "Ljava/lang/String;"), (0, .methodref 1 46), (0, .nameAndType 47 48), (0, u "ordinal"), (0, u "()I"), (33, u "swapped"), (0, u "()Lcom/example/schema_facade/schemafacade/statement/Condition$Comparison$Operator;"), (7, .class_ 92), (0, u "com/example/schema_facade/schemafacade/statement/Condition")] 5

def k6c0 : Code := { maxStack := 1, maxLocals := 1, code := prog_54_method_5_code, exceptionTable := #[], attributes := #[] }
def k6m0 : Method := { name := "swapped", desc := "()Lcom/example/schema_facade/schemafacade/statement/Condition$Comparison$Operator;", sig := { parameters := [], returnType := some (.object "com/example/schema_facade/schemafacade/statement/Condition$Comparison$Operator") }, accessFlags := 1, code := some k6c0 }
/-- com/example/schema_facade/schemafacade/statement/Condition$Comparison$Operator -/
def k6 : Class := { plain "com/example/schema_facade/schemafacade/statement/Condition$Comparison$Operator" (some 5) with
  accessFlags := 16433
  interfaces := #[]
  cf := some (fileOf pool6 1 #[.nestHost 91] #[{ accessFlags := 1, nameIndex := 82, descriptorIndex := 83, attributes := #[] }] 16433 32 #[] #[{ accessFlags := 16409, nameIndex := 5, descriptorIndex := 6, attributes := #[] }, { accessFlags := 16409, nameIndex := 9, descriptorIndex := 6, attributes := #[] }, { accessFlags := 16409, nameIndex := 12, descriptorIndex := 6, attributes := #[] }, { accessFlags := 16409, nameIndex := 15, descriptorIndex := 6, attributes := #[] }, { accessFlags := 16409, nameIndex := 18, descriptorIndex := 6, attributes := #[] }, { accessFlags := 16409, nameIndex := 21, descriptorIndex := 6, attributes := #[] }, { accessFlags := 18, nameIndex := 43, descriptorIndex := 44, attributes := #[] }, { accessFlags := 4122, nameIndex := 24, descriptorIndex := 25, attributes := #[] }])
  fields := #[{ name := "EQUALS", type := (.object "com/example/schema_facade/schemafacade/statement/Condition$Comparison$Operator"), accessFlags := 16409, slot := 0, constantValue := 0 }, { name := "NOT_EQUALS", type := (.object "com/example/schema_facade/schemafacade/statement/Condition$Comparison$Operator"), accessFlags := 16409, slot := 1, constantValue := 0 }, { name := "LESS", type := (.object "com/example/schema_facade/schemafacade/statement/Condition$Comparison$Operator"), accessFlags := 16409, slot := 2, constantValue := 0 }, { name := "LESS_OR_EQUAL", type := (.object "com/example/schema_facade/schemafacade/statement/Condition$Comparison$Operator"), accessFlags := 16409, slot := 3, constantValue := 0 }, { name := "GREATER", type := (.object "com/example/schema_facade/schemafacade/statement/Condition$Comparison$Operator"), accessFlags := 16409, slot := 4, constantValue := 0 }, { name := "GREATER_OR_EQUAL", type := (.object "com/example/schema_facade/schemafacade/statement/Condition$Comparison$Operator"), accessFlags := 16409, slot := 5, constantValue := 0 }, { name := "sql", type := (.object "java/lang/String"), accessFlags := 18, slot := 3, constantValue := 0 }, { name := "$VALUES", type := (.array (.object "com/example/schema_facade/schemafacade/statement/Condition$Comparison$Operator")), accessFlags := 4122, slot := 6, constantValue := 0 }]
  methods := #[k6m0]
  instanceTypes := #[(.object "java/lang/String"), .int, .int, (.object "java/lang/String")]
  staticTypes := #[(.object "com/example/schema_facade/schemafacade/statement/Condition$Comparison$Operator"), (.object "com/example/schema_facade/schemafacade/statement/Condition$Comparison$Operator"), (.object "com/example/schema_facade/schemafacade/statement/Condition$Comparison$Operator"), (.object "com/example/schema_facade/schemafacade/statement/Condition$Comparison$Operator"), (.object "com/example/schema_facade/schemafacade/statement/Condition$Comparison$Operator"), (.object "com/example/schema_facade/schemafacade/statement/Condition$Comparison$Operator"), (.array (.object "com/example/schema_facade/schemafacade/statement/Condition$Comparison$Operator"))]
  resolved := Array.replicate 98 none
  statics := some 0 }

def pool7 : Array CpInfo := pool [(1, u "java/lang/Cloneable"), (0, .class_ 1), (0, u "java/lang/Object"), (0, .class_ 3)] 3

/-- java/lang/Cloneable -/
def k7 : Class := { plain "java/lang/Cloneable" (some 0) with
  accessFlags := 1537
  interfaces := #[]
  cf := some (fileOf pool7 2 #[] #[] 1537 4 #[] #[])
  fields := #[]
  methods := #[]
  instanceTypes := #[]
  staticTypes := #[]
  resolved := Array.replicate 8 none
  statics := none }

/-- the primitive byte -/
def k8 : Class := { plain "byte" none with kind := .primitive 'B', accessFlags := 0x411 }
/-- [B -/
def k9 : Class := { plain "[B" (some 0) with kind := .array 8 .byte, interfaces := #[7, 4], accessFlags := 1041 }

/-- the primitive int -/
def k10 : Class := { plain "int" none with kind := .primitive 'I', accessFlags := 0x411 }
/-- [I -/
def k11 : Class := { plain "[I" (some 0) with kind := .array 10 .int, interfaces := #[7, 4], accessFlags := 1041 }

/-- [Lcom/example/schema_facade/schemafacade/statement/Condition$Comparison$Operator; -/
def k12 : Class := { plain "[Lcom/example/schema_facade/schemafacade/statement/Condition$Comparison$Operator;" (some 0) with kind := .array 6 (.object "com/example/schema_facade/schemafacade/statement/Condition$Comparison$Operator"), interfaces := #[7, 4], accessFlags := 1041 }

def heap : Heap := #[{ cls := 6, slots := #[.ref 1, .ref 2, .ref 3, .ref 4, .ref 5, .ref 6, .null], vm := .statics 6 },
  { cls := 6, slots := #[.null, .int 0, .int 0, .null], vm := .none },
  { cls := 6, slots := #[.null, .int 1, .int 0, .null], vm := .none },
  { cls := 6, slots := #[.null, .int 2, .int 0, .null], vm := .none },
  { cls := 6, slots := #[.null, .int 3, .int 0, .null], vm := .none },
  { cls := 6, slots := #[.null, .int 4, .int 0, .null], vm := .none },
  { cls := 6, slots := #[.null, .int 5, .int 0, .null], vm := .none }]
def classes : Array Class := #[k0, k1, k2, k3, k4, k5, k6, k7, k8, k9, k10, k11, k12]
def interned : List (Array UInt16 × Addr) := []
def slotsUsed : Nat := 31
def theMethod : MethodId := ⟨1, 2⟩
def args0 : Array Value := #[.int 1, .long 3, .long 5]
def aboutOver (below : List Frame) : State where
  vm := { classes := classes, interned := interned.toArray }
  heap := heap
  slotsUsed := slotsUsed
  threads := #[{ frames := .invoking theMethod args0 :: below }]
def below0 : List Frame := [.native { method := ⟨0, 0⟩, args := #[] }]
def about1 : State := aboutOver below0
def p0 : Program := .bare "" "" ""
def e0 : Env := launch0.env 0 0 0
theorem w_frames : about1.frames = Frame.invoking theMethod args0 :: below0 := rfl
set_option maxRecDepth 65536 in
theorem w_args : argsFit about1.vm theMethod args0 = true := by decide +kernel
set_option maxRecDepth 65536 in
theorem w_heap : heapFits about1 = true := by decide +kernel
set_option maxRecDepth 65536 in
theorem w_runnable : about1.curStatus? = some .runnable := by decide +kernel
set_option maxRecDepth 65536 in
theorem w_alone : about1.alone = true := by decide +kernel
set_option maxRecDepth 65536 in
theorem w_named : about1.methodNamed? x = some theMethod := by decide +kernel
set_option maxRecDepth 65536 in
theorem w_hears : about1.hears theMethod below0 = true := by decide +kernel
set_option maxRecDepth 65536 in
theorem w_ripe : about1.ripe theMethod args0 below0 = true := by decide +kernel
theorem w_running : about1.status = .running := rfl
set_option maxRecDepth 65536 in
theorem w_room : about1.hasRoom e0.platform room_1 = true :=
  launch0.hasRoom_least _ room_1 (by decide +kernel) (by decide +kernel) (by decide +kernel) (by decide +kernel) (by decide +kernel) (by decide +kernel)
theorem allAtoms_all (ts : List Jvm.Cond) (a : Array Jvm.Value) (st : Jvm.State) : (allAtoms ts).before a st = ts.all (fun c => c.before a st) := by
  induction ts with
  | nil => rfl
  | cons c t ih =>
    show (Jvm.Cond.and c (allAtoms t)).before a st = _
    rw [Jvm.Cond.before_and, ih, List.all_cons]
def words1 : List Jvm.Cond := Jvm.Cond.code x code maxLocals ret :: tables_1
/-- a 'code' word, met by the world's own term for the bytes: nothing is compared byte by byte -/
theorem code_word {y : MethodName} {bytes : ByteArray} {mx : Nat} {rt : Option FieldType} {a : Array Value} {s : State} {m : MethodId} {meth : Method} {c : Code} (h1 : s.methodNamed? y = some m) (h2 : s.vm.method? m = some meth) (h3 : meth.code = some c) (h4 : c.code = bytes)
    (h5 : (c.maxLocals == mx && c.exceptionTable.isEmpty && decide (c.maxStack ≤ mostOperands) && decide (meth.sig.returnType = rt) && !meth.locks && decide (parseMethodDescriptor y.desc = some meth.sig)) = true) : (Jvm.Cond.code y bytes mx rt).before a s = true := by
  simp only [Bool.and_eq_true, beq_iff_eq, Bool.not_eq_true', decide_eq_true_eq] at h5
  obtain ⟨⟨⟨⟨⟨g1, g2⟩, g3⟩, g4⟩, g5⟩, g6⟩ := h5
  simp [Cond.before, Cond.holds, Cond.value, h1, h2, h3, h4, g1, g2, g3, g4, g5, g6]
def isCode : Jvm.Cond → Bool
  | .code _ _ _ _ => true
  | _ => false
theorem all_split {L : List Jvm.Cond} {P : Jvm.Cond → Bool} (h1 : L.all (fun c => isCode c || P c) = true) (h2 : ∀ c ∈ L.filter isCode, P c = true) : L.all P = true := by
  refine List.all_eq_true.mpr fun c hc => ?_
  have h := List.all_eq_true.mp h1 c hc
  rcases Bool.eq_false_or_eq_true (isCode c) with hi | hi
  · exact h2 c (List.mem_filter.mpr ⟨hc, hi⟩)
  · simpa [hi] using h
set_option maxRecDepth 65536 in
theorem w_c0 : (Jvm.Cond.code x code maxLocals ret).before args0 about1 = true := code_word (m := ⟨1, 2⟩) (meth := k1m2) (c := k1c2) (by decide +kernel) rfl rfl rfl (by decide +kernel)
set_option maxRecDepth 65536 in
theorem w_c1 : (Jvm.Cond.code ({ cls := "com/example/schema_facade/schemafacade/statement/Condition$Comparison$Operator", name := "swapped", desc := "()Lcom/example/schema_facade/schemafacade/statement/Condition$Comparison$Operator;" } : Jvm.MethodName) prog_54_method_5_code (1 : Nat) (Option.some (Jvm.ClassFile.FieldType.object "com/example/schema_facade/schemafacade/statement/Condition$Comparison$Operator"))).before args0 about1 = true := code_word (m := ⟨6, 0⟩) (meth := k6m0) (c := k6c0) (by decide +kernel) rfl rfl rfl (by decide +kernel)
set_option maxRecDepth 65536 in
theorem w_c2 : (Jvm.Cond.code ({ cls := "java/lang/Enum", name := "ordinal", desc := "()I" } : Jvm.MethodName) jdk_37_method_2_code (1 : Nat) (Option.some Jvm.ClassFile.FieldType.int)).before args0 about1 = true := code_word (m := ⟨5, 0⟩) (meth := k5m0) (c := k5c0) (by decide +kernel) rfl rfl rfl (by decide +kernel)
set_option maxRecDepth 65536 in
theorem w_c3 : (Jvm.Cond.code ({ cls := "com/example/schema_facade/schemafacade/statement/OperatorSwappedPinLaw", name := "eval", desc := "(Lcom/example/schema_facade/schemafacade/statement/Condition$Comparison$Operator;JJ)I" } : Jvm.MethodName) method_2_code (5 : Nat) (Option.some Jvm.ClassFile.FieldType.int)).before args0 about1 = true := code_word (m := ⟨1, 1⟩) (meth := k1m1) (c := k1c1) (by decide +kernel) rfl rfl rfl (by decide +kernel)
def codes1 : List Jvm.Cond := [Jvm.Cond.code x code maxLocals ret, Jvm.Cond.code ({ cls := "com/example/schema_facade/schemafacade/statement/Condition$Comparison$Operator", name := "swapped", desc := "()Lcom/example/schema_facade/schemafacade/statement/Condition$Comparison$Operator;" } : Jvm.MethodName) prog_54_method_5_code (1 : Nat) (Option.some (Jvm.ClassFile.FieldType.object "com/example/schema_facade/schemafacade/statement/Condition$Comparison$Operator")), Jvm.Cond.code ({ cls := "java/lang/Enum", name := "ordinal", desc := "()I" } : Jvm.MethodName) jdk_37_method_2_code (1 : Nat) (Option.some Jvm.ClassFile.FieldType.int), Jvm.Cond.code ({ cls := "com/example/schema_facade/schemafacade/statement/OperatorSwappedPinLaw", name := "eval", desc := "(Lcom/example/schema_facade/schemafacade/statement/Condition$Comparison$Operator;JJ)I" } : Jvm.MethodName) method_2_code (5 : Nat) (Option.some Jvm.ClassFile.FieldType.int)]
set_option maxRecDepth 65536 in
theorem codes_eq : words1.filter isCode = codes1 := rfl
theorem w_codes : ∀ c ∈ words1.filter isCode, c.before args0 about1 = true := by
  rw [codes_eq]
  intro c hc
  simp only [codes1, List.mem_cons, List.not_mem_nil, or_false] at hc
  rcases hc with rfl | rfl | rfl | rfl
  · exact w_c0
  · exact w_c1
  · exact w_c2
  · exact w_c3
set_option maxRecDepth 65536 in
theorem w_t1 : (words1.take 24).all (fun c => isCode c || c.before args0 about1) = true := by decide +kernel
set_option maxRecDepth 65536 in
theorem w_t2 : (words1.drop 24).all (fun c => isCode c || c.before args0 about1) = true := by decide +kernel
theorem w_tables : (allAtoms (Jvm.Cond.code x code maxLocals ret :: tables_1)).before args0 about1 = true := by
  rw [allAtoms_all]
  show words1.all (fun c => c.before args0 about1) = true
  refine all_split ?_ w_codes
  rw [← List.take_append_drop 24 words1, List.all_append, w_t1, w_t2]
  rfl
set_option maxRecDepth 65536 in
theorem w_case : (Jvm.Cond.and given_1 narrow_1).before args0 about1 = true := by decide +kernel
theorem w_applies : (headSpec (Jvm.Cond.code x code maxLocals ret :: tables_1) room_1).applies x e0.platform about1 = true :=
  (Spec.applies_iff w_frames).mpr ⟨w_running, w_runnable, w_alone, w_named, w_hears, w_ripe, w_room, w_tables⟩
theorem atStart : AtStart classFile x code maxLocals ret World_1 tables_1 room_1 Calls_1 rest_1 Pre_1 launch0 p0 e0 about1 theMethod args0 below0 :=
  ⟨lists_1, trivial, launch0.admits_env _ _ _, launch0.least_env, fairChoices_fair.cas, fairChoices_fair.clock, w_frames, w_args, w_heap, w_applies, trivial, trivial, w_case⟩
end start1
theorem witness_1 : WitnessClaimed_1 := ⟨start1.p0, start1.e0, start1.about1, start1.theMethod, start1.args0, start1.below0, start1.atStart⟩
end Jvm.Pilot.@@N@@
