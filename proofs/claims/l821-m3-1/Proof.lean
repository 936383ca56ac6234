import JvmDerived
import JvmDerived.Pilot.@@N@@Statement
import JvmDerived.Pilot.@@N@@Code
set_option linter.unusedVariables false
set_option linter.unusedSimpArgs false
namespace Jvm.OwnW
open Sem ClassFile Op Lib Jvm.Stand Jvm.Free Jvm.LawKit Jvm.RoadKit
section K
variable {p : Program} {l : Launch} {e : Env} {R : Room} {s : State} {m : MethodId} {args : Array Value} {below : List Frame} {meth : Method} {c : Code} {Z : State} {bytes : ByteArray} {ml : Nat} {own nm : String} {ret : Option FieldType} {n0 K S K' S' : Nat} {Q : Option Value → Heap → Prop} {h : Heap} {a0 : Array Value}
/-- what is fixed in the walk of one body -/
def Cx (p : Program) (l : Launch) (e : Env) (R : Room) (s : State) (m : MethodId) (args : Array Value) (below : List Frame) (meth : Method) (c : Code) (Z : State) (bytes : ByteArray) (ml : Nat) (own : String) (ret : Option FieldType) (nm : String) : Prop :=
  p.tables.exec = Jvm.exec ∧ Z.Warmed39 s.vm ∧ c.code = bytes ∧ c.maxLocals = ml ∧ s.vm.findClass own = some m.cls ∧ meth.locks = false ∧ meth.sig.returnType = ret ∧ meth.name = nm
/-- the walk stands in T: the heap is h, only new places have been written, at most K cells and S slots are made -/
def Sd (p : Program) (l : Launch) (e : Env) (R : Room) (s : State) (m : MethodId) (args : Array Value) (below : List Frame) (meth : Method) (c : Code) (n0 K S : Nat) (h : Heap) (T : State) : Prop :=
  ∃ locs cells slots, Stand p l e R s m args below meth c T locs cells slots ∧ Fr n0 locs ∧ cells ≤ K ∧ slots ≤ S ∧ T.heap = h
/-- from the frame g in T the body runs to its return, and Q holds of what it returns and of the heap -/
def Done (p : Program) (e : Env) (R : Room) (s : State) (below : List Frame) (n0 : Nat) (Q : Option Value → Heap → Prop) (T : State) (g : JFrame) : Prop :=
  ∃ s₂ v L, Steps p.tables e below (T.setTop g) s₂ ∧ s₂.status = .running ∧ Ended s₂ below (.returned v) ∧ Q v s₂.heap ∧ Fr n0 L ∧ FrameEnd s (.returned v) s₂ L R.cells R.slots
def Go (p : Program) (l : Launch) (e : Env) (R : Room) (s : State) (m : MethodId) (args : Array Value) (below : List Frame) (meth : Method) (c : Code) (n0 : Nat) (Q : Option Value → Heap → Prop) (K S : Nat) (h : Heap) (g : JFrame) : Prop :=
  ∀ T, Sd p l e R s m args below meth c n0 K S h T → Done p e R s below n0 Q T g
/-- the contract of a body at the arguments as and the heap h -/
def Ctr (l : Launch) (Z : State) (y : MethodName) (bytes : ByteArray) (ml : Nat) (ret : Option FieldType) (rm : Room) (as : Array Value) (h : Heap) (n0 : Nat) (Q : Option Value → Heap → Prop) : Prop :=
  ∀ ws : List Jvm.Cond, MetFree l y (head1 (Jvm.Cond.code y bytes ml ret :: ws) rm) (fun a U => a = as ∧ Z.Warmed39 U.vm ∧ U.heap = h) (fun _ _ _ _ _ => True) (fun _ U o U' => ∃ v L, o = .returned v ∧ (Q v U'.heap ∧ Fr n0 L) ∧ FrameEnd U o U' L rm.cells rm.slots)
theorem Ctr.of {y : MethodName} {rm : Room} {as : Array Value} (hn : plainFor y = true)
    (body : ∀ (p : Program) (e : Env) (s : State) (m : MethodId) (below : List Frame) (meth : Method) (c : Code), Cx p l e rm s m as below meth c Z bytes ml y.cls ret y.name → Go p l e rm s m as below meth c n0 Q 0 0 h (entryFrame m as ml)) :
    Ctr l Z y bytes ml ret rm as h n0 Q := by
  intro ws
  refine MetFree.of_bodySF hn hisR ?_
  intro p e s m args below meth c s₁ Bd hml hP hK
  obtain ⟨rfl, hZ, hh⟩ := hP
  have X0 : Stand p l e rm s m args below meth c s₁ [] 0 0 := Stand.of_body Bd
  obtain ⟨s₂, v, L, h1, h2, h3, h4, h5, h6⟩ := body p e s m below meth c ⟨Bd.exec, hZ, Bd.bytes, hml, findClass_of_methodNamed Bd.named, Bd.notSynchronized, Bd.returns, (name_of_methodNamed Bd.named Bd.method).1⟩ s₁ ⟨[], 0, 0, X0, Fr.nil _, Nat.le_refl _, Nat.le_refl _, by rw [← hh, Bd.state]; rfl⟩
  exact ⟨s₂, .returned v, h1, h2, h3, v, L, rfl, ⟨h4, h5⟩, h6⟩
theorem Ctr.mono {y : MethodName} {rm : Room} {as : Array Value} {Q' : Option Value → Heap → Prop} (hC : Ctr l Z y bytes ml ret rm as h n0 Q) (hq : ∀ v h', Q v h' → Q' v h') : Ctr l Z y bytes ml ret rm as h n0 Q' := by
  intro ws p e ha hc hk s m args below hf happ hP hK
  obtain ⟨n, o, h1, h2, h3, v, L, h4, ⟨h5, h6⟩, h7⟩ := hC ws p e ha hc hk s m args below hf happ hP hK
  exact ⟨n, o, h1, h2, h3, v, L, h4, ⟨hq _ _ h5, h6⟩, h7⟩
theorem Go.at {pc : Nat} {Ls : Array Slot} {st st' : List Value} (hst : st = st') (n : Go p l e R s m args below meth c n0 Q K S h (mkF m pc Ls st')) : Go p l e R s m args below meth c n0 Q K S h (mkF m pc Ls st) := hst ▸ n
theorem Go.frame {g g' : JFrame} (hg : g = g') (n : Go p l e R s m args below meth c n0 Q K S h g') : Go p l e R s m args below meth c n0 Q K S h g := hg ▸ n
theorem Go.heap {g : JFrame} {h' : Heap} (hh : h = h') (n : Go p l e R s m args below meth c n0 Q K S h' g) : Go p l e R s m args below meth c n0 Q K S h g := hh ▸ n
theorem Go.by {g g' : JFrame} (hst : ∀ T locs cells slots, Stand p l e R s m args below meth c T locs cells slots → T.heap = h → ∀ target, Steps p.tables e below (T.setTop g') target → Steps p.tables e below (T.setTop g) target) (n : Go p l e R s m args below meth c n0 Q K S h g') : Go p l e R s m args below meth c n0 Q K S h g :=
  fun T ⟨ls, cs, ss, X, r⟩ => by
    obtain ⟨s₂, v, L, h1, h2⟩ := n T ⟨ls, cs, ss, X, r⟩
    exact ⟨s₂, v, L, hst T ls cs ss X r.2.2.2 _ h1, h2⟩
theorem Go.weak {g : JFrame} (hK : K ≤ K') (hS : S ≤ S') (n : Go p l e R s m args below meth c n0 Q K' S' h g) : Go p l e R s m args below meth c n0 Q K S h g := fun T ⟨ls, cs, ss, X, N, a, b, e'⟩ => n T ⟨ls, cs, ss, X, N, Nat.le_trans a hK, Nat.le_trans b hS, e'⟩
/-- a law that hands back a new state over the same heap -/
theorem Go.law {g g' : JFrame} (hst : ∀ T locs cells slots, Stand p l e R s m args below meth c T locs cells slots → T.heap = h → ∃ T', Stand p l e R s m args below meth c T' locs cells slots ∧ T'.heap = h ∧ ∀ target, Steps p.tables e below (T'.setTop g') target → Steps p.tables e below (T.setTop g) target) (n : Go p l e R s m args below meth c n0 Q K S h g') : Go p l e R s m args below meth c n0 Q K S h g :=
  fun T ⟨ls, cs, ss, X, r⟩ => by
    obtain ⟨T', X', e', st⟩ := hst T ls cs ss X r.2.2.2
    obtain ⟨s₂, v, L, h1, h2⟩ := n T' ⟨ls, cs, ss, X', r.1, r.2.1, r.2.2.1, e'⟩
    exact ⟨s₂, v, L, st _ h1, h2⟩
/-- a law that writes one place of a new cell -/
theorem Go.write {g g' : JFrame} {a : Addr} {sl : Nat} {v : Value} (ha : n0 ≤ a) (hst : ∀ T locs cells slots, Stand p l e R s m args below meth c T locs cells slots → T.heap = h → ∃ T' h', Stand p l e R s m args below meth c T' (locs ++ [⟨a, sl⟩]) cells slots ∧ T'.heap = h' ∧ Wr h h' a sl v ∧ ∀ target, Steps p.tables e below (T'.setTop g') target → Steps p.tables e below (T.setTop g) target)
    (n : ∀ h', Wr h h' a sl v → Go p l e R s m args below meth c n0 Q K S h' g') : Go p l e R s m args below meth c n0 Q K S h g :=
  fun T ⟨ls, cs, ss, X, r⟩ => by
    obtain ⟨T', h', X', e', W, st⟩ := hst T ls cs ss X r.2.2.2
    obtain ⟨s₂, v, L, h1, h2⟩ := n h' W T' ⟨_, cs, ss, X', Fr.snoc X' r.1 ha, r.2.1, r.2.2.1, e'⟩
    exact ⟨s₂, v, L, st _ h1, h2⟩
theorem iloadN (C : Cx p l e R s m args below meth c Z bytes ml own ret nm) {pc pc' : Nat} {Ls : Array Slot} {st : List Value} {k : Fin 4} {v : Int32}  (hd : decode bytes pc = .ok (.iload_n k, 1)) (hp : pc + 1 = pc') (hl : Ls[k.val]? = some (.val (.int v))) (n : Go p l e R s m args below meth c n0 Q K S h (mkF m pc' Ls (.int v :: st))) : Go p l e R s m args below meth c n0 Q K S h (mkF m pc Ls st) := by
  subst hp; exact Go.by (g' := (mkF m (pc + 1) Ls (.int v :: st))) (fun T ls cs ss X eT t kt => XS.iloadN X.here C.1 rfl (hb C.2.2.1 hd) hl kt) n
theorem iload (C : Cx p l e R s m args below meth c Z bytes ml own ret nm) {pc pc' : Nat} {Ls : Array Slot} {st : List Value} {k : Nat} {v : Int32}  (hd : decode bytes pc = .ok (.iload k, 2)) (hp : pc + 2 = pc') (hl : Ls[k]? = some (.val (.int v))) (n : Go p l e R s m args below meth c n0 Q K S h (mkF m pc' Ls (.int v :: st))) : Go p l e R s m args below meth c n0 Q K S h (mkF m pc Ls st) := by
  subst hp; exact Go.by (g' := (mkF m (pc + 2) Ls (.int v :: st))) (fun T ls cs ss X eT t kt => XS.iload X.here C.1 rfl (hb C.2.2.1 hd) hl kt) n
theorem istoreN (C : Cx p l e R s m args below meth c Z bytes ml own ret nm) {pc pc' : Nat} {Ls : Array Slot} {st : List Value} {k : Fin 4} {v : Int32} {l' : Array Slot}  (hd : decode bytes pc = .ok (.istore_n k, 1)) (hp : pc + 1 = pc') (hl : storeLocals Ls k.val (.int v) = some l') (n : Go p l e R s m args below meth c n0 Q K S h (mkF m pc' l' st)) : Go p l e R s m args below meth c n0 Q K S h (mkF m pc Ls (.int v :: st)) := by
  subst hp; exact Go.by (g' := (mkF m (pc + 1) l' st)) (fun T ls cs ss X eT t kt => XS.istoreN X.here C.1 rfl (hb C.2.2.1 hd) rfl hl kt) n
theorem istore (C : Cx p l e R s m args below meth c Z bytes ml own ret nm) {pc pc' : Nat} {Ls : Array Slot} {st : List Value} {k : Nat} {v : Int32} {l' : Array Slot}  (hd : decode bytes pc = .ok (.istore k, 2)) (hp : pc + 2 = pc') (hl : storeLocals Ls k (.int v) = some l') (n : Go p l e R s m args below meth c n0 Q K S h (mkF m pc' l' st)) : Go p l e R s m args below meth c n0 Q K S h (mkF m pc Ls (.int v :: st)) := by
  subst hp; exact Go.by (g' := (mkF m (pc + 2) l' st)) (fun T ls cs ss X eT t kt => XS.istore X.here C.1 rfl (hb C.2.2.1 hd) rfl hl kt) n
theorem lloadN (C : Cx p l e R s m args below meth c Z bytes ml own ret nm) {pc pc' : Nat} {Ls : Array Slot} {st : List Value} {k : Fin 4} {v : Int64}  (hd : decode bytes pc = .ok (.lload_n k, 1)) (hp : pc + 1 = pc') (hl : Ls[k.val]? = some (.val (.long v))) (n : Go p l e R s m args below meth c n0 Q K S h (mkF m pc' Ls (.long v :: st))) : Go p l e R s m args below meth c n0 Q K S h (mkF m pc Ls st) := by
  subst hp; exact Go.by (g' := (mkF m (pc + 1) Ls (.long v :: st))) (fun T ls cs ss X eT t kt => XS.lloadN X.here C.1 rfl (hb C.2.2.1 hd) hl kt) n
theorem lload (C : Cx p l e R s m args below meth c Z bytes ml own ret nm) {pc pc' : Nat} {Ls : Array Slot} {st : List Value} {k : Nat} {v : Int64}  (hd : decode bytes pc = .ok (.lload k, 2)) (hp : pc + 2 = pc') (hl : Ls[k]? = some (.val (.long v))) (n : Go p l e R s m args below meth c n0 Q K S h (mkF m pc' Ls (.long v :: st))) : Go p l e R s m args below meth c n0 Q K S h (mkF m pc Ls st) := by
  subst hp; exact Go.by (g' := (mkF m (pc + 2) Ls (.long v :: st))) (fun T ls cs ss X eT t kt => XS.lload X.here C.1 rfl (hb C.2.2.1 hd) hl kt) n
theorem lstoreN (C : Cx p l e R s m args below meth c Z bytes ml own ret nm) {pc pc' : Nat} {Ls : Array Slot} {st : List Value} {k : Fin 4} {v : Int64} {l' : Array Slot}  (hd : decode bytes pc = .ok (.lstore_n k, 1)) (hp : pc + 1 = pc') (hl : storeLocals Ls k.val (.long v) = some l') (n : Go p l e R s m args below meth c n0 Q K S h (mkF m pc' l' st)) : Go p l e R s m args below meth c n0 Q K S h (mkF m pc Ls (.long v :: st)) := by
  subst hp; exact Go.by (g' := (mkF m (pc + 1) l' st)) (fun T ls cs ss X eT t kt => XS.lstoreN X.here C.1 rfl (hb C.2.2.1 hd) rfl hl kt) n
theorem lstore (C : Cx p l e R s m args below meth c Z bytes ml own ret nm) {pc pc' : Nat} {Ls : Array Slot} {st : List Value} {k : Nat} {v : Int64} {l' : Array Slot}  (hd : decode bytes pc = .ok (.lstore k, 2)) (hp : pc + 2 = pc') (hl : storeLocals Ls k (.long v) = some l') (n : Go p l e R s m args below meth c n0 Q K S h (mkF m pc' l' st)) : Go p l e R s m args below meth c n0 Q K S h (mkF m pc Ls (.long v :: st)) := by
  subst hp; exact Go.by (g' := (mkF m (pc + 2) l' st)) (fun T ls cs ss X eT t kt => XS.lstore X.here C.1 rfl (hb C.2.2.1 hd) rfl hl kt) n
theorem aloadN (C : Cx p l e R s m args below meth c Z bytes ml own ret nm) {pc pc' : Nat} {Ls : Array Slot} {st : List Value} {k : Fin 4} {v : Value}  (hd : decode bytes pc = .ok (.aload_n k, 1)) (hp : pc + 1 = pc') (hl : Ls[k.val]? = some (.val v)) (hv : v.isRef = true) (n : Go p l e R s m args below meth c n0 Q K S h (mkF m pc' Ls (v :: st))) : Go p l e R s m args below meth c n0 Q K S h (mkF m pc Ls st) := by
  subst hp; exact Go.by (g' := (mkF m (pc + 1) Ls (v :: st))) (fun T ls cs ss X eT t kt => XS.aloadN X.here C.1 rfl (hb C.2.2.1 hd) hl hv kt) n
theorem aload (C : Cx p l e R s m args below meth c Z bytes ml own ret nm) {pc pc' : Nat} {Ls : Array Slot} {st : List Value} {k : Nat} {v : Value}  (hd : decode bytes pc = .ok (.aload k, 2)) (hp : pc + 2 = pc') (hl : Ls[k]? = some (.val v)) (hv : v.isRef = true) (n : Go p l e R s m args below meth c n0 Q K S h (mkF m pc' Ls (v :: st))) : Go p l e R s m args below meth c n0 Q K S h (mkF m pc Ls st) := by
  subst hp; exact Go.by (g' := (mkF m (pc + 2) Ls (v :: st))) (fun T ls cs ss X eT t kt => XS.aload X.here C.1 rfl (hb C.2.2.1 hd) hl hv kt) n
theorem astoreN (C : Cx p l e R s m args below meth c Z bytes ml own ret nm) {pc pc' : Nat} {Ls : Array Slot} {st : List Value} {k : Fin 4} {v : Value} {l' : Array Slot}  (hd : decode bytes pc = .ok (.astore_n k, 1)) (hp : pc + 1 = pc') (hv : v.isRef = true) (hl : storeLocals Ls k.val v = some l') (n : Go p l e R s m args below meth c n0 Q K S h (mkF m pc' l' st)) : Go p l e R s m args below meth c n0 Q K S h (mkF m pc Ls (v :: st)) := by
  subst hp; exact Go.by (g' := (mkF m (pc + 1) l' st)) (fun T ls cs ss X eT t kt => XS.astoreN X.here C.1 rfl (hb C.2.2.1 hd) rfl hv hl kt) n
theorem astore (C : Cx p l e R s m args below meth c Z bytes ml own ret nm) {pc pc' : Nat} {Ls : Array Slot} {st : List Value} {k : Nat} {v : Value} {l' : Array Slot}  (hd : decode bytes pc = .ok (.astore k, 2)) (hp : pc + 2 = pc') (hv : v.isRef = true) (hl : storeLocals Ls k v = some l') (n : Go p l e R s m args below meth c n0 Q K S h (mkF m pc' l' st)) : Go p l e R s m args below meth c n0 Q K S h (mkF m pc Ls (v :: st)) := by
  subst hp; exact Go.by (g' := (mkF m (pc + 2) l' st)) (fun T ls cs ss X eT t kt => XS.astore X.here C.1 rfl (hb C.2.2.1 hd) rfl hv hl kt) n
theorem istoreS (C : Cx p l e R s m args below meth c Z bytes ml own ret nm) {pc pc' : Nat} {Ls : Array Slot} {st : List Value} {k : Nat} {v : Int32} {o : Slot} {l' : Array Slot}  (hd : decode bytes pc = .ok (.istore k, 2)) (hp : pc + 2 = pc') (ho : Ls[k]? = some o) (h1 : One o) (hl : Ls.setIfInBounds k (.val (.int v)) = l') (n : Go p l e R s m args below meth c n0 Q K S h (mkF m pc' l' st)) : Go p l e R s m args below meth c n0 Q K S h (mkF m pc Ls (.int v :: st)) := by
  subst hp; exact Go.by (g' := (mkF m (pc + 2) l' st)) (fun T ls cs ss X eT t kt => XS.istoreS X.here C.1 rfl (hb C.2.2.1 hd) rfl ho h1 (hl ▸ kt)) n
theorem astoreS (C : Cx p l e R s m args below meth c Z bytes ml own ret nm) {pc pc' : Nat} {Ls : Array Slot} {st : List Value} {k : Nat} {v : Value} {o : Slot} {l' : Array Slot}  (hd : decode bytes pc = .ok (.astore k, 2)) (hp : pc + 2 = pc') (hv : v.isRef = true) (hc : v.category = 1) (ho : Ls[k]? = some o) (h1 : One o) (hl : Ls.setIfInBounds k (.val v) = l') (n : Go p l e R s m args below meth c n0 Q K S h (mkF m pc' l' st)) : Go p l e R s m args below meth c n0 Q K S h (mkF m pc Ls (v :: st)) := by
  subst hp; exact Go.by (g' := (mkF m (pc + 2) l' st)) (fun T ls cs ss X eT t kt => XS.astoreS X.here C.1 rfl (hb C.2.2.1 hd) rfl hv hc ho h1 (hl ▸ kt)) n
theorem iconst (C : Cx p l e R s m args below meth c Z bytes ml own ret nm) {pc pc' : Nat} {Ls : Array Slot} {st : List Value} {i : Int} {z : Int32}  (hd : decode bytes pc = .ok (.iconst i, 1)) (hp : pc + 1 = pc') (hz : Int32.ofInt i = z) (n : Go p l e R s m args below meth c n0 Q K S h (mkF m pc' Ls (.int z :: st))) : Go p l e R s m args below meth c n0 Q K S h (mkF m pc Ls st) := by
  subst hp; exact Go.by (g' := (mkF m (pc + 1) Ls (.int z :: st))) (fun T ls cs ss X eT t kt => XS.iconst X.here C.1 rfl (hb C.2.2.1 hd) (hz ▸ kt)) n
theorem bipush (C : Cx p l e R s m args below meth c Z bytes ml own ret nm) {pc pc' : Nat} {Ls : Array Slot} {st : List Value} {i : Int} {z : Int32}  (hd : decode bytes pc = .ok (.bipush i, 2)) (hp : pc + 2 = pc') (hz : (Int8.ofInt i).toInt32 = z) (n : Go p l e R s m args below meth c n0 Q K S h (mkF m pc' Ls (.int z :: st))) : Go p l e R s m args below meth c n0 Q K S h (mkF m pc Ls st) := by
  subst hp; exact Go.by (g' := (mkF m (pc + 2) Ls (.int z :: st))) (fun T ls cs ss X eT t kt => XS.bipush X.here C.1 rfl (hb C.2.2.1 hd) (hz ▸ kt)) n
theorem sipush (C : Cx p l e R s m args below meth c Z bytes ml own ret nm) {pc pc' : Nat} {Ls : Array Slot} {st : List Value} {i : Int} {z : Int32}  (hd : decode bytes pc = .ok (.sipush i, 3)) (hp : pc + 3 = pc') (hz : (Int16.ofInt i).toInt32 = z) (n : Go p l e R s m args below meth c n0 Q K S h (mkF m pc' Ls (.int z :: st))) : Go p l e R s m args below meth c n0 Q K S h (mkF m pc Ls st) := by
  subst hp; exact Go.by (g' := (mkF m (pc + 3) Ls (.int z :: st))) (fun T ls cs ss X eT t kt => XS.sipush X.here C.1 rfl (hb C.2.2.1 hd) (hz ▸ kt)) n
theorem lconst (C : Cx p l e R s m args below meth c Z bytes ml own ret nm) {pc pc' : Nat} {Ls : Array Slot} {st : List Value} {i : Fin 2} {z : Int64}  (hd : decode bytes pc = .ok (.lconst i, 1)) (hp : pc + 1 = pc') (hz : Int64.ofNat i.val = z) (n : Go p l e R s m args below meth c n0 Q K S h (mkF m pc' Ls (.long z :: st))) : Go p l e R s m args below meth c n0 Q K S h (mkF m pc Ls st) := by
  subst hp; exact Go.by (g' := (mkF m (pc + 1) Ls (.long z :: st))) (fun T ls cs ss X eT t kt => XS.lconst X.here C.1 rfl (hb C.2.2.1 hd) (hz ▸ kt)) n
theorem aconstNull (C : Cx p l e R s m args below meth c Z bytes ml own ret nm) {pc pc' : Nat} {Ls : Array Slot} {st : List Value}  (hd : decode bytes pc = .ok (.aconst_null, 1)) (hp : pc + 1 = pc')  (n : Go p l e R s m args below meth c n0 Q K S h (mkF m pc' Ls (.null :: st))) : Go p l e R s m args below meth c n0 Q K S h (mkF m pc Ls st) := by
  subst hp; exact Go.by (g' := (mkF m (pc + 1) Ls (.null :: st))) (fun T ls cs ss X eT t kt => XS.aconstNull X.here C.1 rfl (hb C.2.2.1 hd) kt) n
theorem iadd (C : Cx p l e R s m args below meth c Z bytes ml own ret nm) {pc pc' : Nat} {Ls : Array Slot} {st : List Value} {x y : Int32} (hd : decode bytes pc = .ok (.iadd, 1)) (hp : pc + 1 = pc')  (n : Go p l e R s m args below meth c n0 Q K S h (mkF m pc' Ls (.int (x + y) :: st))) : Go p l e R s m args below meth c n0 Q K S h (mkF m pc Ls (.int y :: .int x :: st)) := by
  subst hp; exact Go.by (g' := (mkF m (pc + 1) Ls (.int (x + y) :: st))) (fun T ls cs ss X eT t kt => XS.iadd X.here C.1 rfl (hb C.2.2.1 hd) rfl kt) n
theorem isub (C : Cx p l e R s m args below meth c Z bytes ml own ret nm) {pc pc' : Nat} {Ls : Array Slot} {st : List Value} {x y : Int32} (hd : decode bytes pc = .ok (.isub, 1)) (hp : pc + 1 = pc')  (n : Go p l e R s m args below meth c n0 Q K S h (mkF m pc' Ls (.int (x - y) :: st))) : Go p l e R s m args below meth c n0 Q K S h (mkF m pc Ls (.int y :: .int x :: st)) := by
  subst hp; exact Go.by (g' := (mkF m (pc + 1) Ls (.int (x - y) :: st))) (fun T ls cs ss X eT t kt => XS.isub X.here C.1 rfl (hb C.2.2.1 hd) rfl kt) n
theorem imul (C : Cx p l e R s m args below meth c Z bytes ml own ret nm) {pc pc' : Nat} {Ls : Array Slot} {st : List Value} {x y : Int32} (hd : decode bytes pc = .ok (.imul, 1)) (hp : pc + 1 = pc')  (n : Go p l e R s m args below meth c n0 Q K S h (mkF m pc' Ls (.int (x * y) :: st))) : Go p l e R s m args below meth c n0 Q K S h (mkF m pc Ls (.int y :: .int x :: st)) := by
  subst hp; exact Go.by (g' := (mkF m (pc + 1) Ls (.int (x * y) :: st))) (fun T ls cs ss X eT t kt => XS.imul X.here C.1 rfl (hb C.2.2.1 hd) rfl kt) n
theorem iand (C : Cx p l e R s m args below meth c Z bytes ml own ret nm) {pc pc' : Nat} {Ls : Array Slot} {st : List Value} {x y : Int32} (hd : decode bytes pc = .ok (.iand, 1)) (hp : pc + 1 = pc')  (n : Go p l e R s m args below meth c n0 Q K S h (mkF m pc' Ls (.int (x &&& y) :: st))) : Go p l e R s m args below meth c n0 Q K S h (mkF m pc Ls (.int y :: .int x :: st)) := by
  subst hp; exact Go.by (g' := (mkF m (pc + 1) Ls (.int (x &&& y) :: st))) (fun T ls cs ss X eT t kt => XS.iand X.here C.1 rfl (hb C.2.2.1 hd) rfl kt) n
theorem ior (C : Cx p l e R s m args below meth c Z bytes ml own ret nm) {pc pc' : Nat} {Ls : Array Slot} {st : List Value} {x y : Int32} (hd : decode bytes pc = .ok (.ior, 1)) (hp : pc + 1 = pc')  (n : Go p l e R s m args below meth c n0 Q K S h (mkF m pc' Ls (.int (x ||| y) :: st))) : Go p l e R s m args below meth c n0 Q K S h (mkF m pc Ls (.int y :: .int x :: st)) := by
  subst hp; exact Go.by (g' := (mkF m (pc + 1) Ls (.int (x ||| y) :: st))) (fun T ls cs ss X eT t kt => XS.ior X.here C.1 rfl (hb C.2.2.1 hd) rfl kt) n
theorem ixor (C : Cx p l e R s m args below meth c Z bytes ml own ret nm) {pc pc' : Nat} {Ls : Array Slot} {st : List Value} {x y : Int32} (hd : decode bytes pc = .ok (.ixor, 1)) (hp : pc + 1 = pc')  (n : Go p l e R s m args below meth c n0 Q K S h (mkF m pc' Ls (.int (x ^^^ y) :: st))) : Go p l e R s m args below meth c n0 Q K S h (mkF m pc Ls (.int y :: .int x :: st)) := by
  subst hp; exact Go.by (g' := (mkF m (pc + 1) Ls (.int (x ^^^ y) :: st))) (fun T ls cs ss X eT t kt => XS.ixor X.here C.1 rfl (hb C.2.2.1 hd) rfl kt) n
theorem ladd (C : Cx p l e R s m args below meth c Z bytes ml own ret nm) {pc pc' : Nat} {Ls : Array Slot} {st : List Value} {x y : Int64} (hd : decode bytes pc = .ok (.ladd, 1)) (hp : pc + 1 = pc')  (n : Go p l e R s m args below meth c n0 Q K S h (mkF m pc' Ls (.long (x + y) :: st))) : Go p l e R s m args below meth c n0 Q K S h (mkF m pc Ls (.long y :: .long x :: st)) := by
  subst hp; exact Go.by (g' := (mkF m (pc + 1) Ls (.long (x + y) :: st))) (fun T ls cs ss X eT t kt => XS.ladd X.here C.1 rfl (hb C.2.2.1 hd) rfl kt) n
theorem lsub (C : Cx p l e R s m args below meth c Z bytes ml own ret nm) {pc pc' : Nat} {Ls : Array Slot} {st : List Value} {x y : Int64} (hd : decode bytes pc = .ok (.lsub, 1)) (hp : pc + 1 = pc')  (n : Go p l e R s m args below meth c n0 Q K S h (mkF m pc' Ls (.long (x - y) :: st))) : Go p l e R s m args below meth c n0 Q K S h (mkF m pc Ls (.long y :: .long x :: st)) := by
  subst hp; exact Go.by (g' := (mkF m (pc + 1) Ls (.long (x - y) :: st))) (fun T ls cs ss X eT t kt => XS.lsub X.here C.1 rfl (hb C.2.2.1 hd) rfl kt) n
theorem lmul (C : Cx p l e R s m args below meth c Z bytes ml own ret nm) {pc pc' : Nat} {Ls : Array Slot} {st : List Value} {x y : Int64} (hd : decode bytes pc = .ok (.lmul, 1)) (hp : pc + 1 = pc')  (n : Go p l e R s m args below meth c n0 Q K S h (mkF m pc' Ls (.long (x * y) :: st))) : Go p l e R s m args below meth c n0 Q K S h (mkF m pc Ls (.long y :: .long x :: st)) := by
  subst hp; exact Go.by (g' := (mkF m (pc + 1) Ls (.long (x * y) :: st))) (fun T ls cs ss X eT t kt => XS.lmul X.here C.1 rfl (hb C.2.2.1 hd) rfl kt) n
theorem land (C : Cx p l e R s m args below meth c Z bytes ml own ret nm) {pc pc' : Nat} {Ls : Array Slot} {st : List Value} {x y : Int64} (hd : decode bytes pc = .ok (.land, 1)) (hp : pc + 1 = pc')  (n : Go p l e R s m args below meth c n0 Q K S h (mkF m pc' Ls (.long (x &&& y) :: st))) : Go p l e R s m args below meth c n0 Q K S h (mkF m pc Ls (.long y :: .long x :: st)) := by
  subst hp; exact Go.by (g' := (mkF m (pc + 1) Ls (.long (x &&& y) :: st))) (fun T ls cs ss X eT t kt => XS.land X.here C.1 rfl (hb C.2.2.1 hd) rfl kt) n
theorem lor (C : Cx p l e R s m args below meth c Z bytes ml own ret nm) {pc pc' : Nat} {Ls : Array Slot} {st : List Value} {x y : Int64} (hd : decode bytes pc = .ok (.lor, 1)) (hp : pc + 1 = pc')  (n : Go p l e R s m args below meth c n0 Q K S h (mkF m pc' Ls (.long (x ||| y) :: st))) : Go p l e R s m args below meth c n0 Q K S h (mkF m pc Ls (.long y :: .long x :: st)) := by
  subst hp; exact Go.by (g' := (mkF m (pc + 1) Ls (.long (x ||| y) :: st))) (fun T ls cs ss X eT t kt => XS.lor X.here C.1 rfl (hb C.2.2.1 hd) rfl kt) n
theorem lxor (C : Cx p l e R s m args below meth c Z bytes ml own ret nm) {pc pc' : Nat} {Ls : Array Slot} {st : List Value} {x y : Int64} (hd : decode bytes pc = .ok (.lxor, 1)) (hp : pc + 1 = pc')  (n : Go p l e R s m args below meth c n0 Q K S h (mkF m pc' Ls (.long (x ^^^ y) :: st))) : Go p l e R s m args below meth c n0 Q K S h (mkF m pc Ls (.long y :: .long x :: st)) := by
  subst hp; exact Go.by (g' := (mkF m (pc + 1) Ls (.long (x ^^^ y) :: st))) (fun T ls cs ss X eT t kt => XS.lxor X.here C.1 rfl (hb C.2.2.1 hd) rfl kt) n
theorem ishl (C : Cx p l e R s m args below meth c Z bytes ml own ret nm) {pc pc' : Nat} {Ls : Array Slot} {st : List Value} {x y : Int32} (hd : decode bytes pc = .ok (.ishl, 1)) (hp : pc + 1 = pc')  (n : Go p l e R s m args below meth c n0 Q K S h (mkF m pc' Ls (.int (x <<< (y &&& 31)) :: st))) : Go p l e R s m args below meth c n0 Q K S h (mkF m pc Ls (.int y :: .int x :: st)) := by
  subst hp; exact Go.by (g' := (mkF m (pc + 1) Ls (.int (x <<< (y &&& 31)) :: st))) (fun T ls cs ss X eT t kt => XS.ishl X.here C.1 rfl (hb C.2.2.1 hd) rfl kt) n
theorem ishr (C : Cx p l e R s m args below meth c Z bytes ml own ret nm) {pc pc' : Nat} {Ls : Array Slot} {st : List Value} {x y : Int32} (hd : decode bytes pc = .ok (.ishr, 1)) (hp : pc + 1 = pc')  (n : Go p l e R s m args below meth c n0 Q K S h (mkF m pc' Ls (.int (x >>> (y &&& 31)) :: st))) : Go p l e R s m args below meth c n0 Q K S h (mkF m pc Ls (.int y :: .int x :: st)) := by
  subst hp; exact Go.by (g' := (mkF m (pc + 1) Ls (.int (x >>> (y &&& 31)) :: st))) (fun T ls cs ss X eT t kt => XS.ishr X.here C.1 rfl (hb C.2.2.1 hd) rfl kt) n
theorem iushr (C : Cx p l e R s m args below meth c Z bytes ml own ret nm) {pc pc' : Nat} {Ls : Array Slot} {st : List Value} {x y : Int32} (hd : decode bytes pc = .ok (.iushr, 1)) (hp : pc + 1 = pc')  (n : Go p l e R s m args below meth c n0 Q K S h (mkF m pc' Ls (.int ((x.toUInt32 >>> (y &&& 31).toUInt32).toInt32) :: st))) : Go p l e R s m args below meth c n0 Q K S h (mkF m pc Ls (.int y :: .int x :: st)) := by
  subst hp; exact Go.by (g' := (mkF m (pc + 1) Ls (.int ((x.toUInt32 >>> (y &&& 31).toUInt32).toInt32) :: st))) (fun T ls cs ss X eT t kt => XS.iushr X.here C.1 rfl (hb C.2.2.1 hd) rfl kt) n
theorem lshl (C : Cx p l e R s m args below meth c Z bytes ml own ret nm) {pc pc' : Nat} {Ls : Array Slot} {st : List Value} {x : Int64} {y : Int32} (hd : decode bytes pc = .ok (.lshl, 1)) (hp : pc + 1 = pc')  (n : Go p l e R s m args below meth c n0 Q K S h (mkF m pc' Ls (.long (x <<< (y &&& 0x3f).toInt64) :: st))) : Go p l e R s m args below meth c n0 Q K S h (mkF m pc Ls (.int y :: .long x :: st)) := by
  subst hp; exact Go.by (g' := (mkF m (pc + 1) Ls (.long (x <<< (y &&& 0x3f).toInt64) :: st))) (fun T ls cs ss X eT t kt => XS.lshl X.here C.1 rfl (hb C.2.2.1 hd) rfl kt) n
theorem lshr (C : Cx p l e R s m args below meth c Z bytes ml own ret nm) {pc pc' : Nat} {Ls : Array Slot} {st : List Value} {x : Int64} {y : Int32} (hd : decode bytes pc = .ok (.lshr, 1)) (hp : pc + 1 = pc')  (n : Go p l e R s m args below meth c n0 Q K S h (mkF m pc' Ls (.long (x >>> (y &&& 0x3f).toInt64) :: st))) : Go p l e R s m args below meth c n0 Q K S h (mkF m pc Ls (.int y :: .long x :: st)) := by
  subst hp; exact Go.by (g' := (mkF m (pc + 1) Ls (.long (x >>> (y &&& 0x3f).toInt64) :: st))) (fun T ls cs ss X eT t kt => XS.lshr X.here C.1 rfl (hb C.2.2.1 hd) rfl kt) n
theorem lushr (C : Cx p l e R s m args below meth c Z bytes ml own ret nm) {pc pc' : Nat} {Ls : Array Slot} {st : List Value} {x : Int64} {y : Int32} (hd : decode bytes pc = .ok (.lushr, 1)) (hp : pc + 1 = pc')  (n : Go p l e R s m args below meth c n0 Q K S h (mkF m pc' Ls (.long ((x.toUInt64 >>> (y &&& 0x3f).toInt64.toUInt64).toInt64) :: st))) : Go p l e R s m args below meth c n0 Q K S h (mkF m pc Ls (.int y :: .long x :: st)) := by
  subst hp; exact Go.by (g' := (mkF m (pc + 1) Ls (.long ((x.toUInt64 >>> (y &&& 0x3f).toInt64.toUInt64).toInt64) :: st))) (fun T ls cs ss X eT t kt => XS.lushr X.here C.1 rfl (hb C.2.2.1 hd) rfl kt) n
theorem idiv (C : Cx p l e R s m args below meth c Z bytes ml own ret nm) {pc pc' : Nat} {Ls : Array Slot} {st : List Value} {x y : Int32}  (hd : decode bytes pc = .ok (.idiv, 1)) (hp : pc + 1 = pc') (hy : y ≠ 0) (n : Go p l e R s m args below meth c n0 Q K S h (mkF m pc' Ls (.int (x / y) :: st))) : Go p l e R s m args below meth c n0 Q K S h (mkF m pc Ls (.int y :: .int x :: st)) := by
  subst hp; exact Go.by (g' := (mkF m (pc + 1) Ls (.int (x / y) :: st))) (fun T ls cs ss X eT t kt => XS.idiv X.here C.1 rfl (hb C.2.2.1 hd) rfl hy kt) n
theorem irem (C : Cx p l e R s m args below meth c Z bytes ml own ret nm) {pc pc' : Nat} {Ls : Array Slot} {st : List Value} {x y : Int32}  (hd : decode bytes pc = .ok (.irem, 1)) (hp : pc + 1 = pc') (hy : y ≠ 0) (n : Go p l e R s m args below meth c n0 Q K S h (mkF m pc' Ls (.int (x % y) :: st))) : Go p l e R s m args below meth c n0 Q K S h (mkF m pc Ls (.int y :: .int x :: st)) := by
  subst hp; exact Go.by (g' := (mkF m (pc + 1) Ls (.int (x % y) :: st))) (fun T ls cs ss X eT t kt => iremM X C.1 rfl (hb C.2.2.1 hd) rfl hy kt) n
theorem ldiv (C : Cx p l e R s m args below meth c Z bytes ml own ret nm) {pc pc' : Nat} {Ls : Array Slot} {st : List Value} {x y : Int64}  (hd : decode bytes pc = .ok (.ldiv, 1)) (hp : pc + 1 = pc') (hy : y ≠ 0) (n : Go p l e R s m args below meth c n0 Q K S h (mkF m pc' Ls (.long (x / y) :: st))) : Go p l e R s m args below meth c n0 Q K S h (mkF m pc Ls (.long y :: .long x :: st)) := by
  subst hp; exact Go.by (g' := (mkF m (pc + 1) Ls (.long (x / y) :: st))) (fun T ls cs ss X eT t kt => XS.ldiv X.here C.1 rfl (hb C.2.2.1 hd) rfl hy kt) n
theorem ineg (C : Cx p l e R s m args below meth c Z bytes ml own ret nm) {pc pc' : Nat} {Ls : Array Slot} {st : List Value} {x : Int32} (hd : decode bytes pc = .ok (.ineg, 1)) (hp : pc + 1 = pc')  (n : Go p l e R s m args below meth c n0 Q K S h (mkF m pc' Ls (.int (-x) :: st))) : Go p l e R s m args below meth c n0 Q K S h (mkF m pc Ls (.int x :: st)) := by
  subst hp; exact Go.by (g' := (mkF m (pc + 1) Ls (.int (-x) :: st))) (fun T ls cs ss X eT t kt => XS.ineg X.here C.1 rfl (hb C.2.2.1 hd) rfl kt) n
theorem lneg (C : Cx p l e R s m args below meth c Z bytes ml own ret nm) {pc pc' : Nat} {Ls : Array Slot} {st : List Value} {x : Int64} (hd : decode bytes pc = .ok (.lneg, 1)) (hp : pc + 1 = pc')  (n : Go p l e R s m args below meth c n0 Q K S h (mkF m pc' Ls (.long (-x) :: st))) : Go p l e R s m args below meth c n0 Q K S h (mkF m pc Ls (.long x :: st)) := by
  subst hp; exact Go.by (g' := (mkF m (pc + 1) Ls (.long (-x) :: st))) (fun T ls cs ss X eT t kt => XS.lneg X.here C.1 rfl (hb C.2.2.1 hd) rfl kt) n
theorem i2l (C : Cx p l e R s m args below meth c Z bytes ml own ret nm) {pc pc' : Nat} {Ls : Array Slot} {st : List Value} {x : Int32} (hd : decode bytes pc = .ok (.i2l, 1)) (hp : pc + 1 = pc')  (n : Go p l e R s m args below meth c n0 Q K S h (mkF m pc' Ls (.long (x.toInt64) :: st))) : Go p l e R s m args below meth c n0 Q K S h (mkF m pc Ls (.int x :: st)) := by
  subst hp; exact Go.by (g' := (mkF m (pc + 1) Ls (.long (x.toInt64) :: st))) (fun T ls cs ss X eT t kt => XS.i2l X.here C.1 rfl (hb C.2.2.1 hd) rfl kt) n
theorem i2b (C : Cx p l e R s m args below meth c Z bytes ml own ret nm) {pc pc' : Nat} {Ls : Array Slot} {st : List Value} {x : Int32} (hd : decode bytes pc = .ok (.i2b, 1)) (hp : pc + 1 = pc')  (n : Go p l e R s m args below meth c n0 Q K S h (mkF m pc' Ls (.int (x.toInt8.toInt32) :: st))) : Go p l e R s m args below meth c n0 Q K S h (mkF m pc Ls (.int x :: st)) := by
  subst hp; exact Go.by (g' := (mkF m (pc + 1) Ls (.int (x.toInt8.toInt32) :: st))) (fun T ls cs ss X eT t kt => XS.i2b X.here C.1 rfl (hb C.2.2.1 hd) rfl kt) n
theorem i2s (C : Cx p l e R s m args below meth c Z bytes ml own ret nm) {pc pc' : Nat} {Ls : Array Slot} {st : List Value} {x : Int32} (hd : decode bytes pc = .ok (.i2s, 1)) (hp : pc + 1 = pc')  (n : Go p l e R s m args below meth c n0 Q K S h (mkF m pc' Ls (.int (x.toInt16.toInt32) :: st))) : Go p l e R s m args below meth c n0 Q K S h (mkF m pc Ls (.int x :: st)) := by
  subst hp; exact Go.by (g' := (mkF m (pc + 1) Ls (.int (x.toInt16.toInt32) :: st))) (fun T ls cs ss X eT t kt => XS.i2s X.here C.1 rfl (hb C.2.2.1 hd) rfl kt) n
theorem i2c (C : Cx p l e R s m args below meth c Z bytes ml own ret nm) {pc pc' : Nat} {Ls : Array Slot} {st : List Value} {x : Int32} (hd : decode bytes pc = .ok (.i2c, 1)) (hp : pc + 1 = pc')  (n : Go p l e R s m args below meth c n0 Q K S h (mkF m pc' Ls (.int (x.toUInt32.toUInt16.toUInt32.toInt32) :: st))) : Go p l e R s m args below meth c n0 Q K S h (mkF m pc Ls (.int x :: st)) := by
  subst hp; exact Go.by (g' := (mkF m (pc + 1) Ls (.int (x.toUInt32.toUInt16.toUInt32.toInt32) :: st))) (fun T ls cs ss X eT t kt => XS.i2c X.here C.1 rfl (hb C.2.2.1 hd) rfl kt) n
theorem l2i (C : Cx p l e R s m args below meth c Z bytes ml own ret nm) {pc pc' : Nat} {Ls : Array Slot} {st : List Value} {x : Int64} (hd : decode bytes pc = .ok (.l2i, 1)) (hp : pc + 1 = pc')  (n : Go p l e R s m args below meth c n0 Q K S h (mkF m pc' Ls (.int x.toInt32 :: st))) : Go p l e R s m args below meth c n0 Q K S h (mkF m pc Ls (.long x :: st)) := by
  subst hp; exact Go.by (g' := (mkF m (pc + 1) Ls (.int x.toInt32 :: st))) (fun T ls cs ss X eT t kt => XS.l2i X.here C.1 rfl (hb C.2.2.1 hd) rfl kt) n
theorem lcmp (C : Cx p l e R s m args below meth c Z bytes ml own ret nm) {pc pc' : Nat} {Ls : Array Slot} {st : List Value} {x y : Int64} (hd : decode bytes pc = .ok (.lcmp, 1)) (hp : pc + 1 = pc')  (n : Go p l e R s m args below meth c n0 Q K S h (mkF m pc' Ls (.int (lcmpW x y) :: st))) : Go p l e R s m args below meth c n0 Q K S h (mkF m pc Ls (.long y :: .long x :: st)) := by
  subst hp; exact Go.by (g' := (mkF m (pc + 1) Ls (.int (lcmpW x y) :: st))) (fun T ls cs ss X eT t kt => XS.lcmp X.here C.1 rfl (hb C.2.2.1 hd) rfl kt) n
theorem iinc (C : Cx p l e R s m args below meth c Z bytes ml own ret nm) {pc pc' : Nat} {Ls : Array Slot} {st : List Value} {k : Nat} {i : Int} {x : Int32} {l' : Array Slot}  (hd : decode bytes pc = .ok (.iinc k i, 3)) (hp : pc + 3 = pc') (hl : Ls[k]? = some (.val (.int x))) (hl' : storeLocals Ls k (.int (x + Int32.ofInt i)) = some l') (n : Go p l e R s m args below meth c n0 Q K S h (mkF m pc' l' st)) : Go p l e R s m args below meth c n0 Q K S h (mkF m pc Ls st) := by
  subst hp; exact Go.by (g' := (mkF m (pc + 3) l' st)) (fun T ls cs ss X eT t kt => XS.iinc X.here C.1 rfl (hb C.2.2.1 hd) hl hl' kt) n
theorem dup (C : Cx p l e R s m args below meth c Z bytes ml own ret nm) {pc pc' : Nat} {Ls : Array Slot} {st : List Value} {x : Value}  (hd : decode bytes pc = .ok (.dup, 1)) (hp : pc + 1 = pc') (hc : x.category = 1) (n : Go p l e R s m args below meth c n0 Q K S h (mkF m pc' Ls (x :: x :: st))) : Go p l e R s m args below meth c n0 Q K S h (mkF m pc Ls (x :: st)) := by
  subst hp; exact Go.by (g' := (mkF m (pc + 1) Ls (x :: x :: st))) (fun T ls cs ss X eT t kt => XS.dup X.here C.1 rfl (hb C.2.2.1 hd) rfl hc kt) n
theorem pop (C : Cx p l e R s m args below meth c Z bytes ml own ret nm) {pc pc' : Nat} {Ls : Array Slot} {st : List Value} {x : Value}  (hd : decode bytes pc = .ok (.pop, 1)) (hp : pc + 1 = pc') (hc : x.category = 1) (n : Go p l e R s m args below meth c n0 Q K S h (mkF m pc' Ls st)) : Go p l e R s m args below meth c n0 Q K S h (mkF m pc Ls (x :: st)) := by
  subst hp; exact Go.by (g' := (mkF m (pc + 1) Ls st)) (fun T ls cs ss X eT t kt => XS.pop X.here C.1 rfl (hb C.2.2.1 hd) rfl hc kt) n
theorem dupX1 (C : Cx p l e R s m args below meth c Z bytes ml own ret nm) {pc pc' : Nat} {Ls : Array Slot} {st : List Value} {x y : Value}  (hd : decode bytes pc = .ok (.dup_x1, 1)) (hp : pc + 1 = pc') (hc : x.category = 1) (hc' : y.category = 1) (n : Go p l e R s m args below meth c n0 Q K S h (mkF m pc' Ls (x :: y :: x :: st))) : Go p l e R s m args below meth c n0 Q K S h (mkF m pc Ls (x :: y :: st)) := by
  subst hp; exact Go.by (g' := (mkF m (pc + 1) Ls (x :: y :: x :: st))) (fun T ls cs ss X eT t kt => XS.dupX1 X.here C.1 rfl (hb C.2.2.1 hd) rfl hc hc' kt) n
theorem dloadN (C : Cx p l e R s m args below meth c Z bytes ml own ret nm) {pc pc' : Nat} {Ls : Array Slot} {st : List Value} {k : Fin 4} {v : UInt64}  (hd : decode bytes pc = .ok (.dload_n k, 1)) (hp : pc + 1 = pc') (hl : Ls[k.val]? = some (.val (.double v))) (n : Go p l e R s m args below meth c n0 Q K S h (mkF m pc' Ls (.double v :: st))) : Go p l e R s m args below meth c n0 Q K S h (mkF m pc Ls st) := by
  subst hp; exact Go.by (g' := (mkF m (pc + 1) Ls (.double v :: st))) (fun T ls cs ss X eT t kt => XS.dloadN X.here C.1 rfl (hb C.2.2.1 hd) hl kt) n
theorem dload (C : Cx p l e R s m args below meth c Z bytes ml own ret nm) {pc pc' : Nat} {Ls : Array Slot} {st : List Value} {k : Nat} {v : UInt64}  (hd : decode bytes pc = .ok (.dload k, 2)) (hp : pc + 2 = pc') (hl : Ls[k]? = some (.val (.double v))) (n : Go p l e R s m args below meth c n0 Q K S h (mkF m pc' Ls (.double v :: st))) : Go p l e R s m args below meth c n0 Q K S h (mkF m pc Ls st) := by
  subst hp; exact Go.by (g' := (mkF m (pc + 2) Ls (.double v :: st))) (fun T ls cs ss X eT t kt => XS.dload X.here C.1 rfl (hb C.2.2.1 hd) hl kt) n
theorem i2d (C : Cx p l e R s m args below meth c Z bytes ml own ret nm) {pc pc' : Nat} {Ls : Array Slot} {st : List Value} {x : Int32} (hd : decode bytes pc = .ok (.i2d, 1)) (hp : pc + 1 = pc')  (n : Go p l e R s m args below meth c n0 Q K S h (mkF m pc' Ls (.double (FP.i2d x) :: st))) : Go p l e R s m args below meth c n0 Q K S h (mkF m pc Ls (.int x :: st)) := by
  subst hp; exact Go.by (g' := (mkF m (pc + 1) Ls (.double (FP.i2d x) :: st))) (fun T ls cs ss X eT t kt => XS.i2dS X.here C.1 rfl (hb C.2.2.1 hd) rfl rfl kt) n
theorem ddiv (C : Cx p l e R s m args below meth c Z bytes ml own ret nm) {pc pc' : Nat} {Ls : Array Slot} {st : List Value} {x y v : UInt64}  (hd : decode bytes pc = .ok (.ddiv, 1)) (hp : pc + 1 = pc') (hn : Jvm.Free.Fl.NoNaN64 (FP.ddiv x y)) (hv : FP.ddiv x y = v) (n : Go p l e R s m args below meth c n0 Q K S h (mkF m pc' Ls (.double v :: st))) : Go p l e R s m args below meth c n0 Q K S h (mkF m pc Ls (.double y :: .double x :: st)) := by
  subst hp; exact Go.by (g' := (mkF m (pc + 1) Ls (.double v :: st))) (fun T ls cs ss X eT t kt => XS.ddivS X.here C.1 rfl (hb C.2.2.1 hd) rfl hn hv kt) n
theorem dcmp (C : Cx p l e R s m args below meth c Z bytes ml own ret nm) {pc pc' : Nat} {Ls : Array Slot} {st : List Value} {x y : UInt64} {o : CmpOp} {v : Int32}  (hd : decode bytes pc = .ok (.dcmp o, 1)) (hp : pc + 1 = pc') (hv : cmpValue (FP.dcmp x y) o = v) (n : Go p l e R s m args below meth c n0 Q K S h (mkF m pc' Ls (.int v :: st))) : Go p l e R s m args below meth c n0 Q K S h (mkF m pc Ls (.double y :: .double x :: st)) := by
  subst hp; exact Go.by (g' := (mkF m (pc + 1) Ls (.int v :: st))) (fun T ls cs ss X eT t kt => XS.dcmpS X.here C.1 rfl (hb C.2.2.1 hd) rfl hv kt) n
theorem goto (C : Cx p l e R s m args below meth c Z bytes ml own ret nm) {pc pc' : Nat} {Ls : Array Slot} {st : List Value} {o : Int} (hd : decode bytes pc = .ok (.goto o, 3)) (ho : 0 ≤ (pc : Int) + o) (hp : ((pc : Int) + o).toNat = pc') (n : Go p l e R s m args below meth c n0 Q K S h (mkF m pc' Ls st)) : Go p l e R s m args below meth c n0 Q K S h (mkF m pc Ls st) :=
  Go.by (fun T ls cs ss X eT t kt => XS.goto X.here C.1 rfl rfl (hb C.2.2.1 hd) ho hp kt) n
theorem ifG (C : Cx p l e R s m args below meth c Z bytes ml own ret nm) {pc pcY pcN : Nat} {Ls : Array Slot} {st : List Value} {cd : ClassFile.Cond} {o : Int} {x : Int32} (hd : decode bytes pc = .ok (.ifCond cd o, 3)) (ho : 0 ≤ (pc : Int) + o) (hp : ((pc : Int) + o).toNat = pcY) (hp' : pc + 3 = pcN) (ny : ifCond.holds cd x = true → Go p l e R s m args below meth c n0 Q K S h (mkF m pcY Ls st)) (nn : ifCond.holds cd x = false → Go p l e R s m args below meth c n0 Q K S h (mkF m pcN Ls st)) : Go p l e R s m args below meth c n0 Q K S h (mkF m pc Ls (.int x :: st)) := by
  subst hp'
  cases hc : ifCond.holds cd x
  · exact Go.by (g' := (mkF m (pc + 3) Ls st)) (fun T ls cs ss X eT t kt => XS.ifNo X.here C.1 rfl (hb C.2.2.1 hd) rfl hc kt) (nn hc)
  · exact Go.by (fun T ls cs ss X eT t kt => XS.ifYes X.here C.1 rfl rfl (hb C.2.2.1 hd) rfl hc ho hp kt) (ny hc)
theorem icmpG (C : Cx p l e R s m args below meth c Z bytes ml own ret nm) {pc pcY pcN : Nat} {Ls : Array Slot} {st : List Value} {cd : ClassFile.Cond} {o : Int} {x y : Int32} (hd : decode bytes pc = .ok (.if_icmp cd o, 3)) (ho : 0 ≤ (pc : Int) + o) (hp : ((pc : Int) + o).toNat = pcY) (hp' : pc + 3 = pcN) (ny : if_icmp.holds cd x y = true → Go p l e R s m args below meth c n0 Q K S h (mkF m pcY Ls st)) (nn : if_icmp.holds cd x y = false → Go p l e R s m args below meth c n0 Q K S h (mkF m pcN Ls st)) : Go p l e R s m args below meth c n0 Q K S h (mkF m pc Ls (.int y :: .int x :: st)) := by
  subst hp'
  cases hc : if_icmp.holds cd x y
  · exact Go.by (g' := (mkF m (pc + 3) Ls st)) (fun T ls cs ss X eT t kt => XS.icmpNo X.here C.1 rfl (hb C.2.2.1 hd) rfl hc kt) (nn hc)
  · exact Go.by (fun T ls cs ss X eT t kt => XS.icmpYes X.here C.1 rfl rfl (hb C.2.2.1 hd) rfl hc ho hp kt) (ny hc)
theorem ifEq (C : Cx p l e R s m args below meth c Z bytes ml own ret nm) {pc pcY pcN : Nat} {Ls : Array Slot} {st : List Value} {o : Int} {x : Int32} (hd : decode bytes pc = .ok (.ifCond .eq o, 3)) (ho : 0 ≤ (pc : Int) + o) (hp : ((pc : Int) + o).toNat = pcY) (hp' : pc + 3 = pcN) (ny : x = 0 → Go p l e R s m args below meth c n0 Q K S h (mkF m pcY Ls st)) (nn : ¬ x = 0 → Go p l e R s m args below meth c n0 Q K S h (mkF m pcN Ls st)) : Go p l e R s m args below meth c n0 Q K S h (mkF m pc Ls (.int x :: st)) := by
  by_cases hq : x = 0
  · exact ifG C hd ho hp hp' (fun hc => ny hq) (fun hc => absurd (hc.symm.trans ((if0 _ _).trans (teq hq).1)) (by decide))
  · exact ifG C hd ho hp hp' (fun hc => absurd (hc.symm.trans ((if0 _ _).trans (feq hq).1)) (by decide)) (fun hc => nn hq)
theorem icEq (C : Cx p l e R s m args below meth c Z bytes ml own ret nm) {pc pcY pcN : Nat} {Ls : Array Slot} {st : List Value} {o : Int} {x y : Int32} (hd : decode bytes pc = .ok (.if_icmp .eq o, 3)) (ho : 0 ≤ (pc : Int) + o) (hp : ((pc : Int) + o).toNat = pcY) (hp' : pc + 3 = pcN) (ny : x = y → Go p l e R s m args below meth c n0 Q K S h (mkF m pcY Ls st)) (nn : ¬ x = y → Go p l e R s m args below meth c n0 Q K S h (mkF m pcN Ls st)) : Go p l e R s m args below meth c n0 Q K S h (mkF m pc Ls (.int y :: .int x :: st)) := by
  by_cases hq : x = y
  · exact icmpG C hd ho hp hp' (fun hc => ny hq) (fun hc => absurd (hc.symm.trans ((teq hq).1)) (by decide))
  · exact icmpG C hd ho hp hp' (fun hc => absurd (hc.symm.trans ((feq hq).1)) (by decide)) (fun hc => nn hq)
theorem ifNe (C : Cx p l e R s m args below meth c Z bytes ml own ret nm) {pc pcY pcN : Nat} {Ls : Array Slot} {st : List Value} {o : Int} {x : Int32} (hd : decode bytes pc = .ok (.ifCond .ne o, 3)) (ho : 0 ≤ (pc : Int) + o) (hp : ((pc : Int) + o).toNat = pcY) (hp' : pc + 3 = pcN) (ny : ¬ x = 0 → Go p l e R s m args below meth c n0 Q K S h (mkF m pcY Ls st)) (nn : x = 0 → Go p l e R s m args below meth c n0 Q K S h (mkF m pcN Ls st)) : Go p l e R s m args below meth c n0 Q K S h (mkF m pc Ls (.int x :: st)) := by
  by_cases hq : x = 0
  · exact ifG C hd ho hp hp' (fun hc => absurd (hc.symm.trans ((if0 _ _).trans (teq hq).2)) (by decide)) (fun hc => nn hq)
  · exact ifG C hd ho hp hp' (fun hc => ny hq) (fun hc => absurd (hc.symm.trans ((if0 _ _).trans (feq hq).2)) (by decide))
theorem icNe (C : Cx p l e R s m args below meth c Z bytes ml own ret nm) {pc pcY pcN : Nat} {Ls : Array Slot} {st : List Value} {o : Int} {x y : Int32} (hd : decode bytes pc = .ok (.if_icmp .ne o, 3)) (ho : 0 ≤ (pc : Int) + o) (hp : ((pc : Int) + o).toNat = pcY) (hp' : pc + 3 = pcN) (ny : ¬ x = y → Go p l e R s m args below meth c n0 Q K S h (mkF m pcY Ls st)) (nn : x = y → Go p l e R s m args below meth c n0 Q K S h (mkF m pcN Ls st)) : Go p l e R s m args below meth c n0 Q K S h (mkF m pc Ls (.int y :: .int x :: st)) := by
  by_cases hq : x = y
  · exact icmpG C hd ho hp hp' (fun hc => absurd (hc.symm.trans ((teq hq).2)) (by decide)) (fun hc => nn hq)
  · exact icmpG C hd ho hp hp' (fun hc => ny hq) (fun hc => absurd (hc.symm.trans ((feq hq).2)) (by decide))
theorem ifLt (C : Cx p l e R s m args below meth c Z bytes ml own ret nm) {pc pcY pcN : Nat} {Ls : Array Slot} {st : List Value} {o : Int} {x : Int32} (hd : decode bytes pc = .ok (.ifCond .lt o, 3)) (ho : 0 ≤ (pc : Int) + o) (hp : ((pc : Int) + o).toNat = pcY) (hp' : pc + 3 = pcN) (ny : x < 0 → Go p l e R s m args below meth c n0 Q K S h (mkF m pcY Ls st)) (nn : ¬ x < 0 → Go p l e R s m args below meth c n0 Q K S h (mkF m pcN Ls st)) : Go p l e R s m args below meth c n0 Q K S h (mkF m pc Ls (.int x :: st)) := by
  by_cases hq : x < 0
  · exact ifG C hd ho hp hp' (fun hc => ny hq) (fun hc => absurd (hc.symm.trans ((if0 _ _).trans (tlt hq).1)) (by decide))
  · exact ifG C hd ho hp hp' (fun hc => absurd (hc.symm.trans ((if0 _ _).trans (flt hq).1)) (by decide)) (fun hc => nn hq)
theorem icLt (C : Cx p l e R s m args below meth c Z bytes ml own ret nm) {pc pcY pcN : Nat} {Ls : Array Slot} {st : List Value} {o : Int} {x y : Int32} (hd : decode bytes pc = .ok (.if_icmp .lt o, 3)) (ho : 0 ≤ (pc : Int) + o) (hp : ((pc : Int) + o).toNat = pcY) (hp' : pc + 3 = pcN) (ny : x < y → Go p l e R s m args below meth c n0 Q K S h (mkF m pcY Ls st)) (nn : ¬ x < y → Go p l e R s m args below meth c n0 Q K S h (mkF m pcN Ls st)) : Go p l e R s m args below meth c n0 Q K S h (mkF m pc Ls (.int y :: .int x :: st)) := by
  by_cases hq : x < y
  · exact icmpG C hd ho hp hp' (fun hc => ny hq) (fun hc => absurd (hc.symm.trans ((tlt hq).1)) (by decide))
  · exact icmpG C hd ho hp hp' (fun hc => absurd (hc.symm.trans ((flt hq).1)) (by decide)) (fun hc => nn hq)
theorem ifGe (C : Cx p l e R s m args below meth c Z bytes ml own ret nm) {pc pcY pcN : Nat} {Ls : Array Slot} {st : List Value} {o : Int} {x : Int32} (hd : decode bytes pc = .ok (.ifCond .ge o, 3)) (ho : 0 ≤ (pc : Int) + o) (hp : ((pc : Int) + o).toNat = pcY) (hp' : pc + 3 = pcN) (ny : ¬ x < 0 → Go p l e R s m args below meth c n0 Q K S h (mkF m pcY Ls st)) (nn : x < 0 → Go p l e R s m args below meth c n0 Q K S h (mkF m pcN Ls st)) : Go p l e R s m args below meth c n0 Q K S h (mkF m pc Ls (.int x :: st)) := by
  by_cases hq : x < 0
  · exact ifG C hd ho hp hp' (fun hc => absurd (hc.symm.trans ((if0 _ _).trans (tlt hq).2.1)) (by decide)) (fun hc => nn hq)
  · exact ifG C hd ho hp hp' (fun hc => ny hq) (fun hc => absurd (hc.symm.trans ((if0 _ _).trans (flt hq).2.1)) (by decide))
theorem icGe (C : Cx p l e R s m args below meth c Z bytes ml own ret nm) {pc pcY pcN : Nat} {Ls : Array Slot} {st : List Value} {o : Int} {x y : Int32} (hd : decode bytes pc = .ok (.if_icmp .ge o, 3)) (ho : 0 ≤ (pc : Int) + o) (hp : ((pc : Int) + o).toNat = pcY) (hp' : pc + 3 = pcN) (ny : ¬ x < y → Go p l e R s m args below meth c n0 Q K S h (mkF m pcY Ls st)) (nn : x < y → Go p l e R s m args below meth c n0 Q K S h (mkF m pcN Ls st)) : Go p l e R s m args below meth c n0 Q K S h (mkF m pc Ls (.int y :: .int x :: st)) := by
  by_cases hq : x < y
  · exact icmpG C hd ho hp hp' (fun hc => absurd (hc.symm.trans ((tlt hq).2.1)) (by decide)) (fun hc => nn hq)
  · exact icmpG C hd ho hp hp' (fun hc => ny hq) (fun hc => absurd (hc.symm.trans ((flt hq).2.1)) (by decide))
theorem ifGt (C : Cx p l e R s m args below meth c Z bytes ml own ret nm) {pc pcY pcN : Nat} {Ls : Array Slot} {st : List Value} {o : Int} {x : Int32} (hd : decode bytes pc = .ok (.ifCond .gt o, 3)) (ho : 0 ≤ (pc : Int) + o) (hp : ((pc : Int) + o).toNat = pcY) (hp' : pc + 3 = pcN) (ny : 0 < x → Go p l e R s m args below meth c n0 Q K S h (mkF m pcY Ls st)) (nn : ¬ 0 < x → Go p l e R s m args below meth c n0 Q K S h (mkF m pcN Ls st)) : Go p l e R s m args below meth c n0 Q K S h (mkF m pc Ls (.int x :: st)) := by
  by_cases hq : 0 < x
  · exact ifG C hd ho hp hp' (fun hc => ny hq) (fun hc => absurd (hc.symm.trans ((if0 _ _).trans (tlt hq).2.2.1)) (by decide))
  · exact ifG C hd ho hp hp' (fun hc => absurd (hc.symm.trans ((if0 _ _).trans (flt hq).2.2.1)) (by decide)) (fun hc => nn hq)
theorem icGt (C : Cx p l e R s m args below meth c Z bytes ml own ret nm) {pc pcY pcN : Nat} {Ls : Array Slot} {st : List Value} {o : Int} {x y : Int32} (hd : decode bytes pc = .ok (.if_icmp .gt o, 3)) (ho : 0 ≤ (pc : Int) + o) (hp : ((pc : Int) + o).toNat = pcY) (hp' : pc + 3 = pcN) (ny : y < x → Go p l e R s m args below meth c n0 Q K S h (mkF m pcY Ls st)) (nn : ¬ y < x → Go p l e R s m args below meth c n0 Q K S h (mkF m pcN Ls st)) : Go p l e R s m args below meth c n0 Q K S h (mkF m pc Ls (.int y :: .int x :: st)) := by
  by_cases hq : y < x
  · exact icmpG C hd ho hp hp' (fun hc => ny hq) (fun hc => absurd (hc.symm.trans ((tlt hq).2.2.1)) (by decide))
  · exact icmpG C hd ho hp hp' (fun hc => absurd (hc.symm.trans ((flt hq).2.2.1)) (by decide)) (fun hc => nn hq)
theorem ifLe (C : Cx p l e R s m args below meth c Z bytes ml own ret nm) {pc pcY pcN : Nat} {Ls : Array Slot} {st : List Value} {o : Int} {x : Int32} (hd : decode bytes pc = .ok (.ifCond .le o, 3)) (ho : 0 ≤ (pc : Int) + o) (hp : ((pc : Int) + o).toNat = pcY) (hp' : pc + 3 = pcN) (ny : ¬ 0 < x → Go p l e R s m args below meth c n0 Q K S h (mkF m pcY Ls st)) (nn : 0 < x → Go p l e R s m args below meth c n0 Q K S h (mkF m pcN Ls st)) : Go p l e R s m args below meth c n0 Q K S h (mkF m pc Ls (.int x :: st)) := by
  by_cases hq : 0 < x
  · exact ifG C hd ho hp hp' (fun hc => absurd (hc.symm.trans ((if0 _ _).trans (tlt hq).2.2.2)) (by decide)) (fun hc => nn hq)
  · exact ifG C hd ho hp hp' (fun hc => ny hq) (fun hc => absurd (hc.symm.trans ((if0 _ _).trans (flt hq).2.2.2)) (by decide))
theorem icLe (C : Cx p l e R s m args below meth c Z bytes ml own ret nm) {pc pcY pcN : Nat} {Ls : Array Slot} {st : List Value} {o : Int} {x y : Int32} (hd : decode bytes pc = .ok (.if_icmp .le o, 3)) (ho : 0 ≤ (pc : Int) + o) (hp : ((pc : Int) + o).toNat = pcY) (hp' : pc + 3 = pcN) (ny : ¬ y < x → Go p l e R s m args below meth c n0 Q K S h (mkF m pcY Ls st)) (nn : y < x → Go p l e R s m args below meth c n0 Q K S h (mkF m pcN Ls st)) : Go p l e R s m args below meth c n0 Q K S h (mkF m pc Ls (.int y :: .int x :: st)) := by
  by_cases hq : y < x
  · exact icmpG C hd ho hp hp' (fun hc => absurd (hc.symm.trans ((tlt hq).2.2.2)) (by decide)) (fun hc => nn hq)
  · exact icmpG C hd ho hp hp' (fun hc => ny hq) (fun hc => absurd (hc.symm.trans ((flt hq).2.2.2)) (by decide))
theorem acEq (C : Cx p l e R s m args below meth c Z bytes ml own ret nm) {pc pcY pcN : Nat} {Ls : Array Slot} {st : List Value} {o : Int} {x y : Value} (hx : x.isRef = true) (hy : y.isRef = true) (hd : decode bytes pc = .ok (.if_acmp .eq o, 3)) (ho : 0 ≤ (pc : Int) + o) (hp : ((pc : Int) + o).toNat = pcY) (hp' : pc + 3 = pcN) (ny : x = y → Go p l e R s m args below meth c n0 Q K S h (mkF m pcY Ls st)) (nn : ¬ x = y → Go p l e R s m args below meth c n0 Q K S h (mkF m pcN Ls st)) : Go p l e R s m args below meth c n0 Q K S h (mkF m pc Ls (y :: x :: st)) := by
  by_cases hq : x = y
  · exact Go.by (fun T ls cs ss X eT t kt => Jvm.RoadKit.acmp (g := mkF m pc Ls (y :: x :: st)) X C.1 rfl hx hy (same := true) rfl (hb C.2.2.1 hd) rfl (decide_eq_true hq) ho (by first | (simp [acV]; omega) | (simp [acV, ← hp'])) kt) (ny hq)
  · exact Go.by (fun T ls cs ss X eT t kt => Jvm.RoadKit.acmp (g := mkF m pc Ls (y :: x :: st)) X C.1 rfl hx hy (same := false) rfl (hb C.2.2.1 hd) rfl (decide_eq_false hq) ho (by first | (simp [acV]; omega) | (simp [acV, ← hp'])) kt) (nn hq)
theorem acNe (C : Cx p l e R s m args below meth c Z bytes ml own ret nm) {pc pcY pcN : Nat} {Ls : Array Slot} {st : List Value} {o : Int} {x y : Value} (hx : x.isRef = true) (hy : y.isRef = true) (hd : decode bytes pc = .ok (.if_acmp .ne o, 3)) (ho : 0 ≤ (pc : Int) + o) (hp : ((pc : Int) + o).toNat = pcY) (hp' : pc + 3 = pcN) (ny : ¬ x = y → Go p l e R s m args below meth c n0 Q K S h (mkF m pcY Ls st)) (nn : x = y → Go p l e R s m args below meth c n0 Q K S h (mkF m pcN Ls st)) : Go p l e R s m args below meth c n0 Q K S h (mkF m pc Ls (y :: x :: st)) := by
  by_cases hq : x = y
  · exact Go.by (fun T ls cs ss X eT t kt => Jvm.RoadKit.acmp (g := mkF m pc Ls (y :: x :: st)) X C.1 rfl hx hy (same := true) rfl (hb C.2.2.1 hd) rfl (decide_eq_true hq) ho (by first | (simp [acV]; omega) | (simp [acV, ← hp'])) kt) (nn hq)
  · exact Go.by (fun T ls cs ss X eT t kt => Jvm.RoadKit.acmp (g := mkF m pc Ls (y :: x :: st)) X C.1 rfl hx hy (same := false) rfl (hb C.2.2.1 hd) rfl (decide_eq_false hq) ho (by first | (simp [acV]; omega) | (simp [acV, ← hp'])) kt) (ny hq)
theorem ifnull (C : Cx p l e R s m args below meth c Z bytes ml own ret nm) {pc pcY pcN : Nat} {Ls : Array Slot} {st : List Value} {o : Int} {x : Value} (hx : x.isRef = true) (hd : decode bytes pc = .ok (.ifnull o, 3)) (ho : 0 ≤ (pc : Int) + o) (hp : ((pc : Int) + o).toNat = pcY) (hp' : pc + 3 = pcN) (ny : x = .null → Go p l e R s m args below meth c n0 Q K S h (mkF m pcY Ls st)) (nn : (∃ a, x = .ref a) → Go p l e R s m args below meth c n0 Q K S h (mkF m pcN Ls st)) : Go p l e R s m args below meth c n0 Q K S h (mkF m pc Ls (x :: st)) := by
  subst hp'
  rcases ref_cases hx with rfl | ⟨a, rfl⟩
  · exact Go.by (fun T ls cs ss X eT t kt => XS.ifnullYes X.here C.1 rfl rfl (hb C.2.2.1 hd) rfl ho hp kt) (ny rfl)
  · exact Go.by (g' := (mkF m (pc + 3) Ls st)) (fun T ls cs ss X eT t kt => XS.ifnullNo X.here C.1 rfl (hb C.2.2.1 hd) rfl kt) (nn ⟨a, rfl⟩)
theorem ifnonnull (C : Cx p l e R s m args below meth c Z bytes ml own ret nm) {pc pcY pcN : Nat} {Ls : Array Slot} {st : List Value} {o : Int} {x : Value} (hx : x.isRef = true) (hd : decode bytes pc = .ok (.ifnonnull o, 3)) (ho : 0 ≤ (pc : Int) + o) (hp : ((pc : Int) + o).toNat = pcY) (hp' : pc + 3 = pcN) (ny : (∃ a, x = .ref a) → Go p l e R s m args below meth c n0 Q K S h (mkF m pcY Ls st)) (nn : x = .null → Go p l e R s m args below meth c n0 Q K S h (mkF m pcN Ls st)) : Go p l e R s m args below meth c n0 Q K S h (mkF m pc Ls (x :: st)) := by
  subst hp'
  rcases ref_cases hx with rfl | ⟨a, rfl⟩
  · exact Go.by (g' := (mkF m (pc + 3) Ls st)) (fun T ls cs ss X eT t kt => XS.ifnonnullNo X.here C.1 rfl (hb C.2.2.1 hd) rfl kt) (nn rfl)
  · exact Go.by (fun T ls cs ss X eT t kt => XS.ifnonnullYes X.here C.1 rfl rfl (hb C.2.2.1 hd) rfl ho hp kt) (ny ⟨a, rfl⟩)
theorem tsw (C : Cx p l e R s m args below meth c Z bytes ml own ret nm) {pc pc' : Nat} {Ls : Array Slot} {st : List Value} {dflt low high : Int} {offs : Array Int} {len : Nat} {o : Int} {i : Int32} (hd : decode bytes pc = .ok (.tableswitch dflt low high offs, len)) (hin : ¬ (i.toInt < low ∨ i.toInt > high)) (hoff : offs[(i.toInt - low).toNat]? = some o) (ho : 0 ≤ (pc : Int) + o) (hp : ((pc : Int) + o).toNat = pc') (n : Go p l e R s m args below meth c n0 Q K S h (mkF m pc' Ls st)) : Go p l e R s m args below meth c n0 Q K S h (mkF m pc Ls (.int i :: st)) :=
  Go.by (fun T ls cs ss X eT t kt => XS.tswIn X.here C.1 rfl rfl (hb C.2.2.1 hd) rfl hin hoff ho hp kt) n
theorem tswD (C : Cx p l e R s m args below meth c Z bytes ml own ret nm) {pc pc' : Nat} {Ls : Array Slot} {st : List Value} {dflt low high : Int} {offs : Array Int} {len : Nat} {i : Int32} (hd : decode bytes pc = .ok (.tableswitch dflt low high offs, len)) (hin : i.toInt < low ∨ i.toInt > high) (ho : 0 ≤ (pc : Int) + dflt) (hp : ((pc : Int) + dflt).toNat = pc') (n : Go p l e R s m args below meth c n0 Q K S h (mkF m pc' Ls st)) : Go p l e R s m args below meth c n0 Q K S h (mkF m pc Ls (.int i :: st)) :=
  Go.by (fun T ls cs ss X eT t kt => XS.tswOut X.here C.1 rfl rfl (hb C.2.2.1 hd) rfl hin ho hp kt) n
theorem ldcI (C : Cx p l e R s m args below meth c Z bytes ml own ret nm) {pc pc' : Nat} {Ls : Array Slot} {st : List Value} {index : Nat} {v : Int32}  (hd : decode bytes pc = .ok (.ldc index, 2)) (hp : pc + 2 = pc') (w : (Jvm.Cond.constant own index v).before a0 Z = true) (n : Go p l e R s m args below meth c n0 Q K S h (mkF m pc' Ls (.int v :: st))) : Go p l e R s m args below meth c n0 Q K S h (mkF m pc Ls st) := by
  subst hp; exact Go.by (g' := (mkF m (pc + 2) Ls (.int v :: st))) (fun T ls cs ss X eT t kt => X.ldcInt C.1 C.2.2.2.2.1 (mvT C.2.1 w) (g := (mkF m pc Ls st)) rfl (hb C.2.2.1 hd) t kt) n
theorem ldcwI (C : Cx p l e R s m args below meth c Z bytes ml own ret nm) {pc pc' : Nat} {Ls : Array Slot} {st : List Value} {index : Nat} {v : Int32}  (hd : decode bytes pc = .ok (.ldc_w index, 3)) (hp : pc + 3 = pc') (w : (Jvm.Cond.constant own index v).before a0 Z = true) (n : Go p l e R s m args below meth c n0 Q K S h (mkF m pc' Ls (.int v :: st))) : Go p l e R s m args below meth c n0 Q K S h (mkF m pc Ls st) := by
  subst hp; exact Go.by (g' := (mkF m (pc + 3) Ls (.int v :: st))) (fun T ls cs ss X eT t kt => X.ldcwInt C.1 C.2.2.2.2.1 (mvT C.2.1 w) (g := (mkF m pc Ls st)) rfl (hb C.2.2.1 hd) t kt) n
theorem ldc2L (C : Cx p l e R s m args below meth c Z bytes ml own ret nm) {pc pc' : Nat} {Ls : Array Slot} {st : List Value} {index : Nat} {v : Int64}  (hd : decode bytes pc = .ok (.ldc2_w index, 3)) (hp : pc + 3 = pc') (w : (Jvm.Cond.constantLong own index v).before a0 Z = true) (n : Go p l e R s m args below meth c n0 Q K S h (mkF m pc' Ls (.long v :: st))) : Go p l e R s m args below meth c n0 Q K S h (mkF m pc Ls st) := by
  subst hp; exact Go.by (g' := (mkF m (pc + 3) Ls (.long v :: st))) (fun T ls cs ss X eT t kt => X.ldc2Long C.1 C.2.2.2.2.1 (mvT C.2.1 w) (g := (mkF m pc Ls st)) rfl (hb C.2.2.1 hd) t kt) n
theorem ldc2D (C : Cx p l e R s m args below meth c Z bytes ml own ret nm) {pc pc' : Nat} {Ls : Array Slot} {st : List Value} {index : Nat} {v : UInt64}  (hd : decode bytes pc = .ok (.ldc2_w index, 3)) (hp : pc + 3 = pc') (w : (Jvm.Cond.constantDouble own index v).before a0 Z = true) (n : Go p l e R s m args below meth c n0 Q K S h (mkF m pc' Ls (.double v :: st))) : Go p l e R s m args below meth c n0 Q K S h (mkF m pc Ls st) := by
  subst hp; exact Go.by (g' := (mkF m (pc + 3) Ls (.double v :: st))) (fun T ls cs ss X eT t kt => X.ldc2DoubleC C.1 C.2.2.2.2.1 (mvT C.2.1 w) (g := (mkF m pc Ls st)) rfl (hb C.2.2.1 hd) t kt) n
theorem getS (C : Cx p l e R s m args below meth c Z bytes ml own ret nm) {pc pc' : Nat} {Ls : Array Slot} {st : List Value} {R0 O n d host : String} {index : Nat} (w : (Jvm.Cond.fieldLink own index R0 n d).before a0 Z = true ∨ (Jvm.Cond.fieldLinkNest own index R0 n d host).before a0 Z = true) (via : Via Z R0 O n d) {v : Value} (F : Sta Z h O n d v) (hd : decode bytes pc = .ok (.getstatic index, 3)) (hp : pc + 3 = pc') (k : Go p l e R s m args below meth c n0 Q K S h (mkF m pc' Ls (v :: st))) : Go p l e R s m args below meth c n0 Q K S h (mkF m pc Ls st) := by
  subst hp; exact Go.law (fun T ls cs ss X eT => getS2 X C.1 C.2.1 C.2.2.2.2.1 w via eT F (g := (mkF m pc Ls st)) rfl (hb C.2.2.1 hd)) k
theorem getF (C : Cx p l e R s m args below meth c Z bytes ml own ret nm) {pc pc' : Nat} {Ls : Array Slot} {st : List Value} {R0 O n d host : String} {index : Nat} (w : (Jvm.Cond.fieldLink own index R0 n d).before a0 Z = true ∨ (Jvm.Cond.fieldLinkNest own index R0 n d host).before a0 Z = true) (via : Via Z R0 O n d) {a : Addr} {v : Value} (F : Fld Z h a O n d v) (hd : decode bytes pc = .ok (.getfield index, 3)) (hp : pc + 3 = pc') (k : Go p l e R s m args below meth c n0 Q K S h (mkF m pc' Ls (v :: st))) : Go p l e R s m args below meth c n0 Q K S h (mkF m pc Ls (.ref a :: st)) := by
  subst hp; exact Go.law (fun T ls cs ss X eT => Jvm.RoadKit.getF X C.1 C.2.1 C.2.2.2.2.1 w via eT F (g := (mkF m pc Ls (.ref a :: st))) rfl rfl (hb C.2.2.1 hd)) k
theorem putF (C : Cx p l e R s m args below meth c Z bytes ml own ret nm) {pc pc' : Nat} {Ls : Array Slot} {st : List Value} {R0 O n d host : String} {index : Nat} (w : (Jvm.Cond.fieldLink own index R0 n d).before a0 Z = true ∨ (Jvm.Cond.fieldLinkNest own index R0 n d host).before a0 Z = true) (via : Via Z R0 O n d) {Cn : String} {kk : Nat} {ty : FieldType} {a : Addr} {v old : Value} (F : Fld Z h a O n d old) (E : Exa Z h a Cn) (L : (Jvm.Cond.lays Cn O n d).before a0 Z = true ∨ ((Jvm.Cond.laysFinal Cn O n d).before a0 Z = true ∧ own = O ∧ nm = "<init>")) (wi : (Jvm.Cond.instantiable Cn kk).before a0 Z = true) (hty : parseFieldDescriptor d = some ty) (hn : narrow ty v = v) (hf : fits ty v = true) (ha : n0 ≤ a) (hd : decode bytes pc = .ok (.putfield index, 3)) (hp : pc + 3 = pc') (k : ∀ h', Wr h h' a (Jvm.RoadKit.slotOf Z O n d) v → Go p l e R s m args below meth c n0 Q K S h' (mkF m pc' Ls st)) : Go p l e R s m args below meth c n0 Q K S h (mkF m pc Ls (v :: .ref a :: st)) := by
  subst hp; exact Go.write ha (fun T ls cs ss X eT => Jvm.RoadKit.putF X C.1 C.2.1 C.2.2.2.2.1 w via eT F E (L.imp id fun q => ⟨q.1, q.2.1, C.2.2.2.2.2.2.2.trans q.2.2⟩) wi hty hn hf (g := (mkF m pc Ls (v :: .ref a :: st))) rfl rfl (hb C.2.2.1 hd)) k
theorem castY (C : Cx p l e R s m args below meth c Z bytes ml own ret nm) {pc pc' : Nat} {Ls : Array Slot} {st : List Value} {Kn : String} {index : Nat} (w : (Jvm.Cond.classLink own index Kn).before a0 Z = true) {a : Addr} (F : Ins Z h a Kn true) (hd : decode bytes pc = .ok (.checkcast index, 3)) (hp : pc + 3 = pc') (k : Go p l e R s m args below meth c n0 Q K S h (mkF m pc' Ls (.ref a :: st))) : Go p l e R s m args below meth c n0 Q K S h (mkF m pc Ls (.ref a :: st)) := by
  subst hp; exact Go.law (fun T ls cs ss X eT => Jvm.RoadKit.castY X C.1 C.2.1 C.2.2.2.2.1 w eT F (g := (mkF m pc Ls (.ref a :: st))) rfl rfl (hb C.2.2.1 hd)) k
theorem castNull (C : Cx p l e R s m args below meth c Z bytes ml own ret nm) {pc pc' : Nat} {Ls : Array Slot} {st : List Value} {index : Nat} (hd : decode bytes pc = .ok (.checkcast index, 3)) (hp : pc + 3 = pc') (k : Go p l e R s m args below meth c n0 Q K S h (mkF m pc' Ls (.null :: st))) : Go p l e R s m args below meth c n0 Q K S h (mkF m pc Ls (.null :: st)) := by
  subst hp; exact Go.by (g' := (mkF m (pc + 3) Ls (.null :: st))) (fun T ls cs ss X eT t kt => X.checkcastNull C.1 (g := (mkF m pc Ls (.null :: st))) rfl rfl (hb C.2.2.1 hd) t kt) k
theorem newO (C : Cx p l e R s m args below meth c Z bytes ml own ret nm) {pc pc' : Nat} {Ls : Array Slot} {st : List Value} {Cn : String} {index k : Nat} (w : (Jvm.Cond.classLink own index Cn).before a0 Z = true) (wi : (Jvm.Cond.instantiable Cn k).before a0 Z = true) (wz : (Jvm.Cond.initialized Cn).before a0 Z = true) (hd : decode bytes pc = .ok (.new index, 3)) (hp : pc + 3 = pc') (hK : K + 1 = K') (hS : S + k = S') (hK' : K' ≤ R.cells) (hS' : S' ≤ R.slots)
    (n : ∀ (h' : Heap) (a : Addr), a = h.size → Ext h h' → Exa Z h' a Cn → (∀ {O nm d : String} {ty : FieldType}, Laid Z a0 Cn O nm d → parseFieldDescriptor d = some ty → Fld Z h' a O nm d (defaultValue ty)) → Go p l e R s m args below meth c n0 Q K' S' h' (mkF m pc' Ls (.ref a :: st))) : Go p l e R s m args below meth c n0 Q K S h (mkF m pc Ls st) :=
  fun T ⟨ls, cs, ss, X, N, hc, hs, eT⟩ => by
    subst hp hK hS
    obtain ⟨T', h', X', e', E', A', D', -, st⟩ := Jvm.RoadKit.newO X C.1 C.2.1 C.2.2.2.2.1 w wi wz eT (g := (mkF m pc Ls st)) rfl (hb C.2.2.1 hd) (by omega) (by omega)
    obtain ⟨s₂, v, L, h1, h2⟩ := n h' _ rfl E' A' D' T' ⟨ls, _, _, X', N, by omega, by omega, e'⟩
    exact ⟨s₂, v, L, st _ h1, h2⟩
theorem newP (C : Cx p l e R s m args below meth c Z bytes ml own ret nm) {pc pc' : Nat} {Ls : Array Slot} {st : List Value} {aty : ArrayType} (w : (Jvm.Cond.arrayClass (newarray.typeOf aty)).before a0 Z = true) {i : Int32} {cap : Nat} (hn : ¬ i < 0) (hcap : i.toNatClampNeg ≤ cap) (hb8 : cap * 8 ≤ 536870912) (hd : decode bytes pc = .ok (.newarray aty, 2)) (hp : pc + 2 = pc') (hK : K + 1 = K') (hS : S + cap = S') (hK' : K' ≤ R.cells) (hS' : S' ≤ R.slots)
    (n : ∀ (h' : Heap) (a : Addr) (cA : ClassId), a = h.size → Ext h h' → Arv Z h' a cA (newarray.typeOf aty) i [] (defaultValue (newarray.typeOf aty)) → Go p l e R s m args below meth c n0 Q K' S' h' (mkF m pc' Ls (.ref a :: st))) : Go p l e R s m args below meth c n0 Q K S h (mkF m pc Ls (.int i :: st)) :=
  fun T ⟨ls, cs, ss, X, N, hc, hs, eT⟩ => by
    subst hp hK hS
    obtain ⟨T', h', cA, X', e', E', A', st⟩ := Jvm.RoadKit.newP X C.1 C.2.1 w eT (g := (mkF m pc Ls (.int i :: st))) rfl (hb C.2.2.1 hd) rfl hn hcap hb8 (by omega) (by omega)
    obtain ⟨s₂, v, L, h1, h2⟩ := n h' _ cA rfl E' (Arv.new A' hn) T' ⟨ls, _, _, X', N, by omega, by omega, e'⟩
    exact ⟨s₂, v, L, st _ h1, h2⟩
theorem newR (C : Cx p l e R s m args below meth c Z bytes ml own ret nm) {pc pc' : Nat} {Ls : Array Slot} {st : List Value} {Cn ad : String} {index : Nat} (had : "[" ++ (FieldType.object Cn).toString = ad) (w1 : (Jvm.Cond.classLink own index Cn).before a0 Z = true) (w2 : (Jvm.Cond.arrayOver (.object Cn)).before a0 Z = true) {i : Int32} {cap : Nat} (hn : ¬ i < 0) (hcap : i.toNatClampNeg ≤ cap) (hb8 : cap * 8 ≤ 536870912) (hd : decode bytes pc = .ok (.anewarray index, 3)) (hp : pc + 3 = pc') (hK : K + 1 = K') (hS : S + cap = S') (hK' : K' ≤ R.cells) (hS' : S' ≤ R.slots)
    (n : ∀ (h' : Heap) (a : Addr) (cA : ClassId), a = h.size → Ext h h' → Arv Z h' a cA (.object Cn) i [] .null → Exa Z h' a ad → Ovr Z cA Cn → Go p l e R s m args below meth c n0 Q K' S' h' (mkF m pc' Ls (.ref a :: st))) : Go p l e R s m args below meth c n0 Q K S h (mkF m pc Ls (.int i :: st)) :=
  fun T ⟨ls, cs, ss, X, N, hc, hs, eT⟩ => by
    subst hp hK hS
    obtain ⟨T', h', cA, X', e', E', A', X2, O', st⟩ := Jvm.RoadKit.newRE X C.1 C.2.1 C.2.2.2.2.1 w1 w2 eT (g := (mkF m pc Ls (.int i :: st))) rfl (hb C.2.2.1 hd) rfl hn hcap hb8 (by omega) (by omega) had
    obtain ⟨s₂, v, L, h1, h2⟩ := n h' _ cA rfl E' (Arv.new A' hn) X2 O' T' ⟨ls, _, _, X', N, by omega, by omega, e'⟩
    exact ⟨s₂, v, L, st _ h1, h2⟩
theorem newPE (C : Cx p l e R s m args below meth c Z bytes ml own ret nm) {pc pc' : Nat} {Ls : Array Slot} {st : List Value} {aty : ArrayType} {ad : String} (had : "[" ++ (newarray.typeOf aty).toString = ad) (w : (Jvm.Cond.arrayClass (newarray.typeOf aty)).before a0 Z = true) {i : Int32} {cap : Nat} (hn : ¬ i < 0) (hcap : i.toNatClampNeg ≤ cap) (hb8 : cap * 8 ≤ 536870912) (hd : decode bytes pc = .ok (.newarray aty, 2)) (hp : pc + 2 = pc') (hK : K + 1 = K') (hS : S + cap = S') (hK' : K' ≤ R.cells) (hS' : S' ≤ R.slots)
    (n : ∀ (h' : Heap) (a : Addr) (cA : ClassId), a = h.size → Ext h h' → Arv Z h' a cA (newarray.typeOf aty) i [] (defaultValue (newarray.typeOf aty)) → Exa Z h' a ad → Go p l e R s m args below meth c n0 Q K' S' h' (mkF m pc' Ls (.ref a :: st))) : Go p l e R s m args below meth c n0 Q K S h (mkF m pc Ls (.int i :: st)) :=
  fun T ⟨ls, cs, ss, X, N, hc, hs, eT⟩ => by
    subst hp hK hS
    obtain ⟨T', h', cA, X', e', E', A', X2, st⟩ := Jvm.RoadKit.newPE X C.1 C.2.1 w eT (g := (mkF m pc Ls (.int i :: st))) rfl (hb C.2.2.1 hd) rfl hn hcap hb8 (by omega) (by omega) had
    obtain ⟨s₂, v, L, h1, h2⟩ := n h' _ cA rfl E' (Arv.new A' hn) X2 T' ⟨ls, _, _, X', N, by omega, by omega, e'⟩
    exact ⟨s₂, v, L, st _ h1, h2⟩
theorem newRA (C : Cx p l e R s m args below meth c Z bytes ml own ret nm) {pc pc' : Nat} {Ls : Array Slot} {st : List Value} {Cn ad : String} {ty : FieldType} {index : Nat} (hC : (FieldType.array ty).toString = Cn) (had : "[" ++ Cn = ad) (w1 : (Jvm.Cond.classLink own index Cn).before a0 Z = true) (w2 : (Jvm.Cond.arrayOver (.array ty)).before a0 Z = true) {i : Int32} {cap : Nat} (hn : ¬ i < 0) (hcap : i.toNatClampNeg ≤ cap) (hb8 : cap * 8 ≤ 536870912) (hd : decode bytes pc = .ok (.anewarray index, 3)) (hp : pc + 3 = pc') (hK : K + 1 = K') (hS : S + cap = S') (hK' : K' ≤ R.cells) (hS' : S' ≤ R.slots)
    (n : ∀ (h' : Heap) (a : Addr) (cA : ClassId), a = h.size → Ext h h' → Arv Z h' a cA (.array ty) i [] .null → Exa Z h' a ad → OvrA Z cA ty Cn → Go p l e R s m args below meth c n0 Q K' S' h' (mkF m pc' Ls (.ref a :: st))) : Go p l e R s m args below meth c n0 Q K S h (mkF m pc Ls (.int i :: st)) :=
  fun T ⟨ls, cs, ss, X, N, hc, hs, eT⟩ => by
    subst hp hK hS
    obtain ⟨T', h', cA, X', e', E', A', X2, O', st⟩ := Jvm.RoadKit.newRA X C.1 C.2.1 C.2.2.2.2.1 hC w1 w2 eT (g := (mkF m pc Ls (.int i :: st))) rfl (hb C.2.2.1 hd) rfl hn hcap hb8 (by omega) (by omega) had
    obtain ⟨s₂, v, L, h1, h2⟩ := n h' _ cA rfl E' (Arv.new A' hn) X2 O' T' ⟨ls, _, _, X', N, by omega, by omega, e'⟩
    exact ⟨s₂, v, L, st _ h1, h2⟩
theorem iaload (C : Cx p l e R s m args below meth c Z bytes ml own ret nm) {pc pc' : Nat} {Ls : Array Slot} {st : List Value} {a : Addr} {cA : ClassId} {i j : Int32} {vs : List Value} {dv v : Value} (F : Arv Z h a cA .int i vs dv) (hj : ¬ j < 0 ∧ j < i) (hv : vs.getD j.toNatClampNeg dv = v) (hd : decode bytes pc = .ok (.iaload, 1)) (hp : pc + 1 = pc') (n : Go p l e R s m args below meth c n0 Q K S h (mkF m pc' Ls (v :: st))) : Go p l e R s m args below meth c n0 Q K S h (mkF m pc Ls (.int j :: .ref a :: st)) := by
  subst hp; obtain ⟨cl, A, q1, Sz, q3, H, G⟩ := F
  exact Go.by (g' := (mkF m (pc + 1) Ls (v :: st))) (fun T ls cs ss X eT t kt => X.iaload C.1 (j := j) (v := v) (by rw [eT]; exact A.1) (State.isArrayOf_alike C.2.1.alike A.2.1) A.2.2 (inb_of Sz hj) (H.at (inb_of Sz hj) hv) (g := (mkF m pc Ls (.int j :: .ref a :: st))) rfl rfl (hb C.2.2.1 hd) t kt) n
theorem caload (C : Cx p l e R s m args below meth c Z bytes ml own ret nm) {pc pc' : Nat} {Ls : Array Slot} {st : List Value} {a : Addr} {cA : ClassId} {i j : Int32} {vs : List Value} {dv v : Value} (F : Arv Z h a cA .char i vs dv) (hj : ¬ j < 0 ∧ j < i) (hv : vs.getD j.toNatClampNeg dv = v) (hd : decode bytes pc = .ok (.caload, 1)) (hp : pc + 1 = pc') (n : Go p l e R s m args below meth c n0 Q K S h (mkF m pc' Ls (v :: st))) : Go p l e R s m args below meth c n0 Q K S h (mkF m pc Ls (.int j :: .ref a :: st)) := by
  subst hp; obtain ⟨cl, A, q1, Sz, q3, H, G⟩ := F
  exact Go.by (g' := (mkF m (pc + 1) Ls (v :: st))) (fun T ls cs ss X eT t kt => X.caload C.1 (j := j) (v := v) (by rw [eT]; exact A.1) (State.isArrayOf_alike C.2.1.alike A.2.1) A.2.2 (inb_of Sz hj) (H.at (inb_of Sz hj) hv) (g := (mkF m pc Ls (.int j :: .ref a :: st))) rfl rfl (hb C.2.2.1 hd) t kt) n
theorem baload (C : Cx p l e R s m args below meth c Z bytes ml own ret nm) {pc pc' : Nat} {Ls : Array Slot} {st : List Value} {a : Addr} {cA : ClassId} {i j : Int32} {vs : List Value} {dv v : Value} (F : Arv Z h a cA .byte i vs dv) (hj : ¬ j < 0 ∧ j < i) (hv : vs.getD j.toNatClampNeg dv = v) (hd : decode bytes pc = .ok (.baload, 1)) (hp : pc + 1 = pc') (n : Go p l e R s m args below meth c n0 Q K S h (mkF m pc' Ls (v :: st))) : Go p l e R s m args below meth c n0 Q K S h (mkF m pc Ls (.int j :: .ref a :: st)) := by
  subst hp; obtain ⟨cl, A, q1, Sz, q3, H, G⟩ := F
  exact Go.by (g' := (mkF m (pc + 1) Ls (v :: st))) (fun T ls cs ss X eT t kt => X.baloadBytes C.1 (j := j) (v := v) (by rw [eT]; exact A.1) (State.isArrayOf_alike C.2.1.alike A.2.1) A.2.2 (inb_of Sz hj) (H.at (inb_of Sz hj) hv) (g := (mkF m pc Ls (.int j :: .ref a :: st))) rfl rfl (hb C.2.2.1 hd) t kt) n
theorem laload (C : Cx p l e R s m args below meth c Z bytes ml own ret nm) {pc pc' : Nat} {Ls : Array Slot} {st : List Value} {a : Addr} {cA : ClassId} {i j : Int32} {vs : List Value} {dv v : Value} (F : Arv Z h a cA .long i vs dv) (hj : ¬ j < 0 ∧ j < i) (hv : vs.getD j.toNatClampNeg dv = v) (hd : decode bytes pc = .ok (.laload, 1)) (hp : pc + 1 = pc') (n : Go p l e R s m args below meth c n0 Q K S h (mkF m pc' Ls (v :: st))) : Go p l e R s m args below meth c n0 Q K S h (mkF m pc Ls (.int j :: .ref a :: st)) := by
  subst hp; obtain ⟨cl, A, q1, Sz, q3, H, G⟩ := F
  exact Go.by (g' := (mkF m (pc + 1) Ls (v :: st))) (fun T ls cs ss X eT t kt => X.laload C.1 (j := j) (v := v) (by rw [eT]; exact A.1) (State.isArrayOf_alike C.2.1.alike A.2.1) A.2.2 (inb_of Sz hj) (H.at (inb_of Sz hj) hv) (g := (mkF m pc Ls (.int j :: .ref a :: st))) rfl rfl (hb C.2.2.1 hd) t kt) n
theorem aaload (C : Cx p l e R s m args below meth c Z bytes ml own ret nm) {pc pc' : Nat} {Ls : Array Slot} {st : List Value} {a : Addr} {cA : ClassId} {ty : FieldType} {i j : Int32} {vs : List Value} {dv v : Value} (F : Arv Z h a cA ty i vs dv) (ht : ty.isReference = true) (hj : ¬ j < 0 ∧ j < i) (hv : vs.getD j.toNatClampNeg dv = v) (hd : decode bytes pc = .ok (.aaload, 1)) (hp : pc + 1 = pc') (n : Go p l e R s m args below meth c n0 Q K S h (mkF m pc' Ls (v :: st))) : Go p l e R s m args below meth c n0 Q K S h (mkF m pc Ls (.int j :: .ref a :: st)) := by
  subst hp; obtain ⟨cl, A, q1, Sz, q3, H, G⟩ := F
  exact Go.by (g' := (mkF m (pc + 1) Ls (v :: st))) (fun T ls cs ss X eT t kt => X.aaload C.1 (j := j) (v := v) (by rw [eT]; exact A.1) (State.isArrayOf_alike C.2.1.alike A.2.1) ht A.2.2 (inb_of Sz hj) (H.at (inb_of Sz hj) hv) (g := (mkF m pc Ls (.int j :: .ref a :: st))) rfl rfl (hb C.2.2.1 hd) t kt) n
theorem aaloadA (C : Cx p l e R s m args below meth c Z bytes ml own ret nm) {pc pc' : Nat} {Ls : Array Slot} {st : List Value} {a : Addr} {cl : Cell} {ty : FieldType} {j : Int32} {v : Value} (A : Arr Z h a cl ty) (ht : ty.isReference = true) (hj : ¬ (j < 0 ∨ cl.slots.size ≤ j.toNatClampNeg)) (hv : cl.slots[j.toNatClampNeg]? = some v) (hd : decode bytes pc = .ok (.aaload, 1)) (hp : pc + 1 = pc') (n : Go p l e R s m args below meth c n0 Q K S h (mkF m pc' Ls (v :: st))) : Go p l e R s m args below meth c n0 Q K S h (mkF m pc Ls (.int j :: .ref a :: st)) := by
  subst hp
  exact Go.by (g' := (mkF m (pc + 1) Ls (v :: st))) (fun T ls cs ss X eT t kt => X.aaload C.1 (j := j) (v := v) (by rw [eT]; exact A.1) (State.isArrayOf_alike C.2.1.alike A.2.1) ht A.2.2 hj hv (g := (mkF m pc Ls (.int j :: .ref a :: st))) rfl rfl (hb C.2.2.1 hd) t kt) n
theorem alen (C : Cx p l e R s m args below meth c Z bytes ml own ret nm) {pc pc' : Nat} {Ls : Array Slot} {st : List Value} {a : Addr} {cA : ClassId} {ty : FieldType} {i : Int32} {vs : List Value} {dv : Value} (F : Arv Z h a cA ty i vs dv) (hd : decode bytes pc = .ok (.arraylength, 1)) (hp : pc + 1 = pc') (n : Go p l e R s m args below meth c n0 Q K S h (mkF m pc' Ls (.int i :: st))) : Go p l e R s m args below meth c n0 Q K S h (mkF m pc Ls (.ref a :: st)) := by
  subst hp; obtain ⟨cl, A, q1, Sz, q3, H, G⟩ := F
  exact Go.by (g' := (mkF m (pc + 1) Ls (.int i :: st))) (fun T ls cs ss X eT t kt => X.arraylength C.1 (by rw [eT]; exact A.1) (State.isArrayOf_alike C.2.1.alike A.2.1) (g := (mkF m pc Ls (.ref a :: st))) rfl rfl (hb C.2.2.1 hd) t (by rw [len_of Sz q3]; exact kt)) n
theorem iastore (C : Cx p l e R s m args below meth c Z bytes ml own ret nm) {pc pc' : Nat} {Ls : Array Slot} {st : List Value} {a : Addr} {cA : ClassId} {i j : Int32} {k : Nat} {x : Int32} {vs : List Value} {dv : Value} (F : Arv Z h a cA .int i vs dv) (ha : n0 ≤ a) (hj : ¬ j < 0 ∧ j < i) (hk : j.toNatClampNeg = k) (hlen : k < vs.length) (hd : decode bytes pc = .ok (.iastore, 1)) (hp : pc + 1 = pc') (n : ∀ h', Wr h h' a j.toNatClampNeg (.int x) → Arv Z h' a cA .int i (vs.set k (.int x)) dv → Go p l e R s m args below meth c n0 Q K S h' (mkF m pc' Ls st)) : Go p l e R s m args below meth c n0 Q K S h (mkF m pc Ls (.int x :: .int j :: .ref a :: st)) := by
  subst hp; obtain ⟨cl, A, q1, Sz, q3, H, G⟩ := F
  exact Go.write ha (fun T ls cs ss X eT => stI X C.1 C.2.1 eT A (inb_of Sz hj) (g := (mkF m pc Ls (.int x :: .int j :: .ref a :: st))) rfl rfl (hb C.2.2.1 hd)) (fun h' W => n h' W (Arv.set A q1 Sz q3 H G rfl W k hk hlen))
theorem castore (C : Cx p l e R s m args below meth c Z bytes ml own ret nm) {pc pc' : Nat} {Ls : Array Slot} {st : List Value} {a : Addr} {cA : ClassId} {i j : Int32} {k : Nat} {x : Int32} {vs : List Value} {dv : Value} (F : Arv Z h a cA .char i vs dv) (ha : n0 ≤ a) (hj : ¬ j < 0 ∧ j < i) (hk : j.toNatClampNeg = k) (hlen : k < vs.length) (hd : decode bytes pc = .ok (.castore, 1)) (hp : pc + 1 = pc') (n : ∀ h', Wr h h' a j.toNatClampNeg (.int (nar .char x)) → Arv Z h' a cA .char i (vs.set k (.int (nar .char x))) dv → Go p l e R s m args below meth c n0 Q K S h' (mkF m pc' Ls st)) : Go p l e R s m args below meth c n0 Q K S h (mkF m pc Ls (.int x :: .int j :: .ref a :: st)) := by
  subst hp; obtain ⟨cl, A, q1, Sz, q3, H, G⟩ := F
  exact Go.write ha (fun T ls cs ss X eT => stC X C.1 C.2.1 eT A (inb_of Sz hj) (g := (mkF m pc Ls (.int x :: .int j :: .ref a :: st))) rfl rfl (hb C.2.2.1 hd)) (fun h' W => n h' W (Arv.set A q1 Sz q3 H G (fits_nar_char _) W k hk hlen))
theorem bastore (C : Cx p l e R s m args below meth c Z bytes ml own ret nm) {pc pc' : Nat} {Ls : Array Slot} {st : List Value} {a : Addr} {cA : ClassId} {i j : Int32} {k : Nat} {x : Int32} {vs : List Value} {dv : Value} (F : Arv Z h a cA .byte i vs dv) (ha : n0 ≤ a) (hj : ¬ j < 0 ∧ j < i) (hk : j.toNatClampNeg = k) (hlen : k < vs.length) (hd : decode bytes pc = .ok (.bastore, 1)) (hp : pc + 1 = pc') (n : ∀ h', Wr h h' a j.toNatClampNeg (.int (nar .byte x)) → Arv Z h' a cA .byte i (vs.set k (.int (nar .byte x))) dv → Go p l e R s m args below meth c n0 Q K S h' (mkF m pc' Ls st)) : Go p l e R s m args below meth c n0 Q K S h (mkF m pc Ls (.int x :: .int j :: .ref a :: st)) := by
  subst hp; obtain ⟨cl, A, q1, Sz, q3, H, G⟩ := F
  exact Go.write ha (fun T ls cs ss X eT => stB X C.1 C.2.1 eT A (inb_of Sz hj) (g := (mkF m pc Ls (.int x :: .int j :: .ref a :: st))) rfl rfl (hb C.2.2.1 hd)) (fun h' W => n h' W (Arv.set A q1 Sz q3 H G (fits_nar_byte _) W k hk hlen))
theorem lastore (C : Cx p l e R s m args below meth c Z bytes ml own ret nm) {pc pc' : Nat} {Ls : Array Slot} {st : List Value} {a : Addr} {cA : ClassId} {i j : Int32} {k : Nat} {x : Int64} {vs : List Value} {dv : Value} (F : Arv Z h a cA .long i vs dv) (ha : n0 ≤ a) (hj : ¬ j < 0 ∧ j < i) (hk : j.toNatClampNeg = k) (hlen : k < vs.length) (hd : decode bytes pc = .ok (.lastore, 1)) (hp : pc + 1 = pc') (n : ∀ h', Wr h h' a j.toNatClampNeg (.long x) → Arv Z h' a cA .long i (vs.set k (.long x)) dv → Go p l e R s m args below meth c n0 Q K S h' (mkF m pc' Ls st)) : Go p l e R s m args below meth c n0 Q K S h (mkF m pc Ls (.long x :: .int j :: .ref a :: st)) := by
  subst hp; obtain ⟨cl, A, q1, Sz, q3, H, G⟩ := F
  exact Go.write ha (fun T ls cs ss X eT => stJ X C.1 C.2.1 eT A (inb_of Sz hj) (g := (mkF m pc Ls (.long x :: .int j :: .ref a :: st))) rfl rfl (hb C.2.2.1 hd)) (fun h' W => n h' W (Arv.set A q1 Sz q3 H G rfl W k hk hlen))
theorem aastore (C : Cx p l e R s m args below meth c Z bytes ml own ret nm) {pc pc' : Nat} {Ls : Array Slot} {st : List Value} {a : Addr} {cA : ClassId} {ty : FieldType} {i j : Int32} {k : Nat} {x : Value} {vs : List Value} {dv : Value} (F : Arv Z h a cA ty i vs dv) (ht : ty.isReference = true) (ha : n0 ≤ a) (hj : ¬ j < 0 ∧ j < i) (hk : j.toNatClampNeg = k) (hlen : k < vs.length) (hx : Sto Z h a x) (hf : fits ty x = true) (hd : decode bytes pc = .ok (.aastore, 1)) (hp : pc + 1 = pc') (n : ∀ h', Wr h h' a j.toNatClampNeg x → Arv Z h' a cA ty i (vs.set k x) dv → Go p l e R s m args below meth c n0 Q K S h' (mkF m pc' Ls st)) : Go p l e R s m args below meth c n0 Q K S h (mkF m pc Ls (x :: .int j :: .ref a :: st)) := by
  subst hp; obtain ⟨cl, A, q1, Sz, q3, H, G⟩ := F
  exact Go.write ha (fun T ls cs ss X eT => stR X C.1 C.2.1 eT A (inb_of Sz hj) ht hx (g := (mkF m pc Ls (x :: .int j :: .ref a :: st))) rfl rfl (hb C.2.2.1 hd)) (fun h' W => n h' W (Arv.set A q1 Sz q3 H G hf W k hk hlen))
theorem initO (C : Cx p l e R s m args below meth c Z bytes ml own ret nm) {pc pc' : Nat} {Ls : Array Slot} {st : List Value} {idx : Nat} (w1 : (Jvm.Cond.methodLink own idx Lib.objectInit).before a0 Z = true) (w2 : (Jvm.Cond.instanceMethod Lib.objectInit).before a0 Z = true) (w3 : (Jvm.Cond.code Lib.objectInit ⟨#[0xb1]⟩ 1 none).before a0 Z = true) {a : Addr} (hsz : Ls.size = ml) (hf : 1 ≤ R.frames) {W : Nat} (hW : 2 * 0 + (st.map fun v => v.category).sum ≤ W) (hl : W + 12 ≤ R.locals) (hd : decode bytes pc = .ok (.invokespecial idx, 3)) (hp : pc + 3 = pc') (n : Go p l e R s m args below meth c n0 Q K S h (mkF m pc' Ls st)) : Go p l e R s m args below meth c n0 Q K S h (mkF m pc Ls (.ref a :: st)) := by
  subst hp; exact Go.law (fun T ls cs ss X eT => Jvm.RoadKit.initO X C.1 C.2.1 C.2.2.2.2.1 w1 w2 w3 eT (g := (mkF m pc Ls (.ref a :: st))) rfl (hsz.trans C.2.2.2.1.symm) rfl (hb C.2.2.1 hd) hf hW hl) n
theorem cloneV (C : Cx p l e R s m args below meth c Z bytes ml own ret nm) {pc pc' : Nat} {Ls : Array Slot} {st : List Value} {ad : String} {idx : Nat} (w1 : (Jvm.Cond.methodLink own idx ⟨ad, "clone", "()Ljava/lang/Object;"⟩).before a0 Z = true) (w2 : (Jvm.Cond.sameMethod ad "java/lang/Object" "clone" "()Ljava/lang/Object;").before a0 Z = true) (w3 : (Jvm.Cond.native ⟨"java/lang/Object", "clone", "()Ljava/lang/Object;"⟩).before a0 Z = true)
    (w4 : (Jvm.Cond.instanceMethod ⟨"java/lang/Object", "clone", "()Ljava/lang/Object;"⟩).before a0 Z = true) (w5 : (Jvm.Cond.selects ad ⟨ad, "clone", "()Ljava/lang/Object;"⟩ ⟨"java/lang/Object", "clone", "()Ljava/lang/Object;"⟩).before a0 Z = true) (w6 : (Jvm.Cond.castable ad "java/lang/Cloneable").before a0 Z = true)
    {a : Addr} {cA : ClassId} {ty : FieldType} {i : Int32} {vs : List Value} {dv : Value} (F : Arv Z h a cA ty i vs dv) (E : Exa Z h a ad) (hsz : Ls.size = ml) (hf : 1 ≤ R.frames) {W cap : Nat} (hW : 2 * 0 + (st.map fun v => v.category).sum ≤ W) (hl : W + 14 ≤ R.locals) (hcap : i.toNatClampNeg ≤ cap) (hd : decode bytes pc = .ok (.invokevirtual idx, 3)) (hp : pc + 3 = pc') (hK : K + 1 = K') (hS : S + cap = S') (hK' : K' ≤ R.cells) (hS' : S' ≤ R.slots)
    (n : ∀ (h' : Heap) (b : Addr), b = h.size → Ext h h' → Arv Z h' b cA ty i vs dv → Exa Z h' b ad → Go p l e R s m args below meth c n0 Q K' S' h' (mkF m pc' Ls (.ref b :: st))) : Go p l e R s m args below meth c n0 Q K S h (mkF m pc Ls (.ref a :: st)) :=
  fun T ⟨ls, cs, ss, X, N, hc, hs, eT⟩ => by
    subst hp hK hS
    obtain ⟨T', h', X', e', E', A', X2, st'⟩ := cloneH X C.1 C.2.1 C.2.2.2.2.1 w1 w2 w3 w4 w5 w6 eT F.arh E (g := (mkF m pc Ls (.ref a :: st))) rfl (hsz.trans C.2.2.2.1.symm) rfl (hb C.2.2.1 hd) hf hW hl hcap (by omega) (by omega)
    obtain ⟨s₂, v, L, h1, h2⟩ := n h' _ rfl E' A' X2 T' ⟨ls, _, _, X', N, by omega, by omega, e'⟩
    exact ⟨s₂, v, L, st' _ h1, h2⟩
def Mi (Z : State) (Cn : String) (a : Addr) : Prop := ∃ (c : ClassId) (k : Class), Z.vm.findClass Cn = some c ∧ Z.vm.classes[c]? = some k ∧ k.mirror = some a
theorem ldcMi (C : Cx p l e R s m args below meth c Z bytes ml own ret nm) {pc pc' : Nat} {Ls : Array Slot} {st : List Value} {Cn : String} {index : Nat} {a : Addr} (w : (Jvm.Cond.classLink own index Cn).before a0 Z = true) (M : Mi Z Cn a) (hd : decode bytes pc = .ok (.ldc index, 2)) (hp : pc + 2 = pc') (n : Go p l e R s m args below meth c n0 Q K S h (mkF m pc' Ls (.ref a :: st))) : Go p l e R s m args below meth c n0 Q K S h (mkF m pc Ls st) := by
  subst hp
  have hev : (Term.mirror Cn).eval args s none [] s = some (.ref a) := by
    obtain ⟨c', k, m1, m2, m3⟩ := M
    obtain ⟨k', q, ek⟩ := C.2.1.alike.2.2 _ _ m2
    have m3' : k'.mirror = some a := by rw [ek]; exact m3
    simp [Term.eval, C.2.1.alike.findClass, m1, q, m3']
  exact Go.law (fun T ls cs ss X eT => by
    obtain ⟨vm', X', st'⟩ := X.ldcMirror C.1 C.2.2.2.2.1 (mvT C.2.1 w) hev (g := (mkF m pc Ls st)) rfl (hb C.2.2.1 hd)
    exact ⟨_, X', eT, st'⟩) n
theorem getCls (C : Cx p l e R s m args below meth c Z bytes ml own ret nm) {pc pc' : Nat} {Ls : Array Slot} {st : List Value} {Cn : String} {index : Nat} {a mr : Addr} (w1 : (Jvm.Cond.methodLink own index ⟨"java/lang/Object", "getClass", "()Ljava/lang/Class;"⟩).before a0 Z = true) (w2 : (Jvm.Cond.declares ⟨"java/lang/Object", "getClass", "()Ljava/lang/Class;"⟩).before a0 Z = true) (w3 : (Jvm.Cond.noSuperclass "java/lang/Object").before a0 Z = true) (w4 : (Jvm.Cond.selects Cn ⟨"java/lang/Object", "getClass", "()Ljava/lang/Class;"⟩ ⟨"java/lang/Object", "getClass", "()Ljava/lang/Class;"⟩).before a0 Z = true) (w5 : (Jvm.Cond.instanceMethod ⟨"java/lang/Object", "getClass", "()Ljava/lang/Class;"⟩).before a0 Z = true) (w6 : (Jvm.Cond.native ⟨"java/lang/Object", "getClass", "()Ljava/lang/Class;"⟩).before a0 Z = true) (E : Exa Z h a Cn) (M : Mi Z Cn mr) (hsz : Ls.size = ml) (hf : 1 ≤ R.frames) {W : Nat} (hW : 2 * 0 + (st.map fun v => v.category).sum ≤ W) (hl : W + (nativeFrameWords "java/lang/Object" "getClass" 1 + 11) ≤ R.locals) (hd : decode bytes pc = .ok (.invokevirtual index, 3)) (hp : pc + 3 = pc') (n : Go p l e R s m args below meth c n0 Q K S h (mkF m pc' Ls (.ref mr :: st))) : Go p l e R s m args below meth c n0 Q K S h (mkF m pc Ls (.ref a :: st)) := by
  subst hp
  exact Go.law (fun T ls cs ss X eT => by
    obtain ⟨cB, kB, i1, i2, i3⟩ := isOf C.2.1 eT E
    obtain ⟨cc, kc, m1, m2, m3⟩ := M
    rw [C.2.1.alike.findClass] at i1
    cases i1.symm.trans m1
    obtain ⟨k', q, ek⟩ := C.2.1.alike.2.2 _ _ m2
    obtain ⟨vm', X', st'⟩ := X.getClassOf C.1 C.2.2.2.2.1 (mvT C.2.1 w1) (mvT C.2.1 w2) (nf_top (args := #[]) (mvT C.2.1 w3)) (mvT C.2.1 w4) (mvT C.2.1 w5) (mvT C.2.1 w6) (by rw [C.2.1.alike.findClass]; exact m1) i3 q (by rw [ek]; exact m3) (g := (mkF m pc Ls (.ref a :: st))) rfl (hsz.trans C.2.2.2.1.symm) rfl (hb C.2.2.1 hd) hf (Nat.le_trans (Nat.add_le_add_right hW _) hl)
    exact ⟨_, X', eT, st'⟩) n
theorem instNo (C : Cx p l e R s m args below meth c Z bytes ml own ret nm) {pc pc' : Nat} {Ls : Array Slot} {st : List Value} {Cn Kn : String} {index : Nat} {a : Addr} (w : (Jvm.Cond.classLink own index Kn).before a0 Z = true) (E : Exa Z h a Cn) (F : ∃ c t, Z.vm.findClass Cn = some c ∧ Z.vm.findClass Kn = some t ∧ Z.vm.assignable c t = false) (hd : decode bytes pc = .ok (.instanceof index, 3)) (hp : pc + 3 = pc') (n : Go p l e R s m args below meth c n0 Q K S h (mkF m pc' Ls (.int 0 :: st))) : Go p l e R s m args below meth c n0 Q K S h (mkF m pc Ls (.ref a :: st)) := by
  subst hp; exact Go.law (fun T ls cs ss X eT => Jvm.RoadKit.instNo X C.1 C.2.1 C.2.2.2.2.1 w eT E F (g := (mkF m pc Ls (.ref a :: st))) rfl rfl (hb C.2.2.1 hd)) n
theorem instY (C : Cx p l e R s m args below meth c Z bytes ml own ret nm) {pc pc' : Nat} {Ls : Array Slot} {st : List Value} {Kn : String} {index : Nat} {a : Addr} (w : (Jvm.Cond.classLink own index Kn).before a0 Z = true) (F : Ins Z h a Kn true) (hd : decode bytes pc = .ok (.instanceof index, 3)) (hp : pc + 3 = pc') (n : Go p l e R s m args below meth c n0 Q K S h (mkF m pc' Ls (.int 1 :: st))) : Go p l e R s m args below meth c n0 Q K S h (mkF m pc Ls (.ref a :: st)) := by
  subst hp; exact Go.law (fun T ls cs ss X eT => Jvm.RoadKit.instY X C.1 C.2.1 C.2.2.2.2.1 w eT F (g := (mkF m pc Ls (.ref a :: st))) rfl rfl (hb C.2.2.1 hd)) n
theorem putFN (C : Cx p l e R s m args below meth c Z bytes ml own ret nm) {pc pc' : Nat} {Ls : Array Slot} {st : List Value} {R0 O n d Cn : String} {index kk : Nat} {ty : FieldType} (w : (Jvm.Cond.fieldLink own index R0 n d).before a0 Z = true) (via : Via Z R0 O n d) {a : Addr} {v v' old : Value} (F : Fld Z h a O n d old) (E : Exa Z h a Cn) (L : (Jvm.Cond.lays Cn O n d).before a0 Z = true ∨ ((Jvm.Cond.laysFinal Cn O n d).before a0 Z = true ∧ own = O ∧ nm = "<init>")) (wi : (Jvm.Cond.instantiable Cn kk).before a0 Z = true) (hty : parseFieldDescriptor d = some ty) (hn : narrow ty v = v') (hf : fits ty v' = true) (ha : n0 ≤ a) (hd : decode bytes pc = .ok (.putfield index, 3)) (hp : pc + 3 = pc') (k : ∀ h', Wr h h' a (Jvm.RoadKit.slotOf Z O n d) v' → Go p l e R s m args below meth c n0 Q K S h' (mkF m pc' Ls st)) : Go p l e R s m args below meth c n0 Q K S h (mkF m pc Ls (v :: .ref a :: st)) := by
  subst hp; exact Go.write ha (fun T ls cs ss X eT => Jvm.RoadKit.putFN X C.1 C.2.1 C.2.2.2.2.1 w via eT F E (L.imp id fun q => ⟨q.1, q.2.1, C.2.2.2.2.2.2.2.trans q.2.2⟩) wi hty hn hf (g := (mkF m pc Ls (v :: .ref a :: st))) rfl rfl (hb C.2.2.1 hd)) k
theorem acopy (C : Cx p l e R s m args below meth c Z bytes ml own ret nm) {pc pc' : Nat} {Ls : Array Slot} {st : List Value} {index : Nat} {a b : Addr} {k1 k2 : ClassId} {t1 t2 : FieldType} {z1 z2 sp dp nn : Int32} {vs vd us : List Value} {d1 d2 : Value} (w1 : (Jvm.Cond.methodLink own index Jvm.Stand.acN).before a0 Z = true) (w2 : (Jvm.Cond.native Jvm.Stand.acN).before a0 Z = true) (w3 : (Jvm.Cond.static Jvm.Stand.acN).before a0 Z = true) (w4 : (Jvm.Cond.initialized "java/lang/System").before a0 Z = true) (A : Arv Z h a k1 t1 z1 vs d1) (B : Arv Z h b k2 t2 z2 vd d2) (hty : (t1 = t2 ∧ refKind t1 = false) ∨ (refKind t1 = true ∧ refKind t2 = true ∧ StoL Z h b us)) (h1 : ¬ sp < 0) (h2 : ¬ dp < 0) (h3 : ¬ nn < 0) (h4 : sp.toNatClampNeg + nn.toNatClampNeg ≤ z1.toNatClampNeg) (h5 : dp.toNatClampNeg + nn.toNatClampNeg ≤ z2.toNatClampNeg) (hus : us = (List.range nn.toNatClampNeg).map fun i => vs.getD (sp.toNatClampNeg + i) d1) (hlen : dp.toNatClampNeg + nn.toNatClampNeg ≤ vd.length) (ha : n0 ≤ b) (hsz : Ls.size = ml) (hf : 1 ≤ R.frames) {W : Nat} (hW : 2 * 0 + (st.map fun v => v.category).sum ≤ W) (hl : W + (nativeFrameWords "java/lang/System" "arraycopy" 5 + 11) ≤ R.locals) (hd : decode bytes pc = .ok (.invokestatic index, 3)) (hp : pc + 3 = pc')
    (n : ∀ h', Keep h h' [b] → Arv Z h' b k2 t2 z2 (vd.take dp.toNatClampNeg ++ us ++ vd.drop (dp.toNatClampNeg + nn.toNatClampNeg)) d2 → Go p l e R s m args below meth c n0 Q K S h' (mkF m pc' Ls st)) : Go p l e R s m args below meth c n0 Q K S h (mkF m pc Ls (.int nn :: .int dp :: .ref b :: .int sp :: .ref a :: st)) :=
  fun T ⟨ls, cs, ss, X, N, hc, hs, eT⟩ => by
    subst hp
    obtain ⟨T', h', L', X', e', N', K', V', st'⟩ := cpA X C.1 C.2.1 C.2.2.2.2.1 w1 w2 w3 w4 eT A B hty h1 h2 h3 h4 h5 hus hlen N ha (g := (mkF m pc Ls (.int nn :: .int dp :: .ref b :: .int sp :: .ref a :: st))) rfl (hsz.trans C.2.2.2.1.symm) rfl (hb C.2.2.1 hd) hf hW hl
    obtain ⟨s₂, v, L, q1, q2⟩ := n h' K' V' T' ⟨L', _, _, X', N', hc, hs, e'⟩
    exact ⟨s₂, v, L, st' _ q1, q2⟩
theorem callS (C : Cx p l e R s m args below meth c Z bytes ml own ret nm) {pc pc' : Nat} {Ls : Array Slot} {st : List Value} {y : MethodName} {yb : ByteArray} {yl idx : Nat} {yr r : Option FieldType} {rm : Room} {Qc : Option Value → Heap → Prop} {argsL rest : List Value} {ps : List FieldType} {W : Nat} (w1 : (Jvm.Cond.methodLink own idx y).before a0 Z = true) (w2 : (Jvm.Cond.static y).before a0 Z = true) (w3 : (Jvm.Cond.initialized y.cls).before a0 Z = true) (w4 : (Jvm.Cond.code y yb yl yr).before a0 Z = true) (hy : y.cls ≠ "java/lang/invoke/MethodHandle" ∧ y.cls ≠ "java/lang/invoke/VarHandle") (hC : Ctr l Z y yb yl yr rm argsL.toArray h n0 Qc) (hf : rm.frames + 1 ≤ R.frames) (hl : W + (yl + 11) + rm.locals ≤ R.locals) (hsz : Ls.size = ml) (hpd : parseMethodDescriptor y.desc = some ⟨ps, r⟩) (hn : argsL.length = ps.length) (hW : 2 * 0 + (rest.map fun v => v.category).sum ≤ W) (hK : K + rm.cells = K') (hS : S + rm.slots = S') (hK' : K' ≤ R.cells) (hS' : S' ≤ R.slots) (hst : st = argsL.reverse ++ rest) (hd : decode bytes pc = .ok (.invokestatic idx, 3)) (hp : pc + 3 = pc')
    (n : ∀ v h', Qc v h' → Go p l e R s m args below meth c n0 Q K' S' h' (mkF m pc' Ls (v.toList ++ rest))) : Go p l e R s m args below meth c n0 Q K S h (mkF m pc Ls st) :=
  fun T ⟨ls, cs, ss, X, N, hc, hs, eT⟩ => by
    subst hp hK hS
    obtain ⟨v, _, ⟨T', L', k', n'⟩, -, X', ⟨Lc', hQ', l', y', z'⟩, st'⟩ := Jvm.LawKit.callS X C.1 (y := y) C.2.2.2.2.1 (mvT C.2.1 w1) (mvT C.2.1 w2) (mvT C.2.1 w3) (mvT C.2.1 w4) hy (backOf (Q := fun v h L => Qc v h ∧ Fr n0 L) (W := W) (hC []) C.2.1 w4 w3 hf hl) (g := (mkF m pc Ls st)) rfl (hsz.trans C.2.2.2.1.symm) (argsL := argsL) (rest := rest) (lenOf hpd hn) hst hW (hb C.2.2.1 hd) (fun _ _ => ⟨rfl, eT, (show cs + rm.cells ≤ R.cells by omega), (show ss + rm.slots ≤ R.slots by omega)⟩)
    dsimp only [Pt.U, Pt.locs, Pt.cells, Pt.slots] at X' l' y' z' st' hQ'
    subst l' y' z'
    obtain ⟨s₂, v2, L, h1, h2⟩ := n v T'.heap hQ'.1 T' ⟨_, _, _, X', Fr.app N hQ'.2, by omega, by omega, rfl⟩
    exact ⟨s₂, v2, L, st' _ h1, h2⟩
theorem callX (C : Cx p l e R s m args below meth c Z bytes ml own ret nm) {pc pc' : Nat} {Ls : Array Slot} {st : List Value} {y : MethodName} {yb : ByteArray} {yl idx : Nat} {r : Option FieldType} {rm : Room} {Qc : Option Value → Heap → Prop} {argsL rest : List Value} {ps : List FieldType} {W : Nat} {a : Addr} (hy1 : y.name = "<init>") (w1 : (Jvm.Cond.methodLink own idx y).before a0 Z = true) (w2 : (Jvm.Cond.instanceMethod y).before a0 Z = true) (w3 : (Jvm.Cond.initialized y.cls).before a0 Z = true) (w4 : (Jvm.Cond.code y yb yl none).before a0 Z = true) (hy : y.cls ≠ "java/lang/invoke/MethodHandle" ∧ y.cls ≠ "java/lang/invoke/VarHandle") (hC : Ctr l Z y yb yl none rm (.ref a :: argsL).toArray h n0 Qc) (hf : rm.frames + 1 ≤ R.frames) (hl : W + (yl + 11) + rm.locals ≤ R.locals) (hsz : Ls.size = ml) (hpd : parseMethodDescriptor y.desc = some ⟨ps, r⟩) (hn : argsL.length = ps.length) (hW : 2 * 0 + (rest.map fun v => v.category).sum ≤ W) (hK : K + rm.cells = K') (hS : S + rm.slots = S') (hK' : K' ≤ R.cells) (hS' : S' ≤ R.slots) (hst : st = argsL.reverse ++ .ref a :: rest) (hd : decode bytes pc = .ok (.invokespecial idx, 3)) (hp : pc + 3 = pc')
    (n : ∀ v h', Qc v h' → Go p l e R s m args below meth c n0 Q K' S' h' (mkF m pc' Ls (v.toList ++ rest))) : Go p l e R s m args below meth c n0 Q K S h (mkF m pc Ls st) :=
  fun T ⟨ls, cs, ss, X, N, hc, hs, eT⟩ => by
    subst hp hK hS
    obtain ⟨v, _, ⟨T', L', k', n'⟩, -, X', ⟨Lc', hQ', l', y', z'⟩, st'⟩ := X.specialBack C.1 (y := y) hy1 C.2.2.2.2.1 (mvT C.2.1 w1) (mvT C.2.1 w2) (mvT C.2.1 w4) hy (backOf (Q := fun v h L => Qc v h ∧ Fr n0 L) (W := W) (hC []) C.2.1 w4 w3 hf hl) (g := (mkF m pc Ls st)) rfl (hsz.trans C.2.2.2.1.symm) (Steps.refl _) (a := a) (argsL := argsL) (rest := rest) (lenOf hpd hn) hst hW (hb C.2.2.1 hd) (fun _ _ => ⟨rfl, eT, (show cs + rm.cells ≤ R.cells by omega), (show ss + rm.slots ≤ R.slots by omega)⟩)
    dsimp only [Pt.U, Pt.locs, Pt.cells, Pt.slots] at X' l' y' z' st' hQ'
    subst l' y' z'
    obtain ⟨s₂, v2, L, h1, h2⟩ := n v T'.heap hQ'.1 T' ⟨_, _, _, X', Fr.app N hQ'.2, by omega, by omega, rfl⟩
    exact ⟨s₂, v2, L, st'.trans h1, h2⟩
theorem callV (C : Cx p l e R s m args below meth c Z bytes ml own ret nm) {pc pc' : Nat} {Ls : Array Slot} {st : List Value} {y z : MethodName} {yb : ByteArray} {yl idx : Nat} {yr r : Option FieldType} {rm : Room} {Qc : Option Value → Heap → Prop} {argsL rest : List Value} {ps : List FieldType} {W : Nat} {a : Addr} {Cn : String} (w1 : (Jvm.Cond.methodLink own idx y).before a0 Z = true) (w2 : (Jvm.Cond.declares y).before a0 Z = true) (wf : NotFace s y) (w5 : (Jvm.Cond.selects Cn y z).before a0 Z = true) (w6 : (Jvm.Cond.instanceMethod z).before a0 Z = true) (w3 : (Jvm.Cond.initialized z.cls).before a0 Z = true) (w4 : (Jvm.Cond.code z yb yl yr).before a0 Z = true) (E : Exa Z h a Cn) (hy : y.cls ≠ "java/lang/invoke/MethodHandle" ∧ y.cls ≠ "java/lang/invoke/VarHandle") (hC : Ctr l Z z yb yl yr rm (.ref a :: argsL).toArray h n0 Qc) (hf : rm.frames + 1 ≤ R.frames) (hl : W + (yl + 11) + rm.locals ≤ R.locals) (hsz : Ls.size = ml) (hpd : parseMethodDescriptor y.desc = some ⟨ps, r⟩) (hn : argsL.length = ps.length) (hW : 2 * 0 + (rest.map fun v => v.category).sum ≤ W) (hK : K + rm.cells = K') (hS : S + rm.slots = S') (hK' : K' ≤ R.cells) (hS' : S' ≤ R.slots) (hst : st = argsL.reverse ++ .ref a :: rest) (hd : decode bytes pc = .ok (.invokevirtual idx, 3)) (hp : pc + 3 = pc')
    (n : ∀ v h', Qc v h' → Go p l e R s m args below meth c n0 Q K' S' h' (mkF m pc' Ls (v.toList ++ rest))) : Go p l e R s m args below meth c n0 Q K S h (mkF m pc Ls st) :=
  fun T ⟨ls, cs, ss, X, N, hc, hs, eT⟩ => by
    subst hp hK hS
    obtain ⟨cq, kq, qa, qb, qc⟩ := isOf C.2.1 eT E
    obtain ⟨v, _, ⟨T', L', k', n'⟩, -, X', ⟨Lc', hQ', l', y', z'⟩, st'⟩ := X.virtualBack C.1 (y := y) (z := z) C.2.2.2.2.1 (mvT C.2.1 w1) (mvT C.2.1 w2) wf (mvT C.2.1 w5) (mvT C.2.1 w6) hy (backOf (Q := fun v h L => Qc v h ∧ Fr n0 L) (W := W) (hC []) C.2.1 w4 w3 hf hl) qa qc (g := (mkF m pc Ls st)) rfl (hsz.trans C.2.2.2.1.symm) (Steps.refl _) (argsL := argsL) (rest := rest) (lenOf hpd hn) hst hW (hb C.2.2.1 hd) (fun _ _ => ⟨rfl, eT, (show cs + rm.cells ≤ R.cells by omega), (show ss + rm.slots ≤ R.slots by omega)⟩)
    dsimp only [Pt.U, Pt.locs, Pt.cells, Pt.slots] at X' l' y' z' st' hQ'
    subst l' y' z'
    obtain ⟨s₂, v2, L, h1, h2⟩ := n v T'.heap hQ'.1 T' ⟨_, _, _, X', Fr.app N hQ'.2, by omega, by omega, rfl⟩
    exact ⟨s₂, v2, L, st'.trans h1, h2⟩
theorem callVU (C : Cx p l e R s m args below meth c Z bytes ml own ret nm) {pc pc' : Nat} {Ls : Array Slot} {st : List Value} {y z : MethodName} {yb : ByteArray} {yl idx : Nat} {yr r : Option FieldType} {rm : Room} {Qc : Option Value → Heap → Prop} {argsL rest : List Value} {ps : List FieldType} {W : Nat} {a : Addr} {Cn owner : String} (w1 : (Jvm.Cond.methodLink own idx y).before a0 Z = true) (wS : (Jvm.Cond.sameMethod y.cls owner y.name y.desc).before a0 Z = true) (w2 : (Jvm.Cond.declares ⟨owner, y.name, y.desc⟩).before a0 Z = true) (w5 : (Jvm.Cond.selects Cn y z).before a0 Z = true) (w6 : (Jvm.Cond.instanceMethod z).before a0 Z = true) (w3 : (Jvm.Cond.initialized z.cls).before a0 Z = true) (w4 : (Jvm.Cond.code z yb yl yr).before a0 Z = true) (E : Exa Z h a Cn) (hy : owner ≠ "java/lang/invoke/MethodHandle" ∧ owner ≠ "java/lang/invoke/VarHandle") (hC : Ctr l Z z yb yl yr rm (.ref a :: argsL).toArray h n0 Qc) (hf : rm.frames + 1 ≤ R.frames) (hl : W + (yl + 11) + rm.locals ≤ R.locals) (hsz : Ls.size = ml) (hpd : parseMethodDescriptor y.desc = some ⟨ps, r⟩) (hn : argsL.length = ps.length) (hW : 2 * 0 + (rest.map fun v => v.category).sum ≤ W) (hK : K + rm.cells = K') (hS : S + rm.slots = S') (hK' : K' ≤ R.cells) (hS' : S' ≤ R.slots) (hst : st = argsL.reverse ++ .ref a :: rest) (hd : decode bytes pc = .ok (.invokevirtual idx, 3)) (hp : pc + 3 = pc')
    (n : ∀ v h', Qc v h' → Go p l e R s m args below meth c n0 Q K' S' h' (mkF m pc' Ls (v.toList ++ rest))) : Go p l e R s m args below meth c n0 Q K S h (mkF m pc Ls st) :=
  fun T ⟨ls, cs, ss, X, N, hc, hs, eT⟩ => by
    subst hp hK hS
    obtain ⟨cq, kq, qa, qb, qc⟩ := isOf C.2.1 eT E
    obtain ⟨v, _, ⟨T', L', k', n'⟩, -, X', ⟨Lc', hQ', l', y', z'⟩, st'⟩ := X.virtualBackUp C.1 (x := y) (y := z) C.2.2.2.2.1 (mvT C.2.1 w1) (mvT C.2.1 wS) (mvT C.2.1 w2) hy (mvT C.2.1 w5) (mvT C.2.1 w6) (backOf (Q := fun v h L => Qc v h ∧ Fr n0 L) (W := W) (hC []) C.2.1 w4 w3 hf hl) qa qc (g := (mkF m pc Ls st)) rfl (hsz.trans C.2.2.2.1.symm) (Steps.refl _) (argsL := argsL) (rest := rest) (lenOf hpd hn) hst hW (hb C.2.2.1 hd) (fun _ _ => ⟨rfl, eT, (show cs + rm.cells ≤ R.cells by omega), (show ss + rm.slots ≤ R.slots by omega)⟩)
    dsimp only [Pt.U, Pt.locs, Pt.cells, Pt.slots] at X' l' y' z' st' hQ'
    subst l' y' z'
    obtain ⟨s₂, v2, L, h1, h2⟩ := n v T'.heap hQ'.1 T' ⟨_, _, _, X', Fr.app N hQ'.2, by omega, by omega, rfl⟩
    exact ⟨s₂, v2, L, st'.trans h1, h2⟩
theorem callP (C : Cx p l e R s m args below meth c Z bytes ml own ret nm) {pc pc' : Nat} {Ls : Array Slot} {st : List Value} {y : MethodName} {yb : ByteArray} {yl idx : Nat} {yr r : Option FieldType} {rm : Room} {Qc : Option Value → Heap → Prop} {argsL rest : List Value} {ps : List FieldType} {W : Nat} {a : Addr} {Cn : String} (w1 : (Jvm.Cond.methodLink own idx y).before a0 Z = true) (w2 : (Jvm.Cond.instanceMethod y).before a0 Z = true) (w5 : (Jvm.Cond.selects y.cls y y).before a0 Z = true) (w6 : (Jvm.Cond.privateMethod y).before a0 Z = true) (w3 : (Jvm.Cond.initialized y.cls).before a0 Z = true) (w4 : (Jvm.Cond.code y yb yl yr).before a0 Z = true) (E : Exa Z h a Cn) (hy : y.cls ≠ "java/lang/invoke/MethodHandle" ∧ y.cls ≠ "java/lang/invoke/VarHandle") (hC : Ctr l Z y yb yl yr rm (.ref a :: argsL).toArray h n0 Qc) (hf : rm.frames + 1 ≤ R.frames) (hl : W + (yl + 11) + rm.locals ≤ R.locals) (hsz : Ls.size = ml) (hpd : parseMethodDescriptor y.desc = some ⟨ps, r⟩) (hn : argsL.length = ps.length) (hW : 2 * 0 + (rest.map fun v => v.category).sum ≤ W) (hK : K + rm.cells = K') (hS : S + rm.slots = S') (hK' : K' ≤ R.cells) (hS' : S' ≤ R.slots) (hst : st = argsL.reverse ++ .ref a :: rest) (hd : decode bytes pc = .ok (.invokevirtual idx, 3)) (hp : pc + 3 = pc')
    (n : ∀ v h', Qc v h' → Go p l e R s m args below meth c n0 Q K' S' h' (mkF m pc' Ls (v.toList ++ rest))) : Go p l e R s m args below meth c n0 Q K S h (mkF m pc Ls st) :=
  fun T ⟨ls, cs, ss, X, N, hc, hs, eT⟩ => by
    subst hp hK hS
    obtain ⟨cq, qa, qb⟩ := E.cell
    obtain ⟨v, _, ⟨T', L', k', n'⟩, -, X', ⟨Lc', hQ', l', y', z'⟩, st'⟩ := X.privateBack C.1 (y := y) C.2.2.2.2.1 (mvT C.2.1 w1) (mvT C.2.1 w2) (mvT C.2.1 w5) (Cond.privateMethod_at (mvP C.2.1 w6 (args := #[]))) (mvT C.2.1 w4) hy (backOf (Q := fun v h L => Qc v h ∧ Fr n0 L) (W := W) (hC []) C.2.1 w4 w3 hf hl) (g := (mkF m pc Ls st)) rfl (hsz.trans C.2.2.2.1.symm) (Steps.refl _) (a := a) (by rw [eT]; exact qa) qb (argsL := argsL) (rest := rest) (lenOf hpd hn) hst hW (hb C.2.2.1 hd) (fun _ _ => ⟨rfl, eT, (show cs + rm.cells ≤ R.cells by omega), (show ss + rm.slots ≤ R.slots by omega)⟩)
    dsimp only [Pt.U, Pt.locs, Pt.cells, Pt.slots] at X' l' y' z' st' hQ'
    subst l' y' z'
    obtain ⟨s₂, v2, L, h1, h2⟩ := n v T'.heap hQ'.1 T' ⟨_, _, _, X', Fr.app N hQ'.2, by omega, by omega, rfl⟩
    exact ⟨s₂, v2, L, st'.trans h1, h2⟩
theorem callI (C : Cx p l e R s m args below meth c Z bytes ml own ret nm) {pc pc' : Nat} {Ls : Array Slot} {st : List Value} {y z : MethodName} {yb : ByteArray} {yl idx : Nat} {yr r : Option FieldType} {rm : Room} {Qc : Option Value → Heap → Prop} {argsL rest : List Value} {ps : List FieldType} {W : Nat} {a : Addr} {Cn : String} {count : Nat} (w1 : (Jvm.Cond.methodLink own idx y).before a0 Z = true) (w2 : (Jvm.Cond.declares y).before a0 Z = true) (wf : (Jvm.Cond.interfaceMethod y.cls y.cls y.name y.desc).before a0 Z = true) (wfk : ((Jvm.Cond.interfaceMethod y.cls y.cls y.name y.desc).onTables && (Jvm.Cond.interfaceMethod y.cls y.cls y.name y.desc).keepsFace) = true) (w5 : (Jvm.Cond.selects Cn y z).before a0 Z = true) (w6 : (Jvm.Cond.instanceMethod z).before a0 Z = true) (w7 : (Jvm.Cond.publicMethod z).before a0 Z = true) (w8 : (Jvm.Cond.unhidden Cn y.name y.desc).before a0 Z = true) (w9 : (Jvm.Cond.castable Cn y.cls).before a0 Z = true) (w3 : (Jvm.Cond.initialized z.cls).before a0 Z = true) (w4 : (Jvm.Cond.code z yb yl yr).before a0 Z = true) (E : Exa Z h a Cn) (hy : y.cls ≠ "java/lang/invoke/MethodHandle" ∧ y.cls ≠ "java/lang/invoke/VarHandle") (hC : Ctr l Z z yb yl yr rm (.ref a :: argsL).toArray h n0 Qc) (hf : rm.frames + 1 ≤ R.frames) (hl : W + (yl + 11) + rm.locals ≤ R.locals) (hsz : Ls.size = ml) (hpd : parseMethodDescriptor y.desc = some ⟨ps, r⟩) (hn : argsL.length = ps.length) (hW : 2 * 0 + (rest.map fun v => v.category).sum ≤ W) (hK : K + rm.cells = K') (hS : S + rm.slots = S') (hK' : K' ≤ R.cells) (hS' : S' ≤ R.slots) (hst : st = argsL.reverse ++ .ref a :: rest) (hd : decode bytes pc = .ok (.invokeinterface idx count, 5)) (hp : pc + 5 = pc')
    (n : ∀ v h', Qc v h' → Go p l e R s m args below meth c n0 Q K' S' h' (mkF m pc' Ls (v.toList ++ rest))) : Go p l e R s m args below meth c n0 Q K S h (mkF m pc Ls st) :=
  fun T ⟨ls, cs, ss, X, N, hc, hs, eT⟩ => by
    subst hp hK hS
    obtain ⟨cq, kq, qa, qb, qc⟩ := isOf C.2.1 eT E
    obtain ⟨v, _, ⟨T', L', k', n'⟩, -, X', ⟨Lc', hQ', l', y', z'⟩, st'⟩ := X.interfaceBack C.1 (xi := y) (y := z) C.2.2.2.2.1 (mvT C.2.1 w1) (mvT C.2.1 w2) (mvT C.2.1 wf wfk) (mvT C.2.1 w5) (mvT C.2.1 w6) (mvT C.2.1 w7) (mvT C.2.1 w8) (mvT C.2.1 w9) hy (backOf (Q := fun v h L => Qc v h ∧ Fr n0 L) (W := W) (hC []) C.2.1 w4 w3 hf hl) qa qb qc (g := (mkF m pc Ls st)) rfl (hsz.trans C.2.2.2.1.symm) (Steps.refl _) (argsL := argsL) (rest := rest) (lenOf hpd hn) hst hW (hb C.2.2.1 hd) (fun _ _ => ⟨rfl, eT, (show cs + rm.cells ≤ R.cells by omega), (show ss + rm.slots ≤ R.slots by omega)⟩)
    dsimp only [Pt.U, Pt.locs, Pt.cells, Pt.slots] at X' l' y' z' st' hQ'
    subst l' y' z'
    obtain ⟨s₂, v2, L, h1, h2⟩ := n v T'.heap hQ'.1 T' ⟨_, _, _, X', Fr.app N hQ'.2, by omega, by omega, rfl⟩
    exact ⟨s₂, v2, L, st'.trans h1, h2⟩
theorem callXN (C : Cx p l e R s m args below meth c Z bytes ml own ret nm) {pc pc' : Nat} {Ls : Array Slot} {st : List Value} {y : MethodName} {yb : ByteArray} {yl idx : Nat} {r : Option FieldType} {rm : Room} {Qc : Option Value → Heap → Prop} {argsL rest : List Value} {ps : List FieldType} {W : Nat} {a : Addr} {host : String} (hy1 : y.name = "<init>") (w1 : (Jvm.Cond.methodLinkNest own idx y host).before a0 Z = true) (w2 : (Jvm.Cond.instanceMethod y).before a0 Z = true) (w3 : (Jvm.Cond.initialized y.cls).before a0 Z = true) (w4 : (Jvm.Cond.code y yb yl none).before a0 Z = true) (hy : y.cls ≠ "java/lang/invoke/MethodHandle" ∧ y.cls ≠ "java/lang/invoke/VarHandle") (hC : Ctr l Z y yb yl none rm (.ref a :: argsL).toArray h n0 Qc) (hf : rm.frames + 1 ≤ R.frames) (hl : W + (yl + 11) + rm.locals ≤ R.locals) (hsz : Ls.size = ml) (hpd : parseMethodDescriptor y.desc = some ⟨ps, r⟩) (hn : argsL.length = ps.length) (hW : 2 * 0 + (rest.map fun v => v.category).sum ≤ W) (hK : K + rm.cells = K') (hS : S + rm.slots = S') (hK' : K' ≤ R.cells) (hS' : S' ≤ R.slots) (hst : st = argsL.reverse ++ .ref a :: rest) (hd : decode bytes pc = .ok (.invokespecial idx, 3)) (hp : pc + 3 = pc')
    (n : ∀ v h', Qc v h' → Go p l e R s m args below meth c n0 Q K' S' h' (mkF m pc' Ls (v.toList ++ rest))) : Go p l e R s m args below meth c n0 Q K S h (mkF m pc Ls st) :=
  fun T ⟨ls, cs, ss, X, N, hc, hs, eT⟩ => by
    subst hp hK hS
    obtain ⟨v, _, ⟨T', L', k', n'⟩, -, X', ⟨Lc', hQ', l', y', z'⟩, st'⟩ := X.specialBackNest C.1 (y := y) hy1 C.2.2.2.2.1 (Cond.methodLinkNest_wide C.2.1 w1 :) (mvT C.2.1 w2) (mvT C.2.1 w4) hy (backOf (Q := fun v h L => Qc v h ∧ Fr n0 L) (W := W) (hC []) C.2.1 w4 w3 hf hl) (g := (mkF m pc Ls st)) rfl (hsz.trans C.2.2.2.1.symm) (Steps.refl _) (a := a) (argsL := argsL) (rest := rest) (lenOf hpd hn) hst hW (hb C.2.2.1 hd) (fun _ _ => ⟨rfl, eT, (show cs + rm.cells ≤ R.cells by omega), (show ss + rm.slots ≤ R.slots by omega)⟩)
    dsimp only [Pt.U, Pt.locs, Pt.cells, Pt.slots] at X' l' y' z' st' hQ'
    subst l' y' z'
    obtain ⟨s₂, v2, L, h1, h2⟩ := n v T'.heap hQ'.1 T' ⟨_, _, _, X', Fr.app N hQ'.2, by omega, by omega, rfl⟩
    exact ⟨s₂, v2, L, st'.trans h1, h2⟩
theorem retN (C : Cx p l e R s m args below meth c Z bytes ml own ret nm) {pc : Nat} {Ls : Array Slot} {st : List Value} {x z : Int32} {t : FieldType} (hr0 : ret = some t) (ht : t = .boolean ∨ t = .byte ∨ t = .char ∨ t = .short) (hz : nar t x = z) (hq : Q (some (.int z)) h) (hK : K ≤ R.cells) (hS : S ≤ R.slots) (hd : decode bytes pc = .ok (.ireturn, 1)) : Go p l e R s m args below meth c n0 Q K S h (mkF m pc Ls (.int x :: st)) :=
  fun T ⟨ls, cs, ss, X, N, hc, hs, eT⟩ => by
    obtain ⟨fs, hr, hrun, hended, hW, hsame⟩ := X.leave (v := (some (.int z))) (fun h => by rw [C.2.2.2.2.2.2.1, hr0] at h; cases h) C.2.2.2.2.2.1
    exact ⟨_, _, _, Jvm.RoadKit.retN X C.1 (C.2.2.2.2.2.2.1.trans hr0) ht (hb C.2.2.1 hd) (hz ▸ hr), hrun, hended, (show Q (some (.int z)) T.heap from eT.symm ▸ hq), N, ⟨_, rfl⟩, hW, hsame.mono (Nat.le_trans hc hK) (Nat.le_trans hs hS)⟩
theorem retI (C : Cx p l e R s m args below meth c Z bytes ml own ret nm) {pc : Nat} {Ls : Array Slot} {st : List Value} {x : Int32} (hr0 : ret = some .int) (hq : Q (some (.int x)) h) (hK : K ≤ R.cells) (hS : S ≤ R.slots) (hd : decode bytes pc = .ok (.ireturn, 1)) : Go p l e R s m args below meth c n0 Q K S h (mkF m pc Ls (.int x :: st)) :=
  fun T ⟨ls, cs, ss, X, N, hc, hs, eT⟩ => by
    obtain ⟨fs, hr, hrun, hended, hW, hsame⟩ := X.leave (v := (some (.int x))) (fun h => by rw [C.2.2.2.2.2.2.1, hr0] at h; cases h) C.2.2.2.2.2.1
    exact ⟨_, _, _, retOut X C.1 (C.2.2.2.2.2.2.1.trans hr0) rfl (Or.inl ⟨rfl, Or.inl rfl, x, rfl⟩) (hb C.2.2.1 hd) hr, hrun, hended, (show Q (some (.int x)) T.heap from eT.symm ▸ hq), N, ⟨_, rfl⟩, hW, hsame.mono (Nat.le_trans hc hK) (Nat.le_trans hs hS)⟩
theorem retL (C : Cx p l e R s m args below meth c Z bytes ml own ret nm) {pc : Nat} {Ls : Array Slot} {st : List Value} {x : Int64} (hr0 : ret = some .long) (hq : Q (some (.long x)) h) (hK : K ≤ R.cells) (hS : S ≤ R.slots) (hd : decode bytes pc = .ok (.lreturn, 1)) : Go p l e R s m args below meth c n0 Q K S h (mkF m pc Ls (.long x :: st)) :=
  fun T ⟨ls, cs, ss, X, N, hc, hs, eT⟩ => by
    obtain ⟨fs, hr, hrun, hended, hW, hsame⟩ := X.leave (v := (some (.long x))) (fun h => by rw [C.2.2.2.2.2.2.1, hr0] at h; cases h) C.2.2.2.2.2.1
    exact ⟨_, _, _, retOut X C.1 (C.2.2.2.2.2.2.1.trans hr0) rfl (Or.inr (Or.inl ⟨rfl, rfl, x, rfl⟩)) (hb C.2.2.1 hd) hr, hrun, hended, (show Q (some (.long x)) T.heap from eT.symm ▸ hq), N, ⟨_, rfl⟩, hW, hsame.mono (Nat.le_trans hc hK) (Nat.le_trans hs hS)⟩
theorem retA (C : Cx p l e R s m args below meth c Z bytes ml own ret nm) {pc : Nat} {Ls : Array Slot} {st : List Value} {x : Value} {t : FieldType} (hr0 : ret = some t) (ht : t.isReference = true) (hx : x.isRef = true) (hq : Q (some x) h) (hK : K ≤ R.cells) (hS : S ≤ R.slots) (hd : decode bytes pc = .ok (.areturn, 1)) : Go p l e R s m args below meth c n0 Q K S h (mkF m pc Ls (x :: st)) :=
  fun T ⟨ls, cs, ss, X, N, hc, hs, eT⟩ => by
    obtain ⟨fs, hr, hrun, hended, hW, hsame⟩ := X.leave (v := (some x)) (fun h => by rw [C.2.2.2.2.2.2.1, hr0] at h; cases h) C.2.2.2.2.2.1
    exact ⟨_, _, _, retOut X C.1 (C.2.2.2.2.2.2.1.trans hr0) (by cases t <;> first | (cases ht; done) | rfl) (Or.inr (Or.inr (Or.inr (Or.inr ⟨rfl, ht, hx⟩)))) (hb C.2.2.1 hd) hr, hrun, hended, (show Q (some x) T.heap from eT.symm ▸ hq), N, ⟨_, rfl⟩, hW, hsame.mono (Nat.le_trans hc hK) (Nat.le_trans hs hS)⟩
theorem retV (C : Cx p l e R s m args below meth c Z bytes ml own ret nm) {pc : Nat} {Ls : Array Slot} (hr0 : ret = none) (hq : Q none h) (hK : K ≤ R.cells) (hS : S ≤ R.slots) (hd : decode bytes pc = .ok (.return_, 1)) : Go p l e R s m args below meth c n0 Q K S h (mkF m pc Ls []) :=
  fun T ⟨ls, cs, ss, X, N, hc, hs, eT⟩ => by
    obtain ⟨fs, hr, hrun, hended, hW, hsame⟩ := X.leave (v := none) (fun _ => rfl) C.2.2.2.2.2.1
    exact ⟨_, _, _, X.returnOut C.1 (C.2.2.2.2.2.2.1.trans hr0) (hb C.2.2.1 hd) hr, hrun, hended, (show Q none T.heap from eT.symm ▸ hq), N, ⟨_, rfl⟩, hW, hsame.mono (Nat.le_trans hc hK) (Nat.le_trans hs hS)⟩
theorem fld_int {t : Term} {a : Addr} {Cn n d : String} {k : Int32} (ev : t.eval args s none [] s = some (.ref a)) (h : (Jvm.Cond.eq (.field t Cn n d) (.int k)).value args s none s [] = some true) : Fld s s.heap a Cn n d (.int k) := by
  obtain ⟨x, y, e1, e2, k1, k2⟩ := cmp_v (Or.inl h)
  rw [Term.int_eval] at e2; cases e2
  cases x with
  | int z =>
    have q : z = k := by simpa [Jvm.Cond.value, e1, Term.int_eval] using h
    subst q; rw [fld_at ev] at e1; exact Fld.start e1
  | _ => simp [Jvm.Cond.value, e1, Term.int_eval] at h
theorem fld_ref {t u : Term} {a b : Addr} {Cn n d : String} (ev : t.eval args s none [] s = some (.ref a)) (eu : u.eval args s none [] s = some (.ref b)) (h : (Jvm.Cond.eq (.field t Cn n d) u).value args s none s [] = some true) : Fld s s.heap a Cn n d (.ref b) := by
  obtain ⟨x, y, e1, e2, k1, k2⟩ := cmp_v (Or.inl h)
  rw [eu] at e2; cases e2
  cases x with
  | ref z =>
    have q : z = b := by simpa [Jvm.Cond.value, e1, eu] using h
    subst q; rw [fld_at ev] at e1; exact Fld.start e1
  | _ => simp [Jvm.Cond.value, e1, eu] at h
theorem ref_ne {a b : Addr} (h : a ≠ b) : ¬ (Value.ref a = Value.ref b) := fun q => h (Value.ref.inj q)
theorem len_start {t : Term} {a : Addr} {cl : Cell} {ty : FieldType} {k : Int32} (ev : t.eval args s none [] s = some (.ref a)) (A : Arr s s.heap a cl ty) (hl : (Jvm.Cond.eq (.length t) (.int k)).value args s none s [] = some true) : cl.slots.size < 2 ^ 31 ∧ cl.slots.size.toInt32 = k := by
  obtain ⟨x, y, e1, e2, -, -⟩ := cmp_v (Or.inl hl)
  obtain ⟨b, cell, q1, q2, q3, rfl⟩ := Jvm.Lib.length_spec e1
  cases ev.symm.trans q1
  cases q2.symm.trans (A.fin (Vm.Alike.refl _))
  rw [Term.int_eval] at e2; cases e2
  exact ⟨q3, by simpa [Jvm.Cond.value, e1, Term.int_eval] using hl⟩
theorem elem_start {t u : Term} {a b : Addr} {cl : Cell} {j : Int32} (ev : t.eval args s none [] s = some (.ref a)) (hc : s.heap[a]? = some cl) (eu : u.eval args s none [] s = some (.ref b)) (h : (Jvm.Cond.eq (.elem t (.int j)) u).value args s none s [] = some true) : cl.slots[j.toNatClampNeg]? = some (.ref b) := by
  obtain ⟨x, y, e1, e2, -, -⟩ := cmp_v (Or.inl h)
  rw [eu] at e2; cases e2
  have q := (elem_in e1 ev (Term.int_eval j) hc).2
  cases x with
  | ref z =>
    have q' : z = b := by simpa [Jvm.Cond.value, e1, eu] using h
    subst q'; exact q
  | _ => simp [Jvm.Cond.value, e1, eu] at h
theorem sto_of {a y : Addr} {cA : ClassId} {ty : FieldType} {i : Int32} {vs : List Value} {dv : Value} {Cn : String} (F : Arv Z h a cA ty i vs dv) (O : Ovr Z cA Cn) (I : Ins Z h y Cn true) : Sto Z h a (.ref y) := by
  obtain ⟨c, A, q, -⟩ := F; exact Sto.ofV A q O I
theorem sto_ofA {a y : Addr} {cA : ClassId} {ty t : FieldType} {i : Int32} {vs : List Value} {dv : Value} {Cn : String} (F : Arv Z h a cA ty i vs dv) (O : OvrA Z cA t Cn) (I : Ins Z h y Cn true) : Sto Z h a (.ref y) := by
  obtain ⟨c, A, q, -⟩ := F; exact Sto.ofVA A q O I
theorem ins_keep {a : Addr} {Cn : String} {b : Bool} {h' : Heap} {ws : List Addr} (F : Ins Z h a Cn b) (K : Keep h h' ws) : Ins Z h' a Cn b := by
  obtain ⟨cell, cT, h1, h2, h3⟩ := F
  obtain ⟨c', q, r1, r2, r3⟩ := K.2.2 a cell h1
  exact ⟨c', cT, q, h2, by rw [r1, r2]; exact h3⟩
theorem sta_keep {Cn n d Cm : String} {v : Value} {a : Addr} {h' : Heap} (F : Sta Z h Cn n d v) (K : Keep h h' [a]) (E : Exa Z h a Cm) : Sta Z h' Cn n d v := by
  obtain ⟨cf, i, k, f, st, cell, h1, h2, h3, h4, h5, h6, h7⟩ := F
  obtain ⟨c2, k2, g1, -, -, g4, -⟩ := E
  have ne : st ≠ a := fun q => by subst q; cases h5.symm.trans g1; rw [h6] at g4; cases g4
  exact ⟨cf, i, k, f, st, cell, h1, h2, h3, h4, K.2.1 st cell h5 (fun q => ne (List.mem_singleton.mp q)), h6, h7⟩
theorem nar_b {x : Int32} (h : x = 0 ∨ x = 1) : nar .boolean x = x := by rcases h with rfl | rfl <;> rfl
end K
end Jvm.OwnW
namespace Jvm.Pilot.@@N@@
open Jvm Jvm.ClassFile Sem Op Lib Jvm.Free Jvm.Stand Jvm.LawKit Jvm.RoadKit Jvm.OwnW Bundle Jvm.Pilot.@@N@@.Jvm.D
theorem own_pn_AbstractCollection : plainName "java/util/AbstractCollection" = true := by first | (simp [plainName, overriddenIn]; done) | decide +kernel
theorem own_d_jdk_22_method_1_code_0 : decode jdk_22_method_1_code 0 = .ok (.aload_n 0, 1) := by decide +kernel
theorem own_d_jdk_22_method_1_code_1 : decode jdk_22_method_1_code 1 = .ok (.invokespecial 1, 3) := by decide +kernel
theorem own_d_jdk_22_method_1_code_4 : decode jdk_22_method_1_code 4 = .ok (.return_, 1) := by decide +kernel
theorem own_pn_AbstractList : plainName "java/util/AbstractList" = true := by first | (simp [plainName, overriddenIn]; done) | decide +kernel
theorem own_d_jdk_39_method_1_code_0 : decode jdk_39_method_1_code 0 = .ok (.aload_n 0, 1) := by decide +kernel
theorem own_d_jdk_39_method_1_code_1 : decode jdk_39_method_1_code 1 = .ok (.invokespecial 1, 3) := by decide +kernel
theorem own_pd___V : parseMethodDescriptor "()V" = some ⟨[], none⟩ := by decide +kernel
theorem own_d_jdk_39_method_1_code_4 : decode jdk_39_method_1_code 4 = .ok (.aload_n 0, 1) := by decide +kernel
theorem own_d_jdk_39_method_1_code_5 : decode jdk_39_method_1_code 5 = .ok (.iconst 0, 1) := by decide +kernel
theorem own_d_jdk_39_method_1_code_6 : decode jdk_39_method_1_code 6 = .ok (.putfield 7, 3) := by decide +kernel
theorem own_d_jdk_39_method_1_code_9 : decode jdk_39_method_1_code 9 = .ok (.return_, 1) := by decide +kernel
theorem own_pn_ArrayList : plainName "java/util/ArrayList" = true := by first | (simp [plainName, overriddenIn]; done) | decide +kernel
theorem own_d_jdk_38_method_2_code_0 : decode jdk_38_method_2_code 0 = .ok (.aload_n 0, 1) := by decide +kernel
theorem own_d_jdk_38_method_2_code_1 : decode jdk_38_method_2_code 1 = .ok (.invokespecial 1, 3) := by decide +kernel
theorem own_d_jdk_38_method_2_code_4 : decode jdk_38_method_2_code 4 = .ok (.aload_n 0, 1) := by decide +kernel
theorem own_d_jdk_38_method_2_code_5 : decode jdk_38_method_2_code 5 = .ok (.getstatic 39, 3) := by decide +kernel
theorem own_d_jdk_38_method_2_code_8 : decode jdk_38_method_2_code 8 = .ok (.putfield 9, 3) := by decide +kernel
theorem own_d_jdk_38_method_2_code_11 : decode jdk_38_method_2_code 11 = .ok (.return_, 1) := by decide +kernel
theorem own_d_jdk_29_method_65_code_0 : decode jdk_29_method_65_code 0 = .ok (.iload_n 0, 1) := by decide +kernel
theorem own_d_jdk_29_method_65_code_1 : decode jdk_29_method_65_code 1 = .ok (.iload_n 1, 1) := by decide +kernel
theorem own_d_jdk_29_method_65_code_2 : decode jdk_29_method_65_code 2 = .ok (.if_icmp .lt 7, 3) := by decide +kernel
theorem own_d_jdk_29_method_65_code_9 : decode jdk_29_method_65_code 9 = .ok (.iload_n 1, 1) := by decide +kernel
theorem own_d_jdk_29_method_65_code_10 : decode jdk_29_method_65_code 10 = .ok (.ireturn, 1) := by decide +kernel
theorem own_d_jdk_29_method_65_code_5 : decode jdk_29_method_65_code 5 = .ok (.iload_n 0, 1) := by decide +kernel
theorem own_d_jdk_29_method_65_code_6 : decode jdk_29_method_65_code 6 = .ok (.goto 4, 3) := by decide +kernel
theorem own_d_jdk_38_method_6_code_0 : decode jdk_38_method_6_code 0 = .ok (.aload_n 0, 1) := by decide +kernel
theorem own_d_jdk_38_method_6_code_1 : decode jdk_38_method_6_code 1 = .ok (.getfield 9, 3) := by decide +kernel
theorem own_d_jdk_38_method_6_code_4 : decode jdk_38_method_6_code 4 = .ok (.arraylength, 1) := by decide +kernel
theorem own_d_jdk_38_method_6_code_5 : decode jdk_38_method_6_code 5 = .ok (.istore_n 2, 1) := by decide +kernel
theorem own_d_jdk_38_method_6_code_6 : decode jdk_38_method_6_code 6 = .ok (.iload_n 2, 1) := by decide +kernel
theorem own_d_jdk_38_method_6_code_7 : decode jdk_38_method_6_code 7 = .ok (.ifCond .gt 13, 3) := by decide +kernel
theorem own_d_jdk_38_method_6_code_10 : decode jdk_38_method_6_code 10 = .ok (.aload_n 0, 1) := by decide +kernel
theorem own_d_jdk_38_method_6_code_11 : decode jdk_38_method_6_code 11 = .ok (.getfield 9, 3) := by decide +kernel
theorem own_d_jdk_38_method_6_code_14 : decode jdk_38_method_6_code 14 = .ok (.getstatic 39, 3) := by decide +kernel
theorem own_d_jdk_38_method_6_code_17 : decode jdk_38_method_6_code 17 = .ok (.if_acmp .eq 28, 3) := by decide +kernel
theorem own_d_jdk_38_method_6_code_45 : decode jdk_38_method_6_code 45 = .ok (.aload_n 0, 1) := by decide +kernel
theorem own_d_jdk_38_method_6_code_46 : decode jdk_38_method_6_code 46 = .ok (.bipush 10, 2) := by decide +kernel
theorem own_d_jdk_38_method_6_code_48 : decode jdk_38_method_6_code 48 = .ok (.iload_n 1, 1) := by decide +kernel
theorem own_d_jdk_38_method_6_code_49 : decode jdk_38_method_6_code 49 = .ok (.invokestatic 79, 3) := by decide +kernel
theorem own_pd__II_I : parseMethodDescriptor "(II)I" = some ⟨[.int, .int], some .int⟩ := by decide +kernel
theorem own_d_jdk_38_method_6_code_52 : decode jdk_38_method_6_code 52 = .ok (.anewarray 7, 3) := by decide +kernel
theorem own_d_jdk_38_method_6_code_55 : decode jdk_38_method_6_code 55 = .ok (.dup_x1, 1) := by decide +kernel
theorem own_d_jdk_38_method_6_code_56 : decode jdk_38_method_6_code 56 = .ok (.putfield 9, 3) := by decide +kernel
theorem own_d_jdk_38_method_6_code_59 : decode jdk_38_method_6_code 59 = .ok (.areturn, 1) := by decide +kernel
theorem own_d_jdk_38_method_7_code_0 : decode jdk_38_method_7_code 0 = .ok (.aload_n 0, 1) := by decide +kernel
theorem own_d_jdk_38_method_7_code_1 : decode jdk_38_method_7_code 1 = .ok (.aload_n 0, 1) := by decide +kernel
theorem own_d_jdk_38_method_7_code_2 : decode jdk_38_method_7_code 2 = .ok (.getfield 48, 3) := by decide +kernel
theorem own_d_jdk_38_method_7_code_5 : decode jdk_38_method_7_code 5 = .ok (.iconst 1, 1) := by decide +kernel
theorem own_d_jdk_38_method_7_code_6 : decode jdk_38_method_7_code 6 = .ok (.iadd, 1) := by decide +kernel
theorem own_d_jdk_38_method_7_code_7 : decode jdk_38_method_7_code 7 = .ok (.invokevirtual 69, 3) := by decide +kernel
theorem own_pd__I__Ljava_lang_Object_ : parseMethodDescriptor "(I)[Ljava/lang/Object;" = some ⟨[.int], some (.array (.object "java/lang/Object"))⟩ := by decide +kernel
theorem own_d_jdk_38_method_7_code_10 : decode jdk_38_method_7_code 10 = .ok (.areturn, 1) := by decide +kernel
theorem own_d_jdk_38_method_24_code_0 : decode jdk_38_method_24_code 0 = .ok (.iload_n 3, 1) := by decide +kernel
theorem own_d_jdk_38_method_24_code_1 : decode jdk_38_method_24_code 1 = .ok (.aload_n 2, 1) := by decide +kernel
theorem own_d_jdk_38_method_24_code_2 : decode jdk_38_method_24_code 2 = .ok (.arraylength, 1) := by decide +kernel
theorem own_d_jdk_38_method_24_code_3 : decode jdk_38_method_24_code 3 = .ok (.if_icmp .ne 8, 3) := by decide +kernel
theorem own_d_jdk_38_method_24_code_6 : decode jdk_38_method_24_code 6 = .ok (.aload_n 0, 1) := by decide +kernel
theorem own_d_jdk_38_method_24_code_7 : decode jdk_38_method_24_code 7 = .ok (.invokevirtual 129, 3) := by decide +kernel
theorem own_pd____Ljava_lang_Object_ : parseMethodDescriptor "()[Ljava/lang/Object;" = some ⟨[], some (.array (.object "java/lang/Object"))⟩ := by decide +kernel
theorem own_d_jdk_38_method_24_code_10 : decode jdk_38_method_24_code 10 = .ok (.astore_n 2, 1) := by decide +kernel
theorem own_d_jdk_38_method_24_code_11 : decode jdk_38_method_24_code 11 = .ok (.aload_n 2, 1) := by decide +kernel
theorem own_d_jdk_38_method_24_code_12 : decode jdk_38_method_24_code 12 = .ok (.iload_n 3, 1) := by decide +kernel
theorem own_d_jdk_38_method_24_code_13 : decode jdk_38_method_24_code 13 = .ok (.aload_n 1, 1) := by decide +kernel
theorem own_d_jdk_38_method_24_code_14 : decode jdk_38_method_24_code 14 = .ok (.aastore, 1) := by decide +kernel
theorem own_d_jdk_38_method_24_code_15 : decode jdk_38_method_24_code 15 = .ok (.aload_n 0, 1) := by decide +kernel
theorem own_d_jdk_38_method_24_code_16 : decode jdk_38_method_24_code 16 = .ok (.iload_n 3, 1) := by decide +kernel
theorem own_d_jdk_38_method_24_code_17 : decode jdk_38_method_24_code 17 = .ok (.iconst 1, 1) := by decide +kernel
theorem own_d_jdk_38_method_24_code_18 : decode jdk_38_method_24_code 18 = .ok (.iadd, 1) := by decide +kernel
theorem own_d_jdk_38_method_24_code_19 : decode jdk_38_method_24_code 19 = .ok (.putfield 48, 3) := by decide +kernel
theorem own_d_jdk_38_method_24_code_22 : decode jdk_38_method_24_code 22 = .ok (.return_, 1) := by decide +kernel
theorem own_d_jdk_38_method_25_code_0 : decode jdk_38_method_25_code 0 = .ok (.aload_n 0, 1) := by decide +kernel
theorem own_d_jdk_38_method_25_code_1 : decode jdk_38_method_25_code 1 = .ok (.dup, 1) := by decide +kernel
theorem own_d_jdk_38_method_25_code_2 : decode jdk_38_method_25_code 2 = .ok (.getfield 63, 3) := by decide +kernel
theorem own_d_jdk_38_method_25_code_5 : decode jdk_38_method_25_code 5 = .ok (.iconst 1, 1) := by decide +kernel
theorem own_d_jdk_38_method_25_code_6 : decode jdk_38_method_25_code 6 = .ok (.iadd, 1) := by decide +kernel
theorem own_d_jdk_38_method_25_code_7 : decode jdk_38_method_25_code 7 = .ok (.putfield 63, 3) := by decide +kernel
theorem own_d_jdk_38_method_25_code_10 : decode jdk_38_method_25_code 10 = .ok (.aload_n 0, 1) := by decide +kernel
theorem own_d_jdk_38_method_25_code_11 : decode jdk_38_method_25_code 11 = .ok (.aload_n 1, 1) := by decide +kernel
theorem own_d_jdk_38_method_25_code_12 : decode jdk_38_method_25_code 12 = .ok (.aload_n 0, 1) := by decide +kernel
theorem own_d_jdk_38_method_25_code_13 : decode jdk_38_method_25_code 13 = .ok (.getfield 9, 3) := by decide +kernel
theorem own_d_jdk_38_method_25_code_16 : decode jdk_38_method_25_code 16 = .ok (.aload_n 0, 1) := by decide +kernel
theorem own_d_jdk_38_method_25_code_17 : decode jdk_38_method_25_code 17 = .ok (.getfield 48, 3) := by decide +kernel
theorem own_d_jdk_38_method_25_code_20 : decode jdk_38_method_25_code 20 = .ok (.invokevirtual 131, 3) := by decide +kernel
theorem own_pd__Ljava_lang_Object__Ljava_lang_Object_I_V : parseMethodDescriptor "(Ljava/lang/Object;[Ljava/lang/Object;I)V" = some ⟨[(.object "java/lang/Object"), (.array (.object "java/lang/Object")), .int], none⟩ := by decide +kernel
theorem own_d_jdk_38_method_25_code_23 : decode jdk_38_method_25_code 23 = .ok (.iconst 1, 1) := by decide +kernel
theorem own_d_jdk_38_method_25_code_24 : decode jdk_38_method_25_code 24 = .ok (.ireturn, 1) := by decide +kernel
theorem own_d_jdk_38_method_9_code_0 : decode jdk_38_method_9_code 0 = .ok (.aload_n 0, 1) := by decide +kernel
theorem own_d_jdk_38_method_9_code_1 : decode jdk_38_method_9_code 1 = .ok (.getfield 48, 3) := by decide +kernel
theorem own_d_jdk_38_method_9_code_4 : decode jdk_38_method_9_code 4 = .ok (.ifCond .ne 7, 3) := by decide +kernel
theorem own_d_jdk_38_method_9_code_11 : decode jdk_38_method_9_code 11 = .ok (.iconst 0, 1) := by decide +kernel
theorem own_d_jdk_38_method_9_code_12 : decode jdk_38_method_9_code 12 = .ok (.ireturn, 1) := by decide +kernel
theorem own_d_jdk_38_method_9_code_7 : decode jdk_38_method_9_code 7 = .ok (.iconst 1, 1) := by decide +kernel
theorem own_d_jdk_38_method_9_code_8 : decode jdk_38_method_9_code 8 = .ok (.goto 4, 3) := by decide +kernel
theorem own_d_jdk_29_method_69_code_0 : decode jdk_29_method_69_code 0 = .ok (.iload_n 0, 1) := by decide +kernel
theorem own_d_jdk_29_method_69_code_1 : decode jdk_29_method_69_code 1 = .ok (.iload_n 1, 1) := by decide +kernel
theorem own_d_jdk_29_method_69_code_2 : decode jdk_29_method_69_code 2 = .ok (.if_icmp .gt 7, 3) := by decide +kernel
theorem own_d_jdk_29_method_69_code_9 : decode jdk_29_method_69_code 9 = .ok (.iload_n 1, 1) := by decide +kernel
theorem own_d_jdk_29_method_69_code_10 : decode jdk_29_method_69_code 10 = .ok (.ireturn, 1) := by decide +kernel
theorem own_d_jdk_29_method_69_code_5 : decode jdk_29_method_69_code 5 = .ok (.iload_n 0, 1) := by decide +kernel
theorem own_d_jdk_29_method_69_code_6 : decode jdk_29_method_69_code 6 = .ok (.goto 4, 3) := by decide +kernel
theorem own_pn_List : plainName "java/util/List" = true := by first | (simp [plainName, overriddenIn]; done) | decide +kernel
theorem own_d_jdk_40_method_36_code_0 : decode jdk_40_method_36_code 0 = .ok (.getstatic 90, 3) := by decide +kernel
theorem own_d_jdk_40_method_36_code_3 : decode jdk_40_method_36_code 3 = .ok (.areturn, 1) := by decide +kernel
theorem own_pn_ImmutableCollections : plainName "java/util/ImmutableCollections" = true := by first | (simp [plainName, overriddenIn]; done) | decide +kernel
theorem own_d_jdk_56_method_3_code_0 : decode jdk_56_method_3_code 0 = .ok (.aload_n 0, 1) := by decide +kernel
theorem own_d_jdk_56_method_3_code_1 : decode jdk_56_method_3_code 1 = .ok (.instanceof 10, 3) := by decide +kernel
theorem own_d_jdk_56_method_3_code_4 : decode jdk_56_method_3_code 4 = .ok (.ifCond .ne 22, 3) := by decide +kernel
theorem own_d_jdk_56_method_3_code_7 : decode jdk_56_method_3_code 7 = .ok (.aload_n 0, 1) := by decide +kernel
theorem own_d_jdk_56_method_3_code_8 : decode jdk_56_method_3_code 8 = .ok (.instanceof 12, 3) := by decide +kernel
theorem own_d_jdk_56_method_3_code_11 : decode jdk_56_method_3_code 11 = .ok (.ifCond .eq 20, 3) := by decide +kernel
theorem own_d_jdk_56_method_3_code_31 : decode jdk_56_method_3_code 31 = .ok (.aload_n 0, 1) := by decide +kernel
theorem own_d_jdk_56_method_3_code_32 : decode jdk_56_method_3_code 32 = .ok (.invokeinterface 20 1, 5) := by decide +kernel
theorem own_pd___Z : parseMethodDescriptor "()Z" = some ⟨[], some .boolean⟩ := by decide +kernel
theorem own_d_jdk_56_method_3_code_37 : decode jdk_56_method_3_code 37 = .ok (.ifCond .eq 7, 3) := by decide +kernel
theorem own_d_jdk_56_method_3_code_40 : decode jdk_56_method_3_code 40 = .ok (.invokestatic 26, 3) := by decide +kernel
theorem own_pd___Ljava_util_List_ : parseMethodDescriptor "()Ljava/util/List;" = some ⟨[], some (.object "java/util/List")⟩ := by decide +kernel
theorem own_d_jdk_56_method_3_code_43 : decode jdk_56_method_3_code 43 = .ok (.areturn, 1) := by decide +kernel
theorem own_d_jdk_40_method_48_code_0 : decode jdk_40_method_48_code 0 = .ok (.aload_n 0, 1) := by decide +kernel
theorem own_d_jdk_40_method_48_code_1 : decode jdk_40_method_48_code 1 = .ok (.invokestatic 112, 3) := by decide +kernel
theorem own_pd__Ljava_util_Collection__Ljava_util_List_ : parseMethodDescriptor "(Ljava/util/Collection;)Ljava/util/List;" = some ⟨[(.object "java/util/Collection")], some (.object "java/util/List")⟩ := by decide +kernel
theorem own_d_jdk_40_method_48_code_4 : decode jdk_40_method_48_code 4 = .ok (.areturn, 1) := by decide +kernel
theorem own_pn_ImmutableCollections_AbstractImmutableCollection : plainName "java/util/ImmutableCollections$AbstractImmutableCollection" = true := by first | (simp [plainName, overriddenIn]; done) | decide +kernel
theorem own_d_jdk_47_method_1_code_0 : decode jdk_47_method_1_code 0 = .ok (.aload_n 0, 1) := by decide +kernel
theorem own_d_jdk_47_method_1_code_1 : decode jdk_47_method_1_code 1 = .ok (.invokespecial 1, 3) := by decide +kernel
theorem own_d_jdk_47_method_1_code_4 : decode jdk_47_method_1_code 4 = .ok (.return_, 1) := by decide +kernel
theorem own_pn_ImmutableCollections_AbstractImmutableList : plainName "java/util/ImmutableCollections$AbstractImmutableList" = true := by first | (simp [plainName, overriddenIn]; done) | decide +kernel
theorem own_d_jdk_46_method_1_code_0 : decode jdk_46_method_1_code 0 = .ok (.aload_n 0, 1) := by decide +kernel
theorem own_d_jdk_46_method_1_code_1 : decode jdk_46_method_1_code 1 = .ok (.invokespecial 1, 3) := by decide +kernel
theorem own_d_jdk_46_method_1_code_4 : decode jdk_46_method_1_code 4 = .ok (.return_, 1) := by decide +kernel
theorem own_pn_Objects : plainName "java/util/Objects" = true := by first | (simp [plainName, overriddenIn]; done) | decide +kernel
theorem own_d_jdk_31_method_10_code_0 : decode jdk_31_method_10_code 0 = .ok (.aload_n 0, 1) := by decide +kernel
theorem own_d_jdk_31_method_10_code_1 : decode jdk_31_method_10_code 1 = .ok (.ifnonnull 11, 3) := by decide +kernel
theorem own_d_jdk_31_method_10_code_12 : decode jdk_31_method_10_code 12 = .ok (.aload_n 0, 1) := by decide +kernel
theorem own_d_jdk_31_method_10_code_13 : decode jdk_31_method_10_code 13 = .ok (.areturn, 1) := by decide +kernel
theorem own_pn_ImmutableCollections_List12 : plainName "java/util/ImmutableCollections$List12" = true := by first | (simp [plainName, overriddenIn]; done) | decide +kernel
theorem own_d_jdk_44_method_1_code_0 : decode jdk_44_method_1_code 0 = .ok (.aload_n 0, 1) := by decide +kernel
theorem own_d_jdk_44_method_1_code_1 : decode jdk_44_method_1_code 1 = .ok (.invokespecial 1, 3) := by decide +kernel
theorem own_d_jdk_44_method_1_code_4 : decode jdk_44_method_1_code 4 = .ok (.aload_n 0, 1) := by decide +kernel
theorem own_d_jdk_44_method_1_code_5 : decode jdk_44_method_1_code 5 = .ok (.aload_n 1, 1) := by decide +kernel
theorem own_d_jdk_44_method_1_code_6 : decode jdk_44_method_1_code 6 = .ok (.invokestatic 7, 3) := by decide +kernel
theorem own_pd__Ljava_lang_Object__Ljava_lang_Object_ : parseMethodDescriptor "(Ljava/lang/Object;)Ljava/lang/Object;" = some ⟨[(.object "java/lang/Object")], some (.object "java/lang/Object")⟩ := by decide +kernel
theorem own_d_jdk_44_method_1_code_9 : decode jdk_44_method_1_code 9 = .ok (.putfield 13, 3) := by decide +kernel
theorem own_d_jdk_44_method_1_code_12 : decode jdk_44_method_1_code 12 = .ok (.aload_n 0, 1) := by decide +kernel
theorem own_d_jdk_44_method_1_code_13 : decode jdk_44_method_1_code 13 = .ok (.getstatic 19, 3) := by decide +kernel
theorem own_d_jdk_44_method_1_code_16 : decode jdk_44_method_1_code 16 = .ok (.putfield 24, 3) := by decide +kernel
theorem own_d_jdk_44_method_1_code_19 : decode jdk_44_method_1_code 19 = .ok (.return_, 1) := by decide +kernel
theorem own_d_jdk_44_method_2_code_0 : decode jdk_44_method_2_code 0 = .ok (.aload_n 0, 1) := by decide +kernel
theorem own_d_jdk_44_method_2_code_1 : decode jdk_44_method_2_code 1 = .ok (.invokespecial 1, 3) := by decide +kernel
theorem own_d_jdk_44_method_2_code_4 : decode jdk_44_method_2_code 4 = .ok (.aload_n 0, 1) := by decide +kernel
theorem own_d_jdk_44_method_2_code_5 : decode jdk_44_method_2_code 5 = .ok (.aload_n 1, 1) := by decide +kernel
theorem own_d_jdk_44_method_2_code_6 : decode jdk_44_method_2_code 6 = .ok (.invokestatic 7, 3) := by decide +kernel
theorem own_d_jdk_44_method_2_code_9 : decode jdk_44_method_2_code 9 = .ok (.putfield 13, 3) := by decide +kernel
theorem own_d_jdk_44_method_2_code_12 : decode jdk_44_method_2_code 12 = .ok (.aload_n 0, 1) := by decide +kernel
theorem own_d_jdk_44_method_2_code_13 : decode jdk_44_method_2_code 13 = .ok (.aload_n 2, 1) := by decide +kernel
theorem own_d_jdk_44_method_2_code_14 : decode jdk_44_method_2_code 14 = .ok (.invokestatic 7, 3) := by decide +kernel
theorem own_d_jdk_44_method_2_code_17 : decode jdk_44_method_2_code 17 = .ok (.putfield 24, 3) := by decide +kernel
theorem own_d_jdk_44_method_2_code_20 : decode jdk_44_method_2_code 20 = .ok (.return_, 1) := by decide +kernel
theorem own_pn_ImmutableCollections_ListN : plainName "java/util/ImmutableCollections$ListN" = true := by first | (simp [plainName, overriddenIn]; done) | decide +kernel
theorem own_d_jdk_45_method_1_code_0 : decode jdk_45_method_1_code 0 = .ok (.aload_n 0, 1) := by decide +kernel
theorem own_d_jdk_45_method_1_code_1 : decode jdk_45_method_1_code 1 = .ok (.invokespecial 1, 3) := by decide +kernel
theorem own_d_jdk_45_method_1_code_4 : decode jdk_45_method_1_code 4 = .ok (.aload_n 0, 1) := by decide +kernel
theorem own_d_jdk_45_method_1_code_5 : decode jdk_45_method_1_code 5 = .ok (.aload_n 1, 1) := by decide +kernel
theorem own_d_jdk_45_method_1_code_6 : decode jdk_45_method_1_code 6 = .ok (.putfield 7, 3) := by decide +kernel
theorem own_d_jdk_45_method_1_code_9 : decode jdk_45_method_1_code 9 = .ok (.aload_n 0, 1) := by decide +kernel
theorem own_d_jdk_45_method_1_code_10 : decode jdk_45_method_1_code 10 = .ok (.iload_n 2, 1) := by decide +kernel
theorem own_d_jdk_45_method_1_code_11 : decode jdk_45_method_1_code 11 = .ok (.putfield 13, 3) := by decide +kernel
theorem own_d_jdk_45_method_1_code_14 : decode jdk_45_method_1_code 14 = .ok (.return_, 1) := by decide +kernel
theorem own_pn_Arrays : plainName "java/util/Arrays" = true := by first | (simp [plainName, overriddenIn]; done) | decide +kernel
theorem own_d_jdk_65_method_120_code_0 : decode jdk_65_method_120_code 0 = .ok (.aload_n 2, 1) := by decide +kernel
theorem own_d_jdk_65_method_120_code_1 : decode jdk_65_method_120_code 1 = .ok (.ldc 110, 2) := by decide +kernel
theorem own_d_jdk_65_method_120_code_3 : decode jdk_65_method_120_code 3 = .ok (.if_acmp .ne 10, 3) := by decide +kernel
theorem own_d_jdk_65_method_120_code_6 : decode jdk_65_method_120_code 6 = .ok (.iload_n 1, 1) := by decide +kernel
theorem own_d_jdk_65_method_120_code_7 : decode jdk_65_method_120_code 7 = .ok (.anewarray 2, 3) := by decide +kernel
theorem own_d_jdk_65_method_120_code_10 : decode jdk_65_method_120_code 10 = .ok (.goto 14, 3) := by decide +kernel
theorem own_d_jdk_65_method_120_code_24 : decode jdk_65_method_120_code 24 = .ok (.astore_n 3, 1) := by decide +kernel
theorem own_d_jdk_65_method_120_code_25 : decode jdk_65_method_120_code 25 = .ok (.aload_n 0, 1) := by decide +kernel
theorem own_d_jdk_65_method_120_code_26 : decode jdk_65_method_120_code 26 = .ok (.iconst 0, 1) := by decide +kernel
theorem own_d_jdk_65_method_120_code_27 : decode jdk_65_method_120_code 27 = .ok (.aload_n 3, 1) := by decide +kernel
theorem own_d_jdk_65_method_120_code_28 : decode jdk_65_method_120_code 28 = .ok (.iconst 0, 1) := by decide +kernel
theorem own_d_jdk_65_method_120_code_29 : decode jdk_65_method_120_code 29 = .ok (.aload_n 0, 1) := by decide +kernel
theorem own_d_jdk_65_method_120_code_30 : decode jdk_65_method_120_code 30 = .ok (.arraylength, 1) := by decide +kernel
theorem own_d_jdk_65_method_120_code_31 : decode jdk_65_method_120_code 31 = .ok (.iload_n 1, 1) := by decide +kernel
theorem own_d_jdk_65_method_120_code_32 : decode jdk_65_method_120_code 32 = .ok (.invokestatic 304, 3) := by decide +kernel
theorem own_d_jdk_65_method_120_code_35 : decode jdk_65_method_120_code 35 = .ok (.invokestatic 150, 3) := by decide +kernel
theorem own_d_jdk_65_method_120_code_38 : decode jdk_65_method_120_code 38 = .ok (.aload_n 3, 1) := by decide +kernel
theorem own_d_jdk_65_method_120_code_39 : decode jdk_65_method_120_code 39 = .ok (.areturn, 1) := by decide +kernel
theorem own_d_jdk_65_method_119_code_0 : decode jdk_65_method_119_code 0 = .ok (.aload_n 0, 1) := by decide +kernel
theorem own_d_jdk_65_method_119_code_1 : decode jdk_65_method_119_code 1 = .ok (.iload_n 1, 1) := by decide +kernel
theorem own_d_jdk_65_method_119_code_2 : decode jdk_65_method_119_code 2 = .ok (.aload_n 0, 1) := by decide +kernel
theorem own_d_jdk_65_method_119_code_3 : decode jdk_65_method_119_code 3 = .ok (.invokevirtual 86, 3) := by decide +kernel
theorem own_d_jdk_65_method_119_code_6 : decode jdk_65_method_119_code 6 = .ok (.invokestatic 300, 3) := by decide +kernel
theorem own_pd___Ljava_lang_Object_ILjava_lang_Class___Ljava_lang_Object_ : parseMethodDescriptor "([Ljava/lang/Object;ILjava/lang/Class;)[Ljava/lang/Object;" = some ⟨[(.array (.object "java/lang/Object")), .int, (.object "java/lang/Class")], some (.array (.object "java/lang/Object"))⟩ := by decide +kernel
theorem own_d_jdk_65_method_119_code_9 : decode jdk_65_method_119_code 9 = .ok (.areturn, 1) := by decide +kernel
theorem own_d_jdk_38_method_16_code_0 : decode jdk_38_method_16_code 0 = .ok (.aload_n 0, 1) := by decide +kernel
theorem own_d_jdk_38_method_16_code_1 : decode jdk_38_method_16_code 1 = .ok (.getfield 9, 3) := by decide +kernel
theorem own_d_jdk_38_method_16_code_4 : decode jdk_38_method_16_code 4 = .ok (.aload_n 0, 1) := by decide +kernel
theorem own_d_jdk_38_method_16_code_5 : decode jdk_38_method_16_code 5 = .ok (.getfield 48, 3) := by decide +kernel
theorem own_d_jdk_38_method_16_code_8 : decode jdk_38_method_16_code 8 = .ok (.invokestatic 66, 3) := by decide +kernel
theorem own_pd___Ljava_lang_Object_I__Ljava_lang_Object_ : parseMethodDescriptor "([Ljava/lang/Object;I)[Ljava/lang/Object;" = some ⟨[(.array (.object "java/lang/Object")), .int], some (.array (.object "java/lang/Object"))⟩ := by decide +kernel
theorem own_d_jdk_38_method_16_code_11 : decode jdk_38_method_16_code 11 = .ok (.areturn, 1) := by decide +kernel
theorem own_d_jdk_40_method_47_code_0 : decode jdk_40_method_47_code 0 = .ok (.aload_n 0, 1) := by decide +kernel
theorem own_d_jdk_40_method_47_code_1 : decode jdk_40_method_47_code 1 = .ok (.arraylength, 1) := by decide +kernel
theorem own_d_jdk_40_method_47_code_2 : decode jdk_40_method_47_code 2 = .ok (.tableswitch 57 0 2 #[26, 32, 43], 26) := by decide +kernel
theorem own_d_jdk_40_method_47_code_34 : decode jdk_40_method_47_code 34 = .ok (.new 96, 3) := by decide +kernel
theorem own_d_jdk_40_method_47_code_37 : decode jdk_40_method_47_code 37 = .ok (.dup, 1) := by decide +kernel
theorem own_d_jdk_40_method_47_code_38 : decode jdk_40_method_47_code 38 = .ok (.aload_n 0, 1) := by decide +kernel
theorem own_d_jdk_40_method_47_code_39 : decode jdk_40_method_47_code 39 = .ok (.iconst 0, 1) := by decide +kernel
theorem own_d_jdk_40_method_47_code_40 : decode jdk_40_method_47_code 40 = .ok (.aaload, 1) := by decide +kernel
theorem own_d_jdk_40_method_47_code_41 : decode jdk_40_method_47_code 41 = .ok (.invokespecial 98, 3) := by decide +kernel
theorem own_pd__Ljava_lang_Object__V : parseMethodDescriptor "(Ljava/lang/Object;)V" = some ⟨[(.object "java/lang/Object")], none⟩ := by decide +kernel
theorem own_d_jdk_40_method_47_code_44 : decode jdk_40_method_47_code 44 = .ok (.areturn, 1) := by decide +kernel
theorem own_d_jdk_56_method_3_code_44 : decode jdk_56_method_3_code 44 = .ok (.aload_n 0, 1) := by decide +kernel
theorem own_d_jdk_56_method_3_code_45 : decode jdk_56_method_3_code 45 = .ok (.invokeinterface 30 1, 5) := by decide +kernel
theorem own_d_jdk_56_method_3_code_50 : decode jdk_56_method_3_code 50 = .ok (.invokestatic 34, 3) := by decide +kernel
theorem own_pd___Ljava_lang_Object__Ljava_util_List_ : parseMethodDescriptor "([Ljava/lang/Object;)Ljava/util/List;" = some ⟨[(.array (.object "java/lang/Object"))], some (.object "java/util/List")⟩ := by decide +kernel
theorem own_d_jdk_56_method_3_code_53 : decode jdk_56_method_3_code 53 = .ok (.areturn, 1) := by decide +kernel
theorem own_d_jdk_40_method_47_code_45 : decode jdk_40_method_47_code 45 = .ok (.new 96, 3) := by decide +kernel
theorem own_d_jdk_40_method_47_code_48 : decode jdk_40_method_47_code 48 = .ok (.dup, 1) := by decide +kernel
theorem own_d_jdk_40_method_47_code_49 : decode jdk_40_method_47_code 49 = .ok (.aload_n 0, 1) := by decide +kernel
theorem own_d_jdk_40_method_47_code_50 : decode jdk_40_method_47_code 50 = .ok (.iconst 0, 1) := by decide +kernel
theorem own_d_jdk_40_method_47_code_51 : decode jdk_40_method_47_code 51 = .ok (.aaload, 1) := by decide +kernel
theorem own_d_jdk_40_method_47_code_52 : decode jdk_40_method_47_code 52 = .ok (.aload_n 0, 1) := by decide +kernel
theorem own_d_jdk_40_method_47_code_53 : decode jdk_40_method_47_code 53 = .ok (.iconst 1, 1) := by decide +kernel
theorem own_d_jdk_40_method_47_code_54 : decode jdk_40_method_47_code 54 = .ok (.aaload, 1) := by decide +kernel
theorem own_d_jdk_40_method_47_code_55 : decode jdk_40_method_47_code 55 = .ok (.invokespecial 100, 3) := by decide +kernel
theorem own_pd__Ljava_lang_Object_Ljava_lang_Object__V : parseMethodDescriptor "(Ljava/lang/Object;Ljava/lang/Object;)V" = some ⟨[(.object "java/lang/Object"), (.object "java/lang/Object")], none⟩ := by decide +kernel
theorem own_d_jdk_40_method_47_code_58 : decode jdk_40_method_47_code 58 = .ok (.areturn, 1) := by decide +kernel
theorem own_d_jdk_56_method_4_code_0 : decode jdk_56_method_4_code 0 = .ok (.aload_n 0, 1) := by decide +kernel
theorem own_d_jdk_56_method_4_code_1 : decode jdk_56_method_4_code 1 = .ok (.arraylength, 1) := by decide +kernel
theorem own_d_jdk_56_method_4_code_2 : decode jdk_56_method_4_code 2 = .ok (.anewarray 2, 3) := by decide +kernel
theorem own_d_jdk_56_method_4_code_5 : decode jdk_56_method_4_code 5 = .ok (.astore_n 1, 1) := by decide +kernel
theorem own_d_jdk_56_method_4_code_6 : decode jdk_56_method_4_code 6 = .ok (.iconst 0, 1) := by decide +kernel
theorem own_d_jdk_56_method_4_code_7 : decode jdk_56_method_4_code 7 = .ok (.istore_n 2, 1) := by decide +kernel
theorem own_d_jdk_56_method_4_code_8 : decode jdk_56_method_4_code 8 = .ok (.iload_n 2, 1) := by decide +kernel
theorem own_d_jdk_56_method_4_code_9 : decode jdk_56_method_4_code 9 = .ok (.aload_n 0, 1) := by decide +kernel
theorem own_d_jdk_56_method_4_code_10 : decode jdk_56_method_4_code 10 = .ok (.arraylength, 1) := by decide +kernel
theorem own_d_jdk_56_method_4_code_11 : decode jdk_56_method_4_code 11 = .ok (.if_icmp .ge 18, 3) := by decide +kernel
theorem own_d_jdk_56_method_4_code_14 : decode jdk_56_method_4_code 14 = .ok (.aload_n 1, 1) := by decide +kernel
theorem own_d_jdk_56_method_4_code_15 : decode jdk_56_method_4_code 15 = .ok (.iload_n 2, 1) := by decide +kernel
theorem own_d_jdk_56_method_4_code_16 : decode jdk_56_method_4_code 16 = .ok (.aload_n 0, 1) := by decide +kernel
theorem own_d_jdk_56_method_4_code_17 : decode jdk_56_method_4_code 17 = .ok (.iload_n 2, 1) := by decide +kernel
theorem own_d_jdk_56_method_4_code_18 : decode jdk_56_method_4_code 18 = .ok (.aaload, 1) := by decide +kernel
theorem own_d_jdk_56_method_4_code_19 : decode jdk_56_method_4_code 19 = .ok (.invokestatic 37, 3) := by decide +kernel
theorem own_d_jdk_56_method_4_code_22 : decode jdk_56_method_4_code 22 = .ok (.aastore, 1) := by decide +kernel
theorem own_d_jdk_56_method_4_code_23 : decode jdk_56_method_4_code 23 = .ok (.iinc 2 1, 3) := by decide +kernel
theorem own_d_jdk_56_method_4_code_26 : decode jdk_56_method_4_code 26 = .ok (.goto (-18), 3) := by decide +kernel
theorem own_d_jdk_56_method_4_code_29 : decode jdk_56_method_4_code 29 = .ok (.new 12, 3) := by decide +kernel
theorem own_d_jdk_56_method_4_code_32 : decode jdk_56_method_4_code 32 = .ok (.dup, 1) := by decide +kernel
theorem own_d_jdk_56_method_4_code_33 : decode jdk_56_method_4_code 33 = .ok (.aload_n 1, 1) := by decide +kernel
theorem own_d_jdk_56_method_4_code_34 : decode jdk_56_method_4_code 34 = .ok (.iconst 0, 1) := by decide +kernel
theorem own_d_jdk_56_method_4_code_35 : decode jdk_56_method_4_code 35 = .ok (.invokespecial 43, 3) := by decide +kernel
theorem own_pd___Ljava_lang_Object_Z_V : parseMethodDescriptor "([Ljava/lang/Object;Z)V" = some ⟨[(.array (.object "java/lang/Object")), .boolean], none⟩ := by decide +kernel
theorem own_d_jdk_56_method_4_code_38 : decode jdk_56_method_4_code 38 = .ok (.areturn, 1) := by decide +kernel
theorem own_d_jdk_40_method_47_code_59 : decode jdk_40_method_47_code 59 = .ok (.aload_n 0, 1) := by decide +kernel
theorem own_d_jdk_40_method_47_code_60 : decode jdk_40_method_47_code 60 = .ok (.invokestatic 109, 3) := by decide +kernel
theorem own_d_jdk_40_method_47_code_63 : decode jdk_40_method_47_code 63 = .ok (.areturn, 1) := by decide +kernel
theorem own_pn_Number : plainName "java/lang/Number" = true := by first | (simp [plainName, overriddenIn]; done) | decide +kernel
theorem own_d_jdk_18_method_1_code_0 : decode jdk_18_method_1_code 0 = .ok (.aload_n 0, 1) := by decide +kernel
theorem own_d_jdk_18_method_1_code_1 : decode jdk_18_method_1_code 1 = .ok (.invokespecial 1, 3) := by decide +kernel
theorem own_d_jdk_18_method_1_code_4 : decode jdk_18_method_1_code 4 = .ok (.return_, 1) := by decide +kernel
theorem own_pn_Integer : plainName "java/lang/Integer" = true := by first | (simp [plainName, overriddenIn]; done) | decide +kernel
theorem own_d_jdk_33_method_23_code_0 : decode jdk_33_method_23_code 0 = .ok (.aload_n 0, 1) := by decide +kernel
theorem own_d_jdk_33_method_23_code_1 : decode jdk_33_method_23_code 1 = .ok (.invokespecial 202, 3) := by decide +kernel
theorem own_d_jdk_33_method_23_code_4 : decode jdk_33_method_23_code 4 = .ok (.aload_n 0, 1) := by decide +kernel
theorem own_d_jdk_33_method_23_code_5 : decode jdk_33_method_23_code 5 = .ok (.iload_n 1, 1) := by decide +kernel
theorem own_d_jdk_33_method_23_code_6 : decode jdk_33_method_23_code 6 = .ok (.putfield 205, 3) := by decide +kernel
theorem own_d_jdk_33_method_23_code_9 : decode jdk_33_method_23_code 9 = .ok (.return_, 1) := by decide +kernel
theorem own_d_jdk_33_method_22_code_0 : decode jdk_33_method_22_code 0 = .ok (.iload_n 0, 1) := by decide +kernel
theorem own_d_jdk_33_method_22_code_1 : decode jdk_33_method_22_code 1 = .ok (.bipush (-128), 2) := by decide +kernel
theorem own_d_jdk_33_method_22_code_3 : decode jdk_33_method_22_code 3 = .ok (.if_icmp .lt 20, 3) := by decide +kernel
theorem own_d_jdk_33_method_22_code_23 : decode jdk_33_method_22_code 23 = .ok (.new 1, 3) := by decide +kernel
theorem own_d_jdk_33_method_22_code_26 : decode jdk_33_method_22_code 26 = .ok (.dup, 1) := by decide +kernel
theorem own_d_jdk_33_method_22_code_27 : decode jdk_33_method_22_code 27 = .ok (.iload_n 0, 1) := by decide +kernel
theorem own_d_jdk_33_method_22_code_28 : decode jdk_33_method_22_code 28 = .ok (.invokespecial 199, 3) := by decide +kernel
theorem own_pd__I_V : parseMethodDescriptor "(I)V" = some ⟨[.int], none⟩ := by decide +kernel
theorem own_d_jdk_33_method_22_code_31 : decode jdk_33_method_22_code 31 = .ok (.areturn, 1) := by decide +kernel
theorem own_d_jdk_33_method_22_code_6 : decode jdk_33_method_22_code 6 = .ok (.iload_n 0, 1) := by decide +kernel
theorem own_d_jdk_33_method_22_code_7 : decode jdk_33_method_22_code 7 = .ok (.getstatic 191, 3) := by decide +kernel
theorem own_d_jdk_33_method_22_code_10 : decode jdk_33_method_22_code 10 = .ok (.if_icmp .gt 13, 3) := by decide +kernel
theorem own_d_jdk_33_method_22_code_13 : decode jdk_33_method_22_code 13 = .ok (.getstatic 195, 3) := by decide +kernel
theorem own_d_jdk_33_method_22_code_16 : decode jdk_33_method_22_code 16 = .ok (.iload_n 0, 1) := by decide +kernel
theorem own_d_jdk_33_method_22_code_17 : decode jdk_33_method_22_code 17 = .ok (.sipush 128, 3) := by decide +kernel
theorem own_d_jdk_33_method_22_code_20 : decode jdk_33_method_22_code 20 = .ok (.iadd, 1) := by decide +kernel
theorem own_d_jdk_33_method_22_code_21 : decode jdk_33_method_22_code 21 = .ok (.aaload, 1) := by decide +kernel
theorem own_d_jdk_33_method_22_code_22 : decode jdk_33_method_22_code 22 = .ok (.areturn, 1) := by decide +kernel
theorem own_d_jdk_45_method_3_code_0 : decode jdk_45_method_3_code 0 = .ok (.aload_n 0, 1) := by decide +kernel
theorem own_d_jdk_45_method_3_code_1 : decode jdk_45_method_3_code 1 = .ok (.getfield 7, 3) := by decide +kernel
theorem own_d_jdk_45_method_3_code_4 : decode jdk_45_method_3_code 4 = .ok (.arraylength, 1) := by decide +kernel
theorem own_d_jdk_45_method_3_code_5 : decode jdk_45_method_3_code 5 = .ok (.ireturn, 1) := by decide +kernel
theorem own_d_jdk_45_method_2_code_0 : decode jdk_45_method_2_code 0 = .ok (.aload_n 0, 1) := by decide +kernel
theorem own_d_jdk_45_method_2_code_1 : decode jdk_45_method_2_code 1 = .ok (.getfield 7, 3) := by decide +kernel
theorem own_d_jdk_45_method_2_code_4 : decode jdk_45_method_2_code 4 = .ok (.arraylength, 1) := by decide +kernel
theorem own_d_jdk_45_method_2_code_5 : decode jdk_45_method_2_code 5 = .ok (.ifCond .ne 7, 3) := by decide +kernel
theorem own_d_jdk_45_method_2_code_12 : decode jdk_45_method_2_code 12 = .ok (.iconst 0, 1) := by decide +kernel
theorem own_d_jdk_45_method_2_code_13 : decode jdk_45_method_2_code 13 = .ok (.ireturn, 1) := by decide +kernel
theorem own_d_jdk_45_method_2_code_8 : decode jdk_45_method_2_code 8 = .ok (.iconst 1, 1) := by decide +kernel
theorem own_d_jdk_45_method_2_code_9 : decode jdk_45_method_2_code 9 = .ok (.goto 4, 3) := by decide +kernel
theorem own_d_jdk_44_method_3_code_0 : decode jdk_44_method_3_code 0 = .ok (.aload_n 0, 1) := by decide +kernel
theorem own_d_jdk_44_method_3_code_1 : decode jdk_44_method_3_code 1 = .ok (.getfield 24, 3) := by decide +kernel
theorem own_d_jdk_44_method_3_code_4 : decode jdk_44_method_3_code 4 = .ok (.getstatic 19, 3) := by decide +kernel
theorem own_d_jdk_44_method_3_code_7 : decode jdk_44_method_3_code 7 = .ok (.if_acmp .eq 7, 3) := by decide +kernel
theorem own_d_jdk_44_method_3_code_14 : decode jdk_44_method_3_code 14 = .ok (.iconst 1, 1) := by decide +kernel
theorem own_d_jdk_44_method_3_code_15 : decode jdk_44_method_3_code 15 = .ok (.ireturn, 1) := by decide +kernel
theorem own_d_jdk_44_method_3_code_10 : decode jdk_44_method_3_code 10 = .ok (.iconst 2, 1) := by decide +kernel
theorem own_d_jdk_44_method_3_code_11 : decode jdk_44_method_3_code 11 = .ok (.goto 4, 3) := by decide +kernel
theorem own_d_jdk_44_method_4_code_0 : decode jdk_44_method_4_code 0 = .ok (.iconst 0, 1) := by decide +kernel
theorem own_d_jdk_44_method_4_code_1 : decode jdk_44_method_4_code 1 = .ok (.ireturn, 1) := by decide +kernel
theorem own_pn_Channel : plainName "com/example/schema_facade/schemafacade/channel/Channel" = true := by first | (simp [plainName, overriddenIn]; done) | decide +kernel
theorem own_d_prog_4_method_4_code_0 : decode prog_4_method_4_code 0 = .ok (.aload_n 0, 1) := by decide +kernel
theorem own_d_prog_4_method_4_code_1 : decode prog_4_method_4_code 1 = .ok (.getfield 13, 3) := by decide +kernel
theorem own_d_prog_4_method_4_code_4 : decode prog_4_method_4_code 4 = .ok (.invokeinterface 27 1, 5) := by decide +kernel
theorem own_pd___I : parseMethodDescriptor "()I" = some ⟨[], some .int⟩ := by decide +kernel
theorem own_d_prog_4_method_4_code_9 : decode prog_4_method_4_code 9 = .ok (.iconst 1, 1) := by decide +kernel
theorem own_d_prog_4_method_4_code_10 : decode prog_4_method_4_code 10 = .ok (.iadd, 1) := by decide +kernel
theorem own_d_prog_4_method_4_code_11 : decode prog_4_method_4_code 11 = .ok (.ireturn, 1) := by decide +kernel
theorem own_d_prog_4_method_3_code_0 : decode prog_4_method_3_code 0 = .ok (.aload_n 0, 1) := by decide +kernel
theorem own_d_prog_4_method_3_code_1 : decode prog_4_method_3_code 1 = .ok (.getfield 13, 3) := by decide +kernel
theorem own_d_prog_4_method_3_code_4 : decode prog_4_method_3_code 4 = .ok (.invokeinterface 23 1, 5) := by decide +kernel
theorem own_d_prog_4_method_3_code_9 : decode prog_4_method_3_code 9 = .ok (.ireturn, 1) := by decide +kernel
theorem own_d_prog_4_method_1_code_0 : decode prog_4_method_1_code 0 = .ok (.aload_n 0, 1) := by decide +kernel
theorem own_d_prog_4_method_1_code_1 : decode prog_4_method_1_code 1 = .ok (.invokespecial 1, 3) := by decide +kernel
theorem own_d_prog_4_method_1_code_4 : decode prog_4_method_1_code 4 = .ok (.aload_n 0, 1) := by decide +kernel
theorem own_d_prog_4_method_1_code_5 : decode prog_4_method_1_code 5 = .ok (.aload_n 1, 1) := by decide +kernel
theorem own_d_prog_4_method_1_code_6 : decode prog_4_method_1_code 6 = .ok (.invokestatic 7, 3) := by decide +kernel
theorem own_d_prog_4_method_1_code_9 : decode prog_4_method_1_code 9 = .ok (.putfield 13, 3) := by decide +kernel
theorem own_d_prog_4_method_1_code_12 : decode prog_4_method_1_code 12 = .ok (.return_, 1) := by decide +kernel
theorem own_pn_ChannelLevelsPinLaw : plainName "com/example/schema_facade/schemafacade/channel/ChannelLevelsPinLaw" = true := by first | (simp [plainName, overriddenIn]; done) | decide +kernel
theorem own_pd__I_Ljava_lang_Integer_ : parseMethodDescriptor "(I)Ljava/lang/Integer;" = some ⟨[.int], some (.object "java/lang/Integer")⟩ := by decide +kernel
theorem own_pd__Ljava_util_List__V : parseMethodDescriptor "(Ljava/util/List;)V" = some ⟨[(.object "java/util/List")], none⟩ := by decide +kernel
theorem own_pd__Ljava_lang_Object__Z : parseMethodDescriptor "(Ljava/lang/Object;)Z" = some ⟨[(.object "java/lang/Object")], some .boolean⟩ := by decide +kernel
theorem own_nsroot {Z : State} {a0 : Array Value} {O Kn : String} {n : Nat} (w : (Jvm.Cond.noSuperclass O).before a0 Z = true) (wk : (Jvm.Cond.instantiable Kn n).before a0 Z = true) (hn : O ≠ Kn) : NS Z O Kn := by
  obtain ⟨c, k, h1, h2, h3, -, -⟩ := Cond.noSuperclass_spec w
  obtain ⟨t, k2, g1, -⟩ := Cond.instantiable_spec wk
  have ne := ids_ne h1 g1 hn
  refine ⟨c, t, h1, g1, fun fuel => ?_⟩
  cases fuel with
  | zero => rfl
  | succ f => simp [Vm.isSubclassAux, ne, h2, h3]
theorem own_nsno {Z : State} {a0 : Array Value} {Cn Sn Kn : String} {n : Nat} (w : (Jvm.Cond.superclass Cn Sn).before a0 Z = true) (wk : (Jvm.Cond.instantiable Kn n).before a0 Z = true) (q : NS Z Cn Kn) (hn : Cn ≠ Kn) : ∃ c t, Z.vm.findClass Cn = some c ∧ Z.vm.findClass Kn = some t ∧ Z.vm.assignable c t = false := by
  obtain ⟨c, t, h0, g0, n3⟩ := q
  obtain ⟨p, k, kp, h1, h2, h3, h4, h5, -, h7⟩ := Cond.superclass_spec h0 w
  obtain ⟨t', k', g1, g2, g3, g4, -⟩ := Cond.instantiable_spec wk
  cases g0.symm.trans g1
  have g5 : k'.isInterface = false := (Bool.or_eq_false_iff.mp g4).1
  have ne := ids_ne h0 g0 hn
  refine ⟨c, t, h0, g0, ?_⟩
  show Z.vm.assignableAux (255 + 1) c t = false
  simp [Vm.assignableAux, ne, h2, g2, h5, g3, g5, Vm.isSubclass, n3]
theorem own_sta_keep0 {Z : State} {h h' : Heap} {Cn n d : String} {v : Value} (F : Sta Z h Cn n d v) (K : Keep h h' []) : Sta Z h' Cn n d v := by
  obtain ⟨cf, i, k, f, st, cell, h1, h2, h3, h4, h5, r⟩ := F
  exact ⟨cf, i, k, f, st, cell, h1, h2, h3, h4, K.2.1 st cell h5 nin0, r⟩
theorem own_exa_arv {Z : State} {h : Heap} {a0 : Array Value} {Cn : String} {n : Nat} {a b : Addr} {k : ClassId} {ty : FieldType} {z : Int32} {vs : List Value} {dv : Value} (E : Exa Z h a Cn) (F : Arv Z h b k ty z vs dv) (w : (Jvm.Cond.instantiable Cn n).before a0 Z = true) : a ≠ b := Exa.neArv E F w
theorem own_arv_ne {Z : State} {h : Heap} {a b : Addr} {k1 k2 : ClassId} {t1 t2 : FieldType} {z1 z2 : Int32} {v1 v2 : List Value} {d1 d2 : Value} (A : Arv Z h a k1 t1 z1 v1 d1) (B : Arv Z h b k2 t2 z2 v2 d2) (hz : z1.toNatClampNeg ≠ z2.toNatClampNeg) : a ≠ b := fun q => by
  subst q
  obtain ⟨c1, A1, -, S1, -⟩ := A
  obtain ⟨c2, A2, -, S2, -⟩ := B
  cases A1.1.symm.trans A2.1
  exact hz (S1.symm.trans S2)
set_option maxRecDepth 65536 in
set_option maxHeartbeats 40000000 in
theorem own_acinit (l : Launch) (Z : State) (a0 : Array Value) (hw : ∀ d ∈ tables_1, d.before a0 Z = true) (a1 : Addr) (h0 : Heap) (n0 : Nat)  :
    Ctr l Z (⟨"java/util/AbstractCollection", "<init>", "()V"⟩ : MethodName) jdk_22_method_1_code 1 none ({ frames := 1, cells := 0, slots := 0, locals := 12 } : Room) #[(.ref a1)] h0 n0 (fun v h => v = none ∧ h = h0) := by
  refine Ctr.of (plainFor_of_name own_pn_AbstractCollection) ?_
  intro p e s m below meth c C
  refine Go.frame (g' := mkF m 0 #[.val (.ref a1)] []) (by first | (simp [entryFrame, mkF, argsToLocals, Value.category]; done) | rfl) ?_
  refine OwnW.aloadN C (pc' := 1) own_d_jdk_22_method_1_code_0 rfl rfl rfl ?_
  refine OwnW.initO C (pc' := 4) (hw _ (List.mem_of_getElem? (i := 18) rfl)) (hw _ (List.mem_of_getElem? (i := 19) rfl)) (hw _ (List.mem_of_getElem? (i := 20) rfl)) rfl (by decide) (W := 0) (Nat.le_of_eq rfl) (by decide) own_d_jdk_22_method_1_code_1 rfl ?_
  exact OwnW.retV C rfl ⟨rfl, rfl⟩ (by decide) (by decide) own_d_jdk_22_method_1_code_4
set_option maxRecDepth 65536 in
set_option maxHeartbeats 40000000 in
theorem own_alinit (l : Launch) (Z : State) (a0 : Array Value) (hw : ∀ d ∈ tables_1, d.before a0 Z = true) (a1 : Addr) (h0 : Heap) (n0 : Nat) (X_a1 : Exa Z h0 a1 "java/util/ArrayList") (F_modCount_a1 : Fld Z h0 a1 "java/util/AbstractList" "modCount" "I" (.int 0)) (F_elementData_a1 : Fld Z h0 a1 "java/util/ArrayList" "elementData" "[Ljava/lang/Object;" .null) (F_size_a1 : Fld Z h0 a1 "java/util/ArrayList" "size" "I" (.int 0)) (g_a1 : n0 ≤ a1) :
    Ctr l Z (⟨"java/util/AbstractList", "<init>", "()V"⟩ : MethodName) jdk_39_method_1_code 1 none ({ frames := 2, cells := 0, slots := 0, locals := 24 } : Room) #[(.ref a1)] h0 n0 (fun v h => v = none ∧ Keep h0 h [a1] ∧ Fld Z h a1 "java/util/AbstractList" "modCount" "I" (.int 0) ∧ Fld Z h a1 "java/util/ArrayList" "elementData" "[Ljava/lang/Object;" .null ∧ Fld Z h a1 "java/util/ArrayList" "size" "I" (.int 0)) := by
  refine Ctr.of (plainFor_of_name own_pn_AbstractList) ?_
  intro p e s m below meth c C
  refine Go.frame (g' := mkF m 0 #[.val (.ref a1)] []) (by first | (simp [entryFrame, mkF, argsToLocals, Value.category]; done) | rfl) ?_
  have KH := Keep.refl h0 [a1]
  refine OwnW.aloadN C (pc' := 1) own_d_jdk_39_method_1_code_0 rfl rfl rfl ?_
  refine OwnW.callX C (pc' := 4) (y := (⟨"java/util/AbstractCollection", "<init>", "()V"⟩ : MethodName)) (W := 0) (argsL := []) (rest := []) rfl (hw _ (List.mem_of_getElem? (i := 12) rfl)) (hw _ (List.mem_of_getElem? (i := 13) rfl)) (hw _ (List.mem_of_getElem? (i := 16) rfl)) (hw _ (List.mem_of_getElem? (i := 17) rfl)) (by decide) (own_acinit l Z a0 hw a1 h0 n0) (K' := 0) (S' := 0) (by decide) (by decide) rfl own_pd___V rfl (Nat.le_of_eq rfl) rfl rfl (by decide) (by decide) rfl own_d_jdk_39_method_1_code_1 rfl (fun v h' hq => ?_)
  obtain ⟨rfl, hh⟩ := hq
  refine Go.at (st' := []) rfl ?_
  refine Go.heap hh ?_
  refine OwnW.aloadN C (pc' := 5) own_d_jdk_39_method_1_code_4 rfl rfl rfl ?_
  refine OwnW.iconst C (pc' := 6) own_d_jdk_39_method_1_code_5 rfl (z := 0) rfl ?_
  refine OwnW.putF C (pc' := 9) (host := "") (Or.inl (hw _ (List.mem_of_getElem? (i := 21) rfl))) Via.refl F_modCount_a1 X_a1 (Or.inl (hw _ (List.mem_of_getElem? (i := 22) rfl))) (hw _ (List.mem_of_getElem? (i := 1) rfl)) (ty := .int) (by decide) rfl rfl g_a1 own_d_jdk_39_method_1_code_6 rfl (fun h1 W1 => ?_)
  have KH := KH.wr W1 (Or.inl (List.mem_of_getElem? (i := 0) rfl))
  have X_a1 := X_a1.wr W1
  have F_modCount_a1 := F_modCount_a1.same W1
  have F_elementData_a1 := F_elementData_a1.other W1 (Or.inr (slot_ne (Or.inl (hw _ (List.mem_of_getElem? (i := 25) rfl))) (Or.inl (hw _ (List.mem_of_getElem? (i := 22) rfl))) (by decide) (t := (.array (.object "java/lang/Object"))) (t' := .int) (by decide) (by decide)))
  have F_size_a1 := F_size_a1.other W1 (Or.inr (slot_ne (Or.inl (hw _ (List.mem_of_getElem? (i := 64) rfl))) (Or.inl (hw _ (List.mem_of_getElem? (i := 22) rfl))) (by decide) (t := .int) (t' := .int) (by decide) (by decide)))
  exact OwnW.retV C rfl ⟨rfl, KH, F_modCount_a1, F_elementData_a1, F_size_a1⟩ (by decide) (by decide) own_d_jdk_39_method_1_code_9
set_option maxRecDepth 65536 in
set_option maxHeartbeats 40000000 in
theorem own_lstinit (l : Launch) (Z : State) (a0 : Array Value) (hw : ∀ d ∈ tables_1, d.before a0 Z = true) (a1 d1 : Addr) (h0 : Heap) (n0 : Nat) (X_a1 : Exa Z h0 a1 "java/util/ArrayList") (F_modCount_a1 : Fld Z h0 a1 "java/util/AbstractList" "modCount" "I" (.int 0)) (F_elementData_a1 : Fld Z h0 a1 "java/util/ArrayList" "elementData" "[Ljava/lang/Object;" .null) (F_size_a1 : Fld Z h0 a1 "java/util/ArrayList" "size" "I" (.int 0)) (g_a1 : n0 ≤ a1) (S_D : Sta Z h0 "java/util/ArrayList" "DEFAULTCAPACITY_EMPTY_ELEMENTDATA" "[Ljava/lang/Object;" (.ref d1)) :
    Ctr l Z (⟨"java/util/ArrayList", "<init>", "()V"⟩ : MethodName) jdk_38_method_2_code 1 none ({ frames := 3, cells := 0, slots := 0, locals := 36 } : Room) #[(.ref a1)] h0 n0 (fun v h => v = none ∧ Keep h0 h [a1] ∧ Fld Z h a1 "java/util/AbstractList" "modCount" "I" (.int 0) ∧ Fld Z h a1 "java/util/ArrayList" "elementData" "[Ljava/lang/Object;" (.ref d1) ∧ Fld Z h a1 "java/util/ArrayList" "size" "I" (.int 0)) := by
  refine Ctr.of (plainFor_of_name own_pn_ArrayList) ?_
  intro p e s m below meth c C
  refine Go.frame (g' := mkF m 0 #[.val (.ref a1)] []) (by first | (simp [entryFrame, mkF, argsToLocals, Value.category]; done) | rfl) ?_
  have KH := Keep.refl h0 [a1]
  refine OwnW.aloadN C (pc' := 1) own_d_jdk_38_method_2_code_0 rfl rfl rfl ?_
  refine OwnW.callX C (pc' := 4) (y := (⟨"java/util/AbstractList", "<init>", "()V"⟩ : MethodName)) (W := 0) (argsL := []) (rest := []) rfl (hw _ (List.mem_of_getElem? (i := 6) rfl)) (hw _ (List.mem_of_getElem? (i := 7) rfl)) (hw _ (List.mem_of_getElem? (i := 10) rfl)) (hw _ (List.mem_of_getElem? (i := 11) rfl)) (by decide) (own_alinit l Z a0 hw a1 h0 n0 X_a1 F_modCount_a1 F_elementData_a1 F_size_a1 g_a1) (K' := 0) (S' := 0) (by decide) (by decide) rfl own_pd___V rfl (Nat.le_of_eq rfl) rfl rfl (by decide) (by decide) rfl own_d_jdk_38_method_2_code_1 rfl (fun v h1 hq => ?_)
  obtain ⟨rfl, KK, F1, F2, F3⟩ := hq
  refine Go.at (st' := []) rfl ?_
  have S_D := sta_keep S_D KK X_a1
  have KH := KH.trans KK (allS (Or.inl (List.mem_of_getElem? (i := 0) rfl)) all0)
  have X_a1 := X_a1.keep KK
  have F_modCount_a1 := F1
  have F_elementData_a1 := F2
  have F_size_a1 := F3
  refine OwnW.aloadN C (pc' := 5) own_d_jdk_38_method_2_code_4 rfl rfl rfl ?_
  refine OwnW.getS C (pc' := 8) (host := "") (Or.inl (hw _ (List.mem_of_getElem? (i := 23) rfl))) Via.refl S_D own_d_jdk_38_method_2_code_5 rfl ?_
  refine OwnW.putF C (pc' := 11) (host := "") (Or.inl (hw _ (List.mem_of_getElem? (i := 24) rfl))) Via.refl F_elementData_a1 X_a1 (Or.inl (hw _ (List.mem_of_getElem? (i := 25) rfl))) (hw _ (List.mem_of_getElem? (i := 1) rfl)) (ty := (.array (.object "java/lang/Object"))) (by decide) rfl rfl g_a1 own_d_jdk_38_method_2_code_8 rfl (fun h2 W2 => ?_)
  have KH := KH.wr W2 (Or.inl (List.mem_of_getElem? (i := 0) rfl))
  have X_a1 := X_a1.wr W2
  have F_modCount_a1 := F_modCount_a1.other W2 (Or.inr (slot_ne (Or.inl (hw _ (List.mem_of_getElem? (i := 22) rfl))) (Or.inl (hw _ (List.mem_of_getElem? (i := 25) rfl))) (by decide) (t := .int) (t' := (.array (.object "java/lang/Object"))) (by decide) (by decide)))
  have F_elementData_a1 := F_elementData_a1.same W2
  have F_size_a1 := F_size_a1.other W2 (Or.inr (slot_ne (Or.inl (hw _ (List.mem_of_getElem? (i := 64) rfl))) (Or.inl (hw _ (List.mem_of_getElem? (i := 25) rfl))) (by decide) (t := .int) (t' := (.array (.object "java/lang/Object"))) (by decide) (by decide)))
  exact OwnW.retV C rfl ⟨rfl, KH, F_modCount_a1, F_elementData_a1, F_size_a1⟩ (by decide) (by decide) own_d_jdk_38_method_2_code_11
set_option maxRecDepth 65536 in
set_option maxHeartbeats 40000000 in
theorem own_maxI (l : Launch) (Z : State) (a0 : Array Value) (hw : ∀ d ∈ tables_1, d.before a0 Z = true) (p1 p2 : Int32) (h0 : Heap) (n0 : Nat)  :
    Ctr l Z (⟨"java/lang/Math", "max", "(II)I"⟩ : MethodName) jdk_29_method_65_code 2 (some .int) ({ frames := 0, cells := 0, slots := 0, locals := 0 } : Room) #[(.int p1), (.int p2)] h0 n0 (fun v h => v = some (.int (if p1 < p2 then p2 else p1)) ∧ h = h0) := by
  refine Ctr.of (Jvm.Free.JP.mathPlain rfl (by decide +kernel)) ?_
  intro p e s m below meth c C
  refine Go.frame (g' := mkF m 0 #[.val (.int p1), .val (.int p2)] []) (by first | (simp [entryFrame, mkF, argsToLocals, Value.category]; done) | rfl) ?_
  refine OwnW.iloadN C (pc' := 1) own_d_jdk_29_method_65_code_0 rfl rfl ?_
  refine OwnW.iloadN C (pc' := 2) own_d_jdk_29_method_65_code_1 rfl rfl ?_
  refine OwnW.icLt C (pcY := 9) (pcN := 5) own_d_jdk_29_method_65_code_2 (by decide) rfl rfl (fun hc2 => ?_) (fun hc2 => ?_)
  · refine OwnW.iloadN C (pc' := 10) own_d_jdk_29_method_65_code_9 rfl rfl ?_
    exact OwnW.retI C rfl ⟨by rw [if_pos hc2], rfl⟩ (by decide) (by decide) own_d_jdk_29_method_65_code_10
  · refine OwnW.iloadN C (pc' := 6) own_d_jdk_29_method_65_code_5 rfl rfl ?_
    refine OwnW.goto C (pc' := 10) own_d_jdk_29_method_65_code_6 (by decide) rfl ?_
    exact OwnW.retI C rfl ⟨by rw [if_neg hc2], rfl⟩ (by decide) (by decide) own_d_jdk_29_method_65_code_10
set_option maxRecDepth 65536 in
set_option maxHeartbeats 40000000 in
theorem own_growI (l : Launch) (Z : State) (a0 : Array Value) (hw : ∀ d ∈ tables_1, d.before a0 Z = true) (a1 d1 : Addr) (mc : Int32) (cD : ClassId) (h0 : Heap) (n0 : Nat) (Sz : n0 ≤ h0.size) (X_a1 : Exa Z h0 a1 "java/util/ArrayList") (F_modCount_a1 : Fld Z h0 a1 "java/util/AbstractList" "modCount" "I" (.int mc)) (F_elementData_a1 : Fld Z h0 a1 "java/util/ArrayList" "elementData" "[Ljava/lang/Object;" (.ref d1)) (F_size_a1 : Fld Z h0 a1 "java/util/ArrayList" "size" "I" (.int 0)) (g_a1 : n0 ≤ a1) (V_d1 : Arv Z h0 d1 cD (.object "java/lang/Object") 0 [] .null) (S_D : Sta Z h0 "java/util/ArrayList" "DEFAULTCAPACITY_EMPTY_ELEMENTDATA" "[Ljava/lang/Object;" (.ref d1)) :
    Ctr l Z (⟨"java/util/ArrayList", "grow", "(I)[Ljava/lang/Object;"⟩ : MethodName) jdk_38_method_6_code 4 (some (.array (.object "java/lang/Object"))) ({ frames := 1, cells := 1, slots := 10, locals := 14 } : Room) #[(.ref a1), (.int (1 : Int32))] h0 n0 (fun v h => ∃ (b : Addr) (cO : ClassId), v = some (.ref b) ∧ Keep h0 h [a1] ∧ h0.size ≤ b ∧ Fld Z h a1 "java/util/AbstractList" "modCount" "I" (.int mc) ∧ Fld Z h a1 "java/util/ArrayList" "elementData" "[Ljava/lang/Object;" (.ref b) ∧ Fld Z h a1 "java/util/ArrayList" "size" "I" (.int 0) ∧ Arv Z h b cO (.object "java/lang/Object") 10 (List.replicate 10 .null) .null ∧ Exa Z h b "[Ljava/lang/Object;" ∧ Ovr Z cO "java/lang/Object") := by
  refine Ctr.of (plainFor_of_name own_pn_ArrayList) ?_
  intro p e s m below meth c C
  refine Go.frame (g' := mkF m 0 #[.val (.ref a1), .val (.int (1 : Int32)), .unset, .unset] []) (by first | (simp [entryFrame, mkF, argsToLocals, Value.category]; done) | rfl) ?_
  have KH := Keep.refl h0 [a1]
  refine OwnW.aloadN C (pc' := 1) own_d_jdk_38_method_6_code_0 rfl rfl rfl ?_
  refine OwnW.getF C (pc' := 4) (host := "") (Or.inl (hw _ (List.mem_of_getElem? (i := 24) rfl))) Via.refl F_elementData_a1 own_d_jdk_38_method_6_code_1 rfl ?_
  refine OwnW.alen C (pc' := 5) V_d1 own_d_jdk_38_method_6_code_4 rfl ?_
  refine OwnW.istoreN C (pc' := 6) own_d_jdk_38_method_6_code_5 rfl (l' := #[.val (.ref a1), .val (.int (1 : Int32)), .val (.int (0 : Int32)), .unset]) rfl ?_
  refine OwnW.iloadN C (pc' := 7) own_d_jdk_38_method_6_code_6 rfl rfl ?_
  refine OwnW.ifGt C (pcY := 20) (pcN := 10) own_d_jdk_38_method_6_code_7 (by decide) rfl rfl (fun hc7 => absurd hc7 (by decide)) (fun hc7 => ?_)
  refine OwnW.aloadN C (pc' := 11) own_d_jdk_38_method_6_code_10 rfl rfl rfl ?_
  refine OwnW.getF C (pc' := 14) (host := "") (Or.inl (hw _ (List.mem_of_getElem? (i := 24) rfl))) Via.refl F_elementData_a1 own_d_jdk_38_method_6_code_11 rfl ?_
  refine OwnW.getS C (pc' := 17) (host := "") (Or.inl (hw _ (List.mem_of_getElem? (i := 23) rfl))) Via.refl S_D own_d_jdk_38_method_6_code_14 rfl ?_
  refine OwnW.acEq C (pcY := 45) (pcN := 20) rfl rfl own_d_jdk_38_method_6_code_17 (by decide) rfl rfl (fun hc17 => ?_) (fun hc17 => absurd rfl hc17)
  refine OwnW.aloadN C (pc' := 46) own_d_jdk_38_method_6_code_45 rfl rfl rfl ?_
  refine OwnW.bipush C (pc' := 48) own_d_jdk_38_method_6_code_46 rfl (z := 10) rfl ?_
  refine OwnW.iloadN C (pc' := 49) own_d_jdk_38_method_6_code_48 rfl rfl ?_
  refine OwnW.callS C (pc' := 52) (y := (⟨"java/lang/Math", "max", "(II)I"⟩ : MethodName)) (W := 1) (argsL := [(.int (10 : Int32)), (.int (1 : Int32))]) (rest := [(.ref a1)]) (hw _ (List.mem_of_getElem? (i := 123) rfl)) (hw _ (List.mem_of_getElem? (i := 124) rfl)) (hw _ (List.mem_of_getElem? (i := 125) rfl)) (hw _ (List.mem_of_getElem? (i := 126) rfl)) (by decide) (own_maxI l Z a0 hw 10 1 h0 n0) (K' := 0) (S' := 0) (by decide) (by decide) rfl own_pd__II_I rfl (Nat.le_of_eq rfl) rfl rfl (by decide) (by decide) rfl own_d_jdk_38_method_6_code_49 rfl (fun v h' hq => ?_)
  obtain ⟨rfl, hh⟩ := hq
  refine Go.at (st' := [(.int (if (10 : Int32) < 1 then (1 : Int32) else 10)), (.ref a1)]) rfl ?_
  refine Go.heap hh ?_
  rw [show (if (10 : Int32) < 1 then (1 : Int32) else 10) = 10 from rfl]
  refine OwnW.newR C (pc' := 55) (K' := 1) (S' := 10) (ad := "[Ljava/lang/Object;") (by decide +kernel) (hw _ (List.mem_of_getElem? (i := 127) rfl)) (hw _ (List.mem_of_getElem? (i := 128) rfl)) (cap := 10) (by decide) (by decide) (by decide) own_d_jdk_38_method_6_code_52 rfl rfl rfl (by decide) (by decide) (fun h1 b1 cA_b1 g1 E1 V_b1 X_b1 O_b1 => ?_)
  have ne_a1_b1 : a1 ≠ b1 := Nat.ne_of_lt (Nat.lt_of_lt_of_eq X_a1.lt g1.symm)
  have g_b1 : n0 ≤ b1 := Nat.le_trans Sz (Nat.le_of_eq g1.symm)
  have s_b1 : h0.size ≤ b1 := Nat.le_trans KH.1 (Nat.le_of_eq g1.symm)
  have KH := KH.ext E1
  have Sz := Nat.le_trans Sz E1.1
  have X_a1 := X_a1.ext E1
  have F_modCount_a1 := F_modCount_a1.ext E1
  have F_elementData_a1 := F_elementData_a1.ext E1
  have F_size_a1 := F_size_a1.ext E1
  have V_b1 : Arv Z h1 b1 cA_b1 (.object "java/lang/Object") (10 : Int32) [.null, .null, .null, .null, .null, .null, .null, .null, .null, .null] .null := V_b1.pad (pad_rep [] .null 10)
  refine OwnW.dupX1 C (pc' := 56) own_d_jdk_38_method_6_code_55 rfl rfl rfl ?_
  refine OwnW.putF C (pc' := 59) (host := "") (Or.inl (hw _ (List.mem_of_getElem? (i := 24) rfl))) Via.refl F_elementData_a1 X_a1 (Or.inl (hw _ (List.mem_of_getElem? (i := 25) rfl))) (hw _ (List.mem_of_getElem? (i := 1) rfl)) (ty := (.array (.object "java/lang/Object"))) (by decide) rfl rfl g_a1 own_d_jdk_38_method_6_code_56 rfl (fun h2 W2 => ?_)
  have KH := KH.wr W2 (Or.inl (List.mem_of_getElem? (i := 0) rfl))
  have Sz := Nat.le_trans Sz (Keep.of_wr W2).1
  have X_a1 := X_a1.wr W2
  have F_modCount_a1 := F_modCount_a1.other W2 (Or.inr (slot_ne (Or.inl (hw _ (List.mem_of_getElem? (i := 22) rfl))) (Or.inl (hw _ (List.mem_of_getElem? (i := 25) rfl))) (by decide) (t := .int) (t' := (.array (.object "java/lang/Object"))) (by decide) (by decide)))
  have F_elementData_a1 := F_elementData_a1.same W2
  have F_size_a1 := F_size_a1.other W2 (Or.inr (slot_ne (Or.inl (hw _ (List.mem_of_getElem? (i := 64) rfl))) (Or.inl (hw _ (List.mem_of_getElem? (i := 25) rfl))) (by decide) (t := .int) (t' := (.array (.object "java/lang/Object"))) (by decide) (by decide)))
  have X_b1 := X_b1.wr W2
  have V_b1 := V_b1.other W2 (Ne.symm ne_a1_b1)
  exact OwnW.retA C rfl rfl rfl ⟨b1, cA_b1, rfl, KH, s_b1, F_modCount_a1, F_elementData_a1, F_size_a1, V_b1, X_b1, O_b1⟩ (by decide) (by decide) own_d_jdk_38_method_6_code_59
set_option maxRecDepth 65536 in
set_option maxHeartbeats 40000000 in
theorem own_grow (l : Launch) (Z : State) (a0 : Array Value) (hw : ∀ d ∈ tables_1, d.before a0 Z = true) (a1 d1 : Addr) (mc : Int32) (cD : ClassId) (h0 : Heap) (n0 : Nat) (Sz : n0 ≤ h0.size) (X_a1 : Exa Z h0 a1 "java/util/ArrayList") (F_modCount_a1 : Fld Z h0 a1 "java/util/AbstractList" "modCount" "I" (.int mc)) (F_elementData_a1 : Fld Z h0 a1 "java/util/ArrayList" "elementData" "[Ljava/lang/Object;" (.ref d1)) (F_size_a1 : Fld Z h0 a1 "java/util/ArrayList" "size" "I" (.int 0)) (g_a1 : n0 ≤ a1) (V_d1 : Arv Z h0 d1 cD (.object "java/lang/Object") 0 [] .null) (S_D : Sta Z h0 "java/util/ArrayList" "DEFAULTCAPACITY_EMPTY_ELEMENTDATA" "[Ljava/lang/Object;" (.ref d1)) :
    Ctr l Z (⟨"java/util/ArrayList", "grow", "()[Ljava/lang/Object;"⟩ : MethodName) jdk_38_method_7_code 1 (some (.array (.object "java/lang/Object"))) ({ frames := 2, cells := 1, slots := 10, locals := 29 } : Room) #[(.ref a1)] h0 n0 (fun v h => ∃ (b : Addr) (cO : ClassId), v = some (.ref b) ∧ Keep h0 h [a1] ∧ h0.size ≤ b ∧ Fld Z h a1 "java/util/AbstractList" "modCount" "I" (.int mc) ∧ Fld Z h a1 "java/util/ArrayList" "elementData" "[Ljava/lang/Object;" (.ref b) ∧ Fld Z h a1 "java/util/ArrayList" "size" "I" (.int 0) ∧ Arv Z h b cO (.object "java/lang/Object") 10 (List.replicate 10 .null) .null ∧ Exa Z h b "[Ljava/lang/Object;" ∧ Ovr Z cO "java/lang/Object") := by
  refine Ctr.of (plainFor_of_name own_pn_ArrayList) ?_
  intro p e s m below meth c C
  refine Go.frame (g' := mkF m 0 #[.val (.ref a1)] []) (by first | (simp [entryFrame, mkF, argsToLocals, Value.category]; done) | rfl) ?_
  refine OwnW.aloadN C (pc' := 1) own_d_jdk_38_method_7_code_0 rfl rfl rfl ?_
  refine OwnW.aloadN C (pc' := 2) own_d_jdk_38_method_7_code_1 rfl rfl rfl ?_
  refine OwnW.getF C (pc' := 5) (host := "") (Or.inl (hw _ (List.mem_of_getElem? (i := 63) rfl))) Via.refl F_size_a1 own_d_jdk_38_method_7_code_2 rfl ?_
  refine OwnW.iconst C (pc' := 6) own_d_jdk_38_method_7_code_5 rfl (z := 1) rfl ?_
  refine OwnW.iadd C (pc' := 7) own_d_jdk_38_method_7_code_6 rfl ?_
  rw [show (0 : Int32) + 1 = 1 from rfl]
  refine OwnW.callP C (pc' := 10) (y := (⟨"java/util/ArrayList", "grow", "(I)[Ljava/lang/Object;"⟩ : MethodName)) (W := 0) (argsL := [(.int (1 : Int32))]) (rest := []) (hw _ (List.mem_of_getElem? (i := 118) rfl)) (hw _ (List.mem_of_getElem? (i := 119) rfl)) (hw _ (List.mem_of_getElem? (i := 121) rfl)) (hw _ (List.mem_of_getElem? (i := 120) rfl)) (hw _ (List.mem_of_getElem? (i := 2) rfl)) (hw _ (List.mem_of_getElem? (i := 122) rfl)) X_a1 (by decide) (own_growI l Z a0 hw a1 d1 mc cD h0 n0 Sz X_a1 F_modCount_a1 F_elementData_a1 F_size_a1 g_a1 V_d1 S_D) (K' := 1) (S' := 10) (by decide) (by decide) rfl own_pd__I__Ljava_lang_Object_ rfl (Nat.le_of_eq rfl) rfl rfl (by decide) (by decide) rfl own_d_jdk_38_method_7_code_7 rfl (fun v h1 hq => ?_)
  obtain ⟨b, cO, rfl, KK, hb, F1, F2, F3, V, XB, O⟩ := hq
  refine Go.at (st' := [(.ref b)]) rfl ?_
  exact OwnW.retA C rfl rfl rfl ⟨b, cO, rfl, KK, hb, F1, F2, F3, V, XB, O⟩ (by decide) (by decide) own_d_jdk_38_method_7_code_10
set_option maxRecDepth 65536 in
set_option maxHeartbeats 40000000 in
theorem own_add3_0 (l : Launch) (Z : State) (a0 : Array Value) (hw : ∀ d ∈ tables_1, d.before a0 Z = true) (a1 e1 d1 : Addr) (mc : Int32) (cD : ClassId) (h0 : Heap) (n0 : Nat) (Sz : n0 ≤ h0.size) (X_a1 : Exa Z h0 a1 "java/util/ArrayList") (F_modCount_a1 : Fld Z h0 a1 "java/util/AbstractList" "modCount" "I" (.int mc)) (F_elementData_a1 : Fld Z h0 a1 "java/util/ArrayList" "elementData" "[Ljava/lang/Object;" (.ref d1)) (F_size_a1 : Fld Z h0 a1 "java/util/ArrayList" "size" "I" (.int 0)) (g_a1 : n0 ≤ a1) (V_d1 : Arv Z h0 d1 cD (.object "java/lang/Object") 0 [] .null) (S_D : Sta Z h0 "java/util/ArrayList" "DEFAULTCAPACITY_EMPTY_ELEMENTDATA" "[Ljava/lang/Object;" (.ref d1)) (I_e : Ins Z h0 e1 "java/lang/Object" true) :
    Ctr l Z (⟨"java/util/ArrayList", "add", "(Ljava/lang/Object;[Ljava/lang/Object;I)V"⟩ : MethodName) jdk_38_method_24_code 4 none ({ frames := 3, cells := 1, slots := 10, locals := 41 } : Room) #[(.ref a1), (.ref e1), (.ref d1), (.int (0 : Int32))] h0 n0 (fun v h => v = none ∧ Keep h0 h [a1] ∧ ∃ (b : Addr) (cO : ClassId), h0.size ≤ b ∧ Fld Z h a1 "java/util/AbstractList" "modCount" "I" (.int mc) ∧ Fld Z h a1 "java/util/ArrayList" "elementData" "[Ljava/lang/Object;" (.ref b) ∧ Fld Z h a1 "java/util/ArrayList" "size" "I" (.int 1) ∧ Arv Z h b cO (.object "java/lang/Object") 10 ((List.replicate 10 .null).set 0 (.ref e1)) .null ∧ Exa Z h b "[Ljava/lang/Object;" ∧ Ovr Z cO "java/lang/Object") := by
  refine Ctr.of (plainFor_of_name own_pn_ArrayList) ?_
  intro p e s m below meth c C
  refine Go.frame (g' := mkF m 0 #[.val (.ref a1), .val (.ref e1), .val (.ref d1), .val (.int (0 : Int32))] []) (by first | (simp [entryFrame, mkF, argsToLocals, Value.category]; done) | rfl) ?_
  refine OwnW.iloadN C (pc' := 1) own_d_jdk_38_method_24_code_0 rfl rfl ?_
  refine OwnW.aloadN C (pc' := 2) own_d_jdk_38_method_24_code_1 rfl rfl rfl ?_
  refine OwnW.alen C (pc' := 3) V_d1 own_d_jdk_38_method_24_code_2 rfl ?_
  refine OwnW.icNe C (pcY := 11) (pcN := 6) own_d_jdk_38_method_24_code_3 (by decide) rfl rfl (fun hc3 => absurd rfl hc3) (fun hc3 => ?_)
  refine OwnW.aloadN C (pc' := 7) own_d_jdk_38_method_24_code_6 rfl rfl rfl ?_
  refine OwnW.callP C (pc' := 10) (y := (⟨"java/util/ArrayList", "grow", "()[Ljava/lang/Object;"⟩ : MethodName)) (W := 0) (argsL := []) (rest := []) (hw _ (List.mem_of_getElem? (i := 113) rfl)) (hw _ (List.mem_of_getElem? (i := 114) rfl)) (hw _ (List.mem_of_getElem? (i := 116) rfl)) (hw _ (List.mem_of_getElem? (i := 115) rfl)) (hw _ (List.mem_of_getElem? (i := 2) rfl)) (hw _ (List.mem_of_getElem? (i := 117) rfl)) X_a1 (by decide) (own_grow l Z a0 hw a1 d1 mc cD h0 n0 Sz X_a1 F_modCount_a1 F_elementData_a1 F_size_a1 g_a1 V_d1 S_D) (K' := 1) (S' := 10) (by decide) (by decide) rfl own_pd____Ljava_lang_Object_ rfl (Nat.le_of_eq rfl) rfl rfl (by decide) (by decide) rfl own_d_jdk_38_method_24_code_7 rfl (fun v h1 hq => ?_)
  obtain ⟨b, cO, rfl, KK, hb, F1, F2, F3, V_b, X_b, O_b⟩ := hq
  refine Go.at (st' := [(.ref b)]) rfl ?_
  have ne_a1_b : a1 ≠ b := Nat.ne_of_lt (Nat.lt_of_lt_of_le X_a1.lt hb)
  have g_b : n0 ≤ b := Nat.le_trans Sz hb
  have KH := KK
  have I_e := ins_keep I_e KK
  have X_a1 := X_a1.keep KK
  have F_modCount_a1 := F1
  have F_elementData_a1 := F2
  have F_size_a1 := F3
  have s_b := hb
  refine OwnW.astoreN C (pc' := 11) own_d_jdk_38_method_24_code_10 rfl rfl (l' := #[.val (.ref a1), .val (.ref e1), .val (.ref b), .val (.int (0 : Int32))]) rfl ?_
  refine OwnW.aloadN C (pc' := 12) own_d_jdk_38_method_24_code_11 rfl rfl rfl ?_
  refine OwnW.iloadN C (pc' := 13) own_d_jdk_38_method_24_code_12 rfl rfl ?_
  refine OwnW.aloadN C (pc' := 14) own_d_jdk_38_method_24_code_13 rfl rfl rfl ?_
  refine OwnW.aastore C (pc' := 15) V_b rfl g_b ⟨by decide, by decide⟩ (k := 0) rfl (Nat.le_of_ble_eq_true rfl) (sto_of V_b O_b I_e) rfl own_d_jdk_38_method_24_code_14 rfl (fun h2 W2 V_b => ?_)
  have KH := KH.wr W2 (Or.inr s_b)
  have X_a1 := X_a1.wr W2
  have F_modCount_a1 := F_modCount_a1.other W2 (Or.inl ne_a1_b)
  have F_elementData_a1 := F_elementData_a1.other W2 (Or.inl ne_a1_b)
  have F_size_a1 := F_size_a1.other W2 (Or.inl ne_a1_b)
  have X_b := X_b.wr W2
  refine OwnW.aloadN C (pc' := 16) own_d_jdk_38_method_24_code_15 rfl rfl rfl ?_
  refine OwnW.iloadN C (pc' := 17) own_d_jdk_38_method_24_code_16 rfl rfl ?_
  refine OwnW.iconst C (pc' := 18) own_d_jdk_38_method_24_code_17 rfl (z := 1) rfl ?_
  refine OwnW.iadd C (pc' := 19) own_d_jdk_38_method_24_code_18 rfl ?_
  rw [show (0 : Int32) + 1 = 1 from rfl]
  refine OwnW.putF C (pc' := 22) (host := "") (Or.inl (hw _ (List.mem_of_getElem? (i := 63) rfl))) Via.refl F_size_a1 X_a1 (Or.inl (hw _ (List.mem_of_getElem? (i := 64) rfl))) (hw _ (List.mem_of_getElem? (i := 1) rfl)) (ty := .int) (by decide) rfl rfl g_a1 own_d_jdk_38_method_24_code_19 rfl (fun h3 W3 => ?_)
  have KH := KH.wr W3 (Or.inl (List.mem_of_getElem? (i := 0) rfl))
  have X_a1 := X_a1.wr W3
  have F_modCount_a1 := F_modCount_a1.other W3 (Or.inr (slot_ne (Or.inl (hw _ (List.mem_of_getElem? (i := 22) rfl))) (Or.inl (hw _ (List.mem_of_getElem? (i := 64) rfl))) (by decide) (t := .int) (t' := .int) (by decide) (by decide)))
  have F_elementData_a1 := F_elementData_a1.other W3 (Or.inr (slot_ne (Or.inl (hw _ (List.mem_of_getElem? (i := 25) rfl))) (Or.inl (hw _ (List.mem_of_getElem? (i := 64) rfl))) (by decide) (t := (.array (.object "java/lang/Object"))) (t' := .int) (by decide) (by decide)))
  have F_size_a1 := F_size_a1.same W3
  have X_b := X_b.wr W3
  have V_b := V_b.other W3 (Ne.symm ne_a1_b)
  exact OwnW.retV C rfl ⟨rfl, KH, b, cO, s_b, F_modCount_a1, F_elementData_a1, F_size_a1, V_b, X_b, O_b⟩ (by decide) (by decide) own_d_jdk_38_method_24_code_22
set_option maxRecDepth 65536 in
set_option maxHeartbeats 40000000 in
theorem own_add_0 (l : Launch) (Z : State) (a0 : Array Value) (hw : ∀ d ∈ tables_1, d.before a0 Z = true) (a1 e1 d1 : Addr) (mc : Int32) (cD : ClassId) (h0 : Heap) (n0 : Nat) (Sz : n0 ≤ h0.size) (X_a1 : Exa Z h0 a1 "java/util/ArrayList") (F_modCount_a1 : Fld Z h0 a1 "java/util/AbstractList" "modCount" "I" (.int mc)) (F_elementData_a1 : Fld Z h0 a1 "java/util/ArrayList" "elementData" "[Ljava/lang/Object;" (.ref d1)) (F_size_a1 : Fld Z h0 a1 "java/util/ArrayList" "size" "I" (.int 0)) (g_a1 : n0 ≤ a1) (V_d1 : Arv Z h0 d1 cD (.object "java/lang/Object") 0 [] .null) (S_D : Sta Z h0 "java/util/ArrayList" "DEFAULTCAPACITY_EMPTY_ELEMENTDATA" "[Ljava/lang/Object;" (.ref d1)) (I_e : Ins Z h0 e1 "java/lang/Object" true) (ne_d : d1 ≠ a1) :
    Ctr l Z (⟨"java/util/ArrayList", "add", "(Ljava/lang/Object;)Z"⟩ : MethodName) jdk_38_method_25_code 2 (some .boolean) ({ frames := 4, cells := 1, slots := 10, locals := 56 } : Room) #[(.ref a1), (.ref e1)] h0 n0 (fun v h => v = some (.int 1) ∧ Keep h0 h [a1] ∧ ∃ (b : Addr) (cO : ClassId), h0.size ≤ b ∧ Fld Z h a1 "java/util/AbstractList" "modCount" "I" (.int (mc + 1)) ∧ Fld Z h a1 "java/util/ArrayList" "elementData" "[Ljava/lang/Object;" (.ref b) ∧ Fld Z h a1 "java/util/ArrayList" "size" "I" (.int 1) ∧ Arv Z h b cO (.object "java/lang/Object") 10 ((List.replicate 10 .null).set 0 (.ref e1)) .null ∧ Exa Z h b "[Ljava/lang/Object;" ∧ Ovr Z cO "java/lang/Object") := by
  refine Ctr.of (plainFor_of_name own_pn_ArrayList) ?_
  intro p e s m below meth c C
  refine Go.frame (g' := mkF m 0 #[.val (.ref a1), .val (.ref e1)] []) (by first | (simp [entryFrame, mkF, argsToLocals, Value.category]; done) | rfl) ?_
  have KH := Keep.refl h0 [a1]
  refine OwnW.aloadN C (pc' := 1) own_d_jdk_38_method_25_code_0 rfl rfl rfl ?_
  refine OwnW.dup C (pc' := 2) own_d_jdk_38_method_25_code_1 rfl rfl ?_
  refine OwnW.getF C (pc' := 5) (host := "") (Or.inl (hw _ (List.mem_of_getElem? (i := 106) rfl))) (Via.of (hw _ (List.mem_of_getElem? (i := 107) rfl))) F_modCount_a1 own_d_jdk_38_method_25_code_2 rfl ?_
  refine OwnW.iconst C (pc' := 6) own_d_jdk_38_method_25_code_5 rfl (z := 1) rfl ?_
  refine OwnW.iadd C (pc' := 7) own_d_jdk_38_method_25_code_6 rfl ?_
  refine OwnW.putF C (pc' := 10) (host := "") (Or.inl (hw _ (List.mem_of_getElem? (i := 106) rfl))) (Via.of (hw _ (List.mem_of_getElem? (i := 107) rfl))) F_modCount_a1 X_a1 (Or.inl (hw _ (List.mem_of_getElem? (i := 22) rfl))) (hw _ (List.mem_of_getElem? (i := 1) rfl)) (ty := .int) (by decide) rfl rfl g_a1 own_d_jdk_38_method_25_code_7 rfl (fun h1 W1 => ?_)
  have KH := KH.wr W1 (Or.inl (List.mem_of_getElem? (i := 0) rfl))
  have Sz := Nat.le_trans Sz (Keep.of_wr W1).1
  have X_a1 := X_a1.wr W1
  have F_modCount_a1 := F_modCount_a1.same W1
  have F_elementData_a1 := F_elementData_a1.other W1 (Or.inr (slot_ne (Or.inl (hw _ (List.mem_of_getElem? (i := 25) rfl))) (Or.inl (hw _ (List.mem_of_getElem? (i := 22) rfl))) (by decide) (t := (.array (.object "java/lang/Object"))) (t' := .int) (by decide) (by decide)))
  have F_size_a1 := F_size_a1.other W1 (Or.inr (slot_ne (Or.inl (hw _ (List.mem_of_getElem? (i := 64) rfl))) (Or.inl (hw _ (List.mem_of_getElem? (i := 22) rfl))) (by decide) (t := .int) (t' := .int) (by decide) (by decide)))
  refine OwnW.aloadN C (pc' := 11) own_d_jdk_38_method_25_code_10 rfl rfl rfl ?_
  refine OwnW.aloadN C (pc' := 12) own_d_jdk_38_method_25_code_11 rfl rfl rfl ?_
  refine OwnW.aloadN C (pc' := 13) own_d_jdk_38_method_25_code_12 rfl rfl rfl ?_
  refine OwnW.getF C (pc' := 16) (host := "") (Or.inl (hw _ (List.mem_of_getElem? (i := 24) rfl))) Via.refl F_elementData_a1 own_d_jdk_38_method_25_code_13 rfl ?_
  refine OwnW.aloadN C (pc' := 17) own_d_jdk_38_method_25_code_16 rfl rfl rfl ?_
  refine OwnW.getF C (pc' := 20) (host := "") (Or.inl (hw _ (List.mem_of_getElem? (i := 63) rfl))) Via.refl F_size_a1 own_d_jdk_38_method_25_code_17 rfl ?_
  have V_d1 := V_d1.other W1 ne_d
  have S_D := S_D.wr W1
  have I_e := I_e.wr W1
  refine OwnW.callP C (pc' := 23) (y := (⟨"java/util/ArrayList", "add", "(Ljava/lang/Object;[Ljava/lang/Object;I)V"⟩ : MethodName)) (W := 0) (argsL := [(.ref e1), (.ref d1), (.int (0 : Int32))]) (rest := []) (hw _ (List.mem_of_getElem? (i := 108) rfl)) (hw _ (List.mem_of_getElem? (i := 109) rfl)) (hw _ (List.mem_of_getElem? (i := 111) rfl)) (hw _ (List.mem_of_getElem? (i := 110) rfl)) (hw _ (List.mem_of_getElem? (i := 2) rfl)) (hw _ (List.mem_of_getElem? (i := 112) rfl)) X_a1 (by decide) (own_add3_0 l Z a0 hw a1 e1 d1 (mc + 1) cD h1 n0 Sz X_a1 F_modCount_a1 F_elementData_a1 F_size_a1 g_a1 V_d1 S_D I_e) (K' := 1) (S' := 10) (by decide) (by decide) rfl own_pd__Ljava_lang_Object__Ljava_lang_Object_I_V rfl (Nat.le_of_eq rfl) rfl rfl (by decide) (by decide) rfl own_d_jdk_38_method_25_code_20 rfl (fun v h9 hq => ?_)
  obtain ⟨rfl, KK, b, cO, hb, F1, F2, F3, V, XB, O⟩ := hq
  refine Go.at (st' := []) rfl ?_
  have KH := KH.trans KK (allS (Or.inl (List.mem_of_getElem? (i := 0) rfl)) all0)
  have hb := Nat.le_trans (Keep.of_wr W1).1 hb
  refine OwnW.iconst C (pc' := 24) own_d_jdk_38_method_25_code_23 rfl (z := 1) rfl ?_
  exact OwnW.retN C (t := .boolean) (z := (1 : Int32)) rfl (by simp) rfl ⟨rfl, KH, b, cO, hb, F1, F2, F3, V, XB, O⟩ (by decide) (by decide) own_d_jdk_38_method_25_code_24
set_option maxRecDepth 65536 in
set_option maxHeartbeats 40000000 in
theorem own_add3_N (l : Launch) (Z : State) (a0 : Array Value) (hw : ∀ d ∈ tables_1, d.before a0 Z = true) (a1 e1 b : Addr) (mc k j : Int32) (kk : Nat) (vs : List Value) (cO : ClassId) (h0 : Heap) (n0 : Nat) (X_a1 : Exa Z h0 a1 "java/util/ArrayList") (F_modCount_a1 : Fld Z h0 a1 "java/util/AbstractList" "modCount" "I" (.int mc)) (F_elementData_a1 : Fld Z h0 a1 "java/util/ArrayList" "elementData" "[Ljava/lang/Object;" (.ref b)) (F_size_a1 : Fld Z h0 a1 "java/util/ArrayList" "size" "I" (.int k)) (g_a1 : n0 ≤ a1) (V_b : Arv Z h0 b cO (.object "java/lang/Object") 10 vs .null) (O_b : Ovr Z cO "java/lang/Object") (g_b : n0 ≤ b) (ne1 : a1 ≠ b) (I_e : Ins Z h0 e1 "java/lang/Object" true) (hj : k + 1 = j) (hk : ¬ k < 0 ∧ k < 10) (h10 : ¬ k = 10) (hkk : k.toNatClampNeg = kk) (hlen : kk < vs.length) :
    Ctr l Z (⟨"java/util/ArrayList", "add", "(Ljava/lang/Object;[Ljava/lang/Object;I)V"⟩ : MethodName) jdk_38_method_24_code 4 none ({ frames := 0, cells := 0, slots := 0, locals := 0 } : Room) #[(.ref a1), (.ref e1), (.ref b), (.int k)] h0 n0 (fun v h => v = none ∧ Keep h0 h [a1, b] ∧ Fld Z h a1 "java/util/AbstractList" "modCount" "I" (.int mc) ∧ Fld Z h a1 "java/util/ArrayList" "elementData" "[Ljava/lang/Object;" (.ref b) ∧ Fld Z h a1 "java/util/ArrayList" "size" "I" (.int j) ∧ Arv Z h b cO (.object "java/lang/Object") 10 (vs.set kk (.ref e1)) .null) := by
  refine Ctr.of (plainFor_of_name own_pn_ArrayList) ?_
  intro p e s m below meth c C
  refine Go.frame (g' := mkF m 0 #[.val (.ref a1), .val (.ref e1), .val (.ref b), .val (.int k)] []) (by first | (simp [entryFrame, mkF, argsToLocals, Value.category]; done) | rfl) ?_
  have KH := Keep.refl h0 [a1, b]
  refine OwnW.iloadN C (pc' := 1) own_d_jdk_38_method_24_code_0 rfl rfl ?_
  refine OwnW.aloadN C (pc' := 2) own_d_jdk_38_method_24_code_1 rfl rfl rfl ?_
  refine OwnW.alen C (pc' := 3) V_b own_d_jdk_38_method_24_code_2 rfl ?_
  refine OwnW.icNe C (pcY := 11) (pcN := 6) own_d_jdk_38_method_24_code_3 (by decide) rfl rfl (fun hc3 => ?_) (fun hc3 => absurd hc3 h10)
  refine OwnW.aloadN C (pc' := 12) own_d_jdk_38_method_24_code_11 rfl rfl rfl ?_
  refine OwnW.iloadN C (pc' := 13) own_d_jdk_38_method_24_code_12 rfl rfl ?_
  refine OwnW.aloadN C (pc' := 14) own_d_jdk_38_method_24_code_13 rfl rfl rfl ?_
  refine OwnW.aastore C (pc' := 15) V_b rfl g_b hk (k := kk) hkk hlen (sto_of V_b O_b I_e) rfl own_d_jdk_38_method_24_code_14 rfl (fun h1 W1 V_b => ?_)
  have KH := KH.wr W1 (Or.inl (List.mem_of_getElem? (i := 1) rfl))
  have X_a1 := X_a1.wr W1
  have F_modCount_a1 := F_modCount_a1.other W1 (Or.inl ne1)
  have F_elementData_a1 := F_elementData_a1.other W1 (Or.inl ne1)
  have F_size_a1 := F_size_a1.other W1 (Or.inl ne1)
  refine OwnW.aloadN C (pc' := 16) own_d_jdk_38_method_24_code_15 rfl rfl rfl ?_
  refine OwnW.iloadN C (pc' := 17) own_d_jdk_38_method_24_code_16 rfl rfl ?_
  refine OwnW.iconst C (pc' := 18) own_d_jdk_38_method_24_code_17 rfl (z := 1) rfl ?_
  refine OwnW.iadd C (pc' := 19) own_d_jdk_38_method_24_code_18 rfl ?_
  rw [hj]
  refine OwnW.putF C (pc' := 22) (host := "") (Or.inl (hw _ (List.mem_of_getElem? (i := 63) rfl))) Via.refl F_size_a1 X_a1 (Or.inl (hw _ (List.mem_of_getElem? (i := 64) rfl))) (hw _ (List.mem_of_getElem? (i := 1) rfl)) (ty := .int) (by decide) rfl rfl g_a1 own_d_jdk_38_method_24_code_19 rfl (fun h2 W2 => ?_)
  have KH := KH.wr W2 (Or.inl (List.mem_of_getElem? (i := 0) rfl))
  have X_a1 := X_a1.wr W2
  have F_modCount_a1 := F_modCount_a1.other W2 (Or.inr (slot_ne (Or.inl (hw _ (List.mem_of_getElem? (i := 22) rfl))) (Or.inl (hw _ (List.mem_of_getElem? (i := 64) rfl))) (by decide) (t := .int) (t' := .int) (by decide) (by decide)))
  have F_elementData_a1 := F_elementData_a1.other W2 (Or.inr (slot_ne (Or.inl (hw _ (List.mem_of_getElem? (i := 25) rfl))) (Or.inl (hw _ (List.mem_of_getElem? (i := 64) rfl))) (by decide) (t := (.array (.object "java/lang/Object"))) (t' := .int) (by decide) (by decide)))
  have F_size_a1 := F_size_a1.same W2
  have V_b := V_b.other W2 (Ne.symm ne1)
  exact OwnW.retV C rfl ⟨rfl, KH, F_modCount_a1, F_elementData_a1, F_size_a1, V_b⟩ (by decide) (by decide) own_d_jdk_38_method_24_code_22
set_option maxRecDepth 65536 in
set_option maxHeartbeats 40000000 in
theorem own_add_N (l : Launch) (Z : State) (a0 : Array Value) (hw : ∀ d ∈ tables_1, d.before a0 Z = true) (a1 e1 b : Addr) (mc k j : Int32) (kk : Nat) (vs : List Value) (cO : ClassId) (h0 : Heap) (n0 : Nat) (X_a1 : Exa Z h0 a1 "java/util/ArrayList") (F_modCount_a1 : Fld Z h0 a1 "java/util/AbstractList" "modCount" "I" (.int mc)) (F_elementData_a1 : Fld Z h0 a1 "java/util/ArrayList" "elementData" "[Ljava/lang/Object;" (.ref b)) (F_size_a1 : Fld Z h0 a1 "java/util/ArrayList" "size" "I" (.int k)) (g_a1 : n0 ≤ a1) (V_b : Arv Z h0 b cO (.object "java/lang/Object") 10 vs .null) (O_b : Ovr Z cO "java/lang/Object") (g_b : n0 ≤ b) (ne1 : a1 ≠ b) (I_e : Ins Z h0 e1 "java/lang/Object" true) (hj : k + 1 = j) (hk : ¬ k < 0 ∧ k < 10) (h10 : ¬ k = 10) (hkk : k.toNatClampNeg = kk) (hlen : kk < vs.length) :
    Ctr l Z (⟨"java/util/ArrayList", "add", "(Ljava/lang/Object;)Z"⟩ : MethodName) jdk_38_method_25_code 2 (some .boolean) ({ frames := 1, cells := 0, slots := 0, locals := 15 } : Room) #[(.ref a1), (.ref e1)] h0 n0 (fun v h => v = some (.int 1) ∧ Keep h0 h [a1, b] ∧ Fld Z h a1 "java/util/AbstractList" "modCount" "I" (.int (mc + 1)) ∧ Fld Z h a1 "java/util/ArrayList" "elementData" "[Ljava/lang/Object;" (.ref b) ∧ Fld Z h a1 "java/util/ArrayList" "size" "I" (.int j) ∧ Arv Z h b cO (.object "java/lang/Object") 10 (vs.set kk (.ref e1)) .null) := by
  refine Ctr.of (plainFor_of_name own_pn_ArrayList) ?_
  intro p e s m below meth c C
  refine Go.frame (g' := mkF m 0 #[.val (.ref a1), .val (.ref e1)] []) (by first | (simp [entryFrame, mkF, argsToLocals, Value.category]; done) | rfl) ?_
  have KH := Keep.refl h0 [a1, b]
  refine OwnW.aloadN C (pc' := 1) own_d_jdk_38_method_25_code_0 rfl rfl rfl ?_
  refine OwnW.dup C (pc' := 2) own_d_jdk_38_method_25_code_1 rfl rfl ?_
  refine OwnW.getF C (pc' := 5) (host := "") (Or.inl (hw _ (List.mem_of_getElem? (i := 106) rfl))) (Via.of (hw _ (List.mem_of_getElem? (i := 107) rfl))) F_modCount_a1 own_d_jdk_38_method_25_code_2 rfl ?_
  refine OwnW.iconst C (pc' := 6) own_d_jdk_38_method_25_code_5 rfl (z := 1) rfl ?_
  refine OwnW.iadd C (pc' := 7) own_d_jdk_38_method_25_code_6 rfl ?_
  refine OwnW.putF C (pc' := 10) (host := "") (Or.inl (hw _ (List.mem_of_getElem? (i := 106) rfl))) (Via.of (hw _ (List.mem_of_getElem? (i := 107) rfl))) F_modCount_a1 X_a1 (Or.inl (hw _ (List.mem_of_getElem? (i := 22) rfl))) (hw _ (List.mem_of_getElem? (i := 1) rfl)) (ty := .int) (by decide) rfl rfl g_a1 own_d_jdk_38_method_25_code_7 rfl (fun h1 W1 => ?_)
  have KH := KH.wr W1 (Or.inl (List.mem_of_getElem? (i := 0) rfl))
  have X_a1 := X_a1.wr W1
  have F_modCount_a1 := F_modCount_a1.same W1
  have F_elementData_a1 := F_elementData_a1.other W1 (Or.inr (slot_ne (Or.inl (hw _ (List.mem_of_getElem? (i := 25) rfl))) (Or.inl (hw _ (List.mem_of_getElem? (i := 22) rfl))) (by decide) (t := (.array (.object "java/lang/Object"))) (t' := .int) (by decide) (by decide)))
  have F_size_a1 := F_size_a1.other W1 (Or.inr (slot_ne (Or.inl (hw _ (List.mem_of_getElem? (i := 64) rfl))) (Or.inl (hw _ (List.mem_of_getElem? (i := 22) rfl))) (by decide) (t := .int) (t' := .int) (by decide) (by decide)))
  have V_b := V_b.other W1 (Ne.symm ne1)
  refine OwnW.aloadN C (pc' := 11) own_d_jdk_38_method_25_code_10 rfl rfl rfl ?_
  refine OwnW.aloadN C (pc' := 12) own_d_jdk_38_method_25_code_11 rfl rfl rfl ?_
  refine OwnW.aloadN C (pc' := 13) own_d_jdk_38_method_25_code_12 rfl rfl rfl ?_
  refine OwnW.getF C (pc' := 16) (host := "") (Or.inl (hw _ (List.mem_of_getElem? (i := 24) rfl))) Via.refl F_elementData_a1 own_d_jdk_38_method_25_code_13 rfl ?_
  refine OwnW.aloadN C (pc' := 17) own_d_jdk_38_method_25_code_16 rfl rfl rfl ?_
  refine OwnW.getF C (pc' := 20) (host := "") (Or.inl (hw _ (List.mem_of_getElem? (i := 63) rfl))) Via.refl F_size_a1 own_d_jdk_38_method_25_code_17 rfl ?_
  have I_e := I_e.wr W1
  refine OwnW.callP C (pc' := 23) (y := (⟨"java/util/ArrayList", "add", "(Ljava/lang/Object;[Ljava/lang/Object;I)V"⟩ : MethodName)) (W := 0) (argsL := [(.ref e1), (.ref b), (.int k)]) (rest := []) (hw _ (List.mem_of_getElem? (i := 108) rfl)) (hw _ (List.mem_of_getElem? (i := 109) rfl)) (hw _ (List.mem_of_getElem? (i := 111) rfl)) (hw _ (List.mem_of_getElem? (i := 110) rfl)) (hw _ (List.mem_of_getElem? (i := 2) rfl)) (hw _ (List.mem_of_getElem? (i := 112) rfl)) X_a1 (by decide) (own_add3_N l Z a0 hw a1 e1 b (mc + 1) k j kk vs cO h1 n0 X_a1 F_modCount_a1 F_elementData_a1 F_size_a1 g_a1 V_b O_b g_b ne1 I_e hj hk h10 hkk hlen) (K' := 0) (S' := 0) (by decide) (by decide) rfl own_pd__Ljava_lang_Object__Ljava_lang_Object_I_V rfl (Nat.le_of_eq rfl) rfl rfl (by decide) (by decide) rfl own_d_jdk_38_method_25_code_20 rfl (fun v h9 hq => ?_)
  obtain ⟨rfl, KK, F1, F2, F3, V⟩ := hq
  refine Go.at (st' := []) rfl ?_
  have KH := KH.trans KK (allS (Or.inl (List.mem_of_getElem? (i := 0) rfl)) (allS (Or.inl (List.mem_of_getElem? (i := 1) rfl)) all0))
  refine OwnW.iconst C (pc' := 24) own_d_jdk_38_method_25_code_23 rfl (z := 1) rfl ?_
  exact OwnW.retN C (t := .boolean) (z := (1 : Int32)) rfl (by simp) rfl ⟨rfl, KH, F1, F2, F3, V⟩ (by decide) (by decide) own_d_jdk_38_method_25_code_24
set_option maxRecDepth 65536 in
set_option maxHeartbeats 40000000 in
theorem own_alEmpty (l : Launch) (Z : State) (a0 : Array Value) (hw : ∀ d ∈ tables_1, d.before a0 Z = true) (a1 : Addr) (k : Int32) (h0 : Heap) (n0 : Nat) (F : Fld Z h0 a1 "java/util/ArrayList" "size" "I" (.int k)) :
    Ctr l Z (⟨"java/util/ArrayList", "isEmpty", "()Z"⟩ : MethodName) jdk_38_method_9_code 1 (some .boolean) ({ frames := 0, cells := 0, slots := 0, locals := 0 } : Room) #[(.ref a1)] h0 n0 (fun v h => v = some (.int (if k = 0 then 1 else 0)) ∧ h = h0) := by
  refine Ctr.of (plainFor_of_name own_pn_ArrayList) ?_
  intro p e s m below meth c C
  refine Go.frame (g' := mkF m 0 #[.val (.ref a1)] []) (by first | (simp [entryFrame, mkF, argsToLocals, Value.category]; done) | rfl) ?_
  refine OwnW.aloadN C (pc' := 1) own_d_jdk_38_method_9_code_0 rfl rfl rfl ?_
  refine OwnW.getF C (pc' := 4) (host := "") (Or.inl (hw _ (List.mem_of_getElem? (i := 63) rfl))) Via.refl F own_d_jdk_38_method_9_code_1 rfl ?_
  refine OwnW.ifNe C (pcY := 11) (pcN := 7) own_d_jdk_38_method_9_code_4 (by decide) rfl rfl (fun hc4 => ?_) (fun hc4 => ?_)
  · refine OwnW.iconst C (pc' := 12) own_d_jdk_38_method_9_code_11 rfl (z := 0) rfl ?_
    exact OwnW.retN C (t := .boolean) (z := (0 : Int32)) rfl (by simp) rfl ⟨by rw [if_neg hc4], rfl⟩ (by decide) (by decide) own_d_jdk_38_method_9_code_12
  · refine OwnW.iconst C (pc' := 8) own_d_jdk_38_method_9_code_7 rfl (z := 1) rfl ?_
    refine OwnW.goto C (pc' := 12) own_d_jdk_38_method_9_code_8 (by decide) rfl ?_
    exact OwnW.retN C (t := .boolean) (z := (1 : Int32)) rfl (by simp) rfl ⟨by rw [if_pos hc4], rfl⟩ (by decide) (by decide) own_d_jdk_38_method_9_code_12
set_option maxRecDepth 65536 in
set_option maxHeartbeats 40000000 in
theorem own_minI (l : Launch) (Z : State) (a0 : Array Value) (hw : ∀ d ∈ tables_1, d.before a0 Z = true) (p1 p2 : Int32) (h0 : Heap) (n0 : Nat)  :
    Ctr l Z (⟨"java/lang/Math", "min", "(II)I"⟩ : MethodName) jdk_29_method_69_code 2 (some .int) ({ frames := 0, cells := 0, slots := 0, locals := 0 } : Room) #[(.int p1), (.int p2)] h0 n0 (fun v h => v = some (.int (if p2 < p1 then p2 else p1)) ∧ h = h0) := by
  refine Ctr.of (Jvm.Free.JP.mathPlain rfl (by decide +kernel)) ?_
  intro p e s m below meth c C
  refine Go.frame (g' := mkF m 0 #[.val (.int p1), .val (.int p2)] []) (by first | (simp [entryFrame, mkF, argsToLocals, Value.category]; done) | rfl) ?_
  refine OwnW.iloadN C (pc' := 1) own_d_jdk_29_method_69_code_0 rfl rfl ?_
  refine OwnW.iloadN C (pc' := 2) own_d_jdk_29_method_69_code_1 rfl rfl ?_
  refine OwnW.icGt C (pcY := 9) (pcN := 5) own_d_jdk_29_method_69_code_2 (by decide) rfl rfl (fun hc2 => ?_) (fun hc2 => ?_)
  · refine OwnW.iloadN C (pc' := 10) own_d_jdk_29_method_69_code_9 rfl rfl ?_
    exact OwnW.retI C rfl ⟨by rw [if_pos hc2], rfl⟩ (by decide) (by decide) own_d_jdk_29_method_69_code_10
  · refine OwnW.iloadN C (pc' := 6) own_d_jdk_29_method_69_code_5 rfl rfl ?_
    refine OwnW.goto C (pc' := 10) own_d_jdk_29_method_69_code_6 (by decide) rfl ?_
    exact OwnW.retI C rfl ⟨by rw [if_neg hc2], rfl⟩ (by decide) (by decide) own_d_jdk_29_method_69_code_10
set_option maxRecDepth 65536 in
set_option maxHeartbeats 40000000 in
theorem own_of0 (l : Launch) (Z : State) (a0 : Array Value) (hw : ∀ d ∈ tables_1, d.before a0 Z = true) (el : Addr) (h0 : Heap) (n0 : Nat) (S_EL : Sta Z h0 "java/util/ImmutableCollections" "EMPTY_LIST" "Ljava/util/ImmutableCollections$ListN;" (.ref el)) :
    Ctr l Z (⟨"java/util/List", "of", "()Ljava/util/List;"⟩ : MethodName) jdk_40_method_36_code 0 (some (.object "java/util/List")) ({ frames := 0, cells := 0, slots := 0, locals := 0 } : Room) #[] h0 n0 (fun v h => v = some (.ref el) ∧ h = h0) := by
  refine Ctr.of (plainFor_of_name own_pn_List) ?_
  intro p e s m below meth c C
  refine Go.frame (g' := mkF m 0 #[] []) (by first | (simp [entryFrame, mkF, argsToLocals, Value.category]; done) | rfl) ?_
  refine OwnW.getS C (pc' := 3) (host := "") (Or.inl (hw _ (List.mem_of_getElem? (i := 68) rfl))) Via.refl S_EL own_d_jdk_40_method_36_code_0 rfl ?_
  exact OwnW.retA C rfl rfl rfl ⟨rfl, rfl⟩ (by decide) (by decide) own_d_jdk_40_method_36_code_3
set_option maxRecDepth 65536 in
set_option maxHeartbeats 40000000 in
theorem own_listCopy_0 (l : Launch) (Z : State) (a0 : Array Value) (hw : ∀ d ∈ tables_1, d.before a0 Z = true) (l1 el : Addr) (h0 : Heap) (n0 : Nat) (X_l1 : Exa Z h0 l1 "java/util/ArrayList") (F_size_l1 : Fld Z h0 l1 "java/util/ArrayList" "size" "I" (.int 0)) (S_EL : Sta Z h0 "java/util/ImmutableCollections" "EMPTY_LIST" "Ljava/util/ImmutableCollections$ListN;" (.ref el)) :
    Ctr l Z (⟨"java/util/ImmutableCollections", "listCopy", "(Ljava/util/Collection;)Ljava/util/List;"⟩ : MethodName) jdk_56_method_3_code 2 (some (.object "java/util/List")) ({ frames := 1, cells := 0, slots := 0, locals := 12 } : Room) #[(.ref l1)] h0 n0 (fun v h => v = some (.ref el) ∧ h = h0) := by
  refine Ctr.of (plainFor_of_name own_pn_ImmutableCollections) ?_
  intro p e s m below meth c C
  refine Go.frame (g' := mkF m 0 #[.val (.ref l1), .unset] []) (by first | (simp [entryFrame, mkF, argsToLocals, Value.category]; done) | rfl) ?_
  refine OwnW.aloadN C (pc' := 1) own_d_jdk_56_method_3_code_0 rfl rfl rfl ?_
  refine OwnW.instNo C (pc' := 4) (hw _ (List.mem_of_getElem? (i := 48) rfl)) X_l1 (own_nsno (hw _ (List.mem_of_getElem? (i := 49) rfl)) (hw _ (List.mem_of_getElem? (i := 164) rfl)) (NS.step (hw _ (List.mem_of_getElem? (i := 49) rfl)) (NS.step (hw _ (List.mem_of_getElem? (i := 50) rfl)) (NS.step (hw _ (List.mem_of_getElem? (i := 51) rfl)) (own_nsroot (hw _ (List.mem_of_getElem? (i := 52) rfl)) (hw _ (List.mem_of_getElem? (i := 164) rfl)) (by decide)) (by decide)) (by decide)) (by decide)) (by decide)) own_d_jdk_56_method_3_code_1 rfl ?_
  refine OwnW.ifNe C (pcY := 26) (pcN := 7) own_d_jdk_56_method_3_code_4 (by decide) rfl rfl (fun hc4 => absurd rfl hc4) (fun hc4 => ?_)
  refine OwnW.aloadN C (pc' := 8) own_d_jdk_56_method_3_code_7 rfl rfl rfl ?_
  refine OwnW.instNo C (pc' := 11) (hw _ (List.mem_of_getElem? (i := 53) rfl)) X_l1 (own_nsno (hw _ (List.mem_of_getElem? (i := 49) rfl)) (hw _ (List.mem_of_getElem? (i := 209) rfl)) (NS.step (hw _ (List.mem_of_getElem? (i := 49) rfl)) (NS.step (hw _ (List.mem_of_getElem? (i := 50) rfl)) (NS.step (hw _ (List.mem_of_getElem? (i := 51) rfl)) (own_nsroot (hw _ (List.mem_of_getElem? (i := 52) rfl)) (hw _ (List.mem_of_getElem? (i := 209) rfl)) (by decide)) (by decide)) (by decide)) (by decide)) (by decide)) own_d_jdk_56_method_3_code_8 rfl ?_
  refine OwnW.ifEq C (pcY := 31) (pcN := 14) own_d_jdk_56_method_3_code_11 (by decide) rfl rfl (fun hc11 => ?_) (fun hc11 => absurd rfl hc11)
  refine OwnW.aloadN C (pc' := 32) own_d_jdk_56_method_3_code_31 rfl rfl rfl ?_
  refine OwnW.callI C (pc' := 37) (y := (⟨"java/util/Collection", "isEmpty", "()Z"⟩ : MethodName)) (z := (⟨"java/util/ArrayList", "isEmpty", "()Z"⟩ : MethodName)) (W := 0) (argsL := []) (rest := []) (hw _ (List.mem_of_getElem? (i := 54) rfl)) (hw _ (List.mem_of_getElem? (i := 55) rfl)) (hw _ (List.mem_of_getElem? (i := 56) rfl)) (by first | rfl | decide) (hw _ (List.mem_of_getElem? (i := 57) rfl)) (hw _ (List.mem_of_getElem? (i := 58) rfl)) (hw _ (List.mem_of_getElem? (i := 59) rfl)) (hw _ (List.mem_of_getElem? (i := 60) rfl)) (hw _ (List.mem_of_getElem? (i := 61) rfl)) (hw _ (List.mem_of_getElem? (i := 2) rfl)) (hw _ (List.mem_of_getElem? (i := 62) rfl)) X_l1 (by decide) (own_alEmpty l Z a0 hw l1 0 h0 n0 F_size_l1) (K' := 0) (S' := 0) (by decide) (by decide) rfl own_pd___Z rfl (Nat.le_of_eq rfl) rfl rfl (by decide) (by decide) rfl own_d_jdk_56_method_3_code_32 rfl (fun v h' hq => ?_)
  obtain ⟨rfl, hh⟩ := hq
  refine Go.at (st' := [(.int (if (0 : Int32) = 0 then (1 : Int32) else 0))]) rfl ?_
  refine Go.heap hh ?_
  refine OwnW.ifEq C (pcY := 44) (pcN := 40) own_d_jdk_56_method_3_code_37 (by decide) rfl rfl (fun hc37 => absurd hc37 (by decide)) (fun hc37 => ?_)
  refine OwnW.callS C (pc' := 43) (y := (⟨"java/util/List", "of", "()Ljava/util/List;"⟩ : MethodName)) (W := 0) (argsL := []) (rest := []) (hw _ (List.mem_of_getElem? (i := 65) rfl)) (hw _ (List.mem_of_getElem? (i := 66) rfl)) (hw _ (List.mem_of_getElem? (i := 42) rfl)) (hw _ (List.mem_of_getElem? (i := 67) rfl)) (by decide) (own_of0 l Z a0 hw el h0 n0 S_EL) (K' := 0) (S' := 0) (by decide) (by decide) rfl own_pd___Ljava_util_List_ rfl (Nat.le_of_eq rfl) rfl rfl (by decide) (by decide) rfl own_d_jdk_56_method_3_code_40 rfl (fun v h' hq => ?_)
  obtain ⟨rfl, hh⟩ := hq
  refine Go.at (st' := [(.ref el)]) rfl ?_
  refine Go.heap hh ?_
  exact OwnW.retA C rfl rfl rfl ⟨rfl, rfl⟩ (by decide) (by decide) own_d_jdk_56_method_3_code_43
set_option maxRecDepth 65536 in
set_option maxHeartbeats 40000000 in
theorem own_copyOf_0 (l : Launch) (Z : State) (a0 : Array Value) (hw : ∀ d ∈ tables_1, d.before a0 Z = true) (l1 el : Addr) (h0 : Heap) (n0 : Nat) (X_l1 : Exa Z h0 l1 "java/util/ArrayList") (F_size_l1 : Fld Z h0 l1 "java/util/ArrayList" "size" "I" (.int 0)) (S_EL : Sta Z h0 "java/util/ImmutableCollections" "EMPTY_LIST" "Ljava/util/ImmutableCollections$ListN;" (.ref el)) :
    Ctr l Z (⟨"java/util/List", "copyOf", "(Ljava/util/Collection;)Ljava/util/List;"⟩ : MethodName) jdk_40_method_48_code 1 (some (.object "java/util/List")) ({ frames := 2, cells := 0, slots := 0, locals := 25 } : Room) #[(.ref l1)] h0 n0 (fun v h => v = some (.ref el) ∧ h = h0) := by
  refine Ctr.of (plainFor_of_name own_pn_List) ?_
  intro p e s m below meth c C
  refine Go.frame (g' := mkF m 0 #[.val (.ref l1)] []) (by first | (simp [entryFrame, mkF, argsToLocals, Value.category]; done) | rfl) ?_
  refine OwnW.aloadN C (pc' := 1) own_d_jdk_40_method_48_code_0 rfl rfl rfl ?_
  refine OwnW.callS C (pc' := 4) (y := (⟨"java/util/ImmutableCollections", "listCopy", "(Ljava/util/Collection;)Ljava/util/List;"⟩ : MethodName)) (W := 0) (argsL := [(.ref l1)]) (rest := []) (hw _ (List.mem_of_getElem? (i := 44) rfl)) (hw _ (List.mem_of_getElem? (i := 45) rfl)) (hw _ (List.mem_of_getElem? (i := 46) rfl)) (hw _ (List.mem_of_getElem? (i := 47) rfl)) (by decide) (own_listCopy_0 l Z a0 hw l1 el h0 n0 X_l1 F_size_l1 S_EL) (K' := 0) (S' := 0) (by decide) (by decide) rfl own_pd__Ljava_util_Collection__Ljava_util_List_ rfl (Nat.le_of_eq rfl) rfl rfl (by decide) (by decide) rfl own_d_jdk_40_method_48_code_1 rfl (fun v h' hq => ?_)
  obtain ⟨rfl, hh⟩ := hq
  refine Go.at (st' := [(.ref el)]) rfl ?_
  refine Go.heap hh ?_
  exact OwnW.retA C rfl rfl rfl ⟨rfl, rfl⟩ (by decide) (by decide) own_d_jdk_40_method_48_code_4
set_option maxRecDepth 65536 in
set_option maxHeartbeats 40000000 in
theorem own_aicinit (l : Launch) (Z : State) (a0 : Array Value) (hw : ∀ d ∈ tables_1, d.before a0 Z = true) (a1 : Addr) (h0 : Heap) (n0 : Nat)  :
    Ctr l Z (⟨"java/util/ImmutableCollections$AbstractImmutableCollection", "<init>", "()V"⟩ : MethodName) jdk_47_method_1_code 1 none ({ frames := 2, cells := 0, slots := 0, locals := 24 } : Room) #[(.ref a1)] h0 n0 (fun v h => v = none ∧ h = h0) := by
  refine Ctr.of (plainFor_of_name own_pn_ImmutableCollections_AbstractImmutableCollection) ?_
  intro p e s m below meth c C
  refine Go.frame (g' := mkF m 0 #[.val (.ref a1)] []) (by first | (simp [entryFrame, mkF, argsToLocals, Value.category]; done) | rfl) ?_
  refine OwnW.aloadN C (pc' := 1) own_d_jdk_47_method_1_code_0 rfl rfl rfl ?_
  refine OwnW.callX C (pc' := 4) (y := (⟨"java/util/AbstractCollection", "<init>", "()V"⟩ : MethodName)) (W := 0) (argsL := []) (rest := []) rfl (hw _ (List.mem_of_getElem? (i := 182) rfl)) (hw _ (List.mem_of_getElem? (i := 13) rfl)) (hw _ (List.mem_of_getElem? (i := 16) rfl)) (hw _ (List.mem_of_getElem? (i := 17) rfl)) (by decide) (own_acinit l Z a0 hw a1 h0 n0) (K' := 0) (S' := 0) (by decide) (by decide) rfl own_pd___V rfl (Nat.le_of_eq rfl) rfl rfl (by decide) (by decide) rfl own_d_jdk_47_method_1_code_1 rfl (fun v h' hq => ?_)
  obtain ⟨rfl, hh⟩ := hq
  refine Go.at (st' := []) rfl ?_
  refine Go.heap hh ?_
  exact OwnW.retV C rfl ⟨rfl, rfl⟩ (by decide) (by decide) own_d_jdk_47_method_1_code_4
set_option maxRecDepth 65536 in
set_option maxHeartbeats 40000000 in
theorem own_ailinit (l : Launch) (Z : State) (a0 : Array Value) (hw : ∀ d ∈ tables_1, d.before a0 Z = true) (a1 : Addr) (h0 : Heap) (n0 : Nat)  :
    Ctr l Z (⟨"java/util/ImmutableCollections$AbstractImmutableList", "<init>", "()V"⟩ : MethodName) jdk_46_method_1_code 1 none ({ frames := 3, cells := 0, slots := 0, locals := 36 } : Room) #[(.ref a1)] h0 n0 (fun v h => v = none ∧ h = h0) := by
  refine Ctr.of (plainFor_of_name own_pn_ImmutableCollections_AbstractImmutableList) ?_
  intro p e s m below meth c C
  refine Go.frame (g' := mkF m 0 #[.val (.ref a1)] []) (by first | (simp [entryFrame, mkF, argsToLocals, Value.category]; done) | rfl) ?_
  refine OwnW.aloadN C (pc' := 1) own_d_jdk_46_method_1_code_0 rfl rfl rfl ?_
  refine OwnW.callX C (pc' := 4) (y := (⟨"java/util/ImmutableCollections$AbstractImmutableCollection", "<init>", "()V"⟩ : MethodName)) (W := 0) (argsL := []) (rest := []) rfl (hw _ (List.mem_of_getElem? (i := 176) rfl)) (hw _ (List.mem_of_getElem? (i := 177) rfl)) (hw _ (List.mem_of_getElem? (i := 180) rfl)) (hw _ (List.mem_of_getElem? (i := 181) rfl)) (by decide) (own_aicinit l Z a0 hw a1 h0 n0) (K' := 0) (S' := 0) (by decide) (by decide) rfl own_pd___V rfl (Nat.le_of_eq rfl) rfl rfl (by decide) (by decide) rfl own_d_jdk_46_method_1_code_1 rfl (fun v h' hq => ?_)
  obtain ⟨rfl, hh⟩ := hq
  refine Go.at (st' := []) rfl ?_
  refine Go.heap hh ?_
  exact OwnW.retV C rfl ⟨rfl, rfl⟩ (by decide) (by decide) own_d_jdk_46_method_1_code_4
set_option maxRecDepth 65536 in
set_option maxHeartbeats 40000000 in
theorem own_rnn (l : Launch) (Z : State) (a0 : Array Value) (hw : ∀ d ∈ tables_1, d.before a0 Z = true) (a1 : Addr) (h0 : Heap) (n0 : Nat)  :
    Ctr l Z (⟨"java/util/Objects", "requireNonNull", "(Ljava/lang/Object;)Ljava/lang/Object;"⟩ : MethodName) jdk_31_method_10_code 1 (some (.object "java/lang/Object")) ({ frames := 0, cells := 0, slots := 0, locals := 0 } : Room) #[(.ref a1)] h0 n0 (fun v h => v = some (.ref a1) ∧ h = h0) := by
  refine Ctr.of (plainFor_of_name own_pn_Objects) ?_
  intro p e s m below meth c C
  refine Go.frame (g' := mkF m 0 #[.val (.ref a1)] []) (by first | (simp [entryFrame, mkF, argsToLocals, Value.category]; done) | rfl) ?_
  refine OwnW.aloadN C (pc' := 1) own_d_jdk_31_method_10_code_0 rfl rfl rfl ?_
  refine OwnW.ifnonnull C (pcY := 12) (pcN := 4) rfl own_d_jdk_31_method_10_code_1 (by decide) rfl rfl (fun hc1 => ?_) (fun hc1 => absurd hc1 nofun)
  refine OwnW.aloadN C (pc' := 13) own_d_jdk_31_method_10_code_12 rfl rfl rfl ?_
  exact OwnW.retA C rfl rfl rfl ⟨rfl, rfl⟩ (by decide) (by decide) own_d_jdk_31_method_10_code_13
set_option maxRecDepth 65536 in
set_option maxHeartbeats 40000000 in
theorem own_l1init (l : Launch) (Z : State) (a0 : Array Value) (hw : ∀ d ∈ tables_1, d.before a0 Z = true) (a1 x1 em : Addr) (h0 : Heap) (n0 : Nat) (X_a1 : Exa Z h0 a1 "java/util/ImmutableCollections$List12") (F_e0_a1 : Fld Z h0 a1 "java/util/ImmutableCollections$List12" "e0" "Ljava/lang/Object;" .null) (F_e1_a1 : Fld Z h0 a1 "java/util/ImmutableCollections$List12" "e1" "Ljava/lang/Object;" .null) (g_a1 : n0 ≤ a1) (S_EM : Sta Z h0 "java/util/ImmutableCollections" "EMPTY" "Ljava/lang/Object;" (.ref em)) :
    Ctr l Z (⟨"java/util/ImmutableCollections$List12", "<init>", "(Ljava/lang/Object;)V"⟩ : MethodName) jdk_44_method_1_code 2 none ({ frames := 4, cells := 0, slots := 0, locals := 48 } : Room) #[(.ref a1), (.ref x1)] h0 n0 (fun v h => v = none ∧ Keep h0 h [a1] ∧ Fld Z h a1 "java/util/ImmutableCollections$List12" "e1" "Ljava/lang/Object;" (.ref em)) := by
  refine Ctr.of (plainFor_of_name own_pn_ImmutableCollections_List12) ?_
  intro p e s m below meth c C
  refine Go.frame (g' := mkF m 0 #[.val (.ref a1), .val (.ref x1)] []) (by first | (simp [entryFrame, mkF, argsToLocals, Value.category]; done) | rfl) ?_
  have KH := Keep.refl h0 [a1]
  refine OwnW.aloadN C (pc' := 1) own_d_jdk_44_method_1_code_0 rfl rfl rfl ?_
  refine OwnW.callX C (pc' := 4) (y := (⟨"java/util/ImmutableCollections$AbstractImmutableList", "<init>", "()V"⟩ : MethodName)) (W := 0) (argsL := []) (rest := []) rfl (hw _ (List.mem_of_getElem? (i := 170) rfl)) (hw _ (List.mem_of_getElem? (i := 171) rfl)) (hw _ (List.mem_of_getElem? (i := 174) rfl)) (hw _ (List.mem_of_getElem? (i := 175) rfl)) (by decide) (own_ailinit l Z a0 hw a1 h0 n0) (K' := 0) (S' := 0) (by decide) (by decide) rfl own_pd___V rfl (Nat.le_of_eq rfl) rfl rfl (by decide) (by decide) rfl own_d_jdk_44_method_1_code_1 rfl (fun v h' hq => ?_)
  obtain ⟨rfl, hh⟩ := hq
  refine Go.at (st' := []) rfl ?_
  refine Go.heap hh ?_
  refine OwnW.aloadN C (pc' := 5) own_d_jdk_44_method_1_code_4 rfl rfl rfl ?_
  refine OwnW.aloadN C (pc' := 6) own_d_jdk_44_method_1_code_5 rfl rfl rfl ?_
  refine OwnW.callS C (pc' := 9) (y := (⟨"java/util/Objects", "requireNonNull", "(Ljava/lang/Object;)Ljava/lang/Object;"⟩ : MethodName)) (W := 1) (argsL := [(.ref x1)]) (rest := [(.ref a1)]) (hw _ (List.mem_of_getElem? (i := 184) rfl)) (hw _ (List.mem_of_getElem? (i := 185) rfl)) (hw _ (List.mem_of_getElem? (i := 186) rfl)) (hw _ (List.mem_of_getElem? (i := 187) rfl)) (by decide) (own_rnn l Z a0 hw x1 h0 n0) (K' := 0) (S' := 0) (by decide) (by decide) rfl own_pd__Ljava_lang_Object__Ljava_lang_Object_ rfl (Nat.le_of_eq rfl) rfl rfl (by decide) (by decide) rfl own_d_jdk_44_method_1_code_6 rfl (fun v h' hq => ?_)
  obtain ⟨rfl, hh⟩ := hq
  refine Go.at (st' := [(.ref x1), (.ref a1)]) rfl ?_
  refine Go.heap hh ?_
  refine OwnW.putF C (pc' := 12) (host := "") (Or.inl (hw _ (List.mem_of_getElem? (i := 188) rfl))) Via.refl F_e0_a1 X_a1 (Or.inr ⟨(hw _ (List.mem_of_getElem? (i := 189) rfl)), rfl, rfl⟩) (hw _ (List.mem_of_getElem? (i := 164) rfl)) (ty := (.object "java/lang/Object")) (by decide) rfl rfl g_a1 own_d_jdk_44_method_1_code_9 rfl (fun h1 W1 => ?_)
  have KH := KH.wr W1 (Or.inl (List.mem_of_getElem? (i := 0) rfl))
  have X_a1 := X_a1.wr W1
  have F_e0_a1 := F_e0_a1.same W1
  have F_e1_a1 := F_e1_a1.other W1 (Or.inr (slot_ne (Or.inr (hw _ (List.mem_of_getElem? (i := 192) rfl))) (Or.inr (hw _ (List.mem_of_getElem? (i := 189) rfl))) (by decide) (t := (.object "java/lang/Object")) (t' := (.object "java/lang/Object")) (by decide) (by decide)))
  have S_EM := S_EM.wr W1
  refine OwnW.aloadN C (pc' := 13) own_d_jdk_44_method_1_code_12 rfl rfl rfl ?_
  refine OwnW.getS C (pc' := 16) (Or.inr (hw _ (List.mem_of_getElem? (i := 190) rfl))) Via.refl S_EM own_d_jdk_44_method_1_code_13 rfl ?_
  refine OwnW.putF C (pc' := 19) (host := "") (Or.inl (hw _ (List.mem_of_getElem? (i := 191) rfl))) Via.refl F_e1_a1 X_a1 (Or.inr ⟨(hw _ (List.mem_of_getElem? (i := 192) rfl)), rfl, rfl⟩) (hw _ (List.mem_of_getElem? (i := 164) rfl)) (ty := (.object "java/lang/Object")) (by decide) rfl rfl g_a1 own_d_jdk_44_method_1_code_16 rfl (fun h2 W2 => ?_)
  have KH := KH.wr W2 (Or.inl (List.mem_of_getElem? (i := 0) rfl))
  have X_a1 := X_a1.wr W2
  have F_e0_a1 := F_e0_a1.other W2 (Or.inr (slot_ne (Or.inr (hw _ (List.mem_of_getElem? (i := 189) rfl))) (Or.inr (hw _ (List.mem_of_getElem? (i := 192) rfl))) (by decide) (t := (.object "java/lang/Object")) (t' := (.object "java/lang/Object")) (by decide) (by decide)))
  have F_e1_a1 := F_e1_a1.same W2
  have S_EM := S_EM.wr W2
  exact OwnW.retV C rfl ⟨rfl, KH, F_e1_a1⟩ (by decide) (by decide) own_d_jdk_44_method_1_code_19
set_option maxRecDepth 65536 in
set_option maxHeartbeats 40000000 in
theorem own_l2init (l : Launch) (Z : State) (a0 : Array Value) (hw : ∀ d ∈ tables_1, d.before a0 Z = true) (a1 x1 y1 : Addr) (h0 : Heap) (n0 : Nat) (X_a1 : Exa Z h0 a1 "java/util/ImmutableCollections$List12") (F_e0_a1 : Fld Z h0 a1 "java/util/ImmutableCollections$List12" "e0" "Ljava/lang/Object;" .null) (F_e1_a1 : Fld Z h0 a1 "java/util/ImmutableCollections$List12" "e1" "Ljava/lang/Object;" .null) (g_a1 : n0 ≤ a1) :
    Ctr l Z (⟨"java/util/ImmutableCollections$List12", "<init>", "(Ljava/lang/Object;Ljava/lang/Object;)V"⟩ : MethodName) jdk_44_method_2_code 3 none ({ frames := 4, cells := 0, slots := 0, locals := 48 } : Room) #[(.ref a1), (.ref x1), (.ref y1)] h0 n0 (fun v h => v = none ∧ Keep h0 h [a1] ∧ Fld Z h a1 "java/util/ImmutableCollections$List12" "e0" "Ljava/lang/Object;" (.ref x1) ∧ Fld Z h a1 "java/util/ImmutableCollections$List12" "e1" "Ljava/lang/Object;" (.ref y1)) := by
  refine Ctr.of (plainFor_of_name own_pn_ImmutableCollections_List12) ?_
  intro p e s m below meth c C
  refine Go.frame (g' := mkF m 0 #[.val (.ref a1), .val (.ref x1), .val (.ref y1)] []) (by first | (simp [entryFrame, mkF, argsToLocals, Value.category]; done) | rfl) ?_
  have KH := Keep.refl h0 [a1]
  refine OwnW.aloadN C (pc' := 1) own_d_jdk_44_method_2_code_0 rfl rfl rfl ?_
  refine OwnW.callX C (pc' := 4) (y := (⟨"java/util/ImmutableCollections$AbstractImmutableList", "<init>", "()V"⟩ : MethodName)) (W := 0) (argsL := []) (rest := []) rfl (hw _ (List.mem_of_getElem? (i := 170) rfl)) (hw _ (List.mem_of_getElem? (i := 171) rfl)) (hw _ (List.mem_of_getElem? (i := 174) rfl)) (hw _ (List.mem_of_getElem? (i := 175) rfl)) (by decide) (own_ailinit l Z a0 hw a1 h0 n0) (K' := 0) (S' := 0) (by decide) (by decide) rfl own_pd___V rfl (Nat.le_of_eq rfl) rfl rfl (by decide) (by decide) rfl own_d_jdk_44_method_2_code_1 rfl (fun v h' hq => ?_)
  obtain ⟨rfl, hh⟩ := hq
  refine Go.at (st' := []) rfl ?_
  refine Go.heap hh ?_
  refine OwnW.aloadN C (pc' := 5) own_d_jdk_44_method_2_code_4 rfl rfl rfl ?_
  refine OwnW.aloadN C (pc' := 6) own_d_jdk_44_method_2_code_5 rfl rfl rfl ?_
  refine OwnW.callS C (pc' := 9) (y := (⟨"java/util/Objects", "requireNonNull", "(Ljava/lang/Object;)Ljava/lang/Object;"⟩ : MethodName)) (W := 1) (argsL := [(.ref x1)]) (rest := [(.ref a1)]) (hw _ (List.mem_of_getElem? (i := 184) rfl)) (hw _ (List.mem_of_getElem? (i := 185) rfl)) (hw _ (List.mem_of_getElem? (i := 186) rfl)) (hw _ (List.mem_of_getElem? (i := 187) rfl)) (by decide) (own_rnn l Z a0 hw x1 h0 n0) (K' := 0) (S' := 0) (by decide) (by decide) rfl own_pd__Ljava_lang_Object__Ljava_lang_Object_ rfl (Nat.le_of_eq rfl) rfl rfl (by decide) (by decide) rfl own_d_jdk_44_method_2_code_6 rfl (fun v h' hq => ?_)
  obtain ⟨rfl, hh⟩ := hq
  refine Go.at (st' := [(.ref x1), (.ref a1)]) rfl ?_
  refine Go.heap hh ?_
  refine OwnW.putF C (pc' := 12) (host := "") (Or.inl (hw _ (List.mem_of_getElem? (i := 188) rfl))) Via.refl F_e0_a1 X_a1 (Or.inr ⟨(hw _ (List.mem_of_getElem? (i := 189) rfl)), rfl, rfl⟩) (hw _ (List.mem_of_getElem? (i := 164) rfl)) (ty := (.object "java/lang/Object")) (by decide) rfl rfl g_a1 own_d_jdk_44_method_2_code_9 rfl (fun h1 W1 => ?_)
  have KH := KH.wr W1 (Or.inl (List.mem_of_getElem? (i := 0) rfl))
  have X_a1 := X_a1.wr W1
  have F_e0_a1 := F_e0_a1.same W1
  have F_e1_a1 := F_e1_a1.other W1 (Or.inr (slot_ne (Or.inr (hw _ (List.mem_of_getElem? (i := 192) rfl))) (Or.inr (hw _ (List.mem_of_getElem? (i := 189) rfl))) (by decide) (t := (.object "java/lang/Object")) (t' := (.object "java/lang/Object")) (by decide) (by decide)))
  refine OwnW.aloadN C (pc' := 13) own_d_jdk_44_method_2_code_12 rfl rfl rfl ?_
  refine OwnW.aloadN C (pc' := 14) own_d_jdk_44_method_2_code_13 rfl rfl rfl ?_
  refine OwnW.callS C (pc' := 17) (y := (⟨"java/util/Objects", "requireNonNull", "(Ljava/lang/Object;)Ljava/lang/Object;"⟩ : MethodName)) (W := 1) (argsL := [(.ref y1)]) (rest := [(.ref a1)]) (hw _ (List.mem_of_getElem? (i := 184) rfl)) (hw _ (List.mem_of_getElem? (i := 185) rfl)) (hw _ (List.mem_of_getElem? (i := 186) rfl)) (hw _ (List.mem_of_getElem? (i := 187) rfl)) (by decide) (own_rnn l Z a0 hw y1 h1 n0) (K' := 0) (S' := 0) (by decide) (by decide) rfl own_pd__Ljava_lang_Object__Ljava_lang_Object_ rfl (Nat.le_of_eq rfl) rfl rfl (by decide) (by decide) rfl own_d_jdk_44_method_2_code_14 rfl (fun v h' hq => ?_)
  obtain ⟨rfl, hh⟩ := hq
  refine Go.at (st' := [(.ref y1), (.ref a1)]) rfl ?_
  refine Go.heap hh ?_
  refine OwnW.putF C (pc' := 20) (host := "") (Or.inl (hw _ (List.mem_of_getElem? (i := 191) rfl))) Via.refl F_e1_a1 X_a1 (Or.inr ⟨(hw _ (List.mem_of_getElem? (i := 192) rfl)), rfl, rfl⟩) (hw _ (List.mem_of_getElem? (i := 164) rfl)) (ty := (.object "java/lang/Object")) (by decide) rfl rfl g_a1 own_d_jdk_44_method_2_code_17 rfl (fun h2 W2 => ?_)
  have KH := KH.wr W2 (Or.inl (List.mem_of_getElem? (i := 0) rfl))
  have X_a1 := X_a1.wr W2
  have F_e0_a1 := F_e0_a1.other W2 (Or.inr (slot_ne (Or.inr (hw _ (List.mem_of_getElem? (i := 189) rfl))) (Or.inr (hw _ (List.mem_of_getElem? (i := 192) rfl))) (by decide) (t := (.object "java/lang/Object")) (t' := (.object "java/lang/Object")) (by decide) (by decide)))
  have F_e1_a1 := F_e1_a1.same W2
  exact OwnW.retV C rfl ⟨rfl, KH, F_e0_a1, F_e1_a1⟩ (by decide) (by decide) own_d_jdk_44_method_2_code_20
set_option maxRecDepth 65536 in
set_option maxHeartbeats 40000000 in
theorem own_lninit (l : Launch) (Z : State) (a0 : Array Value) (hw : ∀ d ∈ tables_1, d.before a0 Z = true) (a1 r1 : Addr) (h0 : Heap) (n0 : Nat) (X_a1 : Exa Z h0 a1 "java/util/ImmutableCollections$ListN") (F_elements_a1 : Fld Z h0 a1 "java/util/ImmutableCollections$ListN" "elements" "[Ljava/lang/Object;" .null) (F_allowNulls_a1 : Fld Z h0 a1 "java/util/ImmutableCollections$ListN" "allowNulls" "Z" (.int 0)) (g_a1 : n0 ≤ a1) :
    Ctr l Z (⟨"java/util/ImmutableCollections$ListN", "<init>", "([Ljava/lang/Object;Z)V"⟩ : MethodName) jdk_45_method_1_code 3 none ({ frames := 4, cells := 0, slots := 0, locals := 48 } : Room) #[(.ref a1), (.ref r1), (.int (0 : Int32))] h0 n0 (fun v h => v = none ∧ Keep h0 h [a1] ∧ Fld Z h a1 "java/util/ImmutableCollections$ListN" "elements" "[Ljava/lang/Object;" (.ref r1)) := by
  refine Ctr.of (plainFor_of_name own_pn_ImmutableCollections_ListN) ?_
  intro p e s m below meth c C
  refine Go.frame (g' := mkF m 0 #[.val (.ref a1), .val (.ref r1), .val (.int (0 : Int32))] []) (by first | (simp [entryFrame, mkF, argsToLocals, Value.category]; done) | rfl) ?_
  have KH := Keep.refl h0 [a1]
  refine OwnW.aloadN C (pc' := 1) own_d_jdk_45_method_1_code_0 rfl rfl rfl ?_
  refine OwnW.callX C (pc' := 4) (y := (⟨"java/util/ImmutableCollections$AbstractImmutableList", "<init>", "()V"⟩ : MethodName)) (W := 0) (argsL := []) (rest := []) rfl (hw _ (List.mem_of_getElem? (i := 214) rfl)) (hw _ (List.mem_of_getElem? (i := 171) rfl)) (hw _ (List.mem_of_getElem? (i := 174) rfl)) (hw _ (List.mem_of_getElem? (i := 175) rfl)) (by decide) (own_ailinit l Z a0 hw a1 h0 n0) (K' := 0) (S' := 0) (by decide) (by decide) rfl own_pd___V rfl (Nat.le_of_eq rfl) rfl rfl (by decide) (by decide) rfl own_d_jdk_45_method_1_code_1 rfl (fun v h' hq => ?_)
  obtain ⟨rfl, hh⟩ := hq
  refine Go.at (st' := []) rfl ?_
  refine Go.heap hh ?_
  refine OwnW.aloadN C (pc' := 5) own_d_jdk_45_method_1_code_4 rfl rfl rfl ?_
  refine OwnW.aloadN C (pc' := 6) own_d_jdk_45_method_1_code_5 rfl rfl rfl ?_
  refine OwnW.putF C (pc' := 9) (host := "") (Or.inl (hw _ (List.mem_of_getElem? (i := 86) rfl))) Via.refl F_elements_a1 X_a1 (Or.inr ⟨(hw _ (List.mem_of_getElem? (i := 87) rfl)), rfl, rfl⟩) (hw _ (List.mem_of_getElem? (i := 209) rfl)) (ty := (.array (.object "java/lang/Object"))) (by decide) rfl rfl g_a1 own_d_jdk_45_method_1_code_6 rfl (fun h1 W1 => ?_)
  have KH := KH.wr W1 (Or.inl (List.mem_of_getElem? (i := 0) rfl))
  have X_a1 := X_a1.wr W1
  have F_elements_a1 := F_elements_a1.same W1
  have F_allowNulls_a1 := F_allowNulls_a1.other W1 (Or.inr (slot_ne (Or.inr (hw _ (List.mem_of_getElem? (i := 219) rfl))) (Or.inr (hw _ (List.mem_of_getElem? (i := 87) rfl))) (by decide) (t := .boolean) (t' := (.array (.object "java/lang/Object"))) (by decide) (by decide)))
  refine OwnW.aloadN C (pc' := 10) own_d_jdk_45_method_1_code_9 rfl rfl rfl ?_
  refine OwnW.iloadN C (pc' := 11) own_d_jdk_45_method_1_code_10 rfl rfl ?_
  refine OwnW.putFN C (pc' := 14) (hw _ (List.mem_of_getElem? (i := 218) rfl)) Via.refl F_allowNulls_a1 X_a1 (Or.inr ⟨(hw _ (List.mem_of_getElem? (i := 219) rfl)), rfl, rfl⟩) (hw _ (List.mem_of_getElem? (i := 209) rfl)) (ty := .boolean) (v' := .int 0) (by decide) rfl rfl g_a1 own_d_jdk_45_method_1_code_11 rfl (fun h2 W2 => ?_)
  have KH := KH.wr W2 (Or.inl (List.mem_of_getElem? (i := 0) rfl))
  have X_a1 := X_a1.wr W2
  have F_elements_a1 := F_elements_a1.other W2 (Or.inr (slot_ne (Or.inr (hw _ (List.mem_of_getElem? (i := 87) rfl))) (Or.inr (hw _ (List.mem_of_getElem? (i := 219) rfl))) (by decide) (t := (.array (.object "java/lang/Object"))) (t' := .boolean) (by decide) (by decide)))
  have F_allowNulls_a1 := F_allowNulls_a1.same W2
  exact OwnW.retV C rfl ⟨rfl, KH, F_elements_a1⟩ (by decide) (by decide) own_d_jdk_45_method_1_code_14
set_option maxRecDepth 65536 in
set_option maxHeartbeats 40000000 in
theorem own_copy3_1 (l : Launch) (Z : State) (a0 : Array Value) (hw : ∀ d ∈ tables_1, d.before a0 Z = true) (b mr : Addr) (x1 : Addr) (vs : List Value) (cO : ClassId) (h0 : Heap) (n0 : Nat) (Sz : n0 ≤ h0.size) (V_b : Arv Z h0 b cO (.object "java/lang/Object") 10 vs .null) (M : Mi Z "[Ljava/lang/Object;" mr) (hus : [.ref x1] = (List.range (1 : Int32).toNatClampNeg).map fun i => vs.getD ((0 : Int32).toNatClampNeg + i) .null) (I_x1 : Ins Z h0 x1 "java/lang/Object" true) :
    Ctr l Z (⟨"java/util/Arrays", "copyOf", "([Ljava/lang/Object;ILjava/lang/Class;)[Ljava/lang/Object;"⟩ : MethodName) jdk_65_method_120_code 4 (some (.array (.object "java/lang/Object"))) ({ frames := 2, cells := 1, slots := 1, locals := 32 } : Room) #[(.ref b), (.int (1 : Int32)), (.ref mr)] h0 n0 (fun v h => ∃ (r : Addr) (cR : ClassId), v = some (.ref r) ∧ h0.size ≤ r ∧ Keep h0 h [] ∧ Arv Z h r cR (.object "java/lang/Object") (1 : Int32) [.ref x1] .null) := by
  refine Ctr.of (plainFor_of_name own_pn_Arrays) ?_
  intro p e s m below meth c C
  refine Go.frame (g' := mkF m 0 #[.val (.ref b), .val (.int (1 : Int32)), .val (.ref mr), .unset] []) (by first | (simp [entryFrame, mkF, argsToLocals, Value.category]; done) | rfl) ?_
  have KH := Keep.refl h0 []
  refine OwnW.aloadN C (pc' := 1) own_d_jdk_65_method_120_code_0 rfl rfl rfl ?_
  refine OwnW.ldcMi C (pc' := 3) (hw _ (List.mem_of_getElem? (i := 151) rfl)) M own_d_jdk_65_method_120_code_1 rfl ?_
  refine OwnW.acNe C (pcY := 13) (pcN := 6) rfl rfl own_d_jdk_65_method_120_code_3 (by decide) rfl rfl (fun hc3 => absurd rfl hc3) (fun hc3 => ?_)
  refine OwnW.iloadN C (pc' := 7) own_d_jdk_65_method_120_code_6 rfl rfl ?_
  refine OwnW.newR C (pc' := 10) (K' := 1) (S' := 1) (ad := "[Ljava/lang/Object;") (by decide +kernel) (hw _ (List.mem_of_getElem? (i := 152) rfl)) (hw _ (List.mem_of_getElem? (i := 128) rfl)) (cap := 1) (by decide) (by decide) (by decide) own_d_jdk_65_method_120_code_7 rfl rfl rfl (by decide) (by decide) (fun h1 b1 cA_b1 g1 E1 V_b1 X_b1 O_b1 => ?_)
  have ne_b_b1 : b ≠ b1 := Nat.ne_of_lt (Nat.lt_of_lt_of_eq V_b.lt g1.symm)
  have g_b1 : n0 ≤ b1 := Nat.le_trans Sz (Nat.le_of_eq g1.symm)
  have s_b1 : h0.size ≤ b1 := Nat.le_trans KH.1 (Nat.le_of_eq g1.symm)
  have KH := KH.ext E1
  have Sz := Nat.le_trans Sz E1.1
  have V_b := V_b.ext E1
  have V_b1 : Arv Z h1 b1 cA_b1 (.object "java/lang/Object") (1 : Int32) [.null] .null := V_b1.pad (pad_rep [] .null 1)
  have I_x1 := I_x1.ext E1
  refine OwnW.goto C (pc' := 24) own_d_jdk_65_method_120_code_10 (by decide) rfl ?_
  refine OwnW.astoreN C (pc' := 25) own_d_jdk_65_method_120_code_24 rfl rfl (l' := #[.val (.ref b), .val (.int (1 : Int32)), .val (.ref mr), .val (.ref b1)]) rfl ?_
  refine OwnW.aloadN C (pc' := 26) own_d_jdk_65_method_120_code_25 rfl rfl rfl ?_
  refine OwnW.iconst C (pc' := 27) own_d_jdk_65_method_120_code_26 rfl (z := 0) rfl ?_
  refine OwnW.aloadN C (pc' := 28) own_d_jdk_65_method_120_code_27 rfl rfl rfl ?_
  refine OwnW.iconst C (pc' := 29) own_d_jdk_65_method_120_code_28 rfl (z := 0) rfl ?_
  refine OwnW.aloadN C (pc' := 30) own_d_jdk_65_method_120_code_29 rfl rfl rfl ?_
  refine OwnW.alen C (pc' := 31) V_b own_d_jdk_65_method_120_code_30 rfl ?_
  refine OwnW.iloadN C (pc' := 32) own_d_jdk_65_method_120_code_31 rfl rfl ?_
  refine OwnW.callS C (pc' := 35) (y := (⟨"java/lang/Math", "min", "(II)I"⟩ : MethodName)) (W := 4) (argsL := [(.int (10 : Int32)), (.int (1 : Int32))]) (rest := [(.int (0 : Int32)), (.ref b1), (.int (0 : Int32)), (.ref b)]) (hw _ (List.mem_of_getElem? (i := 153) rfl)) (hw _ (List.mem_of_getElem? (i := 154) rfl)) (hw _ (List.mem_of_getElem? (i := 125) rfl)) (hw _ (List.mem_of_getElem? (i := 155) rfl)) (by decide) (own_minI l Z a0 hw 10 1 h1 n0) (K' := 1) (S' := 1) (by decide) (by decide) rfl own_pd__II_I rfl (Nat.le_of_eq rfl) rfl rfl (by decide) (by decide) rfl own_d_jdk_65_method_120_code_32 rfl (fun v h' hq => ?_)
  obtain ⟨rfl, hh⟩ := hq
  refine Go.at (st' := [(.int (if (1 : Int32) < 10 then (1 : Int32) else 10)), (.int (0 : Int32)), (.ref b1), (.int (0 : Int32)), (.ref b)]) rfl ?_
  refine Go.heap hh ?_
  rw [show (if (1 : Int32) < 10 then (1 : Int32) else 10) = 1 from rfl]
  refine OwnW.acopy C (pc' := 38) (us := [.ref x1]) (hw _ (List.mem_of_getElem? (i := 156) rfl)) (hw _ (List.mem_of_getElem? (i := 159) rfl)) (hw _ (List.mem_of_getElem? (i := 157) rfl)) (hw _ (List.mem_of_getElem? (i := 158) rfl)) V_b V_b1 (Or.inr ⟨rfl, rfl, ⟨sto_of V_b1 O_b1 I_x1, trivial⟩⟩) (by decide) (by decide) (by decide) (by decide) (by decide) hus (Nat.le_of_ble_eq_true rfl) g_b1 rfl (by decide) (W := 0) (Nat.le_of_eq rfl) (by decide +kernel) own_d_jdk_65_method_120_code_35 rfl (fun h2 KK V_b1 => ?_)
  have KH := KH.trans KK (allS (Or.inr s_b1) all0)
  have V_b1 : Arv Z h2 b1 cA_b1 (.object "java/lang/Object") (1 : Int32) [.ref x1] .null := V_b1
  refine OwnW.aloadN C (pc' := 39) own_d_jdk_65_method_120_code_38 rfl rfl rfl ?_
  exact OwnW.retA C rfl rfl rfl ⟨b1, cA_b1, rfl, s_b1, KH, V_b1⟩ (by decide) (by decide) own_d_jdk_65_method_120_code_39
set_option maxRecDepth 65536 in
set_option maxHeartbeats 40000000 in
theorem own_copy2_1 (l : Launch) (Z : State) (a0 : Array Value) (hw : ∀ d ∈ tables_1, d.before a0 Z = true) (b mr : Addr) (x1 : Addr) (vs : List Value) (cO : ClassId) (h0 : Heap) (n0 : Nat) (Sz : n0 ≤ h0.size) (X_b : Exa Z h0 b "[Ljava/lang/Object;") (V_b : Arv Z h0 b cO (.object "java/lang/Object") 10 vs .null) (M : Mi Z "[Ljava/lang/Object;" mr) (hus : [.ref x1] = (List.range (1 : Int32).toNatClampNeg).map fun i => vs.getD ((0 : Int32).toNatClampNeg + i) .null) (I_x1 : Ins Z h0 x1 "java/lang/Object" true) :
    Ctr l Z (⟨"java/util/Arrays", "copyOf", "([Ljava/lang/Object;I)[Ljava/lang/Object;"⟩ : MethodName) jdk_65_method_119_code 2 (some (.array (.object "java/lang/Object"))) ({ frames := 3, cells := 1, slots := 1, locals := 47 } : Room) #[(.ref b), (.int (1 : Int32))] h0 n0 (fun v h => ∃ (r : Addr) (cR : ClassId), v = some (.ref r) ∧ h0.size ≤ r ∧ Keep h0 h [] ∧ Arv Z h r cR (.object "java/lang/Object") (1 : Int32) [.ref x1] .null) := by
  refine Ctr.of (plainFor_of_name own_pn_Arrays) ?_
  intro p e s m below meth c C
  refine Go.frame (g' := mkF m 0 #[.val (.ref b), .val (.int (1 : Int32))] []) (by first | (simp [entryFrame, mkF, argsToLocals, Value.category]; done) | rfl) ?_
  refine OwnW.aloadN C (pc' := 1) own_d_jdk_65_method_119_code_0 rfl rfl rfl ?_
  refine OwnW.iloadN C (pc' := 2) own_d_jdk_65_method_119_code_1 rfl rfl ?_
  refine OwnW.aloadN C (pc' := 3) own_d_jdk_65_method_119_code_2 rfl rfl rfl ?_
  refine OwnW.getCls C (pc' := 6) (hw _ (List.mem_of_getElem? (i := 142) rfl)) (hw _ (List.mem_of_getElem? (i := 143) rfl)) (hw _ (List.mem_of_getElem? (i := 52) rfl)) (hw _ (List.mem_of_getElem? (i := 145) rfl)) (hw _ (List.mem_of_getElem? (i := 144) rfl)) (hw _ (List.mem_of_getElem? (i := 146) rfl)) X_b M rfl (by decide) (W := 2) (Nat.le_of_eq rfl) (by decide +kernel) own_d_jdk_65_method_119_code_3 rfl ?_
  refine OwnW.callS C (pc' := 9) (y := (⟨"java/util/Arrays", "copyOf", "([Ljava/lang/Object;ILjava/lang/Class;)[Ljava/lang/Object;"⟩ : MethodName)) (W := 0) (argsL := [(.ref b), (.int (1 : Int32)), (.ref mr)]) (rest := []) (hw _ (List.mem_of_getElem? (i := 148) rfl)) (hw _ (List.mem_of_getElem? (i := 149) rfl)) (hw _ (List.mem_of_getElem? (i := 140) rfl)) (hw _ (List.mem_of_getElem? (i := 150) rfl)) (by decide) (own_copy3_1 l Z a0 hw b mr x1 vs cO h0 n0 Sz V_b M hus I_x1) (K' := 1) (S' := 1) (by decide) (by decide) rfl own_pd___Ljava_lang_Object_ILjava_lang_Class___Ljava_lang_Object_ rfl (Nat.le_of_eq rfl) rfl rfl (by decide) (by decide) rfl own_d_jdk_65_method_119_code_6 rfl (fun v h1 hq => ?_)
  obtain ⟨r, cR, rfl, hr, KK, V⟩ := hq
  refine Go.at (st' := [(.ref r)]) rfl ?_
  exact OwnW.retA C rfl rfl rfl ⟨r, cR, rfl, hr, KK, V⟩ (by decide) (by decide) own_d_jdk_65_method_119_code_9
set_option maxRecDepth 65536 in
set_option maxHeartbeats 40000000 in
theorem own_toArray_1 (l : Launch) (Z : State) (a0 : Array Value) (hw : ∀ d ∈ tables_1, d.before a0 Z = true) (l1 : Addr) (b mr : Addr) (x1 : Addr) (vs : List Value) (cO : ClassId) (h0 : Heap) (n0 : Nat) (F_elementData_l1 : Fld Z h0 l1 "java/util/ArrayList" "elementData" "[Ljava/lang/Object;" (.ref b)) (F_size_l1 : Fld Z h0 l1 "java/util/ArrayList" "size" "I" (.int 1)) (Sz : n0 ≤ h0.size) (X_b : Exa Z h0 b "[Ljava/lang/Object;") (V_b : Arv Z h0 b cO (.object "java/lang/Object") 10 vs .null) (M : Mi Z "[Ljava/lang/Object;" mr) (hus : [.ref x1] = (List.range (1 : Int32).toNatClampNeg).map fun i => vs.getD ((0 : Int32).toNatClampNeg + i) .null) (I_x1 : Ins Z h0 x1 "java/lang/Object" true) :
    Ctr l Z (⟨"java/util/ArrayList", "toArray", "()[Ljava/lang/Object;"⟩ : MethodName) jdk_38_method_16_code 1 (some (.array (.object "java/lang/Object"))) ({ frames := 4, cells := 1, slots := 1, locals := 60 } : Room) #[(.ref l1)] h0 n0 (fun v h => ∃ (r : Addr) (cR : ClassId), v = some (.ref r) ∧ h0.size ≤ r ∧ Keep h0 h [] ∧ Arv Z h r cR (.object "java/lang/Object") (1 : Int32) [.ref x1] .null) := by
  refine Ctr.of (plainFor_of_name own_pn_ArrayList) ?_
  intro p e s m below meth c C
  refine Go.frame (g' := mkF m 0 #[.val (.ref l1)] []) (by first | (simp [entryFrame, mkF, argsToLocals, Value.category]; done) | rfl) ?_
  refine OwnW.aloadN C (pc' := 1) own_d_jdk_38_method_16_code_0 rfl rfl rfl ?_
  refine OwnW.getF C (pc' := 4) (host := "") (Or.inl (hw _ (List.mem_of_getElem? (i := 24) rfl))) Via.refl F_elementData_l1 own_d_jdk_38_method_16_code_1 rfl ?_
  refine OwnW.aloadN C (pc' := 5) own_d_jdk_38_method_16_code_4 rfl rfl rfl ?_
  refine OwnW.getF C (pc' := 8) (host := "") (Or.inl (hw _ (List.mem_of_getElem? (i := 63) rfl))) Via.refl F_size_l1 own_d_jdk_38_method_16_code_5 rfl ?_
  refine OwnW.callS C (pc' := 11) (y := (⟨"java/util/Arrays", "copyOf", "([Ljava/lang/Object;I)[Ljava/lang/Object;"⟩ : MethodName)) (W := 0) (argsL := [(.ref b), (.int (1 : Int32))]) (rest := []) (hw _ (List.mem_of_getElem? (i := 138) rfl)) (hw _ (List.mem_of_getElem? (i := 139) rfl)) (hw _ (List.mem_of_getElem? (i := 140) rfl)) (hw _ (List.mem_of_getElem? (i := 141) rfl)) (by decide) (own_copy2_1 l Z a0 hw b mr x1 vs cO h0 n0 Sz X_b V_b M hus I_x1) (K' := 1) (S' := 1) (by decide) (by decide) rfl own_pd___Ljava_lang_Object_I__Ljava_lang_Object_ rfl (Nat.le_of_eq rfl) rfl rfl (by decide) (by decide) rfl own_d_jdk_38_method_16_code_8 rfl (fun v h1 hq => ?_)
  obtain ⟨r, cR, rfl, hr, KK, V⟩ := hq
  refine Go.at (st' := [(.ref r)]) rfl ?_
  exact OwnW.retA C rfl rfl rfl ⟨r, cR, rfl, hr, KK, V⟩ (by decide) (by decide) own_d_jdk_38_method_16_code_11
set_option maxRecDepth 65536 in
set_option maxHeartbeats 40000000 in
theorem own_ofArr_1 (l : Launch) (Z : State) (a0 : Array Value) (hw : ∀ d ∈ tables_1, d.before a0 Z = true) (r1 : Addr) (em : Addr) (x1 : Addr) (cR : ClassId) (h0 : Heap) (n0 : Nat) (Sz : n0 ≤ h0.size) (V_r1 : Arv Z h0 r1 cR (.object "java/lang/Object") (1 : Int32) [.ref x1] .null) (S_EM : Sta Z h0 "java/util/ImmutableCollections" "EMPTY" "Ljava/lang/Object;" (.ref em)) (I_x1 : Ins Z h0 x1 "java/lang/Object" true) :
    Ctr l Z (⟨"java/util/List", "of", "([Ljava/lang/Object;)Ljava/util/List;"⟩ : MethodName) jdk_40_method_47_code 2 (some (.object "java/util/List")) ({ frames := 5, cells := 1, slots := 2, locals := 62 } : Room) #[(.ref r1)] h0 n0 (fun v h => ∃ r, v = some (.ref r) ∧ h0.size ≤ r ∧ Keep h0 h [] ∧ Exa Z h r "java/util/ImmutableCollections$List12" ∧ Fld Z h r "java/util/ImmutableCollections$List12" "e1" "Ljava/lang/Object;" (.ref em)) := by
  refine Ctr.of (plainFor_of_name own_pn_List) ?_
  intro p e s m below meth c C
  refine Go.frame (g' := mkF m 0 #[.val (.ref r1), .unset] []) (by first | (simp [entryFrame, mkF, argsToLocals, Value.category]; done) | rfl) ?_
  have KH := Keep.refl h0 []
  refine OwnW.aloadN C (pc' := 1) own_d_jdk_40_method_47_code_0 rfl rfl rfl ?_
  refine OwnW.alen C (pc' := 2) V_r1 own_d_jdk_40_method_47_code_1 rfl ?_
  refine OwnW.tsw C (pc' := 34) (o := 32) own_d_jdk_40_method_47_code_2 (by decide) rfl (by decide) rfl ?_
  refine OwnW.newO C (pc' := 37) (K' := 1) (S' := 2) (hw _ (List.mem_of_getElem? (i := 163) rfl)) (hw _ (List.mem_of_getElem? (i := 164) rfl)) (hw _ (List.mem_of_getElem? (i := 165) rfl)) own_d_jdk_40_method_47_code_34 rfl rfl rfl (by decide) (by decide) (fun h1 b1 g1 E1 X_b1 D1 => ?_)
  have ne_r1_b1 : r1 ≠ b1 := Nat.ne_of_lt (Nat.lt_of_lt_of_eq V_r1.lt g1.symm)
  have g_b1 : n0 ≤ b1 := Nat.le_trans Sz (Nat.le_of_eq g1.symm)
  have s_b1 : h0.size ≤ b1 := Nat.le_trans KH.1 (Nat.le_of_eq g1.symm)
  have KH := KH.ext E1
  have Sz := Nat.le_trans Sz E1.1
  have V_r1 := V_r1.ext E1
  have F_e0_b1 : Fld Z h1 b1 "java/util/ImmutableCollections$List12" "e0" "Ljava/lang/Object;" .null := D1 (Or.inr (hw _ (List.mem_of_getElem? (i := 189) rfl))) (ty := (.object "java/lang/Object")) (by decide)
  have F_e1_b1 : Fld Z h1 b1 "java/util/ImmutableCollections$List12" "e1" "Ljava/lang/Object;" .null := D1 (Or.inr (hw _ (List.mem_of_getElem? (i := 192) rfl))) (ty := (.object "java/lang/Object")) (by decide)
  refine OwnW.dup C (pc' := 38) own_d_jdk_40_method_47_code_37 rfl rfl ?_
  refine OwnW.aloadN C (pc' := 39) own_d_jdk_40_method_47_code_38 rfl rfl rfl ?_
  refine OwnW.iconst C (pc' := 40) own_d_jdk_40_method_47_code_39 rfl (z := 0) rfl ?_
  refine OwnW.aaload C (pc' := 41) V_r1 rfl ⟨by decide, by decide⟩ (v := (.ref x1)) rfl own_d_jdk_40_method_47_code_40 rfl ?_
  refine OwnW.callX C (pc' := 44) (y := (⟨"java/util/ImmutableCollections$List12", "<init>", "(Ljava/lang/Object;)V"⟩ : MethodName)) (W := 1) (argsL := [(.ref x1)]) (rest := [(.ref b1)]) rfl (hw _ (List.mem_of_getElem? (i := 166) rfl)) (hw _ (List.mem_of_getElem? (i := 167) rfl)) (hw _ (List.mem_of_getElem? (i := 165) rfl)) (hw _ (List.mem_of_getElem? (i := 169) rfl)) (by decide) (own_l1init l Z a0 hw b1 x1 em h1 n0 X_b1 F_e0_b1 F_e1_b1 g_b1 (S_EM.ext E1)) (K' := 1) (S' := 2) (by decide) (by decide) rfl own_pd__Ljava_lang_Object__V rfl (Nat.le_of_eq rfl) rfl rfl (by decide) (by decide) rfl own_d_jdk_40_method_47_code_41 rfl (fun v h2 hq => ?_)
  obtain ⟨rfl, KK, FE⟩ := hq
  refine Go.at (st' := [(.ref b1)]) rfl ?_
  have KH := KH.trans KK (allS (Or.inr s_b1) all0)
  have X_b1 := X_b1.keep KK
  exact OwnW.retA C rfl rfl rfl ⟨b1, rfl, s_b1, KH, X_b1, FE⟩ (by decide) (by decide) own_d_jdk_40_method_47_code_44
set_option maxRecDepth 65536 in
set_option maxHeartbeats 40000000 in
theorem own_listCopy_1 (l : Launch) (Z : State) (a0 : Array Value) (hw : ∀ d ∈ tables_1, d.before a0 Z = true) (l1 b mr : Addr) (em : Addr) (x1 : Addr) (vs : List Value) (cO : ClassId) (h0 : Heap) (n0 : Nat) (Sz : n0 ≤ h0.size) (X_l1 : Exa Z h0 l1 "java/util/ArrayList") (F_elementData_l1 : Fld Z h0 l1 "java/util/ArrayList" "elementData" "[Ljava/lang/Object;" (.ref b)) (F_size_l1 : Fld Z h0 l1 "java/util/ArrayList" "size" "I" (.int 1)) (X_b : Exa Z h0 b "[Ljava/lang/Object;") (V_b : Arv Z h0 b cO (.object "java/lang/Object") 10 vs .null) (M : Mi Z "[Ljava/lang/Object;" mr) (hus : [.ref x1] = (List.range (1 : Int32).toNatClampNeg).map fun i => vs.getD ((0 : Int32).toNatClampNeg + i) .null) (S_EM : Sta Z h0 "java/util/ImmutableCollections" "EMPTY" "Ljava/lang/Object;" (.ref em)) (I_x1 : Ins Z h0 x1 "java/lang/Object" true) :
    Ctr l Z (⟨"java/util/ImmutableCollections", "listCopy", "(Ljava/util/Collection;)Ljava/util/List;"⟩ : MethodName) jdk_56_method_3_code 2 (some (.object "java/util/List")) ({ frames := 6, cells := 2, slots := 3, locals := 75 } : Room) #[(.ref l1)] h0 n0 (fun v h => ∃ r, v = some (.ref r) ∧ h0.size ≤ r ∧ Keep h0 h [] ∧ Exa Z h r "java/util/ImmutableCollections$List12" ∧ Fld Z h r "java/util/ImmutableCollections$List12" "e1" "Ljava/lang/Object;" (.ref em)) := by
  refine Ctr.of (plainFor_of_name own_pn_ImmutableCollections) ?_
  intro p e s m below meth c C
  refine Go.frame (g' := mkF m 0 #[.val (.ref l1), .unset] []) (by first | (simp [entryFrame, mkF, argsToLocals, Value.category]; done) | rfl) ?_
  refine OwnW.aloadN C (pc' := 1) own_d_jdk_56_method_3_code_0 rfl rfl rfl ?_
  refine OwnW.instNo C (pc' := 4) (hw _ (List.mem_of_getElem? (i := 48) rfl)) X_l1 (own_nsno (hw _ (List.mem_of_getElem? (i := 49) rfl)) (hw _ (List.mem_of_getElem? (i := 164) rfl)) (NS.step (hw _ (List.mem_of_getElem? (i := 49) rfl)) (NS.step (hw _ (List.mem_of_getElem? (i := 50) rfl)) (NS.step (hw _ (List.mem_of_getElem? (i := 51) rfl)) (own_nsroot (hw _ (List.mem_of_getElem? (i := 52) rfl)) (hw _ (List.mem_of_getElem? (i := 164) rfl)) (by decide)) (by decide)) (by decide)) (by decide)) (by decide)) own_d_jdk_56_method_3_code_1 rfl ?_
  refine OwnW.ifNe C (pcY := 26) (pcN := 7) own_d_jdk_56_method_3_code_4 (by decide) rfl rfl (fun hc4 => absurd rfl hc4) (fun hc4 => ?_)
  refine OwnW.aloadN C (pc' := 8) own_d_jdk_56_method_3_code_7 rfl rfl rfl ?_
  refine OwnW.instNo C (pc' := 11) (hw _ (List.mem_of_getElem? (i := 53) rfl)) X_l1 (own_nsno (hw _ (List.mem_of_getElem? (i := 49) rfl)) (hw _ (List.mem_of_getElem? (i := 209) rfl)) (NS.step (hw _ (List.mem_of_getElem? (i := 49) rfl)) (NS.step (hw _ (List.mem_of_getElem? (i := 50) rfl)) (NS.step (hw _ (List.mem_of_getElem? (i := 51) rfl)) (own_nsroot (hw _ (List.mem_of_getElem? (i := 52) rfl)) (hw _ (List.mem_of_getElem? (i := 209) rfl)) (by decide)) (by decide)) (by decide)) (by decide)) (by decide)) own_d_jdk_56_method_3_code_8 rfl ?_
  refine OwnW.ifEq C (pcY := 31) (pcN := 14) own_d_jdk_56_method_3_code_11 (by decide) rfl rfl (fun hc11 => ?_) (fun hc11 => absurd rfl hc11)
  refine OwnW.aloadN C (pc' := 32) own_d_jdk_56_method_3_code_31 rfl rfl rfl ?_
  refine OwnW.callI C (pc' := 37) (y := (⟨"java/util/Collection", "isEmpty", "()Z"⟩ : MethodName)) (z := (⟨"java/util/ArrayList", "isEmpty", "()Z"⟩ : MethodName)) (W := 0) (argsL := []) (rest := []) (hw _ (List.mem_of_getElem? (i := 54) rfl)) (hw _ (List.mem_of_getElem? (i := 55) rfl)) (hw _ (List.mem_of_getElem? (i := 56) rfl)) (by first | rfl | decide) (hw _ (List.mem_of_getElem? (i := 57) rfl)) (hw _ (List.mem_of_getElem? (i := 58) rfl)) (hw _ (List.mem_of_getElem? (i := 59) rfl)) (hw _ (List.mem_of_getElem? (i := 60) rfl)) (hw _ (List.mem_of_getElem? (i := 61) rfl)) (hw _ (List.mem_of_getElem? (i := 2) rfl)) (hw _ (List.mem_of_getElem? (i := 62) rfl)) X_l1 (by decide) (own_alEmpty l Z a0 hw l1 1 h0 n0 F_size_l1) (K' := 0) (S' := 0) (by decide) (by decide) rfl own_pd___Z rfl (Nat.le_of_eq rfl) rfl rfl (by decide) (by decide) rfl own_d_jdk_56_method_3_code_32 rfl (fun v h' hq => ?_)
  obtain ⟨rfl, hh⟩ := hq
  refine Go.at (st' := [(.int (if (1 : Int32) = 0 then (1 : Int32) else 0))]) rfl ?_
  refine Go.heap hh ?_
  refine OwnW.ifEq C (pcY := 44) (pcN := 40) own_d_jdk_56_method_3_code_37 (by decide) rfl rfl (fun hc37 => ?_) (fun hc37 => absurd rfl hc37)
  refine OwnW.aloadN C (pc' := 45) own_d_jdk_56_method_3_code_44 rfl rfl rfl ?_
  refine OwnW.callI C (pc' := 50) (y := (⟨"java/util/Collection", "toArray", "()[Ljava/lang/Object;"⟩ : MethodName)) (z := (⟨"java/util/ArrayList", "toArray", "()[Ljava/lang/Object;"⟩ : MethodName)) (W := 0) (argsL := []) (rest := []) (hw _ (List.mem_of_getElem? (i := 130) rfl)) (hw _ (List.mem_of_getElem? (i := 131) rfl)) (hw _ (List.mem_of_getElem? (i := 132) rfl)) (by first | rfl | decide) (hw _ (List.mem_of_getElem? (i := 133) rfl)) (hw _ (List.mem_of_getElem? (i := 134) rfl)) (hw _ (List.mem_of_getElem? (i := 135) rfl)) (hw _ (List.mem_of_getElem? (i := 136) rfl)) (hw _ (List.mem_of_getElem? (i := 61) rfl)) (hw _ (List.mem_of_getElem? (i := 2) rfl)) (hw _ (List.mem_of_getElem? (i := 137) rfl)) X_l1 (by decide) (own_toArray_1 l Z a0 hw l1 b mr x1 vs cO h0 n0 F_elementData_l1 F_size_l1 Sz X_b V_b M hus I_x1) (K' := 1) (S' := 1) (by decide) (by decide) rfl own_pd____Ljava_lang_Object_ rfl (Nat.le_of_eq rfl) rfl rfl (by decide) (by decide) rfl own_d_jdk_56_method_3_code_45 rfl (fun v h1 hq => ?_)
  obtain ⟨r1, cR, rfl, hr1, K1, V_r1⟩ := hq
  refine Go.at (st' := [(.ref r1)]) rfl ?_
  have Sz1 := Nat.le_trans Sz K1.1
  have I_x1 := ins_keep I_x1 K1
  have S_EM := own_sta_keep0 S_EM K1
  refine OwnW.callS C (pc' := 53) (y := (⟨"java/util/List", "of", "([Ljava/lang/Object;)Ljava/util/List;"⟩ : MethodName)) (W := 0) (argsL := [(.ref r1)]) (rest := []) (hw _ (List.mem_of_getElem? (i := 160) rfl)) (hw _ (List.mem_of_getElem? (i := 161) rfl)) (hw _ (List.mem_of_getElem? (i := 42) rfl)) (hw _ (List.mem_of_getElem? (i := 162) rfl)) (by decide) (own_ofArr_1 l Z a0 hw r1 em x1 cR h1 n0 Sz1 V_r1 S_EM I_x1) (K' := 2) (S' := 3) (by decide) (by decide) rfl own_pd___Ljava_lang_Object__Ljava_util_List_ rfl (Nat.le_of_eq rfl) rfl rfl (by decide) (by decide) rfl own_d_jdk_56_method_3_code_50 rfl (fun v h2 hq => ?_)
  obtain ⟨r, rfl, hr, KK, QQ⟩ := hq
  refine Go.at (st' := [(.ref r)]) rfl ?_
  have KH := K1.trans KK all0
  have hr := Nat.le_trans K1.1 hr
  exact OwnW.retA C rfl rfl rfl ⟨r, rfl, hr, KH, QQ⟩ (by decide) (by decide) own_d_jdk_56_method_3_code_53
set_option maxRecDepth 65536 in
set_option maxHeartbeats 40000000 in
theorem own_copyOf_1 (l : Launch) (Z : State) (a0 : Array Value) (hw : ∀ d ∈ tables_1, d.before a0 Z = true) (l1 b mr : Addr) (em : Addr) (x1 : Addr) (vs : List Value) (cO : ClassId) (h0 : Heap) (n0 : Nat) (Sz : n0 ≤ h0.size) (X_l1 : Exa Z h0 l1 "java/util/ArrayList") (F_elementData_l1 : Fld Z h0 l1 "java/util/ArrayList" "elementData" "[Ljava/lang/Object;" (.ref b)) (F_size_l1 : Fld Z h0 l1 "java/util/ArrayList" "size" "I" (.int 1)) (X_b : Exa Z h0 b "[Ljava/lang/Object;") (V_b : Arv Z h0 b cO (.object "java/lang/Object") 10 vs .null) (M : Mi Z "[Ljava/lang/Object;" mr) (hus : [.ref x1] = (List.range (1 : Int32).toNatClampNeg).map fun i => vs.getD ((0 : Int32).toNatClampNeg + i) .null) (S_EM : Sta Z h0 "java/util/ImmutableCollections" "EMPTY" "Ljava/lang/Object;" (.ref em)) (I_x1 : Ins Z h0 x1 "java/lang/Object" true) :
    Ctr l Z (⟨"java/util/List", "copyOf", "(Ljava/util/Collection;)Ljava/util/List;"⟩ : MethodName) jdk_40_method_48_code 1 (some (.object "java/util/List")) ({ frames := 7, cells := 2, slots := 3, locals := 88 } : Room) #[(.ref l1)] h0 n0 (fun v h => ∃ r, v = some (.ref r) ∧ h0.size ≤ r ∧ Keep h0 h [] ∧ Exa Z h r "java/util/ImmutableCollections$List12" ∧ Fld Z h r "java/util/ImmutableCollections$List12" "e1" "Ljava/lang/Object;" (.ref em)) := by
  refine Ctr.of (plainFor_of_name own_pn_List) ?_
  intro p e s m below meth c C
  refine Go.frame (g' := mkF m 0 #[.val (.ref l1)] []) (by first | (simp [entryFrame, mkF, argsToLocals, Value.category]; done) | rfl) ?_
  refine OwnW.aloadN C (pc' := 1) own_d_jdk_40_method_48_code_0 rfl rfl rfl ?_
  refine OwnW.callS C (pc' := 4) (y := (⟨"java/util/ImmutableCollections", "listCopy", "(Ljava/util/Collection;)Ljava/util/List;"⟩ : MethodName)) (W := 0) (argsL := [(.ref l1)]) (rest := []) (hw _ (List.mem_of_getElem? (i := 44) rfl)) (hw _ (List.mem_of_getElem? (i := 45) rfl)) (hw _ (List.mem_of_getElem? (i := 46) rfl)) (hw _ (List.mem_of_getElem? (i := 47) rfl)) (by decide) (own_listCopy_1 l Z a0 hw l1 b mr em x1 vs cO h0 n0 Sz X_l1 F_elementData_l1 F_size_l1 X_b V_b M hus S_EM I_x1) (K' := 2) (S' := 3) (by decide) (by decide) rfl own_pd__Ljava_util_Collection__Ljava_util_List_ rfl (Nat.le_of_eq rfl) rfl rfl (by decide) (by decide) rfl own_d_jdk_40_method_48_code_1 rfl (fun v h1 hq => ?_)
  obtain ⟨r, rfl, hr, KK, QQ⟩ := hq
  refine Go.at (st' := [(.ref r)]) rfl ?_
  exact OwnW.retA C rfl rfl rfl ⟨r, rfl, hr, KK, QQ⟩ (by decide) (by decide) own_d_jdk_40_method_48_code_4
set_option maxRecDepth 65536 in
set_option maxHeartbeats 40000000 in
theorem own_copy3_2 (l : Launch) (Z : State) (a0 : Array Value) (hw : ∀ d ∈ tables_1, d.before a0 Z = true) (b mr : Addr) (x1 y1 : Addr) (vs : List Value) (cO : ClassId) (h0 : Heap) (n0 : Nat) (Sz : n0 ≤ h0.size) (V_b : Arv Z h0 b cO (.object "java/lang/Object") 10 vs .null) (M : Mi Z "[Ljava/lang/Object;" mr) (hus : [.ref x1, .ref y1] = (List.range (2 : Int32).toNatClampNeg).map fun i => vs.getD ((0 : Int32).toNatClampNeg + i) .null) (I_x1 : Ins Z h0 x1 "java/lang/Object" true) (I_y1 : Ins Z h0 y1 "java/lang/Object" true) :
    Ctr l Z (⟨"java/util/Arrays", "copyOf", "([Ljava/lang/Object;ILjava/lang/Class;)[Ljava/lang/Object;"⟩ : MethodName) jdk_65_method_120_code 4 (some (.array (.object "java/lang/Object"))) ({ frames := 2, cells := 1, slots := 2, locals := 32 } : Room) #[(.ref b), (.int (2 : Int32)), (.ref mr)] h0 n0 (fun v h => ∃ (r : Addr) (cR : ClassId), v = some (.ref r) ∧ h0.size ≤ r ∧ Keep h0 h [] ∧ Arv Z h r cR (.object "java/lang/Object") (2 : Int32) [.ref x1, .ref y1] .null) := by
  refine Ctr.of (plainFor_of_name own_pn_Arrays) ?_
  intro p e s m below meth c C
  refine Go.frame (g' := mkF m 0 #[.val (.ref b), .val (.int (2 : Int32)), .val (.ref mr), .unset] []) (by first | (simp [entryFrame, mkF, argsToLocals, Value.category]; done) | rfl) ?_
  have KH := Keep.refl h0 []
  refine OwnW.aloadN C (pc' := 1) own_d_jdk_65_method_120_code_0 rfl rfl rfl ?_
  refine OwnW.ldcMi C (pc' := 3) (hw _ (List.mem_of_getElem? (i := 151) rfl)) M own_d_jdk_65_method_120_code_1 rfl ?_
  refine OwnW.acNe C (pcY := 13) (pcN := 6) rfl rfl own_d_jdk_65_method_120_code_3 (by decide) rfl rfl (fun hc3 => absurd rfl hc3) (fun hc3 => ?_)
  refine OwnW.iloadN C (pc' := 7) own_d_jdk_65_method_120_code_6 rfl rfl ?_
  refine OwnW.newR C (pc' := 10) (K' := 1) (S' := 2) (ad := "[Ljava/lang/Object;") (by decide +kernel) (hw _ (List.mem_of_getElem? (i := 152) rfl)) (hw _ (List.mem_of_getElem? (i := 128) rfl)) (cap := 2) (by decide) (by decide) (by decide) own_d_jdk_65_method_120_code_7 rfl rfl rfl (by decide) (by decide) (fun h1 b1 cA_b1 g1 E1 V_b1 X_b1 O_b1 => ?_)
  have ne_b_b1 : b ≠ b1 := Nat.ne_of_lt (Nat.lt_of_lt_of_eq V_b.lt g1.symm)
  have g_b1 : n0 ≤ b1 := Nat.le_trans Sz (Nat.le_of_eq g1.symm)
  have s_b1 : h0.size ≤ b1 := Nat.le_trans KH.1 (Nat.le_of_eq g1.symm)
  have KH := KH.ext E1
  have Sz := Nat.le_trans Sz E1.1
  have V_b := V_b.ext E1
  have V_b1 : Arv Z h1 b1 cA_b1 (.object "java/lang/Object") (2 : Int32) [.null, .null] .null := V_b1.pad (pad_rep [] .null 2)
  have I_x1 := I_x1.ext E1
  have I_y1 := I_y1.ext E1
  refine OwnW.goto C (pc' := 24) own_d_jdk_65_method_120_code_10 (by decide) rfl ?_
  refine OwnW.astoreN C (pc' := 25) own_d_jdk_65_method_120_code_24 rfl rfl (l' := #[.val (.ref b), .val (.int (2 : Int32)), .val (.ref mr), .val (.ref b1)]) rfl ?_
  refine OwnW.aloadN C (pc' := 26) own_d_jdk_65_method_120_code_25 rfl rfl rfl ?_
  refine OwnW.iconst C (pc' := 27) own_d_jdk_65_method_120_code_26 rfl (z := 0) rfl ?_
  refine OwnW.aloadN C (pc' := 28) own_d_jdk_65_method_120_code_27 rfl rfl rfl ?_
  refine OwnW.iconst C (pc' := 29) own_d_jdk_65_method_120_code_28 rfl (z := 0) rfl ?_
  refine OwnW.aloadN C (pc' := 30) own_d_jdk_65_method_120_code_29 rfl rfl rfl ?_
  refine OwnW.alen C (pc' := 31) V_b own_d_jdk_65_method_120_code_30 rfl ?_
  refine OwnW.iloadN C (pc' := 32) own_d_jdk_65_method_120_code_31 rfl rfl ?_
  refine OwnW.callS C (pc' := 35) (y := (⟨"java/lang/Math", "min", "(II)I"⟩ : MethodName)) (W := 4) (argsL := [(.int (10 : Int32)), (.int (2 : Int32))]) (rest := [(.int (0 : Int32)), (.ref b1), (.int (0 : Int32)), (.ref b)]) (hw _ (List.mem_of_getElem? (i := 153) rfl)) (hw _ (List.mem_of_getElem? (i := 154) rfl)) (hw _ (List.mem_of_getElem? (i := 125) rfl)) (hw _ (List.mem_of_getElem? (i := 155) rfl)) (by decide) (own_minI l Z a0 hw 10 2 h1 n0) (K' := 1) (S' := 2) (by decide) (by decide) rfl own_pd__II_I rfl (Nat.le_of_eq rfl) rfl rfl (by decide) (by decide) rfl own_d_jdk_65_method_120_code_32 rfl (fun v h' hq => ?_)
  obtain ⟨rfl, hh⟩ := hq
  refine Go.at (st' := [(.int (if (2 : Int32) < 10 then (2 : Int32) else 10)), (.int (0 : Int32)), (.ref b1), (.int (0 : Int32)), (.ref b)]) rfl ?_
  refine Go.heap hh ?_
  rw [show (if (2 : Int32) < 10 then (2 : Int32) else 10) = 2 from rfl]
  refine OwnW.acopy C (pc' := 38) (us := [.ref x1, .ref y1]) (hw _ (List.mem_of_getElem? (i := 156) rfl)) (hw _ (List.mem_of_getElem? (i := 159) rfl)) (hw _ (List.mem_of_getElem? (i := 157) rfl)) (hw _ (List.mem_of_getElem? (i := 158) rfl)) V_b V_b1 (Or.inr ⟨rfl, rfl, ⟨sto_of V_b1 O_b1 I_x1, ⟨sto_of V_b1 O_b1 I_y1, trivial⟩⟩⟩) (by decide) (by decide) (by decide) (by decide) (by decide) hus (Nat.le_of_ble_eq_true rfl) g_b1 rfl (by decide) (W := 0) (Nat.le_of_eq rfl) (by decide +kernel) own_d_jdk_65_method_120_code_35 rfl (fun h2 KK V_b1 => ?_)
  have KH := KH.trans KK (allS (Or.inr s_b1) all0)
  have V_b1 : Arv Z h2 b1 cA_b1 (.object "java/lang/Object") (2 : Int32) [.ref x1, .ref y1] .null := V_b1
  refine OwnW.aloadN C (pc' := 39) own_d_jdk_65_method_120_code_38 rfl rfl rfl ?_
  exact OwnW.retA C rfl rfl rfl ⟨b1, cA_b1, rfl, s_b1, KH, V_b1⟩ (by decide) (by decide) own_d_jdk_65_method_120_code_39
set_option maxRecDepth 65536 in
set_option maxHeartbeats 40000000 in
theorem own_copy2_2 (l : Launch) (Z : State) (a0 : Array Value) (hw : ∀ d ∈ tables_1, d.before a0 Z = true) (b mr : Addr) (x1 y1 : Addr) (vs : List Value) (cO : ClassId) (h0 : Heap) (n0 : Nat) (Sz : n0 ≤ h0.size) (X_b : Exa Z h0 b "[Ljava/lang/Object;") (V_b : Arv Z h0 b cO (.object "java/lang/Object") 10 vs .null) (M : Mi Z "[Ljava/lang/Object;" mr) (hus : [.ref x1, .ref y1] = (List.range (2 : Int32).toNatClampNeg).map fun i => vs.getD ((0 : Int32).toNatClampNeg + i) .null) (I_x1 : Ins Z h0 x1 "java/lang/Object" true) (I_y1 : Ins Z h0 y1 "java/lang/Object" true) :
    Ctr l Z (⟨"java/util/Arrays", "copyOf", "([Ljava/lang/Object;I)[Ljava/lang/Object;"⟩ : MethodName) jdk_65_method_119_code 2 (some (.array (.object "java/lang/Object"))) ({ frames := 3, cells := 1, slots := 2, locals := 47 } : Room) #[(.ref b), (.int (2 : Int32))] h0 n0 (fun v h => ∃ (r : Addr) (cR : ClassId), v = some (.ref r) ∧ h0.size ≤ r ∧ Keep h0 h [] ∧ Arv Z h r cR (.object "java/lang/Object") (2 : Int32) [.ref x1, .ref y1] .null) := by
  refine Ctr.of (plainFor_of_name own_pn_Arrays) ?_
  intro p e s m below meth c C
  refine Go.frame (g' := mkF m 0 #[.val (.ref b), .val (.int (2 : Int32))] []) (by first | (simp [entryFrame, mkF, argsToLocals, Value.category]; done) | rfl) ?_
  refine OwnW.aloadN C (pc' := 1) own_d_jdk_65_method_119_code_0 rfl rfl rfl ?_
  refine OwnW.iloadN C (pc' := 2) own_d_jdk_65_method_119_code_1 rfl rfl ?_
  refine OwnW.aloadN C (pc' := 3) own_d_jdk_65_method_119_code_2 rfl rfl rfl ?_
  refine OwnW.getCls C (pc' := 6) (hw _ (List.mem_of_getElem? (i := 142) rfl)) (hw _ (List.mem_of_getElem? (i := 143) rfl)) (hw _ (List.mem_of_getElem? (i := 52) rfl)) (hw _ (List.mem_of_getElem? (i := 145) rfl)) (hw _ (List.mem_of_getElem? (i := 144) rfl)) (hw _ (List.mem_of_getElem? (i := 146) rfl)) X_b M rfl (by decide) (W := 2) (Nat.le_of_eq rfl) (by decide +kernel) own_d_jdk_65_method_119_code_3 rfl ?_
  refine OwnW.callS C (pc' := 9) (y := (⟨"java/util/Arrays", "copyOf", "([Ljava/lang/Object;ILjava/lang/Class;)[Ljava/lang/Object;"⟩ : MethodName)) (W := 0) (argsL := [(.ref b), (.int (2 : Int32)), (.ref mr)]) (rest := []) (hw _ (List.mem_of_getElem? (i := 148) rfl)) (hw _ (List.mem_of_getElem? (i := 149) rfl)) (hw _ (List.mem_of_getElem? (i := 140) rfl)) (hw _ (List.mem_of_getElem? (i := 150) rfl)) (by decide) (own_copy3_2 l Z a0 hw b mr x1 y1 vs cO h0 n0 Sz V_b M hus I_x1 I_y1) (K' := 1) (S' := 2) (by decide) (by decide) rfl own_pd___Ljava_lang_Object_ILjava_lang_Class___Ljava_lang_Object_ rfl (Nat.le_of_eq rfl) rfl rfl (by decide) (by decide) rfl own_d_jdk_65_method_119_code_6 rfl (fun v h1 hq => ?_)
  obtain ⟨r, cR, rfl, hr, KK, V⟩ := hq
  refine Go.at (st' := [(.ref r)]) rfl ?_
  exact OwnW.retA C rfl rfl rfl ⟨r, cR, rfl, hr, KK, V⟩ (by decide) (by decide) own_d_jdk_65_method_119_code_9
set_option maxRecDepth 65536 in
set_option maxHeartbeats 40000000 in
theorem own_toArray_2 (l : Launch) (Z : State) (a0 : Array Value) (hw : ∀ d ∈ tables_1, d.before a0 Z = true) (l1 : Addr) (b mr : Addr) (x1 y1 : Addr) (vs : List Value) (cO : ClassId) (h0 : Heap) (n0 : Nat) (F_elementData_l1 : Fld Z h0 l1 "java/util/ArrayList" "elementData" "[Ljava/lang/Object;" (.ref b)) (F_size_l1 : Fld Z h0 l1 "java/util/ArrayList" "size" "I" (.int 2)) (Sz : n0 ≤ h0.size) (X_b : Exa Z h0 b "[Ljava/lang/Object;") (V_b : Arv Z h0 b cO (.object "java/lang/Object") 10 vs .null) (M : Mi Z "[Ljava/lang/Object;" mr) (hus : [.ref x1, .ref y1] = (List.range (2 : Int32).toNatClampNeg).map fun i => vs.getD ((0 : Int32).toNatClampNeg + i) .null) (I_x1 : Ins Z h0 x1 "java/lang/Object" true) (I_y1 : Ins Z h0 y1 "java/lang/Object" true) :
    Ctr l Z (⟨"java/util/ArrayList", "toArray", "()[Ljava/lang/Object;"⟩ : MethodName) jdk_38_method_16_code 1 (some (.array (.object "java/lang/Object"))) ({ frames := 4, cells := 1, slots := 2, locals := 60 } : Room) #[(.ref l1)] h0 n0 (fun v h => ∃ (r : Addr) (cR : ClassId), v = some (.ref r) ∧ h0.size ≤ r ∧ Keep h0 h [] ∧ Arv Z h r cR (.object "java/lang/Object") (2 : Int32) [.ref x1, .ref y1] .null) := by
  refine Ctr.of (plainFor_of_name own_pn_ArrayList) ?_
  intro p e s m below meth c C
  refine Go.frame (g' := mkF m 0 #[.val (.ref l1)] []) (by first | (simp [entryFrame, mkF, argsToLocals, Value.category]; done) | rfl) ?_
  refine OwnW.aloadN C (pc' := 1) own_d_jdk_38_method_16_code_0 rfl rfl rfl ?_
  refine OwnW.getF C (pc' := 4) (host := "") (Or.inl (hw _ (List.mem_of_getElem? (i := 24) rfl))) Via.refl F_elementData_l1 own_d_jdk_38_method_16_code_1 rfl ?_
  refine OwnW.aloadN C (pc' := 5) own_d_jdk_38_method_16_code_4 rfl rfl rfl ?_
  refine OwnW.getF C (pc' := 8) (host := "") (Or.inl (hw _ (List.mem_of_getElem? (i := 63) rfl))) Via.refl F_size_l1 own_d_jdk_38_method_16_code_5 rfl ?_
  refine OwnW.callS C (pc' := 11) (y := (⟨"java/util/Arrays", "copyOf", "([Ljava/lang/Object;I)[Ljava/lang/Object;"⟩ : MethodName)) (W := 0) (argsL := [(.ref b), (.int (2 : Int32))]) (rest := []) (hw _ (List.mem_of_getElem? (i := 138) rfl)) (hw _ (List.mem_of_getElem? (i := 139) rfl)) (hw _ (List.mem_of_getElem? (i := 140) rfl)) (hw _ (List.mem_of_getElem? (i := 141) rfl)) (by decide) (own_copy2_2 l Z a0 hw b mr x1 y1 vs cO h0 n0 Sz X_b V_b M hus I_x1 I_y1) (K' := 1) (S' := 2) (by decide) (by decide) rfl own_pd___Ljava_lang_Object_I__Ljava_lang_Object_ rfl (Nat.le_of_eq rfl) rfl rfl (by decide) (by decide) rfl own_d_jdk_38_method_16_code_8 rfl (fun v h1 hq => ?_)
  obtain ⟨r, cR, rfl, hr, KK, V⟩ := hq
  refine Go.at (st' := [(.ref r)]) rfl ?_
  exact OwnW.retA C rfl rfl rfl ⟨r, cR, rfl, hr, KK, V⟩ (by decide) (by decide) own_d_jdk_38_method_16_code_11
set_option maxRecDepth 65536 in
set_option maxHeartbeats 40000000 in
theorem own_ofArr_2 (l : Launch) (Z : State) (a0 : Array Value) (hw : ∀ d ∈ tables_1, d.before a0 Z = true) (r1 : Addr) (x1 y1 : Addr) (cR : ClassId) (h0 : Heap) (n0 : Nat) (Sz : n0 ≤ h0.size) (V_r1 : Arv Z h0 r1 cR (.object "java/lang/Object") (2 : Int32) [.ref x1, .ref y1] .null) (I_x1 : Ins Z h0 x1 "java/lang/Object" true) (I_y1 : Ins Z h0 y1 "java/lang/Object" true) :
    Ctr l Z (⟨"java/util/List", "of", "([Ljava/lang/Object;)Ljava/util/List;"⟩ : MethodName) jdk_40_method_47_code 2 (some (.object "java/util/List")) ({ frames := 5, cells := 1, slots := 2, locals := 63 } : Room) #[(.ref r1)] h0 n0 (fun v h => ∃ r, v = some (.ref r) ∧ h0.size ≤ r ∧ Keep h0 h [] ∧ Exa Z h r "java/util/ImmutableCollections$List12" ∧ Fld Z h r "java/util/ImmutableCollections$List12" "e0" "Ljava/lang/Object;" (.ref x1) ∧ Fld Z h r "java/util/ImmutableCollections$List12" "e1" "Ljava/lang/Object;" (.ref y1)) := by
  refine Ctr.of (plainFor_of_name own_pn_List) ?_
  intro p e s m below meth c C
  refine Go.frame (g' := mkF m 0 #[.val (.ref r1), .unset] []) (by first | (simp [entryFrame, mkF, argsToLocals, Value.category]; done) | rfl) ?_
  have KH := Keep.refl h0 []
  refine OwnW.aloadN C (pc' := 1) own_d_jdk_40_method_47_code_0 rfl rfl rfl ?_
  refine OwnW.alen C (pc' := 2) V_r1 own_d_jdk_40_method_47_code_1 rfl ?_
  refine OwnW.tsw C (pc' := 45) (o := 43) own_d_jdk_40_method_47_code_2 (by decide) rfl (by decide) rfl ?_
  refine OwnW.newO C (pc' := 48) (K' := 1) (S' := 2) (hw _ (List.mem_of_getElem? (i := 163) rfl)) (hw _ (List.mem_of_getElem? (i := 164) rfl)) (hw _ (List.mem_of_getElem? (i := 165) rfl)) own_d_jdk_40_method_47_code_45 rfl rfl rfl (by decide) (by decide) (fun h1 b1 g1 E1 X_b1 D1 => ?_)
  have ne_r1_b1 : r1 ≠ b1 := Nat.ne_of_lt (Nat.lt_of_lt_of_eq V_r1.lt g1.symm)
  have g_b1 : n0 ≤ b1 := Nat.le_trans Sz (Nat.le_of_eq g1.symm)
  have s_b1 : h0.size ≤ b1 := Nat.le_trans KH.1 (Nat.le_of_eq g1.symm)
  have KH := KH.ext E1
  have Sz := Nat.le_trans Sz E1.1
  have V_r1 := V_r1.ext E1
  have F_e0_b1 : Fld Z h1 b1 "java/util/ImmutableCollections$List12" "e0" "Ljava/lang/Object;" .null := D1 (Or.inr (hw _ (List.mem_of_getElem? (i := 189) rfl))) (ty := (.object "java/lang/Object")) (by decide)
  have F_e1_b1 : Fld Z h1 b1 "java/util/ImmutableCollections$List12" "e1" "Ljava/lang/Object;" .null := D1 (Or.inr (hw _ (List.mem_of_getElem? (i := 192) rfl))) (ty := (.object "java/lang/Object")) (by decide)
  refine OwnW.dup C (pc' := 49) own_d_jdk_40_method_47_code_48 rfl rfl ?_
  refine OwnW.aloadN C (pc' := 50) own_d_jdk_40_method_47_code_49 rfl rfl rfl ?_
  refine OwnW.iconst C (pc' := 51) own_d_jdk_40_method_47_code_50 rfl (z := 0) rfl ?_
  refine OwnW.aaload C (pc' := 52) V_r1 rfl ⟨by decide, by decide⟩ (v := (.ref x1)) rfl own_d_jdk_40_method_47_code_51 rfl ?_
  refine OwnW.aloadN C (pc' := 53) own_d_jdk_40_method_47_code_52 rfl rfl rfl ?_
  refine OwnW.iconst C (pc' := 54) own_d_jdk_40_method_47_code_53 rfl (z := 1) rfl ?_
  refine OwnW.aaload C (pc' := 55) V_r1 rfl ⟨by decide, by decide⟩ (v := (.ref y1)) rfl own_d_jdk_40_method_47_code_54 rfl ?_
  refine OwnW.callX C (pc' := 58) (y := (⟨"java/util/ImmutableCollections$List12", "<init>", "(Ljava/lang/Object;Ljava/lang/Object;)V"⟩ : MethodName)) (W := 1) (argsL := [(.ref x1), (.ref y1)]) (rest := [(.ref b1)]) rfl (hw _ (List.mem_of_getElem? (i := 235) rfl)) (hw _ (List.mem_of_getElem? (i := 236) rfl)) (hw _ (List.mem_of_getElem? (i := 165) rfl)) (hw _ (List.mem_of_getElem? (i := 237) rfl)) (by decide) (own_l2init l Z a0 hw b1 x1 y1 h1 n0 X_b1 F_e0_b1 F_e1_b1 g_b1) (K' := 1) (S' := 2) (by decide) (by decide) rfl own_pd__Ljava_lang_Object_Ljava_lang_Object__V rfl (Nat.le_of_eq rfl) rfl rfl (by decide) (by decide) rfl own_d_jdk_40_method_47_code_55 rfl (fun v h2 hq => ?_)
  obtain ⟨rfl, KK, FE0, FE⟩ := hq
  refine Go.at (st' := [(.ref b1)]) rfl ?_
  have KH := KH.trans KK (allS (Or.inr s_b1) all0)
  have X_b1 := X_b1.keep KK
  exact OwnW.retA C rfl rfl rfl ⟨b1, rfl, s_b1, KH, X_b1, FE0, FE⟩ (by decide) (by decide) own_d_jdk_40_method_47_code_58
set_option maxRecDepth 65536 in
set_option maxHeartbeats 40000000 in
theorem own_listCopy_2 (l : Launch) (Z : State) (a0 : Array Value) (hw : ∀ d ∈ tables_1, d.before a0 Z = true) (l1 b mr : Addr) (x1 y1 : Addr) (vs : List Value) (cO : ClassId) (h0 : Heap) (n0 : Nat) (Sz : n0 ≤ h0.size) (X_l1 : Exa Z h0 l1 "java/util/ArrayList") (F_elementData_l1 : Fld Z h0 l1 "java/util/ArrayList" "elementData" "[Ljava/lang/Object;" (.ref b)) (F_size_l1 : Fld Z h0 l1 "java/util/ArrayList" "size" "I" (.int 2)) (X_b : Exa Z h0 b "[Ljava/lang/Object;") (V_b : Arv Z h0 b cO (.object "java/lang/Object") 10 vs .null) (M : Mi Z "[Ljava/lang/Object;" mr) (hus : [.ref x1, .ref y1] = (List.range (2 : Int32).toNatClampNeg).map fun i => vs.getD ((0 : Int32).toNatClampNeg + i) .null) (I_x1 : Ins Z h0 x1 "java/lang/Object" true) (I_y1 : Ins Z h0 y1 "java/lang/Object" true) :
    Ctr l Z (⟨"java/util/ImmutableCollections", "listCopy", "(Ljava/util/Collection;)Ljava/util/List;"⟩ : MethodName) jdk_56_method_3_code 2 (some (.object "java/util/List")) ({ frames := 6, cells := 2, slots := 4, locals := 76 } : Room) #[(.ref l1)] h0 n0 (fun v h => ∃ r, v = some (.ref r) ∧ h0.size ≤ r ∧ Keep h0 h [] ∧ Exa Z h r "java/util/ImmutableCollections$List12" ∧ Fld Z h r "java/util/ImmutableCollections$List12" "e0" "Ljava/lang/Object;" (.ref x1) ∧ Fld Z h r "java/util/ImmutableCollections$List12" "e1" "Ljava/lang/Object;" (.ref y1)) := by
  refine Ctr.of (plainFor_of_name own_pn_ImmutableCollections) ?_
  intro p e s m below meth c C
  refine Go.frame (g' := mkF m 0 #[.val (.ref l1), .unset] []) (by first | (simp [entryFrame, mkF, argsToLocals, Value.category]; done) | rfl) ?_
  refine OwnW.aloadN C (pc' := 1) own_d_jdk_56_method_3_code_0 rfl rfl rfl ?_
  refine OwnW.instNo C (pc' := 4) (hw _ (List.mem_of_getElem? (i := 48) rfl)) X_l1 (own_nsno (hw _ (List.mem_of_getElem? (i := 49) rfl)) (hw _ (List.mem_of_getElem? (i := 164) rfl)) (NS.step (hw _ (List.mem_of_getElem? (i := 49) rfl)) (NS.step (hw _ (List.mem_of_getElem? (i := 50) rfl)) (NS.step (hw _ (List.mem_of_getElem? (i := 51) rfl)) (own_nsroot (hw _ (List.mem_of_getElem? (i := 52) rfl)) (hw _ (List.mem_of_getElem? (i := 164) rfl)) (by decide)) (by decide)) (by decide)) (by decide)) (by decide)) own_d_jdk_56_method_3_code_1 rfl ?_
  refine OwnW.ifNe C (pcY := 26) (pcN := 7) own_d_jdk_56_method_3_code_4 (by decide) rfl rfl (fun hc4 => absurd rfl hc4) (fun hc4 => ?_)
  refine OwnW.aloadN C (pc' := 8) own_d_jdk_56_method_3_code_7 rfl rfl rfl ?_
  refine OwnW.instNo C (pc' := 11) (hw _ (List.mem_of_getElem? (i := 53) rfl)) X_l1 (own_nsno (hw _ (List.mem_of_getElem? (i := 49) rfl)) (hw _ (List.mem_of_getElem? (i := 209) rfl)) (NS.step (hw _ (List.mem_of_getElem? (i := 49) rfl)) (NS.step (hw _ (List.mem_of_getElem? (i := 50) rfl)) (NS.step (hw _ (List.mem_of_getElem? (i := 51) rfl)) (own_nsroot (hw _ (List.mem_of_getElem? (i := 52) rfl)) (hw _ (List.mem_of_getElem? (i := 209) rfl)) (by decide)) (by decide)) (by decide)) (by decide)) (by decide)) own_d_jdk_56_method_3_code_8 rfl ?_
  refine OwnW.ifEq C (pcY := 31) (pcN := 14) own_d_jdk_56_method_3_code_11 (by decide) rfl rfl (fun hc11 => ?_) (fun hc11 => absurd rfl hc11)
  refine OwnW.aloadN C (pc' := 32) own_d_jdk_56_method_3_code_31 rfl rfl rfl ?_
  refine OwnW.callI C (pc' := 37) (y := (⟨"java/util/Collection", "isEmpty", "()Z"⟩ : MethodName)) (z := (⟨"java/util/ArrayList", "isEmpty", "()Z"⟩ : MethodName)) (W := 0) (argsL := []) (rest := []) (hw _ (List.mem_of_getElem? (i := 54) rfl)) (hw _ (List.mem_of_getElem? (i := 55) rfl)) (hw _ (List.mem_of_getElem? (i := 56) rfl)) (by first | rfl | decide) (hw _ (List.mem_of_getElem? (i := 57) rfl)) (hw _ (List.mem_of_getElem? (i := 58) rfl)) (hw _ (List.mem_of_getElem? (i := 59) rfl)) (hw _ (List.mem_of_getElem? (i := 60) rfl)) (hw _ (List.mem_of_getElem? (i := 61) rfl)) (hw _ (List.mem_of_getElem? (i := 2) rfl)) (hw _ (List.mem_of_getElem? (i := 62) rfl)) X_l1 (by decide) (own_alEmpty l Z a0 hw l1 2 h0 n0 F_size_l1) (K' := 0) (S' := 0) (by decide) (by decide) rfl own_pd___Z rfl (Nat.le_of_eq rfl) rfl rfl (by decide) (by decide) rfl own_d_jdk_56_method_3_code_32 rfl (fun v h' hq => ?_)
  obtain ⟨rfl, hh⟩ := hq
  refine Go.at (st' := [(.int (if (2 : Int32) = 0 then (1 : Int32) else 0))]) rfl ?_
  refine Go.heap hh ?_
  refine OwnW.ifEq C (pcY := 44) (pcN := 40) own_d_jdk_56_method_3_code_37 (by decide) rfl rfl (fun hc37 => ?_) (fun hc37 => absurd rfl hc37)
  refine OwnW.aloadN C (pc' := 45) own_d_jdk_56_method_3_code_44 rfl rfl rfl ?_
  refine OwnW.callI C (pc' := 50) (y := (⟨"java/util/Collection", "toArray", "()[Ljava/lang/Object;"⟩ : MethodName)) (z := (⟨"java/util/ArrayList", "toArray", "()[Ljava/lang/Object;"⟩ : MethodName)) (W := 0) (argsL := []) (rest := []) (hw _ (List.mem_of_getElem? (i := 130) rfl)) (hw _ (List.mem_of_getElem? (i := 131) rfl)) (hw _ (List.mem_of_getElem? (i := 132) rfl)) (by first | rfl | decide) (hw _ (List.mem_of_getElem? (i := 133) rfl)) (hw _ (List.mem_of_getElem? (i := 134) rfl)) (hw _ (List.mem_of_getElem? (i := 135) rfl)) (hw _ (List.mem_of_getElem? (i := 136) rfl)) (hw _ (List.mem_of_getElem? (i := 61) rfl)) (hw _ (List.mem_of_getElem? (i := 2) rfl)) (hw _ (List.mem_of_getElem? (i := 137) rfl)) X_l1 (by decide) (own_toArray_2 l Z a0 hw l1 b mr x1 y1 vs cO h0 n0 F_elementData_l1 F_size_l1 Sz X_b V_b M hus I_x1 I_y1) (K' := 1) (S' := 2) (by decide) (by decide) rfl own_pd____Ljava_lang_Object_ rfl (Nat.le_of_eq rfl) rfl rfl (by decide) (by decide) rfl own_d_jdk_56_method_3_code_45 rfl (fun v h1 hq => ?_)
  obtain ⟨r1, cR, rfl, hr1, K1, V_r1⟩ := hq
  refine Go.at (st' := [(.ref r1)]) rfl ?_
  have Sz1 := Nat.le_trans Sz K1.1
  have I_x1 := ins_keep I_x1 K1
  have I_y1 := ins_keep I_y1 K1
  refine OwnW.callS C (pc' := 53) (y := (⟨"java/util/List", "of", "([Ljava/lang/Object;)Ljava/util/List;"⟩ : MethodName)) (W := 0) (argsL := [(.ref r1)]) (rest := []) (hw _ (List.mem_of_getElem? (i := 160) rfl)) (hw _ (List.mem_of_getElem? (i := 161) rfl)) (hw _ (List.mem_of_getElem? (i := 42) rfl)) (hw _ (List.mem_of_getElem? (i := 162) rfl)) (by decide) (own_ofArr_2 l Z a0 hw r1 x1 y1 cR h1 n0 Sz1 V_r1 I_x1 I_y1) (K' := 2) (S' := 4) (by decide) (by decide) rfl own_pd___Ljava_lang_Object__Ljava_util_List_ rfl (Nat.le_of_eq rfl) rfl rfl (by decide) (by decide) rfl own_d_jdk_56_method_3_code_50 rfl (fun v h2 hq => ?_)
  obtain ⟨r, rfl, hr, KK, QQ⟩ := hq
  refine Go.at (st' := [(.ref r)]) rfl ?_
  have KH := K1.trans KK all0
  have hr := Nat.le_trans K1.1 hr
  exact OwnW.retA C rfl rfl rfl ⟨r, rfl, hr, KH, QQ⟩ (by decide) (by decide) own_d_jdk_56_method_3_code_53
set_option maxRecDepth 65536 in
set_option maxHeartbeats 40000000 in
theorem own_copyOf_2 (l : Launch) (Z : State) (a0 : Array Value) (hw : ∀ d ∈ tables_1, d.before a0 Z = true) (l1 b mr : Addr) (x1 y1 : Addr) (vs : List Value) (cO : ClassId) (h0 : Heap) (n0 : Nat) (Sz : n0 ≤ h0.size) (X_l1 : Exa Z h0 l1 "java/util/ArrayList") (F_elementData_l1 : Fld Z h0 l1 "java/util/ArrayList" "elementData" "[Ljava/lang/Object;" (.ref b)) (F_size_l1 : Fld Z h0 l1 "java/util/ArrayList" "size" "I" (.int 2)) (X_b : Exa Z h0 b "[Ljava/lang/Object;") (V_b : Arv Z h0 b cO (.object "java/lang/Object") 10 vs .null) (M : Mi Z "[Ljava/lang/Object;" mr) (hus : [.ref x1, .ref y1] = (List.range (2 : Int32).toNatClampNeg).map fun i => vs.getD ((0 : Int32).toNatClampNeg + i) .null) (I_x1 : Ins Z h0 x1 "java/lang/Object" true) (I_y1 : Ins Z h0 y1 "java/lang/Object" true) :
    Ctr l Z (⟨"java/util/List", "copyOf", "(Ljava/util/Collection;)Ljava/util/List;"⟩ : MethodName) jdk_40_method_48_code 1 (some (.object "java/util/List")) ({ frames := 7, cells := 2, slots := 4, locals := 89 } : Room) #[(.ref l1)] h0 n0 (fun v h => ∃ r, v = some (.ref r) ∧ h0.size ≤ r ∧ Keep h0 h [] ∧ Exa Z h r "java/util/ImmutableCollections$List12" ∧ Fld Z h r "java/util/ImmutableCollections$List12" "e0" "Ljava/lang/Object;" (.ref x1) ∧ Fld Z h r "java/util/ImmutableCollections$List12" "e1" "Ljava/lang/Object;" (.ref y1)) := by
  refine Ctr.of (plainFor_of_name own_pn_List) ?_
  intro p e s m below meth c C
  refine Go.frame (g' := mkF m 0 #[.val (.ref l1)] []) (by first | (simp [entryFrame, mkF, argsToLocals, Value.category]; done) | rfl) ?_
  refine OwnW.aloadN C (pc' := 1) own_d_jdk_40_method_48_code_0 rfl rfl rfl ?_
  refine OwnW.callS C (pc' := 4) (y := (⟨"java/util/ImmutableCollections", "listCopy", "(Ljava/util/Collection;)Ljava/util/List;"⟩ : MethodName)) (W := 0) (argsL := [(.ref l1)]) (rest := []) (hw _ (List.mem_of_getElem? (i := 44) rfl)) (hw _ (List.mem_of_getElem? (i := 45) rfl)) (hw _ (List.mem_of_getElem? (i := 46) rfl)) (hw _ (List.mem_of_getElem? (i := 47) rfl)) (by decide) (own_listCopy_2 l Z a0 hw l1 b mr x1 y1 vs cO h0 n0 Sz X_l1 F_elementData_l1 F_size_l1 X_b V_b M hus I_x1 I_y1) (K' := 2) (S' := 4) (by decide) (by decide) rfl own_pd__Ljava_util_Collection__Ljava_util_List_ rfl (Nat.le_of_eq rfl) rfl rfl (by decide) (by decide) rfl own_d_jdk_40_method_48_code_1 rfl (fun v h1 hq => ?_)
  obtain ⟨r, rfl, hr, KK, QQ⟩ := hq
  refine Go.at (st' := [(.ref r)]) rfl ?_
  exact OwnW.retA C rfl rfl rfl ⟨r, rfl, hr, KK, QQ⟩ (by decide) (by decide) own_d_jdk_40_method_48_code_4
set_option maxRecDepth 65536 in
set_option maxHeartbeats 40000000 in
theorem own_copy3_3 (l : Launch) (Z : State) (a0 : Array Value) (hw : ∀ d ∈ tables_1, d.before a0 Z = true) (b mr : Addr) (x1 y1 : Addr) (vs : List Value) (cO : ClassId) (h0 : Heap) (n0 : Nat) (Sz : n0 ≤ h0.size) (V_b : Arv Z h0 b cO (.object "java/lang/Object") 10 vs .null) (M : Mi Z "[Ljava/lang/Object;" mr) (hus : [.ref x1, .ref y1, .ref x1] = (List.range (3 : Int32).toNatClampNeg).map fun i => vs.getD ((0 : Int32).toNatClampNeg + i) .null) (I_x1 : Ins Z h0 x1 "java/lang/Object" true) (I_y1 : Ins Z h0 y1 "java/lang/Object" true) :
    Ctr l Z (⟨"java/util/Arrays", "copyOf", "([Ljava/lang/Object;ILjava/lang/Class;)[Ljava/lang/Object;"⟩ : MethodName) jdk_65_method_120_code 4 (some (.array (.object "java/lang/Object"))) ({ frames := 2, cells := 1, slots := 3, locals := 32 } : Room) #[(.ref b), (.int (3 : Int32)), (.ref mr)] h0 n0 (fun v h => ∃ (r : Addr) (cR : ClassId), v = some (.ref r) ∧ h0.size ≤ r ∧ Keep h0 h [] ∧ Arv Z h r cR (.object "java/lang/Object") (3 : Int32) [.ref x1, .ref y1, .ref x1] .null) := by
  refine Ctr.of (plainFor_of_name own_pn_Arrays) ?_
  intro p e s m below meth c C
  refine Go.frame (g' := mkF m 0 #[.val (.ref b), .val (.int (3 : Int32)), .val (.ref mr), .unset] []) (by first | (simp [entryFrame, mkF, argsToLocals, Value.category]; done) | rfl) ?_
  have KH := Keep.refl h0 []
  refine OwnW.aloadN C (pc' := 1) own_d_jdk_65_method_120_code_0 rfl rfl rfl ?_
  refine OwnW.ldcMi C (pc' := 3) (hw _ (List.mem_of_getElem? (i := 151) rfl)) M own_d_jdk_65_method_120_code_1 rfl ?_
  refine OwnW.acNe C (pcY := 13) (pcN := 6) rfl rfl own_d_jdk_65_method_120_code_3 (by decide) rfl rfl (fun hc3 => absurd rfl hc3) (fun hc3 => ?_)
  refine OwnW.iloadN C (pc' := 7) own_d_jdk_65_method_120_code_6 rfl rfl ?_
  refine OwnW.newR C (pc' := 10) (K' := 1) (S' := 3) (ad := "[Ljava/lang/Object;") (by decide +kernel) (hw _ (List.mem_of_getElem? (i := 152) rfl)) (hw _ (List.mem_of_getElem? (i := 128) rfl)) (cap := 3) (by decide) (by decide) (by decide) own_d_jdk_65_method_120_code_7 rfl rfl rfl (by decide) (by decide) (fun h1 b1 cA_b1 g1 E1 V_b1 X_b1 O_b1 => ?_)
  have ne_b_b1 : b ≠ b1 := Nat.ne_of_lt (Nat.lt_of_lt_of_eq V_b.lt g1.symm)
  have g_b1 : n0 ≤ b1 := Nat.le_trans Sz (Nat.le_of_eq g1.symm)
  have s_b1 : h0.size ≤ b1 := Nat.le_trans KH.1 (Nat.le_of_eq g1.symm)
  have KH := KH.ext E1
  have Sz := Nat.le_trans Sz E1.1
  have V_b := V_b.ext E1
  have V_b1 : Arv Z h1 b1 cA_b1 (.object "java/lang/Object") (3 : Int32) [.null, .null, .null] .null := V_b1.pad (pad_rep [] .null 3)
  have I_x1 := I_x1.ext E1
  have I_y1 := I_y1.ext E1
  refine OwnW.goto C (pc' := 24) own_d_jdk_65_method_120_code_10 (by decide) rfl ?_
  refine OwnW.astoreN C (pc' := 25) own_d_jdk_65_method_120_code_24 rfl rfl (l' := #[.val (.ref b), .val (.int (3 : Int32)), .val (.ref mr), .val (.ref b1)]) rfl ?_
  refine OwnW.aloadN C (pc' := 26) own_d_jdk_65_method_120_code_25 rfl rfl rfl ?_
  refine OwnW.iconst C (pc' := 27) own_d_jdk_65_method_120_code_26 rfl (z := 0) rfl ?_
  refine OwnW.aloadN C (pc' := 28) own_d_jdk_65_method_120_code_27 rfl rfl rfl ?_
  refine OwnW.iconst C (pc' := 29) own_d_jdk_65_method_120_code_28 rfl (z := 0) rfl ?_
  refine OwnW.aloadN C (pc' := 30) own_d_jdk_65_method_120_code_29 rfl rfl rfl ?_
  refine OwnW.alen C (pc' := 31) V_b own_d_jdk_65_method_120_code_30 rfl ?_
  refine OwnW.iloadN C (pc' := 32) own_d_jdk_65_method_120_code_31 rfl rfl ?_
  refine OwnW.callS C (pc' := 35) (y := (⟨"java/lang/Math", "min", "(II)I"⟩ : MethodName)) (W := 4) (argsL := [(.int (10 : Int32)), (.int (3 : Int32))]) (rest := [(.int (0 : Int32)), (.ref b1), (.int (0 : Int32)), (.ref b)]) (hw _ (List.mem_of_getElem? (i := 153) rfl)) (hw _ (List.mem_of_getElem? (i := 154) rfl)) (hw _ (List.mem_of_getElem? (i := 125) rfl)) (hw _ (List.mem_of_getElem? (i := 155) rfl)) (by decide) (own_minI l Z a0 hw 10 3 h1 n0) (K' := 1) (S' := 3) (by decide) (by decide) rfl own_pd__II_I rfl (Nat.le_of_eq rfl) rfl rfl (by decide) (by decide) rfl own_d_jdk_65_method_120_code_32 rfl (fun v h' hq => ?_)
  obtain ⟨rfl, hh⟩ := hq
  refine Go.at (st' := [(.int (if (3 : Int32) < 10 then (3 : Int32) else 10)), (.int (0 : Int32)), (.ref b1), (.int (0 : Int32)), (.ref b)]) rfl ?_
  refine Go.heap hh ?_
  rw [show (if (3 : Int32) < 10 then (3 : Int32) else 10) = 3 from rfl]
  refine OwnW.acopy C (pc' := 38) (us := [.ref x1, .ref y1, .ref x1]) (hw _ (List.mem_of_getElem? (i := 156) rfl)) (hw _ (List.mem_of_getElem? (i := 159) rfl)) (hw _ (List.mem_of_getElem? (i := 157) rfl)) (hw _ (List.mem_of_getElem? (i := 158) rfl)) V_b V_b1 (Or.inr ⟨rfl, rfl, ⟨sto_of V_b1 O_b1 I_x1, ⟨sto_of V_b1 O_b1 I_y1, ⟨sto_of V_b1 O_b1 I_x1, trivial⟩⟩⟩⟩) (by decide) (by decide) (by decide) (by decide) (by decide) hus (Nat.le_of_ble_eq_true rfl) g_b1 rfl (by decide) (W := 0) (Nat.le_of_eq rfl) (by decide +kernel) own_d_jdk_65_method_120_code_35 rfl (fun h2 KK V_b1 => ?_)
  have KH := KH.trans KK (allS (Or.inr s_b1) all0)
  have V_b1 : Arv Z h2 b1 cA_b1 (.object "java/lang/Object") (3 : Int32) [.ref x1, .ref y1, .ref x1] .null := V_b1
  refine OwnW.aloadN C (pc' := 39) own_d_jdk_65_method_120_code_38 rfl rfl rfl ?_
  exact OwnW.retA C rfl rfl rfl ⟨b1, cA_b1, rfl, s_b1, KH, V_b1⟩ (by decide) (by decide) own_d_jdk_65_method_120_code_39
set_option maxRecDepth 65536 in
set_option maxHeartbeats 40000000 in
theorem own_copy2_3 (l : Launch) (Z : State) (a0 : Array Value) (hw : ∀ d ∈ tables_1, d.before a0 Z = true) (b mr : Addr) (x1 y1 : Addr) (vs : List Value) (cO : ClassId) (h0 : Heap) (n0 : Nat) (Sz : n0 ≤ h0.size) (X_b : Exa Z h0 b "[Ljava/lang/Object;") (V_b : Arv Z h0 b cO (.object "java/lang/Object") 10 vs .null) (M : Mi Z "[Ljava/lang/Object;" mr) (hus : [.ref x1, .ref y1, .ref x1] = (List.range (3 : Int32).toNatClampNeg).map fun i => vs.getD ((0 : Int32).toNatClampNeg + i) .null) (I_x1 : Ins Z h0 x1 "java/lang/Object" true) (I_y1 : Ins Z h0 y1 "java/lang/Object" true) :
    Ctr l Z (⟨"java/util/Arrays", "copyOf", "([Ljava/lang/Object;I)[Ljava/lang/Object;"⟩ : MethodName) jdk_65_method_119_code 2 (some (.array (.object "java/lang/Object"))) ({ frames := 3, cells := 1, slots := 3, locals := 47 } : Room) #[(.ref b), (.int (3 : Int32))] h0 n0 (fun v h => ∃ (r : Addr) (cR : ClassId), v = some (.ref r) ∧ h0.size ≤ r ∧ Keep h0 h [] ∧ Arv Z h r cR (.object "java/lang/Object") (3 : Int32) [.ref x1, .ref y1, .ref x1] .null) := by
  refine Ctr.of (plainFor_of_name own_pn_Arrays) ?_
  intro p e s m below meth c C
  refine Go.frame (g' := mkF m 0 #[.val (.ref b), .val (.int (3 : Int32))] []) (by first | (simp [entryFrame, mkF, argsToLocals, Value.category]; done) | rfl) ?_
  refine OwnW.aloadN C (pc' := 1) own_d_jdk_65_method_119_code_0 rfl rfl rfl ?_
  refine OwnW.iloadN C (pc' := 2) own_d_jdk_65_method_119_code_1 rfl rfl ?_
  refine OwnW.aloadN C (pc' := 3) own_d_jdk_65_method_119_code_2 rfl rfl rfl ?_
  refine OwnW.getCls C (pc' := 6) (hw _ (List.mem_of_getElem? (i := 142) rfl)) (hw _ (List.mem_of_getElem? (i := 143) rfl)) (hw _ (List.mem_of_getElem? (i := 52) rfl)) (hw _ (List.mem_of_getElem? (i := 145) rfl)) (hw _ (List.mem_of_getElem? (i := 144) rfl)) (hw _ (List.mem_of_getElem? (i := 146) rfl)) X_b M rfl (by decide) (W := 2) (Nat.le_of_eq rfl) (by decide +kernel) own_d_jdk_65_method_119_code_3 rfl ?_
  refine OwnW.callS C (pc' := 9) (y := (⟨"java/util/Arrays", "copyOf", "([Ljava/lang/Object;ILjava/lang/Class;)[Ljava/lang/Object;"⟩ : MethodName)) (W := 0) (argsL := [(.ref b), (.int (3 : Int32)), (.ref mr)]) (rest := []) (hw _ (List.mem_of_getElem? (i := 148) rfl)) (hw _ (List.mem_of_getElem? (i := 149) rfl)) (hw _ (List.mem_of_getElem? (i := 140) rfl)) (hw _ (List.mem_of_getElem? (i := 150) rfl)) (by decide) (own_copy3_3 l Z a0 hw b mr x1 y1 vs cO h0 n0 Sz V_b M hus I_x1 I_y1) (K' := 1) (S' := 3) (by decide) (by decide) rfl own_pd___Ljava_lang_Object_ILjava_lang_Class___Ljava_lang_Object_ rfl (Nat.le_of_eq rfl) rfl rfl (by decide) (by decide) rfl own_d_jdk_65_method_119_code_6 rfl (fun v h1 hq => ?_)
  obtain ⟨r, cR, rfl, hr, KK, V⟩ := hq
  refine Go.at (st' := [(.ref r)]) rfl ?_
  exact OwnW.retA C rfl rfl rfl ⟨r, cR, rfl, hr, KK, V⟩ (by decide) (by decide) own_d_jdk_65_method_119_code_9
set_option maxRecDepth 65536 in
set_option maxHeartbeats 40000000 in
theorem own_toArray_3 (l : Launch) (Z : State) (a0 : Array Value) (hw : ∀ d ∈ tables_1, d.before a0 Z = true) (l1 : Addr) (b mr : Addr) (x1 y1 : Addr) (vs : List Value) (cO : ClassId) (h0 : Heap) (n0 : Nat) (F_elementData_l1 : Fld Z h0 l1 "java/util/ArrayList" "elementData" "[Ljava/lang/Object;" (.ref b)) (F_size_l1 : Fld Z h0 l1 "java/util/ArrayList" "size" "I" (.int 3)) (Sz : n0 ≤ h0.size) (X_b : Exa Z h0 b "[Ljava/lang/Object;") (V_b : Arv Z h0 b cO (.object "java/lang/Object") 10 vs .null) (M : Mi Z "[Ljava/lang/Object;" mr) (hus : [.ref x1, .ref y1, .ref x1] = (List.range (3 : Int32).toNatClampNeg).map fun i => vs.getD ((0 : Int32).toNatClampNeg + i) .null) (I_x1 : Ins Z h0 x1 "java/lang/Object" true) (I_y1 : Ins Z h0 y1 "java/lang/Object" true) :
    Ctr l Z (⟨"java/util/ArrayList", "toArray", "()[Ljava/lang/Object;"⟩ : MethodName) jdk_38_method_16_code 1 (some (.array (.object "java/lang/Object"))) ({ frames := 4, cells := 1, slots := 3, locals := 60 } : Room) #[(.ref l1)] h0 n0 (fun v h => ∃ (r : Addr) (cR : ClassId), v = some (.ref r) ∧ h0.size ≤ r ∧ Keep h0 h [] ∧ Arv Z h r cR (.object "java/lang/Object") (3 : Int32) [.ref x1, .ref y1, .ref x1] .null) := by
  refine Ctr.of (plainFor_of_name own_pn_ArrayList) ?_
  intro p e s m below meth c C
  refine Go.frame (g' := mkF m 0 #[.val (.ref l1)] []) (by first | (simp [entryFrame, mkF, argsToLocals, Value.category]; done) | rfl) ?_
  refine OwnW.aloadN C (pc' := 1) own_d_jdk_38_method_16_code_0 rfl rfl rfl ?_
  refine OwnW.getF C (pc' := 4) (host := "") (Or.inl (hw _ (List.mem_of_getElem? (i := 24) rfl))) Via.refl F_elementData_l1 own_d_jdk_38_method_16_code_1 rfl ?_
  refine OwnW.aloadN C (pc' := 5) own_d_jdk_38_method_16_code_4 rfl rfl rfl ?_
  refine OwnW.getF C (pc' := 8) (host := "") (Or.inl (hw _ (List.mem_of_getElem? (i := 63) rfl))) Via.refl F_size_l1 own_d_jdk_38_method_16_code_5 rfl ?_
  refine OwnW.callS C (pc' := 11) (y := (⟨"java/util/Arrays", "copyOf", "([Ljava/lang/Object;I)[Ljava/lang/Object;"⟩ : MethodName)) (W := 0) (argsL := [(.ref b), (.int (3 : Int32))]) (rest := []) (hw _ (List.mem_of_getElem? (i := 138) rfl)) (hw _ (List.mem_of_getElem? (i := 139) rfl)) (hw _ (List.mem_of_getElem? (i := 140) rfl)) (hw _ (List.mem_of_getElem? (i := 141) rfl)) (by decide) (own_copy2_3 l Z a0 hw b mr x1 y1 vs cO h0 n0 Sz X_b V_b M hus I_x1 I_y1) (K' := 1) (S' := 3) (by decide) (by decide) rfl own_pd___Ljava_lang_Object_I__Ljava_lang_Object_ rfl (Nat.le_of_eq rfl) rfl rfl (by decide) (by decide) rfl own_d_jdk_38_method_16_code_8 rfl (fun v h1 hq => ?_)
  obtain ⟨r, cR, rfl, hr, KK, V⟩ := hq
  refine Go.at (st' := [(.ref r)]) rfl ?_
  exact OwnW.retA C rfl rfl rfl ⟨r, cR, rfl, hr, KK, V⟩ (by decide) (by decide) own_d_jdk_38_method_16_code_11
set_option maxRecDepth 65536 in
set_option maxHeartbeats 40000000 in
theorem own_lfa_3 (l : Launch) (Z : State) (a0 : Array Value) (hw : ∀ d ∈ tables_1, d.before a0 Z = true) (r1 : Addr) (x1 y1 : Addr) (cR : ClassId) (h0 : Heap) (n0 : Nat) (Sz : n0 ≤ h0.size) (V_r1 : Arv Z h0 r1 cR (.object "java/lang/Object") (3 : Int32) [.ref x1, .ref y1, .ref x1] .null) (I_x1 : Ins Z h0 x1 "java/lang/Object" true) (I_y1 : Ins Z h0 y1 "java/lang/Object" true) :
    Ctr l Z (⟨"java/util/ImmutableCollections", "listFromArray", "([Ljava/lang/Object;)Ljava/util/List;"⟩ : MethodName) jdk_56_method_4_code 3 (some (.object "java/util/List")) ({ frames := 5, cells := 2, slots := 5, locals := 63 } : Room) #[(.ref r1)] h0 n0 (fun v h => ∃ r, v = some (.ref r) ∧ h0.size ≤ r ∧ Keep h0 h [] ∧ Exa Z h r "java/util/ImmutableCollections$ListN" ∧ ∃ (ar : Addr) (cR : ClassId), Fld Z h r "java/util/ImmutableCollections$ListN" "elements" "[Ljava/lang/Object;" (.ref ar) ∧ Arv Z h ar cR (.object "java/lang/Object") (3 : Int32) [.ref x1, .ref y1, .ref x1] .null) := by
  refine Ctr.of (plainFor_of_name own_pn_ImmutableCollections) ?_
  intro p e s m below meth c C
  refine Go.frame (g' := mkF m 0 #[.val (.ref r1), .unset, .unset] []) (by first | (simp [entryFrame, mkF, argsToLocals, Value.category]; done) | rfl) ?_
  have KH := Keep.refl h0 []
  refine OwnW.aloadN C (pc' := 1) own_d_jdk_56_method_4_code_0 rfl rfl rfl ?_
  refine OwnW.alen C (pc' := 2) V_r1 own_d_jdk_56_method_4_code_1 rfl ?_
  refine OwnW.newR C (pc' := 5) (K' := 1) (S' := 3) (ad := "[Ljava/lang/Object;") (by decide +kernel) (hw _ (List.mem_of_getElem? (i := 207) rfl)) (hw _ (List.mem_of_getElem? (i := 128) rfl)) (cap := 3) (by decide) (by decide) (by decide) own_d_jdk_56_method_4_code_2 rfl rfl rfl (by decide) (by decide) (fun h1 b1 cA_b1 g1 E1 V_b1 X_b1 O_b1 => ?_)
  have ne_r1_b1 : r1 ≠ b1 := Nat.ne_of_lt (Nat.lt_of_lt_of_eq V_r1.lt g1.symm)
  have g_b1 : n0 ≤ b1 := Nat.le_trans Sz (Nat.le_of_eq g1.symm)
  have s_b1 : h0.size ≤ b1 := Nat.le_trans KH.1 (Nat.le_of_eq g1.symm)
  have KH := KH.ext E1
  have Sz := Nat.le_trans Sz E1.1
  have V_r1 := V_r1.ext E1
  have V_b1 : Arv Z h1 b1 cA_b1 (.object "java/lang/Object") (3 : Int32) [.null, .null, .null] .null := V_b1.pad (pad_rep [] .null 3)
  have I_x1 := I_x1.ext E1
  have I_y1 := I_y1.ext E1
  refine OwnW.astoreN C (pc' := 6) own_d_jdk_56_method_4_code_5 rfl rfl (l' := #[.val (.ref r1), .val (.ref b1), .unset]) rfl ?_
  refine OwnW.iconst C (pc' := 7) own_d_jdk_56_method_4_code_6 rfl (z := 0) rfl ?_
  refine OwnW.istoreN C (pc' := 8) own_d_jdk_56_method_4_code_7 rfl (l' := #[.val (.ref r1), .val (.ref b1), .val (.int (0 : Int32))]) rfl ?_
  refine OwnW.iloadN C (pc' := 9) own_d_jdk_56_method_4_code_8 rfl rfl ?_
  refine OwnW.aloadN C (pc' := 10) own_d_jdk_56_method_4_code_9 rfl rfl rfl ?_
  refine OwnW.alen C (pc' := 11) V_r1 own_d_jdk_56_method_4_code_10 rfl ?_
  refine OwnW.icGe C (pcY := 29) (pcN := 14) own_d_jdk_56_method_4_code_11 (by decide) rfl rfl (fun hc11 => absurd (by decide) hc11) (fun hc11 => ?_)
  refine OwnW.aloadN C (pc' := 15) own_d_jdk_56_method_4_code_14 rfl rfl rfl ?_
  refine OwnW.iloadN C (pc' := 16) own_d_jdk_56_method_4_code_15 rfl rfl ?_
  refine OwnW.aloadN C (pc' := 17) own_d_jdk_56_method_4_code_16 rfl rfl rfl ?_
  refine OwnW.iloadN C (pc' := 18) own_d_jdk_56_method_4_code_17 rfl rfl ?_
  refine OwnW.aaload C (pc' := 19) V_r1 rfl ⟨by decide, by decide⟩ (v := (.ref x1)) rfl own_d_jdk_56_method_4_code_18 rfl ?_
  refine OwnW.callS C (pc' := 22) (y := (⟨"java/util/Objects", "requireNonNull", "(Ljava/lang/Object;)Ljava/lang/Object;"⟩ : MethodName)) (W := 2) (argsL := [(.ref x1)]) (rest := [(.int (0 : Int32)), (.ref b1)]) (hw _ (List.mem_of_getElem? (i := 208) rfl)) (hw _ (List.mem_of_getElem? (i := 185) rfl)) (hw _ (List.mem_of_getElem? (i := 186) rfl)) (hw _ (List.mem_of_getElem? (i := 187) rfl)) (by decide) (own_rnn l Z a0 hw x1 h1 n0) (K' := 1) (S' := 3) (by decide) (by decide) rfl own_pd__Ljava_lang_Object__Ljava_lang_Object_ rfl (Nat.le_of_eq rfl) rfl rfl (by decide) (by decide) rfl own_d_jdk_56_method_4_code_19 rfl (fun v h' hq => ?_)
  obtain ⟨rfl, hh⟩ := hq
  refine Go.at (st' := [(.ref x1), (.int (0 : Int32)), (.ref b1)]) rfl ?_
  refine Go.heap hh ?_
  refine OwnW.aastore C (pc' := 23) V_b1 rfl g_b1 ⟨by decide, by decide⟩ (k := 0) rfl (Nat.le_of_ble_eq_true rfl) (sto_of V_b1 O_b1 I_x1) rfl own_d_jdk_56_method_4_code_22 rfl (fun h2 W2 V_b1 => ?_)
  have V_b1 : Arv Z h2 b1 cA_b1 (.object "java/lang/Object") (3 : Int32) [(.ref x1), .null, .null] .null := V_b1
  have KH := KH.wr W2 (Or.inr s_b1)
  have Sz := Nat.le_trans Sz (Keep.of_wr W2).1
  have V_r1 := V_r1.other W2 ne_r1_b1
  have X_b1 := X_b1.wr W2
  have I_x1 := I_x1.wr W2
  have I_y1 := I_y1.wr W2
  refine OwnW.iinc C (pc' := 26) own_d_jdk_56_method_4_code_23 rfl rfl (l' := #[.val (.ref r1), .val (.ref b1), .val (.int (1 : Int32))]) rfl ?_
  refine OwnW.goto C (pc' := 8) own_d_jdk_56_method_4_code_26 (by decide) rfl ?_
  refine OwnW.iloadN C (pc' := 9) own_d_jdk_56_method_4_code_8 rfl rfl ?_
  refine OwnW.aloadN C (pc' := 10) own_d_jdk_56_method_4_code_9 rfl rfl rfl ?_
  refine OwnW.alen C (pc' := 11) V_r1 own_d_jdk_56_method_4_code_10 rfl ?_
  refine OwnW.icGe C (pcY := 29) (pcN := 14) own_d_jdk_56_method_4_code_11 (by decide) rfl rfl (fun hc11_1 => absurd (by decide) hc11_1) (fun hc11_1 => ?_)
  refine OwnW.aloadN C (pc' := 15) own_d_jdk_56_method_4_code_14 rfl rfl rfl ?_
  refine OwnW.iloadN C (pc' := 16) own_d_jdk_56_method_4_code_15 rfl rfl ?_
  refine OwnW.aloadN C (pc' := 17) own_d_jdk_56_method_4_code_16 rfl rfl rfl ?_
  refine OwnW.iloadN C (pc' := 18) own_d_jdk_56_method_4_code_17 rfl rfl ?_
  refine OwnW.aaload C (pc' := 19) V_r1 rfl ⟨by decide, by decide⟩ (v := (.ref y1)) rfl own_d_jdk_56_method_4_code_18 rfl ?_
  refine OwnW.callS C (pc' := 22) (y := (⟨"java/util/Objects", "requireNonNull", "(Ljava/lang/Object;)Ljava/lang/Object;"⟩ : MethodName)) (W := 2) (argsL := [(.ref y1)]) (rest := [(.int (1 : Int32)), (.ref b1)]) (hw _ (List.mem_of_getElem? (i := 208) rfl)) (hw _ (List.mem_of_getElem? (i := 185) rfl)) (hw _ (List.mem_of_getElem? (i := 186) rfl)) (hw _ (List.mem_of_getElem? (i := 187) rfl)) (by decide) (own_rnn l Z a0 hw y1 h2 n0) (K' := 1) (S' := 3) (by decide) (by decide) rfl own_pd__Ljava_lang_Object__Ljava_lang_Object_ rfl (Nat.le_of_eq rfl) rfl rfl (by decide) (by decide) rfl own_d_jdk_56_method_4_code_19 rfl (fun v h' hq => ?_)
  obtain ⟨rfl, hh⟩ := hq
  refine Go.at (st' := [(.ref y1), (.int (1 : Int32)), (.ref b1)]) rfl ?_
  refine Go.heap hh ?_
  refine OwnW.aastore C (pc' := 23) V_b1 rfl g_b1 ⟨by decide, by decide⟩ (k := 1) rfl (Nat.le_of_ble_eq_true rfl) (sto_of V_b1 O_b1 I_y1) rfl own_d_jdk_56_method_4_code_22 rfl (fun h3 W3 V_b1 => ?_)
  have V_b1 : Arv Z h3 b1 cA_b1 (.object "java/lang/Object") (3 : Int32) [(.ref x1), (.ref y1), .null] .null := V_b1
  have KH := KH.wr W3 (Or.inr s_b1)
  have Sz := Nat.le_trans Sz (Keep.of_wr W3).1
  have V_r1 := V_r1.other W3 ne_r1_b1
  have X_b1 := X_b1.wr W3
  have I_x1 := I_x1.wr W3
  have I_y1 := I_y1.wr W3
  refine OwnW.iinc C (pc' := 26) own_d_jdk_56_method_4_code_23 rfl rfl (l' := #[.val (.ref r1), .val (.ref b1), .val (.int (2 : Int32))]) rfl ?_
  refine OwnW.goto C (pc' := 8) own_d_jdk_56_method_4_code_26 (by decide) rfl ?_
  refine OwnW.iloadN C (pc' := 9) own_d_jdk_56_method_4_code_8 rfl rfl ?_
  refine OwnW.aloadN C (pc' := 10) own_d_jdk_56_method_4_code_9 rfl rfl rfl ?_
  refine OwnW.alen C (pc' := 11) V_r1 own_d_jdk_56_method_4_code_10 rfl ?_
  refine OwnW.icGe C (pcY := 29) (pcN := 14) own_d_jdk_56_method_4_code_11 (by decide) rfl rfl (fun hc11_2 => absurd (by decide) hc11_2) (fun hc11_2 => ?_)
  refine OwnW.aloadN C (pc' := 15) own_d_jdk_56_method_4_code_14 rfl rfl rfl ?_
  refine OwnW.iloadN C (pc' := 16) own_d_jdk_56_method_4_code_15 rfl rfl ?_
  refine OwnW.aloadN C (pc' := 17) own_d_jdk_56_method_4_code_16 rfl rfl rfl ?_
  refine OwnW.iloadN C (pc' := 18) own_d_jdk_56_method_4_code_17 rfl rfl ?_
  refine OwnW.aaload C (pc' := 19) V_r1 rfl ⟨by decide, by decide⟩ (v := (.ref x1)) rfl own_d_jdk_56_method_4_code_18 rfl ?_
  refine OwnW.callS C (pc' := 22) (y := (⟨"java/util/Objects", "requireNonNull", "(Ljava/lang/Object;)Ljava/lang/Object;"⟩ : MethodName)) (W := 2) (argsL := [(.ref x1)]) (rest := [(.int (2 : Int32)), (.ref b1)]) (hw _ (List.mem_of_getElem? (i := 208) rfl)) (hw _ (List.mem_of_getElem? (i := 185) rfl)) (hw _ (List.mem_of_getElem? (i := 186) rfl)) (hw _ (List.mem_of_getElem? (i := 187) rfl)) (by decide) (own_rnn l Z a0 hw x1 h3 n0) (K' := 1) (S' := 3) (by decide) (by decide) rfl own_pd__Ljava_lang_Object__Ljava_lang_Object_ rfl (Nat.le_of_eq rfl) rfl rfl (by decide) (by decide) rfl own_d_jdk_56_method_4_code_19 rfl (fun v h' hq => ?_)
  obtain ⟨rfl, hh⟩ := hq
  refine Go.at (st' := [(.ref x1), (.int (2 : Int32)), (.ref b1)]) rfl ?_
  refine Go.heap hh ?_
  refine OwnW.aastore C (pc' := 23) V_b1 rfl g_b1 ⟨by decide, by decide⟩ (k := 2) rfl (Nat.le_of_ble_eq_true rfl) (sto_of V_b1 O_b1 I_x1) rfl own_d_jdk_56_method_4_code_22 rfl (fun h4 W4 V_b1 => ?_)
  have V_b1 : Arv Z h4 b1 cA_b1 (.object "java/lang/Object") (3 : Int32) [(.ref x1), (.ref y1), (.ref x1)] .null := V_b1
  have KH := KH.wr W4 (Or.inr s_b1)
  have Sz := Nat.le_trans Sz (Keep.of_wr W4).1
  have V_r1 := V_r1.other W4 ne_r1_b1
  have X_b1 := X_b1.wr W4
  have I_x1 := I_x1.wr W4
  have I_y1 := I_y1.wr W4
  refine OwnW.iinc C (pc' := 26) own_d_jdk_56_method_4_code_23 rfl rfl (l' := #[.val (.ref r1), .val (.ref b1), .val (.int (3 : Int32))]) rfl ?_
  refine OwnW.goto C (pc' := 8) own_d_jdk_56_method_4_code_26 (by decide) rfl ?_
  refine OwnW.iloadN C (pc' := 9) own_d_jdk_56_method_4_code_8 rfl rfl ?_
  refine OwnW.aloadN C (pc' := 10) own_d_jdk_56_method_4_code_9 rfl rfl rfl ?_
  refine OwnW.alen C (pc' := 11) V_r1 own_d_jdk_56_method_4_code_10 rfl ?_
  refine OwnW.icGe C (pcY := 29) (pcN := 14) own_d_jdk_56_method_4_code_11 (by decide) rfl rfl (fun hc11_3 => ?_) (fun hc11_3 => absurd hc11_3 (by decide))
  refine OwnW.newO C (pc' := 32) (K' := 2) (S' := 5) (hw _ (List.mem_of_getElem? (i := 53) rfl)) (hw _ (List.mem_of_getElem? (i := 209) rfl)) (hw _ (List.mem_of_getElem? (i := 84) rfl)) own_d_jdk_56_method_4_code_29 rfl rfl rfl (by decide) (by decide) (fun h5 b5 g5 E5 X_b5 D5 => ?_)
  have ne_r1_b5 : r1 ≠ b5 := Nat.ne_of_lt (Nat.lt_of_lt_of_eq V_r1.lt g5.symm)
  have ne_b1_b5 : b1 ≠ b5 := Nat.ne_of_lt (Nat.lt_of_lt_of_eq X_b1.lt g5.symm)
  have g_b5 : n0 ≤ b5 := Nat.le_trans Sz (Nat.le_of_eq g5.symm)
  have s_b5 : h0.size ≤ b5 := Nat.le_trans KH.1 (Nat.le_of_eq g5.symm)
  have KH := KH.ext E5
  have Sz := Nat.le_trans Sz E5.1
  have V_r1 := V_r1.ext E5
  have X_b1 := X_b1.ext E5
  have V_b1 := V_b1.ext E5
  have F_elements_b5 : Fld Z h5 b5 "java/util/ImmutableCollections$ListN" "elements" "[Ljava/lang/Object;" .null := D5 (Or.inr (hw _ (List.mem_of_getElem? (i := 87) rfl))) (ty := (.array (.object "java/lang/Object"))) (by decide)
  have F_allowNulls_b5 : Fld Z h5 b5 "java/util/ImmutableCollections$ListN" "allowNulls" "Z" (.int (0 : Int32)) := D5 (Or.inr (hw _ (List.mem_of_getElem? (i := 219) rfl))) (ty := .boolean) (by decide)
  refine OwnW.dup C (pc' := 33) own_d_jdk_56_method_4_code_32 rfl rfl ?_
  refine OwnW.aloadN C (pc' := 34) own_d_jdk_56_method_4_code_33 rfl rfl rfl ?_
  refine OwnW.iconst C (pc' := 35) own_d_jdk_56_method_4_code_34 rfl (z := 0) rfl ?_
  refine OwnW.callXN C (pc' := 38) (y := (⟨"java/util/ImmutableCollections$ListN", "<init>", "([Ljava/lang/Object;Z)V"⟩ : MethodName)) (W := 1) (argsL := [(.ref b1), (.int (0 : Int32))]) (rest := [(.ref b5)]) rfl (hw _ (List.mem_of_getElem? (i := 210) rfl)) (hw _ (List.mem_of_getElem? (i := 211) rfl)) (hw _ (List.mem_of_getElem? (i := 84) rfl)) (hw _ (List.mem_of_getElem? (i := 213) rfl)) (by decide) (own_lninit l Z a0 hw b5 b1 h5 n0 X_b5 F_elements_b5 F_allowNulls_b5 g_b5) (K' := 2) (S' := 5) (by decide) (by decide) rfl own_pd___Ljava_lang_Object_Z_V rfl (Nat.le_of_eq rfl) rfl rfl (by decide) (by decide) rfl own_d_jdk_56_method_4_code_35 rfl (fun v h99 hq => ?_)
  obtain ⟨rfl, KK, FE⟩ := hq
  refine Go.at (st' := [(.ref b5)]) rfl ?_
  have KH := KH.trans KK (allS (Or.inr s_b5) all0)
  have X_b5 := X_b5.keep KK
  have V_b1 := V_b1.keep KK (ninS ne_b1_b5 nin0)
  exact OwnW.retA C rfl rfl rfl ⟨b5, rfl, s_b5, KH, X_b5, b1, cA_b1, FE, V_b1⟩ (by decide) (by decide) own_d_jdk_56_method_4_code_38
set_option maxRecDepth 65536 in
set_option maxHeartbeats 40000000 in
theorem own_ofArr_3 (l : Launch) (Z : State) (a0 : Array Value) (hw : ∀ d ∈ tables_1, d.before a0 Z = true) (r1 : Addr) (x1 y1 : Addr) (cR : ClassId) (h0 : Heap) (n0 : Nat) (Sz : n0 ≤ h0.size) (V_r1 : Arv Z h0 r1 cR (.object "java/lang/Object") (3 : Int32) [.ref x1, .ref y1, .ref x1] .null) (I_x1 : Ins Z h0 x1 "java/lang/Object" true) (I_y1 : Ins Z h0 y1 "java/lang/Object" true) :
    Ctr l Z (⟨"java/util/List", "of", "([Ljava/lang/Object;)Ljava/util/List;"⟩ : MethodName) jdk_40_method_47_code 2 (some (.object "java/util/List")) ({ frames := 6, cells := 2, slots := 5, locals := 77 } : Room) #[(.ref r1)] h0 n0 (fun v h => ∃ r, v = some (.ref r) ∧ h0.size ≤ r ∧ Keep h0 h [] ∧ Exa Z h r "java/util/ImmutableCollections$ListN" ∧ ∃ (ar : Addr) (cR : ClassId), Fld Z h r "java/util/ImmutableCollections$ListN" "elements" "[Ljava/lang/Object;" (.ref ar) ∧ Arv Z h ar cR (.object "java/lang/Object") (3 : Int32) [.ref x1, .ref y1, .ref x1] .null) := by
  refine Ctr.of (plainFor_of_name own_pn_List) ?_
  intro p e s m below meth c C
  refine Go.frame (g' := mkF m 0 #[.val (.ref r1), .unset] []) (by first | (simp [entryFrame, mkF, argsToLocals, Value.category]; done) | rfl) ?_
  have KH := Keep.refl h0 []
  refine OwnW.aloadN C (pc' := 1) own_d_jdk_40_method_47_code_0 rfl rfl rfl ?_
  refine OwnW.alen C (pc' := 2) V_r1 own_d_jdk_40_method_47_code_1 rfl ?_
  refine OwnW.tswD C (pc' := 59) own_d_jdk_40_method_47_code_2 (by decide) (by decide) rfl ?_
  refine OwnW.aloadN C (pc' := 60) own_d_jdk_40_method_47_code_59 rfl rfl rfl ?_
  refine OwnW.callS C (pc' := 63) (y := (⟨"java/util/ImmutableCollections", "listFromArray", "([Ljava/lang/Object;)Ljava/util/List;"⟩ : MethodName)) (W := 0) (argsL := [(.ref r1)]) (rest := []) (hw _ (List.mem_of_getElem? (i := 204) rfl)) (hw _ (List.mem_of_getElem? (i := 205) rfl)) (hw _ (List.mem_of_getElem? (i := 46) rfl)) (hw _ (List.mem_of_getElem? (i := 206) rfl)) (by decide) (own_lfa_3 l Z a0 hw r1 x1 y1 cR h0 n0 Sz V_r1 I_x1 I_y1) (K' := 2) (S' := 5) (by decide) (by decide) rfl own_pd___Ljava_lang_Object__Ljava_util_List_ rfl (Nat.le_of_eq rfl) rfl rfl (by decide) (by decide) rfl own_d_jdk_40_method_47_code_60 rfl (fun v h1 hq => ?_)
  obtain ⟨r, rfl, hr, KK, QQ⟩ := hq
  refine Go.at (st' := [(.ref r)]) rfl ?_
  exact OwnW.retA C rfl rfl rfl ⟨r, rfl, hr, KK, QQ⟩ (by decide) (by decide) own_d_jdk_40_method_47_code_63
set_option maxRecDepth 65536 in
set_option maxHeartbeats 40000000 in
theorem own_listCopy_3 (l : Launch) (Z : State) (a0 : Array Value) (hw : ∀ d ∈ tables_1, d.before a0 Z = true) (l1 b mr : Addr) (x1 y1 : Addr) (vs : List Value) (cO : ClassId) (h0 : Heap) (n0 : Nat) (Sz : n0 ≤ h0.size) (X_l1 : Exa Z h0 l1 "java/util/ArrayList") (F_elementData_l1 : Fld Z h0 l1 "java/util/ArrayList" "elementData" "[Ljava/lang/Object;" (.ref b)) (F_size_l1 : Fld Z h0 l1 "java/util/ArrayList" "size" "I" (.int 3)) (X_b : Exa Z h0 b "[Ljava/lang/Object;") (V_b : Arv Z h0 b cO (.object "java/lang/Object") 10 vs .null) (M : Mi Z "[Ljava/lang/Object;" mr) (hus : [.ref x1, .ref y1, .ref x1] = (List.range (3 : Int32).toNatClampNeg).map fun i => vs.getD ((0 : Int32).toNatClampNeg + i) .null) (I_x1 : Ins Z h0 x1 "java/lang/Object" true) (I_y1 : Ins Z h0 y1 "java/lang/Object" true) :
    Ctr l Z (⟨"java/util/ImmutableCollections", "listCopy", "(Ljava/util/Collection;)Ljava/util/List;"⟩ : MethodName) jdk_56_method_3_code 2 (some (.object "java/util/List")) ({ frames := 7, cells := 3, slots := 8, locals := 90 } : Room) #[(.ref l1)] h0 n0 (fun v h => ∃ r, v = some (.ref r) ∧ h0.size ≤ r ∧ Keep h0 h [] ∧ Exa Z h r "java/util/ImmutableCollections$ListN" ∧ ∃ (ar : Addr) (cR : ClassId), Fld Z h r "java/util/ImmutableCollections$ListN" "elements" "[Ljava/lang/Object;" (.ref ar) ∧ Arv Z h ar cR (.object "java/lang/Object") (3 : Int32) [.ref x1, .ref y1, .ref x1] .null) := by
  refine Ctr.of (plainFor_of_name own_pn_ImmutableCollections) ?_
  intro p e s m below meth c C
  refine Go.frame (g' := mkF m 0 #[.val (.ref l1), .unset] []) (by first | (simp [entryFrame, mkF, argsToLocals, Value.category]; done) | rfl) ?_
  refine OwnW.aloadN C (pc' := 1) own_d_jdk_56_method_3_code_0 rfl rfl rfl ?_
  refine OwnW.instNo C (pc' := 4) (hw _ (List.mem_of_getElem? (i := 48) rfl)) X_l1 (own_nsno (hw _ (List.mem_of_getElem? (i := 49) rfl)) (hw _ (List.mem_of_getElem? (i := 164) rfl)) (NS.step (hw _ (List.mem_of_getElem? (i := 49) rfl)) (NS.step (hw _ (List.mem_of_getElem? (i := 50) rfl)) (NS.step (hw _ (List.mem_of_getElem? (i := 51) rfl)) (own_nsroot (hw _ (List.mem_of_getElem? (i := 52) rfl)) (hw _ (List.mem_of_getElem? (i := 164) rfl)) (by decide)) (by decide)) (by decide)) (by decide)) (by decide)) own_d_jdk_56_method_3_code_1 rfl ?_
  refine OwnW.ifNe C (pcY := 26) (pcN := 7) own_d_jdk_56_method_3_code_4 (by decide) rfl rfl (fun hc4 => absurd rfl hc4) (fun hc4 => ?_)
  refine OwnW.aloadN C (pc' := 8) own_d_jdk_56_method_3_code_7 rfl rfl rfl ?_
  refine OwnW.instNo C (pc' := 11) (hw _ (List.mem_of_getElem? (i := 53) rfl)) X_l1 (own_nsno (hw _ (List.mem_of_getElem? (i := 49) rfl)) (hw _ (List.mem_of_getElem? (i := 209) rfl)) (NS.step (hw _ (List.mem_of_getElem? (i := 49) rfl)) (NS.step (hw _ (List.mem_of_getElem? (i := 50) rfl)) (NS.step (hw _ (List.mem_of_getElem? (i := 51) rfl)) (own_nsroot (hw _ (List.mem_of_getElem? (i := 52) rfl)) (hw _ (List.mem_of_getElem? (i := 209) rfl)) (by decide)) (by decide)) (by decide)) (by decide)) (by decide)) own_d_jdk_56_method_3_code_8 rfl ?_
  refine OwnW.ifEq C (pcY := 31) (pcN := 14) own_d_jdk_56_method_3_code_11 (by decide) rfl rfl (fun hc11 => ?_) (fun hc11 => absurd rfl hc11)
  refine OwnW.aloadN C (pc' := 32) own_d_jdk_56_method_3_code_31 rfl rfl rfl ?_
  refine OwnW.callI C (pc' := 37) (y := (⟨"java/util/Collection", "isEmpty", "()Z"⟩ : MethodName)) (z := (⟨"java/util/ArrayList", "isEmpty", "()Z"⟩ : MethodName)) (W := 0) (argsL := []) (rest := []) (hw _ (List.mem_of_getElem? (i := 54) rfl)) (hw _ (List.mem_of_getElem? (i := 55) rfl)) (hw _ (List.mem_of_getElem? (i := 56) rfl)) (by first | rfl | decide) (hw _ (List.mem_of_getElem? (i := 57) rfl)) (hw _ (List.mem_of_getElem? (i := 58) rfl)) (hw _ (List.mem_of_getElem? (i := 59) rfl)) (hw _ (List.mem_of_getElem? (i := 60) rfl)) (hw _ (List.mem_of_getElem? (i := 61) rfl)) (hw _ (List.mem_of_getElem? (i := 2) rfl)) (hw _ (List.mem_of_getElem? (i := 62) rfl)) X_l1 (by decide) (own_alEmpty l Z a0 hw l1 3 h0 n0 F_size_l1) (K' := 0) (S' := 0) (by decide) (by decide) rfl own_pd___Z rfl (Nat.le_of_eq rfl) rfl rfl (by decide) (by decide) rfl own_d_jdk_56_method_3_code_32 rfl (fun v h' hq => ?_)
  obtain ⟨rfl, hh⟩ := hq
  refine Go.at (st' := [(.int (if (3 : Int32) = 0 then (1 : Int32) else 0))]) rfl ?_
  refine Go.heap hh ?_
  refine OwnW.ifEq C (pcY := 44) (pcN := 40) own_d_jdk_56_method_3_code_37 (by decide) rfl rfl (fun hc37 => ?_) (fun hc37 => absurd rfl hc37)
  refine OwnW.aloadN C (pc' := 45) own_d_jdk_56_method_3_code_44 rfl rfl rfl ?_
  refine OwnW.callI C (pc' := 50) (y := (⟨"java/util/Collection", "toArray", "()[Ljava/lang/Object;"⟩ : MethodName)) (z := (⟨"java/util/ArrayList", "toArray", "()[Ljava/lang/Object;"⟩ : MethodName)) (W := 0) (argsL := []) (rest := []) (hw _ (List.mem_of_getElem? (i := 130) rfl)) (hw _ (List.mem_of_getElem? (i := 131) rfl)) (hw _ (List.mem_of_getElem? (i := 132) rfl)) (by first | rfl | decide) (hw _ (List.mem_of_getElem? (i := 133) rfl)) (hw _ (List.mem_of_getElem? (i := 134) rfl)) (hw _ (List.mem_of_getElem? (i := 135) rfl)) (hw _ (List.mem_of_getElem? (i := 136) rfl)) (hw _ (List.mem_of_getElem? (i := 61) rfl)) (hw _ (List.mem_of_getElem? (i := 2) rfl)) (hw _ (List.mem_of_getElem? (i := 137) rfl)) X_l1 (by decide) (own_toArray_3 l Z a0 hw l1 b mr x1 y1 vs cO h0 n0 F_elementData_l1 F_size_l1 Sz X_b V_b M hus I_x1 I_y1) (K' := 1) (S' := 3) (by decide) (by decide) rfl own_pd____Ljava_lang_Object_ rfl (Nat.le_of_eq rfl) rfl rfl (by decide) (by decide) rfl own_d_jdk_56_method_3_code_45 rfl (fun v h1 hq => ?_)
  obtain ⟨r1, cR, rfl, hr1, K1, V_r1⟩ := hq
  refine Go.at (st' := [(.ref r1)]) rfl ?_
  have Sz1 := Nat.le_trans Sz K1.1
  have I_x1 := ins_keep I_x1 K1
  have I_y1 := ins_keep I_y1 K1
  refine OwnW.callS C (pc' := 53) (y := (⟨"java/util/List", "of", "([Ljava/lang/Object;)Ljava/util/List;"⟩ : MethodName)) (W := 0) (argsL := [(.ref r1)]) (rest := []) (hw _ (List.mem_of_getElem? (i := 160) rfl)) (hw _ (List.mem_of_getElem? (i := 161) rfl)) (hw _ (List.mem_of_getElem? (i := 42) rfl)) (hw _ (List.mem_of_getElem? (i := 162) rfl)) (by decide) (own_ofArr_3 l Z a0 hw r1 x1 y1 cR h1 n0 Sz1 V_r1 I_x1 I_y1) (K' := 3) (S' := 8) (by decide) (by decide) rfl own_pd___Ljava_lang_Object__Ljava_util_List_ rfl (Nat.le_of_eq rfl) rfl rfl (by decide) (by decide) rfl own_d_jdk_56_method_3_code_50 rfl (fun v h2 hq => ?_)
  obtain ⟨r, rfl, hr, KK, QQ⟩ := hq
  refine Go.at (st' := [(.ref r)]) rfl ?_
  have KH := K1.trans KK all0
  have hr := Nat.le_trans K1.1 hr
  exact OwnW.retA C rfl rfl rfl ⟨r, rfl, hr, KH, QQ⟩ (by decide) (by decide) own_d_jdk_56_method_3_code_53
set_option maxRecDepth 65536 in
set_option maxHeartbeats 40000000 in
theorem own_copyOf_3 (l : Launch) (Z : State) (a0 : Array Value) (hw : ∀ d ∈ tables_1, d.before a0 Z = true) (l1 b mr : Addr) (x1 y1 : Addr) (vs : List Value) (cO : ClassId) (h0 : Heap) (n0 : Nat) (Sz : n0 ≤ h0.size) (X_l1 : Exa Z h0 l1 "java/util/ArrayList") (F_elementData_l1 : Fld Z h0 l1 "java/util/ArrayList" "elementData" "[Ljava/lang/Object;" (.ref b)) (F_size_l1 : Fld Z h0 l1 "java/util/ArrayList" "size" "I" (.int 3)) (X_b : Exa Z h0 b "[Ljava/lang/Object;") (V_b : Arv Z h0 b cO (.object "java/lang/Object") 10 vs .null) (M : Mi Z "[Ljava/lang/Object;" mr) (hus : [.ref x1, .ref y1, .ref x1] = (List.range (3 : Int32).toNatClampNeg).map fun i => vs.getD ((0 : Int32).toNatClampNeg + i) .null) (I_x1 : Ins Z h0 x1 "java/lang/Object" true) (I_y1 : Ins Z h0 y1 "java/lang/Object" true) :
    Ctr l Z (⟨"java/util/List", "copyOf", "(Ljava/util/Collection;)Ljava/util/List;"⟩ : MethodName) jdk_40_method_48_code 1 (some (.object "java/util/List")) ({ frames := 8, cells := 3, slots := 8, locals := 103 } : Room) #[(.ref l1)] h0 n0 (fun v h => ∃ r, v = some (.ref r) ∧ h0.size ≤ r ∧ Keep h0 h [] ∧ Exa Z h r "java/util/ImmutableCollections$ListN" ∧ ∃ (ar : Addr) (cR : ClassId), Fld Z h r "java/util/ImmutableCollections$ListN" "elements" "[Ljava/lang/Object;" (.ref ar) ∧ Arv Z h ar cR (.object "java/lang/Object") (3 : Int32) [.ref x1, .ref y1, .ref x1] .null) := by
  refine Ctr.of (plainFor_of_name own_pn_List) ?_
  intro p e s m below meth c C
  refine Go.frame (g' := mkF m 0 #[.val (.ref l1)] []) (by first | (simp [entryFrame, mkF, argsToLocals, Value.category]; done) | rfl) ?_
  refine OwnW.aloadN C (pc' := 1) own_d_jdk_40_method_48_code_0 rfl rfl rfl ?_
  refine OwnW.callS C (pc' := 4) (y := (⟨"java/util/ImmutableCollections", "listCopy", "(Ljava/util/Collection;)Ljava/util/List;"⟩ : MethodName)) (W := 0) (argsL := [(.ref l1)]) (rest := []) (hw _ (List.mem_of_getElem? (i := 44) rfl)) (hw _ (List.mem_of_getElem? (i := 45) rfl)) (hw _ (List.mem_of_getElem? (i := 46) rfl)) (hw _ (List.mem_of_getElem? (i := 47) rfl)) (by decide) (own_listCopy_3 l Z a0 hw l1 b mr x1 y1 vs cO h0 n0 Sz X_l1 F_elementData_l1 F_size_l1 X_b V_b M hus I_x1 I_y1) (K' := 3) (S' := 8) (by decide) (by decide) rfl own_pd__Ljava_util_Collection__Ljava_util_List_ rfl (Nat.le_of_eq rfl) rfl rfl (by decide) (by decide) rfl own_d_jdk_40_method_48_code_1 rfl (fun v h1 hq => ?_)
  obtain ⟨r, rfl, hr, KK, QQ⟩ := hq
  refine Go.at (st' := [(.ref r)]) rfl ?_
  exact OwnW.retA C rfl rfl rfl ⟨r, rfl, hr, KK, QQ⟩ (by decide) (by decide) own_d_jdk_40_method_48_code_4
set_option maxRecDepth 65536 in
set_option maxHeartbeats 40000000 in
theorem own_copy3_4 (l : Launch) (Z : State) (a0 : Array Value) (hw : ∀ d ∈ tables_1, d.before a0 Z = true) (b mr : Addr) (x1 y1 : Addr) (vs : List Value) (cO : ClassId) (h0 : Heap) (n0 : Nat) (Sz : n0 ≤ h0.size) (V_b : Arv Z h0 b cO (.object "java/lang/Object") 10 vs .null) (M : Mi Z "[Ljava/lang/Object;" mr) (hus : [.ref x1, .ref y1, .ref x1, .ref y1] = (List.range (4 : Int32).toNatClampNeg).map fun i => vs.getD ((0 : Int32).toNatClampNeg + i) .null) (I_x1 : Ins Z h0 x1 "java/lang/Object" true) (I_y1 : Ins Z h0 y1 "java/lang/Object" true) :
    Ctr l Z (⟨"java/util/Arrays", "copyOf", "([Ljava/lang/Object;ILjava/lang/Class;)[Ljava/lang/Object;"⟩ : MethodName) jdk_65_method_120_code 4 (some (.array (.object "java/lang/Object"))) ({ frames := 2, cells := 1, slots := 4, locals := 32 } : Room) #[(.ref b), (.int (4 : Int32)), (.ref mr)] h0 n0 (fun v h => ∃ (r : Addr) (cR : ClassId), v = some (.ref r) ∧ h0.size ≤ r ∧ Keep h0 h [] ∧ Arv Z h r cR (.object "java/lang/Object") (4 : Int32) [.ref x1, .ref y1, .ref x1, .ref y1] .null) := by
  refine Ctr.of (plainFor_of_name own_pn_Arrays) ?_
  intro p e s m below meth c C
  refine Go.frame (g' := mkF m 0 #[.val (.ref b), .val (.int (4 : Int32)), .val (.ref mr), .unset] []) (by first | (simp [entryFrame, mkF, argsToLocals, Value.category]; done) | rfl) ?_
  have KH := Keep.refl h0 []
  refine OwnW.aloadN C (pc' := 1) own_d_jdk_65_method_120_code_0 rfl rfl rfl ?_
  refine OwnW.ldcMi C (pc' := 3) (hw _ (List.mem_of_getElem? (i := 151) rfl)) M own_d_jdk_65_method_120_code_1 rfl ?_
  refine OwnW.acNe C (pcY := 13) (pcN := 6) rfl rfl own_d_jdk_65_method_120_code_3 (by decide) rfl rfl (fun hc3 => absurd rfl hc3) (fun hc3 => ?_)
  refine OwnW.iloadN C (pc' := 7) own_d_jdk_65_method_120_code_6 rfl rfl ?_
  refine OwnW.newR C (pc' := 10) (K' := 1) (S' := 4) (ad := "[Ljava/lang/Object;") (by decide +kernel) (hw _ (List.mem_of_getElem? (i := 152) rfl)) (hw _ (List.mem_of_getElem? (i := 128) rfl)) (cap := 4) (by decide) (by decide) (by decide) own_d_jdk_65_method_120_code_7 rfl rfl rfl (by decide) (by decide) (fun h1 b1 cA_b1 g1 E1 V_b1 X_b1 O_b1 => ?_)
  have ne_b_b1 : b ≠ b1 := Nat.ne_of_lt (Nat.lt_of_lt_of_eq V_b.lt g1.symm)
  have g_b1 : n0 ≤ b1 := Nat.le_trans Sz (Nat.le_of_eq g1.symm)
  have s_b1 : h0.size ≤ b1 := Nat.le_trans KH.1 (Nat.le_of_eq g1.symm)
  have KH := KH.ext E1
  have Sz := Nat.le_trans Sz E1.1
  have V_b := V_b.ext E1
  have V_b1 : Arv Z h1 b1 cA_b1 (.object "java/lang/Object") (4 : Int32) [.null, .null, .null, .null] .null := V_b1.pad (pad_rep [] .null 4)
  have I_x1 := I_x1.ext E1
  have I_y1 := I_y1.ext E1
  refine OwnW.goto C (pc' := 24) own_d_jdk_65_method_120_code_10 (by decide) rfl ?_
  refine OwnW.astoreN C (pc' := 25) own_d_jdk_65_method_120_code_24 rfl rfl (l' := #[.val (.ref b), .val (.int (4 : Int32)), .val (.ref mr), .val (.ref b1)]) rfl ?_
  refine OwnW.aloadN C (pc' := 26) own_d_jdk_65_method_120_code_25 rfl rfl rfl ?_
  refine OwnW.iconst C (pc' := 27) own_d_jdk_65_method_120_code_26 rfl (z := 0) rfl ?_
  refine OwnW.aloadN C (pc' := 28) own_d_jdk_65_method_120_code_27 rfl rfl rfl ?_
  refine OwnW.iconst C (pc' := 29) own_d_jdk_65_method_120_code_28 rfl (z := 0) rfl ?_
  refine OwnW.aloadN C (pc' := 30) own_d_jdk_65_method_120_code_29 rfl rfl rfl ?_
  refine OwnW.alen C (pc' := 31) V_b own_d_jdk_65_method_120_code_30 rfl ?_
  refine OwnW.iloadN C (pc' := 32) own_d_jdk_65_method_120_code_31 rfl rfl ?_
  refine OwnW.callS C (pc' := 35) (y := (⟨"java/lang/Math", "min", "(II)I"⟩ : MethodName)) (W := 4) (argsL := [(.int (10 : Int32)), (.int (4 : Int32))]) (rest := [(.int (0 : Int32)), (.ref b1), (.int (0 : Int32)), (.ref b)]) (hw _ (List.mem_of_getElem? (i := 153) rfl)) (hw _ (List.mem_of_getElem? (i := 154) rfl)) (hw _ (List.mem_of_getElem? (i := 125) rfl)) (hw _ (List.mem_of_getElem? (i := 155) rfl)) (by decide) (own_minI l Z a0 hw 10 4 h1 n0) (K' := 1) (S' := 4) (by decide) (by decide) rfl own_pd__II_I rfl (Nat.le_of_eq rfl) rfl rfl (by decide) (by decide) rfl own_d_jdk_65_method_120_code_32 rfl (fun v h' hq => ?_)
  obtain ⟨rfl, hh⟩ := hq
  refine Go.at (st' := [(.int (if (4 : Int32) < 10 then (4 : Int32) else 10)), (.int (0 : Int32)), (.ref b1), (.int (0 : Int32)), (.ref b)]) rfl ?_
  refine Go.heap hh ?_
  rw [show (if (4 : Int32) < 10 then (4 : Int32) else 10) = 4 from rfl]
  refine OwnW.acopy C (pc' := 38) (us := [.ref x1, .ref y1, .ref x1, .ref y1]) (hw _ (List.mem_of_getElem? (i := 156) rfl)) (hw _ (List.mem_of_getElem? (i := 159) rfl)) (hw _ (List.mem_of_getElem? (i := 157) rfl)) (hw _ (List.mem_of_getElem? (i := 158) rfl)) V_b V_b1 (Or.inr ⟨rfl, rfl, ⟨sto_of V_b1 O_b1 I_x1, ⟨sto_of V_b1 O_b1 I_y1, ⟨sto_of V_b1 O_b1 I_x1, ⟨sto_of V_b1 O_b1 I_y1, trivial⟩⟩⟩⟩⟩) (by decide) (by decide) (by decide) (by decide) (by decide) hus (Nat.le_of_ble_eq_true rfl) g_b1 rfl (by decide) (W := 0) (Nat.le_of_eq rfl) (by decide +kernel) own_d_jdk_65_method_120_code_35 rfl (fun h2 KK V_b1 => ?_)
  have KH := KH.trans KK (allS (Or.inr s_b1) all0)
  have V_b1 : Arv Z h2 b1 cA_b1 (.object "java/lang/Object") (4 : Int32) [.ref x1, .ref y1, .ref x1, .ref y1] .null := V_b1
  refine OwnW.aloadN C (pc' := 39) own_d_jdk_65_method_120_code_38 rfl rfl rfl ?_
  exact OwnW.retA C rfl rfl rfl ⟨b1, cA_b1, rfl, s_b1, KH, V_b1⟩ (by decide) (by decide) own_d_jdk_65_method_120_code_39
set_option maxRecDepth 65536 in
set_option maxHeartbeats 40000000 in
theorem own_copy2_4 (l : Launch) (Z : State) (a0 : Array Value) (hw : ∀ d ∈ tables_1, d.before a0 Z = true) (b mr : Addr) (x1 y1 : Addr) (vs : List Value) (cO : ClassId) (h0 : Heap) (n0 : Nat) (Sz : n0 ≤ h0.size) (X_b : Exa Z h0 b "[Ljava/lang/Object;") (V_b : Arv Z h0 b cO (.object "java/lang/Object") 10 vs .null) (M : Mi Z "[Ljava/lang/Object;" mr) (hus : [.ref x1, .ref y1, .ref x1, .ref y1] = (List.range (4 : Int32).toNatClampNeg).map fun i => vs.getD ((0 : Int32).toNatClampNeg + i) .null) (I_x1 : Ins Z h0 x1 "java/lang/Object" true) (I_y1 : Ins Z h0 y1 "java/lang/Object" true) :
    Ctr l Z (⟨"java/util/Arrays", "copyOf", "([Ljava/lang/Object;I)[Ljava/lang/Object;"⟩ : MethodName) jdk_65_method_119_code 2 (some (.array (.object "java/lang/Object"))) ({ frames := 3, cells := 1, slots := 4, locals := 47 } : Room) #[(.ref b), (.int (4 : Int32))] h0 n0 (fun v h => ∃ (r : Addr) (cR : ClassId), v = some (.ref r) ∧ h0.size ≤ r ∧ Keep h0 h [] ∧ Arv Z h r cR (.object "java/lang/Object") (4 : Int32) [.ref x1, .ref y1, .ref x1, .ref y1] .null) := by
  refine Ctr.of (plainFor_of_name own_pn_Arrays) ?_
  intro p e s m below meth c C
  refine Go.frame (g' := mkF m 0 #[.val (.ref b), .val (.int (4 : Int32))] []) (by first | (simp [entryFrame, mkF, argsToLocals, Value.category]; done) | rfl) ?_
  refine OwnW.aloadN C (pc' := 1) own_d_jdk_65_method_119_code_0 rfl rfl rfl ?_
  refine OwnW.iloadN C (pc' := 2) own_d_jdk_65_method_119_code_1 rfl rfl ?_
  refine OwnW.aloadN C (pc' := 3) own_d_jdk_65_method_119_code_2 rfl rfl rfl ?_
  refine OwnW.getCls C (pc' := 6) (hw _ (List.mem_of_getElem? (i := 142) rfl)) (hw _ (List.mem_of_getElem? (i := 143) rfl)) (hw _ (List.mem_of_getElem? (i := 52) rfl)) (hw _ (List.mem_of_getElem? (i := 145) rfl)) (hw _ (List.mem_of_getElem? (i := 144) rfl)) (hw _ (List.mem_of_getElem? (i := 146) rfl)) X_b M rfl (by decide) (W := 2) (Nat.le_of_eq rfl) (by decide +kernel) own_d_jdk_65_method_119_code_3 rfl ?_
  refine OwnW.callS C (pc' := 9) (y := (⟨"java/util/Arrays", "copyOf", "([Ljava/lang/Object;ILjava/lang/Class;)[Ljava/lang/Object;"⟩ : MethodName)) (W := 0) (argsL := [(.ref b), (.int (4 : Int32)), (.ref mr)]) (rest := []) (hw _ (List.mem_of_getElem? (i := 148) rfl)) (hw _ (List.mem_of_getElem? (i := 149) rfl)) (hw _ (List.mem_of_getElem? (i := 140) rfl)) (hw _ (List.mem_of_getElem? (i := 150) rfl)) (by decide) (own_copy3_4 l Z a0 hw b mr x1 y1 vs cO h0 n0 Sz V_b M hus I_x1 I_y1) (K' := 1) (S' := 4) (by decide) (by decide) rfl own_pd___Ljava_lang_Object_ILjava_lang_Class___Ljava_lang_Object_ rfl (Nat.le_of_eq rfl) rfl rfl (by decide) (by decide) rfl own_d_jdk_65_method_119_code_6 rfl (fun v h1 hq => ?_)
  obtain ⟨r, cR, rfl, hr, KK, V⟩ := hq
  refine Go.at (st' := [(.ref r)]) rfl ?_
  exact OwnW.retA C rfl rfl rfl ⟨r, cR, rfl, hr, KK, V⟩ (by decide) (by decide) own_d_jdk_65_method_119_code_9
set_option maxRecDepth 65536 in
set_option maxHeartbeats 40000000 in
theorem own_toArray_4 (l : Launch) (Z : State) (a0 : Array Value) (hw : ∀ d ∈ tables_1, d.before a0 Z = true) (l1 : Addr) (b mr : Addr) (x1 y1 : Addr) (vs : List Value) (cO : ClassId) (h0 : Heap) (n0 : Nat) (F_elementData_l1 : Fld Z h0 l1 "java/util/ArrayList" "elementData" "[Ljava/lang/Object;" (.ref b)) (F_size_l1 : Fld Z h0 l1 "java/util/ArrayList" "size" "I" (.int 4)) (Sz : n0 ≤ h0.size) (X_b : Exa Z h0 b "[Ljava/lang/Object;") (V_b : Arv Z h0 b cO (.object "java/lang/Object") 10 vs .null) (M : Mi Z "[Ljava/lang/Object;" mr) (hus : [.ref x1, .ref y1, .ref x1, .ref y1] = (List.range (4 : Int32).toNatClampNeg).map fun i => vs.getD ((0 : Int32).toNatClampNeg + i) .null) (I_x1 : Ins Z h0 x1 "java/lang/Object" true) (I_y1 : Ins Z h0 y1 "java/lang/Object" true) :
    Ctr l Z (⟨"java/util/ArrayList", "toArray", "()[Ljava/lang/Object;"⟩ : MethodName) jdk_38_method_16_code 1 (some (.array (.object "java/lang/Object"))) ({ frames := 4, cells := 1, slots := 4, locals := 60 } : Room) #[(.ref l1)] h0 n0 (fun v h => ∃ (r : Addr) (cR : ClassId), v = some (.ref r) ∧ h0.size ≤ r ∧ Keep h0 h [] ∧ Arv Z h r cR (.object "java/lang/Object") (4 : Int32) [.ref x1, .ref y1, .ref x1, .ref y1] .null) := by
  refine Ctr.of (plainFor_of_name own_pn_ArrayList) ?_
  intro p e s m below meth c C
  refine Go.frame (g' := mkF m 0 #[.val (.ref l1)] []) (by first | (simp [entryFrame, mkF, argsToLocals, Value.category]; done) | rfl) ?_
  refine OwnW.aloadN C (pc' := 1) own_d_jdk_38_method_16_code_0 rfl rfl rfl ?_
  refine OwnW.getF C (pc' := 4) (host := "") (Or.inl (hw _ (List.mem_of_getElem? (i := 24) rfl))) Via.refl F_elementData_l1 own_d_jdk_38_method_16_code_1 rfl ?_
  refine OwnW.aloadN C (pc' := 5) own_d_jdk_38_method_16_code_4 rfl rfl rfl ?_
  refine OwnW.getF C (pc' := 8) (host := "") (Or.inl (hw _ (List.mem_of_getElem? (i := 63) rfl))) Via.refl F_size_l1 own_d_jdk_38_method_16_code_5 rfl ?_
  refine OwnW.callS C (pc' := 11) (y := (⟨"java/util/Arrays", "copyOf", "([Ljava/lang/Object;I)[Ljava/lang/Object;"⟩ : MethodName)) (W := 0) (argsL := [(.ref b), (.int (4 : Int32))]) (rest := []) (hw _ (List.mem_of_getElem? (i := 138) rfl)) (hw _ (List.mem_of_getElem? (i := 139) rfl)) (hw _ (List.mem_of_getElem? (i := 140) rfl)) (hw _ (List.mem_of_getElem? (i := 141) rfl)) (by decide) (own_copy2_4 l Z a0 hw b mr x1 y1 vs cO h0 n0 Sz X_b V_b M hus I_x1 I_y1) (K' := 1) (S' := 4) (by decide) (by decide) rfl own_pd___Ljava_lang_Object_I__Ljava_lang_Object_ rfl (Nat.le_of_eq rfl) rfl rfl (by decide) (by decide) rfl own_d_jdk_38_method_16_code_8 rfl (fun v h1 hq => ?_)
  obtain ⟨r, cR, rfl, hr, KK, V⟩ := hq
  refine Go.at (st' := [(.ref r)]) rfl ?_
  exact OwnW.retA C rfl rfl rfl ⟨r, cR, rfl, hr, KK, V⟩ (by decide) (by decide) own_d_jdk_38_method_16_code_11
set_option maxRecDepth 65536 in
set_option maxHeartbeats 40000000 in
theorem own_lfa_4 (l : Launch) (Z : State) (a0 : Array Value) (hw : ∀ d ∈ tables_1, d.before a0 Z = true) (r1 : Addr) (x1 y1 : Addr) (cR : ClassId) (h0 : Heap) (n0 : Nat) (Sz : n0 ≤ h0.size) (V_r1 : Arv Z h0 r1 cR (.object "java/lang/Object") (4 : Int32) [.ref x1, .ref y1, .ref x1, .ref y1] .null) (I_x1 : Ins Z h0 x1 "java/lang/Object" true) (I_y1 : Ins Z h0 y1 "java/lang/Object" true) :
    Ctr l Z (⟨"java/util/ImmutableCollections", "listFromArray", "([Ljava/lang/Object;)Ljava/util/List;"⟩ : MethodName) jdk_56_method_4_code 3 (some (.object "java/util/List")) ({ frames := 5, cells := 2, slots := 6, locals := 63 } : Room) #[(.ref r1)] h0 n0 (fun v h => ∃ r, v = some (.ref r) ∧ h0.size ≤ r ∧ Keep h0 h [] ∧ Exa Z h r "java/util/ImmutableCollections$ListN" ∧ ∃ (ar : Addr) (cR : ClassId), Fld Z h r "java/util/ImmutableCollections$ListN" "elements" "[Ljava/lang/Object;" (.ref ar) ∧ Arv Z h ar cR (.object "java/lang/Object") (4 : Int32) [.ref x1, .ref y1, .ref x1, .ref y1] .null) := by
  refine Ctr.of (plainFor_of_name own_pn_ImmutableCollections) ?_
  intro p e s m below meth c C
  refine Go.frame (g' := mkF m 0 #[.val (.ref r1), .unset, .unset] []) (by first | (simp [entryFrame, mkF, argsToLocals, Value.category]; done) | rfl) ?_
  have KH := Keep.refl h0 []
  refine OwnW.aloadN C (pc' := 1) own_d_jdk_56_method_4_code_0 rfl rfl rfl ?_
  refine OwnW.alen C (pc' := 2) V_r1 own_d_jdk_56_method_4_code_1 rfl ?_
  refine OwnW.newR C (pc' := 5) (K' := 1) (S' := 4) (ad := "[Ljava/lang/Object;") (by decide +kernel) (hw _ (List.mem_of_getElem? (i := 207) rfl)) (hw _ (List.mem_of_getElem? (i := 128) rfl)) (cap := 4) (by decide) (by decide) (by decide) own_d_jdk_56_method_4_code_2 rfl rfl rfl (by decide) (by decide) (fun h1 b1 cA_b1 g1 E1 V_b1 X_b1 O_b1 => ?_)
  have ne_r1_b1 : r1 ≠ b1 := Nat.ne_of_lt (Nat.lt_of_lt_of_eq V_r1.lt g1.symm)
  have g_b1 : n0 ≤ b1 := Nat.le_trans Sz (Nat.le_of_eq g1.symm)
  have s_b1 : h0.size ≤ b1 := Nat.le_trans KH.1 (Nat.le_of_eq g1.symm)
  have KH := KH.ext E1
  have Sz := Nat.le_trans Sz E1.1
  have V_r1 := V_r1.ext E1
  have V_b1 : Arv Z h1 b1 cA_b1 (.object "java/lang/Object") (4 : Int32) [.null, .null, .null, .null] .null := V_b1.pad (pad_rep [] .null 4)
  have I_x1 := I_x1.ext E1
  have I_y1 := I_y1.ext E1
  refine OwnW.astoreN C (pc' := 6) own_d_jdk_56_method_4_code_5 rfl rfl (l' := #[.val (.ref r1), .val (.ref b1), .unset]) rfl ?_
  refine OwnW.iconst C (pc' := 7) own_d_jdk_56_method_4_code_6 rfl (z := 0) rfl ?_
  refine OwnW.istoreN C (pc' := 8) own_d_jdk_56_method_4_code_7 rfl (l' := #[.val (.ref r1), .val (.ref b1), .val (.int (0 : Int32))]) rfl ?_
  refine OwnW.iloadN C (pc' := 9) own_d_jdk_56_method_4_code_8 rfl rfl ?_
  refine OwnW.aloadN C (pc' := 10) own_d_jdk_56_method_4_code_9 rfl rfl rfl ?_
  refine OwnW.alen C (pc' := 11) V_r1 own_d_jdk_56_method_4_code_10 rfl ?_
  refine OwnW.icGe C (pcY := 29) (pcN := 14) own_d_jdk_56_method_4_code_11 (by decide) rfl rfl (fun hc11 => absurd (by decide) hc11) (fun hc11 => ?_)
  refine OwnW.aloadN C (pc' := 15) own_d_jdk_56_method_4_code_14 rfl rfl rfl ?_
  refine OwnW.iloadN C (pc' := 16) own_d_jdk_56_method_4_code_15 rfl rfl ?_
  refine OwnW.aloadN C (pc' := 17) own_d_jdk_56_method_4_code_16 rfl rfl rfl ?_
  refine OwnW.iloadN C (pc' := 18) own_d_jdk_56_method_4_code_17 rfl rfl ?_
  refine OwnW.aaload C (pc' := 19) V_r1 rfl ⟨by decide, by decide⟩ (v := (.ref x1)) rfl own_d_jdk_56_method_4_code_18 rfl ?_
  refine OwnW.callS C (pc' := 22) (y := (⟨"java/util/Objects", "requireNonNull", "(Ljava/lang/Object;)Ljava/lang/Object;"⟩ : MethodName)) (W := 2) (argsL := [(.ref x1)]) (rest := [(.int (0 : Int32)), (.ref b1)]) (hw _ (List.mem_of_getElem? (i := 208) rfl)) (hw _ (List.mem_of_getElem? (i := 185) rfl)) (hw _ (List.mem_of_getElem? (i := 186) rfl)) (hw _ (List.mem_of_getElem? (i := 187) rfl)) (by decide) (own_rnn l Z a0 hw x1 h1 n0) (K' := 1) (S' := 4) (by decide) (by decide) rfl own_pd__Ljava_lang_Object__Ljava_lang_Object_ rfl (Nat.le_of_eq rfl) rfl rfl (by decide) (by decide) rfl own_d_jdk_56_method_4_code_19 rfl (fun v h' hq => ?_)
  obtain ⟨rfl, hh⟩ := hq
  refine Go.at (st' := [(.ref x1), (.int (0 : Int32)), (.ref b1)]) rfl ?_
  refine Go.heap hh ?_
  refine OwnW.aastore C (pc' := 23) V_b1 rfl g_b1 ⟨by decide, by decide⟩ (k := 0) rfl (Nat.le_of_ble_eq_true rfl) (sto_of V_b1 O_b1 I_x1) rfl own_d_jdk_56_method_4_code_22 rfl (fun h2 W2 V_b1 => ?_)
  have V_b1 : Arv Z h2 b1 cA_b1 (.object "java/lang/Object") (4 : Int32) [(.ref x1), .null, .null, .null] .null := V_b1
  have KH := KH.wr W2 (Or.inr s_b1)
  have Sz := Nat.le_trans Sz (Keep.of_wr W2).1
  have V_r1 := V_r1.other W2 ne_r1_b1
  have X_b1 := X_b1.wr W2
  have I_x1 := I_x1.wr W2
  have I_y1 := I_y1.wr W2
  refine OwnW.iinc C (pc' := 26) own_d_jdk_56_method_4_code_23 rfl rfl (l' := #[.val (.ref r1), .val (.ref b1), .val (.int (1 : Int32))]) rfl ?_
  refine OwnW.goto C (pc' := 8) own_d_jdk_56_method_4_code_26 (by decide) rfl ?_
  refine OwnW.iloadN C (pc' := 9) own_d_jdk_56_method_4_code_8 rfl rfl ?_
  refine OwnW.aloadN C (pc' := 10) own_d_jdk_56_method_4_code_9 rfl rfl rfl ?_
  refine OwnW.alen C (pc' := 11) V_r1 own_d_jdk_56_method_4_code_10 rfl ?_
  refine OwnW.icGe C (pcY := 29) (pcN := 14) own_d_jdk_56_method_4_code_11 (by decide) rfl rfl (fun hc11_1 => absurd (by decide) hc11_1) (fun hc11_1 => ?_)
  refine OwnW.aloadN C (pc' := 15) own_d_jdk_56_method_4_code_14 rfl rfl rfl ?_
  refine OwnW.iloadN C (pc' := 16) own_d_jdk_56_method_4_code_15 rfl rfl ?_
  refine OwnW.aloadN C (pc' := 17) own_d_jdk_56_method_4_code_16 rfl rfl rfl ?_
  refine OwnW.iloadN C (pc' := 18) own_d_jdk_56_method_4_code_17 rfl rfl ?_
  refine OwnW.aaload C (pc' := 19) V_r1 rfl ⟨by decide, by decide⟩ (v := (.ref y1)) rfl own_d_jdk_56_method_4_code_18 rfl ?_
  refine OwnW.callS C (pc' := 22) (y := (⟨"java/util/Objects", "requireNonNull", "(Ljava/lang/Object;)Ljava/lang/Object;"⟩ : MethodName)) (W := 2) (argsL := [(.ref y1)]) (rest := [(.int (1 : Int32)), (.ref b1)]) (hw _ (List.mem_of_getElem? (i := 208) rfl)) (hw _ (List.mem_of_getElem? (i := 185) rfl)) (hw _ (List.mem_of_getElem? (i := 186) rfl)) (hw _ (List.mem_of_getElem? (i := 187) rfl)) (by decide) (own_rnn l Z a0 hw y1 h2 n0) (K' := 1) (S' := 4) (by decide) (by decide) rfl own_pd__Ljava_lang_Object__Ljava_lang_Object_ rfl (Nat.le_of_eq rfl) rfl rfl (by decide) (by decide) rfl own_d_jdk_56_method_4_code_19 rfl (fun v h' hq => ?_)
  obtain ⟨rfl, hh⟩ := hq
  refine Go.at (st' := [(.ref y1), (.int (1 : Int32)), (.ref b1)]) rfl ?_
  refine Go.heap hh ?_
  refine OwnW.aastore C (pc' := 23) V_b1 rfl g_b1 ⟨by decide, by decide⟩ (k := 1) rfl (Nat.le_of_ble_eq_true rfl) (sto_of V_b1 O_b1 I_y1) rfl own_d_jdk_56_method_4_code_22 rfl (fun h3 W3 V_b1 => ?_)
  have V_b1 : Arv Z h3 b1 cA_b1 (.object "java/lang/Object") (4 : Int32) [(.ref x1), (.ref y1), .null, .null] .null := V_b1
  have KH := KH.wr W3 (Or.inr s_b1)
  have Sz := Nat.le_trans Sz (Keep.of_wr W3).1
  have V_r1 := V_r1.other W3 ne_r1_b1
  have X_b1 := X_b1.wr W3
  have I_x1 := I_x1.wr W3
  have I_y1 := I_y1.wr W3
  refine OwnW.iinc C (pc' := 26) own_d_jdk_56_method_4_code_23 rfl rfl (l' := #[.val (.ref r1), .val (.ref b1), .val (.int (2 : Int32))]) rfl ?_
  refine OwnW.goto C (pc' := 8) own_d_jdk_56_method_4_code_26 (by decide) rfl ?_
  refine OwnW.iloadN C (pc' := 9) own_d_jdk_56_method_4_code_8 rfl rfl ?_
  refine OwnW.aloadN C (pc' := 10) own_d_jdk_56_method_4_code_9 rfl rfl rfl ?_
  refine OwnW.alen C (pc' := 11) V_r1 own_d_jdk_56_method_4_code_10 rfl ?_
  refine OwnW.icGe C (pcY := 29) (pcN := 14) own_d_jdk_56_method_4_code_11 (by decide) rfl rfl (fun hc11_2 => absurd (by decide) hc11_2) (fun hc11_2 => ?_)
  refine OwnW.aloadN C (pc' := 15) own_d_jdk_56_method_4_code_14 rfl rfl rfl ?_
  refine OwnW.iloadN C (pc' := 16) own_d_jdk_56_method_4_code_15 rfl rfl ?_
  refine OwnW.aloadN C (pc' := 17) own_d_jdk_56_method_4_code_16 rfl rfl rfl ?_
  refine OwnW.iloadN C (pc' := 18) own_d_jdk_56_method_4_code_17 rfl rfl ?_
  refine OwnW.aaload C (pc' := 19) V_r1 rfl ⟨by decide, by decide⟩ (v := (.ref x1)) rfl own_d_jdk_56_method_4_code_18 rfl ?_
  refine OwnW.callS C (pc' := 22) (y := (⟨"java/util/Objects", "requireNonNull", "(Ljava/lang/Object;)Ljava/lang/Object;"⟩ : MethodName)) (W := 2) (argsL := [(.ref x1)]) (rest := [(.int (2 : Int32)), (.ref b1)]) (hw _ (List.mem_of_getElem? (i := 208) rfl)) (hw _ (List.mem_of_getElem? (i := 185) rfl)) (hw _ (List.mem_of_getElem? (i := 186) rfl)) (hw _ (List.mem_of_getElem? (i := 187) rfl)) (by decide) (own_rnn l Z a0 hw x1 h3 n0) (K' := 1) (S' := 4) (by decide) (by decide) rfl own_pd__Ljava_lang_Object__Ljava_lang_Object_ rfl (Nat.le_of_eq rfl) rfl rfl (by decide) (by decide) rfl own_d_jdk_56_method_4_code_19 rfl (fun v h' hq => ?_)
  obtain ⟨rfl, hh⟩ := hq
  refine Go.at (st' := [(.ref x1), (.int (2 : Int32)), (.ref b1)]) rfl ?_
  refine Go.heap hh ?_
  refine OwnW.aastore C (pc' := 23) V_b1 rfl g_b1 ⟨by decide, by decide⟩ (k := 2) rfl (Nat.le_of_ble_eq_true rfl) (sto_of V_b1 O_b1 I_x1) rfl own_d_jdk_56_method_4_code_22 rfl (fun h4 W4 V_b1 => ?_)
  have V_b1 : Arv Z h4 b1 cA_b1 (.object "java/lang/Object") (4 : Int32) [(.ref x1), (.ref y1), (.ref x1), .null] .null := V_b1
  have KH := KH.wr W4 (Or.inr s_b1)
  have Sz := Nat.le_trans Sz (Keep.of_wr W4).1
  have V_r1 := V_r1.other W4 ne_r1_b1
  have X_b1 := X_b1.wr W4
  have I_x1 := I_x1.wr W4
  have I_y1 := I_y1.wr W4
  refine OwnW.iinc C (pc' := 26) own_d_jdk_56_method_4_code_23 rfl rfl (l' := #[.val (.ref r1), .val (.ref b1), .val (.int (3 : Int32))]) rfl ?_
  refine OwnW.goto C (pc' := 8) own_d_jdk_56_method_4_code_26 (by decide) rfl ?_
  refine OwnW.iloadN C (pc' := 9) own_d_jdk_56_method_4_code_8 rfl rfl ?_
  refine OwnW.aloadN C (pc' := 10) own_d_jdk_56_method_4_code_9 rfl rfl rfl ?_
  refine OwnW.alen C (pc' := 11) V_r1 own_d_jdk_56_method_4_code_10 rfl ?_
  refine OwnW.icGe C (pcY := 29) (pcN := 14) own_d_jdk_56_method_4_code_11 (by decide) rfl rfl (fun hc11_3 => absurd (by decide) hc11_3) (fun hc11_3 => ?_)
  refine OwnW.aloadN C (pc' := 15) own_d_jdk_56_method_4_code_14 rfl rfl rfl ?_
  refine OwnW.iloadN C (pc' := 16) own_d_jdk_56_method_4_code_15 rfl rfl ?_
  refine OwnW.aloadN C (pc' := 17) own_d_jdk_56_method_4_code_16 rfl rfl rfl ?_
  refine OwnW.iloadN C (pc' := 18) own_d_jdk_56_method_4_code_17 rfl rfl ?_
  refine OwnW.aaload C (pc' := 19) V_r1 rfl ⟨by decide, by decide⟩ (v := (.ref y1)) rfl own_d_jdk_56_method_4_code_18 rfl ?_
  refine OwnW.callS C (pc' := 22) (y := (⟨"java/util/Objects", "requireNonNull", "(Ljava/lang/Object;)Ljava/lang/Object;"⟩ : MethodName)) (W := 2) (argsL := [(.ref y1)]) (rest := [(.int (3 : Int32)), (.ref b1)]) (hw _ (List.mem_of_getElem? (i := 208) rfl)) (hw _ (List.mem_of_getElem? (i := 185) rfl)) (hw _ (List.mem_of_getElem? (i := 186) rfl)) (hw _ (List.mem_of_getElem? (i := 187) rfl)) (by decide) (own_rnn l Z a0 hw y1 h4 n0) (K' := 1) (S' := 4) (by decide) (by decide) rfl own_pd__Ljava_lang_Object__Ljava_lang_Object_ rfl (Nat.le_of_eq rfl) rfl rfl (by decide) (by decide) rfl own_d_jdk_56_method_4_code_19 rfl (fun v h' hq => ?_)
  obtain ⟨rfl, hh⟩ := hq
  refine Go.at (st' := [(.ref y1), (.int (3 : Int32)), (.ref b1)]) rfl ?_
  refine Go.heap hh ?_
  refine OwnW.aastore C (pc' := 23) V_b1 rfl g_b1 ⟨by decide, by decide⟩ (k := 3) rfl (Nat.le_of_ble_eq_true rfl) (sto_of V_b1 O_b1 I_y1) rfl own_d_jdk_56_method_4_code_22 rfl (fun h5 W5 V_b1 => ?_)
  have V_b1 : Arv Z h5 b1 cA_b1 (.object "java/lang/Object") (4 : Int32) [(.ref x1), (.ref y1), (.ref x1), (.ref y1)] .null := V_b1
  have KH := KH.wr W5 (Or.inr s_b1)
  have Sz := Nat.le_trans Sz (Keep.of_wr W5).1
  have V_r1 := V_r1.other W5 ne_r1_b1
  have X_b1 := X_b1.wr W5
  have I_x1 := I_x1.wr W5
  have I_y1 := I_y1.wr W5
  refine OwnW.iinc C (pc' := 26) own_d_jdk_56_method_4_code_23 rfl rfl (l' := #[.val (.ref r1), .val (.ref b1), .val (.int (4 : Int32))]) rfl ?_
  refine OwnW.goto C (pc' := 8) own_d_jdk_56_method_4_code_26 (by decide) rfl ?_
  refine OwnW.iloadN C (pc' := 9) own_d_jdk_56_method_4_code_8 rfl rfl ?_
  refine OwnW.aloadN C (pc' := 10) own_d_jdk_56_method_4_code_9 rfl rfl rfl ?_
  refine OwnW.alen C (pc' := 11) V_r1 own_d_jdk_56_method_4_code_10 rfl ?_
  refine OwnW.icGe C (pcY := 29) (pcN := 14) own_d_jdk_56_method_4_code_11 (by decide) rfl rfl (fun hc11_4 => ?_) (fun hc11_4 => absurd hc11_4 (by decide))
  refine OwnW.newO C (pc' := 32) (K' := 2) (S' := 6) (hw _ (List.mem_of_getElem? (i := 53) rfl)) (hw _ (List.mem_of_getElem? (i := 209) rfl)) (hw _ (List.mem_of_getElem? (i := 84) rfl)) own_d_jdk_56_method_4_code_29 rfl rfl rfl (by decide) (by decide) (fun h6 b6 g6 E6 X_b6 D6 => ?_)
  have ne_r1_b6 : r1 ≠ b6 := Nat.ne_of_lt (Nat.lt_of_lt_of_eq V_r1.lt g6.symm)
  have ne_b1_b6 : b1 ≠ b6 := Nat.ne_of_lt (Nat.lt_of_lt_of_eq X_b1.lt g6.symm)
  have g_b6 : n0 ≤ b6 := Nat.le_trans Sz (Nat.le_of_eq g6.symm)
  have s_b6 : h0.size ≤ b6 := Nat.le_trans KH.1 (Nat.le_of_eq g6.symm)
  have KH := KH.ext E6
  have Sz := Nat.le_trans Sz E6.1
  have V_r1 := V_r1.ext E6
  have X_b1 := X_b1.ext E6
  have V_b1 := V_b1.ext E6
  have F_elements_b6 : Fld Z h6 b6 "java/util/ImmutableCollections$ListN" "elements" "[Ljava/lang/Object;" .null := D6 (Or.inr (hw _ (List.mem_of_getElem? (i := 87) rfl))) (ty := (.array (.object "java/lang/Object"))) (by decide)
  have F_allowNulls_b6 : Fld Z h6 b6 "java/util/ImmutableCollections$ListN" "allowNulls" "Z" (.int (0 : Int32)) := D6 (Or.inr (hw _ (List.mem_of_getElem? (i := 219) rfl))) (ty := .boolean) (by decide)
  refine OwnW.dup C (pc' := 33) own_d_jdk_56_method_4_code_32 rfl rfl ?_
  refine OwnW.aloadN C (pc' := 34) own_d_jdk_56_method_4_code_33 rfl rfl rfl ?_
  refine OwnW.iconst C (pc' := 35) own_d_jdk_56_method_4_code_34 rfl (z := 0) rfl ?_
  refine OwnW.callXN C (pc' := 38) (y := (⟨"java/util/ImmutableCollections$ListN", "<init>", "([Ljava/lang/Object;Z)V"⟩ : MethodName)) (W := 1) (argsL := [(.ref b1), (.int (0 : Int32))]) (rest := [(.ref b6)]) rfl (hw _ (List.mem_of_getElem? (i := 210) rfl)) (hw _ (List.mem_of_getElem? (i := 211) rfl)) (hw _ (List.mem_of_getElem? (i := 84) rfl)) (hw _ (List.mem_of_getElem? (i := 213) rfl)) (by decide) (own_lninit l Z a0 hw b6 b1 h6 n0 X_b6 F_elements_b6 F_allowNulls_b6 g_b6) (K' := 2) (S' := 6) (by decide) (by decide) rfl own_pd___Ljava_lang_Object_Z_V rfl (Nat.le_of_eq rfl) rfl rfl (by decide) (by decide) rfl own_d_jdk_56_method_4_code_35 rfl (fun v h99 hq => ?_)
  obtain ⟨rfl, KK, FE⟩ := hq
  refine Go.at (st' := [(.ref b6)]) rfl ?_
  have KH := KH.trans KK (allS (Or.inr s_b6) all0)
  have X_b6 := X_b6.keep KK
  have V_b1 := V_b1.keep KK (ninS ne_b1_b6 nin0)
  exact OwnW.retA C rfl rfl rfl ⟨b6, rfl, s_b6, KH, X_b6, b1, cA_b1, FE, V_b1⟩ (by decide) (by decide) own_d_jdk_56_method_4_code_38
set_option maxRecDepth 65536 in
set_option maxHeartbeats 40000000 in
theorem own_ofArr_4 (l : Launch) (Z : State) (a0 : Array Value) (hw : ∀ d ∈ tables_1, d.before a0 Z = true) (r1 : Addr) (x1 y1 : Addr) (cR : ClassId) (h0 : Heap) (n0 : Nat) (Sz : n0 ≤ h0.size) (V_r1 : Arv Z h0 r1 cR (.object "java/lang/Object") (4 : Int32) [.ref x1, .ref y1, .ref x1, .ref y1] .null) (I_x1 : Ins Z h0 x1 "java/lang/Object" true) (I_y1 : Ins Z h0 y1 "java/lang/Object" true) :
    Ctr l Z (⟨"java/util/List", "of", "([Ljava/lang/Object;)Ljava/util/List;"⟩ : MethodName) jdk_40_method_47_code 2 (some (.object "java/util/List")) ({ frames := 6, cells := 2, slots := 6, locals := 77 } : Room) #[(.ref r1)] h0 n0 (fun v h => ∃ r, v = some (.ref r) ∧ h0.size ≤ r ∧ Keep h0 h [] ∧ Exa Z h r "java/util/ImmutableCollections$ListN" ∧ ∃ (ar : Addr) (cR : ClassId), Fld Z h r "java/util/ImmutableCollections$ListN" "elements" "[Ljava/lang/Object;" (.ref ar) ∧ Arv Z h ar cR (.object "java/lang/Object") (4 : Int32) [.ref x1, .ref y1, .ref x1, .ref y1] .null) := by
  refine Ctr.of (plainFor_of_name own_pn_List) ?_
  intro p e s m below meth c C
  refine Go.frame (g' := mkF m 0 #[.val (.ref r1), .unset] []) (by first | (simp [entryFrame, mkF, argsToLocals, Value.category]; done) | rfl) ?_
  have KH := Keep.refl h0 []
  refine OwnW.aloadN C (pc' := 1) own_d_jdk_40_method_47_code_0 rfl rfl rfl ?_
  refine OwnW.alen C (pc' := 2) V_r1 own_d_jdk_40_method_47_code_1 rfl ?_
  refine OwnW.tswD C (pc' := 59) own_d_jdk_40_method_47_code_2 (by decide) (by decide) rfl ?_
  refine OwnW.aloadN C (pc' := 60) own_d_jdk_40_method_47_code_59 rfl rfl rfl ?_
  refine OwnW.callS C (pc' := 63) (y := (⟨"java/util/ImmutableCollections", "listFromArray", "([Ljava/lang/Object;)Ljava/util/List;"⟩ : MethodName)) (W := 0) (argsL := [(.ref r1)]) (rest := []) (hw _ (List.mem_of_getElem? (i := 204) rfl)) (hw _ (List.mem_of_getElem? (i := 205) rfl)) (hw _ (List.mem_of_getElem? (i := 46) rfl)) (hw _ (List.mem_of_getElem? (i := 206) rfl)) (by decide) (own_lfa_4 l Z a0 hw r1 x1 y1 cR h0 n0 Sz V_r1 I_x1 I_y1) (K' := 2) (S' := 6) (by decide) (by decide) rfl own_pd___Ljava_lang_Object__Ljava_util_List_ rfl (Nat.le_of_eq rfl) rfl rfl (by decide) (by decide) rfl own_d_jdk_40_method_47_code_60 rfl (fun v h1 hq => ?_)
  obtain ⟨r, rfl, hr, KK, QQ⟩ := hq
  refine Go.at (st' := [(.ref r)]) rfl ?_
  exact OwnW.retA C rfl rfl rfl ⟨r, rfl, hr, KK, QQ⟩ (by decide) (by decide) own_d_jdk_40_method_47_code_63
set_option maxRecDepth 65536 in
set_option maxHeartbeats 40000000 in
theorem own_listCopy_4 (l : Launch) (Z : State) (a0 : Array Value) (hw : ∀ d ∈ tables_1, d.before a0 Z = true) (l1 b mr : Addr) (x1 y1 : Addr) (vs : List Value) (cO : ClassId) (h0 : Heap) (n0 : Nat) (Sz : n0 ≤ h0.size) (X_l1 : Exa Z h0 l1 "java/util/ArrayList") (F_elementData_l1 : Fld Z h0 l1 "java/util/ArrayList" "elementData" "[Ljava/lang/Object;" (.ref b)) (F_size_l1 : Fld Z h0 l1 "java/util/ArrayList" "size" "I" (.int 4)) (X_b : Exa Z h0 b "[Ljava/lang/Object;") (V_b : Arv Z h0 b cO (.object "java/lang/Object") 10 vs .null) (M : Mi Z "[Ljava/lang/Object;" mr) (hus : [.ref x1, .ref y1, .ref x1, .ref y1] = (List.range (4 : Int32).toNatClampNeg).map fun i => vs.getD ((0 : Int32).toNatClampNeg + i) .null) (I_x1 : Ins Z h0 x1 "java/lang/Object" true) (I_y1 : Ins Z h0 y1 "java/lang/Object" true) :
    Ctr l Z (⟨"java/util/ImmutableCollections", "listCopy", "(Ljava/util/Collection;)Ljava/util/List;"⟩ : MethodName) jdk_56_method_3_code 2 (some (.object "java/util/List")) ({ frames := 7, cells := 3, slots := 10, locals := 90 } : Room) #[(.ref l1)] h0 n0 (fun v h => ∃ r, v = some (.ref r) ∧ h0.size ≤ r ∧ Keep h0 h [] ∧ Exa Z h r "java/util/ImmutableCollections$ListN" ∧ ∃ (ar : Addr) (cR : ClassId), Fld Z h r "java/util/ImmutableCollections$ListN" "elements" "[Ljava/lang/Object;" (.ref ar) ∧ Arv Z h ar cR (.object "java/lang/Object") (4 : Int32) [.ref x1, .ref y1, .ref x1, .ref y1] .null) := by
  refine Ctr.of (plainFor_of_name own_pn_ImmutableCollections) ?_
  intro p e s m below meth c C
  refine Go.frame (g' := mkF m 0 #[.val (.ref l1), .unset] []) (by first | (simp [entryFrame, mkF, argsToLocals, Value.category]; done) | rfl) ?_
  refine OwnW.aloadN C (pc' := 1) own_d_jdk_56_method_3_code_0 rfl rfl rfl ?_
  refine OwnW.instNo C (pc' := 4) (hw _ (List.mem_of_getElem? (i := 48) rfl)) X_l1 (own_nsno (hw _ (List.mem_of_getElem? (i := 49) rfl)) (hw _ (List.mem_of_getElem? (i := 164) rfl)) (NS.step (hw _ (List.mem_of_getElem? (i := 49) rfl)) (NS.step (hw _ (List.mem_of_getElem? (i := 50) rfl)) (NS.step (hw _ (List.mem_of_getElem? (i := 51) rfl)) (own_nsroot (hw _ (List.mem_of_getElem? (i := 52) rfl)) (hw _ (List.mem_of_getElem? (i := 164) rfl)) (by decide)) (by decide)) (by decide)) (by decide)) (by decide)) own_d_jdk_56_method_3_code_1 rfl ?_
  refine OwnW.ifNe C (pcY := 26) (pcN := 7) own_d_jdk_56_method_3_code_4 (by decide) rfl rfl (fun hc4 => absurd rfl hc4) (fun hc4 => ?_)
  refine OwnW.aloadN C (pc' := 8) own_d_jdk_56_method_3_code_7 rfl rfl rfl ?_
  refine OwnW.instNo C (pc' := 11) (hw _ (List.mem_of_getElem? (i := 53) rfl)) X_l1 (own_nsno (hw _ (List.mem_of_getElem? (i := 49) rfl)) (hw _ (List.mem_of_getElem? (i := 209) rfl)) (NS.step (hw _ (List.mem_of_getElem? (i := 49) rfl)) (NS.step (hw _ (List.mem_of_getElem? (i := 50) rfl)) (NS.step (hw _ (List.mem_of_getElem? (i := 51) rfl)) (own_nsroot (hw _ (List.mem_of_getElem? (i := 52) rfl)) (hw _ (List.mem_of_getElem? (i := 209) rfl)) (by decide)) (by decide)) (by decide)) (by decide)) (by decide)) own_d_jdk_56_method_3_code_8 rfl ?_
  refine OwnW.ifEq C (pcY := 31) (pcN := 14) own_d_jdk_56_method_3_code_11 (by decide) rfl rfl (fun hc11 => ?_) (fun hc11 => absurd rfl hc11)
  refine OwnW.aloadN C (pc' := 32) own_d_jdk_56_method_3_code_31 rfl rfl rfl ?_
  refine OwnW.callI C (pc' := 37) (y := (⟨"java/util/Collection", "isEmpty", "()Z"⟩ : MethodName)) (z := (⟨"java/util/ArrayList", "isEmpty", "()Z"⟩ : MethodName)) (W := 0) (argsL := []) (rest := []) (hw _ (List.mem_of_getElem? (i := 54) rfl)) (hw _ (List.mem_of_getElem? (i := 55) rfl)) (hw _ (List.mem_of_getElem? (i := 56) rfl)) (by first | rfl | decide) (hw _ (List.mem_of_getElem? (i := 57) rfl)) (hw _ (List.mem_of_getElem? (i := 58) rfl)) (hw _ (List.mem_of_getElem? (i := 59) rfl)) (hw _ (List.mem_of_getElem? (i := 60) rfl)) (hw _ (List.mem_of_getElem? (i := 61) rfl)) (hw _ (List.mem_of_getElem? (i := 2) rfl)) (hw _ (List.mem_of_getElem? (i := 62) rfl)) X_l1 (by decide) (own_alEmpty l Z a0 hw l1 4 h0 n0 F_size_l1) (K' := 0) (S' := 0) (by decide) (by decide) rfl own_pd___Z rfl (Nat.le_of_eq rfl) rfl rfl (by decide) (by decide) rfl own_d_jdk_56_method_3_code_32 rfl (fun v h' hq => ?_)
  obtain ⟨rfl, hh⟩ := hq
  refine Go.at (st' := [(.int (if (4 : Int32) = 0 then (1 : Int32) else 0))]) rfl ?_
  refine Go.heap hh ?_
  refine OwnW.ifEq C (pcY := 44) (pcN := 40) own_d_jdk_56_method_3_code_37 (by decide) rfl rfl (fun hc37 => ?_) (fun hc37 => absurd rfl hc37)
  refine OwnW.aloadN C (pc' := 45) own_d_jdk_56_method_3_code_44 rfl rfl rfl ?_
  refine OwnW.callI C (pc' := 50) (y := (⟨"java/util/Collection", "toArray", "()[Ljava/lang/Object;"⟩ : MethodName)) (z := (⟨"java/util/ArrayList", "toArray", "()[Ljava/lang/Object;"⟩ : MethodName)) (W := 0) (argsL := []) (rest := []) (hw _ (List.mem_of_getElem? (i := 130) rfl)) (hw _ (List.mem_of_getElem? (i := 131) rfl)) (hw _ (List.mem_of_getElem? (i := 132) rfl)) (by first | rfl | decide) (hw _ (List.mem_of_getElem? (i := 133) rfl)) (hw _ (List.mem_of_getElem? (i := 134) rfl)) (hw _ (List.mem_of_getElem? (i := 135) rfl)) (hw _ (List.mem_of_getElem? (i := 136) rfl)) (hw _ (List.mem_of_getElem? (i := 61) rfl)) (hw _ (List.mem_of_getElem? (i := 2) rfl)) (hw _ (List.mem_of_getElem? (i := 137) rfl)) X_l1 (by decide) (own_toArray_4 l Z a0 hw l1 b mr x1 y1 vs cO h0 n0 F_elementData_l1 F_size_l1 Sz X_b V_b M hus I_x1 I_y1) (K' := 1) (S' := 4) (by decide) (by decide) rfl own_pd____Ljava_lang_Object_ rfl (Nat.le_of_eq rfl) rfl rfl (by decide) (by decide) rfl own_d_jdk_56_method_3_code_45 rfl (fun v h1 hq => ?_)
  obtain ⟨r1, cR, rfl, hr1, K1, V_r1⟩ := hq
  refine Go.at (st' := [(.ref r1)]) rfl ?_
  have Sz1 := Nat.le_trans Sz K1.1
  have I_x1 := ins_keep I_x1 K1
  have I_y1 := ins_keep I_y1 K1
  refine OwnW.callS C (pc' := 53) (y := (⟨"java/util/List", "of", "([Ljava/lang/Object;)Ljava/util/List;"⟩ : MethodName)) (W := 0) (argsL := [(.ref r1)]) (rest := []) (hw _ (List.mem_of_getElem? (i := 160) rfl)) (hw _ (List.mem_of_getElem? (i := 161) rfl)) (hw _ (List.mem_of_getElem? (i := 42) rfl)) (hw _ (List.mem_of_getElem? (i := 162) rfl)) (by decide) (own_ofArr_4 l Z a0 hw r1 x1 y1 cR h1 n0 Sz1 V_r1 I_x1 I_y1) (K' := 3) (S' := 10) (by decide) (by decide) rfl own_pd___Ljava_lang_Object__Ljava_util_List_ rfl (Nat.le_of_eq rfl) rfl rfl (by decide) (by decide) rfl own_d_jdk_56_method_3_code_50 rfl (fun v h2 hq => ?_)
  obtain ⟨r, rfl, hr, KK, QQ⟩ := hq
  refine Go.at (st' := [(.ref r)]) rfl ?_
  have KH := K1.trans KK all0
  have hr := Nat.le_trans K1.1 hr
  exact OwnW.retA C rfl rfl rfl ⟨r, rfl, hr, KH, QQ⟩ (by decide) (by decide) own_d_jdk_56_method_3_code_53
set_option maxRecDepth 65536 in
set_option maxHeartbeats 40000000 in
theorem own_copyOf_4 (l : Launch) (Z : State) (a0 : Array Value) (hw : ∀ d ∈ tables_1, d.before a0 Z = true) (l1 b mr : Addr) (x1 y1 : Addr) (vs : List Value) (cO : ClassId) (h0 : Heap) (n0 : Nat) (Sz : n0 ≤ h0.size) (X_l1 : Exa Z h0 l1 "java/util/ArrayList") (F_elementData_l1 : Fld Z h0 l1 "java/util/ArrayList" "elementData" "[Ljava/lang/Object;" (.ref b)) (F_size_l1 : Fld Z h0 l1 "java/util/ArrayList" "size" "I" (.int 4)) (X_b : Exa Z h0 b "[Ljava/lang/Object;") (V_b : Arv Z h0 b cO (.object "java/lang/Object") 10 vs .null) (M : Mi Z "[Ljava/lang/Object;" mr) (hus : [.ref x1, .ref y1, .ref x1, .ref y1] = (List.range (4 : Int32).toNatClampNeg).map fun i => vs.getD ((0 : Int32).toNatClampNeg + i) .null) (I_x1 : Ins Z h0 x1 "java/lang/Object" true) (I_y1 : Ins Z h0 y1 "java/lang/Object" true) :
    Ctr l Z (⟨"java/util/List", "copyOf", "(Ljava/util/Collection;)Ljava/util/List;"⟩ : MethodName) jdk_40_method_48_code 1 (some (.object "java/util/List")) ({ frames := 8, cells := 3, slots := 10, locals := 103 } : Room) #[(.ref l1)] h0 n0 (fun v h => ∃ r, v = some (.ref r) ∧ h0.size ≤ r ∧ Keep h0 h [] ∧ Exa Z h r "java/util/ImmutableCollections$ListN" ∧ ∃ (ar : Addr) (cR : ClassId), Fld Z h r "java/util/ImmutableCollections$ListN" "elements" "[Ljava/lang/Object;" (.ref ar) ∧ Arv Z h ar cR (.object "java/lang/Object") (4 : Int32) [.ref x1, .ref y1, .ref x1, .ref y1] .null) := by
  refine Ctr.of (plainFor_of_name own_pn_List) ?_
  intro p e s m below meth c C
  refine Go.frame (g' := mkF m 0 #[.val (.ref l1)] []) (by first | (simp [entryFrame, mkF, argsToLocals, Value.category]; done) | rfl) ?_
  refine OwnW.aloadN C (pc' := 1) own_d_jdk_40_method_48_code_0 rfl rfl rfl ?_
  refine OwnW.callS C (pc' := 4) (y := (⟨"java/util/ImmutableCollections", "listCopy", "(Ljava/util/Collection;)Ljava/util/List;"⟩ : MethodName)) (W := 0) (argsL := [(.ref l1)]) (rest := []) (hw _ (List.mem_of_getElem? (i := 44) rfl)) (hw _ (List.mem_of_getElem? (i := 45) rfl)) (hw _ (List.mem_of_getElem? (i := 46) rfl)) (hw _ (List.mem_of_getElem? (i := 47) rfl)) (by decide) (own_listCopy_4 l Z a0 hw l1 b mr x1 y1 vs cO h0 n0 Sz X_l1 F_elementData_l1 F_size_l1 X_b V_b M hus I_x1 I_y1) (K' := 3) (S' := 10) (by decide) (by decide) rfl own_pd__Ljava_util_Collection__Ljava_util_List_ rfl (Nat.le_of_eq rfl) rfl rfl (by decide) (by decide) rfl own_d_jdk_40_method_48_code_1 rfl (fun v h1 hq => ?_)
  obtain ⟨r, rfl, hr, KK, QQ⟩ := hq
  refine Go.at (st' := [(.ref r)]) rfl ?_
  exact OwnW.retA C rfl rfl rfl ⟨r, rfl, hr, KK, QQ⟩ (by decide) (by decide) own_d_jdk_40_method_48_code_4
set_option maxRecDepth 65536 in
set_option maxHeartbeats 40000000 in
theorem own_copy3_5 (l : Launch) (Z : State) (a0 : Array Value) (hw : ∀ d ∈ tables_1, d.before a0 Z = true) (b mr : Addr) (x1 y1 : Addr) (vs : List Value) (cO : ClassId) (h0 : Heap) (n0 : Nat) (Sz : n0 ≤ h0.size) (V_b : Arv Z h0 b cO (.object "java/lang/Object") 10 vs .null) (M : Mi Z "[Ljava/lang/Object;" mr) (hus : [.ref x1, .ref y1, .ref x1, .ref y1, .ref x1] = (List.range (5 : Int32).toNatClampNeg).map fun i => vs.getD ((0 : Int32).toNatClampNeg + i) .null) (I_x1 : Ins Z h0 x1 "java/lang/Object" true) (I_y1 : Ins Z h0 y1 "java/lang/Object" true) :
    Ctr l Z (⟨"java/util/Arrays", "copyOf", "([Ljava/lang/Object;ILjava/lang/Class;)[Ljava/lang/Object;"⟩ : MethodName) jdk_65_method_120_code 4 (some (.array (.object "java/lang/Object"))) ({ frames := 2, cells := 1, slots := 5, locals := 32 } : Room) #[(.ref b), (.int (5 : Int32)), (.ref mr)] h0 n0 (fun v h => ∃ (r : Addr) (cR : ClassId), v = some (.ref r) ∧ h0.size ≤ r ∧ Keep h0 h [] ∧ Arv Z h r cR (.object "java/lang/Object") (5 : Int32) [.ref x1, .ref y1, .ref x1, .ref y1, .ref x1] .null) := by
  refine Ctr.of (plainFor_of_name own_pn_Arrays) ?_
  intro p e s m below meth c C
  refine Go.frame (g' := mkF m 0 #[.val (.ref b), .val (.int (5 : Int32)), .val (.ref mr), .unset] []) (by first | (simp [entryFrame, mkF, argsToLocals, Value.category]; done) | rfl) ?_
  have KH := Keep.refl h0 []
  refine OwnW.aloadN C (pc' := 1) own_d_jdk_65_method_120_code_0 rfl rfl rfl ?_
  refine OwnW.ldcMi C (pc' := 3) (hw _ (List.mem_of_getElem? (i := 151) rfl)) M own_d_jdk_65_method_120_code_1 rfl ?_
  refine OwnW.acNe C (pcY := 13) (pcN := 6) rfl rfl own_d_jdk_65_method_120_code_3 (by decide) rfl rfl (fun hc3 => absurd rfl hc3) (fun hc3 => ?_)
  refine OwnW.iloadN C (pc' := 7) own_d_jdk_65_method_120_code_6 rfl rfl ?_
  refine OwnW.newR C (pc' := 10) (K' := 1) (S' := 5) (ad := "[Ljava/lang/Object;") (by decide +kernel) (hw _ (List.mem_of_getElem? (i := 152) rfl)) (hw _ (List.mem_of_getElem? (i := 128) rfl)) (cap := 5) (by decide) (by decide) (by decide) own_d_jdk_65_method_120_code_7 rfl rfl rfl (by decide) (by decide) (fun h1 b1 cA_b1 g1 E1 V_b1 X_b1 O_b1 => ?_)
  have ne_b_b1 : b ≠ b1 := Nat.ne_of_lt (Nat.lt_of_lt_of_eq V_b.lt g1.symm)
  have g_b1 : n0 ≤ b1 := Nat.le_trans Sz (Nat.le_of_eq g1.symm)
  have s_b1 : h0.size ≤ b1 := Nat.le_trans KH.1 (Nat.le_of_eq g1.symm)
  have KH := KH.ext E1
  have Sz := Nat.le_trans Sz E1.1
  have V_b := V_b.ext E1
  have V_b1 : Arv Z h1 b1 cA_b1 (.object "java/lang/Object") (5 : Int32) [.null, .null, .null, .null, .null] .null := V_b1.pad (pad_rep [] .null 5)
  have I_x1 := I_x1.ext E1
  have I_y1 := I_y1.ext E1
  refine OwnW.goto C (pc' := 24) own_d_jdk_65_method_120_code_10 (by decide) rfl ?_
  refine OwnW.astoreN C (pc' := 25) own_d_jdk_65_method_120_code_24 rfl rfl (l' := #[.val (.ref b), .val (.int (5 : Int32)), .val (.ref mr), .val (.ref b1)]) rfl ?_
  refine OwnW.aloadN C (pc' := 26) own_d_jdk_65_method_120_code_25 rfl rfl rfl ?_
  refine OwnW.iconst C (pc' := 27) own_d_jdk_65_method_120_code_26 rfl (z := 0) rfl ?_
  refine OwnW.aloadN C (pc' := 28) own_d_jdk_65_method_120_code_27 rfl rfl rfl ?_
  refine OwnW.iconst C (pc' := 29) own_d_jdk_65_method_120_code_28 rfl (z := 0) rfl ?_
  refine OwnW.aloadN C (pc' := 30) own_d_jdk_65_method_120_code_29 rfl rfl rfl ?_
  refine OwnW.alen C (pc' := 31) V_b own_d_jdk_65_method_120_code_30 rfl ?_
  refine OwnW.iloadN C (pc' := 32) own_d_jdk_65_method_120_code_31 rfl rfl ?_
  refine OwnW.callS C (pc' := 35) (y := (⟨"java/lang/Math", "min", "(II)I"⟩ : MethodName)) (W := 4) (argsL := [(.int (10 : Int32)), (.int (5 : Int32))]) (rest := [(.int (0 : Int32)), (.ref b1), (.int (0 : Int32)), (.ref b)]) (hw _ (List.mem_of_getElem? (i := 153) rfl)) (hw _ (List.mem_of_getElem? (i := 154) rfl)) (hw _ (List.mem_of_getElem? (i := 125) rfl)) (hw _ (List.mem_of_getElem? (i := 155) rfl)) (by decide) (own_minI l Z a0 hw 10 5 h1 n0) (K' := 1) (S' := 5) (by decide) (by decide) rfl own_pd__II_I rfl (Nat.le_of_eq rfl) rfl rfl (by decide) (by decide) rfl own_d_jdk_65_method_120_code_32 rfl (fun v h' hq => ?_)
  obtain ⟨rfl, hh⟩ := hq
  refine Go.at (st' := [(.int (if (5 : Int32) < 10 then (5 : Int32) else 10)), (.int (0 : Int32)), (.ref b1), (.int (0 : Int32)), (.ref b)]) rfl ?_
  refine Go.heap hh ?_
  rw [show (if (5 : Int32) < 10 then (5 : Int32) else 10) = 5 from rfl]
  refine OwnW.acopy C (pc' := 38) (us := [.ref x1, .ref y1, .ref x1, .ref y1, .ref x1]) (hw _ (List.mem_of_getElem? (i := 156) rfl)) (hw _ (List.mem_of_getElem? (i := 159) rfl)) (hw _ (List.mem_of_getElem? (i := 157) rfl)) (hw _ (List.mem_of_getElem? (i := 158) rfl)) V_b V_b1 (Or.inr ⟨rfl, rfl, ⟨sto_of V_b1 O_b1 I_x1, ⟨sto_of V_b1 O_b1 I_y1, ⟨sto_of V_b1 O_b1 I_x1, ⟨sto_of V_b1 O_b1 I_y1, ⟨sto_of V_b1 O_b1 I_x1, trivial⟩⟩⟩⟩⟩⟩) (by decide) (by decide) (by decide) (by decide) (by decide) hus (Nat.le_of_ble_eq_true rfl) g_b1 rfl (by decide) (W := 0) (Nat.le_of_eq rfl) (by decide +kernel) own_d_jdk_65_method_120_code_35 rfl (fun h2 KK V_b1 => ?_)
  have KH := KH.trans KK (allS (Or.inr s_b1) all0)
  have V_b1 : Arv Z h2 b1 cA_b1 (.object "java/lang/Object") (5 : Int32) [.ref x1, .ref y1, .ref x1, .ref y1, .ref x1] .null := V_b1
  refine OwnW.aloadN C (pc' := 39) own_d_jdk_65_method_120_code_38 rfl rfl rfl ?_
  exact OwnW.retA C rfl rfl rfl ⟨b1, cA_b1, rfl, s_b1, KH, V_b1⟩ (by decide) (by decide) own_d_jdk_65_method_120_code_39
set_option maxRecDepth 65536 in
set_option maxHeartbeats 40000000 in
theorem own_copy2_5 (l : Launch) (Z : State) (a0 : Array Value) (hw : ∀ d ∈ tables_1, d.before a0 Z = true) (b mr : Addr) (x1 y1 : Addr) (vs : List Value) (cO : ClassId) (h0 : Heap) (n0 : Nat) (Sz : n0 ≤ h0.size) (X_b : Exa Z h0 b "[Ljava/lang/Object;") (V_b : Arv Z h0 b cO (.object "java/lang/Object") 10 vs .null) (M : Mi Z "[Ljava/lang/Object;" mr) (hus : [.ref x1, .ref y1, .ref x1, .ref y1, .ref x1] = (List.range (5 : Int32).toNatClampNeg).map fun i => vs.getD ((0 : Int32).toNatClampNeg + i) .null) (I_x1 : Ins Z h0 x1 "java/lang/Object" true) (I_y1 : Ins Z h0 y1 "java/lang/Object" true) :
    Ctr l Z (⟨"java/util/Arrays", "copyOf", "([Ljava/lang/Object;I)[Ljava/lang/Object;"⟩ : MethodName) jdk_65_method_119_code 2 (some (.array (.object "java/lang/Object"))) ({ frames := 3, cells := 1, slots := 5, locals := 47 } : Room) #[(.ref b), (.int (5 : Int32))] h0 n0 (fun v h => ∃ (r : Addr) (cR : ClassId), v = some (.ref r) ∧ h0.size ≤ r ∧ Keep h0 h [] ∧ Arv Z h r cR (.object "java/lang/Object") (5 : Int32) [.ref x1, .ref y1, .ref x1, .ref y1, .ref x1] .null) := by
  refine Ctr.of (plainFor_of_name own_pn_Arrays) ?_
  intro p e s m below meth c C
  refine Go.frame (g' := mkF m 0 #[.val (.ref b), .val (.int (5 : Int32))] []) (by first | (simp [entryFrame, mkF, argsToLocals, Value.category]; done) | rfl) ?_
  refine OwnW.aloadN C (pc' := 1) own_d_jdk_65_method_119_code_0 rfl rfl rfl ?_
  refine OwnW.iloadN C (pc' := 2) own_d_jdk_65_method_119_code_1 rfl rfl ?_
  refine OwnW.aloadN C (pc' := 3) own_d_jdk_65_method_119_code_2 rfl rfl rfl ?_
  refine OwnW.getCls C (pc' := 6) (hw _ (List.mem_of_getElem? (i := 142) rfl)) (hw _ (List.mem_of_getElem? (i := 143) rfl)) (hw _ (List.mem_of_getElem? (i := 52) rfl)) (hw _ (List.mem_of_getElem? (i := 145) rfl)) (hw _ (List.mem_of_getElem? (i := 144) rfl)) (hw _ (List.mem_of_getElem? (i := 146) rfl)) X_b M rfl (by decide) (W := 2) (Nat.le_of_eq rfl) (by decide +kernel) own_d_jdk_65_method_119_code_3 rfl ?_
  refine OwnW.callS C (pc' := 9) (y := (⟨"java/util/Arrays", "copyOf", "([Ljava/lang/Object;ILjava/lang/Class;)[Ljava/lang/Object;"⟩ : MethodName)) (W := 0) (argsL := [(.ref b), (.int (5 : Int32)), (.ref mr)]) (rest := []) (hw _ (List.mem_of_getElem? (i := 148) rfl)) (hw _ (List.mem_of_getElem? (i := 149) rfl)) (hw _ (List.mem_of_getElem? (i := 140) rfl)) (hw _ (List.mem_of_getElem? (i := 150) rfl)) (by decide) (own_copy3_5 l Z a0 hw b mr x1 y1 vs cO h0 n0 Sz V_b M hus I_x1 I_y1) (K' := 1) (S' := 5) (by decide) (by decide) rfl own_pd___Ljava_lang_Object_ILjava_lang_Class___Ljava_lang_Object_ rfl (Nat.le_of_eq rfl) rfl rfl (by decide) (by decide) rfl own_d_jdk_65_method_119_code_6 rfl (fun v h1 hq => ?_)
  obtain ⟨r, cR, rfl, hr, KK, V⟩ := hq
  refine Go.at (st' := [(.ref r)]) rfl ?_
  exact OwnW.retA C rfl rfl rfl ⟨r, cR, rfl, hr, KK, V⟩ (by decide) (by decide) own_d_jdk_65_method_119_code_9
set_option maxRecDepth 65536 in
set_option maxHeartbeats 40000000 in
theorem own_toArray_5 (l : Launch) (Z : State) (a0 : Array Value) (hw : ∀ d ∈ tables_1, d.before a0 Z = true) (l1 : Addr) (b mr : Addr) (x1 y1 : Addr) (vs : List Value) (cO : ClassId) (h0 : Heap) (n0 : Nat) (F_elementData_l1 : Fld Z h0 l1 "java/util/ArrayList" "elementData" "[Ljava/lang/Object;" (.ref b)) (F_size_l1 : Fld Z h0 l1 "java/util/ArrayList" "size" "I" (.int 5)) (Sz : n0 ≤ h0.size) (X_b : Exa Z h0 b "[Ljava/lang/Object;") (V_b : Arv Z h0 b cO (.object "java/lang/Object") 10 vs .null) (M : Mi Z "[Ljava/lang/Object;" mr) (hus : [.ref x1, .ref y1, .ref x1, .ref y1, .ref x1] = (List.range (5 : Int32).toNatClampNeg).map fun i => vs.getD ((0 : Int32).toNatClampNeg + i) .null) (I_x1 : Ins Z h0 x1 "java/lang/Object" true) (I_y1 : Ins Z h0 y1 "java/lang/Object" true) :
    Ctr l Z (⟨"java/util/ArrayList", "toArray", "()[Ljava/lang/Object;"⟩ : MethodName) jdk_38_method_16_code 1 (some (.array (.object "java/lang/Object"))) ({ frames := 4, cells := 1, slots := 5, locals := 60 } : Room) #[(.ref l1)] h0 n0 (fun v h => ∃ (r : Addr) (cR : ClassId), v = some (.ref r) ∧ h0.size ≤ r ∧ Keep h0 h [] ∧ Arv Z h r cR (.object "java/lang/Object") (5 : Int32) [.ref x1, .ref y1, .ref x1, .ref y1, .ref x1] .null) := by
  refine Ctr.of (plainFor_of_name own_pn_ArrayList) ?_
  intro p e s m below meth c C
  refine Go.frame (g' := mkF m 0 #[.val (.ref l1)] []) (by first | (simp [entryFrame, mkF, argsToLocals, Value.category]; done) | rfl) ?_
  refine OwnW.aloadN C (pc' := 1) own_d_jdk_38_method_16_code_0 rfl rfl rfl ?_
  refine OwnW.getF C (pc' := 4) (host := "") (Or.inl (hw _ (List.mem_of_getElem? (i := 24) rfl))) Via.refl F_elementData_l1 own_d_jdk_38_method_16_code_1 rfl ?_
  refine OwnW.aloadN C (pc' := 5) own_d_jdk_38_method_16_code_4 rfl rfl rfl ?_
  refine OwnW.getF C (pc' := 8) (host := "") (Or.inl (hw _ (List.mem_of_getElem? (i := 63) rfl))) Via.refl F_size_l1 own_d_jdk_38_method_16_code_5 rfl ?_
  refine OwnW.callS C (pc' := 11) (y := (⟨"java/util/Arrays", "copyOf", "([Ljava/lang/Object;I)[Ljava/lang/Object;"⟩ : MethodName)) (W := 0) (argsL := [(.ref b), (.int (5 : Int32))]) (rest := []) (hw _ (List.mem_of_getElem? (i := 138) rfl)) (hw _ (List.mem_of_getElem? (i := 139) rfl)) (hw _ (List.mem_of_getElem? (i := 140) rfl)) (hw _ (List.mem_of_getElem? (i := 141) rfl)) (by decide) (own_copy2_5 l Z a0 hw b mr x1 y1 vs cO h0 n0 Sz X_b V_b M hus I_x1 I_y1) (K' := 1) (S' := 5) (by decide) (by decide) rfl own_pd___Ljava_lang_Object_I__Ljava_lang_Object_ rfl (Nat.le_of_eq rfl) rfl rfl (by decide) (by decide) rfl own_d_jdk_38_method_16_code_8 rfl (fun v h1 hq => ?_)
  obtain ⟨r, cR, rfl, hr, KK, V⟩ := hq
  refine Go.at (st' := [(.ref r)]) rfl ?_
  exact OwnW.retA C rfl rfl rfl ⟨r, cR, rfl, hr, KK, V⟩ (by decide) (by decide) own_d_jdk_38_method_16_code_11
set_option maxRecDepth 65536 in
set_option maxHeartbeats 40000000 in
theorem own_lfa_5 (l : Launch) (Z : State) (a0 : Array Value) (hw : ∀ d ∈ tables_1, d.before a0 Z = true) (r1 : Addr) (x1 y1 : Addr) (cR : ClassId) (h0 : Heap) (n0 : Nat) (Sz : n0 ≤ h0.size) (V_r1 : Arv Z h0 r1 cR (.object "java/lang/Object") (5 : Int32) [.ref x1, .ref y1, .ref x1, .ref y1, .ref x1] .null) (I_x1 : Ins Z h0 x1 "java/lang/Object" true) (I_y1 : Ins Z h0 y1 "java/lang/Object" true) :
    Ctr l Z (⟨"java/util/ImmutableCollections", "listFromArray", "([Ljava/lang/Object;)Ljava/util/List;"⟩ : MethodName) jdk_56_method_4_code 3 (some (.object "java/util/List")) ({ frames := 5, cells := 2, slots := 7, locals := 63 } : Room) #[(.ref r1)] h0 n0 (fun v h => ∃ r, v = some (.ref r) ∧ h0.size ≤ r ∧ Keep h0 h [] ∧ Exa Z h r "java/util/ImmutableCollections$ListN" ∧ ∃ (ar : Addr) (cR : ClassId), Fld Z h r "java/util/ImmutableCollections$ListN" "elements" "[Ljava/lang/Object;" (.ref ar) ∧ Arv Z h ar cR (.object "java/lang/Object") (5 : Int32) [.ref x1, .ref y1, .ref x1, .ref y1, .ref x1] .null) := by
  refine Ctr.of (plainFor_of_name own_pn_ImmutableCollections) ?_
  intro p e s m below meth c C
  refine Go.frame (g' := mkF m 0 #[.val (.ref r1), .unset, .unset] []) (by first | (simp [entryFrame, mkF, argsToLocals, Value.category]; done) | rfl) ?_
  have KH := Keep.refl h0 []
  refine OwnW.aloadN C (pc' := 1) own_d_jdk_56_method_4_code_0 rfl rfl rfl ?_
  refine OwnW.alen C (pc' := 2) V_r1 own_d_jdk_56_method_4_code_1 rfl ?_
  refine OwnW.newR C (pc' := 5) (K' := 1) (S' := 5) (ad := "[Ljava/lang/Object;") (by decide +kernel) (hw _ (List.mem_of_getElem? (i := 207) rfl)) (hw _ (List.mem_of_getElem? (i := 128) rfl)) (cap := 5) (by decide) (by decide) (by decide) own_d_jdk_56_method_4_code_2 rfl rfl rfl (by decide) (by decide) (fun h1 b1 cA_b1 g1 E1 V_b1 X_b1 O_b1 => ?_)
  have ne_r1_b1 : r1 ≠ b1 := Nat.ne_of_lt (Nat.lt_of_lt_of_eq V_r1.lt g1.symm)
  have g_b1 : n0 ≤ b1 := Nat.le_trans Sz (Nat.le_of_eq g1.symm)
  have s_b1 : h0.size ≤ b1 := Nat.le_trans KH.1 (Nat.le_of_eq g1.symm)
  have KH := KH.ext E1
  have Sz := Nat.le_trans Sz E1.1
  have V_r1 := V_r1.ext E1
  have V_b1 : Arv Z h1 b1 cA_b1 (.object "java/lang/Object") (5 : Int32) [.null, .null, .null, .null, .null] .null := V_b1.pad (pad_rep [] .null 5)
  have I_x1 := I_x1.ext E1
  have I_y1 := I_y1.ext E1
  refine OwnW.astoreN C (pc' := 6) own_d_jdk_56_method_4_code_5 rfl rfl (l' := #[.val (.ref r1), .val (.ref b1), .unset]) rfl ?_
  refine OwnW.iconst C (pc' := 7) own_d_jdk_56_method_4_code_6 rfl (z := 0) rfl ?_
  refine OwnW.istoreN C (pc' := 8) own_d_jdk_56_method_4_code_7 rfl (l' := #[.val (.ref r1), .val (.ref b1), .val (.int (0 : Int32))]) rfl ?_
  refine OwnW.iloadN C (pc' := 9) own_d_jdk_56_method_4_code_8 rfl rfl ?_
  refine OwnW.aloadN C (pc' := 10) own_d_jdk_56_method_4_code_9 rfl rfl rfl ?_
  refine OwnW.alen C (pc' := 11) V_r1 own_d_jdk_56_method_4_code_10 rfl ?_
  refine OwnW.icGe C (pcY := 29) (pcN := 14) own_d_jdk_56_method_4_code_11 (by decide) rfl rfl (fun hc11 => absurd (by decide) hc11) (fun hc11 => ?_)
  refine OwnW.aloadN C (pc' := 15) own_d_jdk_56_method_4_code_14 rfl rfl rfl ?_
  refine OwnW.iloadN C (pc' := 16) own_d_jdk_56_method_4_code_15 rfl rfl ?_
  refine OwnW.aloadN C (pc' := 17) own_d_jdk_56_method_4_code_16 rfl rfl rfl ?_
  refine OwnW.iloadN C (pc' := 18) own_d_jdk_56_method_4_code_17 rfl rfl ?_
  refine OwnW.aaload C (pc' := 19) V_r1 rfl ⟨by decide, by decide⟩ (v := (.ref x1)) rfl own_d_jdk_56_method_4_code_18 rfl ?_
  refine OwnW.callS C (pc' := 22) (y := (⟨"java/util/Objects", "requireNonNull", "(Ljava/lang/Object;)Ljava/lang/Object;"⟩ : MethodName)) (W := 2) (argsL := [(.ref x1)]) (rest := [(.int (0 : Int32)), (.ref b1)]) (hw _ (List.mem_of_getElem? (i := 208) rfl)) (hw _ (List.mem_of_getElem? (i := 185) rfl)) (hw _ (List.mem_of_getElem? (i := 186) rfl)) (hw _ (List.mem_of_getElem? (i := 187) rfl)) (by decide) (own_rnn l Z a0 hw x1 h1 n0) (K' := 1) (S' := 5) (by decide) (by decide) rfl own_pd__Ljava_lang_Object__Ljava_lang_Object_ rfl (Nat.le_of_eq rfl) rfl rfl (by decide) (by decide) rfl own_d_jdk_56_method_4_code_19 rfl (fun v h' hq => ?_)
  obtain ⟨rfl, hh⟩ := hq
  refine Go.at (st' := [(.ref x1), (.int (0 : Int32)), (.ref b1)]) rfl ?_
  refine Go.heap hh ?_
  refine OwnW.aastore C (pc' := 23) V_b1 rfl g_b1 ⟨by decide, by decide⟩ (k := 0) rfl (Nat.le_of_ble_eq_true rfl) (sto_of V_b1 O_b1 I_x1) rfl own_d_jdk_56_method_4_code_22 rfl (fun h2 W2 V_b1 => ?_)
  have V_b1 : Arv Z h2 b1 cA_b1 (.object "java/lang/Object") (5 : Int32) [(.ref x1), .null, .null, .null, .null] .null := V_b1
  have KH := KH.wr W2 (Or.inr s_b1)
  have Sz := Nat.le_trans Sz (Keep.of_wr W2).1
  have V_r1 := V_r1.other W2 ne_r1_b1
  have X_b1 := X_b1.wr W2
  have I_x1 := I_x1.wr W2
  have I_y1 := I_y1.wr W2
  refine OwnW.iinc C (pc' := 26) own_d_jdk_56_method_4_code_23 rfl rfl (l' := #[.val (.ref r1), .val (.ref b1), .val (.int (1 : Int32))]) rfl ?_
  refine OwnW.goto C (pc' := 8) own_d_jdk_56_method_4_code_26 (by decide) rfl ?_
  refine OwnW.iloadN C (pc' := 9) own_d_jdk_56_method_4_code_8 rfl rfl ?_
  refine OwnW.aloadN C (pc' := 10) own_d_jdk_56_method_4_code_9 rfl rfl rfl ?_
  refine OwnW.alen C (pc' := 11) V_r1 own_d_jdk_56_method_4_code_10 rfl ?_
  refine OwnW.icGe C (pcY := 29) (pcN := 14) own_d_jdk_56_method_4_code_11 (by decide) rfl rfl (fun hc11_1 => absurd (by decide) hc11_1) (fun hc11_1 => ?_)
  refine OwnW.aloadN C (pc' := 15) own_d_jdk_56_method_4_code_14 rfl rfl rfl ?_
  refine OwnW.iloadN C (pc' := 16) own_d_jdk_56_method_4_code_15 rfl rfl ?_
  refine OwnW.aloadN C (pc' := 17) own_d_jdk_56_method_4_code_16 rfl rfl rfl ?_
  refine OwnW.iloadN C (pc' := 18) own_d_jdk_56_method_4_code_17 rfl rfl ?_
  refine OwnW.aaload C (pc' := 19) V_r1 rfl ⟨by decide, by decide⟩ (v := (.ref y1)) rfl own_d_jdk_56_method_4_code_18 rfl ?_
  refine OwnW.callS C (pc' := 22) (y := (⟨"java/util/Objects", "requireNonNull", "(Ljava/lang/Object;)Ljava/lang/Object;"⟩ : MethodName)) (W := 2) (argsL := [(.ref y1)]) (rest := [(.int (1 : Int32)), (.ref b1)]) (hw _ (List.mem_of_getElem? (i := 208) rfl)) (hw _ (List.mem_of_getElem? (i := 185) rfl)) (hw _ (List.mem_of_getElem? (i := 186) rfl)) (hw _ (List.mem_of_getElem? (i := 187) rfl)) (by decide) (own_rnn l Z a0 hw y1 h2 n0) (K' := 1) (S' := 5) (by decide) (by decide) rfl own_pd__Ljava_lang_Object__Ljava_lang_Object_ rfl (Nat.le_of_eq rfl) rfl rfl (by decide) (by decide) rfl own_d_jdk_56_method_4_code_19 rfl (fun v h' hq => ?_)
  obtain ⟨rfl, hh⟩ := hq
  refine Go.at (st' := [(.ref y1), (.int (1 : Int32)), (.ref b1)]) rfl ?_
  refine Go.heap hh ?_
  refine OwnW.aastore C (pc' := 23) V_b1 rfl g_b1 ⟨by decide, by decide⟩ (k := 1) rfl (Nat.le_of_ble_eq_true rfl) (sto_of V_b1 O_b1 I_y1) rfl own_d_jdk_56_method_4_code_22 rfl (fun h3 W3 V_b1 => ?_)
  have V_b1 : Arv Z h3 b1 cA_b1 (.object "java/lang/Object") (5 : Int32) [(.ref x1), (.ref y1), .null, .null, .null] .null := V_b1
  have KH := KH.wr W3 (Or.inr s_b1)
  have Sz := Nat.le_trans Sz (Keep.of_wr W3).1
  have V_r1 := V_r1.other W3 ne_r1_b1
  have X_b1 := X_b1.wr W3
  have I_x1 := I_x1.wr W3
  have I_y1 := I_y1.wr W3
  refine OwnW.iinc C (pc' := 26) own_d_jdk_56_method_4_code_23 rfl rfl (l' := #[.val (.ref r1), .val (.ref b1), .val (.int (2 : Int32))]) rfl ?_
  refine OwnW.goto C (pc' := 8) own_d_jdk_56_method_4_code_26 (by decide) rfl ?_
  refine OwnW.iloadN C (pc' := 9) own_d_jdk_56_method_4_code_8 rfl rfl ?_
  refine OwnW.aloadN C (pc' := 10) own_d_jdk_56_method_4_code_9 rfl rfl rfl ?_
  refine OwnW.alen C (pc' := 11) V_r1 own_d_jdk_56_method_4_code_10 rfl ?_
  refine OwnW.icGe C (pcY := 29) (pcN := 14) own_d_jdk_56_method_4_code_11 (by decide) rfl rfl (fun hc11_2 => absurd (by decide) hc11_2) (fun hc11_2 => ?_)
  refine OwnW.aloadN C (pc' := 15) own_d_jdk_56_method_4_code_14 rfl rfl rfl ?_
  refine OwnW.iloadN C (pc' := 16) own_d_jdk_56_method_4_code_15 rfl rfl ?_
  refine OwnW.aloadN C (pc' := 17) own_d_jdk_56_method_4_code_16 rfl rfl rfl ?_
  refine OwnW.iloadN C (pc' := 18) own_d_jdk_56_method_4_code_17 rfl rfl ?_
  refine OwnW.aaload C (pc' := 19) V_r1 rfl ⟨by decide, by decide⟩ (v := (.ref x1)) rfl own_d_jdk_56_method_4_code_18 rfl ?_
  refine OwnW.callS C (pc' := 22) (y := (⟨"java/util/Objects", "requireNonNull", "(Ljava/lang/Object;)Ljava/lang/Object;"⟩ : MethodName)) (W := 2) (argsL := [(.ref x1)]) (rest := [(.int (2 : Int32)), (.ref b1)]) (hw _ (List.mem_of_getElem? (i := 208) rfl)) (hw _ (List.mem_of_getElem? (i := 185) rfl)) (hw _ (List.mem_of_getElem? (i := 186) rfl)) (hw _ (List.mem_of_getElem? (i := 187) rfl)) (by decide) (own_rnn l Z a0 hw x1 h3 n0) (K' := 1) (S' := 5) (by decide) (by decide) rfl own_pd__Ljava_lang_Object__Ljava_lang_Object_ rfl (Nat.le_of_eq rfl) rfl rfl (by decide) (by decide) rfl own_d_jdk_56_method_4_code_19 rfl (fun v h' hq => ?_)
  obtain ⟨rfl, hh⟩ := hq
  refine Go.at (st' := [(.ref x1), (.int (2 : Int32)), (.ref b1)]) rfl ?_
  refine Go.heap hh ?_
  refine OwnW.aastore C (pc' := 23) V_b1 rfl g_b1 ⟨by decide, by decide⟩ (k := 2) rfl (Nat.le_of_ble_eq_true rfl) (sto_of V_b1 O_b1 I_x1) rfl own_d_jdk_56_method_4_code_22 rfl (fun h4 W4 V_b1 => ?_)
  have V_b1 : Arv Z h4 b1 cA_b1 (.object "java/lang/Object") (5 : Int32) [(.ref x1), (.ref y1), (.ref x1), .null, .null] .null := V_b1
  have KH := KH.wr W4 (Or.inr s_b1)
  have Sz := Nat.le_trans Sz (Keep.of_wr W4).1
  have V_r1 := V_r1.other W4 ne_r1_b1
  have X_b1 := X_b1.wr W4
  have I_x1 := I_x1.wr W4
  have I_y1 := I_y1.wr W4
  refine OwnW.iinc C (pc' := 26) own_d_jdk_56_method_4_code_23 rfl rfl (l' := #[.val (.ref r1), .val (.ref b1), .val (.int (3 : Int32))]) rfl ?_
  refine OwnW.goto C (pc' := 8) own_d_jdk_56_method_4_code_26 (by decide) rfl ?_
  refine OwnW.iloadN C (pc' := 9) own_d_jdk_56_method_4_code_8 rfl rfl ?_
  refine OwnW.aloadN C (pc' := 10) own_d_jdk_56_method_4_code_9 rfl rfl rfl ?_
  refine OwnW.alen C (pc' := 11) V_r1 own_d_jdk_56_method_4_code_10 rfl ?_
  refine OwnW.icGe C (pcY := 29) (pcN := 14) own_d_jdk_56_method_4_code_11 (by decide) rfl rfl (fun hc11_3 => absurd (by decide) hc11_3) (fun hc11_3 => ?_)
  refine OwnW.aloadN C (pc' := 15) own_d_jdk_56_method_4_code_14 rfl rfl rfl ?_
  refine OwnW.iloadN C (pc' := 16) own_d_jdk_56_method_4_code_15 rfl rfl ?_
  refine OwnW.aloadN C (pc' := 17) own_d_jdk_56_method_4_code_16 rfl rfl rfl ?_
  refine OwnW.iloadN C (pc' := 18) own_d_jdk_56_method_4_code_17 rfl rfl ?_
  refine OwnW.aaload C (pc' := 19) V_r1 rfl ⟨by decide, by decide⟩ (v := (.ref y1)) rfl own_d_jdk_56_method_4_code_18 rfl ?_
  refine OwnW.callS C (pc' := 22) (y := (⟨"java/util/Objects", "requireNonNull", "(Ljava/lang/Object;)Ljava/lang/Object;"⟩ : MethodName)) (W := 2) (argsL := [(.ref y1)]) (rest := [(.int (3 : Int32)), (.ref b1)]) (hw _ (List.mem_of_getElem? (i := 208) rfl)) (hw _ (List.mem_of_getElem? (i := 185) rfl)) (hw _ (List.mem_of_getElem? (i := 186) rfl)) (hw _ (List.mem_of_getElem? (i := 187) rfl)) (by decide) (own_rnn l Z a0 hw y1 h4 n0) (K' := 1) (S' := 5) (by decide) (by decide) rfl own_pd__Ljava_lang_Object__Ljava_lang_Object_ rfl (Nat.le_of_eq rfl) rfl rfl (by decide) (by decide) rfl own_d_jdk_56_method_4_code_19 rfl (fun v h' hq => ?_)
  obtain ⟨rfl, hh⟩ := hq
  refine Go.at (st' := [(.ref y1), (.int (3 : Int32)), (.ref b1)]) rfl ?_
  refine Go.heap hh ?_
  refine OwnW.aastore C (pc' := 23) V_b1 rfl g_b1 ⟨by decide, by decide⟩ (k := 3) rfl (Nat.le_of_ble_eq_true rfl) (sto_of V_b1 O_b1 I_y1) rfl own_d_jdk_56_method_4_code_22 rfl (fun h5 W5 V_b1 => ?_)
  have V_b1 : Arv Z h5 b1 cA_b1 (.object "java/lang/Object") (5 : Int32) [(.ref x1), (.ref y1), (.ref x1), (.ref y1), .null] .null := V_b1
  have KH := KH.wr W5 (Or.inr s_b1)
  have Sz := Nat.le_trans Sz (Keep.of_wr W5).1
  have V_r1 := V_r1.other W5 ne_r1_b1
  have X_b1 := X_b1.wr W5
  have I_x1 := I_x1.wr W5
  have I_y1 := I_y1.wr W5
  refine OwnW.iinc C (pc' := 26) own_d_jdk_56_method_4_code_23 rfl rfl (l' := #[.val (.ref r1), .val (.ref b1), .val (.int (4 : Int32))]) rfl ?_
  refine OwnW.goto C (pc' := 8) own_d_jdk_56_method_4_code_26 (by decide) rfl ?_
  refine OwnW.iloadN C (pc' := 9) own_d_jdk_56_method_4_code_8 rfl rfl ?_
  refine OwnW.aloadN C (pc' := 10) own_d_jdk_56_method_4_code_9 rfl rfl rfl ?_
  refine OwnW.alen C (pc' := 11) V_r1 own_d_jdk_56_method_4_code_10 rfl ?_
  refine OwnW.icGe C (pcY := 29) (pcN := 14) own_d_jdk_56_method_4_code_11 (by decide) rfl rfl (fun hc11_4 => absurd (by decide) hc11_4) (fun hc11_4 => ?_)
  refine OwnW.aloadN C (pc' := 15) own_d_jdk_56_method_4_code_14 rfl rfl rfl ?_
  refine OwnW.iloadN C (pc' := 16) own_d_jdk_56_method_4_code_15 rfl rfl ?_
  refine OwnW.aloadN C (pc' := 17) own_d_jdk_56_method_4_code_16 rfl rfl rfl ?_
  refine OwnW.iloadN C (pc' := 18) own_d_jdk_56_method_4_code_17 rfl rfl ?_
  refine OwnW.aaload C (pc' := 19) V_r1 rfl ⟨by decide, by decide⟩ (v := (.ref x1)) rfl own_d_jdk_56_method_4_code_18 rfl ?_
  refine OwnW.callS C (pc' := 22) (y := (⟨"java/util/Objects", "requireNonNull", "(Ljava/lang/Object;)Ljava/lang/Object;"⟩ : MethodName)) (W := 2) (argsL := [(.ref x1)]) (rest := [(.int (4 : Int32)), (.ref b1)]) (hw _ (List.mem_of_getElem? (i := 208) rfl)) (hw _ (List.mem_of_getElem? (i := 185) rfl)) (hw _ (List.mem_of_getElem? (i := 186) rfl)) (hw _ (List.mem_of_getElem? (i := 187) rfl)) (by decide) (own_rnn l Z a0 hw x1 h5 n0) (K' := 1) (S' := 5) (by decide) (by decide) rfl own_pd__Ljava_lang_Object__Ljava_lang_Object_ rfl (Nat.le_of_eq rfl) rfl rfl (by decide) (by decide) rfl own_d_jdk_56_method_4_code_19 rfl (fun v h' hq => ?_)
  obtain ⟨rfl, hh⟩ := hq
  refine Go.at (st' := [(.ref x1), (.int (4 : Int32)), (.ref b1)]) rfl ?_
  refine Go.heap hh ?_
  refine OwnW.aastore C (pc' := 23) V_b1 rfl g_b1 ⟨by decide, by decide⟩ (k := 4) rfl (Nat.le_of_ble_eq_true rfl) (sto_of V_b1 O_b1 I_x1) rfl own_d_jdk_56_method_4_code_22 rfl (fun h6 W6 V_b1 => ?_)
  have V_b1 : Arv Z h6 b1 cA_b1 (.object "java/lang/Object") (5 : Int32) [(.ref x1), (.ref y1), (.ref x1), (.ref y1), (.ref x1)] .null := V_b1
  have KH := KH.wr W6 (Or.inr s_b1)
  have Sz := Nat.le_trans Sz (Keep.of_wr W6).1
  have V_r1 := V_r1.other W6 ne_r1_b1
  have X_b1 := X_b1.wr W6
  have I_x1 := I_x1.wr W6
  have I_y1 := I_y1.wr W6
  refine OwnW.iinc C (pc' := 26) own_d_jdk_56_method_4_code_23 rfl rfl (l' := #[.val (.ref r1), .val (.ref b1), .val (.int (5 : Int32))]) rfl ?_
  refine OwnW.goto C (pc' := 8) own_d_jdk_56_method_4_code_26 (by decide) rfl ?_
  refine OwnW.iloadN C (pc' := 9) own_d_jdk_56_method_4_code_8 rfl rfl ?_
  refine OwnW.aloadN C (pc' := 10) own_d_jdk_56_method_4_code_9 rfl rfl rfl ?_
  refine OwnW.alen C (pc' := 11) V_r1 own_d_jdk_56_method_4_code_10 rfl ?_
  refine OwnW.icGe C (pcY := 29) (pcN := 14) own_d_jdk_56_method_4_code_11 (by decide) rfl rfl (fun hc11_5 => ?_) (fun hc11_5 => absurd hc11_5 (by decide))
  refine OwnW.newO C (pc' := 32) (K' := 2) (S' := 7) (hw _ (List.mem_of_getElem? (i := 53) rfl)) (hw _ (List.mem_of_getElem? (i := 209) rfl)) (hw _ (List.mem_of_getElem? (i := 84) rfl)) own_d_jdk_56_method_4_code_29 rfl rfl rfl (by decide) (by decide) (fun h7 b7 g7 E7 X_b7 D7 => ?_)
  have ne_r1_b7 : r1 ≠ b7 := Nat.ne_of_lt (Nat.lt_of_lt_of_eq V_r1.lt g7.symm)
  have ne_b1_b7 : b1 ≠ b7 := Nat.ne_of_lt (Nat.lt_of_lt_of_eq X_b1.lt g7.symm)
  have g_b7 : n0 ≤ b7 := Nat.le_trans Sz (Nat.le_of_eq g7.symm)
  have s_b7 : h0.size ≤ b7 := Nat.le_trans KH.1 (Nat.le_of_eq g7.symm)
  have KH := KH.ext E7
  have Sz := Nat.le_trans Sz E7.1
  have V_r1 := V_r1.ext E7
  have X_b1 := X_b1.ext E7
  have V_b1 := V_b1.ext E7
  have F_elements_b7 : Fld Z h7 b7 "java/util/ImmutableCollections$ListN" "elements" "[Ljava/lang/Object;" .null := D7 (Or.inr (hw _ (List.mem_of_getElem? (i := 87) rfl))) (ty := (.array (.object "java/lang/Object"))) (by decide)
  have F_allowNulls_b7 : Fld Z h7 b7 "java/util/ImmutableCollections$ListN" "allowNulls" "Z" (.int (0 : Int32)) := D7 (Or.inr (hw _ (List.mem_of_getElem? (i := 219) rfl))) (ty := .boolean) (by decide)
  refine OwnW.dup C (pc' := 33) own_d_jdk_56_method_4_code_32 rfl rfl ?_
  refine OwnW.aloadN C (pc' := 34) own_d_jdk_56_method_4_code_33 rfl rfl rfl ?_
  refine OwnW.iconst C (pc' := 35) own_d_jdk_56_method_4_code_34 rfl (z := 0) rfl ?_
  refine OwnW.callXN C (pc' := 38) (y := (⟨"java/util/ImmutableCollections$ListN", "<init>", "([Ljava/lang/Object;Z)V"⟩ : MethodName)) (W := 1) (argsL := [(.ref b1), (.int (0 : Int32))]) (rest := [(.ref b7)]) rfl (hw _ (List.mem_of_getElem? (i := 210) rfl)) (hw _ (List.mem_of_getElem? (i := 211) rfl)) (hw _ (List.mem_of_getElem? (i := 84) rfl)) (hw _ (List.mem_of_getElem? (i := 213) rfl)) (by decide) (own_lninit l Z a0 hw b7 b1 h7 n0 X_b7 F_elements_b7 F_allowNulls_b7 g_b7) (K' := 2) (S' := 7) (by decide) (by decide) rfl own_pd___Ljava_lang_Object_Z_V rfl (Nat.le_of_eq rfl) rfl rfl (by decide) (by decide) rfl own_d_jdk_56_method_4_code_35 rfl (fun v h99 hq => ?_)
  obtain ⟨rfl, KK, FE⟩ := hq
  refine Go.at (st' := [(.ref b7)]) rfl ?_
  have KH := KH.trans KK (allS (Or.inr s_b7) all0)
  have X_b7 := X_b7.keep KK
  have V_b1 := V_b1.keep KK (ninS ne_b1_b7 nin0)
  exact OwnW.retA C rfl rfl rfl ⟨b7, rfl, s_b7, KH, X_b7, b1, cA_b1, FE, V_b1⟩ (by decide) (by decide) own_d_jdk_56_method_4_code_38
set_option maxRecDepth 65536 in
set_option maxHeartbeats 40000000 in
theorem own_ofArr_5 (l : Launch) (Z : State) (a0 : Array Value) (hw : ∀ d ∈ tables_1, d.before a0 Z = true) (r1 : Addr) (x1 y1 : Addr) (cR : ClassId) (h0 : Heap) (n0 : Nat) (Sz : n0 ≤ h0.size) (V_r1 : Arv Z h0 r1 cR (.object "java/lang/Object") (5 : Int32) [.ref x1, .ref y1, .ref x1, .ref y1, .ref x1] .null) (I_x1 : Ins Z h0 x1 "java/lang/Object" true) (I_y1 : Ins Z h0 y1 "java/lang/Object" true) :
    Ctr l Z (⟨"java/util/List", "of", "([Ljava/lang/Object;)Ljava/util/List;"⟩ : MethodName) jdk_40_method_47_code 2 (some (.object "java/util/List")) ({ frames := 6, cells := 2, slots := 7, locals := 77 } : Room) #[(.ref r1)] h0 n0 (fun v h => ∃ r, v = some (.ref r) ∧ h0.size ≤ r ∧ Keep h0 h [] ∧ Exa Z h r "java/util/ImmutableCollections$ListN" ∧ ∃ (ar : Addr) (cR : ClassId), Fld Z h r "java/util/ImmutableCollections$ListN" "elements" "[Ljava/lang/Object;" (.ref ar) ∧ Arv Z h ar cR (.object "java/lang/Object") (5 : Int32) [.ref x1, .ref y1, .ref x1, .ref y1, .ref x1] .null) := by
  refine Ctr.of (plainFor_of_name own_pn_List) ?_
  intro p e s m below meth c C
  refine Go.frame (g' := mkF m 0 #[.val (.ref r1), .unset] []) (by first | (simp [entryFrame, mkF, argsToLocals, Value.category]; done) | rfl) ?_
  have KH := Keep.refl h0 []
  refine OwnW.aloadN C (pc' := 1) own_d_jdk_40_method_47_code_0 rfl rfl rfl ?_
  refine OwnW.alen C (pc' := 2) V_r1 own_d_jdk_40_method_47_code_1 rfl ?_
  refine OwnW.tswD C (pc' := 59) own_d_jdk_40_method_47_code_2 (by decide) (by decide) rfl ?_
  refine OwnW.aloadN C (pc' := 60) own_d_jdk_40_method_47_code_59 rfl rfl rfl ?_
  refine OwnW.callS C (pc' := 63) (y := (⟨"java/util/ImmutableCollections", "listFromArray", "([Ljava/lang/Object;)Ljava/util/List;"⟩ : MethodName)) (W := 0) (argsL := [(.ref r1)]) (rest := []) (hw _ (List.mem_of_getElem? (i := 204) rfl)) (hw _ (List.mem_of_getElem? (i := 205) rfl)) (hw _ (List.mem_of_getElem? (i := 46) rfl)) (hw _ (List.mem_of_getElem? (i := 206) rfl)) (by decide) (own_lfa_5 l Z a0 hw r1 x1 y1 cR h0 n0 Sz V_r1 I_x1 I_y1) (K' := 2) (S' := 7) (by decide) (by decide) rfl own_pd___Ljava_lang_Object__Ljava_util_List_ rfl (Nat.le_of_eq rfl) rfl rfl (by decide) (by decide) rfl own_d_jdk_40_method_47_code_60 rfl (fun v h1 hq => ?_)
  obtain ⟨r, rfl, hr, KK, QQ⟩ := hq
  refine Go.at (st' := [(.ref r)]) rfl ?_
  exact OwnW.retA C rfl rfl rfl ⟨r, rfl, hr, KK, QQ⟩ (by decide) (by decide) own_d_jdk_40_method_47_code_63
set_option maxRecDepth 65536 in
set_option maxHeartbeats 40000000 in
theorem own_listCopy_5 (l : Launch) (Z : State) (a0 : Array Value) (hw : ∀ d ∈ tables_1, d.before a0 Z = true) (l1 b mr : Addr) (x1 y1 : Addr) (vs : List Value) (cO : ClassId) (h0 : Heap) (n0 : Nat) (Sz : n0 ≤ h0.size) (X_l1 : Exa Z h0 l1 "java/util/ArrayList") (F_elementData_l1 : Fld Z h0 l1 "java/util/ArrayList" "elementData" "[Ljava/lang/Object;" (.ref b)) (F_size_l1 : Fld Z h0 l1 "java/util/ArrayList" "size" "I" (.int 5)) (X_b : Exa Z h0 b "[Ljava/lang/Object;") (V_b : Arv Z h0 b cO (.object "java/lang/Object") 10 vs .null) (M : Mi Z "[Ljava/lang/Object;" mr) (hus : [.ref x1, .ref y1, .ref x1, .ref y1, .ref x1] = (List.range (5 : Int32).toNatClampNeg).map fun i => vs.getD ((0 : Int32).toNatClampNeg + i) .null) (I_x1 : Ins Z h0 x1 "java/lang/Object" true) (I_y1 : Ins Z h0 y1 "java/lang/Object" true) :
    Ctr l Z (⟨"java/util/ImmutableCollections", "listCopy", "(Ljava/util/Collection;)Ljava/util/List;"⟩ : MethodName) jdk_56_method_3_code 2 (some (.object "java/util/List")) ({ frames := 7, cells := 3, slots := 12, locals := 90 } : Room) #[(.ref l1)] h0 n0 (fun v h => ∃ r, v = some (.ref r) ∧ h0.size ≤ r ∧ Keep h0 h [] ∧ Exa Z h r "java/util/ImmutableCollections$ListN" ∧ ∃ (ar : Addr) (cR : ClassId), Fld Z h r "java/util/ImmutableCollections$ListN" "elements" "[Ljava/lang/Object;" (.ref ar) ∧ Arv Z h ar cR (.object "java/lang/Object") (5 : Int32) [.ref x1, .ref y1, .ref x1, .ref y1, .ref x1] .null) := by
  refine Ctr.of (plainFor_of_name own_pn_ImmutableCollections) ?_
  intro p e s m below meth c C
  refine Go.frame (g' := mkF m 0 #[.val (.ref l1), .unset] []) (by first | (simp [entryFrame, mkF, argsToLocals, Value.category]; done) | rfl) ?_
  refine OwnW.aloadN C (pc' := 1) own_d_jdk_56_method_3_code_0 rfl rfl rfl ?_
  refine OwnW.instNo C (pc' := 4) (hw _ (List.mem_of_getElem? (i := 48) rfl)) X_l1 (own_nsno (hw _ (List.mem_of_getElem? (i := 49) rfl)) (hw _ (List.mem_of_getElem? (i := 164) rfl)) (NS.step (hw _ (List.mem_of_getElem? (i := 49) rfl)) (NS.step (hw _ (List.mem_of_getElem? (i := 50) rfl)) (NS.step (hw _ (List.mem_of_getElem? (i := 51) rfl)) (own_nsroot (hw _ (List.mem_of_getElem? (i := 52) rfl)) (hw _ (List.mem_of_getElem? (i := 164) rfl)) (by decide)) (by decide)) (by decide)) (by decide)) (by decide)) own_d_jdk_56_method_3_code_1 rfl ?_
  refine OwnW.ifNe C (pcY := 26) (pcN := 7) own_d_jdk_56_method_3_code_4 (by decide) rfl rfl (fun hc4 => absurd rfl hc4) (fun hc4 => ?_)
  refine OwnW.aloadN C (pc' := 8) own_d_jdk_56_method_3_code_7 rfl rfl rfl ?_
  refine OwnW.instNo C (pc' := 11) (hw _ (List.mem_of_getElem? (i := 53) rfl)) X_l1 (own_nsno (hw _ (List.mem_of_getElem? (i := 49) rfl)) (hw _ (List.mem_of_getElem? (i := 209) rfl)) (NS.step (hw _ (List.mem_of_getElem? (i := 49) rfl)) (NS.step (hw _ (List.mem_of_getElem? (i := 50) rfl)) (NS.step (hw _ (List.mem_of_getElem? (i := 51) rfl)) (own_nsroot (hw _ (List.mem_of_getElem? (i := 52) rfl)) (hw _ (List.mem_of_getElem? (i := 209) rfl)) (by decide)) (by decide)) (by decide)) (by decide)) (by decide)) own_d_jdk_56_method_3_code_8 rfl ?_
  refine OwnW.ifEq C (pcY := 31) (pcN := 14) own_d_jdk_56_method_3_code_11 (by decide) rfl rfl (fun hc11 => ?_) (fun hc11 => absurd rfl hc11)
  refine OwnW.aloadN C (pc' := 32) own_d_jdk_56_method_3_code_31 rfl rfl rfl ?_
  refine OwnW.callI C (pc' := 37) (y := (⟨"java/util/Collection", "isEmpty", "()Z"⟩ : MethodName)) (z := (⟨"java/util/ArrayList", "isEmpty", "()Z"⟩ : MethodName)) (W := 0) (argsL := []) (rest := []) (hw _ (List.mem_of_getElem? (i := 54) rfl)) (hw _ (List.mem_of_getElem? (i := 55) rfl)) (hw _ (List.mem_of_getElem? (i := 56) rfl)) (by first | rfl | decide) (hw _ (List.mem_of_getElem? (i := 57) rfl)) (hw _ (List.mem_of_getElem? (i := 58) rfl)) (hw _ (List.mem_of_getElem? (i := 59) rfl)) (hw _ (List.mem_of_getElem? (i := 60) rfl)) (hw _ (List.mem_of_getElem? (i := 61) rfl)) (hw _ (List.mem_of_getElem? (i := 2) rfl)) (hw _ (List.mem_of_getElem? (i := 62) rfl)) X_l1 (by decide) (own_alEmpty l Z a0 hw l1 5 h0 n0 F_size_l1) (K' := 0) (S' := 0) (by decide) (by decide) rfl own_pd___Z rfl (Nat.le_of_eq rfl) rfl rfl (by decide) (by decide) rfl own_d_jdk_56_method_3_code_32 rfl (fun v h' hq => ?_)
  obtain ⟨rfl, hh⟩ := hq
  refine Go.at (st' := [(.int (if (5 : Int32) = 0 then (1 : Int32) else 0))]) rfl ?_
  refine Go.heap hh ?_
  refine OwnW.ifEq C (pcY := 44) (pcN := 40) own_d_jdk_56_method_3_code_37 (by decide) rfl rfl (fun hc37 => ?_) (fun hc37 => absurd rfl hc37)
  refine OwnW.aloadN C (pc' := 45) own_d_jdk_56_method_3_code_44 rfl rfl rfl ?_
  refine OwnW.callI C (pc' := 50) (y := (⟨"java/util/Collection", "toArray", "()[Ljava/lang/Object;"⟩ : MethodName)) (z := (⟨"java/util/ArrayList", "toArray", "()[Ljava/lang/Object;"⟩ : MethodName)) (W := 0) (argsL := []) (rest := []) (hw _ (List.mem_of_getElem? (i := 130) rfl)) (hw _ (List.mem_of_getElem? (i := 131) rfl)) (hw _ (List.mem_of_getElem? (i := 132) rfl)) (by first | rfl | decide) (hw _ (List.mem_of_getElem? (i := 133) rfl)) (hw _ (List.mem_of_getElem? (i := 134) rfl)) (hw _ (List.mem_of_getElem? (i := 135) rfl)) (hw _ (List.mem_of_getElem? (i := 136) rfl)) (hw _ (List.mem_of_getElem? (i := 61) rfl)) (hw _ (List.mem_of_getElem? (i := 2) rfl)) (hw _ (List.mem_of_getElem? (i := 137) rfl)) X_l1 (by decide) (own_toArray_5 l Z a0 hw l1 b mr x1 y1 vs cO h0 n0 F_elementData_l1 F_size_l1 Sz X_b V_b M hus I_x1 I_y1) (K' := 1) (S' := 5) (by decide) (by decide) rfl own_pd____Ljava_lang_Object_ rfl (Nat.le_of_eq rfl) rfl rfl (by decide) (by decide) rfl own_d_jdk_56_method_3_code_45 rfl (fun v h1 hq => ?_)
  obtain ⟨r1, cR, rfl, hr1, K1, V_r1⟩ := hq
  refine Go.at (st' := [(.ref r1)]) rfl ?_
  have Sz1 := Nat.le_trans Sz K1.1
  have I_x1 := ins_keep I_x1 K1
  have I_y1 := ins_keep I_y1 K1
  refine OwnW.callS C (pc' := 53) (y := (⟨"java/util/List", "of", "([Ljava/lang/Object;)Ljava/util/List;"⟩ : MethodName)) (W := 0) (argsL := [(.ref r1)]) (rest := []) (hw _ (List.mem_of_getElem? (i := 160) rfl)) (hw _ (List.mem_of_getElem? (i := 161) rfl)) (hw _ (List.mem_of_getElem? (i := 42) rfl)) (hw _ (List.mem_of_getElem? (i := 162) rfl)) (by decide) (own_ofArr_5 l Z a0 hw r1 x1 y1 cR h1 n0 Sz1 V_r1 I_x1 I_y1) (K' := 3) (S' := 12) (by decide) (by decide) rfl own_pd___Ljava_lang_Object__Ljava_util_List_ rfl (Nat.le_of_eq rfl) rfl rfl (by decide) (by decide) rfl own_d_jdk_56_method_3_code_50 rfl (fun v h2 hq => ?_)
  obtain ⟨r, rfl, hr, KK, QQ⟩ := hq
  refine Go.at (st' := [(.ref r)]) rfl ?_
  have KH := K1.trans KK all0
  have hr := Nat.le_trans K1.1 hr
  exact OwnW.retA C rfl rfl rfl ⟨r, rfl, hr, KH, QQ⟩ (by decide) (by decide) own_d_jdk_56_method_3_code_53
set_option maxRecDepth 65536 in
set_option maxHeartbeats 40000000 in
theorem own_copyOf_5 (l : Launch) (Z : State) (a0 : Array Value) (hw : ∀ d ∈ tables_1, d.before a0 Z = true) (l1 b mr : Addr) (x1 y1 : Addr) (vs : List Value) (cO : ClassId) (h0 : Heap) (n0 : Nat) (Sz : n0 ≤ h0.size) (X_l1 : Exa Z h0 l1 "java/util/ArrayList") (F_elementData_l1 : Fld Z h0 l1 "java/util/ArrayList" "elementData" "[Ljava/lang/Object;" (.ref b)) (F_size_l1 : Fld Z h0 l1 "java/util/ArrayList" "size" "I" (.int 5)) (X_b : Exa Z h0 b "[Ljava/lang/Object;") (V_b : Arv Z h0 b cO (.object "java/lang/Object") 10 vs .null) (M : Mi Z "[Ljava/lang/Object;" mr) (hus : [.ref x1, .ref y1, .ref x1, .ref y1, .ref x1] = (List.range (5 : Int32).toNatClampNeg).map fun i => vs.getD ((0 : Int32).toNatClampNeg + i) .null) (I_x1 : Ins Z h0 x1 "java/lang/Object" true) (I_y1 : Ins Z h0 y1 "java/lang/Object" true) :
    Ctr l Z (⟨"java/util/List", "copyOf", "(Ljava/util/Collection;)Ljava/util/List;"⟩ : MethodName) jdk_40_method_48_code 1 (some (.object "java/util/List")) ({ frames := 8, cells := 3, slots := 12, locals := 103 } : Room) #[(.ref l1)] h0 n0 (fun v h => ∃ r, v = some (.ref r) ∧ h0.size ≤ r ∧ Keep h0 h [] ∧ Exa Z h r "java/util/ImmutableCollections$ListN" ∧ ∃ (ar : Addr) (cR : ClassId), Fld Z h r "java/util/ImmutableCollections$ListN" "elements" "[Ljava/lang/Object;" (.ref ar) ∧ Arv Z h ar cR (.object "java/lang/Object") (5 : Int32) [.ref x1, .ref y1, .ref x1, .ref y1, .ref x1] .null) := by
  refine Ctr.of (plainFor_of_name own_pn_List) ?_
  intro p e s m below meth c C
  refine Go.frame (g' := mkF m 0 #[.val (.ref l1)] []) (by first | (simp [entryFrame, mkF, argsToLocals, Value.category]; done) | rfl) ?_
  refine OwnW.aloadN C (pc' := 1) own_d_jdk_40_method_48_code_0 rfl rfl rfl ?_
  refine OwnW.callS C (pc' := 4) (y := (⟨"java/util/ImmutableCollections", "listCopy", "(Ljava/util/Collection;)Ljava/util/List;"⟩ : MethodName)) (W := 0) (argsL := [(.ref l1)]) (rest := []) (hw _ (List.mem_of_getElem? (i := 44) rfl)) (hw _ (List.mem_of_getElem? (i := 45) rfl)) (hw _ (List.mem_of_getElem? (i := 46) rfl)) (hw _ (List.mem_of_getElem? (i := 47) rfl)) (by decide) (own_listCopy_5 l Z a0 hw l1 b mr x1 y1 vs cO h0 n0 Sz X_l1 F_elementData_l1 F_size_l1 X_b V_b M hus I_x1 I_y1) (K' := 3) (S' := 12) (by decide) (by decide) rfl own_pd__Ljava_util_Collection__Ljava_util_List_ rfl (Nat.le_of_eq rfl) rfl rfl (by decide) (by decide) rfl own_d_jdk_40_method_48_code_1 rfl (fun v h1 hq => ?_)
  obtain ⟨r, rfl, hr, KK, QQ⟩ := hq
  refine Go.at (st' := [(.ref r)]) rfl ?_
  exact OwnW.retA C rfl rfl rfl ⟨r, rfl, hr, KK, QQ⟩ (by decide) (by decide) own_d_jdk_40_method_48_code_4
set_option maxRecDepth 65536 in
set_option maxHeartbeats 40000000 in
theorem own_copy3_6 (l : Launch) (Z : State) (a0 : Array Value) (hw : ∀ d ∈ tables_1, d.before a0 Z = true) (b mr : Addr) (x1 y1 : Addr) (vs : List Value) (cO : ClassId) (h0 : Heap) (n0 : Nat) (Sz : n0 ≤ h0.size) (V_b : Arv Z h0 b cO (.object "java/lang/Object") 10 vs .null) (M : Mi Z "[Ljava/lang/Object;" mr) (hus : [.ref x1, .ref y1, .ref x1, .ref y1, .ref x1, .ref y1] = (List.range (6 : Int32).toNatClampNeg).map fun i => vs.getD ((0 : Int32).toNatClampNeg + i) .null) (I_x1 : Ins Z h0 x1 "java/lang/Object" true) (I_y1 : Ins Z h0 y1 "java/lang/Object" true) :
    Ctr l Z (⟨"java/util/Arrays", "copyOf", "([Ljava/lang/Object;ILjava/lang/Class;)[Ljava/lang/Object;"⟩ : MethodName) jdk_65_method_120_code 4 (some (.array (.object "java/lang/Object"))) ({ frames := 2, cells := 1, slots := 6, locals := 32 } : Room) #[(.ref b), (.int (6 : Int32)), (.ref mr)] h0 n0 (fun v h => ∃ (r : Addr) (cR : ClassId), v = some (.ref r) ∧ h0.size ≤ r ∧ Keep h0 h [] ∧ Arv Z h r cR (.object "java/lang/Object") (6 : Int32) [.ref x1, .ref y1, .ref x1, .ref y1, .ref x1, .ref y1] .null) := by
  refine Ctr.of (plainFor_of_name own_pn_Arrays) ?_
  intro p e s m below meth c C
  refine Go.frame (g' := mkF m 0 #[.val (.ref b), .val (.int (6 : Int32)), .val (.ref mr), .unset] []) (by first | (simp [entryFrame, mkF, argsToLocals, Value.category]; done) | rfl) ?_
  have KH := Keep.refl h0 []
  refine OwnW.aloadN C (pc' := 1) own_d_jdk_65_method_120_code_0 rfl rfl rfl ?_
  refine OwnW.ldcMi C (pc' := 3) (hw _ (List.mem_of_getElem? (i := 151) rfl)) M own_d_jdk_65_method_120_code_1 rfl ?_
  refine OwnW.acNe C (pcY := 13) (pcN := 6) rfl rfl own_d_jdk_65_method_120_code_3 (by decide) rfl rfl (fun hc3 => absurd rfl hc3) (fun hc3 => ?_)
  refine OwnW.iloadN C (pc' := 7) own_d_jdk_65_method_120_code_6 rfl rfl ?_
  refine OwnW.newR C (pc' := 10) (K' := 1) (S' := 6) (ad := "[Ljava/lang/Object;") (by decide +kernel) (hw _ (List.mem_of_getElem? (i := 152) rfl)) (hw _ (List.mem_of_getElem? (i := 128) rfl)) (cap := 6) (by decide) (by decide) (by decide) own_d_jdk_65_method_120_code_7 rfl rfl rfl (by decide) (by decide) (fun h1 b1 cA_b1 g1 E1 V_b1 X_b1 O_b1 => ?_)
  have ne_b_b1 : b ≠ b1 := Nat.ne_of_lt (Nat.lt_of_lt_of_eq V_b.lt g1.symm)
  have g_b1 : n0 ≤ b1 := Nat.le_trans Sz (Nat.le_of_eq g1.symm)
  have s_b1 : h0.size ≤ b1 := Nat.le_trans KH.1 (Nat.le_of_eq g1.symm)
  have KH := KH.ext E1
  have Sz := Nat.le_trans Sz E1.1
  have V_b := V_b.ext E1
  have V_b1 : Arv Z h1 b1 cA_b1 (.object "java/lang/Object") (6 : Int32) [.null, .null, .null, .null, .null, .null] .null := V_b1.pad (pad_rep [] .null 6)
  have I_x1 := I_x1.ext E1
  have I_y1 := I_y1.ext E1
  refine OwnW.goto C (pc' := 24) own_d_jdk_65_method_120_code_10 (by decide) rfl ?_
  refine OwnW.astoreN C (pc' := 25) own_d_jdk_65_method_120_code_24 rfl rfl (l' := #[.val (.ref b), .val (.int (6 : Int32)), .val (.ref mr), .val (.ref b1)]) rfl ?_
  refine OwnW.aloadN C (pc' := 26) own_d_jdk_65_method_120_code_25 rfl rfl rfl ?_
  refine OwnW.iconst C (pc' := 27) own_d_jdk_65_method_120_code_26 rfl (z := 0) rfl ?_
  refine OwnW.aloadN C (pc' := 28) own_d_jdk_65_method_120_code_27 rfl rfl rfl ?_
  refine OwnW.iconst C (pc' := 29) own_d_jdk_65_method_120_code_28 rfl (z := 0) rfl ?_
  refine OwnW.aloadN C (pc' := 30) own_d_jdk_65_method_120_code_29 rfl rfl rfl ?_
  refine OwnW.alen C (pc' := 31) V_b own_d_jdk_65_method_120_code_30 rfl ?_
  refine OwnW.iloadN C (pc' := 32) own_d_jdk_65_method_120_code_31 rfl rfl ?_
  refine OwnW.callS C (pc' := 35) (y := (⟨"java/lang/Math", "min", "(II)I"⟩ : MethodName)) (W := 4) (argsL := [(.int (10 : Int32)), (.int (6 : Int32))]) (rest := [(.int (0 : Int32)), (.ref b1), (.int (0 : Int32)), (.ref b)]) (hw _ (List.mem_of_getElem? (i := 153) rfl)) (hw _ (List.mem_of_getElem? (i := 154) rfl)) (hw _ (List.mem_of_getElem? (i := 125) rfl)) (hw _ (List.mem_of_getElem? (i := 155) rfl)) (by decide) (own_minI l Z a0 hw 10 6 h1 n0) (K' := 1) (S' := 6) (by decide) (by decide) rfl own_pd__II_I rfl (Nat.le_of_eq rfl) rfl rfl (by decide) (by decide) rfl own_d_jdk_65_method_120_code_32 rfl (fun v h' hq => ?_)
  obtain ⟨rfl, hh⟩ := hq
  refine Go.at (st' := [(.int (if (6 : Int32) < 10 then (6 : Int32) else 10)), (.int (0 : Int32)), (.ref b1), (.int (0 : Int32)), (.ref b)]) rfl ?_
  refine Go.heap hh ?_
  rw [show (if (6 : Int32) < 10 then (6 : Int32) else 10) = 6 from rfl]
  refine OwnW.acopy C (pc' := 38) (us := [.ref x1, .ref y1, .ref x1, .ref y1, .ref x1, .ref y1]) (hw _ (List.mem_of_getElem? (i := 156) rfl)) (hw _ (List.mem_of_getElem? (i := 159) rfl)) (hw _ (List.mem_of_getElem? (i := 157) rfl)) (hw _ (List.mem_of_getElem? (i := 158) rfl)) V_b V_b1 (Or.inr ⟨rfl, rfl, ⟨sto_of V_b1 O_b1 I_x1, ⟨sto_of V_b1 O_b1 I_y1, ⟨sto_of V_b1 O_b1 I_x1, ⟨sto_of V_b1 O_b1 I_y1, ⟨sto_of V_b1 O_b1 I_x1, ⟨sto_of V_b1 O_b1 I_y1, trivial⟩⟩⟩⟩⟩⟩⟩) (by decide) (by decide) (by decide) (by decide) (by decide) hus (Nat.le_of_ble_eq_true rfl) g_b1 rfl (by decide) (W := 0) (Nat.le_of_eq rfl) (by decide +kernel) own_d_jdk_65_method_120_code_35 rfl (fun h2 KK V_b1 => ?_)
  have KH := KH.trans KK (allS (Or.inr s_b1) all0)
  have V_b1 : Arv Z h2 b1 cA_b1 (.object "java/lang/Object") (6 : Int32) [.ref x1, .ref y1, .ref x1, .ref y1, .ref x1, .ref y1] .null := V_b1
  refine OwnW.aloadN C (pc' := 39) own_d_jdk_65_method_120_code_38 rfl rfl rfl ?_
  exact OwnW.retA C rfl rfl rfl ⟨b1, cA_b1, rfl, s_b1, KH, V_b1⟩ (by decide) (by decide) own_d_jdk_65_method_120_code_39
set_option maxRecDepth 65536 in
set_option maxHeartbeats 40000000 in
theorem own_copy2_6 (l : Launch) (Z : State) (a0 : Array Value) (hw : ∀ d ∈ tables_1, d.before a0 Z = true) (b mr : Addr) (x1 y1 : Addr) (vs : List Value) (cO : ClassId) (h0 : Heap) (n0 : Nat) (Sz : n0 ≤ h0.size) (X_b : Exa Z h0 b "[Ljava/lang/Object;") (V_b : Arv Z h0 b cO (.object "java/lang/Object") 10 vs .null) (M : Mi Z "[Ljava/lang/Object;" mr) (hus : [.ref x1, .ref y1, .ref x1, .ref y1, .ref x1, .ref y1] = (List.range (6 : Int32).toNatClampNeg).map fun i => vs.getD ((0 : Int32).toNatClampNeg + i) .null) (I_x1 : Ins Z h0 x1 "java/lang/Object" true) (I_y1 : Ins Z h0 y1 "java/lang/Object" true) :
    Ctr l Z (⟨"java/util/Arrays", "copyOf", "([Ljava/lang/Object;I)[Ljava/lang/Object;"⟩ : MethodName) jdk_65_method_119_code 2 (some (.array (.object "java/lang/Object"))) ({ frames := 3, cells := 1, slots := 6, locals := 47 } : Room) #[(.ref b), (.int (6 : Int32))] h0 n0 (fun v h => ∃ (r : Addr) (cR : ClassId), v = some (.ref r) ∧ h0.size ≤ r ∧ Keep h0 h [] ∧ Arv Z h r cR (.object "java/lang/Object") (6 : Int32) [.ref x1, .ref y1, .ref x1, .ref y1, .ref x1, .ref y1] .null) := by
  refine Ctr.of (plainFor_of_name own_pn_Arrays) ?_
  intro p e s m below meth c C
  refine Go.frame (g' := mkF m 0 #[.val (.ref b), .val (.int (6 : Int32))] []) (by first | (simp [entryFrame, mkF, argsToLocals, Value.category]; done) | rfl) ?_
  refine OwnW.aloadN C (pc' := 1) own_d_jdk_65_method_119_code_0 rfl rfl rfl ?_
  refine OwnW.iloadN C (pc' := 2) own_d_jdk_65_method_119_code_1 rfl rfl ?_
  refine OwnW.aloadN C (pc' := 3) own_d_jdk_65_method_119_code_2 rfl rfl rfl ?_
  refine OwnW.getCls C (pc' := 6) (hw _ (List.mem_of_getElem? (i := 142) rfl)) (hw _ (List.mem_of_getElem? (i := 143) rfl)) (hw _ (List.mem_of_getElem? (i := 52) rfl)) (hw _ (List.mem_of_getElem? (i := 145) rfl)) (hw _ (List.mem_of_getElem? (i := 144) rfl)) (hw _ (List.mem_of_getElem? (i := 146) rfl)) X_b M rfl (by decide) (W := 2) (Nat.le_of_eq rfl) (by decide +kernel) own_d_jdk_65_method_119_code_3 rfl ?_
  refine OwnW.callS C (pc' := 9) (y := (⟨"java/util/Arrays", "copyOf", "([Ljava/lang/Object;ILjava/lang/Class;)[Ljava/lang/Object;"⟩ : MethodName)) (W := 0) (argsL := [(.ref b), (.int (6 : Int32)), (.ref mr)]) (rest := []) (hw _ (List.mem_of_getElem? (i := 148) rfl)) (hw _ (List.mem_of_getElem? (i := 149) rfl)) (hw _ (List.mem_of_getElem? (i := 140) rfl)) (hw _ (List.mem_of_getElem? (i := 150) rfl)) (by decide) (own_copy3_6 l Z a0 hw b mr x1 y1 vs cO h0 n0 Sz V_b M hus I_x1 I_y1) (K' := 1) (S' := 6) (by decide) (by decide) rfl own_pd___Ljava_lang_Object_ILjava_lang_Class___Ljava_lang_Object_ rfl (Nat.le_of_eq rfl) rfl rfl (by decide) (by decide) rfl own_d_jdk_65_method_119_code_6 rfl (fun v h1 hq => ?_)
  obtain ⟨r, cR, rfl, hr, KK, V⟩ := hq
  refine Go.at (st' := [(.ref r)]) rfl ?_
  exact OwnW.retA C rfl rfl rfl ⟨r, cR, rfl, hr, KK, V⟩ (by decide) (by decide) own_d_jdk_65_method_119_code_9
set_option maxRecDepth 65536 in
set_option maxHeartbeats 40000000 in
theorem own_toArray_6 (l : Launch) (Z : State) (a0 : Array Value) (hw : ∀ d ∈ tables_1, d.before a0 Z = true) (l1 : Addr) (b mr : Addr) (x1 y1 : Addr) (vs : List Value) (cO : ClassId) (h0 : Heap) (n0 : Nat) (F_elementData_l1 : Fld Z h0 l1 "java/util/ArrayList" "elementData" "[Ljava/lang/Object;" (.ref b)) (F_size_l1 : Fld Z h0 l1 "java/util/ArrayList" "size" "I" (.int 6)) (Sz : n0 ≤ h0.size) (X_b : Exa Z h0 b "[Ljava/lang/Object;") (V_b : Arv Z h0 b cO (.object "java/lang/Object") 10 vs .null) (M : Mi Z "[Ljava/lang/Object;" mr) (hus : [.ref x1, .ref y1, .ref x1, .ref y1, .ref x1, .ref y1] = (List.range (6 : Int32).toNatClampNeg).map fun i => vs.getD ((0 : Int32).toNatClampNeg + i) .null) (I_x1 : Ins Z h0 x1 "java/lang/Object" true) (I_y1 : Ins Z h0 y1 "java/lang/Object" true) :
    Ctr l Z (⟨"java/util/ArrayList", "toArray", "()[Ljava/lang/Object;"⟩ : MethodName) jdk_38_method_16_code 1 (some (.array (.object "java/lang/Object"))) ({ frames := 4, cells := 1, slots := 6, locals := 60 } : Room) #[(.ref l1)] h0 n0 (fun v h => ∃ (r : Addr) (cR : ClassId), v = some (.ref r) ∧ h0.size ≤ r ∧ Keep h0 h [] ∧ Arv Z h r cR (.object "java/lang/Object") (6 : Int32) [.ref x1, .ref y1, .ref x1, .ref y1, .ref x1, .ref y1] .null) := by
  refine Ctr.of (plainFor_of_name own_pn_ArrayList) ?_
  intro p e s m below meth c C
  refine Go.frame (g' := mkF m 0 #[.val (.ref l1)] []) (by first | (simp [entryFrame, mkF, argsToLocals, Value.category]; done) | rfl) ?_
  refine OwnW.aloadN C (pc' := 1) own_d_jdk_38_method_16_code_0 rfl rfl rfl ?_
  refine OwnW.getF C (pc' := 4) (host := "") (Or.inl (hw _ (List.mem_of_getElem? (i := 24) rfl))) Via.refl F_elementData_l1 own_d_jdk_38_method_16_code_1 rfl ?_
  refine OwnW.aloadN C (pc' := 5) own_d_jdk_38_method_16_code_4 rfl rfl rfl ?_
  refine OwnW.getF C (pc' := 8) (host := "") (Or.inl (hw _ (List.mem_of_getElem? (i := 63) rfl))) Via.refl F_size_l1 own_d_jdk_38_method_16_code_5 rfl ?_
  refine OwnW.callS C (pc' := 11) (y := (⟨"java/util/Arrays", "copyOf", "([Ljava/lang/Object;I)[Ljava/lang/Object;"⟩ : MethodName)) (W := 0) (argsL := [(.ref b), (.int (6 : Int32))]) (rest := []) (hw _ (List.mem_of_getElem? (i := 138) rfl)) (hw _ (List.mem_of_getElem? (i := 139) rfl)) (hw _ (List.mem_of_getElem? (i := 140) rfl)) (hw _ (List.mem_of_getElem? (i := 141) rfl)) (by decide) (own_copy2_6 l Z a0 hw b mr x1 y1 vs cO h0 n0 Sz X_b V_b M hus I_x1 I_y1) (K' := 1) (S' := 6) (by decide) (by decide) rfl own_pd___Ljava_lang_Object_I__Ljava_lang_Object_ rfl (Nat.le_of_eq rfl) rfl rfl (by decide) (by decide) rfl own_d_jdk_38_method_16_code_8 rfl (fun v h1 hq => ?_)
  obtain ⟨r, cR, rfl, hr, KK, V⟩ := hq
  refine Go.at (st' := [(.ref r)]) rfl ?_
  exact OwnW.retA C rfl rfl rfl ⟨r, cR, rfl, hr, KK, V⟩ (by decide) (by decide) own_d_jdk_38_method_16_code_11
set_option maxRecDepth 65536 in
set_option maxHeartbeats 40000000 in
theorem own_lfa_6 (l : Launch) (Z : State) (a0 : Array Value) (hw : ∀ d ∈ tables_1, d.before a0 Z = true) (r1 : Addr) (x1 y1 : Addr) (cR : ClassId) (h0 : Heap) (n0 : Nat) (Sz : n0 ≤ h0.size) (V_r1 : Arv Z h0 r1 cR (.object "java/lang/Object") (6 : Int32) [.ref x1, .ref y1, .ref x1, .ref y1, .ref x1, .ref y1] .null) (I_x1 : Ins Z h0 x1 "java/lang/Object" true) (I_y1 : Ins Z h0 y1 "java/lang/Object" true) :
    Ctr l Z (⟨"java/util/ImmutableCollections", "listFromArray", "([Ljava/lang/Object;)Ljava/util/List;"⟩ : MethodName) jdk_56_method_4_code 3 (some (.object "java/util/List")) ({ frames := 5, cells := 2, slots := 8, locals := 63 } : Room) #[(.ref r1)] h0 n0 (fun v h => ∃ r, v = some (.ref r) ∧ h0.size ≤ r ∧ Keep h0 h [] ∧ Exa Z h r "java/util/ImmutableCollections$ListN" ∧ ∃ (ar : Addr) (cR : ClassId), Fld Z h r "java/util/ImmutableCollections$ListN" "elements" "[Ljava/lang/Object;" (.ref ar) ∧ Arv Z h ar cR (.object "java/lang/Object") (6 : Int32) [.ref x1, .ref y1, .ref x1, .ref y1, .ref x1, .ref y1] .null) := by
  refine Ctr.of (plainFor_of_name own_pn_ImmutableCollections) ?_
  intro p e s m below meth c C
  refine Go.frame (g' := mkF m 0 #[.val (.ref r1), .unset, .unset] []) (by first | (simp [entryFrame, mkF, argsToLocals, Value.category]; done) | rfl) ?_
  have KH := Keep.refl h0 []
  refine OwnW.aloadN C (pc' := 1) own_d_jdk_56_method_4_code_0 rfl rfl rfl ?_
  refine OwnW.alen C (pc' := 2) V_r1 own_d_jdk_56_method_4_code_1 rfl ?_
  refine OwnW.newR C (pc' := 5) (K' := 1) (S' := 6) (ad := "[Ljava/lang/Object;") (by decide +kernel) (hw _ (List.mem_of_getElem? (i := 207) rfl)) (hw _ (List.mem_of_getElem? (i := 128) rfl)) (cap := 6) (by decide) (by decide) (by decide) own_d_jdk_56_method_4_code_2 rfl rfl rfl (by decide) (by decide) (fun h1 b1 cA_b1 g1 E1 V_b1 X_b1 O_b1 => ?_)
  have ne_r1_b1 : r1 ≠ b1 := Nat.ne_of_lt (Nat.lt_of_lt_of_eq V_r1.lt g1.symm)
  have g_b1 : n0 ≤ b1 := Nat.le_trans Sz (Nat.le_of_eq g1.symm)
  have s_b1 : h0.size ≤ b1 := Nat.le_trans KH.1 (Nat.le_of_eq g1.symm)
  have KH := KH.ext E1
  have Sz := Nat.le_trans Sz E1.1
  have V_r1 := V_r1.ext E1
  have V_b1 : Arv Z h1 b1 cA_b1 (.object "java/lang/Object") (6 : Int32) [.null, .null, .null, .null, .null, .null] .null := V_b1.pad (pad_rep [] .null 6)
  have I_x1 := I_x1.ext E1
  have I_y1 := I_y1.ext E1
  refine OwnW.astoreN C (pc' := 6) own_d_jdk_56_method_4_code_5 rfl rfl (l' := #[.val (.ref r1), .val (.ref b1), .unset]) rfl ?_
  refine OwnW.iconst C (pc' := 7) own_d_jdk_56_method_4_code_6 rfl (z := 0) rfl ?_
  refine OwnW.istoreN C (pc' := 8) own_d_jdk_56_method_4_code_7 rfl (l' := #[.val (.ref r1), .val (.ref b1), .val (.int (0 : Int32))]) rfl ?_
  refine OwnW.iloadN C (pc' := 9) own_d_jdk_56_method_4_code_8 rfl rfl ?_
  refine OwnW.aloadN C (pc' := 10) own_d_jdk_56_method_4_code_9 rfl rfl rfl ?_
  refine OwnW.alen C (pc' := 11) V_r1 own_d_jdk_56_method_4_code_10 rfl ?_
  refine OwnW.icGe C (pcY := 29) (pcN := 14) own_d_jdk_56_method_4_code_11 (by decide) rfl rfl (fun hc11 => absurd (by decide) hc11) (fun hc11 => ?_)
  refine OwnW.aloadN C (pc' := 15) own_d_jdk_56_method_4_code_14 rfl rfl rfl ?_
  refine OwnW.iloadN C (pc' := 16) own_d_jdk_56_method_4_code_15 rfl rfl ?_
  refine OwnW.aloadN C (pc' := 17) own_d_jdk_56_method_4_code_16 rfl rfl rfl ?_
  refine OwnW.iloadN C (pc' := 18) own_d_jdk_56_method_4_code_17 rfl rfl ?_
  refine OwnW.aaload C (pc' := 19) V_r1 rfl ⟨by decide, by decide⟩ (v := (.ref x1)) rfl own_d_jdk_56_method_4_code_18 rfl ?_
  refine OwnW.callS C (pc' := 22) (y := (⟨"java/util/Objects", "requireNonNull", "(Ljava/lang/Object;)Ljava/lang/Object;"⟩ : MethodName)) (W := 2) (argsL := [(.ref x1)]) (rest := [(.int (0 : Int32)), (.ref b1)]) (hw _ (List.mem_of_getElem? (i := 208) rfl)) (hw _ (List.mem_of_getElem? (i := 185) rfl)) (hw _ (List.mem_of_getElem? (i := 186) rfl)) (hw _ (List.mem_of_getElem? (i := 187) rfl)) (by decide) (own_rnn l Z a0 hw x1 h1 n0) (K' := 1) (S' := 6) (by decide) (by decide) rfl own_pd__Ljava_lang_Object__Ljava_lang_Object_ rfl (Nat.le_of_eq rfl) rfl rfl (by decide) (by decide) rfl own_d_jdk_56_method_4_code_19 rfl (fun v h' hq => ?_)
  obtain ⟨rfl, hh⟩ := hq
  refine Go.at (st' := [(.ref x1), (.int (0 : Int32)), (.ref b1)]) rfl ?_
  refine Go.heap hh ?_
  refine OwnW.aastore C (pc' := 23) V_b1 rfl g_b1 ⟨by decide, by decide⟩ (k := 0) rfl (Nat.le_of_ble_eq_true rfl) (sto_of V_b1 O_b1 I_x1) rfl own_d_jdk_56_method_4_code_22 rfl (fun h2 W2 V_b1 => ?_)
  have V_b1 : Arv Z h2 b1 cA_b1 (.object "java/lang/Object") (6 : Int32) [(.ref x1), .null, .null, .null, .null, .null] .null := V_b1
  have KH := KH.wr W2 (Or.inr s_b1)
  have Sz := Nat.le_trans Sz (Keep.of_wr W2).1
  have V_r1 := V_r1.other W2 ne_r1_b1
  have X_b1 := X_b1.wr W2
  have I_x1 := I_x1.wr W2
  have I_y1 := I_y1.wr W2
  refine OwnW.iinc C (pc' := 26) own_d_jdk_56_method_4_code_23 rfl rfl (l' := #[.val (.ref r1), .val (.ref b1), .val (.int (1 : Int32))]) rfl ?_
  refine OwnW.goto C (pc' := 8) own_d_jdk_56_method_4_code_26 (by decide) rfl ?_
  refine OwnW.iloadN C (pc' := 9) own_d_jdk_56_method_4_code_8 rfl rfl ?_
  refine OwnW.aloadN C (pc' := 10) own_d_jdk_56_method_4_code_9 rfl rfl rfl ?_
  refine OwnW.alen C (pc' := 11) V_r1 own_d_jdk_56_method_4_code_10 rfl ?_
  refine OwnW.icGe C (pcY := 29) (pcN := 14) own_d_jdk_56_method_4_code_11 (by decide) rfl rfl (fun hc11_1 => absurd (by decide) hc11_1) (fun hc11_1 => ?_)
  refine OwnW.aloadN C (pc' := 15) own_d_jdk_56_method_4_code_14 rfl rfl rfl ?_
  refine OwnW.iloadN C (pc' := 16) own_d_jdk_56_method_4_code_15 rfl rfl ?_
  refine OwnW.aloadN C (pc' := 17) own_d_jdk_56_method_4_code_16 rfl rfl rfl ?_
  refine OwnW.iloadN C (pc' := 18) own_d_jdk_56_method_4_code_17 rfl rfl ?_
  refine OwnW.aaload C (pc' := 19) V_r1 rfl ⟨by decide, by decide⟩ (v := (.ref y1)) rfl own_d_jdk_56_method_4_code_18 rfl ?_
  refine OwnW.callS C (pc' := 22) (y := (⟨"java/util/Objects", "requireNonNull", "(Ljava/lang/Object;)Ljava/lang/Object;"⟩ : MethodName)) (W := 2) (argsL := [(.ref y1)]) (rest := [(.int (1 : Int32)), (.ref b1)]) (hw _ (List.mem_of_getElem? (i := 208) rfl)) (hw _ (List.mem_of_getElem? (i := 185) rfl)) (hw _ (List.mem_of_getElem? (i := 186) rfl)) (hw _ (List.mem_of_getElem? (i := 187) rfl)) (by decide) (own_rnn l Z a0 hw y1 h2 n0) (K' := 1) (S' := 6) (by decide) (by decide) rfl own_pd__Ljava_lang_Object__Ljava_lang_Object_ rfl (Nat.le_of_eq rfl) rfl rfl (by decide) (by decide) rfl own_d_jdk_56_method_4_code_19 rfl (fun v h' hq => ?_)
  obtain ⟨rfl, hh⟩ := hq
  refine Go.at (st' := [(.ref y1), (.int (1 : Int32)), (.ref b1)]) rfl ?_
  refine Go.heap hh ?_
  refine OwnW.aastore C (pc' := 23) V_b1 rfl g_b1 ⟨by decide, by decide⟩ (k := 1) rfl (Nat.le_of_ble_eq_true rfl) (sto_of V_b1 O_b1 I_y1) rfl own_d_jdk_56_method_4_code_22 rfl (fun h3 W3 V_b1 => ?_)
  have V_b1 : Arv Z h3 b1 cA_b1 (.object "java/lang/Object") (6 : Int32) [(.ref x1), (.ref y1), .null, .null, .null, .null] .null := V_b1
  have KH := KH.wr W3 (Or.inr s_b1)
  have Sz := Nat.le_trans Sz (Keep.of_wr W3).1
  have V_r1 := V_r1.other W3 ne_r1_b1
  have X_b1 := X_b1.wr W3
  have I_x1 := I_x1.wr W3
  have I_y1 := I_y1.wr W3
  refine OwnW.iinc C (pc' := 26) own_d_jdk_56_method_4_code_23 rfl rfl (l' := #[.val (.ref r1), .val (.ref b1), .val (.int (2 : Int32))]) rfl ?_
  refine OwnW.goto C (pc' := 8) own_d_jdk_56_method_4_code_26 (by decide) rfl ?_
  refine OwnW.iloadN C (pc' := 9) own_d_jdk_56_method_4_code_8 rfl rfl ?_
  refine OwnW.aloadN C (pc' := 10) own_d_jdk_56_method_4_code_9 rfl rfl rfl ?_
  refine OwnW.alen C (pc' := 11) V_r1 own_d_jdk_56_method_4_code_10 rfl ?_
  refine OwnW.icGe C (pcY := 29) (pcN := 14) own_d_jdk_56_method_4_code_11 (by decide) rfl rfl (fun hc11_2 => absurd (by decide) hc11_2) (fun hc11_2 => ?_)
  refine OwnW.aloadN C (pc' := 15) own_d_jdk_56_method_4_code_14 rfl rfl rfl ?_
  refine OwnW.iloadN C (pc' := 16) own_d_jdk_56_method_4_code_15 rfl rfl ?_
  refine OwnW.aloadN C (pc' := 17) own_d_jdk_56_method_4_code_16 rfl rfl rfl ?_
  refine OwnW.iloadN C (pc' := 18) own_d_jdk_56_method_4_code_17 rfl rfl ?_
  refine OwnW.aaload C (pc' := 19) V_r1 rfl ⟨by decide, by decide⟩ (v := (.ref x1)) rfl own_d_jdk_56_method_4_code_18 rfl ?_
  refine OwnW.callS C (pc' := 22) (y := (⟨"java/util/Objects", "requireNonNull", "(Ljava/lang/Object;)Ljava/lang/Object;"⟩ : MethodName)) (W := 2) (argsL := [(.ref x1)]) (rest := [(.int (2 : Int32)), (.ref b1)]) (hw _ (List.mem_of_getElem? (i := 208) rfl)) (hw _ (List.mem_of_getElem? (i := 185) rfl)) (hw _ (List.mem_of_getElem? (i := 186) rfl)) (hw _ (List.mem_of_getElem? (i := 187) rfl)) (by decide) (own_rnn l Z a0 hw x1 h3 n0) (K' := 1) (S' := 6) (by decide) (by decide) rfl own_pd__Ljava_lang_Object__Ljava_lang_Object_ rfl (Nat.le_of_eq rfl) rfl rfl (by decide) (by decide) rfl own_d_jdk_56_method_4_code_19 rfl (fun v h' hq => ?_)
  obtain ⟨rfl, hh⟩ := hq
  refine Go.at (st' := [(.ref x1), (.int (2 : Int32)), (.ref b1)]) rfl ?_
  refine Go.heap hh ?_
  refine OwnW.aastore C (pc' := 23) V_b1 rfl g_b1 ⟨by decide, by decide⟩ (k := 2) rfl (Nat.le_of_ble_eq_true rfl) (sto_of V_b1 O_b1 I_x1) rfl own_d_jdk_56_method_4_code_22 rfl (fun h4 W4 V_b1 => ?_)
  have V_b1 : Arv Z h4 b1 cA_b1 (.object "java/lang/Object") (6 : Int32) [(.ref x1), (.ref y1), (.ref x1), .null, .null, .null] .null := V_b1
  have KH := KH.wr W4 (Or.inr s_b1)
  have Sz := Nat.le_trans Sz (Keep.of_wr W4).1
  have V_r1 := V_r1.other W4 ne_r1_b1
  have X_b1 := X_b1.wr W4
  have I_x1 := I_x1.wr W4
  have I_y1 := I_y1.wr W4
  refine OwnW.iinc C (pc' := 26) own_d_jdk_56_method_4_code_23 rfl rfl (l' := #[.val (.ref r1), .val (.ref b1), .val (.int (3 : Int32))]) rfl ?_
  refine OwnW.goto C (pc' := 8) own_d_jdk_56_method_4_code_26 (by decide) rfl ?_
  refine OwnW.iloadN C (pc' := 9) own_d_jdk_56_method_4_code_8 rfl rfl ?_
  refine OwnW.aloadN C (pc' := 10) own_d_jdk_56_method_4_code_9 rfl rfl rfl ?_
  refine OwnW.alen C (pc' := 11) V_r1 own_d_jdk_56_method_4_code_10 rfl ?_
  refine OwnW.icGe C (pcY := 29) (pcN := 14) own_d_jdk_56_method_4_code_11 (by decide) rfl rfl (fun hc11_3 => absurd (by decide) hc11_3) (fun hc11_3 => ?_)
  refine OwnW.aloadN C (pc' := 15) own_d_jdk_56_method_4_code_14 rfl rfl rfl ?_
  refine OwnW.iloadN C (pc' := 16) own_d_jdk_56_method_4_code_15 rfl rfl ?_
  refine OwnW.aloadN C (pc' := 17) own_d_jdk_56_method_4_code_16 rfl rfl rfl ?_
  refine OwnW.iloadN C (pc' := 18) own_d_jdk_56_method_4_code_17 rfl rfl ?_
  refine OwnW.aaload C (pc' := 19) V_r1 rfl ⟨by decide, by decide⟩ (v := (.ref y1)) rfl own_d_jdk_56_method_4_code_18 rfl ?_
  refine OwnW.callS C (pc' := 22) (y := (⟨"java/util/Objects", "requireNonNull", "(Ljava/lang/Object;)Ljava/lang/Object;"⟩ : MethodName)) (W := 2) (argsL := [(.ref y1)]) (rest := [(.int (3 : Int32)), (.ref b1)]) (hw _ (List.mem_of_getElem? (i := 208) rfl)) (hw _ (List.mem_of_getElem? (i := 185) rfl)) (hw _ (List.mem_of_getElem? (i := 186) rfl)) (hw _ (List.mem_of_getElem? (i := 187) rfl)) (by decide) (own_rnn l Z a0 hw y1 h4 n0) (K' := 1) (S' := 6) (by decide) (by decide) rfl own_pd__Ljava_lang_Object__Ljava_lang_Object_ rfl (Nat.le_of_eq rfl) rfl rfl (by decide) (by decide) rfl own_d_jdk_56_method_4_code_19 rfl (fun v h' hq => ?_)
  obtain ⟨rfl, hh⟩ := hq
  refine Go.at (st' := [(.ref y1), (.int (3 : Int32)), (.ref b1)]) rfl ?_
  refine Go.heap hh ?_
  refine OwnW.aastore C (pc' := 23) V_b1 rfl g_b1 ⟨by decide, by decide⟩ (k := 3) rfl (Nat.le_of_ble_eq_true rfl) (sto_of V_b1 O_b1 I_y1) rfl own_d_jdk_56_method_4_code_22 rfl (fun h5 W5 V_b1 => ?_)
  have V_b1 : Arv Z h5 b1 cA_b1 (.object "java/lang/Object") (6 : Int32) [(.ref x1), (.ref y1), (.ref x1), (.ref y1), .null, .null] .null := V_b1
  have KH := KH.wr W5 (Or.inr s_b1)
  have Sz := Nat.le_trans Sz (Keep.of_wr W5).1
  have V_r1 := V_r1.other W5 ne_r1_b1
  have X_b1 := X_b1.wr W5
  have I_x1 := I_x1.wr W5
  have I_y1 := I_y1.wr W5
  refine OwnW.iinc C (pc' := 26) own_d_jdk_56_method_4_code_23 rfl rfl (l' := #[.val (.ref r1), .val (.ref b1), .val (.int (4 : Int32))]) rfl ?_
  refine OwnW.goto C (pc' := 8) own_d_jdk_56_method_4_code_26 (by decide) rfl ?_
  refine OwnW.iloadN C (pc' := 9) own_d_jdk_56_method_4_code_8 rfl rfl ?_
  refine OwnW.aloadN C (pc' := 10) own_d_jdk_56_method_4_code_9 rfl rfl rfl ?_
  refine OwnW.alen C (pc' := 11) V_r1 own_d_jdk_56_method_4_code_10 rfl ?_
  refine OwnW.icGe C (pcY := 29) (pcN := 14) own_d_jdk_56_method_4_code_11 (by decide) rfl rfl (fun hc11_4 => absurd (by decide) hc11_4) (fun hc11_4 => ?_)
  refine OwnW.aloadN C (pc' := 15) own_d_jdk_56_method_4_code_14 rfl rfl rfl ?_
  refine OwnW.iloadN C (pc' := 16) own_d_jdk_56_method_4_code_15 rfl rfl ?_
  refine OwnW.aloadN C (pc' := 17) own_d_jdk_56_method_4_code_16 rfl rfl rfl ?_
  refine OwnW.iloadN C (pc' := 18) own_d_jdk_56_method_4_code_17 rfl rfl ?_
  refine OwnW.aaload C (pc' := 19) V_r1 rfl ⟨by decide, by decide⟩ (v := (.ref x1)) rfl own_d_jdk_56_method_4_code_18 rfl ?_
  refine OwnW.callS C (pc' := 22) (y := (⟨"java/util/Objects", "requireNonNull", "(Ljava/lang/Object;)Ljava/lang/Object;"⟩ : MethodName)) (W := 2) (argsL := [(.ref x1)]) (rest := [(.int (4 : Int32)), (.ref b1)]) (hw _ (List.mem_of_getElem? (i := 208) rfl)) (hw _ (List.mem_of_getElem? (i := 185) rfl)) (hw _ (List.mem_of_getElem? (i := 186) rfl)) (hw _ (List.mem_of_getElem? (i := 187) rfl)) (by decide) (own_rnn l Z a0 hw x1 h5 n0) (K' := 1) (S' := 6) (by decide) (by decide) rfl own_pd__Ljava_lang_Object__Ljava_lang_Object_ rfl (Nat.le_of_eq rfl) rfl rfl (by decide) (by decide) rfl own_d_jdk_56_method_4_code_19 rfl (fun v h' hq => ?_)
  obtain ⟨rfl, hh⟩ := hq
  refine Go.at (st' := [(.ref x1), (.int (4 : Int32)), (.ref b1)]) rfl ?_
  refine Go.heap hh ?_
  refine OwnW.aastore C (pc' := 23) V_b1 rfl g_b1 ⟨by decide, by decide⟩ (k := 4) rfl (Nat.le_of_ble_eq_true rfl) (sto_of V_b1 O_b1 I_x1) rfl own_d_jdk_56_method_4_code_22 rfl (fun h6 W6 V_b1 => ?_)
  have V_b1 : Arv Z h6 b1 cA_b1 (.object "java/lang/Object") (6 : Int32) [(.ref x1), (.ref y1), (.ref x1), (.ref y1), (.ref x1), .null] .null := V_b1
  have KH := KH.wr W6 (Or.inr s_b1)
  have Sz := Nat.le_trans Sz (Keep.of_wr W6).1
  have V_r1 := V_r1.other W6 ne_r1_b1
  have X_b1 := X_b1.wr W6
  have I_x1 := I_x1.wr W6
  have I_y1 := I_y1.wr W6
  refine OwnW.iinc C (pc' := 26) own_d_jdk_56_method_4_code_23 rfl rfl (l' := #[.val (.ref r1), .val (.ref b1), .val (.int (5 : Int32))]) rfl ?_
  refine OwnW.goto C (pc' := 8) own_d_jdk_56_method_4_code_26 (by decide) rfl ?_
  refine OwnW.iloadN C (pc' := 9) own_d_jdk_56_method_4_code_8 rfl rfl ?_
  refine OwnW.aloadN C (pc' := 10) own_d_jdk_56_method_4_code_9 rfl rfl rfl ?_
  refine OwnW.alen C (pc' := 11) V_r1 own_d_jdk_56_method_4_code_10 rfl ?_
  refine OwnW.icGe C (pcY := 29) (pcN := 14) own_d_jdk_56_method_4_code_11 (by decide) rfl rfl (fun hc11_5 => absurd (by decide) hc11_5) (fun hc11_5 => ?_)
  refine OwnW.aloadN C (pc' := 15) own_d_jdk_56_method_4_code_14 rfl rfl rfl ?_
  refine OwnW.iloadN C (pc' := 16) own_d_jdk_56_method_4_code_15 rfl rfl ?_
  refine OwnW.aloadN C (pc' := 17) own_d_jdk_56_method_4_code_16 rfl rfl rfl ?_
  refine OwnW.iloadN C (pc' := 18) own_d_jdk_56_method_4_code_17 rfl rfl ?_
  refine OwnW.aaload C (pc' := 19) V_r1 rfl ⟨by decide, by decide⟩ (v := (.ref y1)) rfl own_d_jdk_56_method_4_code_18 rfl ?_
  refine OwnW.callS C (pc' := 22) (y := (⟨"java/util/Objects", "requireNonNull", "(Ljava/lang/Object;)Ljava/lang/Object;"⟩ : MethodName)) (W := 2) (argsL := [(.ref y1)]) (rest := [(.int (5 : Int32)), (.ref b1)]) (hw _ (List.mem_of_getElem? (i := 208) rfl)) (hw _ (List.mem_of_getElem? (i := 185) rfl)) (hw _ (List.mem_of_getElem? (i := 186) rfl)) (hw _ (List.mem_of_getElem? (i := 187) rfl)) (by decide) (own_rnn l Z a0 hw y1 h6 n0) (K' := 1) (S' := 6) (by decide) (by decide) rfl own_pd__Ljava_lang_Object__Ljava_lang_Object_ rfl (Nat.le_of_eq rfl) rfl rfl (by decide) (by decide) rfl own_d_jdk_56_method_4_code_19 rfl (fun v h' hq => ?_)
  obtain ⟨rfl, hh⟩ := hq
  refine Go.at (st' := [(.ref y1), (.int (5 : Int32)), (.ref b1)]) rfl ?_
  refine Go.heap hh ?_
  refine OwnW.aastore C (pc' := 23) V_b1 rfl g_b1 ⟨by decide, by decide⟩ (k := 5) rfl (Nat.le_of_ble_eq_true rfl) (sto_of V_b1 O_b1 I_y1) rfl own_d_jdk_56_method_4_code_22 rfl (fun h7 W7 V_b1 => ?_)
  have V_b1 : Arv Z h7 b1 cA_b1 (.object "java/lang/Object") (6 : Int32) [(.ref x1), (.ref y1), (.ref x1), (.ref y1), (.ref x1), (.ref y1)] .null := V_b1
  have KH := KH.wr W7 (Or.inr s_b1)
  have Sz := Nat.le_trans Sz (Keep.of_wr W7).1
  have V_r1 := V_r1.other W7 ne_r1_b1
  have X_b1 := X_b1.wr W7
  have I_x1 := I_x1.wr W7
  have I_y1 := I_y1.wr W7
  refine OwnW.iinc C (pc' := 26) own_d_jdk_56_method_4_code_23 rfl rfl (l' := #[.val (.ref r1), .val (.ref b1), .val (.int (6 : Int32))]) rfl ?_
  refine OwnW.goto C (pc' := 8) own_d_jdk_56_method_4_code_26 (by decide) rfl ?_
  refine OwnW.iloadN C (pc' := 9) own_d_jdk_56_method_4_code_8 rfl rfl ?_
  refine OwnW.aloadN C (pc' := 10) own_d_jdk_56_method_4_code_9 rfl rfl rfl ?_
  refine OwnW.alen C (pc' := 11) V_r1 own_d_jdk_56_method_4_code_10 rfl ?_
  refine OwnW.icGe C (pcY := 29) (pcN := 14) own_d_jdk_56_method_4_code_11 (by decide) rfl rfl (fun hc11_6 => ?_) (fun hc11_6 => absurd hc11_6 (by decide))
  refine OwnW.newO C (pc' := 32) (K' := 2) (S' := 8) (hw _ (List.mem_of_getElem? (i := 53) rfl)) (hw _ (List.mem_of_getElem? (i := 209) rfl)) (hw _ (List.mem_of_getElem? (i := 84) rfl)) own_d_jdk_56_method_4_code_29 rfl rfl rfl (by decide) (by decide) (fun h8 b8 g8 E8 X_b8 D8 => ?_)
  have ne_r1_b8 : r1 ≠ b8 := Nat.ne_of_lt (Nat.lt_of_lt_of_eq V_r1.lt g8.symm)
  have ne_b1_b8 : b1 ≠ b8 := Nat.ne_of_lt (Nat.lt_of_lt_of_eq X_b1.lt g8.symm)
  have g_b8 : n0 ≤ b8 := Nat.le_trans Sz (Nat.le_of_eq g8.symm)
  have s_b8 : h0.size ≤ b8 := Nat.le_trans KH.1 (Nat.le_of_eq g8.symm)
  have KH := KH.ext E8
  have Sz := Nat.le_trans Sz E8.1
  have V_r1 := V_r1.ext E8
  have X_b1 := X_b1.ext E8
  have V_b1 := V_b1.ext E8
  have F_elements_b8 : Fld Z h8 b8 "java/util/ImmutableCollections$ListN" "elements" "[Ljava/lang/Object;" .null := D8 (Or.inr (hw _ (List.mem_of_getElem? (i := 87) rfl))) (ty := (.array (.object "java/lang/Object"))) (by decide)
  have F_allowNulls_b8 : Fld Z h8 b8 "java/util/ImmutableCollections$ListN" "allowNulls" "Z" (.int (0 : Int32)) := D8 (Or.inr (hw _ (List.mem_of_getElem? (i := 219) rfl))) (ty := .boolean) (by decide)
  refine OwnW.dup C (pc' := 33) own_d_jdk_56_method_4_code_32 rfl rfl ?_
  refine OwnW.aloadN C (pc' := 34) own_d_jdk_56_method_4_code_33 rfl rfl rfl ?_
  refine OwnW.iconst C (pc' := 35) own_d_jdk_56_method_4_code_34 rfl (z := 0) rfl ?_
  refine OwnW.callXN C (pc' := 38) (y := (⟨"java/util/ImmutableCollections$ListN", "<init>", "([Ljava/lang/Object;Z)V"⟩ : MethodName)) (W := 1) (argsL := [(.ref b1), (.int (0 : Int32))]) (rest := [(.ref b8)]) rfl (hw _ (List.mem_of_getElem? (i := 210) rfl)) (hw _ (List.mem_of_getElem? (i := 211) rfl)) (hw _ (List.mem_of_getElem? (i := 84) rfl)) (hw _ (List.mem_of_getElem? (i := 213) rfl)) (by decide) (own_lninit l Z a0 hw b8 b1 h8 n0 X_b8 F_elements_b8 F_allowNulls_b8 g_b8) (K' := 2) (S' := 8) (by decide) (by decide) rfl own_pd___Ljava_lang_Object_Z_V rfl (Nat.le_of_eq rfl) rfl rfl (by decide) (by decide) rfl own_d_jdk_56_method_4_code_35 rfl (fun v h99 hq => ?_)
  obtain ⟨rfl, KK, FE⟩ := hq
  refine Go.at (st' := [(.ref b8)]) rfl ?_
  have KH := KH.trans KK (allS (Or.inr s_b8) all0)
  have X_b8 := X_b8.keep KK
  have V_b1 := V_b1.keep KK (ninS ne_b1_b8 nin0)
  exact OwnW.retA C rfl rfl rfl ⟨b8, rfl, s_b8, KH, X_b8, b1, cA_b1, FE, V_b1⟩ (by decide) (by decide) own_d_jdk_56_method_4_code_38
set_option maxRecDepth 65536 in
set_option maxHeartbeats 40000000 in
theorem own_ofArr_6 (l : Launch) (Z : State) (a0 : Array Value) (hw : ∀ d ∈ tables_1, d.before a0 Z = true) (r1 : Addr) (x1 y1 : Addr) (cR : ClassId) (h0 : Heap) (n0 : Nat) (Sz : n0 ≤ h0.size) (V_r1 : Arv Z h0 r1 cR (.object "java/lang/Object") (6 : Int32) [.ref x1, .ref y1, .ref x1, .ref y1, .ref x1, .ref y1] .null) (I_x1 : Ins Z h0 x1 "java/lang/Object" true) (I_y1 : Ins Z h0 y1 "java/lang/Object" true) :
    Ctr l Z (⟨"java/util/List", "of", "([Ljava/lang/Object;)Ljava/util/List;"⟩ : MethodName) jdk_40_method_47_code 2 (some (.object "java/util/List")) ({ frames := 6, cells := 2, slots := 8, locals := 77 } : Room) #[(.ref r1)] h0 n0 (fun v h => ∃ r, v = some (.ref r) ∧ h0.size ≤ r ∧ Keep h0 h [] ∧ Exa Z h r "java/util/ImmutableCollections$ListN" ∧ ∃ (ar : Addr) (cR : ClassId), Fld Z h r "java/util/ImmutableCollections$ListN" "elements" "[Ljava/lang/Object;" (.ref ar) ∧ Arv Z h ar cR (.object "java/lang/Object") (6 : Int32) [.ref x1, .ref y1, .ref x1, .ref y1, .ref x1, .ref y1] .null) := by
  refine Ctr.of (plainFor_of_name own_pn_List) ?_
  intro p e s m below meth c C
  refine Go.frame (g' := mkF m 0 #[.val (.ref r1), .unset] []) (by first | (simp [entryFrame, mkF, argsToLocals, Value.category]; done) | rfl) ?_
  have KH := Keep.refl h0 []
  refine OwnW.aloadN C (pc' := 1) own_d_jdk_40_method_47_code_0 rfl rfl rfl ?_
  refine OwnW.alen C (pc' := 2) V_r1 own_d_jdk_40_method_47_code_1 rfl ?_
  refine OwnW.tswD C (pc' := 59) own_d_jdk_40_method_47_code_2 (by decide) (by decide) rfl ?_
  refine OwnW.aloadN C (pc' := 60) own_d_jdk_40_method_47_code_59 rfl rfl rfl ?_
  refine OwnW.callS C (pc' := 63) (y := (⟨"java/util/ImmutableCollections", "listFromArray", "([Ljava/lang/Object;)Ljava/util/List;"⟩ : MethodName)) (W := 0) (argsL := [(.ref r1)]) (rest := []) (hw _ (List.mem_of_getElem? (i := 204) rfl)) (hw _ (List.mem_of_getElem? (i := 205) rfl)) (hw _ (List.mem_of_getElem? (i := 46) rfl)) (hw _ (List.mem_of_getElem? (i := 206) rfl)) (by decide) (own_lfa_6 l Z a0 hw r1 x1 y1 cR h0 n0 Sz V_r1 I_x1 I_y1) (K' := 2) (S' := 8) (by decide) (by decide) rfl own_pd___Ljava_lang_Object__Ljava_util_List_ rfl (Nat.le_of_eq rfl) rfl rfl (by decide) (by decide) rfl own_d_jdk_40_method_47_code_60 rfl (fun v h1 hq => ?_)
  obtain ⟨r, rfl, hr, KK, QQ⟩ := hq
  refine Go.at (st' := [(.ref r)]) rfl ?_
  exact OwnW.retA C rfl rfl rfl ⟨r, rfl, hr, KK, QQ⟩ (by decide) (by decide) own_d_jdk_40_method_47_code_63
set_option maxRecDepth 65536 in
set_option maxHeartbeats 40000000 in
theorem own_listCopy_6 (l : Launch) (Z : State) (a0 : Array Value) (hw : ∀ d ∈ tables_1, d.before a0 Z = true) (l1 b mr : Addr) (x1 y1 : Addr) (vs : List Value) (cO : ClassId) (h0 : Heap) (n0 : Nat) (Sz : n0 ≤ h0.size) (X_l1 : Exa Z h0 l1 "java/util/ArrayList") (F_elementData_l1 : Fld Z h0 l1 "java/util/ArrayList" "elementData" "[Ljava/lang/Object;" (.ref b)) (F_size_l1 : Fld Z h0 l1 "java/util/ArrayList" "size" "I" (.int 6)) (X_b : Exa Z h0 b "[Ljava/lang/Object;") (V_b : Arv Z h0 b cO (.object "java/lang/Object") 10 vs .null) (M : Mi Z "[Ljava/lang/Object;" mr) (hus : [.ref x1, .ref y1, .ref x1, .ref y1, .ref x1, .ref y1] = (List.range (6 : Int32).toNatClampNeg).map fun i => vs.getD ((0 : Int32).toNatClampNeg + i) .null) (I_x1 : Ins Z h0 x1 "java/lang/Object" true) (I_y1 : Ins Z h0 y1 "java/lang/Object" true) :
    Ctr l Z (⟨"java/util/ImmutableCollections", "listCopy", "(Ljava/util/Collection;)Ljava/util/List;"⟩ : MethodName) jdk_56_method_3_code 2 (some (.object "java/util/List")) ({ frames := 7, cells := 3, slots := 14, locals := 90 } : Room) #[(.ref l1)] h0 n0 (fun v h => ∃ r, v = some (.ref r) ∧ h0.size ≤ r ∧ Keep h0 h [] ∧ Exa Z h r "java/util/ImmutableCollections$ListN" ∧ ∃ (ar : Addr) (cR : ClassId), Fld Z h r "java/util/ImmutableCollections$ListN" "elements" "[Ljava/lang/Object;" (.ref ar) ∧ Arv Z h ar cR (.object "java/lang/Object") (6 : Int32) [.ref x1, .ref y1, .ref x1, .ref y1, .ref x1, .ref y1] .null) := by
  refine Ctr.of (plainFor_of_name own_pn_ImmutableCollections) ?_
  intro p e s m below meth c C
  refine Go.frame (g' := mkF m 0 #[.val (.ref l1), .unset] []) (by first | (simp [entryFrame, mkF, argsToLocals, Value.category]; done) | rfl) ?_
  refine OwnW.aloadN C (pc' := 1) own_d_jdk_56_method_3_code_0 rfl rfl rfl ?_
  refine OwnW.instNo C (pc' := 4) (hw _ (List.mem_of_getElem? (i := 48) rfl)) X_l1 (own_nsno (hw _ (List.mem_of_getElem? (i := 49) rfl)) (hw _ (List.mem_of_getElem? (i := 164) rfl)) (NS.step (hw _ (List.mem_of_getElem? (i := 49) rfl)) (NS.step (hw _ (List.mem_of_getElem? (i := 50) rfl)) (NS.step (hw _ (List.mem_of_getElem? (i := 51) rfl)) (own_nsroot (hw _ (List.mem_of_getElem? (i := 52) rfl)) (hw _ (List.mem_of_getElem? (i := 164) rfl)) (by decide)) (by decide)) (by decide)) (by decide)) (by decide)) own_d_jdk_56_method_3_code_1 rfl ?_
  refine OwnW.ifNe C (pcY := 26) (pcN := 7) own_d_jdk_56_method_3_code_4 (by decide) rfl rfl (fun hc4 => absurd rfl hc4) (fun hc4 => ?_)
  refine OwnW.aloadN C (pc' := 8) own_d_jdk_56_method_3_code_7 rfl rfl rfl ?_
  refine OwnW.instNo C (pc' := 11) (hw _ (List.mem_of_getElem? (i := 53) rfl)) X_l1 (own_nsno (hw _ (List.mem_of_getElem? (i := 49) rfl)) (hw _ (List.mem_of_getElem? (i := 209) rfl)) (NS.step (hw _ (List.mem_of_getElem? (i := 49) rfl)) (NS.step (hw _ (List.mem_of_getElem? (i := 50) rfl)) (NS.step (hw _ (List.mem_of_getElem? (i := 51) rfl)) (own_nsroot (hw _ (List.mem_of_getElem? (i := 52) rfl)) (hw _ (List.mem_of_getElem? (i := 209) rfl)) (by decide)) (by decide)) (by decide)) (by decide)) (by decide)) own_d_jdk_56_method_3_code_8 rfl ?_
  refine OwnW.ifEq C (pcY := 31) (pcN := 14) own_d_jdk_56_method_3_code_11 (by decide) rfl rfl (fun hc11 => ?_) (fun hc11 => absurd rfl hc11)
  refine OwnW.aloadN C (pc' := 32) own_d_jdk_56_method_3_code_31 rfl rfl rfl ?_
  refine OwnW.callI C (pc' := 37) (y := (⟨"java/util/Collection", "isEmpty", "()Z"⟩ : MethodName)) (z := (⟨"java/util/ArrayList", "isEmpty", "()Z"⟩ : MethodName)) (W := 0) (argsL := []) (rest := []) (hw _ (List.mem_of_getElem? (i := 54) rfl)) (hw _ (List.mem_of_getElem? (i := 55) rfl)) (hw _ (List.mem_of_getElem? (i := 56) rfl)) (by first | rfl | decide) (hw _ (List.mem_of_getElem? (i := 57) rfl)) (hw _ (List.mem_of_getElem? (i := 58) rfl)) (hw _ (List.mem_of_getElem? (i := 59) rfl)) (hw _ (List.mem_of_getElem? (i := 60) rfl)) (hw _ (List.mem_of_getElem? (i := 61) rfl)) (hw _ (List.mem_of_getElem? (i := 2) rfl)) (hw _ (List.mem_of_getElem? (i := 62) rfl)) X_l1 (by decide) (own_alEmpty l Z a0 hw l1 6 h0 n0 F_size_l1) (K' := 0) (S' := 0) (by decide) (by decide) rfl own_pd___Z rfl (Nat.le_of_eq rfl) rfl rfl (by decide) (by decide) rfl own_d_jdk_56_method_3_code_32 rfl (fun v h' hq => ?_)
  obtain ⟨rfl, hh⟩ := hq
  refine Go.at (st' := [(.int (if (6 : Int32) = 0 then (1 : Int32) else 0))]) rfl ?_
  refine Go.heap hh ?_
  refine OwnW.ifEq C (pcY := 44) (pcN := 40) own_d_jdk_56_method_3_code_37 (by decide) rfl rfl (fun hc37 => ?_) (fun hc37 => absurd rfl hc37)
  refine OwnW.aloadN C (pc' := 45) own_d_jdk_56_method_3_code_44 rfl rfl rfl ?_
  refine OwnW.callI C (pc' := 50) (y := (⟨"java/util/Collection", "toArray", "()[Ljava/lang/Object;"⟩ : MethodName)) (z := (⟨"java/util/ArrayList", "toArray", "()[Ljava/lang/Object;"⟩ : MethodName)) (W := 0) (argsL := []) (rest := []) (hw _ (List.mem_of_getElem? (i := 130) rfl)) (hw _ (List.mem_of_getElem? (i := 131) rfl)) (hw _ (List.mem_of_getElem? (i := 132) rfl)) (by first | rfl | decide) (hw _ (List.mem_of_getElem? (i := 133) rfl)) (hw _ (List.mem_of_getElem? (i := 134) rfl)) (hw _ (List.mem_of_getElem? (i := 135) rfl)) (hw _ (List.mem_of_getElem? (i := 136) rfl)) (hw _ (List.mem_of_getElem? (i := 61) rfl)) (hw _ (List.mem_of_getElem? (i := 2) rfl)) (hw _ (List.mem_of_getElem? (i := 137) rfl)) X_l1 (by decide) (own_toArray_6 l Z a0 hw l1 b mr x1 y1 vs cO h0 n0 F_elementData_l1 F_size_l1 Sz X_b V_b M hus I_x1 I_y1) (K' := 1) (S' := 6) (by decide) (by decide) rfl own_pd____Ljava_lang_Object_ rfl (Nat.le_of_eq rfl) rfl rfl (by decide) (by decide) rfl own_d_jdk_56_method_3_code_45 rfl (fun v h1 hq => ?_)
  obtain ⟨r1, cR, rfl, hr1, K1, V_r1⟩ := hq
  refine Go.at (st' := [(.ref r1)]) rfl ?_
  have Sz1 := Nat.le_trans Sz K1.1
  have I_x1 := ins_keep I_x1 K1
  have I_y1 := ins_keep I_y1 K1
  refine OwnW.callS C (pc' := 53) (y := (⟨"java/util/List", "of", "([Ljava/lang/Object;)Ljava/util/List;"⟩ : MethodName)) (W := 0) (argsL := [(.ref r1)]) (rest := []) (hw _ (List.mem_of_getElem? (i := 160) rfl)) (hw _ (List.mem_of_getElem? (i := 161) rfl)) (hw _ (List.mem_of_getElem? (i := 42) rfl)) (hw _ (List.mem_of_getElem? (i := 162) rfl)) (by decide) (own_ofArr_6 l Z a0 hw r1 x1 y1 cR h1 n0 Sz1 V_r1 I_x1 I_y1) (K' := 3) (S' := 14) (by decide) (by decide) rfl own_pd___Ljava_lang_Object__Ljava_util_List_ rfl (Nat.le_of_eq rfl) rfl rfl (by decide) (by decide) rfl own_d_jdk_56_method_3_code_50 rfl (fun v h2 hq => ?_)
  obtain ⟨r, rfl, hr, KK, QQ⟩ := hq
  refine Go.at (st' := [(.ref r)]) rfl ?_
  have KH := K1.trans KK all0
  have hr := Nat.le_trans K1.1 hr
  exact OwnW.retA C rfl rfl rfl ⟨r, rfl, hr, KH, QQ⟩ (by decide) (by decide) own_d_jdk_56_method_3_code_53
set_option maxRecDepth 65536 in
set_option maxHeartbeats 40000000 in
theorem own_copyOf_6 (l : Launch) (Z : State) (a0 : Array Value) (hw : ∀ d ∈ tables_1, d.before a0 Z = true) (l1 b mr : Addr) (x1 y1 : Addr) (vs : List Value) (cO : ClassId) (h0 : Heap) (n0 : Nat) (Sz : n0 ≤ h0.size) (X_l1 : Exa Z h0 l1 "java/util/ArrayList") (F_elementData_l1 : Fld Z h0 l1 "java/util/ArrayList" "elementData" "[Ljava/lang/Object;" (.ref b)) (F_size_l1 : Fld Z h0 l1 "java/util/ArrayList" "size" "I" (.int 6)) (X_b : Exa Z h0 b "[Ljava/lang/Object;") (V_b : Arv Z h0 b cO (.object "java/lang/Object") 10 vs .null) (M : Mi Z "[Ljava/lang/Object;" mr) (hus : [.ref x1, .ref y1, .ref x1, .ref y1, .ref x1, .ref y1] = (List.range (6 : Int32).toNatClampNeg).map fun i => vs.getD ((0 : Int32).toNatClampNeg + i) .null) (I_x1 : Ins Z h0 x1 "java/lang/Object" true) (I_y1 : Ins Z h0 y1 "java/lang/Object" true) :
    Ctr l Z (⟨"java/util/List", "copyOf", "(Ljava/util/Collection;)Ljava/util/List;"⟩ : MethodName) jdk_40_method_48_code 1 (some (.object "java/util/List")) ({ frames := 8, cells := 3, slots := 14, locals := 103 } : Room) #[(.ref l1)] h0 n0 (fun v h => ∃ r, v = some (.ref r) ∧ h0.size ≤ r ∧ Keep h0 h [] ∧ Exa Z h r "java/util/ImmutableCollections$ListN" ∧ ∃ (ar : Addr) (cR : ClassId), Fld Z h r "java/util/ImmutableCollections$ListN" "elements" "[Ljava/lang/Object;" (.ref ar) ∧ Arv Z h ar cR (.object "java/lang/Object") (6 : Int32) [.ref x1, .ref y1, .ref x1, .ref y1, .ref x1, .ref y1] .null) := by
  refine Ctr.of (plainFor_of_name own_pn_List) ?_
  intro p e s m below meth c C
  refine Go.frame (g' := mkF m 0 #[.val (.ref l1)] []) (by first | (simp [entryFrame, mkF, argsToLocals, Value.category]; done) | rfl) ?_
  refine OwnW.aloadN C (pc' := 1) own_d_jdk_40_method_48_code_0 rfl rfl rfl ?_
  refine OwnW.callS C (pc' := 4) (y := (⟨"java/util/ImmutableCollections", "listCopy", "(Ljava/util/Collection;)Ljava/util/List;"⟩ : MethodName)) (W := 0) (argsL := [(.ref l1)]) (rest := []) (hw _ (List.mem_of_getElem? (i := 44) rfl)) (hw _ (List.mem_of_getElem? (i := 45) rfl)) (hw _ (List.mem_of_getElem? (i := 46) rfl)) (hw _ (List.mem_of_getElem? (i := 47) rfl)) (by decide) (own_listCopy_6 l Z a0 hw l1 b mr x1 y1 vs cO h0 n0 Sz X_l1 F_elementData_l1 F_size_l1 X_b V_b M hus I_x1 I_y1) (K' := 3) (S' := 14) (by decide) (by decide) rfl own_pd__Ljava_util_Collection__Ljava_util_List_ rfl (Nat.le_of_eq rfl) rfl rfl (by decide) (by decide) rfl own_d_jdk_40_method_48_code_1 rfl (fun v h1 hq => ?_)
  obtain ⟨r, rfl, hr, KK, QQ⟩ := hq
  refine Go.at (st' := [(.ref r)]) rfl ?_
  exact OwnW.retA C rfl rfl rfl ⟨r, rfl, hr, KK, QQ⟩ (by decide) (by decide) own_d_jdk_40_method_48_code_4
set_option maxRecDepth 65536 in
set_option maxHeartbeats 40000000 in
theorem own_copy3_7 (l : Launch) (Z : State) (a0 : Array Value) (hw : ∀ d ∈ tables_1, d.before a0 Z = true) (b mr : Addr) (x1 y1 : Addr) (vs : List Value) (cO : ClassId) (h0 : Heap) (n0 : Nat) (Sz : n0 ≤ h0.size) (V_b : Arv Z h0 b cO (.object "java/lang/Object") 10 vs .null) (M : Mi Z "[Ljava/lang/Object;" mr) (hus : [.ref x1, .ref y1, .ref x1, .ref y1, .ref x1, .ref y1, .ref x1] = (List.range (7 : Int32).toNatClampNeg).map fun i => vs.getD ((0 : Int32).toNatClampNeg + i) .null) (I_x1 : Ins Z h0 x1 "java/lang/Object" true) (I_y1 : Ins Z h0 y1 "java/lang/Object" true) :
    Ctr l Z (⟨"java/util/Arrays", "copyOf", "([Ljava/lang/Object;ILjava/lang/Class;)[Ljava/lang/Object;"⟩ : MethodName) jdk_65_method_120_code 4 (some (.array (.object "java/lang/Object"))) ({ frames := 2, cells := 1, slots := 7, locals := 32 } : Room) #[(.ref b), (.int (7 : Int32)), (.ref mr)] h0 n0 (fun v h => ∃ (r : Addr) (cR : ClassId), v = some (.ref r) ∧ h0.size ≤ r ∧ Keep h0 h [] ∧ Arv Z h r cR (.object "java/lang/Object") (7 : Int32) [.ref x1, .ref y1, .ref x1, .ref y1, .ref x1, .ref y1, .ref x1] .null) := by
  refine Ctr.of (plainFor_of_name own_pn_Arrays) ?_
  intro p e s m below meth c C
  refine Go.frame (g' := mkF m 0 #[.val (.ref b), .val (.int (7 : Int32)), .val (.ref mr), .unset] []) (by first | (simp [entryFrame, mkF, argsToLocals, Value.category]; done) | rfl) ?_
  have KH := Keep.refl h0 []
  refine OwnW.aloadN C (pc' := 1) own_d_jdk_65_method_120_code_0 rfl rfl rfl ?_
  refine OwnW.ldcMi C (pc' := 3) (hw _ (List.mem_of_getElem? (i := 151) rfl)) M own_d_jdk_65_method_120_code_1 rfl ?_
  refine OwnW.acNe C (pcY := 13) (pcN := 6) rfl rfl own_d_jdk_65_method_120_code_3 (by decide) rfl rfl (fun hc3 => absurd rfl hc3) (fun hc3 => ?_)
  refine OwnW.iloadN C (pc' := 7) own_d_jdk_65_method_120_code_6 rfl rfl ?_
  refine OwnW.newR C (pc' := 10) (K' := 1) (S' := 7) (ad := "[Ljava/lang/Object;") (by decide +kernel) (hw _ (List.mem_of_getElem? (i := 152) rfl)) (hw _ (List.mem_of_getElem? (i := 128) rfl)) (cap := 7) (by decide) (by decide) (by decide) own_d_jdk_65_method_120_code_7 rfl rfl rfl (by decide) (by decide) (fun h1 b1 cA_b1 g1 E1 V_b1 X_b1 O_b1 => ?_)
  have ne_b_b1 : b ≠ b1 := Nat.ne_of_lt (Nat.lt_of_lt_of_eq V_b.lt g1.symm)
  have g_b1 : n0 ≤ b1 := Nat.le_trans Sz (Nat.le_of_eq g1.symm)
  have s_b1 : h0.size ≤ b1 := Nat.le_trans KH.1 (Nat.le_of_eq g1.symm)
  have KH := KH.ext E1
  have Sz := Nat.le_trans Sz E1.1
  have V_b := V_b.ext E1
  have V_b1 : Arv Z h1 b1 cA_b1 (.object "java/lang/Object") (7 : Int32) [.null, .null, .null, .null, .null, .null, .null] .null := V_b1.pad (pad_rep [] .null 7)
  have I_x1 := I_x1.ext E1
  have I_y1 := I_y1.ext E1
  refine OwnW.goto C (pc' := 24) own_d_jdk_65_method_120_code_10 (by decide) rfl ?_
  refine OwnW.astoreN C (pc' := 25) own_d_jdk_65_method_120_code_24 rfl rfl (l' := #[.val (.ref b), .val (.int (7 : Int32)), .val (.ref mr), .val (.ref b1)]) rfl ?_
  refine OwnW.aloadN C (pc' := 26) own_d_jdk_65_method_120_code_25 rfl rfl rfl ?_
  refine OwnW.iconst C (pc' := 27) own_d_jdk_65_method_120_code_26 rfl (z := 0) rfl ?_
  refine OwnW.aloadN C (pc' := 28) own_d_jdk_65_method_120_code_27 rfl rfl rfl ?_
  refine OwnW.iconst C (pc' := 29) own_d_jdk_65_method_120_code_28 rfl (z := 0) rfl ?_
  refine OwnW.aloadN C (pc' := 30) own_d_jdk_65_method_120_code_29 rfl rfl rfl ?_
  refine OwnW.alen C (pc' := 31) V_b own_d_jdk_65_method_120_code_30 rfl ?_
  refine OwnW.iloadN C (pc' := 32) own_d_jdk_65_method_120_code_31 rfl rfl ?_
  refine OwnW.callS C (pc' := 35) (y := (⟨"java/lang/Math", "min", "(II)I"⟩ : MethodName)) (W := 4) (argsL := [(.int (10 : Int32)), (.int (7 : Int32))]) (rest := [(.int (0 : Int32)), (.ref b1), (.int (0 : Int32)), (.ref b)]) (hw _ (List.mem_of_getElem? (i := 153) rfl)) (hw _ (List.mem_of_getElem? (i := 154) rfl)) (hw _ (List.mem_of_getElem? (i := 125) rfl)) (hw _ (List.mem_of_getElem? (i := 155) rfl)) (by decide) (own_minI l Z a0 hw 10 7 h1 n0) (K' := 1) (S' := 7) (by decide) (by decide) rfl own_pd__II_I rfl (Nat.le_of_eq rfl) rfl rfl (by decide) (by decide) rfl own_d_jdk_65_method_120_code_32 rfl (fun v h' hq => ?_)
  obtain ⟨rfl, hh⟩ := hq
  refine Go.at (st' := [(.int (if (7 : Int32) < 10 then (7 : Int32) else 10)), (.int (0 : Int32)), (.ref b1), (.int (0 : Int32)), (.ref b)]) rfl ?_
  refine Go.heap hh ?_
  rw [show (if (7 : Int32) < 10 then (7 : Int32) else 10) = 7 from rfl]
  refine OwnW.acopy C (pc' := 38) (us := [.ref x1, .ref y1, .ref x1, .ref y1, .ref x1, .ref y1, .ref x1]) (hw _ (List.mem_of_getElem? (i := 156) rfl)) (hw _ (List.mem_of_getElem? (i := 159) rfl)) (hw _ (List.mem_of_getElem? (i := 157) rfl)) (hw _ (List.mem_of_getElem? (i := 158) rfl)) V_b V_b1 (Or.inr ⟨rfl, rfl, ⟨sto_of V_b1 O_b1 I_x1, ⟨sto_of V_b1 O_b1 I_y1, ⟨sto_of V_b1 O_b1 I_x1, ⟨sto_of V_b1 O_b1 I_y1, ⟨sto_of V_b1 O_b1 I_x1, ⟨sto_of V_b1 O_b1 I_y1, ⟨sto_of V_b1 O_b1 I_x1, trivial⟩⟩⟩⟩⟩⟩⟩⟩) (by decide) (by decide) (by decide) (by decide) (by decide) hus (Nat.le_of_ble_eq_true rfl) g_b1 rfl (by decide) (W := 0) (Nat.le_of_eq rfl) (by decide +kernel) own_d_jdk_65_method_120_code_35 rfl (fun h2 KK V_b1 => ?_)
  have KH := KH.trans KK (allS (Or.inr s_b1) all0)
  have V_b1 : Arv Z h2 b1 cA_b1 (.object "java/lang/Object") (7 : Int32) [.ref x1, .ref y1, .ref x1, .ref y1, .ref x1, .ref y1, .ref x1] .null := V_b1
  refine OwnW.aloadN C (pc' := 39) own_d_jdk_65_method_120_code_38 rfl rfl rfl ?_
  exact OwnW.retA C rfl rfl rfl ⟨b1, cA_b1, rfl, s_b1, KH, V_b1⟩ (by decide) (by decide) own_d_jdk_65_method_120_code_39
set_option maxRecDepth 65536 in
set_option maxHeartbeats 40000000 in
theorem own_copy2_7 (l : Launch) (Z : State) (a0 : Array Value) (hw : ∀ d ∈ tables_1, d.before a0 Z = true) (b mr : Addr) (x1 y1 : Addr) (vs : List Value) (cO : ClassId) (h0 : Heap) (n0 : Nat) (Sz : n0 ≤ h0.size) (X_b : Exa Z h0 b "[Ljava/lang/Object;") (V_b : Arv Z h0 b cO (.object "java/lang/Object") 10 vs .null) (M : Mi Z "[Ljava/lang/Object;" mr) (hus : [.ref x1, .ref y1, .ref x1, .ref y1, .ref x1, .ref y1, .ref x1] = (List.range (7 : Int32).toNatClampNeg).map fun i => vs.getD ((0 : Int32).toNatClampNeg + i) .null) (I_x1 : Ins Z h0 x1 "java/lang/Object" true) (I_y1 : Ins Z h0 y1 "java/lang/Object" true) :
    Ctr l Z (⟨"java/util/Arrays", "copyOf", "([Ljava/lang/Object;I)[Ljava/lang/Object;"⟩ : MethodName) jdk_65_method_119_code 2 (some (.array (.object "java/lang/Object"))) ({ frames := 3, cells := 1, slots := 7, locals := 47 } : Room) #[(.ref b), (.int (7 : Int32))] h0 n0 (fun v h => ∃ (r : Addr) (cR : ClassId), v = some (.ref r) ∧ h0.size ≤ r ∧ Keep h0 h [] ∧ Arv Z h r cR (.object "java/lang/Object") (7 : Int32) [.ref x1, .ref y1, .ref x1, .ref y1, .ref x1, .ref y1, .ref x1] .null) := by
  refine Ctr.of (plainFor_of_name own_pn_Arrays) ?_
  intro p e s m below meth c C
  refine Go.frame (g' := mkF m 0 #[.val (.ref b), .val (.int (7 : Int32))] []) (by first | (simp [entryFrame, mkF, argsToLocals, Value.category]; done) | rfl) ?_
  refine OwnW.aloadN C (pc' := 1) own_d_jdk_65_method_119_code_0 rfl rfl rfl ?_
  refine OwnW.iloadN C (pc' := 2) own_d_jdk_65_method_119_code_1 rfl rfl ?_
  refine OwnW.aloadN C (pc' := 3) own_d_jdk_65_method_119_code_2 rfl rfl rfl ?_
  refine OwnW.getCls C (pc' := 6) (hw _ (List.mem_of_getElem? (i := 142) rfl)) (hw _ (List.mem_of_getElem? (i := 143) rfl)) (hw _ (List.mem_of_getElem? (i := 52) rfl)) (hw _ (List.mem_of_getElem? (i := 145) rfl)) (hw _ (List.mem_of_getElem? (i := 144) rfl)) (hw _ (List.mem_of_getElem? (i := 146) rfl)) X_b M rfl (by decide) (W := 2) (Nat.le_of_eq rfl) (by decide +kernel) own_d_jdk_65_method_119_code_3 rfl ?_
  refine OwnW.callS C (pc' := 9) (y := (⟨"java/util/Arrays", "copyOf", "([Ljava/lang/Object;ILjava/lang/Class;)[Ljava/lang/Object;"⟩ : MethodName)) (W := 0) (argsL := [(.ref b), (.int (7 : Int32)), (.ref mr)]) (rest := []) (hw _ (List.mem_of_getElem? (i := 148) rfl)) (hw _ (List.mem_of_getElem? (i := 149) rfl)) (hw _ (List.mem_of_getElem? (i := 140) rfl)) (hw _ (List.mem_of_getElem? (i := 150) rfl)) (by decide) (own_copy3_7 l Z a0 hw b mr x1 y1 vs cO h0 n0 Sz V_b M hus I_x1 I_y1) (K' := 1) (S' := 7) (by decide) (by decide) rfl own_pd___Ljava_lang_Object_ILjava_lang_Class___Ljava_lang_Object_ rfl (Nat.le_of_eq rfl) rfl rfl (by decide) (by decide) rfl own_d_jdk_65_method_119_code_6 rfl (fun v h1 hq => ?_)
  obtain ⟨r, cR, rfl, hr, KK, V⟩ := hq
  refine Go.at (st' := [(.ref r)]) rfl ?_
  exact OwnW.retA C rfl rfl rfl ⟨r, cR, rfl, hr, KK, V⟩ (by decide) (by decide) own_d_jdk_65_method_119_code_9
set_option maxRecDepth 65536 in
set_option maxHeartbeats 40000000 in
theorem own_toArray_7 (l : Launch) (Z : State) (a0 : Array Value) (hw : ∀ d ∈ tables_1, d.before a0 Z = true) (l1 : Addr) (b mr : Addr) (x1 y1 : Addr) (vs : List Value) (cO : ClassId) (h0 : Heap) (n0 : Nat) (F_elementData_l1 : Fld Z h0 l1 "java/util/ArrayList" "elementData" "[Ljava/lang/Object;" (.ref b)) (F_size_l1 : Fld Z h0 l1 "java/util/ArrayList" "size" "I" (.int 7)) (Sz : n0 ≤ h0.size) (X_b : Exa Z h0 b "[Ljava/lang/Object;") (V_b : Arv Z h0 b cO (.object "java/lang/Object") 10 vs .null) (M : Mi Z "[Ljava/lang/Object;" mr) (hus : [.ref x1, .ref y1, .ref x1, .ref y1, .ref x1, .ref y1, .ref x1] = (List.range (7 : Int32).toNatClampNeg).map fun i => vs.getD ((0 : Int32).toNatClampNeg + i) .null) (I_x1 : Ins Z h0 x1 "java/lang/Object" true) (I_y1 : Ins Z h0 y1 "java/lang/Object" true) :
    Ctr l Z (⟨"java/util/ArrayList", "toArray", "()[Ljava/lang/Object;"⟩ : MethodName) jdk_38_method_16_code 1 (some (.array (.object "java/lang/Object"))) ({ frames := 4, cells := 1, slots := 7, locals := 60 } : Room) #[(.ref l1)] h0 n0 (fun v h => ∃ (r : Addr) (cR : ClassId), v = some (.ref r) ∧ h0.size ≤ r ∧ Keep h0 h [] ∧ Arv Z h r cR (.object "java/lang/Object") (7 : Int32) [.ref x1, .ref y1, .ref x1, .ref y1, .ref x1, .ref y1, .ref x1] .null) := by
  refine Ctr.of (plainFor_of_name own_pn_ArrayList) ?_
  intro p e s m below meth c C
  refine Go.frame (g' := mkF m 0 #[.val (.ref l1)] []) (by first | (simp [entryFrame, mkF, argsToLocals, Value.category]; done) | rfl) ?_
  refine OwnW.aloadN C (pc' := 1) own_d_jdk_38_method_16_code_0 rfl rfl rfl ?_
  refine OwnW.getF C (pc' := 4) (host := "") (Or.inl (hw _ (List.mem_of_getElem? (i := 24) rfl))) Via.refl F_elementData_l1 own_d_jdk_38_method_16_code_1 rfl ?_
  refine OwnW.aloadN C (pc' := 5) own_d_jdk_38_method_16_code_4 rfl rfl rfl ?_
  refine OwnW.getF C (pc' := 8) (host := "") (Or.inl (hw _ (List.mem_of_getElem? (i := 63) rfl))) Via.refl F_size_l1 own_d_jdk_38_method_16_code_5 rfl ?_
  refine OwnW.callS C (pc' := 11) (y := (⟨"java/util/Arrays", "copyOf", "([Ljava/lang/Object;I)[Ljava/lang/Object;"⟩ : MethodName)) (W := 0) (argsL := [(.ref b), (.int (7 : Int32))]) (rest := []) (hw _ (List.mem_of_getElem? (i := 138) rfl)) (hw _ (List.mem_of_getElem? (i := 139) rfl)) (hw _ (List.mem_of_getElem? (i := 140) rfl)) (hw _ (List.mem_of_getElem? (i := 141) rfl)) (by decide) (own_copy2_7 l Z a0 hw b mr x1 y1 vs cO h0 n0 Sz X_b V_b M hus I_x1 I_y1) (K' := 1) (S' := 7) (by decide) (by decide) rfl own_pd___Ljava_lang_Object_I__Ljava_lang_Object_ rfl (Nat.le_of_eq rfl) rfl rfl (by decide) (by decide) rfl own_d_jdk_38_method_16_code_8 rfl (fun v h1 hq => ?_)
  obtain ⟨r, cR, rfl, hr, KK, V⟩ := hq
  refine Go.at (st' := [(.ref r)]) rfl ?_
  exact OwnW.retA C rfl rfl rfl ⟨r, cR, rfl, hr, KK, V⟩ (by decide) (by decide) own_d_jdk_38_method_16_code_11
set_option maxRecDepth 65536 in
set_option maxHeartbeats 40000000 in
theorem own_lfa_7 (l : Launch) (Z : State) (a0 : Array Value) (hw : ∀ d ∈ tables_1, d.before a0 Z = true) (r1 : Addr) (x1 y1 : Addr) (cR : ClassId) (h0 : Heap) (n0 : Nat) (Sz : n0 ≤ h0.size) (V_r1 : Arv Z h0 r1 cR (.object "java/lang/Object") (7 : Int32) [.ref x1, .ref y1, .ref x1, .ref y1, .ref x1, .ref y1, .ref x1] .null) (I_x1 : Ins Z h0 x1 "java/lang/Object" true) (I_y1 : Ins Z h0 y1 "java/lang/Object" true) :
    Ctr l Z (⟨"java/util/ImmutableCollections", "listFromArray", "([Ljava/lang/Object;)Ljava/util/List;"⟩ : MethodName) jdk_56_method_4_code 3 (some (.object "java/util/List")) ({ frames := 5, cells := 2, slots := 9, locals := 63 } : Room) #[(.ref r1)] h0 n0 (fun v h => ∃ r, v = some (.ref r) ∧ h0.size ≤ r ∧ Keep h0 h [] ∧ Exa Z h r "java/util/ImmutableCollections$ListN" ∧ ∃ (ar : Addr) (cR : ClassId), Fld Z h r "java/util/ImmutableCollections$ListN" "elements" "[Ljava/lang/Object;" (.ref ar) ∧ Arv Z h ar cR (.object "java/lang/Object") (7 : Int32) [.ref x1, .ref y1, .ref x1, .ref y1, .ref x1, .ref y1, .ref x1] .null) := by
  refine Ctr.of (plainFor_of_name own_pn_ImmutableCollections) ?_
  intro p e s m below meth c C
  refine Go.frame (g' := mkF m 0 #[.val (.ref r1), .unset, .unset] []) (by first | (simp [entryFrame, mkF, argsToLocals, Value.category]; done) | rfl) ?_
  have KH := Keep.refl h0 []
  refine OwnW.aloadN C (pc' := 1) own_d_jdk_56_method_4_code_0 rfl rfl rfl ?_
  refine OwnW.alen C (pc' := 2) V_r1 own_d_jdk_56_method_4_code_1 rfl ?_
  refine OwnW.newR C (pc' := 5) (K' := 1) (S' := 7) (ad := "[Ljava/lang/Object;") (by decide +kernel) (hw _ (List.mem_of_getElem? (i := 207) rfl)) (hw _ (List.mem_of_getElem? (i := 128) rfl)) (cap := 7) (by decide) (by decide) (by decide) own_d_jdk_56_method_4_code_2 rfl rfl rfl (by decide) (by decide) (fun h1 b1 cA_b1 g1 E1 V_b1 X_b1 O_b1 => ?_)
  have ne_r1_b1 : r1 ≠ b1 := Nat.ne_of_lt (Nat.lt_of_lt_of_eq V_r1.lt g1.symm)
  have g_b1 : n0 ≤ b1 := Nat.le_trans Sz (Nat.le_of_eq g1.symm)
  have s_b1 : h0.size ≤ b1 := Nat.le_trans KH.1 (Nat.le_of_eq g1.symm)
  have KH := KH.ext E1
  have Sz := Nat.le_trans Sz E1.1
  have V_r1 := V_r1.ext E1
  have V_b1 : Arv Z h1 b1 cA_b1 (.object "java/lang/Object") (7 : Int32) [.null, .null, .null, .null, .null, .null, .null] .null := V_b1.pad (pad_rep [] .null 7)
  have I_x1 := I_x1.ext E1
  have I_y1 := I_y1.ext E1
  refine OwnW.astoreN C (pc' := 6) own_d_jdk_56_method_4_code_5 rfl rfl (l' := #[.val (.ref r1), .val (.ref b1), .unset]) rfl ?_
  refine OwnW.iconst C (pc' := 7) own_d_jdk_56_method_4_code_6 rfl (z := 0) rfl ?_
  refine OwnW.istoreN C (pc' := 8) own_d_jdk_56_method_4_code_7 rfl (l' := #[.val (.ref r1), .val (.ref b1), .val (.int (0 : Int32))]) rfl ?_
  refine OwnW.iloadN C (pc' := 9) own_d_jdk_56_method_4_code_8 rfl rfl ?_
  refine OwnW.aloadN C (pc' := 10) own_d_jdk_56_method_4_code_9 rfl rfl rfl ?_
  refine OwnW.alen C (pc' := 11) V_r1 own_d_jdk_56_method_4_code_10 rfl ?_
  refine OwnW.icGe C (pcY := 29) (pcN := 14) own_d_jdk_56_method_4_code_11 (by decide) rfl rfl (fun hc11 => absurd (by decide) hc11) (fun hc11 => ?_)
  refine OwnW.aloadN C (pc' := 15) own_d_jdk_56_method_4_code_14 rfl rfl rfl ?_
  refine OwnW.iloadN C (pc' := 16) own_d_jdk_56_method_4_code_15 rfl rfl ?_
  refine OwnW.aloadN C (pc' := 17) own_d_jdk_56_method_4_code_16 rfl rfl rfl ?_
  refine OwnW.iloadN C (pc' := 18) own_d_jdk_56_method_4_code_17 rfl rfl ?_
  refine OwnW.aaload C (pc' := 19) V_r1 rfl ⟨by decide, by decide⟩ (v := (.ref x1)) rfl own_d_jdk_56_method_4_code_18 rfl ?_
  refine OwnW.callS C (pc' := 22) (y := (⟨"java/util/Objects", "requireNonNull", "(Ljava/lang/Object;)Ljava/lang/Object;"⟩ : MethodName)) (W := 2) (argsL := [(.ref x1)]) (rest := [(.int (0 : Int32)), (.ref b1)]) (hw _ (List.mem_of_getElem? (i := 208) rfl)) (hw _ (List.mem_of_getElem? (i := 185) rfl)) (hw _ (List.mem_of_getElem? (i := 186) rfl)) (hw _ (List.mem_of_getElem? (i := 187) rfl)) (by decide) (own_rnn l Z a0 hw x1 h1 n0) (K' := 1) (S' := 7) (by decide) (by decide) rfl own_pd__Ljava_lang_Object__Ljava_lang_Object_ rfl (Nat.le_of_eq rfl) rfl rfl (by decide) (by decide) rfl own_d_jdk_56_method_4_code_19 rfl (fun v h' hq => ?_)
  obtain ⟨rfl, hh⟩ := hq
  refine Go.at (st' := [(.ref x1), (.int (0 : Int32)), (.ref b1)]) rfl ?_
  refine Go.heap hh ?_
  refine OwnW.aastore C (pc' := 23) V_b1 rfl g_b1 ⟨by decide, by decide⟩ (k := 0) rfl (Nat.le_of_ble_eq_true rfl) (sto_of V_b1 O_b1 I_x1) rfl own_d_jdk_56_method_4_code_22 rfl (fun h2 W2 V_b1 => ?_)
  have V_b1 : Arv Z h2 b1 cA_b1 (.object "java/lang/Object") (7 : Int32) [(.ref x1), .null, .null, .null, .null, .null, .null] .null := V_b1
  have KH := KH.wr W2 (Or.inr s_b1)
  have Sz := Nat.le_trans Sz (Keep.of_wr W2).1
  have V_r1 := V_r1.other W2 ne_r1_b1
  have X_b1 := X_b1.wr W2
  have I_x1 := I_x1.wr W2
  have I_y1 := I_y1.wr W2
  refine OwnW.iinc C (pc' := 26) own_d_jdk_56_method_4_code_23 rfl rfl (l' := #[.val (.ref r1), .val (.ref b1), .val (.int (1 : Int32))]) rfl ?_
  refine OwnW.goto C (pc' := 8) own_d_jdk_56_method_4_code_26 (by decide) rfl ?_
  refine OwnW.iloadN C (pc' := 9) own_d_jdk_56_method_4_code_8 rfl rfl ?_
  refine OwnW.aloadN C (pc' := 10) own_d_jdk_56_method_4_code_9 rfl rfl rfl ?_
  refine OwnW.alen C (pc' := 11) V_r1 own_d_jdk_56_method_4_code_10 rfl ?_
  refine OwnW.icGe C (pcY := 29) (pcN := 14) own_d_jdk_56_method_4_code_11 (by decide) rfl rfl (fun hc11_1 => absurd (by decide) hc11_1) (fun hc11_1 => ?_)
  refine OwnW.aloadN C (pc' := 15) own_d_jdk_56_method_4_code_14 rfl rfl rfl ?_
  refine OwnW.iloadN C (pc' := 16) own_d_jdk_56_method_4_code_15 rfl rfl ?_
  refine OwnW.aloadN C (pc' := 17) own_d_jdk_56_method_4_code_16 rfl rfl rfl ?_
  refine OwnW.iloadN C (pc' := 18) own_d_jdk_56_method_4_code_17 rfl rfl ?_
  refine OwnW.aaload C (pc' := 19) V_r1 rfl ⟨by decide, by decide⟩ (v := (.ref y1)) rfl own_d_jdk_56_method_4_code_18 rfl ?_
  refine OwnW.callS C (pc' := 22) (y := (⟨"java/util/Objects", "requireNonNull", "(Ljava/lang/Object;)Ljava/lang/Object;"⟩ : MethodName)) (W := 2) (argsL := [(.ref y1)]) (rest := [(.int (1 : Int32)), (.ref b1)]) (hw _ (List.mem_of_getElem? (i := 208) rfl)) (hw _ (List.mem_of_getElem? (i := 185) rfl)) (hw _ (List.mem_of_getElem? (i := 186) rfl)) (hw _ (List.mem_of_getElem? (i := 187) rfl)) (by decide) (own_rnn l Z a0 hw y1 h2 n0) (K' := 1) (S' := 7) (by decide) (by decide) rfl own_pd__Ljava_lang_Object__Ljava_lang_Object_ rfl (Nat.le_of_eq rfl) rfl rfl (by decide) (by decide) rfl own_d_jdk_56_method_4_code_19 rfl (fun v h' hq => ?_)
  obtain ⟨rfl, hh⟩ := hq
  refine Go.at (st' := [(.ref y1), (.int (1 : Int32)), (.ref b1)]) rfl ?_
  refine Go.heap hh ?_
  refine OwnW.aastore C (pc' := 23) V_b1 rfl g_b1 ⟨by decide, by decide⟩ (k := 1) rfl (Nat.le_of_ble_eq_true rfl) (sto_of V_b1 O_b1 I_y1) rfl own_d_jdk_56_method_4_code_22 rfl (fun h3 W3 V_b1 => ?_)
  have V_b1 : Arv Z h3 b1 cA_b1 (.object "java/lang/Object") (7 : Int32) [(.ref x1), (.ref y1), .null, .null, .null, .null, .null] .null := V_b1
  have KH := KH.wr W3 (Or.inr s_b1)
  have Sz := Nat.le_trans Sz (Keep.of_wr W3).1
  have V_r1 := V_r1.other W3 ne_r1_b1
  have X_b1 := X_b1.wr W3
  have I_x1 := I_x1.wr W3
  have I_y1 := I_y1.wr W3
  refine OwnW.iinc C (pc' := 26) own_d_jdk_56_method_4_code_23 rfl rfl (l' := #[.val (.ref r1), .val (.ref b1), .val (.int (2 : Int32))]) rfl ?_
  refine OwnW.goto C (pc' := 8) own_d_jdk_56_method_4_code_26 (by decide) rfl ?_
  refine OwnW.iloadN C (pc' := 9) own_d_jdk_56_method_4_code_8 rfl rfl ?_
  refine OwnW.aloadN C (pc' := 10) own_d_jdk_56_method_4_code_9 rfl rfl rfl ?_
  refine OwnW.alen C (pc' := 11) V_r1 own_d_jdk_56_method_4_code_10 rfl ?_
  refine OwnW.icGe C (pcY := 29) (pcN := 14) own_d_jdk_56_method_4_code_11 (by decide) rfl rfl (fun hc11_2 => absurd (by decide) hc11_2) (fun hc11_2 => ?_)
  refine OwnW.aloadN C (pc' := 15) own_d_jdk_56_method_4_code_14 rfl rfl rfl ?_
  refine OwnW.iloadN C (pc' := 16) own_d_jdk_56_method_4_code_15 rfl rfl ?_
  refine OwnW.aloadN C (pc' := 17) own_d_jdk_56_method_4_code_16 rfl rfl rfl ?_
  refine OwnW.iloadN C (pc' := 18) own_d_jdk_56_method_4_code_17 rfl rfl ?_
  refine OwnW.aaload C (pc' := 19) V_r1 rfl ⟨by decide, by decide⟩ (v := (.ref x1)) rfl own_d_jdk_56_method_4_code_18 rfl ?_
  refine OwnW.callS C (pc' := 22) (y := (⟨"java/util/Objects", "requireNonNull", "(Ljava/lang/Object;)Ljava/lang/Object;"⟩ : MethodName)) (W := 2) (argsL := [(.ref x1)]) (rest := [(.int (2 : Int32)), (.ref b1)]) (hw _ (List.mem_of_getElem? (i := 208) rfl)) (hw _ (List.mem_of_getElem? (i := 185) rfl)) (hw _ (List.mem_of_getElem? (i := 186) rfl)) (hw _ (List.mem_of_getElem? (i := 187) rfl)) (by decide) (own_rnn l Z a0 hw x1 h3 n0) (K' := 1) (S' := 7) (by decide) (by decide) rfl own_pd__Ljava_lang_Object__Ljava_lang_Object_ rfl (Nat.le_of_eq rfl) rfl rfl (by decide) (by decide) rfl own_d_jdk_56_method_4_code_19 rfl (fun v h' hq => ?_)
  obtain ⟨rfl, hh⟩ := hq
  refine Go.at (st' := [(.ref x1), (.int (2 : Int32)), (.ref b1)]) rfl ?_
  refine Go.heap hh ?_
  refine OwnW.aastore C (pc' := 23) V_b1 rfl g_b1 ⟨by decide, by decide⟩ (k := 2) rfl (Nat.le_of_ble_eq_true rfl) (sto_of V_b1 O_b1 I_x1) rfl own_d_jdk_56_method_4_code_22 rfl (fun h4 W4 V_b1 => ?_)
  have V_b1 : Arv Z h4 b1 cA_b1 (.object "java/lang/Object") (7 : Int32) [(.ref x1), (.ref y1), (.ref x1), .null, .null, .null, .null] .null := V_b1
  have KH := KH.wr W4 (Or.inr s_b1)
  have Sz := Nat.le_trans Sz (Keep.of_wr W4).1
  have V_r1 := V_r1.other W4 ne_r1_b1
  have X_b1 := X_b1.wr W4
  have I_x1 := I_x1.wr W4
  have I_y1 := I_y1.wr W4
  refine OwnW.iinc C (pc' := 26) own_d_jdk_56_method_4_code_23 rfl rfl (l' := #[.val (.ref r1), .val (.ref b1), .val (.int (3 : Int32))]) rfl ?_
  refine OwnW.goto C (pc' := 8) own_d_jdk_56_method_4_code_26 (by decide) rfl ?_
  refine OwnW.iloadN C (pc' := 9) own_d_jdk_56_method_4_code_8 rfl rfl ?_
  refine OwnW.aloadN C (pc' := 10) own_d_jdk_56_method_4_code_9 rfl rfl rfl ?_
  refine OwnW.alen C (pc' := 11) V_r1 own_d_jdk_56_method_4_code_10 rfl ?_
  refine OwnW.icGe C (pcY := 29) (pcN := 14) own_d_jdk_56_method_4_code_11 (by decide) rfl rfl (fun hc11_3 => absurd (by decide) hc11_3) (fun hc11_3 => ?_)
  refine OwnW.aloadN C (pc' := 15) own_d_jdk_56_method_4_code_14 rfl rfl rfl ?_
  refine OwnW.iloadN C (pc' := 16) own_d_jdk_56_method_4_code_15 rfl rfl ?_
  refine OwnW.aloadN C (pc' := 17) own_d_jdk_56_method_4_code_16 rfl rfl rfl ?_
  refine OwnW.iloadN C (pc' := 18) own_d_jdk_56_method_4_code_17 rfl rfl ?_
  refine OwnW.aaload C (pc' := 19) V_r1 rfl ⟨by decide, by decide⟩ (v := (.ref y1)) rfl own_d_jdk_56_method_4_code_18 rfl ?_
  refine OwnW.callS C (pc' := 22) (y := (⟨"java/util/Objects", "requireNonNull", "(Ljava/lang/Object;)Ljava/lang/Object;"⟩ : MethodName)) (W := 2) (argsL := [(.ref y1)]) (rest := [(.int (3 : Int32)), (.ref b1)]) (hw _ (List.mem_of_getElem? (i := 208) rfl)) (hw _ (List.mem_of_getElem? (i := 185) rfl)) (hw _ (List.mem_of_getElem? (i := 186) rfl)) (hw _ (List.mem_of_getElem? (i := 187) rfl)) (by decide) (own_rnn l Z a0 hw y1 h4 n0) (K' := 1) (S' := 7) (by decide) (by decide) rfl own_pd__Ljava_lang_Object__Ljava_lang_Object_ rfl (Nat.le_of_eq rfl) rfl rfl (by decide) (by decide) rfl own_d_jdk_56_method_4_code_19 rfl (fun v h' hq => ?_)
  obtain ⟨rfl, hh⟩ := hq
  refine Go.at (st' := [(.ref y1), (.int (3 : Int32)), (.ref b1)]) rfl ?_
  refine Go.heap hh ?_
  refine OwnW.aastore C (pc' := 23) V_b1 rfl g_b1 ⟨by decide, by decide⟩ (k := 3) rfl (Nat.le_of_ble_eq_true rfl) (sto_of V_b1 O_b1 I_y1) rfl own_d_jdk_56_method_4_code_22 rfl (fun h5 W5 V_b1 => ?_)
  have V_b1 : Arv Z h5 b1 cA_b1 (.object "java/lang/Object") (7 : Int32) [(.ref x1), (.ref y1), (.ref x1), (.ref y1), .null, .null, .null] .null := V_b1
  have KH := KH.wr W5 (Or.inr s_b1)
  have Sz := Nat.le_trans Sz (Keep.of_wr W5).1
  have V_r1 := V_r1.other W5 ne_r1_b1
  have X_b1 := X_b1.wr W5
  have I_x1 := I_x1.wr W5
  have I_y1 := I_y1.wr W5
  refine OwnW.iinc C (pc' := 26) own_d_jdk_56_method_4_code_23 rfl rfl (l' := #[.val (.ref r1), .val (.ref b1), .val (.int (4 : Int32))]) rfl ?_
  refine OwnW.goto C (pc' := 8) own_d_jdk_56_method_4_code_26 (by decide) rfl ?_
  refine OwnW.iloadN C (pc' := 9) own_d_jdk_56_method_4_code_8 rfl rfl ?_
  refine OwnW.aloadN C (pc' := 10) own_d_jdk_56_method_4_code_9 rfl rfl rfl ?_
  refine OwnW.alen C (pc' := 11) V_r1 own_d_jdk_56_method_4_code_10 rfl ?_
  refine OwnW.icGe C (pcY := 29) (pcN := 14) own_d_jdk_56_method_4_code_11 (by decide) rfl rfl (fun hc11_4 => absurd (by decide) hc11_4) (fun hc11_4 => ?_)
  refine OwnW.aloadN C (pc' := 15) own_d_jdk_56_method_4_code_14 rfl rfl rfl ?_
  refine OwnW.iloadN C (pc' := 16) own_d_jdk_56_method_4_code_15 rfl rfl ?_
  refine OwnW.aloadN C (pc' := 17) own_d_jdk_56_method_4_code_16 rfl rfl rfl ?_
  refine OwnW.iloadN C (pc' := 18) own_d_jdk_56_method_4_code_17 rfl rfl ?_
  refine OwnW.aaload C (pc' := 19) V_r1 rfl ⟨by decide, by decide⟩ (v := (.ref x1)) rfl own_d_jdk_56_method_4_code_18 rfl ?_
  refine OwnW.callS C (pc' := 22) (y := (⟨"java/util/Objects", "requireNonNull", "(Ljava/lang/Object;)Ljava/lang/Object;"⟩ : MethodName)) (W := 2) (argsL := [(.ref x1)]) (rest := [(.int (4 : Int32)), (.ref b1)]) (hw _ (List.mem_of_getElem? (i := 208) rfl)) (hw _ (List.mem_of_getElem? (i := 185) rfl)) (hw _ (List.mem_of_getElem? (i := 186) rfl)) (hw _ (List.mem_of_getElem? (i := 187) rfl)) (by decide) (own_rnn l Z a0 hw x1 h5 n0) (K' := 1) (S' := 7) (by decide) (by decide) rfl own_pd__Ljava_lang_Object__Ljava_lang_Object_ rfl (Nat.le_of_eq rfl) rfl rfl (by decide) (by decide) rfl own_d_jdk_56_method_4_code_19 rfl (fun v h' hq => ?_)
  obtain ⟨rfl, hh⟩ := hq
  refine Go.at (st' := [(.ref x1), (.int (4 : Int32)), (.ref b1)]) rfl ?_
  refine Go.heap hh ?_
  refine OwnW.aastore C (pc' := 23) V_b1 rfl g_b1 ⟨by decide, by decide⟩ (k := 4) rfl (Nat.le_of_ble_eq_true rfl) (sto_of V_b1 O_b1 I_x1) rfl own_d_jdk_56_method_4_code_22 rfl (fun h6 W6 V_b1 => ?_)
  have V_b1 : Arv Z h6 b1 cA_b1 (.object "java/lang/Object") (7 : Int32) [(.ref x1), (.ref y1), (.ref x1), (.ref y1), (.ref x1), .null, .null] .null := V_b1
  have KH := KH.wr W6 (Or.inr s_b1)
  have Sz := Nat.le_trans Sz (Keep.of_wr W6).1
  have V_r1 := V_r1.other W6 ne_r1_b1
  have X_b1 := X_b1.wr W6
  have I_x1 := I_x1.wr W6
  have I_y1 := I_y1.wr W6
  refine OwnW.iinc C (pc' := 26) own_d_jdk_56_method_4_code_23 rfl rfl (l' := #[.val (.ref r1), .val (.ref b1), .val (.int (5 : Int32))]) rfl ?_
  refine OwnW.goto C (pc' := 8) own_d_jdk_56_method_4_code_26 (by decide) rfl ?_
  refine OwnW.iloadN C (pc' := 9) own_d_jdk_56_method_4_code_8 rfl rfl ?_
  refine OwnW.aloadN C (pc' := 10) own_d_jdk_56_method_4_code_9 rfl rfl rfl ?_
  refine OwnW.alen C (pc' := 11) V_r1 own_d_jdk_56_method_4_code_10 rfl ?_
  refine OwnW.icGe C (pcY := 29) (pcN := 14) own_d_jdk_56_method_4_code_11 (by decide) rfl rfl (fun hc11_5 => absurd (by decide) hc11_5) (fun hc11_5 => ?_)
  refine OwnW.aloadN C (pc' := 15) own_d_jdk_56_method_4_code_14 rfl rfl rfl ?_
  refine OwnW.iloadN C (pc' := 16) own_d_jdk_56_method_4_code_15 rfl rfl ?_
  refine OwnW.aloadN C (pc' := 17) own_d_jdk_56_method_4_code_16 rfl rfl rfl ?_
  refine OwnW.iloadN C (pc' := 18) own_d_jdk_56_method_4_code_17 rfl rfl ?_
  refine OwnW.aaload C (pc' := 19) V_r1 rfl ⟨by decide, by decide⟩ (v := (.ref y1)) rfl own_d_jdk_56_method_4_code_18 rfl ?_
  refine OwnW.callS C (pc' := 22) (y := (⟨"java/util/Objects", "requireNonNull", "(Ljava/lang/Object;)Ljava/lang/Object;"⟩ : MethodName)) (W := 2) (argsL := [(.ref y1)]) (rest := [(.int (5 : Int32)), (.ref b1)]) (hw _ (List.mem_of_getElem? (i := 208) rfl)) (hw _ (List.mem_of_getElem? (i := 185) rfl)) (hw _ (List.mem_of_getElem? (i := 186) rfl)) (hw _ (List.mem_of_getElem? (i := 187) rfl)) (by decide) (own_rnn l Z a0 hw y1 h6 n0) (K' := 1) (S' := 7) (by decide) (by decide) rfl own_pd__Ljava_lang_Object__Ljava_lang_Object_ rfl (Nat.le_of_eq rfl) rfl rfl (by decide) (by decide) rfl own_d_jdk_56_method_4_code_19 rfl (fun v h' hq => ?_)
  obtain ⟨rfl, hh⟩ := hq
  refine Go.at (st' := [(.ref y1), (.int (5 : Int32)), (.ref b1)]) rfl ?_
  refine Go.heap hh ?_
  refine OwnW.aastore C (pc' := 23) V_b1 rfl g_b1 ⟨by decide, by decide⟩ (k := 5) rfl (Nat.le_of_ble_eq_true rfl) (sto_of V_b1 O_b1 I_y1) rfl own_d_jdk_56_method_4_code_22 rfl (fun h7 W7 V_b1 => ?_)
  have V_b1 : Arv Z h7 b1 cA_b1 (.object "java/lang/Object") (7 : Int32) [(.ref x1), (.ref y1), (.ref x1), (.ref y1), (.ref x1), (.ref y1), .null] .null := V_b1
  have KH := KH.wr W7 (Or.inr s_b1)
  have Sz := Nat.le_trans Sz (Keep.of_wr W7).1
  have V_r1 := V_r1.other W7 ne_r1_b1
  have X_b1 := X_b1.wr W7
  have I_x1 := I_x1.wr W7
  have I_y1 := I_y1.wr W7
  refine OwnW.iinc C (pc' := 26) own_d_jdk_56_method_4_code_23 rfl rfl (l' := #[.val (.ref r1), .val (.ref b1), .val (.int (6 : Int32))]) rfl ?_
  refine OwnW.goto C (pc' := 8) own_d_jdk_56_method_4_code_26 (by decide) rfl ?_
  refine OwnW.iloadN C (pc' := 9) own_d_jdk_56_method_4_code_8 rfl rfl ?_
  refine OwnW.aloadN C (pc' := 10) own_d_jdk_56_method_4_code_9 rfl rfl rfl ?_
  refine OwnW.alen C (pc' := 11) V_r1 own_d_jdk_56_method_4_code_10 rfl ?_
  refine OwnW.icGe C (pcY := 29) (pcN := 14) own_d_jdk_56_method_4_code_11 (by decide) rfl rfl (fun hc11_6 => absurd (by decide) hc11_6) (fun hc11_6 => ?_)
  refine OwnW.aloadN C (pc' := 15) own_d_jdk_56_method_4_code_14 rfl rfl rfl ?_
  refine OwnW.iloadN C (pc' := 16) own_d_jdk_56_method_4_code_15 rfl rfl ?_
  refine OwnW.aloadN C (pc' := 17) own_d_jdk_56_method_4_code_16 rfl rfl rfl ?_
  refine OwnW.iloadN C (pc' := 18) own_d_jdk_56_method_4_code_17 rfl rfl ?_
  refine OwnW.aaload C (pc' := 19) V_r1 rfl ⟨by decide, by decide⟩ (v := (.ref x1)) rfl own_d_jdk_56_method_4_code_18 rfl ?_
  refine OwnW.callS C (pc' := 22) (y := (⟨"java/util/Objects", "requireNonNull", "(Ljava/lang/Object;)Ljava/lang/Object;"⟩ : MethodName)) (W := 2) (argsL := [(.ref x1)]) (rest := [(.int (6 : Int32)), (.ref b1)]) (hw _ (List.mem_of_getElem? (i := 208) rfl)) (hw _ (List.mem_of_getElem? (i := 185) rfl)) (hw _ (List.mem_of_getElem? (i := 186) rfl)) (hw _ (List.mem_of_getElem? (i := 187) rfl)) (by decide) (own_rnn l Z a0 hw x1 h7 n0) (K' := 1) (S' := 7) (by decide) (by decide) rfl own_pd__Ljava_lang_Object__Ljava_lang_Object_ rfl (Nat.le_of_eq rfl) rfl rfl (by decide) (by decide) rfl own_d_jdk_56_method_4_code_19 rfl (fun v h' hq => ?_)
  obtain ⟨rfl, hh⟩ := hq
  refine Go.at (st' := [(.ref x1), (.int (6 : Int32)), (.ref b1)]) rfl ?_
  refine Go.heap hh ?_
  refine OwnW.aastore C (pc' := 23) V_b1 rfl g_b1 ⟨by decide, by decide⟩ (k := 6) rfl (Nat.le_of_ble_eq_true rfl) (sto_of V_b1 O_b1 I_x1) rfl own_d_jdk_56_method_4_code_22 rfl (fun h8 W8 V_b1 => ?_)
  have V_b1 : Arv Z h8 b1 cA_b1 (.object "java/lang/Object") (7 : Int32) [(.ref x1), (.ref y1), (.ref x1), (.ref y1), (.ref x1), (.ref y1), (.ref x1)] .null := V_b1
  have KH := KH.wr W8 (Or.inr s_b1)
  have Sz := Nat.le_trans Sz (Keep.of_wr W8).1
  have V_r1 := V_r1.other W8 ne_r1_b1
  have X_b1 := X_b1.wr W8
  have I_x1 := I_x1.wr W8
  have I_y1 := I_y1.wr W8
  refine OwnW.iinc C (pc' := 26) own_d_jdk_56_method_4_code_23 rfl rfl (l' := #[.val (.ref r1), .val (.ref b1), .val (.int (7 : Int32))]) rfl ?_
  refine OwnW.goto C (pc' := 8) own_d_jdk_56_method_4_code_26 (by decide) rfl ?_
  refine OwnW.iloadN C (pc' := 9) own_d_jdk_56_method_4_code_8 rfl rfl ?_
  refine OwnW.aloadN C (pc' := 10) own_d_jdk_56_method_4_code_9 rfl rfl rfl ?_
  refine OwnW.alen C (pc' := 11) V_r1 own_d_jdk_56_method_4_code_10 rfl ?_
  refine OwnW.icGe C (pcY := 29) (pcN := 14) own_d_jdk_56_method_4_code_11 (by decide) rfl rfl (fun hc11_7 => ?_) (fun hc11_7 => absurd hc11_7 (by decide))
  refine OwnW.newO C (pc' := 32) (K' := 2) (S' := 9) (hw _ (List.mem_of_getElem? (i := 53) rfl)) (hw _ (List.mem_of_getElem? (i := 209) rfl)) (hw _ (List.mem_of_getElem? (i := 84) rfl)) own_d_jdk_56_method_4_code_29 rfl rfl rfl (by decide) (by decide) (fun h9 b9 g9 E9 X_b9 D9 => ?_)
  have ne_r1_b9 : r1 ≠ b9 := Nat.ne_of_lt (Nat.lt_of_lt_of_eq V_r1.lt g9.symm)
  have ne_b1_b9 : b1 ≠ b9 := Nat.ne_of_lt (Nat.lt_of_lt_of_eq X_b1.lt g9.symm)
  have g_b9 : n0 ≤ b9 := Nat.le_trans Sz (Nat.le_of_eq g9.symm)
  have s_b9 : h0.size ≤ b9 := Nat.le_trans KH.1 (Nat.le_of_eq g9.symm)
  have KH := KH.ext E9
  have Sz := Nat.le_trans Sz E9.1
  have V_r1 := V_r1.ext E9
  have X_b1 := X_b1.ext E9
  have V_b1 := V_b1.ext E9
  have F_elements_b9 : Fld Z h9 b9 "java/util/ImmutableCollections$ListN" "elements" "[Ljava/lang/Object;" .null := D9 (Or.inr (hw _ (List.mem_of_getElem? (i := 87) rfl))) (ty := (.array (.object "java/lang/Object"))) (by decide)
  have F_allowNulls_b9 : Fld Z h9 b9 "java/util/ImmutableCollections$ListN" "allowNulls" "Z" (.int (0 : Int32)) := D9 (Or.inr (hw _ (List.mem_of_getElem? (i := 219) rfl))) (ty := .boolean) (by decide)
  refine OwnW.dup C (pc' := 33) own_d_jdk_56_method_4_code_32 rfl rfl ?_
  refine OwnW.aloadN C (pc' := 34) own_d_jdk_56_method_4_code_33 rfl rfl rfl ?_
  refine OwnW.iconst C (pc' := 35) own_d_jdk_56_method_4_code_34 rfl (z := 0) rfl ?_
  refine OwnW.callXN C (pc' := 38) (y := (⟨"java/util/ImmutableCollections$ListN", "<init>", "([Ljava/lang/Object;Z)V"⟩ : MethodName)) (W := 1) (argsL := [(.ref b1), (.int (0 : Int32))]) (rest := [(.ref b9)]) rfl (hw _ (List.mem_of_getElem? (i := 210) rfl)) (hw _ (List.mem_of_getElem? (i := 211) rfl)) (hw _ (List.mem_of_getElem? (i := 84) rfl)) (hw _ (List.mem_of_getElem? (i := 213) rfl)) (by decide) (own_lninit l Z a0 hw b9 b1 h9 n0 X_b9 F_elements_b9 F_allowNulls_b9 g_b9) (K' := 2) (S' := 9) (by decide) (by decide) rfl own_pd___Ljava_lang_Object_Z_V rfl (Nat.le_of_eq rfl) rfl rfl (by decide) (by decide) rfl own_d_jdk_56_method_4_code_35 rfl (fun v h99 hq => ?_)
  obtain ⟨rfl, KK, FE⟩ := hq
  refine Go.at (st' := [(.ref b9)]) rfl ?_
  have KH := KH.trans KK (allS (Or.inr s_b9) all0)
  have X_b9 := X_b9.keep KK
  have V_b1 := V_b1.keep KK (ninS ne_b1_b9 nin0)
  exact OwnW.retA C rfl rfl rfl ⟨b9, rfl, s_b9, KH, X_b9, b1, cA_b1, FE, V_b1⟩ (by decide) (by decide) own_d_jdk_56_method_4_code_38
set_option maxRecDepth 65536 in
set_option maxHeartbeats 40000000 in
theorem own_ofArr_7 (l : Launch) (Z : State) (a0 : Array Value) (hw : ∀ d ∈ tables_1, d.before a0 Z = true) (r1 : Addr) (x1 y1 : Addr) (cR : ClassId) (h0 : Heap) (n0 : Nat) (Sz : n0 ≤ h0.size) (V_r1 : Arv Z h0 r1 cR (.object "java/lang/Object") (7 : Int32) [.ref x1, .ref y1, .ref x1, .ref y1, .ref x1, .ref y1, .ref x1] .null) (I_x1 : Ins Z h0 x1 "java/lang/Object" true) (I_y1 : Ins Z h0 y1 "java/lang/Object" true) :
    Ctr l Z (⟨"java/util/List", "of", "([Ljava/lang/Object;)Ljava/util/List;"⟩ : MethodName) jdk_40_method_47_code 2 (some (.object "java/util/List")) ({ frames := 6, cells := 2, slots := 9, locals := 77 } : Room) #[(.ref r1)] h0 n0 (fun v h => ∃ r, v = some (.ref r) ∧ h0.size ≤ r ∧ Keep h0 h [] ∧ Exa Z h r "java/util/ImmutableCollections$ListN" ∧ ∃ (ar : Addr) (cR : ClassId), Fld Z h r "java/util/ImmutableCollections$ListN" "elements" "[Ljava/lang/Object;" (.ref ar) ∧ Arv Z h ar cR (.object "java/lang/Object") (7 : Int32) [.ref x1, .ref y1, .ref x1, .ref y1, .ref x1, .ref y1, .ref x1] .null) := by
  refine Ctr.of (plainFor_of_name own_pn_List) ?_
  intro p e s m below meth c C
  refine Go.frame (g' := mkF m 0 #[.val (.ref r1), .unset] []) (by first | (simp [entryFrame, mkF, argsToLocals, Value.category]; done) | rfl) ?_
  have KH := Keep.refl h0 []
  refine OwnW.aloadN C (pc' := 1) own_d_jdk_40_method_47_code_0 rfl rfl rfl ?_
  refine OwnW.alen C (pc' := 2) V_r1 own_d_jdk_40_method_47_code_1 rfl ?_
  refine OwnW.tswD C (pc' := 59) own_d_jdk_40_method_47_code_2 (by decide) (by decide) rfl ?_
  refine OwnW.aloadN C (pc' := 60) own_d_jdk_40_method_47_code_59 rfl rfl rfl ?_
  refine OwnW.callS C (pc' := 63) (y := (⟨"java/util/ImmutableCollections", "listFromArray", "([Ljava/lang/Object;)Ljava/util/List;"⟩ : MethodName)) (W := 0) (argsL := [(.ref r1)]) (rest := []) (hw _ (List.mem_of_getElem? (i := 204) rfl)) (hw _ (List.mem_of_getElem? (i := 205) rfl)) (hw _ (List.mem_of_getElem? (i := 46) rfl)) (hw _ (List.mem_of_getElem? (i := 206) rfl)) (by decide) (own_lfa_7 l Z a0 hw r1 x1 y1 cR h0 n0 Sz V_r1 I_x1 I_y1) (K' := 2) (S' := 9) (by decide) (by decide) rfl own_pd___Ljava_lang_Object__Ljava_util_List_ rfl (Nat.le_of_eq rfl) rfl rfl (by decide) (by decide) rfl own_d_jdk_40_method_47_code_60 rfl (fun v h1 hq => ?_)
  obtain ⟨r, rfl, hr, KK, QQ⟩ := hq
  refine Go.at (st' := [(.ref r)]) rfl ?_
  exact OwnW.retA C rfl rfl rfl ⟨r, rfl, hr, KK, QQ⟩ (by decide) (by decide) own_d_jdk_40_method_47_code_63
set_option maxRecDepth 65536 in
set_option maxHeartbeats 40000000 in
theorem own_listCopy_7 (l : Launch) (Z : State) (a0 : Array Value) (hw : ∀ d ∈ tables_1, d.before a0 Z = true) (l1 b mr : Addr) (x1 y1 : Addr) (vs : List Value) (cO : ClassId) (h0 : Heap) (n0 : Nat) (Sz : n0 ≤ h0.size) (X_l1 : Exa Z h0 l1 "java/util/ArrayList") (F_elementData_l1 : Fld Z h0 l1 "java/util/ArrayList" "elementData" "[Ljava/lang/Object;" (.ref b)) (F_size_l1 : Fld Z h0 l1 "java/util/ArrayList" "size" "I" (.int 7)) (X_b : Exa Z h0 b "[Ljava/lang/Object;") (V_b : Arv Z h0 b cO (.object "java/lang/Object") 10 vs .null) (M : Mi Z "[Ljava/lang/Object;" mr) (hus : [.ref x1, .ref y1, .ref x1, .ref y1, .ref x1, .ref y1, .ref x1] = (List.range (7 : Int32).toNatClampNeg).map fun i => vs.getD ((0 : Int32).toNatClampNeg + i) .null) (I_x1 : Ins Z h0 x1 "java/lang/Object" true) (I_y1 : Ins Z h0 y1 "java/lang/Object" true) :
    Ctr l Z (⟨"java/util/ImmutableCollections", "listCopy", "(Ljava/util/Collection;)Ljava/util/List;"⟩ : MethodName) jdk_56_method_3_code 2 (some (.object "java/util/List")) ({ frames := 7, cells := 3, slots := 16, locals := 90 } : Room) #[(.ref l1)] h0 n0 (fun v h => ∃ r, v = some (.ref r) ∧ h0.size ≤ r ∧ Keep h0 h [] ∧ Exa Z h r "java/util/ImmutableCollections$ListN" ∧ ∃ (ar : Addr) (cR : ClassId), Fld Z h r "java/util/ImmutableCollections$ListN" "elements" "[Ljava/lang/Object;" (.ref ar) ∧ Arv Z h ar cR (.object "java/lang/Object") (7 : Int32) [.ref x1, .ref y1, .ref x1, .ref y1, .ref x1, .ref y1, .ref x1] .null) := by
  refine Ctr.of (plainFor_of_name own_pn_ImmutableCollections) ?_
  intro p e s m below meth c C
  refine Go.frame (g' := mkF m 0 #[.val (.ref l1), .unset] []) (by first | (simp [entryFrame, mkF, argsToLocals, Value.category]; done) | rfl) ?_
  refine OwnW.aloadN C (pc' := 1) own_d_jdk_56_method_3_code_0 rfl rfl rfl ?_
  refine OwnW.instNo C (pc' := 4) (hw _ (List.mem_of_getElem? (i := 48) rfl)) X_l1 (own_nsno (hw _ (List.mem_of_getElem? (i := 49) rfl)) (hw _ (List.mem_of_getElem? (i := 164) rfl)) (NS.step (hw _ (List.mem_of_getElem? (i := 49) rfl)) (NS.step (hw _ (List.mem_of_getElem? (i := 50) rfl)) (NS.step (hw _ (List.mem_of_getElem? (i := 51) rfl)) (own_nsroot (hw _ (List.mem_of_getElem? (i := 52) rfl)) (hw _ (List.mem_of_getElem? (i := 164) rfl)) (by decide)) (by decide)) (by decide)) (by decide)) (by decide)) own_d_jdk_56_method_3_code_1 rfl ?_
  refine OwnW.ifNe C (pcY := 26) (pcN := 7) own_d_jdk_56_method_3_code_4 (by decide) rfl rfl (fun hc4 => absurd rfl hc4) (fun hc4 => ?_)
  refine OwnW.aloadN C (pc' := 8) own_d_jdk_56_method_3_code_7 rfl rfl rfl ?_
  refine OwnW.instNo C (pc' := 11) (hw _ (List.mem_of_getElem? (i := 53) rfl)) X_l1 (own_nsno (hw _ (List.mem_of_getElem? (i := 49) rfl)) (hw _ (List.mem_of_getElem? (i := 209) rfl)) (NS.step (hw _ (List.mem_of_getElem? (i := 49) rfl)) (NS.step (hw _ (List.mem_of_getElem? (i := 50) rfl)) (NS.step (hw _ (List.mem_of_getElem? (i := 51) rfl)) (own_nsroot (hw _ (List.mem_of_getElem? (i := 52) rfl)) (hw _ (List.mem_of_getElem? (i := 209) rfl)) (by decide)) (by decide)) (by decide)) (by decide)) (by decide)) own_d_jdk_56_method_3_code_8 rfl ?_
  refine OwnW.ifEq C (pcY := 31) (pcN := 14) own_d_jdk_56_method_3_code_11 (by decide) rfl rfl (fun hc11 => ?_) (fun hc11 => absurd rfl hc11)
  refine OwnW.aloadN C (pc' := 32) own_d_jdk_56_method_3_code_31 rfl rfl rfl ?_
  refine OwnW.callI C (pc' := 37) (y := (⟨"java/util/Collection", "isEmpty", "()Z"⟩ : MethodName)) (z := (⟨"java/util/ArrayList", "isEmpty", "()Z"⟩ : MethodName)) (W := 0) (argsL := []) (rest := []) (hw _ (List.mem_of_getElem? (i := 54) rfl)) (hw _ (List.mem_of_getElem? (i := 55) rfl)) (hw _ (List.mem_of_getElem? (i := 56) rfl)) (by first | rfl | decide) (hw _ (List.mem_of_getElem? (i := 57) rfl)) (hw _ (List.mem_of_getElem? (i := 58) rfl)) (hw _ (List.mem_of_getElem? (i := 59) rfl)) (hw _ (List.mem_of_getElem? (i := 60) rfl)) (hw _ (List.mem_of_getElem? (i := 61) rfl)) (hw _ (List.mem_of_getElem? (i := 2) rfl)) (hw _ (List.mem_of_getElem? (i := 62) rfl)) X_l1 (by decide) (own_alEmpty l Z a0 hw l1 7 h0 n0 F_size_l1) (K' := 0) (S' := 0) (by decide) (by decide) rfl own_pd___Z rfl (Nat.le_of_eq rfl) rfl rfl (by decide) (by decide) rfl own_d_jdk_56_method_3_code_32 rfl (fun v h' hq => ?_)
  obtain ⟨rfl, hh⟩ := hq
  refine Go.at (st' := [(.int (if (7 : Int32) = 0 then (1 : Int32) else 0))]) rfl ?_
  refine Go.heap hh ?_
  refine OwnW.ifEq C (pcY := 44) (pcN := 40) own_d_jdk_56_method_3_code_37 (by decide) rfl rfl (fun hc37 => ?_) (fun hc37 => absurd rfl hc37)
  refine OwnW.aloadN C (pc' := 45) own_d_jdk_56_method_3_code_44 rfl rfl rfl ?_
  refine OwnW.callI C (pc' := 50) (y := (⟨"java/util/Collection", "toArray", "()[Ljava/lang/Object;"⟩ : MethodName)) (z := (⟨"java/util/ArrayList", "toArray", "()[Ljava/lang/Object;"⟩ : MethodName)) (W := 0) (argsL := []) (rest := []) (hw _ (List.mem_of_getElem? (i := 130) rfl)) (hw _ (List.mem_of_getElem? (i := 131) rfl)) (hw _ (List.mem_of_getElem? (i := 132) rfl)) (by first | rfl | decide) (hw _ (List.mem_of_getElem? (i := 133) rfl)) (hw _ (List.mem_of_getElem? (i := 134) rfl)) (hw _ (List.mem_of_getElem? (i := 135) rfl)) (hw _ (List.mem_of_getElem? (i := 136) rfl)) (hw _ (List.mem_of_getElem? (i := 61) rfl)) (hw _ (List.mem_of_getElem? (i := 2) rfl)) (hw _ (List.mem_of_getElem? (i := 137) rfl)) X_l1 (by decide) (own_toArray_7 l Z a0 hw l1 b mr x1 y1 vs cO h0 n0 F_elementData_l1 F_size_l1 Sz X_b V_b M hus I_x1 I_y1) (K' := 1) (S' := 7) (by decide) (by decide) rfl own_pd____Ljava_lang_Object_ rfl (Nat.le_of_eq rfl) rfl rfl (by decide) (by decide) rfl own_d_jdk_56_method_3_code_45 rfl (fun v h1 hq => ?_)
  obtain ⟨r1, cR, rfl, hr1, K1, V_r1⟩ := hq
  refine Go.at (st' := [(.ref r1)]) rfl ?_
  have Sz1 := Nat.le_trans Sz K1.1
  have I_x1 := ins_keep I_x1 K1
  have I_y1 := ins_keep I_y1 K1
  refine OwnW.callS C (pc' := 53) (y := (⟨"java/util/List", "of", "([Ljava/lang/Object;)Ljava/util/List;"⟩ : MethodName)) (W := 0) (argsL := [(.ref r1)]) (rest := []) (hw _ (List.mem_of_getElem? (i := 160) rfl)) (hw _ (List.mem_of_getElem? (i := 161) rfl)) (hw _ (List.mem_of_getElem? (i := 42) rfl)) (hw _ (List.mem_of_getElem? (i := 162) rfl)) (by decide) (own_ofArr_7 l Z a0 hw r1 x1 y1 cR h1 n0 Sz1 V_r1 I_x1 I_y1) (K' := 3) (S' := 16) (by decide) (by decide) rfl own_pd___Ljava_lang_Object__Ljava_util_List_ rfl (Nat.le_of_eq rfl) rfl rfl (by decide) (by decide) rfl own_d_jdk_56_method_3_code_50 rfl (fun v h2 hq => ?_)
  obtain ⟨r, rfl, hr, KK, QQ⟩ := hq
  refine Go.at (st' := [(.ref r)]) rfl ?_
  have KH := K1.trans KK all0
  have hr := Nat.le_trans K1.1 hr
  exact OwnW.retA C rfl rfl rfl ⟨r, rfl, hr, KH, QQ⟩ (by decide) (by decide) own_d_jdk_56_method_3_code_53
set_option maxRecDepth 65536 in
set_option maxHeartbeats 40000000 in
theorem own_copyOf_7 (l : Launch) (Z : State) (a0 : Array Value) (hw : ∀ d ∈ tables_1, d.before a0 Z = true) (l1 b mr : Addr) (x1 y1 : Addr) (vs : List Value) (cO : ClassId) (h0 : Heap) (n0 : Nat) (Sz : n0 ≤ h0.size) (X_l1 : Exa Z h0 l1 "java/util/ArrayList") (F_elementData_l1 : Fld Z h0 l1 "java/util/ArrayList" "elementData" "[Ljava/lang/Object;" (.ref b)) (F_size_l1 : Fld Z h0 l1 "java/util/ArrayList" "size" "I" (.int 7)) (X_b : Exa Z h0 b "[Ljava/lang/Object;") (V_b : Arv Z h0 b cO (.object "java/lang/Object") 10 vs .null) (M : Mi Z "[Ljava/lang/Object;" mr) (hus : [.ref x1, .ref y1, .ref x1, .ref y1, .ref x1, .ref y1, .ref x1] = (List.range (7 : Int32).toNatClampNeg).map fun i => vs.getD ((0 : Int32).toNatClampNeg + i) .null) (I_x1 : Ins Z h0 x1 "java/lang/Object" true) (I_y1 : Ins Z h0 y1 "java/lang/Object" true) :
    Ctr l Z (⟨"java/util/List", "copyOf", "(Ljava/util/Collection;)Ljava/util/List;"⟩ : MethodName) jdk_40_method_48_code 1 (some (.object "java/util/List")) ({ frames := 8, cells := 3, slots := 16, locals := 103 } : Room) #[(.ref l1)] h0 n0 (fun v h => ∃ r, v = some (.ref r) ∧ h0.size ≤ r ∧ Keep h0 h [] ∧ Exa Z h r "java/util/ImmutableCollections$ListN" ∧ ∃ (ar : Addr) (cR : ClassId), Fld Z h r "java/util/ImmutableCollections$ListN" "elements" "[Ljava/lang/Object;" (.ref ar) ∧ Arv Z h ar cR (.object "java/lang/Object") (7 : Int32) [.ref x1, .ref y1, .ref x1, .ref y1, .ref x1, .ref y1, .ref x1] .null) := by
  refine Ctr.of (plainFor_of_name own_pn_List) ?_
  intro p e s m below meth c C
  refine Go.frame (g' := mkF m 0 #[.val (.ref l1)] []) (by first | (simp [entryFrame, mkF, argsToLocals, Value.category]; done) | rfl) ?_
  refine OwnW.aloadN C (pc' := 1) own_d_jdk_40_method_48_code_0 rfl rfl rfl ?_
  refine OwnW.callS C (pc' := 4) (y := (⟨"java/util/ImmutableCollections", "listCopy", "(Ljava/util/Collection;)Ljava/util/List;"⟩ : MethodName)) (W := 0) (argsL := [(.ref l1)]) (rest := []) (hw _ (List.mem_of_getElem? (i := 44) rfl)) (hw _ (List.mem_of_getElem? (i := 45) rfl)) (hw _ (List.mem_of_getElem? (i := 46) rfl)) (hw _ (List.mem_of_getElem? (i := 47) rfl)) (by decide) (own_listCopy_7 l Z a0 hw l1 b mr x1 y1 vs cO h0 n0 Sz X_l1 F_elementData_l1 F_size_l1 X_b V_b M hus I_x1 I_y1) (K' := 3) (S' := 16) (by decide) (by decide) rfl own_pd__Ljava_util_Collection__Ljava_util_List_ rfl (Nat.le_of_eq rfl) rfl rfl (by decide) (by decide) rfl own_d_jdk_40_method_48_code_1 rfl (fun v h1 hq => ?_)
  obtain ⟨r, rfl, hr, KK, QQ⟩ := hq
  refine Go.at (st' := [(.ref r)]) rfl ?_
  exact OwnW.retA C rfl rfl rfl ⟨r, rfl, hr, KK, QQ⟩ (by decide) (by decide) own_d_jdk_40_method_48_code_4
set_option maxRecDepth 65536 in
set_option maxHeartbeats 40000000 in
theorem own_numinit (l : Launch) (Z : State) (a0 : Array Value) (hw : ∀ d ∈ tables_1, d.before a0 Z = true) (a1 : Addr) (h0 : Heap) (n0 : Nat)  :
    Ctr l Z (⟨"java/lang/Number", "<init>", "()V"⟩ : MethodName) jdk_18_method_1_code 1 none ({ frames := 1, cells := 0, slots := 0, locals := 12 } : Room) #[(.ref a1)] h0 n0 (fun v h => v = none ∧ h = h0) := by
  refine Ctr.of (plainFor_of_name own_pn_Number) ?_
  intro p e s m below meth c C
  refine Go.frame (g' := mkF m 0 #[.val (.ref a1)] []) (by first | (simp [entryFrame, mkF, argsToLocals, Value.category]; done) | rfl) ?_
  refine OwnW.aloadN C (pc' := 1) own_d_jdk_18_method_1_code_0 rfl rfl rfl ?_
  refine OwnW.initO C (pc' := 4) (hw _ (List.mem_of_getElem? (i := 232) rfl)) (hw _ (List.mem_of_getElem? (i := 19) rfl)) (hw _ (List.mem_of_getElem? (i := 20) rfl)) rfl (by decide) (W := 0) (Nat.le_of_eq rfl) (by decide) own_d_jdk_18_method_1_code_1 rfl ?_
  exact OwnW.retV C rfl ⟨rfl, rfl⟩ (by decide) (by decide) own_d_jdk_18_method_1_code_4
set_option maxRecDepth 65536 in
set_option maxHeartbeats 40000000 in
theorem own_intinit (l : Launch) (Z : State) (a0 : Array Value) (hw : ∀ d ∈ tables_1, d.before a0 Z = true) (a1 : Addr) (p1 : Int32) (h0 : Heap) (n0 : Nat) (X_a1 : Exa Z h0 a1 "java/lang/Integer") (F_value_a1 : Fld Z h0 a1 "java/lang/Integer" "value" "I" (.int 0)) (g_a1 : n0 ≤ a1) :
    Ctr l Z (⟨"java/lang/Integer", "<init>", "(I)V"⟩ : MethodName) jdk_33_method_23_code 2 none ({ frames := 2, cells := 0, slots := 0, locals := 24 } : Room) #[(.ref a1), (.int p1)] h0 n0 (fun v h => v = none ∧ Keep h0 h [a1]) := by
  refine Ctr.of (plainFor_of_name own_pn_Integer) ?_
  intro p e s m below meth c C
  refine Go.frame (g' := mkF m 0 #[.val (.ref a1), .val (.int p1)] []) (by first | (simp [entryFrame, mkF, argsToLocals, Value.category]; done) | rfl) ?_
  have KH := Keep.refl h0 [a1]
  refine OwnW.aloadN C (pc' := 1) own_d_jdk_33_method_23_code_0 rfl rfl rfl ?_
  refine OwnW.callX C (pc' := 4) (y := (⟨"java/lang/Number", "<init>", "()V"⟩ : MethodName)) (W := 0) (argsL := []) (rest := []) rfl (hw _ (List.mem_of_getElem? (i := 226) rfl)) (hw _ (List.mem_of_getElem? (i := 227) rfl)) (hw _ (List.mem_of_getElem? (i := 230) rfl)) (hw _ (List.mem_of_getElem? (i := 231) rfl)) (by decide) (own_numinit l Z a0 hw a1 h0 n0) (K' := 0) (S' := 0) (by decide) (by decide) rfl own_pd___V rfl (Nat.le_of_eq rfl) rfl rfl (by decide) (by decide) rfl own_d_jdk_33_method_23_code_1 rfl (fun v h' hq => ?_)
  obtain ⟨rfl, hh⟩ := hq
  refine Go.at (st' := []) rfl ?_
  refine Go.heap hh ?_
  refine OwnW.aloadN C (pc' := 5) own_d_jdk_33_method_23_code_4 rfl rfl rfl ?_
  refine OwnW.iloadN C (pc' := 6) own_d_jdk_33_method_23_code_5 rfl rfl ?_
  refine OwnW.putF C (pc' := 9) (host := "") (Or.inl (hw _ (List.mem_of_getElem? (i := 233) rfl))) Via.refl F_value_a1 X_a1 (Or.inr ⟨(hw _ (List.mem_of_getElem? (i := 234) rfl)), rfl, rfl⟩) (hw _ (List.mem_of_getElem? (i := 221) rfl)) (ty := .int) (by decide) rfl rfl g_a1 own_d_jdk_33_method_23_code_6 rfl (fun h1 W1 => ?_)
  have KH := KH.wr W1 (Or.inl (List.mem_of_getElem? (i := 0) rfl))
  have X_a1 := X_a1.wr W1
  have F_value_a1 := F_value_a1.same W1
  exact OwnW.retV C rfl ⟨rfl, KH⟩ (by decide) (by decide) own_d_jdk_33_method_23_code_9
theorem own_idx (p1 : Int32) (h1 : ¬ p1 < -128) (h2 : ¬ 127 < p1) {n : Nat} (hn : n = (256 : Int32).toNatClampNeg) : ¬ (p1 + 128 < 0 ∨ n ≤ (p1 + 128).toNatClampNeg) := by
  have e0 : (0 : Int32).toInt = 0 := rfl
  have e1 : (128 : Int32).toInt = 128 := rfl
  have e2 : (127 : Int32).toInt = 127 := rfl
  have e3 : (-128 : Int32).toInt = -128 := rfl
  have e4 : (256 : Int32).toInt = 256 := rfl
  rw [Int32.lt_iff_toInt_lt] at h1 h2
  have c := c_iadd p1 128
  have r := rng32 (p1 + 128)
  rw [hn]
  simp only [Int32.lt_iff_toInt_lt, Int32.toNatClampNeg] at *
  omega
set_option maxRecDepth 65536 in
set_option maxHeartbeats 40000000 in
theorem own_valueOf (l : Launch) (Z : State) (a0 : Array Value) (hw : ∀ d ∈ tables_1, d.before a0 Z = true) (p1 : Int32) (ca : Addr) (cc : Cell) (val : Int32 → Value) (h0 : Heap) (n0 : Nat) (O : Old Z n0 h0) (Sz : n0 ≤ h0.size) (S_H : Sta Z h0 "java/lang/Integer$IntegerCache" "high" "I" (.int 127)) (S_C : Sta Z h0 "java/lang/Integer$IntegerCache" "cache" "[Ljava/lang/Integer;" (.ref ca)) (BX : Bxs Z ca cc "java/lang/Integer" "I" 256 val) :
    Ctr l Z (⟨"java/lang/Integer", "valueOf", "(I)Ljava/lang/Integer;"⟩ : MethodName) jdk_33_method_22_code 1 (some (.object "java/lang/Integer")) ({ frames := 3, cells := 1, slots := 1, locals := 38 } : Room) #[(.int p1)] h0 n0 (fun v h => ∃ r, v = some (.ref r) ∧ Keep h0 h [] ∧ Exa Z h r "java/lang/Integer") := by
  refine Ctr.of (plainFor_of_name own_pn_Integer) ?_
  intro p e s m below meth c C
  refine Go.frame (g' := mkF m 0 #[.val (.int p1)] []) (by first | (simp [entryFrame, mkF, argsToLocals, Value.category]; done) | rfl) ?_
  have KH := Keep.refl h0 []
  refine OwnW.iloadN C (pc' := 1) own_d_jdk_33_method_22_code_0 rfl rfl ?_
  refine OwnW.bipush C (pc' := 3) own_d_jdk_33_method_22_code_1 rfl (z := -128) rfl ?_
  refine OwnW.icLt C (pcY := 23) (pcN := 6) own_d_jdk_33_method_22_code_3 (by decide) rfl rfl (fun hc3 => ?_) (fun hc3 => ?_)
  · refine OwnW.newO C (pc' := 26) (K' := 1) (S' := 1) (hw _ (List.mem_of_getElem? (i := 220) rfl)) (hw _ (List.mem_of_getElem? (i := 221) rfl)) (hw _ (List.mem_of_getElem? (i := 28) rfl)) own_d_jdk_33_method_22_code_23 rfl rfl rfl (by decide) (by decide) (fun h1 b1 g1 E1 X_b1 D1 => ?_)
    have g_b1 : n0 ≤ b1 := Nat.le_trans Sz (Nat.le_of_eq g1.symm)
    have s_b1 : h0.size ≤ b1 := Nat.le_trans KH.1 (Nat.le_of_eq g1.symm)
    have KH := KH.ext E1
    have Sz := Nat.le_trans Sz E1.1
    have F_value_b1 : Fld Z h1 b1 "java/lang/Integer" "value" "I" (.int (0 : Int32)) := D1 (Or.inr (hw _ (List.mem_of_getElem? (i := 234) rfl))) (ty := .int) (by decide)
    refine OwnW.dup C (pc' := 27) own_d_jdk_33_method_22_code_26 rfl rfl ?_
    refine OwnW.iloadN C (pc' := 28) own_d_jdk_33_method_22_code_27 rfl rfl ?_
    refine OwnW.callX C (pc' := 31) (y := (⟨"java/lang/Integer", "<init>", "(I)V"⟩ : MethodName)) (W := 1) (argsL := [(.int p1)]) (rest := [(.ref b1)]) rfl (hw _ (List.mem_of_getElem? (i := 222) rfl)) (hw _ (List.mem_of_getElem? (i := 223) rfl)) (hw _ (List.mem_of_getElem? (i := 28) rfl)) (hw _ (List.mem_of_getElem? (i := 225) rfl)) (by decide) (own_intinit l Z a0 hw b1 p1 h1 n0 X_b1 F_value_b1 g_b1) (K' := 1) (S' := 1) (by decide) (by decide) rfl own_pd__I_V rfl (Nat.le_of_eq rfl) rfl rfl (by decide) (by decide) rfl own_d_jdk_33_method_22_code_28 rfl (fun v h2 hq => ?_)
    obtain ⟨rfl, KK⟩ := hq
    refine Go.at (st' := [(.ref b1)]) rfl ?_
    have KH := KH.trans KK (allS (Or.inr s_b1) all0)
    have X_b1 := X_b1.keep KK
    exact OwnW.retA C rfl rfl rfl ⟨b1, rfl, KH, X_b1⟩ (by decide) (by decide) own_d_jdk_33_method_22_code_31
  · refine OwnW.iloadN C (pc' := 7) own_d_jdk_33_method_22_code_6 rfl rfl ?_
    refine OwnW.getS C (pc' := 10) (host := "") (Or.inl (hw _ (List.mem_of_getElem? (i := 30) rfl))) Via.refl S_H own_d_jdk_33_method_22_code_7 rfl ?_
    refine OwnW.icGt C (pcY := 23) (pcN := 13) own_d_jdk_33_method_22_code_10 (by decide) rfl rfl (fun hc10 => ?_) (fun hc10 => ?_)
    · refine OwnW.newO C (pc' := 26) (K' := 1) (S' := 1) (hw _ (List.mem_of_getElem? (i := 220) rfl)) (hw _ (List.mem_of_getElem? (i := 221) rfl)) (hw _ (List.mem_of_getElem? (i := 28) rfl)) own_d_jdk_33_method_22_code_23 rfl rfl rfl (by decide) (by decide) (fun h1 b1 g1 E1 X_b1 D1 => ?_)
      have g_b1 : n0 ≤ b1 := Nat.le_trans Sz (Nat.le_of_eq g1.symm)
      have s_b1 : h0.size ≤ b1 := Nat.le_trans KH.1 (Nat.le_of_eq g1.symm)
      have KH := KH.ext E1
      have Sz := Nat.le_trans Sz E1.1
      have F_value_b1 : Fld Z h1 b1 "java/lang/Integer" "value" "I" (.int (0 : Int32)) := D1 (Or.inr (hw _ (List.mem_of_getElem? (i := 234) rfl))) (ty := .int) (by decide)
      refine OwnW.dup C (pc' := 27) own_d_jdk_33_method_22_code_26 rfl rfl ?_
      refine OwnW.iloadN C (pc' := 28) own_d_jdk_33_method_22_code_27 rfl rfl ?_
      refine OwnW.callX C (pc' := 31) (y := (⟨"java/lang/Integer", "<init>", "(I)V"⟩ : MethodName)) (W := 1) (argsL := [(.int p1)]) (rest := [(.ref b1)]) rfl (hw _ (List.mem_of_getElem? (i := 222) rfl)) (hw _ (List.mem_of_getElem? (i := 223) rfl)) (hw _ (List.mem_of_getElem? (i := 28) rfl)) (hw _ (List.mem_of_getElem? (i := 225) rfl)) (by decide) (own_intinit l Z a0 hw b1 p1 h1 n0 X_b1 F_value_b1 g_b1) (K' := 1) (S' := 1) (by decide) (by decide) rfl own_pd__I_V rfl (Nat.le_of_eq rfl) rfl rfl (by decide) (by decide) rfl own_d_jdk_33_method_22_code_28 rfl (fun v h2 hq => ?_)
      obtain ⟨rfl, KK⟩ := hq
      refine Go.at (st' := [(.ref b1)]) rfl ?_
      have KH := KH.trans KK (allS (Or.inr s_b1) all0)
      have X_b1 := X_b1.keep KK
      exact OwnW.retA C rfl rfl rfl ⟨b1, rfl, KH, X_b1⟩ (by decide) (by decide) own_d_jdk_33_method_22_code_31
    · refine OwnW.getS C (pc' := 16) (host := "") (Or.inl (hw _ (List.mem_of_getElem? (i := 32) rfl))) Via.refl S_C own_d_jdk_33_method_22_code_13 rfl ?_
      refine OwnW.iloadN C (pc' := 17) own_d_jdk_33_method_22_code_16 rfl rfl ?_
      refine OwnW.sipush C (pc' := 20) own_d_jdk_33_method_22_code_17 rfl (z := 128) rfl ?_
      refine OwnW.iadd C (pc' := 21) own_d_jdk_33_method_22_code_20 rfl ?_
      obtain ⟨bx, e1, e2, e3⟩ := BX.2.2.2 (p1 + 128) (own_idx p1 hc3 hc10 BX.2.1)
      refine OwnW.aaloadA C (pc' := 22) (BX.ext O.2).1 rfl (own_idx p1 hc3 hc10 BX.2.1) e1 own_d_jdk_33_method_22_code_21 rfl ?_
      exact OwnW.retA C rfl rfl rfl ⟨bx, rfl, KH, e2.ext O.2⟩ (by decide) (by decide) own_d_jdk_33_method_22_code_22
set_option maxRecDepth 65536 in
set_option maxHeartbeats 40000000 in
theorem own_lnsize (l : Launch) (Z : State) (a0 : Array Value) (hw : ∀ d ∈ tables_1, d.before a0 Z = true) (a1 r1 : Addr) (n : Int32) (vs : List Value) (cR : ClassId) (h0 : Heap) (n0 : Nat) (F : Fld Z h0 a1 "java/util/ImmutableCollections$ListN" "elements" "[Ljava/lang/Object;" (.ref r1)) (V_r1 : Arv Z h0 r1 cR (.object "java/lang/Object") n vs .null) :
    Ctr l Z (⟨"java/util/ImmutableCollections$ListN", "size", "()I"⟩ : MethodName) jdk_45_method_3_code 1 (some .int) ({ frames := 0, cells := 0, slots := 0, locals := 0 } : Room) #[(.ref a1)] h0 n0 (fun v h => v = some (.int n) ∧ h = h0) := by
  refine Ctr.of (plainFor_of_name own_pn_ImmutableCollections_ListN) ?_
  intro p e s m below meth c C
  refine Go.frame (g' := mkF m 0 #[.val (.ref a1)] []) (by first | (simp [entryFrame, mkF, argsToLocals, Value.category]; done) | rfl) ?_
  refine OwnW.aloadN C (pc' := 1) own_d_jdk_45_method_3_code_0 rfl rfl rfl ?_
  refine OwnW.getF C (pc' := 4) (host := "") (Or.inl (hw _ (List.mem_of_getElem? (i := 86) rfl))) Via.refl F own_d_jdk_45_method_3_code_1 rfl ?_
  refine OwnW.alen C (pc' := 5) V_r1 own_d_jdk_45_method_3_code_4 rfl ?_
  exact OwnW.retI C rfl ⟨rfl, rfl⟩ (by decide) (by decide) own_d_jdk_45_method_3_code_5
set_option maxRecDepth 65536 in
set_option maxHeartbeats 40000000 in
theorem own_lnempty (l : Launch) (Z : State) (a0 : Array Value) (hw : ∀ d ∈ tables_1, d.before a0 Z = true) (a1 r1 : Addr) (n : Int32) (vs : List Value) (cR : ClassId) (h0 : Heap) (n0 : Nat) (F : Fld Z h0 a1 "java/util/ImmutableCollections$ListN" "elements" "[Ljava/lang/Object;" (.ref r1)) (V_r1 : Arv Z h0 r1 cR (.object "java/lang/Object") n vs .null) :
    Ctr l Z (⟨"java/util/ImmutableCollections$ListN", "isEmpty", "()Z"⟩ : MethodName) jdk_45_method_2_code 1 (some .boolean) ({ frames := 0, cells := 0, slots := 0, locals := 0 } : Room) #[(.ref a1)] h0 n0 (fun v h => v = some (.int (if n = 0 then 1 else 0)) ∧ h = h0) := by
  refine Ctr.of (plainFor_of_name own_pn_ImmutableCollections_ListN) ?_
  intro p e s m below meth c C
  refine Go.frame (g' := mkF m 0 #[.val (.ref a1)] []) (by first | (simp [entryFrame, mkF, argsToLocals, Value.category]; done) | rfl) ?_
  refine OwnW.aloadN C (pc' := 1) own_d_jdk_45_method_2_code_0 rfl rfl rfl ?_
  refine OwnW.getF C (pc' := 4) (host := "") (Or.inl (hw _ (List.mem_of_getElem? (i := 86) rfl))) Via.refl F own_d_jdk_45_method_2_code_1 rfl ?_
  refine OwnW.alen C (pc' := 5) V_r1 own_d_jdk_45_method_2_code_4 rfl ?_
  refine OwnW.ifNe C (pcY := 12) (pcN := 8) own_d_jdk_45_method_2_code_5 (by decide) rfl rfl (fun hc5 => ?_) (fun hc5 => ?_)
  · refine OwnW.iconst C (pc' := 13) own_d_jdk_45_method_2_code_12 rfl (z := 0) rfl ?_
    exact OwnW.retN C (t := .boolean) (z := (0 : Int32)) rfl (by simp) rfl ⟨by rw [if_neg hc5], rfl⟩ (by decide) (by decide) own_d_jdk_45_method_2_code_13
  · refine OwnW.iconst C (pc' := 9) own_d_jdk_45_method_2_code_8 rfl (z := 1) rfl ?_
    refine OwnW.goto C (pc' := 13) own_d_jdk_45_method_2_code_9 (by decide) rfl ?_
    exact OwnW.retN C (t := .boolean) (z := (1 : Int32)) rfl (by simp) rfl ⟨by rw [if_pos hc5], rfl⟩ (by decide) (by decide) own_d_jdk_45_method_2_code_13
set_option maxRecDepth 65536 in
set_option maxHeartbeats 40000000 in
theorem own_l12size (l : Launch) (Z : State) (a0 : Array Value) (hw : ∀ d ∈ tables_1, d.before a0 Z = true) (a1 e1 em : Addr) (h0 : Heap) (n0 : Nat) (F : Fld Z h0 a1 "java/util/ImmutableCollections$List12" "e1" "Ljava/lang/Object;" (.ref e1)) (S_EM : Sta Z h0 "java/util/ImmutableCollections" "EMPTY" "Ljava/lang/Object;" (.ref em)) :
    Ctr l Z (⟨"java/util/ImmutableCollections$List12", "size", "()I"⟩ : MethodName) jdk_44_method_3_code 1 (some .int) ({ frames := 0, cells := 0, slots := 0, locals := 0 } : Room) #[(.ref a1)] h0 n0 (fun v h => v = some (.int (if e1 = em then 1 else 2)) ∧ h = h0) := by
  refine Ctr.of (plainFor_of_name own_pn_ImmutableCollections_List12) ?_
  intro p e s m below meth c C
  refine Go.frame (g' := mkF m 0 #[.val (.ref a1)] []) (by first | (simp [entryFrame, mkF, argsToLocals, Value.category]; done) | rfl) ?_
  refine OwnW.aloadN C (pc' := 1) own_d_jdk_44_method_3_code_0 rfl rfl rfl ?_
  refine OwnW.getF C (pc' := 4) (host := "") (Or.inl (hw _ (List.mem_of_getElem? (i := 191) rfl))) Via.refl F own_d_jdk_44_method_3_code_1 rfl ?_
  refine OwnW.getS C (pc' := 7) (Or.inr (hw _ (List.mem_of_getElem? (i := 190) rfl))) Via.refl S_EM own_d_jdk_44_method_3_code_4 rfl ?_
  refine OwnW.acEq C (pcY := 14) (pcN := 10) rfl rfl own_d_jdk_44_method_3_code_7 (by decide) rfl rfl (fun hc7 => ?_) (fun hc7 => ?_)
  · refine OwnW.iconst C (pc' := 15) own_d_jdk_44_method_3_code_14 rfl (z := 1) rfl ?_
    exact OwnW.retI C rfl ⟨by rw [if_pos (Value.ref.inj hc7)], rfl⟩ (by decide) (by decide) own_d_jdk_44_method_3_code_15
  · refine OwnW.iconst C (pc' := 11) own_d_jdk_44_method_3_code_10 rfl (z := 2) rfl ?_
    refine OwnW.goto C (pc' := 15) own_d_jdk_44_method_3_code_11 (by decide) rfl ?_
    exact OwnW.retI C rfl ⟨by rw [if_neg (fun q => hc7 (congrArg Value.ref q))], rfl⟩ (by decide) (by decide) own_d_jdk_44_method_3_code_15
set_option maxRecDepth 65536 in
set_option maxHeartbeats 40000000 in
theorem own_l12empty (l : Launch) (Z : State) (a0 : Array Value) (hw : ∀ d ∈ tables_1, d.before a0 Z = true) (a1 : Addr) (h0 : Heap) (n0 : Nat)  :
    Ctr l Z (⟨"java/util/ImmutableCollections$List12", "isEmpty", "()Z"⟩ : MethodName) jdk_44_method_4_code 1 (some .boolean) ({ frames := 0, cells := 0, slots := 0, locals := 0 } : Room) #[(.ref a1)] h0 n0 (fun v h => v = some (.int 0) ∧ h = h0) := by
  refine Ctr.of (plainFor_of_name own_pn_ImmutableCollections_List12) ?_
  intro p e s m below meth c C
  refine Go.frame (g' := mkF m 0 #[.val (.ref a1)] []) (by first | (simp [entryFrame, mkF, argsToLocals, Value.category]; done) | rfl) ?_
  refine OwnW.iconst C (pc' := 1) own_d_jdk_44_method_4_code_0 rfl (z := 0) rfl ?_
  exact OwnW.retN C (t := .boolean) (z := (0 : Int32)) rfl (by simp) rfl ⟨rfl, rfl⟩ (by decide) (by decide) own_d_jdk_44_method_4_code_1
set_option maxRecDepth 65536 in
set_option maxHeartbeats 40000000 in
theorem own_levels_N (l : Launch) (Z : State) (a0 : Array Value) (hw : ∀ d ∈ tables_1, d.before a0 Z = true) (a1 r r1 : Addr) (n : Int32) (vs : List Value) (cR : ClassId) (h0 : Heap) (n0 : Nat) (F_t : Fld Z h0 a1 "com/example/schema_facade/schemafacade/channel/Channel" "transformations" "Ljava/util/List;" (.ref r)) (X_r : Exa Z h0 r "java/util/ImmutableCollections$ListN") (F : Fld Z h0 r "java/util/ImmutableCollections$ListN" "elements" "[Ljava/lang/Object;" (.ref r1)) (V_r1 : Arv Z h0 r1 cR (.object "java/lang/Object") n vs .null) :
    Ctr l Z (⟨"com/example/schema_facade/schemafacade/channel/Channel", "levels", "()I"⟩ : MethodName) prog_4_method_4_code 1 (some .int) ({ frames := 1, cells := 0, slots := 0, locals := 12 } : Room) #[(.ref a1)] h0 n0 (fun v h => v = some (.int (n + 1)) ∧ h = h0) := by
  refine Ctr.of (plainFor_of_name own_pn_Channel) ?_
  intro p e s m below meth c C
  refine Go.frame (g' := mkF m 0 #[.val (.ref a1)] []) (by first | (simp [entryFrame, mkF, argsToLocals, Value.category]; done) | rfl) ?_
  refine OwnW.aloadN C (pc' := 1) own_d_prog_4_method_4_code_0 rfl rfl rfl ?_
  refine OwnW.getF C (pc' := 4) (host := "") (Or.inl (hw _ (List.mem_of_getElem? (i := 69) rfl))) Via.refl F_t own_d_prog_4_method_4_code_1 rfl ?_
  refine OwnW.callI C (pc' := 9) (y := (⟨"java/util/List", "size", "()I"⟩ : MethodName)) (z := (⟨"java/util/ImmutableCollections$ListN", "size", "()I"⟩ : MethodName)) (W := 0) (argsL := []) (rest := []) (hw _ (List.mem_of_getElem? (i := 76) rfl)) (hw _ (List.mem_of_getElem? (i := 77) rfl)) (hw _ (List.mem_of_getElem? (i := 78) rfl)) (by first | rfl | decide) (hw _ (List.mem_of_getElem? (i := 79) rfl)) (hw _ (List.mem_of_getElem? (i := 80) rfl)) (hw _ (List.mem_of_getElem? (i := 81) rfl)) (hw _ (List.mem_of_getElem? (i := 82) rfl)) (hw _ (List.mem_of_getElem? (i := 83) rfl)) (hw _ (List.mem_of_getElem? (i := 84) rfl)) (hw _ (List.mem_of_getElem? (i := 85) rfl)) X_r (by decide) (own_lnsize l Z a0 hw r r1 n vs cR h0 n0 F V_r1) (K' := 0) (S' := 0) (by decide) (by decide) rfl own_pd___I rfl (Nat.le_of_eq rfl) rfl rfl (by decide) (by decide) rfl own_d_prog_4_method_4_code_4 rfl (fun v h' hq => ?_)
  obtain ⟨rfl, hh⟩ := hq
  refine Go.at (st' := [(.int n)]) rfl ?_
  refine Go.heap hh ?_
  refine OwnW.iconst C (pc' := 10) own_d_prog_4_method_4_code_9 rfl (z := 1) rfl ?_
  refine OwnW.iadd C (pc' := 11) own_d_prog_4_method_4_code_10 rfl ?_
  exact OwnW.retI C rfl ⟨rfl, rfl⟩ (by decide) (by decide) own_d_prog_4_method_4_code_11
set_option maxRecDepth 65536 in
set_option maxHeartbeats 40000000 in
theorem own_levels_12 (l : Launch) (Z : State) (a0 : Array Value) (hw : ∀ d ∈ tables_1, d.before a0 Z = true) (a1 r e1 em : Addr) (h0 : Heap) (n0 : Nat) (F_t : Fld Z h0 a1 "com/example/schema_facade/schemafacade/channel/Channel" "transformations" "Ljava/util/List;" (.ref r)) (X_r : Exa Z h0 r "java/util/ImmutableCollections$List12") (F : Fld Z h0 r "java/util/ImmutableCollections$List12" "e1" "Ljava/lang/Object;" (.ref e1)) (S_EM : Sta Z h0 "java/util/ImmutableCollections" "EMPTY" "Ljava/lang/Object;" (.ref em)) :
    Ctr l Z (⟨"com/example/schema_facade/schemafacade/channel/Channel", "levels", "()I"⟩ : MethodName) prog_4_method_4_code 1 (some .int) ({ frames := 1, cells := 0, slots := 0, locals := 12 } : Room) #[(.ref a1)] h0 n0 (fun v h => v = some (.int ((if e1 = em then (1 : Int32) else 2) + 1)) ∧ h = h0) := by
  refine Ctr.of (plainFor_of_name own_pn_Channel) ?_
  intro p e s m below meth c C
  refine Go.frame (g' := mkF m 0 #[.val (.ref a1)] []) (by first | (simp [entryFrame, mkF, argsToLocals, Value.category]; done) | rfl) ?_
  refine OwnW.aloadN C (pc' := 1) own_d_prog_4_method_4_code_0 rfl rfl rfl ?_
  refine OwnW.getF C (pc' := 4) (host := "") (Or.inl (hw _ (List.mem_of_getElem? (i := 69) rfl))) Via.refl F_t own_d_prog_4_method_4_code_1 rfl ?_
  refine OwnW.callI C (pc' := 9) (y := (⟨"java/util/List", "size", "()I"⟩ : MethodName)) (z := (⟨"java/util/ImmutableCollections$List12", "size", "()I"⟩ : MethodName)) (W := 0) (argsL := []) (rest := []) (hw _ (List.mem_of_getElem? (i := 76) rfl)) (hw _ (List.mem_of_getElem? (i := 77) rfl)) (hw _ (List.mem_of_getElem? (i := 78) rfl)) (by first | rfl | decide) (hw _ (List.mem_of_getElem? (i := 193) rfl)) (hw _ (List.mem_of_getElem? (i := 194) rfl)) (hw _ (List.mem_of_getElem? (i := 195) rfl)) (hw _ (List.mem_of_getElem? (i := 196) rfl)) (hw _ (List.mem_of_getElem? (i := 197) rfl)) (hw _ (List.mem_of_getElem? (i := 165) rfl)) (hw _ (List.mem_of_getElem? (i := 198) rfl)) X_r (by decide) (own_l12size l Z a0 hw r e1 em h0 n0 F S_EM) (K' := 0) (S' := 0) (by decide) (by decide) rfl own_pd___I rfl (Nat.le_of_eq rfl) rfl rfl (by decide) (by decide) rfl own_d_prog_4_method_4_code_4 rfl (fun v h' hq => ?_)
  obtain ⟨rfl, hh⟩ := hq
  refine Go.at (st' := [(.int (if e1 = em then (1 : Int32) else 2))]) rfl ?_
  refine Go.heap hh ?_
  refine OwnW.iconst C (pc' := 10) own_d_prog_4_method_4_code_9 rfl (z := 1) rfl ?_
  refine OwnW.iadd C (pc' := 11) own_d_prog_4_method_4_code_10 rfl ?_
  exact OwnW.retI C rfl ⟨rfl, rfl⟩ (by decide) (by decide) own_d_prog_4_method_4_code_11
set_option maxRecDepth 65536 in
set_option maxHeartbeats 40000000 in
theorem own_isEmpty_N (l : Launch) (Z : State) (a0 : Array Value) (hw : ∀ d ∈ tables_1, d.before a0 Z = true) (a1 r r1 : Addr) (n : Int32) (vs : List Value) (cR : ClassId) (h0 : Heap) (n0 : Nat) (F_t : Fld Z h0 a1 "com/example/schema_facade/schemafacade/channel/Channel" "transformations" "Ljava/util/List;" (.ref r)) (X_r : Exa Z h0 r "java/util/ImmutableCollections$ListN") (F : Fld Z h0 r "java/util/ImmutableCollections$ListN" "elements" "[Ljava/lang/Object;" (.ref r1)) (V_r1 : Arv Z h0 r1 cR (.object "java/lang/Object") n vs .null) :
    Ctr l Z (⟨"com/example/schema_facade/schemafacade/channel/Channel", "isEmpty", "()Z"⟩ : MethodName) prog_4_method_3_code 1 (some .boolean) ({ frames := 1, cells := 0, slots := 0, locals := 12 } : Room) #[(.ref a1)] h0 n0 (fun v h => v = some (.int ((if n = 0 then (1 : Int32) else 0))) ∧ h = h0) := by
  refine Ctr.of (plainFor_of_name own_pn_Channel) ?_
  intro p e s m below meth c C
  refine Go.frame (g' := mkF m 0 #[.val (.ref a1)] []) (by first | (simp [entryFrame, mkF, argsToLocals, Value.category]; done) | rfl) ?_
  refine OwnW.aloadN C (pc' := 1) own_d_prog_4_method_3_code_0 rfl rfl rfl ?_
  refine OwnW.getF C (pc' := 4) (host := "") (Or.inl (hw _ (List.mem_of_getElem? (i := 69) rfl))) Via.refl F_t own_d_prog_4_method_3_code_1 rfl ?_
  refine OwnW.callI C (pc' := 9) (y := (⟨"java/util/List", "isEmpty", "()Z"⟩ : MethodName)) (z := (⟨"java/util/ImmutableCollections$ListN", "isEmpty", "()Z"⟩ : MethodName)) (W := 0) (argsL := []) (rest := []) (hw _ (List.mem_of_getElem? (i := 93) rfl)) (hw _ (List.mem_of_getElem? (i := 94) rfl)) (hw _ (List.mem_of_getElem? (i := 95) rfl)) (by first | rfl | decide) (hw _ (List.mem_of_getElem? (i := 96) rfl)) (hw _ (List.mem_of_getElem? (i := 97) rfl)) (hw _ (List.mem_of_getElem? (i := 98) rfl)) (hw _ (List.mem_of_getElem? (i := 99) rfl)) (hw _ (List.mem_of_getElem? (i := 83) rfl)) (hw _ (List.mem_of_getElem? (i := 84) rfl)) (hw _ (List.mem_of_getElem? (i := 100) rfl)) X_r (by decide) (own_lnempty l Z a0 hw r r1 n vs cR h0 n0 F V_r1) (K' := 0) (S' := 0) (by decide) (by decide) rfl own_pd___Z rfl (Nat.le_of_eq rfl) rfl rfl (by decide) (by decide) rfl own_d_prog_4_method_3_code_4 rfl (fun v h' hq => ?_)
  obtain ⟨rfl, hh⟩ := hq
  refine Go.at (st' := [(.int (if n = 0 then (1 : Int32) else 0))]) rfl ?_
  refine Go.heap hh ?_
  exact OwnW.retN C (t := .boolean) (z := (if n = 0 then (1 : Int32) else 0)) rfl (by simp) (nar_b (by split <;> simp)) ⟨rfl, rfl⟩ (by decide) (by decide) own_d_prog_4_method_3_code_9
set_option maxRecDepth 65536 in
set_option maxHeartbeats 40000000 in
theorem own_isEmpty_12 (l : Launch) (Z : State) (a0 : Array Value) (hw : ∀ d ∈ tables_1, d.before a0 Z = true) (a1 r e1 em : Addr) (h0 : Heap) (n0 : Nat) (F_t : Fld Z h0 a1 "com/example/schema_facade/schemafacade/channel/Channel" "transformations" "Ljava/util/List;" (.ref r)) (X_r : Exa Z h0 r "java/util/ImmutableCollections$List12") (F : Fld Z h0 r "java/util/ImmutableCollections$List12" "e1" "Ljava/lang/Object;" (.ref e1)) (S_EM : Sta Z h0 "java/util/ImmutableCollections" "EMPTY" "Ljava/lang/Object;" (.ref em)) :
    Ctr l Z (⟨"com/example/schema_facade/schemafacade/channel/Channel", "isEmpty", "()Z"⟩ : MethodName) prog_4_method_3_code 1 (some .boolean) ({ frames := 1, cells := 0, slots := 0, locals := 12 } : Room) #[(.ref a1)] h0 n0 (fun v h => v = some (.int ((0 : Int32))) ∧ h = h0) := by
  refine Ctr.of (plainFor_of_name own_pn_Channel) ?_
  intro p e s m below meth c C
  refine Go.frame (g' := mkF m 0 #[.val (.ref a1)] []) (by first | (simp [entryFrame, mkF, argsToLocals, Value.category]; done) | rfl) ?_
  refine OwnW.aloadN C (pc' := 1) own_d_prog_4_method_3_code_0 rfl rfl rfl ?_
  refine OwnW.getF C (pc' := 4) (host := "") (Or.inl (hw _ (List.mem_of_getElem? (i := 69) rfl))) Via.refl F_t own_d_prog_4_method_3_code_1 rfl ?_
  refine OwnW.callI C (pc' := 9) (y := (⟨"java/util/List", "isEmpty", "()Z"⟩ : MethodName)) (z := (⟨"java/util/ImmutableCollections$List12", "isEmpty", "()Z"⟩ : MethodName)) (W := 0) (argsL := []) (rest := []) (hw _ (List.mem_of_getElem? (i := 93) rfl)) (hw _ (List.mem_of_getElem? (i := 94) rfl)) (hw _ (List.mem_of_getElem? (i := 95) rfl)) (by first | rfl | decide) (hw _ (List.mem_of_getElem? (i := 199) rfl)) (hw _ (List.mem_of_getElem? (i := 200) rfl)) (hw _ (List.mem_of_getElem? (i := 201) rfl)) (hw _ (List.mem_of_getElem? (i := 202) rfl)) (hw _ (List.mem_of_getElem? (i := 197) rfl)) (hw _ (List.mem_of_getElem? (i := 165) rfl)) (hw _ (List.mem_of_getElem? (i := 203) rfl)) X_r (by decide) (own_l12empty l Z a0 hw r h0 n0) (K' := 0) (S' := 0) (by decide) (by decide) rfl own_pd___Z rfl (Nat.le_of_eq rfl) rfl rfl (by decide) (by decide) rfl own_d_prog_4_method_3_code_4 rfl (fun v h' hq => ?_)
  obtain ⟨rfl, hh⟩ := hq
  refine Go.at (st' := [(.int (0 : Int32))]) rfl ?_
  refine Go.heap hh ?_
  exact OwnW.retN C (t := .boolean) (z := (0 : Int32)) rfl (by simp) rfl ⟨rfl, rfl⟩ (by decide) (by decide) own_d_prog_4_method_3_code_9
set_option maxRecDepth 65536 in
set_option maxHeartbeats 40000000 in
theorem own_chinit_0 (l : Launch) (Z : State) (a0 : Array Value) (hw : ∀ d ∈ tables_1, d.before a0 Z = true) (a1 l1 el : Addr) (h0 : Heap) (n0 : Nat) (X_a1 : Exa Z h0 a1 "com/example/schema_facade/schemafacade/channel/Channel") (F_t_a1 : Fld Z h0 a1 "com/example/schema_facade/schemafacade/channel/Channel" "transformations" "Ljava/util/List;" .null) (g_a1 : n0 ≤ a1) (X_l1 : Exa Z h0 l1 "java/util/ArrayList") (F_size_l1 : Fld Z h0 l1 "java/util/ArrayList" "size" "I" (.int 0)) (S_EL : Sta Z h0 "java/util/ImmutableCollections" "EMPTY_LIST" "Ljava/util/ImmutableCollections$ListN;" (.ref el)) :
    Ctr l Z (⟨"com/example/schema_facade/schemafacade/channel/Channel", "<init>", "(Ljava/util/List;)V"⟩ : MethodName) prog_4_method_1_code 2 none ({ frames := 3, cells := 0, slots := 0, locals := 38 } : Room) #[(.ref a1), (.ref l1)] h0 n0 (fun v h => v = none ∧ Keep h0 h [a1] ∧ Fld Z h a1 "com/example/schema_facade/schemafacade/channel/Channel" "transformations" "Ljava/util/List;" (.ref el)) := by
  refine Ctr.of (plainFor_of_name own_pn_Channel) ?_
  intro p e s m below meth c C
  refine Go.frame (g' := mkF m 0 #[.val (.ref a1), .val (.ref l1)] []) (by first | (simp [entryFrame, mkF, argsToLocals, Value.category]; done) | rfl) ?_
  have KH := Keep.refl h0 [a1]
  refine OwnW.aloadN C (pc' := 1) own_d_prog_4_method_1_code_0 rfl rfl rfl ?_
  refine OwnW.initO C (pc' := 4) (hw _ (List.mem_of_getElem? (i := 39) rfl)) (hw _ (List.mem_of_getElem? (i := 19) rfl)) (hw _ (List.mem_of_getElem? (i := 20) rfl)) rfl (by decide) (W := 0) (Nat.le_of_eq rfl) (by decide) own_d_prog_4_method_1_code_1 rfl ?_
  refine OwnW.aloadN C (pc' := 5) own_d_prog_4_method_1_code_4 rfl rfl rfl ?_
  refine OwnW.aloadN C (pc' := 6) own_d_prog_4_method_1_code_5 rfl rfl rfl ?_
  refine OwnW.callS C (pc' := 9) (y := (⟨"java/util/List", "copyOf", "(Ljava/util/Collection;)Ljava/util/List;"⟩ : MethodName)) (W := 1) (argsL := [(.ref l1)]) (rest := [(.ref a1)]) (hw _ (List.mem_of_getElem? (i := 40) rfl)) (hw _ (List.mem_of_getElem? (i := 41) rfl)) (hw _ (List.mem_of_getElem? (i := 42) rfl)) (hw _ (List.mem_of_getElem? (i := 43) rfl)) (by decide) (own_copyOf_0 l Z a0 hw l1 el h0 n0 X_l1 F_size_l1 S_EL) (K' := 0) (S' := 0) (by decide) (by decide) rfl own_pd__Ljava_util_Collection__Ljava_util_List_ rfl (Nat.le_of_eq rfl) rfl rfl (by decide) (by decide) rfl own_d_prog_4_method_1_code_6 rfl (fun v h' hq => ?_)
  obtain ⟨rfl, hh⟩ := hq
  refine Go.at (st' := [(.ref el), (.ref a1)]) rfl ?_
  refine Go.heap hh ?_
  refine OwnW.putF C (pc' := 12) (host := "") (Or.inl (hw _ (List.mem_of_getElem? (i := 69) rfl))) Via.refl F_t_a1 X_a1 (Or.inr ⟨(hw _ (List.mem_of_getElem? (i := 70) rfl)), rfl, rfl⟩) (hw _ (List.mem_of_getElem? (i := 34) rfl)) (ty := (.object "java/util/List")) (by decide) rfl rfl g_a1 own_d_prog_4_method_1_code_9 rfl (fun h1 W1 => ?_)
  have KH := KH.wr W1 (Or.inl (List.mem_of_getElem? (i := 0) rfl))
  have X_a1 := X_a1.wr W1
  have F_t_a1 := F_t_a1.same W1
  exact OwnW.retV C rfl ⟨rfl, KH, F_t_a1⟩ (by decide) (by decide) own_d_prog_4_method_1_code_12
set_option maxRecDepth 65536 in
set_option maxHeartbeats 40000000 in
theorem own_chinit_1 (l : Launch) (Z : State) (a0 : Array Value) (hw : ∀ d ∈ tables_1, d.before a0 Z = true) (a1 l1 b mr : Addr) (em : Addr) (x1 : Addr) (vs : List Value) (cO : ClassId) (h0 : Heap) (n0 : Nat) (X_a1 : Exa Z h0 a1 "com/example/schema_facade/schemafacade/channel/Channel") (F_t_a1 : Fld Z h0 a1 "com/example/schema_facade/schemafacade/channel/Channel" "transformations" "Ljava/util/List;" .null) (g_a1 : n0 ≤ a1) (Sz : n0 ≤ h0.size) (X_l1 : Exa Z h0 l1 "java/util/ArrayList") (F_elementData_l1 : Fld Z h0 l1 "java/util/ArrayList" "elementData" "[Ljava/lang/Object;" (.ref b)) (F_size_l1 : Fld Z h0 l1 "java/util/ArrayList" "size" "I" (.int 1)) (X_b : Exa Z h0 b "[Ljava/lang/Object;") (V_b : Arv Z h0 b cO (.object "java/lang/Object") 10 vs .null) (M : Mi Z "[Ljava/lang/Object;" mr) (hus : [.ref x1] = (List.range (1 : Int32).toNatClampNeg).map fun i => vs.getD ((0 : Int32).toNatClampNeg + i) .null) (S_EM : Sta Z h0 "java/util/ImmutableCollections" "EMPTY" "Ljava/lang/Object;" (.ref em)) (I_x1 : Ins Z h0 x1 "java/lang/Object" true) :
    Ctr l Z (⟨"com/example/schema_facade/schemafacade/channel/Channel", "<init>", "(Ljava/util/List;)V"⟩ : MethodName) prog_4_method_1_code 2 none ({ frames := 8, cells := 2, slots := 3, locals := 101 } : Room) #[(.ref a1), (.ref l1)] h0 n0 (fun v h => v = none ∧ Keep h0 h [a1] ∧ ∃ r : Addr, h0.size ≤ r ∧ Fld Z h a1 "com/example/schema_facade/schemafacade/channel/Channel" "transformations" "Ljava/util/List;" (.ref r) ∧ Exa Z h r "java/util/ImmutableCollections$List12" ∧ Fld Z h r "java/util/ImmutableCollections$List12" "e1" "Ljava/lang/Object;" (.ref em)) := by
  refine Ctr.of (plainFor_of_name own_pn_Channel) ?_
  intro p e s m below meth c C
  refine Go.frame (g' := mkF m 0 #[.val (.ref a1), .val (.ref l1)] []) (by first | (simp [entryFrame, mkF, argsToLocals, Value.category]; done) | rfl) ?_
  have KH := Keep.refl h0 [a1]
  refine OwnW.aloadN C (pc' := 1) own_d_prog_4_method_1_code_0 rfl rfl rfl ?_
  refine OwnW.initO C (pc' := 4) (hw _ (List.mem_of_getElem? (i := 39) rfl)) (hw _ (List.mem_of_getElem? (i := 19) rfl)) (hw _ (List.mem_of_getElem? (i := 20) rfl)) rfl (by decide) (W := 0) (Nat.le_of_eq rfl) (by decide) own_d_prog_4_method_1_code_1 rfl ?_
  refine OwnW.aloadN C (pc' := 5) own_d_prog_4_method_1_code_4 rfl rfl rfl ?_
  refine OwnW.aloadN C (pc' := 6) own_d_prog_4_method_1_code_5 rfl rfl rfl ?_
  refine OwnW.callS C (pc' := 9) (y := (⟨"java/util/List", "copyOf", "(Ljava/util/Collection;)Ljava/util/List;"⟩ : MethodName)) (W := 1) (argsL := [(.ref l1)]) (rest := [(.ref a1)]) (hw _ (List.mem_of_getElem? (i := 40) rfl)) (hw _ (List.mem_of_getElem? (i := 41) rfl)) (hw _ (List.mem_of_getElem? (i := 42) rfl)) (hw _ (List.mem_of_getElem? (i := 43) rfl)) (by decide) (own_copyOf_1 l Z a0 hw l1 b mr em x1 vs cO h0 n0 Sz X_l1 F_elementData_l1 F_size_l1 X_b V_b M hus S_EM I_x1) (K' := 2) (S' := 3) (by decide) (by decide) rfl own_pd__Ljava_util_Collection__Ljava_util_List_ rfl (Nat.le_of_eq rfl) rfl rfl (by decide) (by decide) rfl own_d_prog_4_method_1_code_6 rfl (fun v h1 hq => ?_)
  obtain ⟨r, rfl, hr, KK, QQ⟩ := hq
  refine Go.at (st' := [(.ref r), (.ref a1)]) rfl ?_
  have ne_r : a1 ≠ r := Nat.ne_of_lt (Nat.lt_of_lt_of_le X_a1.lt hr)
  have KH := KH.trans KK all0
  have X_a1 := X_a1.keep KK
  have F_t_a1 := F_t_a1.keep KK nin0
  obtain ⟨X_r, QR⟩ := QQ
  refine OwnW.putF C (pc' := 12) (host := "") (Or.inl (hw _ (List.mem_of_getElem? (i := 69) rfl))) Via.refl F_t_a1 X_a1 (Or.inr ⟨(hw _ (List.mem_of_getElem? (i := 70) rfl)), rfl, rfl⟩) (hw _ (List.mem_of_getElem? (i := 34) rfl)) (ty := (.object "java/util/List")) (by decide) rfl rfl g_a1 own_d_prog_4_method_1_code_9 rfl (fun h2 W2 => ?_)
  have KH := KH.wr W2 (Or.inl (List.mem_of_getElem? (i := 0) rfl))
  have X_a1 := X_a1.wr W2
  have F_t_a1 := F_t_a1.same W2
  exact OwnW.retV C rfl ⟨rfl, KH, r, hr, F_t_a1, X_r.wr W2, QR.other W2 (Or.inl ne_r.symm)⟩ (by decide) (by decide) own_d_prog_4_method_1_code_12
set_option maxRecDepth 65536 in
set_option maxHeartbeats 40000000 in
theorem own_chinit_2 (l : Launch) (Z : State) (a0 : Array Value) (hw : ∀ d ∈ tables_1, d.before a0 Z = true) (a1 l1 b mr : Addr) (x1 y1 : Addr) (vs : List Value) (cO : ClassId) (h0 : Heap) (n0 : Nat) (X_a1 : Exa Z h0 a1 "com/example/schema_facade/schemafacade/channel/Channel") (F_t_a1 : Fld Z h0 a1 "com/example/schema_facade/schemafacade/channel/Channel" "transformations" "Ljava/util/List;" .null) (g_a1 : n0 ≤ a1) (Sz : n0 ≤ h0.size) (X_l1 : Exa Z h0 l1 "java/util/ArrayList") (F_elementData_l1 : Fld Z h0 l1 "java/util/ArrayList" "elementData" "[Ljava/lang/Object;" (.ref b)) (F_size_l1 : Fld Z h0 l1 "java/util/ArrayList" "size" "I" (.int 2)) (X_b : Exa Z h0 b "[Ljava/lang/Object;") (V_b : Arv Z h0 b cO (.object "java/lang/Object") 10 vs .null) (M : Mi Z "[Ljava/lang/Object;" mr) (hus : [.ref x1, .ref y1] = (List.range (2 : Int32).toNatClampNeg).map fun i => vs.getD ((0 : Int32).toNatClampNeg + i) .null) (I_x1 : Ins Z h0 x1 "java/lang/Object" true) (I_y1 : Ins Z h0 y1 "java/lang/Object" true) :
    Ctr l Z (⟨"com/example/schema_facade/schemafacade/channel/Channel", "<init>", "(Ljava/util/List;)V"⟩ : MethodName) prog_4_method_1_code 2 none ({ frames := 8, cells := 2, slots := 4, locals := 102 } : Room) #[(.ref a1), (.ref l1)] h0 n0 (fun v h => v = none ∧ Keep h0 h [a1] ∧ ∃ r : Addr, h0.size ≤ r ∧ Fld Z h a1 "com/example/schema_facade/schemafacade/channel/Channel" "transformations" "Ljava/util/List;" (.ref r) ∧ Exa Z h r "java/util/ImmutableCollections$List12" ∧ Fld Z h r "java/util/ImmutableCollections$List12" "e1" "Ljava/lang/Object;" (.ref y1)) := by
  refine Ctr.of (plainFor_of_name own_pn_Channel) ?_
  intro p e s m below meth c C
  refine Go.frame (g' := mkF m 0 #[.val (.ref a1), .val (.ref l1)] []) (by first | (simp [entryFrame, mkF, argsToLocals, Value.category]; done) | rfl) ?_
  have KH := Keep.refl h0 [a1]
  refine OwnW.aloadN C (pc' := 1) own_d_prog_4_method_1_code_0 rfl rfl rfl ?_
  refine OwnW.initO C (pc' := 4) (hw _ (List.mem_of_getElem? (i := 39) rfl)) (hw _ (List.mem_of_getElem? (i := 19) rfl)) (hw _ (List.mem_of_getElem? (i := 20) rfl)) rfl (by decide) (W := 0) (Nat.le_of_eq rfl) (by decide) own_d_prog_4_method_1_code_1 rfl ?_
  refine OwnW.aloadN C (pc' := 5) own_d_prog_4_method_1_code_4 rfl rfl rfl ?_
  refine OwnW.aloadN C (pc' := 6) own_d_prog_4_method_1_code_5 rfl rfl rfl ?_
  refine OwnW.callS C (pc' := 9) (y := (⟨"java/util/List", "copyOf", "(Ljava/util/Collection;)Ljava/util/List;"⟩ : MethodName)) (W := 1) (argsL := [(.ref l1)]) (rest := [(.ref a1)]) (hw _ (List.mem_of_getElem? (i := 40) rfl)) (hw _ (List.mem_of_getElem? (i := 41) rfl)) (hw _ (List.mem_of_getElem? (i := 42) rfl)) (hw _ (List.mem_of_getElem? (i := 43) rfl)) (by decide) (own_copyOf_2 l Z a0 hw l1 b mr x1 y1 vs cO h0 n0 Sz X_l1 F_elementData_l1 F_size_l1 X_b V_b M hus I_x1 I_y1) (K' := 2) (S' := 4) (by decide) (by decide) rfl own_pd__Ljava_util_Collection__Ljava_util_List_ rfl (Nat.le_of_eq rfl) rfl rfl (by decide) (by decide) rfl own_d_prog_4_method_1_code_6 rfl (fun v h1 hq => ?_)
  obtain ⟨r, rfl, hr, KK, QQ⟩ := hq
  refine Go.at (st' := [(.ref r), (.ref a1)]) rfl ?_
  have ne_r : a1 ≠ r := Nat.ne_of_lt (Nat.lt_of_lt_of_le X_a1.lt hr)
  have KH := KH.trans KK all0
  have X_a1 := X_a1.keep KK
  have F_t_a1 := F_t_a1.keep KK nin0
  obtain ⟨X_r, Q0, QR⟩ := QQ
  refine OwnW.putF C (pc' := 12) (host := "") (Or.inl (hw _ (List.mem_of_getElem? (i := 69) rfl))) Via.refl F_t_a1 X_a1 (Or.inr ⟨(hw _ (List.mem_of_getElem? (i := 70) rfl)), rfl, rfl⟩) (hw _ (List.mem_of_getElem? (i := 34) rfl)) (ty := (.object "java/util/List")) (by decide) rfl rfl g_a1 own_d_prog_4_method_1_code_9 rfl (fun h2 W2 => ?_)
  have KH := KH.wr W2 (Or.inl (List.mem_of_getElem? (i := 0) rfl))
  have X_a1 := X_a1.wr W2
  have F_t_a1 := F_t_a1.same W2
  exact OwnW.retV C rfl ⟨rfl, KH, r, hr, F_t_a1, X_r.wr W2, QR.other W2 (Or.inl ne_r.symm)⟩ (by decide) (by decide) own_d_prog_4_method_1_code_12
set_option maxRecDepth 65536 in
set_option maxHeartbeats 40000000 in
theorem own_chinit_3 (l : Launch) (Z : State) (a0 : Array Value) (hw : ∀ d ∈ tables_1, d.before a0 Z = true) (a1 l1 b mr : Addr) (x1 y1 : Addr) (vs : List Value) (cO : ClassId) (h0 : Heap) (n0 : Nat) (X_a1 : Exa Z h0 a1 "com/example/schema_facade/schemafacade/channel/Channel") (F_t_a1 : Fld Z h0 a1 "com/example/schema_facade/schemafacade/channel/Channel" "transformations" "Ljava/util/List;" .null) (g_a1 : n0 ≤ a1) (Sz : n0 ≤ h0.size) (X_l1 : Exa Z h0 l1 "java/util/ArrayList") (F_elementData_l1 : Fld Z h0 l1 "java/util/ArrayList" "elementData" "[Ljava/lang/Object;" (.ref b)) (F_size_l1 : Fld Z h0 l1 "java/util/ArrayList" "size" "I" (.int 3)) (X_b : Exa Z h0 b "[Ljava/lang/Object;") (V_b : Arv Z h0 b cO (.object "java/lang/Object") 10 vs .null) (M : Mi Z "[Ljava/lang/Object;" mr) (hus : [.ref x1, .ref y1, .ref x1] = (List.range (3 : Int32).toNatClampNeg).map fun i => vs.getD ((0 : Int32).toNatClampNeg + i) .null) (I_x1 : Ins Z h0 x1 "java/lang/Object" true) (I_y1 : Ins Z h0 y1 "java/lang/Object" true) :
    Ctr l Z (⟨"com/example/schema_facade/schemafacade/channel/Channel", "<init>", "(Ljava/util/List;)V"⟩ : MethodName) prog_4_method_1_code 2 none ({ frames := 9, cells := 3, slots := 8, locals := 116 } : Room) #[(.ref a1), (.ref l1)] h0 n0 (fun v h => v = none ∧ Keep h0 h [a1] ∧ ∃ (r ar : Addr) (cR : ClassId), h0.size ≤ r ∧ Fld Z h a1 "com/example/schema_facade/schemafacade/channel/Channel" "transformations" "Ljava/util/List;" (.ref r) ∧ Exa Z h r "java/util/ImmutableCollections$ListN" ∧ Fld Z h r "java/util/ImmutableCollections$ListN" "elements" "[Ljava/lang/Object;" (.ref ar) ∧ Arv Z h ar cR (.object "java/lang/Object") (3 : Int32) [.ref x1, .ref y1, .ref x1] .null) := by
  refine Ctr.of (plainFor_of_name own_pn_Channel) ?_
  intro p e s m below meth c C
  refine Go.frame (g' := mkF m 0 #[.val (.ref a1), .val (.ref l1)] []) (by first | (simp [entryFrame, mkF, argsToLocals, Value.category]; done) | rfl) ?_
  have KH := Keep.refl h0 [a1]
  refine OwnW.aloadN C (pc' := 1) own_d_prog_4_method_1_code_0 rfl rfl rfl ?_
  refine OwnW.initO C (pc' := 4) (hw _ (List.mem_of_getElem? (i := 39) rfl)) (hw _ (List.mem_of_getElem? (i := 19) rfl)) (hw _ (List.mem_of_getElem? (i := 20) rfl)) rfl (by decide) (W := 0) (Nat.le_of_eq rfl) (by decide) own_d_prog_4_method_1_code_1 rfl ?_
  refine OwnW.aloadN C (pc' := 5) own_d_prog_4_method_1_code_4 rfl rfl rfl ?_
  refine OwnW.aloadN C (pc' := 6) own_d_prog_4_method_1_code_5 rfl rfl rfl ?_
  refine OwnW.callS C (pc' := 9) (y := (⟨"java/util/List", "copyOf", "(Ljava/util/Collection;)Ljava/util/List;"⟩ : MethodName)) (W := 1) (argsL := [(.ref l1)]) (rest := [(.ref a1)]) (hw _ (List.mem_of_getElem? (i := 40) rfl)) (hw _ (List.mem_of_getElem? (i := 41) rfl)) (hw _ (List.mem_of_getElem? (i := 42) rfl)) (hw _ (List.mem_of_getElem? (i := 43) rfl)) (by decide) (own_copyOf_3 l Z a0 hw l1 b mr x1 y1 vs cO h0 n0 Sz X_l1 F_elementData_l1 F_size_l1 X_b V_b M hus I_x1 I_y1) (K' := 3) (S' := 8) (by decide) (by decide) rfl own_pd__Ljava_util_Collection__Ljava_util_List_ rfl (Nat.le_of_eq rfl) rfl rfl (by decide) (by decide) rfl own_d_prog_4_method_1_code_6 rfl (fun v h1 hq => ?_)
  obtain ⟨r, rfl, hr, KK, QQ⟩ := hq
  refine Go.at (st' := [(.ref r), (.ref a1)]) rfl ?_
  have ne_r : a1 ≠ r := Nat.ne_of_lt (Nat.lt_of_lt_of_le X_a1.lt hr)
  have KH := KH.trans KK all0
  have X_a1 := X_a1.keep KK
  have F_t_a1 := F_t_a1.keep KK nin0
  obtain ⟨X_r, QR⟩ := QQ
  obtain ⟨ar, cR, FE, VE⟩ := QR
  have ne_ar : ar ≠ a1 := fun q => by subst q; exact absurd rfl (own_exa_arv X_a1 VE (hw _ (List.mem_of_getElem? (i := 34) rfl)))
  refine OwnW.putF C (pc' := 12) (host := "") (Or.inl (hw _ (List.mem_of_getElem? (i := 69) rfl))) Via.refl F_t_a1 X_a1 (Or.inr ⟨(hw _ (List.mem_of_getElem? (i := 70) rfl)), rfl, rfl⟩) (hw _ (List.mem_of_getElem? (i := 34) rfl)) (ty := (.object "java/util/List")) (by decide) rfl rfl g_a1 own_d_prog_4_method_1_code_9 rfl (fun h2 W2 => ?_)
  have KH := KH.wr W2 (Or.inl (List.mem_of_getElem? (i := 0) rfl))
  have X_a1 := X_a1.wr W2
  have F_t_a1 := F_t_a1.same W2
  exact OwnW.retV C rfl ⟨rfl, KH, r, ar, cR, hr, F_t_a1, X_r.wr W2, FE.other W2 (Or.inl ne_r.symm), VE.other W2 ne_ar⟩ (by decide) (by decide) own_d_prog_4_method_1_code_12
set_option maxRecDepth 65536 in
set_option maxHeartbeats 40000000 in
theorem own_chinit_4 (l : Launch) (Z : State) (a0 : Array Value) (hw : ∀ d ∈ tables_1, d.before a0 Z = true) (a1 l1 b mr : Addr) (x1 y1 : Addr) (vs : List Value) (cO : ClassId) (h0 : Heap) (n0 : Nat) (X_a1 : Exa Z h0 a1 "com/example/schema_facade/schemafacade/channel/Channel") (F_t_a1 : Fld Z h0 a1 "com/example/schema_facade/schemafacade/channel/Channel" "transformations" "Ljava/util/List;" .null) (g_a1 : n0 ≤ a1) (Sz : n0 ≤ h0.size) (X_l1 : Exa Z h0 l1 "java/util/ArrayList") (F_elementData_l1 : Fld Z h0 l1 "java/util/ArrayList" "elementData" "[Ljava/lang/Object;" (.ref b)) (F_size_l1 : Fld Z h0 l1 "java/util/ArrayList" "size" "I" (.int 4)) (X_b : Exa Z h0 b "[Ljava/lang/Object;") (V_b : Arv Z h0 b cO (.object "java/lang/Object") 10 vs .null) (M : Mi Z "[Ljava/lang/Object;" mr) (hus : [.ref x1, .ref y1, .ref x1, .ref y1] = (List.range (4 : Int32).toNatClampNeg).map fun i => vs.getD ((0 : Int32).toNatClampNeg + i) .null) (I_x1 : Ins Z h0 x1 "java/lang/Object" true) (I_y1 : Ins Z h0 y1 "java/lang/Object" true) :
    Ctr l Z (⟨"com/example/schema_facade/schemafacade/channel/Channel", "<init>", "(Ljava/util/List;)V"⟩ : MethodName) prog_4_method_1_code 2 none ({ frames := 9, cells := 3, slots := 10, locals := 116 } : Room) #[(.ref a1), (.ref l1)] h0 n0 (fun v h => v = none ∧ Keep h0 h [a1] ∧ ∃ (r ar : Addr) (cR : ClassId), h0.size ≤ r ∧ Fld Z h a1 "com/example/schema_facade/schemafacade/channel/Channel" "transformations" "Ljava/util/List;" (.ref r) ∧ Exa Z h r "java/util/ImmutableCollections$ListN" ∧ Fld Z h r "java/util/ImmutableCollections$ListN" "elements" "[Ljava/lang/Object;" (.ref ar) ∧ Arv Z h ar cR (.object "java/lang/Object") (4 : Int32) [.ref x1, .ref y1, .ref x1, .ref y1] .null) := by
  refine Ctr.of (plainFor_of_name own_pn_Channel) ?_
  intro p e s m below meth c C
  refine Go.frame (g' := mkF m 0 #[.val (.ref a1), .val (.ref l1)] []) (by first | (simp [entryFrame, mkF, argsToLocals, Value.category]; done) | rfl) ?_
  have KH := Keep.refl h0 [a1]
  refine OwnW.aloadN C (pc' := 1) own_d_prog_4_method_1_code_0 rfl rfl rfl ?_
  refine OwnW.initO C (pc' := 4) (hw _ (List.mem_of_getElem? (i := 39) rfl)) (hw _ (List.mem_of_getElem? (i := 19) rfl)) (hw _ (List.mem_of_getElem? (i := 20) rfl)) rfl (by decide) (W := 0) (Nat.le_of_eq rfl) (by decide) own_d_prog_4_method_1_code_1 rfl ?_
  refine OwnW.aloadN C (pc' := 5) own_d_prog_4_method_1_code_4 rfl rfl rfl ?_
  refine OwnW.aloadN C (pc' := 6) own_d_prog_4_method_1_code_5 rfl rfl rfl ?_
  refine OwnW.callS C (pc' := 9) (y := (⟨"java/util/List", "copyOf", "(Ljava/util/Collection;)Ljava/util/List;"⟩ : MethodName)) (W := 1) (argsL := [(.ref l1)]) (rest := [(.ref a1)]) (hw _ (List.mem_of_getElem? (i := 40) rfl)) (hw _ (List.mem_of_getElem? (i := 41) rfl)) (hw _ (List.mem_of_getElem? (i := 42) rfl)) (hw _ (List.mem_of_getElem? (i := 43) rfl)) (by decide) (own_copyOf_4 l Z a0 hw l1 b mr x1 y1 vs cO h0 n0 Sz X_l1 F_elementData_l1 F_size_l1 X_b V_b M hus I_x1 I_y1) (K' := 3) (S' := 10) (by decide) (by decide) rfl own_pd__Ljava_util_Collection__Ljava_util_List_ rfl (Nat.le_of_eq rfl) rfl rfl (by decide) (by decide) rfl own_d_prog_4_method_1_code_6 rfl (fun v h1 hq => ?_)
  obtain ⟨r, rfl, hr, KK, QQ⟩ := hq
  refine Go.at (st' := [(.ref r), (.ref a1)]) rfl ?_
  have ne_r : a1 ≠ r := Nat.ne_of_lt (Nat.lt_of_lt_of_le X_a1.lt hr)
  have KH := KH.trans KK all0
  have X_a1 := X_a1.keep KK
  have F_t_a1 := F_t_a1.keep KK nin0
  obtain ⟨X_r, QR⟩ := QQ
  obtain ⟨ar, cR, FE, VE⟩ := QR
  have ne_ar : ar ≠ a1 := fun q => by subst q; exact absurd rfl (own_exa_arv X_a1 VE (hw _ (List.mem_of_getElem? (i := 34) rfl)))
  refine OwnW.putF C (pc' := 12) (host := "") (Or.inl (hw _ (List.mem_of_getElem? (i := 69) rfl))) Via.refl F_t_a1 X_a1 (Or.inr ⟨(hw _ (List.mem_of_getElem? (i := 70) rfl)), rfl, rfl⟩) (hw _ (List.mem_of_getElem? (i := 34) rfl)) (ty := (.object "java/util/List")) (by decide) rfl rfl g_a1 own_d_prog_4_method_1_code_9 rfl (fun h2 W2 => ?_)
  have KH := KH.wr W2 (Or.inl (List.mem_of_getElem? (i := 0) rfl))
  have X_a1 := X_a1.wr W2
  have F_t_a1 := F_t_a1.same W2
  exact OwnW.retV C rfl ⟨rfl, KH, r, ar, cR, hr, F_t_a1, X_r.wr W2, FE.other W2 (Or.inl ne_r.symm), VE.other W2 ne_ar⟩ (by decide) (by decide) own_d_prog_4_method_1_code_12
set_option maxRecDepth 65536 in
set_option maxHeartbeats 40000000 in
theorem own_chinit_5 (l : Launch) (Z : State) (a0 : Array Value) (hw : ∀ d ∈ tables_1, d.before a0 Z = true) (a1 l1 b mr : Addr) (x1 y1 : Addr) (vs : List Value) (cO : ClassId) (h0 : Heap) (n0 : Nat) (X_a1 : Exa Z h0 a1 "com/example/schema_facade/schemafacade/channel/Channel") (F_t_a1 : Fld Z h0 a1 "com/example/schema_facade/schemafacade/channel/Channel" "transformations" "Ljava/util/List;" .null) (g_a1 : n0 ≤ a1) (Sz : n0 ≤ h0.size) (X_l1 : Exa Z h0 l1 "java/util/ArrayList") (F_elementData_l1 : Fld Z h0 l1 "java/util/ArrayList" "elementData" "[Ljava/lang/Object;" (.ref b)) (F_size_l1 : Fld Z h0 l1 "java/util/ArrayList" "size" "I" (.int 5)) (X_b : Exa Z h0 b "[Ljava/lang/Object;") (V_b : Arv Z h0 b cO (.object "java/lang/Object") 10 vs .null) (M : Mi Z "[Ljava/lang/Object;" mr) (hus : [.ref x1, .ref y1, .ref x1, .ref y1, .ref x1] = (List.range (5 : Int32).toNatClampNeg).map fun i => vs.getD ((0 : Int32).toNatClampNeg + i) .null) (I_x1 : Ins Z h0 x1 "java/lang/Object" true) (I_y1 : Ins Z h0 y1 "java/lang/Object" true) :
    Ctr l Z (⟨"com/example/schema_facade/schemafacade/channel/Channel", "<init>", "(Ljava/util/List;)V"⟩ : MethodName) prog_4_method_1_code 2 none ({ frames := 9, cells := 3, slots := 12, locals := 116 } : Room) #[(.ref a1), (.ref l1)] h0 n0 (fun v h => v = none ∧ Keep h0 h [a1] ∧ ∃ (r ar : Addr) (cR : ClassId), h0.size ≤ r ∧ Fld Z h a1 "com/example/schema_facade/schemafacade/channel/Channel" "transformations" "Ljava/util/List;" (.ref r) ∧ Exa Z h r "java/util/ImmutableCollections$ListN" ∧ Fld Z h r "java/util/ImmutableCollections$ListN" "elements" "[Ljava/lang/Object;" (.ref ar) ∧ Arv Z h ar cR (.object "java/lang/Object") (5 : Int32) [.ref x1, .ref y1, .ref x1, .ref y1, .ref x1] .null) := by
  refine Ctr.of (plainFor_of_name own_pn_Channel) ?_
  intro p e s m below meth c C
  refine Go.frame (g' := mkF m 0 #[.val (.ref a1), .val (.ref l1)] []) (by first | (simp [entryFrame, mkF, argsToLocals, Value.category]; done) | rfl) ?_
  have KH := Keep.refl h0 [a1]
  refine OwnW.aloadN C (pc' := 1) own_d_prog_4_method_1_code_0 rfl rfl rfl ?_
  refine OwnW.initO C (pc' := 4) (hw _ (List.mem_of_getElem? (i := 39) rfl)) (hw _ (List.mem_of_getElem? (i := 19) rfl)) (hw _ (List.mem_of_getElem? (i := 20) rfl)) rfl (by decide) (W := 0) (Nat.le_of_eq rfl) (by decide) own_d_prog_4_method_1_code_1 rfl ?_
  refine OwnW.aloadN C (pc' := 5) own_d_prog_4_method_1_code_4 rfl rfl rfl ?_
  refine OwnW.aloadN C (pc' := 6) own_d_prog_4_method_1_code_5 rfl rfl rfl ?_
  refine OwnW.callS C (pc' := 9) (y := (⟨"java/util/List", "copyOf", "(Ljava/util/Collection;)Ljava/util/List;"⟩ : MethodName)) (W := 1) (argsL := [(.ref l1)]) (rest := [(.ref a1)]) (hw _ (List.mem_of_getElem? (i := 40) rfl)) (hw _ (List.mem_of_getElem? (i := 41) rfl)) (hw _ (List.mem_of_getElem? (i := 42) rfl)) (hw _ (List.mem_of_getElem? (i := 43) rfl)) (by decide) (own_copyOf_5 l Z a0 hw l1 b mr x1 y1 vs cO h0 n0 Sz X_l1 F_elementData_l1 F_size_l1 X_b V_b M hus I_x1 I_y1) (K' := 3) (S' := 12) (by decide) (by decide) rfl own_pd__Ljava_util_Collection__Ljava_util_List_ rfl (Nat.le_of_eq rfl) rfl rfl (by decide) (by decide) rfl own_d_prog_4_method_1_code_6 rfl (fun v h1 hq => ?_)
  obtain ⟨r, rfl, hr, KK, QQ⟩ := hq
  refine Go.at (st' := [(.ref r), (.ref a1)]) rfl ?_
  have ne_r : a1 ≠ r := Nat.ne_of_lt (Nat.lt_of_lt_of_le X_a1.lt hr)
  have KH := KH.trans KK all0
  have X_a1 := X_a1.keep KK
  have F_t_a1 := F_t_a1.keep KK nin0
  obtain ⟨X_r, QR⟩ := QQ
  obtain ⟨ar, cR, FE, VE⟩ := QR
  have ne_ar : ar ≠ a1 := fun q => by subst q; exact absurd rfl (own_exa_arv X_a1 VE (hw _ (List.mem_of_getElem? (i := 34) rfl)))
  refine OwnW.putF C (pc' := 12) (host := "") (Or.inl (hw _ (List.mem_of_getElem? (i := 69) rfl))) Via.refl F_t_a1 X_a1 (Or.inr ⟨(hw _ (List.mem_of_getElem? (i := 70) rfl)), rfl, rfl⟩) (hw _ (List.mem_of_getElem? (i := 34) rfl)) (ty := (.object "java/util/List")) (by decide) rfl rfl g_a1 own_d_prog_4_method_1_code_9 rfl (fun h2 W2 => ?_)
  have KH := KH.wr W2 (Or.inl (List.mem_of_getElem? (i := 0) rfl))
  have X_a1 := X_a1.wr W2
  have F_t_a1 := F_t_a1.same W2
  exact OwnW.retV C rfl ⟨rfl, KH, r, ar, cR, hr, F_t_a1, X_r.wr W2, FE.other W2 (Or.inl ne_r.symm), VE.other W2 ne_ar⟩ (by decide) (by decide) own_d_prog_4_method_1_code_12
set_option maxRecDepth 65536 in
set_option maxHeartbeats 40000000 in
theorem own_chinit_6 (l : Launch) (Z : State) (a0 : Array Value) (hw : ∀ d ∈ tables_1, d.before a0 Z = true) (a1 l1 b mr : Addr) (x1 y1 : Addr) (vs : List Value) (cO : ClassId) (h0 : Heap) (n0 : Nat) (X_a1 : Exa Z h0 a1 "com/example/schema_facade/schemafacade/channel/Channel") (F_t_a1 : Fld Z h0 a1 "com/example/schema_facade/schemafacade/channel/Channel" "transformations" "Ljava/util/List;" .null) (g_a1 : n0 ≤ a1) (Sz : n0 ≤ h0.size) (X_l1 : Exa Z h0 l1 "java/util/ArrayList") (F_elementData_l1 : Fld Z h0 l1 "java/util/ArrayList" "elementData" "[Ljava/lang/Object;" (.ref b)) (F_size_l1 : Fld Z h0 l1 "java/util/ArrayList" "size" "I" (.int 6)) (X_b : Exa Z h0 b "[Ljava/lang/Object;") (V_b : Arv Z h0 b cO (.object "java/lang/Object") 10 vs .null) (M : Mi Z "[Ljava/lang/Object;" mr) (hus : [.ref x1, .ref y1, .ref x1, .ref y1, .ref x1, .ref y1] = (List.range (6 : Int32).toNatClampNeg).map fun i => vs.getD ((0 : Int32).toNatClampNeg + i) .null) (I_x1 : Ins Z h0 x1 "java/lang/Object" true) (I_y1 : Ins Z h0 y1 "java/lang/Object" true) :
    Ctr l Z (⟨"com/example/schema_facade/schemafacade/channel/Channel", "<init>", "(Ljava/util/List;)V"⟩ : MethodName) prog_4_method_1_code 2 none ({ frames := 9, cells := 3, slots := 14, locals := 116 } : Room) #[(.ref a1), (.ref l1)] h0 n0 (fun v h => v = none ∧ Keep h0 h [a1] ∧ ∃ (r ar : Addr) (cR : ClassId), h0.size ≤ r ∧ Fld Z h a1 "com/example/schema_facade/schemafacade/channel/Channel" "transformations" "Ljava/util/List;" (.ref r) ∧ Exa Z h r "java/util/ImmutableCollections$ListN" ∧ Fld Z h r "java/util/ImmutableCollections$ListN" "elements" "[Ljava/lang/Object;" (.ref ar) ∧ Arv Z h ar cR (.object "java/lang/Object") (6 : Int32) [.ref x1, .ref y1, .ref x1, .ref y1, .ref x1, .ref y1] .null) := by
  refine Ctr.of (plainFor_of_name own_pn_Channel) ?_
  intro p e s m below meth c C
  refine Go.frame (g' := mkF m 0 #[.val (.ref a1), .val (.ref l1)] []) (by first | (simp [entryFrame, mkF, argsToLocals, Value.category]; done) | rfl) ?_
  have KH := Keep.refl h0 [a1]
  refine OwnW.aloadN C (pc' := 1) own_d_prog_4_method_1_code_0 rfl rfl rfl ?_
  refine OwnW.initO C (pc' := 4) (hw _ (List.mem_of_getElem? (i := 39) rfl)) (hw _ (List.mem_of_getElem? (i := 19) rfl)) (hw _ (List.mem_of_getElem? (i := 20) rfl)) rfl (by decide) (W := 0) (Nat.le_of_eq rfl) (by decide) own_d_prog_4_method_1_code_1 rfl ?_
  refine OwnW.aloadN C (pc' := 5) own_d_prog_4_method_1_code_4 rfl rfl rfl ?_
  refine OwnW.aloadN C (pc' := 6) own_d_prog_4_method_1_code_5 rfl rfl rfl ?_
  refine OwnW.callS C (pc' := 9) (y := (⟨"java/util/List", "copyOf", "(Ljava/util/Collection;)Ljava/util/List;"⟩ : MethodName)) (W := 1) (argsL := [(.ref l1)]) (rest := [(.ref a1)]) (hw _ (List.mem_of_getElem? (i := 40) rfl)) (hw _ (List.mem_of_getElem? (i := 41) rfl)) (hw _ (List.mem_of_getElem? (i := 42) rfl)) (hw _ (List.mem_of_getElem? (i := 43) rfl)) (by decide) (own_copyOf_6 l Z a0 hw l1 b mr x1 y1 vs cO h0 n0 Sz X_l1 F_elementData_l1 F_size_l1 X_b V_b M hus I_x1 I_y1) (K' := 3) (S' := 14) (by decide) (by decide) rfl own_pd__Ljava_util_Collection__Ljava_util_List_ rfl (Nat.le_of_eq rfl) rfl rfl (by decide) (by decide) rfl own_d_prog_4_method_1_code_6 rfl (fun v h1 hq => ?_)
  obtain ⟨r, rfl, hr, KK, QQ⟩ := hq
  refine Go.at (st' := [(.ref r), (.ref a1)]) rfl ?_
  have ne_r : a1 ≠ r := Nat.ne_of_lt (Nat.lt_of_lt_of_le X_a1.lt hr)
  have KH := KH.trans KK all0
  have X_a1 := X_a1.keep KK
  have F_t_a1 := F_t_a1.keep KK nin0
  obtain ⟨X_r, QR⟩ := QQ
  obtain ⟨ar, cR, FE, VE⟩ := QR
  have ne_ar : ar ≠ a1 := fun q => by subst q; exact absurd rfl (own_exa_arv X_a1 VE (hw _ (List.mem_of_getElem? (i := 34) rfl)))
  refine OwnW.putF C (pc' := 12) (host := "") (Or.inl (hw _ (List.mem_of_getElem? (i := 69) rfl))) Via.refl F_t_a1 X_a1 (Or.inr ⟨(hw _ (List.mem_of_getElem? (i := 70) rfl)), rfl, rfl⟩) (hw _ (List.mem_of_getElem? (i := 34) rfl)) (ty := (.object "java/util/List")) (by decide) rfl rfl g_a1 own_d_prog_4_method_1_code_9 rfl (fun h2 W2 => ?_)
  have KH := KH.wr W2 (Or.inl (List.mem_of_getElem? (i := 0) rfl))
  have X_a1 := X_a1.wr W2
  have F_t_a1 := F_t_a1.same W2
  exact OwnW.retV C rfl ⟨rfl, KH, r, ar, cR, hr, F_t_a1, X_r.wr W2, FE.other W2 (Or.inl ne_r.symm), VE.other W2 ne_ar⟩ (by decide) (by decide) own_d_prog_4_method_1_code_12
set_option maxRecDepth 65536 in
set_option maxHeartbeats 40000000 in
theorem own_chinit_7 (l : Launch) (Z : State) (a0 : Array Value) (hw : ∀ d ∈ tables_1, d.before a0 Z = true) (a1 l1 b mr : Addr) (x1 y1 : Addr) (vs : List Value) (cO : ClassId) (h0 : Heap) (n0 : Nat) (X_a1 : Exa Z h0 a1 "com/example/schema_facade/schemafacade/channel/Channel") (F_t_a1 : Fld Z h0 a1 "com/example/schema_facade/schemafacade/channel/Channel" "transformations" "Ljava/util/List;" .null) (g_a1 : n0 ≤ a1) (Sz : n0 ≤ h0.size) (X_l1 : Exa Z h0 l1 "java/util/ArrayList") (F_elementData_l1 : Fld Z h0 l1 "java/util/ArrayList" "elementData" "[Ljava/lang/Object;" (.ref b)) (F_size_l1 : Fld Z h0 l1 "java/util/ArrayList" "size" "I" (.int 7)) (X_b : Exa Z h0 b "[Ljava/lang/Object;") (V_b : Arv Z h0 b cO (.object "java/lang/Object") 10 vs .null) (M : Mi Z "[Ljava/lang/Object;" mr) (hus : [.ref x1, .ref y1, .ref x1, .ref y1, .ref x1, .ref y1, .ref x1] = (List.range (7 : Int32).toNatClampNeg).map fun i => vs.getD ((0 : Int32).toNatClampNeg + i) .null) (I_x1 : Ins Z h0 x1 "java/lang/Object" true) (I_y1 : Ins Z h0 y1 "java/lang/Object" true) :
    Ctr l Z (⟨"com/example/schema_facade/schemafacade/channel/Channel", "<init>", "(Ljava/util/List;)V"⟩ : MethodName) prog_4_method_1_code 2 none ({ frames := 9, cells := 3, slots := 16, locals := 116 } : Room) #[(.ref a1), (.ref l1)] h0 n0 (fun v h => v = none ∧ Keep h0 h [a1] ∧ ∃ (r ar : Addr) (cR : ClassId), h0.size ≤ r ∧ Fld Z h a1 "com/example/schema_facade/schemafacade/channel/Channel" "transformations" "Ljava/util/List;" (.ref r) ∧ Exa Z h r "java/util/ImmutableCollections$ListN" ∧ Fld Z h r "java/util/ImmutableCollections$ListN" "elements" "[Ljava/lang/Object;" (.ref ar) ∧ Arv Z h ar cR (.object "java/lang/Object") (7 : Int32) [.ref x1, .ref y1, .ref x1, .ref y1, .ref x1, .ref y1, .ref x1] .null) := by
  refine Ctr.of (plainFor_of_name own_pn_Channel) ?_
  intro p e s m below meth c C
  refine Go.frame (g' := mkF m 0 #[.val (.ref a1), .val (.ref l1)] []) (by first | (simp [entryFrame, mkF, argsToLocals, Value.category]; done) | rfl) ?_
  have KH := Keep.refl h0 [a1]
  refine OwnW.aloadN C (pc' := 1) own_d_prog_4_method_1_code_0 rfl rfl rfl ?_
  refine OwnW.initO C (pc' := 4) (hw _ (List.mem_of_getElem? (i := 39) rfl)) (hw _ (List.mem_of_getElem? (i := 19) rfl)) (hw _ (List.mem_of_getElem? (i := 20) rfl)) rfl (by decide) (W := 0) (Nat.le_of_eq rfl) (by decide) own_d_prog_4_method_1_code_1 rfl ?_
  refine OwnW.aloadN C (pc' := 5) own_d_prog_4_method_1_code_4 rfl rfl rfl ?_
  refine OwnW.aloadN C (pc' := 6) own_d_prog_4_method_1_code_5 rfl rfl rfl ?_
  refine OwnW.callS C (pc' := 9) (y := (⟨"java/util/List", "copyOf", "(Ljava/util/Collection;)Ljava/util/List;"⟩ : MethodName)) (W := 1) (argsL := [(.ref l1)]) (rest := [(.ref a1)]) (hw _ (List.mem_of_getElem? (i := 40) rfl)) (hw _ (List.mem_of_getElem? (i := 41) rfl)) (hw _ (List.mem_of_getElem? (i := 42) rfl)) (hw _ (List.mem_of_getElem? (i := 43) rfl)) (by decide) (own_copyOf_7 l Z a0 hw l1 b mr x1 y1 vs cO h0 n0 Sz X_l1 F_elementData_l1 F_size_l1 X_b V_b M hus I_x1 I_y1) (K' := 3) (S' := 16) (by decide) (by decide) rfl own_pd__Ljava_util_Collection__Ljava_util_List_ rfl (Nat.le_of_eq rfl) rfl rfl (by decide) (by decide) rfl own_d_prog_4_method_1_code_6 rfl (fun v h1 hq => ?_)
  obtain ⟨r, rfl, hr, KK, QQ⟩ := hq
  refine Go.at (st' := [(.ref r), (.ref a1)]) rfl ?_
  have ne_r : a1 ≠ r := Nat.ne_of_lt (Nat.lt_of_lt_of_le X_a1.lt hr)
  have KH := KH.trans KK all0
  have X_a1 := X_a1.keep KK
  have F_t_a1 := F_t_a1.keep KK nin0
  obtain ⟨X_r, QR⟩ := QQ
  obtain ⟨ar, cR, FE, VE⟩ := QR
  have ne_ar : ar ≠ a1 := fun q => by subst q; exact absurd rfl (own_exa_arv X_a1 VE (hw _ (List.mem_of_getElem? (i := 34) rfl)))
  refine OwnW.putF C (pc' := 12) (host := "") (Or.inl (hw _ (List.mem_of_getElem? (i := 69) rfl))) Via.refl F_t_a1 X_a1 (Or.inr ⟨(hw _ (List.mem_of_getElem? (i := 70) rfl)), rfl, rfl⟩) (hw _ (List.mem_of_getElem? (i := 34) rfl)) (ty := (.object "java/util/List")) (by decide) rfl rfl g_a1 own_d_prog_4_method_1_code_9 rfl (fun h2 W2 => ?_)
  have KH := KH.wr W2 (Or.inl (List.mem_of_getElem? (i := 0) rfl))
  have X_a1 := X_a1.wr W2
  have F_t_a1 := F_t_a1.same W2
  exact OwnW.retV C rfl ⟨rfl, KH, r, ar, cR, hr, F_t_a1, X_r.wr W2, FE.other W2 (Or.inl ne_r.symm), VE.other W2 ne_ar⟩ (by decide) (by decide) own_d_prog_4_method_1_code_12
theorem own_c8 (i : Int32) : i &&& 7 = 0 ∨ i &&& 7 = 1 ∨ i &&& 7 = 2 ∨ i &&& 7 = 3 ∨ i &&& 7 = 4 ∨ i &&& 7 = 5 ∨ i &&& 7 = 6 ∨ i &&& 7 = 7 := by
  have h := c_mask i 7 3 (by decide) (by decide)
  have : (i &&& 7).toInt = 0 ∨ (i &&& 7).toInt = 1 ∨ (i &&& 7).toInt = 2 ∨ (i &&& 7).toInt = 3 ∨ (i &&& 7).toInt = 4 ∨ (i &&& 7).toInt = 5 ∨ (i &&& 7).toInt = 6 ∨ (i &&& 7).toInt = 7 := by omega
  rcases this with q | q | q | q | q | q | q | q
  · exact Or.inl (Int32.toInt_inj.mp q)
  · exact Or.inr (Or.inl (Int32.toInt_inj.mp q))
  · exact Or.inr (Or.inr (Or.inl (Int32.toInt_inj.mp q)))
  · exact Or.inr (Or.inr (Or.inr (Or.inl (Int32.toInt_inj.mp q))))
  · exact Or.inr (Or.inr (Or.inr (Or.inr (Or.inl (Int32.toInt_inj.mp q)))))
  · exact Or.inr (Or.inr (Or.inr (Or.inr (Or.inr (Or.inl (Int32.toInt_inj.mp q))))))
  · exact Or.inr (Or.inr (Or.inr (Or.inr (Or.inr (Or.inr (Or.inl (Int32.toInt_inj.mp q)))))))
  · exact Or.inr (Or.inr (Or.inr (Or.inr (Or.inr (Or.inr (Or.inr ((Int32.toInt_inj.mp q))))))))
set_option maxRecDepth 65536 in
set_option maxHeartbeats 40000000 in
theorem own_law (l : Launch) (Z : State) (a0 : Array Value) (hw : ∀ d ∈ tables_1, d.before a0 Z = true) (i0 i1 i2 : Int32) (d1 ca el ea em mr : Addr) (cD cE : ClassId) (cc : Cell) (val : Int32 → Value) (h0 : Heap) (n0 : Nat) (O : Old Z n0 h0) (Sz : n0 ≤ h0.size) (S_D : Sta Z Z.heap "java/util/ArrayList" "DEFAULTCAPACITY_EMPTY_ELEMENTDATA" "[Ljava/lang/Object;" (.ref d1)) (X_d1 : Exa Z Z.heap d1 "[Ljava/lang/Object;") (V_d1 : Arv Z Z.heap d1 cD (.object "java/lang/Object") 0 [] .null) (S_H : Sta Z Z.heap "java/lang/Integer$IntegerCache" "high" "I" (.int 127)) (S_C : Sta Z Z.heap "java/lang/Integer$IntegerCache" "cache" "[Ljava/lang/Integer;" (.ref ca)) (BX : Bxs Z ca cc "java/lang/Integer" "I" 256 val) (S_EL : Sta Z Z.heap "java/util/ImmutableCollections" "EMPTY_LIST" "Ljava/util/ImmutableCollections$ListN;" (.ref el)) (X_el : Exa Z Z.heap el "java/util/ImmutableCollections$ListN") (F_el : Fld Z Z.heap el "java/util/ImmutableCollections$ListN" "elements" "[Ljava/lang/Object;" (.ref ea)) (V_ea : Arv Z Z.heap ea cE (.object "java/lang/Object") 0 [] .null) (S_EM : Sta Z Z.heap "java/util/ImmutableCollections" "EMPTY" "Ljava/lang/Object;" (.ref em)) (X_em : Exa Z Z.heap em "java/lang/Object") (M : Mi Z "[Ljava/lang/Object;" mr) :
    Ctr l Z x code maxLocals ret room_1 #[(.int i0), (.int i1), (.int i2)] h0 n0 (fun v _ => v = some (.int 1)) := by
  refine Ctr.of (plainFor_of_name own_pn_ChannelLevelsPinLaw) ?_
  intro p e s m below meth c C
  refine Go.frame (g' := mkF m 0 #[.val (.int i0), .val (.int i1), .val (.int i2), .unset, .unset, .unset, .unset, .unset, .unset, .unset, .unset] []) (by first | (simp [entryFrame, mkF, argsToLocals, Value.category, maxLocals]; done) | rfl) ?_
  refine OwnW.iloadN C (pc' := 1) at_0 rfl rfl ?_
  refine OwnW.bipush C (pc' := 3) at_1 rfl (z := 7) rfl ?_
  refine OwnW.iand C (pc' := 4) at_3 rfl ?_
  refine OwnW.istoreN C (pc' := 5) at_4 rfl (l' := #[.val (.int i0), .val (.int i1), .val (.int i2), .val (.int (i0 &&& (7 : Int32))), .unset, .unset, .unset, .unset, .unset, .unset, .unset]) rfl ?_
  refine OwnW.newO C (pc' := 8) (K' := 1) (S' := 3) (hw _ (List.mem_of_getElem? (i := 0) rfl)) (hw _ (List.mem_of_getElem? (i := 1) rfl)) (hw _ (List.mem_of_getElem? (i := 2) rfl)) at_5 rfl rfl rfl (by decide) (by decide) (fun h1 b1 g1 E1 X_b1 D1 => ?_)
  have g_b1 : n0 ≤ b1 := Nat.le_trans Sz (Nat.le_of_eq g1.symm)
  have O := O.ext E1
  have Sz := Nat.le_trans Sz E1.1
  have F_modCount_b1 : Fld Z h1 b1 "java/util/AbstractList" "modCount" "I" (.int (0 : Int32)) := D1 (Or.inl (hw _ (List.mem_of_getElem? (i := 22) rfl))) (ty := .int) (by decide)
  have F_elementData_b1 : Fld Z h1 b1 "java/util/ArrayList" "elementData" "[Ljava/lang/Object;" .null := D1 (Or.inl (hw _ (List.mem_of_getElem? (i := 25) rfl))) (ty := (.array (.object "java/lang/Object"))) (by decide)
  have F_size_b1 : Fld Z h1 b1 "java/util/ArrayList" "size" "I" (.int (0 : Int32)) := D1 (Or.inl (hw _ (List.mem_of_getElem? (i := 64) rfl))) (ty := .int) (by decide)
  refine OwnW.dup C (pc' := 9) at_8 rfl rfl ?_
  refine OwnW.callX C (pc' := 12) (y := (⟨"java/util/ArrayList", "<init>", "()V"⟩ : MethodName)) (W := 1) (argsL := []) (rest := [(.ref b1)]) rfl (hw _ (List.mem_of_getElem? (i := 3) rfl)) (hw _ (List.mem_of_getElem? (i := 4) rfl)) (hw _ (List.mem_of_getElem? (i := 2) rfl)) (hw _ (List.mem_of_getElem? (i := 5) rfl)) (by decide) (own_lstinit l Z a0 hw b1 d1 h1 n0 X_b1 F_modCount_b1 F_elementData_b1 F_size_b1 g_b1 (S_D.ext O.2)) (K' := 1) (S' := 3) (by decide) (by decide) rfl own_pd___V rfl (Nat.le_of_eq rfl) rfl rfl (by decide) (by decide) rfl at_9 rfl (fun v h2 hq => ?_)
  obtain ⟨rfl, KK, F1, F2, F3⟩ := hq
  refine Go.at (st' := [(.ref b1)]) rfl ?_
  have O := O.keep KK (allS (g_b1) all0)
  have Sz := Nat.le_trans Sz KK.1
  have X_b1 := X_b1.keep KK
  have F_modCount_b1 := F1
  have F_elementData_b1 := F2
  have F_size_b1 := F3
  refine OwnW.astore C (pc' := 14) at_12 rfl rfl (l' := #[.val (.int i0), .val (.int i1), .val (.int i2), .val (.int (i0 &&& (7 : Int32))), .val (.ref b1), .unset, .unset, .unset, .unset, .unset, .unset]) rfl ?_
  refine OwnW.iloadN C (pc' := 15) at_14 rfl rfl ?_
  refine OwnW.callS C (pc' := 18) (y := (⟨"java/lang/Integer", "valueOf", "(I)Ljava/lang/Integer;"⟩ : MethodName)) (W := 0) (argsL := [(.int i1)]) (rest := []) (hw _ (List.mem_of_getElem? (i := 26) rfl)) (hw _ (List.mem_of_getElem? (i := 27) rfl)) (hw _ (List.mem_of_getElem? (i := 28) rfl)) (hw _ (List.mem_of_getElem? (i := 29) rfl)) (by decide) (own_valueOf l Z a0 hw i1 ca cc val h2 n0 O Sz (S_H.ext O.2) (S_C.ext O.2) BX) (K' := 2) (S' := 4) (by decide) (by decide) rfl own_pd__I_Ljava_lang_Integer_ rfl (Nat.le_of_eq rfl) rfl rfl (by decide) (by decide) rfl at_15 rfl (fun v h3 hq => ?_)
  obtain ⟨xx, rfl, KK, X_xx⟩ := hq
  refine Go.at (st' := [(.ref xx)]) rfl ?_
  have O := O.keep KK all0
  have Sz := Nat.le_trans Sz KK.1
  have X_b1 := X_b1.keep KK
  have F_modCount_b1 := F_modCount_b1.keep KK nin0
  have F_elementData_b1 := F_elementData_b1.keep KK nin0
  have F_size_b1 := F_size_b1.keep KK nin0
  have ne_b1_xx : b1 ≠ xx := X_b1.ne X_xx (by decide)
  refine OwnW.astore C (pc' := 20) at_18 rfl rfl (l' := #[.val (.int i0), .val (.int i1), .val (.int i2), .val (.int (i0 &&& (7 : Int32))), .val (.ref b1), .val (.ref xx), .unset, .unset, .unset, .unset, .unset]) rfl ?_
  refine OwnW.iloadN C (pc' := 21) at_20 rfl rfl ?_
  refine OwnW.callS C (pc' := 24) (y := (⟨"java/lang/Integer", "valueOf", "(I)Ljava/lang/Integer;"⟩ : MethodName)) (W := 0) (argsL := [(.int i2)]) (rest := []) (hw _ (List.mem_of_getElem? (i := 26) rfl)) (hw _ (List.mem_of_getElem? (i := 27) rfl)) (hw _ (List.mem_of_getElem? (i := 28) rfl)) (hw _ (List.mem_of_getElem? (i := 29) rfl)) (by decide) (own_valueOf l Z a0 hw i2 ca cc val h3 n0 O Sz (S_H.ext O.2) (S_C.ext O.2) BX) (K' := 3) (S' := 5) (by decide) (by decide) rfl own_pd__I_Ljava_lang_Integer_ rfl (Nat.le_of_eq rfl) rfl rfl (by decide) (by decide) rfl at_21 rfl (fun v h4 hq => ?_)
  obtain ⟨yy, rfl, KK, X_yy⟩ := hq
  refine Go.at (st' := [(.ref yy)]) rfl ?_
  have O := O.keep KK all0
  have Sz := Nat.le_trans Sz KK.1
  have X_b1 := X_b1.keep KK
  have F_modCount_b1 := F_modCount_b1.keep KK nin0
  have F_elementData_b1 := F_elementData_b1.keep KK nin0
  have F_size_b1 := F_size_b1.keep KK nin0
  have X_xx := X_xx.keep KK
  have ne_b1_yy : b1 ≠ yy := X_b1.ne X_yy (by decide)
  refine OwnW.astore C (pc' := 26) at_24 rfl rfl (l' := #[.val (.int i0), .val (.int i1), .val (.int i2), .val (.int (i0 &&& (7 : Int32))), .val (.ref b1), .val (.ref xx), .val (.ref yy), .unset, .unset, .unset, .unset]) rfl ?_
  have ne_yy_em : ¬ yy = em := X_yy.ne (X_em.ext O.2) (by decide)
  rcases own_c8 i0 with hk | hk | hk | hk | hk | hk | hk | hk
  · rw [hk]
    refine OwnW.iloadN C (pc' := 27) at_26 rfl rfl ?_
    refine OwnW.iconst C (pc' := 28) at_27 rfl (z := 1) rfl ?_
    refine OwnW.icLt C (pcY := 39) (pcN := 31) at_28 (by decide) rfl rfl (fun hc28 => ?_) (fun hc28 => absurd (by decide) hc28)
    refine OwnW.iloadN C (pc' := 40) at_39 rfl rfl ?_
    refine OwnW.iconst C (pc' := 41) at_40 rfl (z := 2) rfl ?_
    refine OwnW.icLt C (pcY := 52) (pcN := 44) at_41 (by decide) rfl rfl (fun hc41 => ?_) (fun hc41 => absurd (by decide) hc41)
    refine OwnW.iloadN C (pc' := 53) at_52 rfl rfl ?_
    refine OwnW.iconst C (pc' := 54) at_53 rfl (z := 3) rfl ?_
    refine OwnW.icLt C (pcY := 65) (pcN := 57) at_54 (by decide) rfl rfl (fun hc54 => ?_) (fun hc54 => absurd (by decide) hc54)
    refine OwnW.iloadN C (pc' := 66) at_65 rfl rfl ?_
    refine OwnW.iconst C (pc' := 67) at_66 rfl (z := 4) rfl ?_
    refine OwnW.icLt C (pcY := 78) (pcN := 70) at_67 (by decide) rfl rfl (fun hc67 => ?_) (fun hc67 => absurd (by decide) hc67)
    refine OwnW.iloadN C (pc' := 79) at_78 rfl rfl ?_
    refine OwnW.iconst C (pc' := 80) at_79 rfl (z := 5) rfl ?_
    refine OwnW.icLt C (pcY := 91) (pcN := 83) at_80 (by decide) rfl rfl (fun hc80 => ?_) (fun hc80 => absurd (by decide) hc80)
    refine OwnW.iloadN C (pc' := 92) at_91 rfl rfl ?_
    refine OwnW.bipush C (pc' := 94) at_92 rfl (z := 6) rfl ?_
    refine OwnW.icLt C (pcY := 105) (pcN := 97) at_94 (by decide) rfl rfl (fun hc94 => ?_) (fun hc94 => absurd (by decide) hc94)
    refine OwnW.iloadN C (pc' := 106) at_105 rfl rfl ?_
    refine OwnW.bipush C (pc' := 108) at_106 rfl (z := 7) rfl ?_
    refine OwnW.icLt C (pcY := 119) (pcN := 111) at_108 (by decide) rfl rfl (fun hc108 => ?_) (fun hc108 => absurd (by decide) hc108)
    refine OwnW.newO C (pc' := 122) (K' := 4) (S' := 6) (hw _ (List.mem_of_getElem? (i := 33) rfl)) (hw _ (List.mem_of_getElem? (i := 34) rfl)) (hw _ (List.mem_of_getElem? (i := 35) rfl)) at_119 rfl rfl rfl (by decide) (by decide) (fun h5 b5 g5 E5 X_b5 D5 => ?_)
    have ne_b1_b5 : b1 ≠ b5 := Nat.ne_of_lt (Nat.lt_of_lt_of_eq X_b1.lt g5.symm)
    have ne_xx_b5 : xx ≠ b5 := Nat.ne_of_lt (Nat.lt_of_lt_of_eq X_xx.lt g5.symm)
    have ne_yy_b5 : yy ≠ b5 := Nat.ne_of_lt (Nat.lt_of_lt_of_eq X_yy.lt g5.symm)
    have g_b5 : n0 ≤ b5 := Nat.le_trans Sz (Nat.le_of_eq g5.symm)
    have O := O.ext E5
    have Sz := Nat.le_trans Sz E5.1
    have X_b1 := X_b1.ext E5
    have F_modCount_b1 := F_modCount_b1.ext E5
    have F_elementData_b1 := F_elementData_b1.ext E5
    have F_size_b1 := F_size_b1.ext E5
    have X_xx := X_xx.ext E5
    have X_yy := X_yy.ext E5
    have F_transformations_b5 : Fld Z h5 b5 "com/example/schema_facade/schemafacade/channel/Channel" "transformations" "Ljava/util/List;" .null := D5 (Or.inr (hw _ (List.mem_of_getElem? (i := 70) rfl))) (ty := (.object "java/util/List")) (by decide)
    refine OwnW.dup C (pc' := 123) at_122 rfl rfl ?_
    refine OwnW.aload C (pc' := 125) at_123 rfl rfl rfl ?_
    refine OwnW.callX C (pc' := 128) (y := (⟨"com/example/schema_facade/schemafacade/channel/Channel", "<init>", "(Ljava/util/List;)V"⟩ : MethodName)) (W := 1) (argsL := [(.ref b1)]) (rest := [(.ref b5)]) rfl (hw _ (List.mem_of_getElem? (i := 36) rfl)) (hw _ (List.mem_of_getElem? (i := 37) rfl)) (hw _ (List.mem_of_getElem? (i := 35) rfl)) (hw _ (List.mem_of_getElem? (i := 38) rfl)) (by decide) (own_chinit_0 l Z a0 hw b5 b1 el h5 n0 X_b5 F_transformations_b5 g_b5 X_b1 F_size_b1 (S_EL.ext O.2)) (K' := 4) (S' := 6) (by decide) (by decide) rfl own_pd__Ljava_util_List__V rfl (Nat.le_of_eq rfl) rfl rfl (by decide) (by decide) rfl at_125 rfl (fun v h6 hq => ?_)
    obtain ⟨rfl, KK, FT⟩ := hq
    refine Go.at (st' := [(.ref b5)]) rfl ?_
    have O := O.keep KK (allS (g_b5) all0)
    have Sz := Nat.le_trans Sz KK.1
    have X_b1 := X_b1.keep KK
    have F_modCount_b1 := F_modCount_b1.keep KK (ninS ne_b1_b5 nin0)
    have F_elementData_b1 := F_elementData_b1.keep KK (ninS ne_b1_b5 nin0)
    have F_size_b1 := F_size_b1.keep KK (ninS ne_b1_b5 nin0)
    have X_xx := X_xx.keep KK
    have X_yy := X_yy.keep KK
    have X_b5 := X_b5.keep KK
    have F_transformations_b5 := FT
    refine OwnW.astore C (pc' := 130) at_128 rfl rfl (l' := #[.val (.int i0), .val (.int i1), .val (.int i2), .val (.int (0 : Int32)), .val (.ref b1), .val (.ref xx), .val (.ref yy), .val (.ref b5), .unset, .unset, .unset]) rfl ?_
    refine OwnW.aload C (pc' := 132) at_130 rfl rfl rfl ?_
    refine OwnW.callV C (pc' := 135) (y := (⟨"com/example/schema_facade/schemafacade/channel/Channel", "levels", "()I"⟩ : MethodName)) (z := (⟨"com/example/schema_facade/schemafacade/channel/Channel", "levels", "()I"⟩ : MethodName)) (W := 0) (argsL := []) (rest := []) (hw _ (List.mem_of_getElem? (i := 71) rfl)) (hw _ (List.mem_of_getElem? (i := 72) rfl)) (notFace_of_selects (args := #[]) (mvT C.2.1 (hw _ (List.mem_of_getElem? (i := 74) rfl)))) (hw _ (List.mem_of_getElem? (i := 74) rfl)) (hw _ (List.mem_of_getElem? (i := 73) rfl)) (hw _ (List.mem_of_getElem? (i := 35) rfl)) (hw _ (List.mem_of_getElem? (i := 75) rfl)) X_b5 (by decide) (own_levels_N l Z a0 hw b5 el ea 0 [] cE h6 n0 F_transformations_b5 (X_el.ext O.2) (F_el.ext O.2) (V_ea.ext O.2)) (K' := 4) (S' := 6) (by decide) (by decide) rfl own_pd___I rfl (Nat.le_of_eq rfl) rfl rfl (by decide) (by decide) rfl at_132 rfl (fun v h' hq => ?_)
    obtain ⟨hv, hh⟩ := hq
    rw [show ((0 : Int32) + 1) = (1 : Int32) from rfl] at hv; subst hv
    refine Go.at (st' := [(.int (1 : Int32))]) rfl ?_
    refine Go.heap hh ?_
    refine OwnW.istore C (pc' := 137) at_135 rfl (l' := #[.val (.int i0), .val (.int i1), .val (.int i2), .val (.int (0 : Int32)), .val (.ref b1), .val (.ref xx), .val (.ref yy), .val (.ref b5), .val (.int (1 : Int32)), .unset, .unset]) rfl ?_
    refine OwnW.aload C (pc' := 139) at_137 rfl rfl rfl ?_
    refine OwnW.callV C (pc' := 142) (y := (⟨"com/example/schema_facade/schemafacade/channel/Channel", "isEmpty", "()Z"⟩ : MethodName)) (z := (⟨"com/example/schema_facade/schemafacade/channel/Channel", "isEmpty", "()Z"⟩ : MethodName)) (W := 0) (argsL := []) (rest := []) (hw _ (List.mem_of_getElem? (i := 88) rfl)) (hw _ (List.mem_of_getElem? (i := 89) rfl)) (notFace_of_selects (args := #[]) (mvT C.2.1 (hw _ (List.mem_of_getElem? (i := 91) rfl)))) (hw _ (List.mem_of_getElem? (i := 91) rfl)) (hw _ (List.mem_of_getElem? (i := 90) rfl)) (hw _ (List.mem_of_getElem? (i := 35) rfl)) (hw _ (List.mem_of_getElem? (i := 92) rfl)) X_b5 (by decide) (own_isEmpty_N l Z a0 hw b5 el ea 0 [] cE h6 n0 F_transformations_b5 (X_el.ext O.2) (F_el.ext O.2) (V_ea.ext O.2)) (K' := 4) (S' := 6) (by decide) (by decide) rfl own_pd___Z rfl (Nat.le_of_eq rfl) rfl rfl (by decide) (by decide) rfl at_139 rfl (fun v h' hq => ?_)
    obtain ⟨hv, hh⟩ := hq
    rw [show (if (0 : Int32) = 0 then (1 : Int32) else 0) = (1 : Int32) from rfl] at hv; subst hv
    refine Go.at (st' := [(.int (1 : Int32))]) rfl ?_
    refine Go.heap hh ?_
    refine OwnW.istore C (pc' := 144) at_142 rfl (l' := #[.val (.int i0), .val (.int i1), .val (.int i2), .val (.int (0 : Int32)), .val (.ref b1), .val (.ref xx), .val (.ref yy), .val (.ref b5), .val (.int (1 : Int32)), .val (.int (1 : Int32)), .unset]) rfl ?_
    refine OwnW.aload C (pc' := 146) at_144 rfl rfl rfl ?_
    refine OwnW.aload C (pc' := 148) at_146 rfl rfl rfl ?_
    have ne_d : d1 ≠ b1 := O.ne X_d1.lt g_b1
    refine OwnW.callV C (pc' := 151) (y := (⟨"java/util/ArrayList", "add", "(Ljava/lang/Object;)Z"⟩ : MethodName)) (z := (⟨"java/util/ArrayList", "add", "(Ljava/lang/Object;)Z"⟩ : MethodName)) (W := 0) (argsL := [(.ref yy)]) (rest := []) (hw _ (List.mem_of_getElem? (i := 101) rfl)) (hw _ (List.mem_of_getElem? (i := 102) rfl)) (notFace_of_selects (args := #[]) (mvT C.2.1 (hw _ (List.mem_of_getElem? (i := 104) rfl)))) (hw _ (List.mem_of_getElem? (i := 104) rfl)) (hw _ (List.mem_of_getElem? (i := 103) rfl)) (hw _ (List.mem_of_getElem? (i := 2) rfl)) (hw _ (List.mem_of_getElem? (i := 105) rfl)) X_b1 (by decide) (own_add_0 l Z a0 hw b1 yy d1 (0 : Int32) cD h6 n0 Sz X_b1 F_modCount_b1 F_elementData_b1 F_size_b1 g_b1 (V_d1.ext O.2) (S_D.ext O.2) (Ins.of_exa X_yy (hw _ (List.mem_of_getElem? (i := 129) rfl))) ne_d) (K' := 5) (S' := 16) (by decide) (by decide) rfl own_pd__Ljava_lang_Object__Z rfl (Nat.le_of_eq rfl) rfl rfl (by decide) (by decide) rfl at_148 rfl (fun v h7 hq => ?_)
    obtain ⟨rfl, KK, bb, cO, hb, F1, F2, F3, V_bb', X_bb', O_bb⟩ := hq
    refine Go.at (st' := [(.int (1 : Int32))]) rfl ?_
    have ne_b1_bb : b1 ≠ bb := Nat.ne_of_lt (Nat.lt_of_lt_of_le X_b1.lt hb)
    have ne_xx_bb : xx ≠ bb := Nat.ne_of_lt (Nat.lt_of_lt_of_le X_xx.lt hb)
    have ne_yy_bb : yy ≠ bb := Nat.ne_of_lt (Nat.lt_of_lt_of_le X_yy.lt hb)
    have ne_b5_bb : b5 ≠ bb := Nat.ne_of_lt (Nat.lt_of_lt_of_le X_b5.lt hb)
    have g_bb : n0 ≤ bb := Nat.le_trans Sz hb
    have O := O.keep KK (allS (g_b1) all0)
    have Sz := Nat.le_trans Sz KK.1
    have X_b1 := X_b1.keep KK
    have X_xx := X_xx.keep KK
    have X_yy := X_yy.keep KK
    have X_b5 := X_b5.keep KK
    have F_transformations_b5 := F_transformations_b5.keep KK (ninS (Ne.symm ne_b1_b5) nin0)
    have X_bb := X_bb'
    have F_modCount_b1 := F1
    have F_elementData_b1 := F2
    have F_size_b1 := F3
    have V_bb := V_bb'
    refine OwnW.pop C (pc' := 152) at_151 rfl rfl ?_
    refine OwnW.aload C (pc' := 154) at_152 rfl rfl rfl ?_
    refine OwnW.callV C (pc' := 157) (y := (⟨"com/example/schema_facade/schemafacade/channel/Channel", "levels", "()I"⟩ : MethodName)) (z := (⟨"com/example/schema_facade/schemafacade/channel/Channel", "levels", "()I"⟩ : MethodName)) (W := 0) (argsL := []) (rest := []) (hw _ (List.mem_of_getElem? (i := 71) rfl)) (hw _ (List.mem_of_getElem? (i := 72) rfl)) (notFace_of_selects (args := #[]) (mvT C.2.1 (hw _ (List.mem_of_getElem? (i := 74) rfl)))) (hw _ (List.mem_of_getElem? (i := 74) rfl)) (hw _ (List.mem_of_getElem? (i := 73) rfl)) (hw _ (List.mem_of_getElem? (i := 35) rfl)) (hw _ (List.mem_of_getElem? (i := 75) rfl)) X_b5 (by decide) (own_levels_N l Z a0 hw b5 el ea 0 [] cE h7 n0 F_transformations_b5 (X_el.ext O.2) (F_el.ext O.2) (V_ea.ext O.2)) (K' := 5) (S' := 16) (by decide) (by decide) rfl own_pd___I rfl (Nat.le_of_eq rfl) rfl rfl (by decide) (by decide) rfl at_154 rfl (fun v h' hq => ?_)
    obtain ⟨hv, hh⟩ := hq
    rw [show ((0 : Int32) + 1) = (1 : Int32) from rfl] at hv; subst hv
    refine Go.at (st' := [(.int (1 : Int32))]) rfl ?_
    refine Go.heap hh ?_
    refine OwnW.istore C (pc' := 159) at_157 rfl (l' := #[.val (.int i0), .val (.int i1), .val (.int i2), .val (.int (0 : Int32)), .val (.ref b1), .val (.ref xx), .val (.ref yy), .val (.ref b5), .val (.int (1 : Int32)), .val (.int (1 : Int32)), .val (.int (1 : Int32))]) rfl ?_
    refine OwnW.iload C (pc' := 161) at_159 rfl rfl ?_
    refine OwnW.iloadN C (pc' := 162) at_161 rfl rfl ?_
    refine OwnW.iconst C (pc' := 163) at_162 rfl (z := 1) rfl ?_
    refine OwnW.iadd C (pc' := 164) at_163 rfl ?_
    rw [show (0 : Int32) + 1 = 1 from rfl]
    refine OwnW.icNe C (pcY := 193) (pcN := 167) at_164 (by decide) rfl rfl (fun hc164 => absurd rfl hc164) (fun hc164 => ?_)
    refine OwnW.iload C (pc' := 169) at_167 rfl rfl ?_
    refine OwnW.iloadN C (pc' := 170) at_169 rfl rfl ?_
    refine OwnW.ifNe C (pcY := 177) (pcN := 173) at_170 (by decide) rfl rfl (fun hc170 => absurd rfl hc170) (fun hc170 => ?_)
    refine OwnW.iconst C (pc' := 174) at_173 rfl (z := 1) rfl ?_
    refine OwnW.goto C (pc' := 178) at_174 (by decide) rfl ?_
    refine OwnW.icNe C (pcY := 193) (pcN := 181) at_178 (by decide) rfl rfl (fun hc178 => absurd rfl hc178) (fun hc178 => ?_)
    refine OwnW.iload C (pc' := 183) at_181 rfl rfl ?_
    refine OwnW.iloadN C (pc' := 184) at_183 rfl rfl ?_
    refine OwnW.iconst C (pc' := 185) at_184 rfl (z := 1) rfl ?_
    refine OwnW.iadd C (pc' := 186) at_185 rfl ?_
    rw [show (0 : Int32) + 1 = 1 from rfl]
    refine OwnW.icNe C (pcY := 193) (pcN := 189) at_186 (by decide) rfl rfl (fun hc186 => absurd rfl hc186) (fun hc186 => ?_)
    refine OwnW.iconst C (pc' := 190) at_189 rfl (z := 1) rfl ?_
    refine OwnW.goto C (pc' := 194) at_190 (by decide) rfl ?_
    exact OwnW.retN C (t := .boolean) (z := (1 : Int32)) rfl (by simp) rfl rfl (by decide) (by decide) at_194
  · rw [hk]
    refine OwnW.iloadN C (pc' := 27) at_26 rfl rfl ?_
    refine OwnW.iconst C (pc' := 28) at_27 rfl (z := 1) rfl ?_
    refine OwnW.icLt C (pcY := 39) (pcN := 31) at_28 (by decide) rfl rfl (fun hc28 => absurd hc28 (by decide)) (fun hc28 => ?_)
    refine OwnW.aload C (pc' := 33) at_31 rfl rfl rfl ?_
    refine OwnW.aload C (pc' := 35) at_33 rfl rfl rfl ?_
    have ne_d : d1 ≠ b1 := O.ne X_d1.lt g_b1
    refine OwnW.callV C (pc' := 38) (y := (⟨"java/util/ArrayList", "add", "(Ljava/lang/Object;)Z"⟩ : MethodName)) (z := (⟨"java/util/ArrayList", "add", "(Ljava/lang/Object;)Z"⟩ : MethodName)) (W := 0) (argsL := [(.ref xx)]) (rest := []) (hw _ (List.mem_of_getElem? (i := 101) rfl)) (hw _ (List.mem_of_getElem? (i := 102) rfl)) (notFace_of_selects (args := #[]) (mvT C.2.1 (hw _ (List.mem_of_getElem? (i := 104) rfl)))) (hw _ (List.mem_of_getElem? (i := 104) rfl)) (hw _ (List.mem_of_getElem? (i := 103) rfl)) (hw _ (List.mem_of_getElem? (i := 2) rfl)) (hw _ (List.mem_of_getElem? (i := 105) rfl)) X_b1 (by decide) (own_add_0 l Z a0 hw b1 xx d1 (0 : Int32) cD h4 n0 Sz X_b1 F_modCount_b1 F_elementData_b1 F_size_b1 g_b1 (V_d1.ext O.2) (S_D.ext O.2) (Ins.of_exa X_xx (hw _ (List.mem_of_getElem? (i := 129) rfl))) ne_d) (K' := 4) (S' := 15) (by decide) (by decide) rfl own_pd__Ljava_lang_Object__Z rfl (Nat.le_of_eq rfl) rfl rfl (by decide) (by decide) rfl at_35 rfl (fun v h5 hq => ?_)
    obtain ⟨rfl, KK, bb, cO, hb, F1, F2, F3, V_bb', X_bb', O_bb⟩ := hq
    refine Go.at (st' := [(.int (1 : Int32))]) rfl ?_
    have ne_b1_bb : b1 ≠ bb := Nat.ne_of_lt (Nat.lt_of_lt_of_le X_b1.lt hb)
    have ne_xx_bb : xx ≠ bb := Nat.ne_of_lt (Nat.lt_of_lt_of_le X_xx.lt hb)
    have ne_yy_bb : yy ≠ bb := Nat.ne_of_lt (Nat.lt_of_lt_of_le X_yy.lt hb)
    have g_bb : n0 ≤ bb := Nat.le_trans Sz hb
    have O := O.keep KK (allS (g_b1) all0)
    have Sz := Nat.le_trans Sz KK.1
    have X_b1 := X_b1.keep KK
    have X_xx := X_xx.keep KK
    have X_yy := X_yy.keep KK
    have X_bb := X_bb'
    have F_modCount_b1 := F1
    have F_elementData_b1 := F2
    have F_size_b1 := F3
    have V_bb := V_bb'
    refine OwnW.pop C (pc' := 39) at_38 rfl rfl ?_
    refine OwnW.iloadN C (pc' := 40) at_39 rfl rfl ?_
    refine OwnW.iconst C (pc' := 41) at_40 rfl (z := 2) rfl ?_
    refine OwnW.icLt C (pcY := 52) (pcN := 44) at_41 (by decide) rfl rfl (fun hc41 => ?_) (fun hc41 => absurd (by decide) hc41)
    refine OwnW.iloadN C (pc' := 53) at_52 rfl rfl ?_
    refine OwnW.iconst C (pc' := 54) at_53 rfl (z := 3) rfl ?_
    refine OwnW.icLt C (pcY := 65) (pcN := 57) at_54 (by decide) rfl rfl (fun hc54 => ?_) (fun hc54 => absurd (by decide) hc54)
    refine OwnW.iloadN C (pc' := 66) at_65 rfl rfl ?_
    refine OwnW.iconst C (pc' := 67) at_66 rfl (z := 4) rfl ?_
    refine OwnW.icLt C (pcY := 78) (pcN := 70) at_67 (by decide) rfl rfl (fun hc67 => ?_) (fun hc67 => absurd (by decide) hc67)
    refine OwnW.iloadN C (pc' := 79) at_78 rfl rfl ?_
    refine OwnW.iconst C (pc' := 80) at_79 rfl (z := 5) rfl ?_
    refine OwnW.icLt C (pcY := 91) (pcN := 83) at_80 (by decide) rfl rfl (fun hc80 => ?_) (fun hc80 => absurd (by decide) hc80)
    refine OwnW.iloadN C (pc' := 92) at_91 rfl rfl ?_
    refine OwnW.bipush C (pc' := 94) at_92 rfl (z := 6) rfl ?_
    refine OwnW.icLt C (pcY := 105) (pcN := 97) at_94 (by decide) rfl rfl (fun hc94 => ?_) (fun hc94 => absurd (by decide) hc94)
    refine OwnW.iloadN C (pc' := 106) at_105 rfl rfl ?_
    refine OwnW.bipush C (pc' := 108) at_106 rfl (z := 7) rfl ?_
    refine OwnW.icLt C (pcY := 119) (pcN := 111) at_108 (by decide) rfl rfl (fun hc108 => ?_) (fun hc108 => absurd (by decide) hc108)
    refine OwnW.newO C (pc' := 122) (K' := 5) (S' := 16) (hw _ (List.mem_of_getElem? (i := 33) rfl)) (hw _ (List.mem_of_getElem? (i := 34) rfl)) (hw _ (List.mem_of_getElem? (i := 35) rfl)) at_119 rfl rfl rfl (by decide) (by decide) (fun h6 b6 g6 E6 X_b6 D6 => ?_)
    have ne_b1_b6 : b1 ≠ b6 := Nat.ne_of_lt (Nat.lt_of_lt_of_eq X_b1.lt g6.symm)
    have ne_xx_b6 : xx ≠ b6 := Nat.ne_of_lt (Nat.lt_of_lt_of_eq X_xx.lt g6.symm)
    have ne_yy_b6 : yy ≠ b6 := Nat.ne_of_lt (Nat.lt_of_lt_of_eq X_yy.lt g6.symm)
    have ne_bb_b6 : bb ≠ b6 := Nat.ne_of_lt (Nat.lt_of_lt_of_eq X_bb.lt g6.symm)
    have g_b6 : n0 ≤ b6 := Nat.le_trans Sz (Nat.le_of_eq g6.symm)
    have O := O.ext E6
    have Sz := Nat.le_trans Sz E6.1
    have X_b1 := X_b1.ext E6
    have X_xx := X_xx.ext E6
    have X_yy := X_yy.ext E6
    have X_bb := X_bb.ext E6
    have F_modCount_b1 := F_modCount_b1.ext E6
    have F_elementData_b1 := F_elementData_b1.ext E6
    have F_size_b1 := F_size_b1.ext E6
    have V_bb := V_bb.ext E6
    have F_transformations_b6 : Fld Z h6 b6 "com/example/schema_facade/schemafacade/channel/Channel" "transformations" "Ljava/util/List;" .null := D6 (Or.inr (hw _ (List.mem_of_getElem? (i := 70) rfl))) (ty := (.object "java/util/List")) (by decide)
    refine OwnW.dup C (pc' := 123) at_122 rfl rfl ?_
    refine OwnW.aload C (pc' := 125) at_123 rfl rfl rfl ?_
    refine OwnW.callX C (pc' := 128) (y := (⟨"com/example/schema_facade/schemafacade/channel/Channel", "<init>", "(Ljava/util/List;)V"⟩ : MethodName)) (W := 1) (argsL := [(.ref b1)]) (rest := [(.ref b6)]) rfl (hw _ (List.mem_of_getElem? (i := 36) rfl)) (hw _ (List.mem_of_getElem? (i := 37) rfl)) (hw _ (List.mem_of_getElem? (i := 35) rfl)) (hw _ (List.mem_of_getElem? (i := 38) rfl)) (by decide) (own_chinit_1 l Z a0 hw b6 b1 bb mr em xx ((List.replicate 10 .null).set 0 (.ref xx)) cO h6 n0 X_b6 F_transformations_b6 g_b6 Sz X_b1 F_elementData_b1 F_size_b1 X_bb V_bb M rfl (S_EM.ext O.2) (Ins.of_exa X_xx (hw _ (List.mem_of_getElem? (i := 129) rfl)))) (K' := 7) (S' := 19) (by decide) (by decide) rfl own_pd__Ljava_util_List__V rfl (Nat.le_of_eq rfl) rfl rfl (by decide) (by decide) rfl at_125 rfl (fun v h7 hq => ?_)
    obtain ⟨rfl, KK, rr, hr, FT, X_rr', QQ⟩ := hq
    refine Go.at (st' := [(.ref b6)]) rfl ?_
    have ne_b1_rr : b1 ≠ rr := Nat.ne_of_lt (Nat.lt_of_lt_of_le X_b1.lt hr)
    have ne_bb_rr : bb ≠ rr := Nat.ne_of_lt (Nat.lt_of_lt_of_le V_bb.lt hr)
    have ne_b6_rr : b6 ≠ rr := Nat.ne_of_lt (Nat.lt_of_lt_of_le X_b6.lt hr)
    have O := O.keep KK (allS (g_b6) all0)
    have Sz := Nat.le_trans Sz KK.1
    have X_b1 := X_b1.keep KK
    have X_xx := X_xx.keep KK
    have X_yy := X_yy.keep KK
    have X_bb := X_bb.keep KK
    have F_modCount_b1 := F_modCount_b1.keep KK (ninS ne_b1_b6 nin0)
    have F_elementData_b1 := F_elementData_b1.keep KK (ninS ne_b1_b6 nin0)
    have F_size_b1 := F_size_b1.keep KK (ninS ne_b1_b6 nin0)
    have V_bb := V_bb.keep KK (ninS ne_bb_b6 nin0)
    have X_b6 := X_b6.keep KK
    have F_transformations_b6 := FT
    have X_rr := X_rr'
    have F_q := QQ
    refine OwnW.astore C (pc' := 130) at_128 rfl rfl (l' := #[.val (.int i0), .val (.int i1), .val (.int i2), .val (.int (1 : Int32)), .val (.ref b1), .val (.ref xx), .val (.ref yy), .val (.ref b6), .unset, .unset, .unset]) rfl ?_
    refine OwnW.aload C (pc' := 132) at_130 rfl rfl rfl ?_
    refine OwnW.callV C (pc' := 135) (y := (⟨"com/example/schema_facade/schemafacade/channel/Channel", "levels", "()I"⟩ : MethodName)) (z := (⟨"com/example/schema_facade/schemafacade/channel/Channel", "levels", "()I"⟩ : MethodName)) (W := 0) (argsL := []) (rest := []) (hw _ (List.mem_of_getElem? (i := 71) rfl)) (hw _ (List.mem_of_getElem? (i := 72) rfl)) (notFace_of_selects (args := #[]) (mvT C.2.1 (hw _ (List.mem_of_getElem? (i := 74) rfl)))) (hw _ (List.mem_of_getElem? (i := 74) rfl)) (hw _ (List.mem_of_getElem? (i := 73) rfl)) (hw _ (List.mem_of_getElem? (i := 35) rfl)) (hw _ (List.mem_of_getElem? (i := 75) rfl)) X_b6 (by decide) (own_levels_12 l Z a0 hw b6 rr em em h7 n0 F_transformations_b6 X_rr F_q (S_EM.ext O.2)) (K' := 7) (S' := 19) (by decide) (by decide) rfl own_pd___I rfl (Nat.le_of_eq rfl) rfl rfl (by decide) (by decide) rfl at_132 rfl (fun v h' hq => ?_)
    obtain ⟨hv, hh⟩ := hq
    rw [show ((if em = em then (1 : Int32) else 2) + 1) = (2 : Int32) from by rw [if_pos rfl]; rfl] at hv; subst hv
    refine Go.at (st' := [(.int (2 : Int32))]) rfl ?_
    refine Go.heap hh ?_
    refine OwnW.istore C (pc' := 137) at_135 rfl (l' := #[.val (.int i0), .val (.int i1), .val (.int i2), .val (.int (1 : Int32)), .val (.ref b1), .val (.ref xx), .val (.ref yy), .val (.ref b6), .val (.int (2 : Int32)), .unset, .unset]) rfl ?_
    refine OwnW.aload C (pc' := 139) at_137 rfl rfl rfl ?_
    refine OwnW.callV C (pc' := 142) (y := (⟨"com/example/schema_facade/schemafacade/channel/Channel", "isEmpty", "()Z"⟩ : MethodName)) (z := (⟨"com/example/schema_facade/schemafacade/channel/Channel", "isEmpty", "()Z"⟩ : MethodName)) (W := 0) (argsL := []) (rest := []) (hw _ (List.mem_of_getElem? (i := 88) rfl)) (hw _ (List.mem_of_getElem? (i := 89) rfl)) (notFace_of_selects (args := #[]) (mvT C.2.1 (hw _ (List.mem_of_getElem? (i := 91) rfl)))) (hw _ (List.mem_of_getElem? (i := 91) rfl)) (hw _ (List.mem_of_getElem? (i := 90) rfl)) (hw _ (List.mem_of_getElem? (i := 35) rfl)) (hw _ (List.mem_of_getElem? (i := 92) rfl)) X_b6 (by decide) (own_isEmpty_12 l Z a0 hw b6 rr em em h7 n0 F_transformations_b6 X_rr F_q (S_EM.ext O.2)) (K' := 7) (S' := 19) (by decide) (by decide) rfl own_pd___Z rfl (Nat.le_of_eq rfl) rfl rfl (by decide) (by decide) rfl at_139 rfl (fun v h' hq => ?_)
    obtain ⟨hv, hh⟩ := hq
    rw [show (0 : Int32) = (0 : Int32) from rfl] at hv; subst hv
    refine Go.at (st' := [(.int (0 : Int32))]) rfl ?_
    refine Go.heap hh ?_
    refine OwnW.istore C (pc' := 144) at_142 rfl (l' := #[.val (.int i0), .val (.int i1), .val (.int i2), .val (.int (1 : Int32)), .val (.ref b1), .val (.ref xx), .val (.ref yy), .val (.ref b6), .val (.int (2 : Int32)), .val (.int (0 : Int32)), .unset]) rfl ?_
    refine OwnW.aload C (pc' := 146) at_144 rfl rfl rfl ?_
    refine OwnW.aload C (pc' := 148) at_146 rfl rfl rfl ?_
    refine OwnW.callV C (pc' := 151) (y := (⟨"java/util/ArrayList", "add", "(Ljava/lang/Object;)Z"⟩ : MethodName)) (z := (⟨"java/util/ArrayList", "add", "(Ljava/lang/Object;)Z"⟩ : MethodName)) (W := 0) (argsL := [(.ref yy)]) (rest := []) (hw _ (List.mem_of_getElem? (i := 101) rfl)) (hw _ (List.mem_of_getElem? (i := 102) rfl)) (notFace_of_selects (args := #[]) (mvT C.2.1 (hw _ (List.mem_of_getElem? (i := 104) rfl)))) (hw _ (List.mem_of_getElem? (i := 104) rfl)) (hw _ (List.mem_of_getElem? (i := 103) rfl)) (hw _ (List.mem_of_getElem? (i := 2) rfl)) (hw _ (List.mem_of_getElem? (i := 105) rfl)) X_b1 (by decide) (own_add_N l Z a0 hw b1 yy bb ((0 : Int32) + 1) 1 2 1 ((List.replicate 10 .null).set 0 (.ref xx)) cO h7 n0 X_b1 F_modCount_b1 F_elementData_b1 F_size_b1 g_b1 V_bb O_bb g_bb ne_b1_bb (Ins.of_exa X_yy (hw _ (List.mem_of_getElem? (i := 129) rfl))) rfl ⟨by decide, by decide⟩ (by decide) rfl (Nat.le_of_ble_eq_true rfl)) (K' := 7) (S' := 19) (by decide) (by decide) rfl own_pd__Ljava_lang_Object__Z rfl (Nat.le_of_eq rfl) rfl rfl (by decide) (by decide) rfl at_148 rfl (fun v h8 hq => ?_)
    obtain ⟨rfl, KK, F1, F2, F3, V_bb'⟩ := hq
    refine Go.at (st' := [(.int (1 : Int32))]) rfl ?_
    have O := O.keep KK (allS (g_b1) (allS (g_bb) all0))
    have Sz := Nat.le_trans Sz KK.1
    have X_b1 := X_b1.keep KK
    have X_xx := X_xx.keep KK
    have X_yy := X_yy.keep KK
    have X_bb := X_bb.keep KK
    have X_b6 := X_b6.keep KK
    have F_transformations_b6 := F_transformations_b6.keep KK (ninS (Ne.symm ne_b1_b6) (ninS (Ne.symm ne_bb_b6) nin0))
    have X_rr := X_rr.keep KK
    have F_q := F_q.keep KK (ninS (Ne.symm ne_b1_rr) (ninS (Ne.symm ne_bb_rr) nin0))
    have F_modCount_b1 := F1
    have F_elementData_b1 := F2
    have F_size_b1 := F3
    have V_bb := V_bb'
    refine OwnW.pop C (pc' := 152) at_151 rfl rfl ?_
    refine OwnW.aload C (pc' := 154) at_152 rfl rfl rfl ?_
    refine OwnW.callV C (pc' := 157) (y := (⟨"com/example/schema_facade/schemafacade/channel/Channel", "levels", "()I"⟩ : MethodName)) (z := (⟨"com/example/schema_facade/schemafacade/channel/Channel", "levels", "()I"⟩ : MethodName)) (W := 0) (argsL := []) (rest := []) (hw _ (List.mem_of_getElem? (i := 71) rfl)) (hw _ (List.mem_of_getElem? (i := 72) rfl)) (notFace_of_selects (args := #[]) (mvT C.2.1 (hw _ (List.mem_of_getElem? (i := 74) rfl)))) (hw _ (List.mem_of_getElem? (i := 74) rfl)) (hw _ (List.mem_of_getElem? (i := 73) rfl)) (hw _ (List.mem_of_getElem? (i := 35) rfl)) (hw _ (List.mem_of_getElem? (i := 75) rfl)) X_b6 (by decide) (own_levels_12 l Z a0 hw b6 rr em em h8 n0 F_transformations_b6 X_rr F_q (S_EM.ext O.2)) (K' := 7) (S' := 19) (by decide) (by decide) rfl own_pd___I rfl (Nat.le_of_eq rfl) rfl rfl (by decide) (by decide) rfl at_154 rfl (fun v h' hq => ?_)
    obtain ⟨hv, hh⟩ := hq
    rw [show ((if em = em then (1 : Int32) else 2) + 1) = (2 : Int32) from by rw [if_pos rfl]; rfl] at hv; subst hv
    refine Go.at (st' := [(.int (2 : Int32))]) rfl ?_
    refine Go.heap hh ?_
    refine OwnW.istore C (pc' := 159) at_157 rfl (l' := #[.val (.int i0), .val (.int i1), .val (.int i2), .val (.int (1 : Int32)), .val (.ref b1), .val (.ref xx), .val (.ref yy), .val (.ref b6), .val (.int (2 : Int32)), .val (.int (0 : Int32)), .val (.int (2 : Int32))]) rfl ?_
    refine OwnW.iload C (pc' := 161) at_159 rfl rfl ?_
    refine OwnW.iloadN C (pc' := 162) at_161 rfl rfl ?_
    refine OwnW.iconst C (pc' := 163) at_162 rfl (z := 1) rfl ?_
    refine OwnW.iadd C (pc' := 164) at_163 rfl ?_
    rw [show (1 : Int32) + 1 = 2 from rfl]
    refine OwnW.icNe C (pcY := 193) (pcN := 167) at_164 (by decide) rfl rfl (fun hc164 => absurd rfl hc164) (fun hc164 => ?_)
    refine OwnW.iload C (pc' := 169) at_167 rfl rfl ?_
    refine OwnW.iloadN C (pc' := 170) at_169 rfl rfl ?_
    refine OwnW.ifNe C (pcY := 177) (pcN := 173) at_170 (by decide) rfl rfl (fun hc170 => ?_) (fun hc170 => absurd hc170 (by decide))
    refine OwnW.iconst C (pc' := 178) at_177 rfl (z := 0) rfl ?_
    refine OwnW.icNe C (pcY := 193) (pcN := 181) at_178 (by decide) rfl rfl (fun hc178 => absurd rfl hc178) (fun hc178 => ?_)
    refine OwnW.iload C (pc' := 183) at_181 rfl rfl ?_
    refine OwnW.iloadN C (pc' := 184) at_183 rfl rfl ?_
    refine OwnW.iconst C (pc' := 185) at_184 rfl (z := 1) rfl ?_
    refine OwnW.iadd C (pc' := 186) at_185 rfl ?_
    rw [show (1 : Int32) + 1 = 2 from rfl]
    refine OwnW.icNe C (pcY := 193) (pcN := 189) at_186 (by decide) rfl rfl (fun hc186 => absurd rfl hc186) (fun hc186 => ?_)
    refine OwnW.iconst C (pc' := 190) at_189 rfl (z := 1) rfl ?_
    refine OwnW.goto C (pc' := 194) at_190 (by decide) rfl ?_
    exact OwnW.retN C (t := .boolean) (z := (1 : Int32)) rfl (by simp) rfl rfl (by decide) (by decide) at_194
  · rw [hk]
    refine OwnW.iloadN C (pc' := 27) at_26 rfl rfl ?_
    refine OwnW.iconst C (pc' := 28) at_27 rfl (z := 1) rfl ?_
    refine OwnW.icLt C (pcY := 39) (pcN := 31) at_28 (by decide) rfl rfl (fun hc28 => absurd hc28 (by decide)) (fun hc28 => ?_)
    refine OwnW.aload C (pc' := 33) at_31 rfl rfl rfl ?_
    refine OwnW.aload C (pc' := 35) at_33 rfl rfl rfl ?_
    have ne_d : d1 ≠ b1 := O.ne X_d1.lt g_b1
    refine OwnW.callV C (pc' := 38) (y := (⟨"java/util/ArrayList", "add", "(Ljava/lang/Object;)Z"⟩ : MethodName)) (z := (⟨"java/util/ArrayList", "add", "(Ljava/lang/Object;)Z"⟩ : MethodName)) (W := 0) (argsL := [(.ref xx)]) (rest := []) (hw _ (List.mem_of_getElem? (i := 101) rfl)) (hw _ (List.mem_of_getElem? (i := 102) rfl)) (notFace_of_selects (args := #[]) (mvT C.2.1 (hw _ (List.mem_of_getElem? (i := 104) rfl)))) (hw _ (List.mem_of_getElem? (i := 104) rfl)) (hw _ (List.mem_of_getElem? (i := 103) rfl)) (hw _ (List.mem_of_getElem? (i := 2) rfl)) (hw _ (List.mem_of_getElem? (i := 105) rfl)) X_b1 (by decide) (own_add_0 l Z a0 hw b1 xx d1 (0 : Int32) cD h4 n0 Sz X_b1 F_modCount_b1 F_elementData_b1 F_size_b1 g_b1 (V_d1.ext O.2) (S_D.ext O.2) (Ins.of_exa X_xx (hw _ (List.mem_of_getElem? (i := 129) rfl))) ne_d) (K' := 4) (S' := 15) (by decide) (by decide) rfl own_pd__Ljava_lang_Object__Z rfl (Nat.le_of_eq rfl) rfl rfl (by decide) (by decide) rfl at_35 rfl (fun v h5 hq => ?_)
    obtain ⟨rfl, KK, bb, cO, hb, F1, F2, F3, V_bb', X_bb', O_bb⟩ := hq
    refine Go.at (st' := [(.int (1 : Int32))]) rfl ?_
    have ne_b1_bb : b1 ≠ bb := Nat.ne_of_lt (Nat.lt_of_lt_of_le X_b1.lt hb)
    have ne_xx_bb : xx ≠ bb := Nat.ne_of_lt (Nat.lt_of_lt_of_le X_xx.lt hb)
    have ne_yy_bb : yy ≠ bb := Nat.ne_of_lt (Nat.lt_of_lt_of_le X_yy.lt hb)
    have g_bb : n0 ≤ bb := Nat.le_trans Sz hb
    have O := O.keep KK (allS (g_b1) all0)
    have Sz := Nat.le_trans Sz KK.1
    have X_b1 := X_b1.keep KK
    have X_xx := X_xx.keep KK
    have X_yy := X_yy.keep KK
    have X_bb := X_bb'
    have F_modCount_b1 := F1
    have F_elementData_b1 := F2
    have F_size_b1 := F3
    have V_bb := V_bb'
    refine OwnW.pop C (pc' := 39) at_38 rfl rfl ?_
    refine OwnW.iloadN C (pc' := 40) at_39 rfl rfl ?_
    refine OwnW.iconst C (pc' := 41) at_40 rfl (z := 2) rfl ?_
    refine OwnW.icLt C (pcY := 52) (pcN := 44) at_41 (by decide) rfl rfl (fun hc41 => absurd hc41 (by decide)) (fun hc41 => ?_)
    refine OwnW.aload C (pc' := 46) at_44 rfl rfl rfl ?_
    refine OwnW.aload C (pc' := 48) at_46 rfl rfl rfl ?_
    refine OwnW.callV C (pc' := 51) (y := (⟨"java/util/ArrayList", "add", "(Ljava/lang/Object;)Z"⟩ : MethodName)) (z := (⟨"java/util/ArrayList", "add", "(Ljava/lang/Object;)Z"⟩ : MethodName)) (W := 0) (argsL := [(.ref yy)]) (rest := []) (hw _ (List.mem_of_getElem? (i := 101) rfl)) (hw _ (List.mem_of_getElem? (i := 102) rfl)) (notFace_of_selects (args := #[]) (mvT C.2.1 (hw _ (List.mem_of_getElem? (i := 104) rfl)))) (hw _ (List.mem_of_getElem? (i := 104) rfl)) (hw _ (List.mem_of_getElem? (i := 103) rfl)) (hw _ (List.mem_of_getElem? (i := 2) rfl)) (hw _ (List.mem_of_getElem? (i := 105) rfl)) X_b1 (by decide) (own_add_N l Z a0 hw b1 yy bb ((0 : Int32) + 1) 1 2 1 ((List.replicate 10 .null).set 0 (.ref xx)) cO h5 n0 X_b1 F_modCount_b1 F_elementData_b1 F_size_b1 g_b1 V_bb O_bb g_bb ne_b1_bb (Ins.of_exa X_yy (hw _ (List.mem_of_getElem? (i := 129) rfl))) rfl ⟨by decide, by decide⟩ (by decide) rfl (Nat.le_of_ble_eq_true rfl)) (K' := 4) (S' := 15) (by decide) (by decide) rfl own_pd__Ljava_lang_Object__Z rfl (Nat.le_of_eq rfl) rfl rfl (by decide) (by decide) rfl at_48 rfl (fun v h6 hq => ?_)
    obtain ⟨rfl, KK, F1, F2, F3, V_bb'⟩ := hq
    refine Go.at (st' := [(.int (1 : Int32))]) rfl ?_
    have O := O.keep KK (allS (g_b1) (allS (g_bb) all0))
    have Sz := Nat.le_trans Sz KK.1
    have X_b1 := X_b1.keep KK
    have X_xx := X_xx.keep KK
    have X_yy := X_yy.keep KK
    have X_bb := X_bb.keep KK
    have F_modCount_b1 := F1
    have F_elementData_b1 := F2
    have F_size_b1 := F3
    have V_bb := V_bb'
    refine OwnW.pop C (pc' := 52) at_51 rfl rfl ?_
    refine OwnW.iloadN C (pc' := 53) at_52 rfl rfl ?_
    refine OwnW.iconst C (pc' := 54) at_53 rfl (z := 3) rfl ?_
    refine OwnW.icLt C (pcY := 65) (pcN := 57) at_54 (by decide) rfl rfl (fun hc54 => ?_) (fun hc54 => absurd (by decide) hc54)
    refine OwnW.iloadN C (pc' := 66) at_65 rfl rfl ?_
    refine OwnW.iconst C (pc' := 67) at_66 rfl (z := 4) rfl ?_
    refine OwnW.icLt C (pcY := 78) (pcN := 70) at_67 (by decide) rfl rfl (fun hc67 => ?_) (fun hc67 => absurd (by decide) hc67)
    refine OwnW.iloadN C (pc' := 79) at_78 rfl rfl ?_
    refine OwnW.iconst C (pc' := 80) at_79 rfl (z := 5) rfl ?_
    refine OwnW.icLt C (pcY := 91) (pcN := 83) at_80 (by decide) rfl rfl (fun hc80 => ?_) (fun hc80 => absurd (by decide) hc80)
    refine OwnW.iloadN C (pc' := 92) at_91 rfl rfl ?_
    refine OwnW.bipush C (pc' := 94) at_92 rfl (z := 6) rfl ?_
    refine OwnW.icLt C (pcY := 105) (pcN := 97) at_94 (by decide) rfl rfl (fun hc94 => ?_) (fun hc94 => absurd (by decide) hc94)
    refine OwnW.iloadN C (pc' := 106) at_105 rfl rfl ?_
    refine OwnW.bipush C (pc' := 108) at_106 rfl (z := 7) rfl ?_
    refine OwnW.icLt C (pcY := 119) (pcN := 111) at_108 (by decide) rfl rfl (fun hc108 => ?_) (fun hc108 => absurd (by decide) hc108)
    refine OwnW.newO C (pc' := 122) (K' := 5) (S' := 16) (hw _ (List.mem_of_getElem? (i := 33) rfl)) (hw _ (List.mem_of_getElem? (i := 34) rfl)) (hw _ (List.mem_of_getElem? (i := 35) rfl)) at_119 rfl rfl rfl (by decide) (by decide) (fun h7 b7 g7 E7 X_b7 D7 => ?_)
    have ne_b1_b7 : b1 ≠ b7 := Nat.ne_of_lt (Nat.lt_of_lt_of_eq X_b1.lt g7.symm)
    have ne_xx_b7 : xx ≠ b7 := Nat.ne_of_lt (Nat.lt_of_lt_of_eq X_xx.lt g7.symm)
    have ne_yy_b7 : yy ≠ b7 := Nat.ne_of_lt (Nat.lt_of_lt_of_eq X_yy.lt g7.symm)
    have ne_bb_b7 : bb ≠ b7 := Nat.ne_of_lt (Nat.lt_of_lt_of_eq X_bb.lt g7.symm)
    have g_b7 : n0 ≤ b7 := Nat.le_trans Sz (Nat.le_of_eq g7.symm)
    have O := O.ext E7
    have Sz := Nat.le_trans Sz E7.1
    have X_b1 := X_b1.ext E7
    have X_xx := X_xx.ext E7
    have X_yy := X_yy.ext E7
    have X_bb := X_bb.ext E7
    have F_modCount_b1 := F_modCount_b1.ext E7
    have F_elementData_b1 := F_elementData_b1.ext E7
    have F_size_b1 := F_size_b1.ext E7
    have V_bb := V_bb.ext E7
    have F_transformations_b7 : Fld Z h7 b7 "com/example/schema_facade/schemafacade/channel/Channel" "transformations" "Ljava/util/List;" .null := D7 (Or.inr (hw _ (List.mem_of_getElem? (i := 70) rfl))) (ty := (.object "java/util/List")) (by decide)
    refine OwnW.dup C (pc' := 123) at_122 rfl rfl ?_
    refine OwnW.aload C (pc' := 125) at_123 rfl rfl rfl ?_
    refine OwnW.callX C (pc' := 128) (y := (⟨"com/example/schema_facade/schemafacade/channel/Channel", "<init>", "(Ljava/util/List;)V"⟩ : MethodName)) (W := 1) (argsL := [(.ref b1)]) (rest := [(.ref b7)]) rfl (hw _ (List.mem_of_getElem? (i := 36) rfl)) (hw _ (List.mem_of_getElem? (i := 37) rfl)) (hw _ (List.mem_of_getElem? (i := 35) rfl)) (hw _ (List.mem_of_getElem? (i := 38) rfl)) (by decide) (own_chinit_2 l Z a0 hw b7 b1 bb mr xx yy (((List.replicate 10 .null).set 0 (.ref xx)).set 1 (.ref yy)) cO h7 n0 X_b7 F_transformations_b7 g_b7 Sz X_b1 F_elementData_b1 F_size_b1 X_bb V_bb M rfl (Ins.of_exa X_xx (hw _ (List.mem_of_getElem? (i := 129) rfl))) (Ins.of_exa X_yy (hw _ (List.mem_of_getElem? (i := 129) rfl)))) (K' := 7) (S' := 20) (by decide) (by decide) rfl own_pd__Ljava_util_List__V rfl (Nat.le_of_eq rfl) rfl rfl (by decide) (by decide) rfl at_125 rfl (fun v h8 hq => ?_)
    obtain ⟨rfl, KK, rr, hr, FT, X_rr', QQ⟩ := hq
    refine Go.at (st' := [(.ref b7)]) rfl ?_
    have ne_b1_rr : b1 ≠ rr := Nat.ne_of_lt (Nat.lt_of_lt_of_le X_b1.lt hr)
    have ne_bb_rr : bb ≠ rr := Nat.ne_of_lt (Nat.lt_of_lt_of_le V_bb.lt hr)
    have ne_b7_rr : b7 ≠ rr := Nat.ne_of_lt (Nat.lt_of_lt_of_le X_b7.lt hr)
    have O := O.keep KK (allS (g_b7) all0)
    have Sz := Nat.le_trans Sz KK.1
    have X_b1 := X_b1.keep KK
    have X_xx := X_xx.keep KK
    have X_yy := X_yy.keep KK
    have X_bb := X_bb.keep KK
    have F_modCount_b1 := F_modCount_b1.keep KK (ninS ne_b1_b7 nin0)
    have F_elementData_b1 := F_elementData_b1.keep KK (ninS ne_b1_b7 nin0)
    have F_size_b1 := F_size_b1.keep KK (ninS ne_b1_b7 nin0)
    have V_bb := V_bb.keep KK (ninS ne_bb_b7 nin0)
    have X_b7 := X_b7.keep KK
    have F_transformations_b7 := FT
    have X_rr := X_rr'
    have F_q := QQ
    refine OwnW.astore C (pc' := 130) at_128 rfl rfl (l' := #[.val (.int i0), .val (.int i1), .val (.int i2), .val (.int (2 : Int32)), .val (.ref b1), .val (.ref xx), .val (.ref yy), .val (.ref b7), .unset, .unset, .unset]) rfl ?_
    refine OwnW.aload C (pc' := 132) at_130 rfl rfl rfl ?_
    refine OwnW.callV C (pc' := 135) (y := (⟨"com/example/schema_facade/schemafacade/channel/Channel", "levels", "()I"⟩ : MethodName)) (z := (⟨"com/example/schema_facade/schemafacade/channel/Channel", "levels", "()I"⟩ : MethodName)) (W := 0) (argsL := []) (rest := []) (hw _ (List.mem_of_getElem? (i := 71) rfl)) (hw _ (List.mem_of_getElem? (i := 72) rfl)) (notFace_of_selects (args := #[]) (mvT C.2.1 (hw _ (List.mem_of_getElem? (i := 74) rfl)))) (hw _ (List.mem_of_getElem? (i := 74) rfl)) (hw _ (List.mem_of_getElem? (i := 73) rfl)) (hw _ (List.mem_of_getElem? (i := 35) rfl)) (hw _ (List.mem_of_getElem? (i := 75) rfl)) X_b7 (by decide) (own_levels_12 l Z a0 hw b7 rr yy em h8 n0 F_transformations_b7 X_rr F_q (S_EM.ext O.2)) (K' := 7) (S' := 20) (by decide) (by decide) rfl own_pd___I rfl (Nat.le_of_eq rfl) rfl rfl (by decide) (by decide) rfl at_132 rfl (fun v h' hq => ?_)
    obtain ⟨hv, hh⟩ := hq
    rw [show ((if yy = em then (1 : Int32) else 2) + 1) = (3 : Int32) from by rw [if_neg ne_yy_em]; rfl] at hv; subst hv
    refine Go.at (st' := [(.int (3 : Int32))]) rfl ?_
    refine Go.heap hh ?_
    refine OwnW.istore C (pc' := 137) at_135 rfl (l' := #[.val (.int i0), .val (.int i1), .val (.int i2), .val (.int (2 : Int32)), .val (.ref b1), .val (.ref xx), .val (.ref yy), .val (.ref b7), .val (.int (3 : Int32)), .unset, .unset]) rfl ?_
    refine OwnW.aload C (pc' := 139) at_137 rfl rfl rfl ?_
    refine OwnW.callV C (pc' := 142) (y := (⟨"com/example/schema_facade/schemafacade/channel/Channel", "isEmpty", "()Z"⟩ : MethodName)) (z := (⟨"com/example/schema_facade/schemafacade/channel/Channel", "isEmpty", "()Z"⟩ : MethodName)) (W := 0) (argsL := []) (rest := []) (hw _ (List.mem_of_getElem? (i := 88) rfl)) (hw _ (List.mem_of_getElem? (i := 89) rfl)) (notFace_of_selects (args := #[]) (mvT C.2.1 (hw _ (List.mem_of_getElem? (i := 91) rfl)))) (hw _ (List.mem_of_getElem? (i := 91) rfl)) (hw _ (List.mem_of_getElem? (i := 90) rfl)) (hw _ (List.mem_of_getElem? (i := 35) rfl)) (hw _ (List.mem_of_getElem? (i := 92) rfl)) X_b7 (by decide) (own_isEmpty_12 l Z a0 hw b7 rr yy em h8 n0 F_transformations_b7 X_rr F_q (S_EM.ext O.2)) (K' := 7) (S' := 20) (by decide) (by decide) rfl own_pd___Z rfl (Nat.le_of_eq rfl) rfl rfl (by decide) (by decide) rfl at_139 rfl (fun v h' hq => ?_)
    obtain ⟨hv, hh⟩ := hq
    rw [show (0 : Int32) = (0 : Int32) from rfl] at hv; subst hv
    refine Go.at (st' := [(.int (0 : Int32))]) rfl ?_
    refine Go.heap hh ?_
    refine OwnW.istore C (pc' := 144) at_142 rfl (l' := #[.val (.int i0), .val (.int i1), .val (.int i2), .val (.int (2 : Int32)), .val (.ref b1), .val (.ref xx), .val (.ref yy), .val (.ref b7), .val (.int (3 : Int32)), .val (.int (0 : Int32)), .unset]) rfl ?_
    refine OwnW.aload C (pc' := 146) at_144 rfl rfl rfl ?_
    refine OwnW.aload C (pc' := 148) at_146 rfl rfl rfl ?_
    refine OwnW.callV C (pc' := 151) (y := (⟨"java/util/ArrayList", "add", "(Ljava/lang/Object;)Z"⟩ : MethodName)) (z := (⟨"java/util/ArrayList", "add", "(Ljava/lang/Object;)Z"⟩ : MethodName)) (W := 0) (argsL := [(.ref yy)]) (rest := []) (hw _ (List.mem_of_getElem? (i := 101) rfl)) (hw _ (List.mem_of_getElem? (i := 102) rfl)) (notFace_of_selects (args := #[]) (mvT C.2.1 (hw _ (List.mem_of_getElem? (i := 104) rfl)))) (hw _ (List.mem_of_getElem? (i := 104) rfl)) (hw _ (List.mem_of_getElem? (i := 103) rfl)) (hw _ (List.mem_of_getElem? (i := 2) rfl)) (hw _ (List.mem_of_getElem? (i := 105) rfl)) X_b1 (by decide) (own_add_N l Z a0 hw b1 yy bb (((0 : Int32) + 1) + 1) 2 3 2 (((List.replicate 10 .null).set 0 (.ref xx)).set 1 (.ref yy)) cO h8 n0 X_b1 F_modCount_b1 F_elementData_b1 F_size_b1 g_b1 V_bb O_bb g_bb ne_b1_bb (Ins.of_exa X_yy (hw _ (List.mem_of_getElem? (i := 129) rfl))) rfl ⟨by decide, by decide⟩ (by decide) rfl (Nat.le_of_ble_eq_true rfl)) (K' := 7) (S' := 20) (by decide) (by decide) rfl own_pd__Ljava_lang_Object__Z rfl (Nat.le_of_eq rfl) rfl rfl (by decide) (by decide) rfl at_148 rfl (fun v h9 hq => ?_)
    obtain ⟨rfl, KK, F1, F2, F3, V_bb'⟩ := hq
    refine Go.at (st' := [(.int (1 : Int32))]) rfl ?_
    have O := O.keep KK (allS (g_b1) (allS (g_bb) all0))
    have Sz := Nat.le_trans Sz KK.1
    have X_b1 := X_b1.keep KK
    have X_xx := X_xx.keep KK
    have X_yy := X_yy.keep KK
    have X_bb := X_bb.keep KK
    have X_b7 := X_b7.keep KK
    have F_transformations_b7 := F_transformations_b7.keep KK (ninS (Ne.symm ne_b1_b7) (ninS (Ne.symm ne_bb_b7) nin0))
    have X_rr := X_rr.keep KK
    have F_q := F_q.keep KK (ninS (Ne.symm ne_b1_rr) (ninS (Ne.symm ne_bb_rr) nin0))
    have F_modCount_b1 := F1
    have F_elementData_b1 := F2
    have F_size_b1 := F3
    have V_bb := V_bb'
    refine OwnW.pop C (pc' := 152) at_151 rfl rfl ?_
    refine OwnW.aload C (pc' := 154) at_152 rfl rfl rfl ?_
    refine OwnW.callV C (pc' := 157) (y := (⟨"com/example/schema_facade/schemafacade/channel/Channel", "levels", "()I"⟩ : MethodName)) (z := (⟨"com/example/schema_facade/schemafacade/channel/Channel", "levels", "()I"⟩ : MethodName)) (W := 0) (argsL := []) (rest := []) (hw _ (List.mem_of_getElem? (i := 71) rfl)) (hw _ (List.mem_of_getElem? (i := 72) rfl)) (notFace_of_selects (args := #[]) (mvT C.2.1 (hw _ (List.mem_of_getElem? (i := 74) rfl)))) (hw _ (List.mem_of_getElem? (i := 74) rfl)) (hw _ (List.mem_of_getElem? (i := 73) rfl)) (hw _ (List.mem_of_getElem? (i := 35) rfl)) (hw _ (List.mem_of_getElem? (i := 75) rfl)) X_b7 (by decide) (own_levels_12 l Z a0 hw b7 rr yy em h9 n0 F_transformations_b7 X_rr F_q (S_EM.ext O.2)) (K' := 7) (S' := 20) (by decide) (by decide) rfl own_pd___I rfl (Nat.le_of_eq rfl) rfl rfl (by decide) (by decide) rfl at_154 rfl (fun v h' hq => ?_)
    obtain ⟨hv, hh⟩ := hq
    rw [show ((if yy = em then (1 : Int32) else 2) + 1) = (3 : Int32) from by rw [if_neg ne_yy_em]; rfl] at hv; subst hv
    refine Go.at (st' := [(.int (3 : Int32))]) rfl ?_
    refine Go.heap hh ?_
    refine OwnW.istore C (pc' := 159) at_157 rfl (l' := #[.val (.int i0), .val (.int i1), .val (.int i2), .val (.int (2 : Int32)), .val (.ref b1), .val (.ref xx), .val (.ref yy), .val (.ref b7), .val (.int (3 : Int32)), .val (.int (0 : Int32)), .val (.int (3 : Int32))]) rfl ?_
    refine OwnW.iload C (pc' := 161) at_159 rfl rfl ?_
    refine OwnW.iloadN C (pc' := 162) at_161 rfl rfl ?_
    refine OwnW.iconst C (pc' := 163) at_162 rfl (z := 1) rfl ?_
    refine OwnW.iadd C (pc' := 164) at_163 rfl ?_
    rw [show (2 : Int32) + 1 = 3 from rfl]
    refine OwnW.icNe C (pcY := 193) (pcN := 167) at_164 (by decide) rfl rfl (fun hc164 => absurd rfl hc164) (fun hc164 => ?_)
    refine OwnW.iload C (pc' := 169) at_167 rfl rfl ?_
    refine OwnW.iloadN C (pc' := 170) at_169 rfl rfl ?_
    refine OwnW.ifNe C (pcY := 177) (pcN := 173) at_170 (by decide) rfl rfl (fun hc170 => ?_) (fun hc170 => absurd hc170 (by decide))
    refine OwnW.iconst C (pc' := 178) at_177 rfl (z := 0) rfl ?_
    refine OwnW.icNe C (pcY := 193) (pcN := 181) at_178 (by decide) rfl rfl (fun hc178 => absurd rfl hc178) (fun hc178 => ?_)
    refine OwnW.iload C (pc' := 183) at_181 rfl rfl ?_
    refine OwnW.iloadN C (pc' := 184) at_183 rfl rfl ?_
    refine OwnW.iconst C (pc' := 185) at_184 rfl (z := 1) rfl ?_
    refine OwnW.iadd C (pc' := 186) at_185 rfl ?_
    rw [show (2 : Int32) + 1 = 3 from rfl]
    refine OwnW.icNe C (pcY := 193) (pcN := 189) at_186 (by decide) rfl rfl (fun hc186 => absurd rfl hc186) (fun hc186 => ?_)
    refine OwnW.iconst C (pc' := 190) at_189 rfl (z := 1) rfl ?_
    refine OwnW.goto C (pc' := 194) at_190 (by decide) rfl ?_
    exact OwnW.retN C (t := .boolean) (z := (1 : Int32)) rfl (by simp) rfl rfl (by decide) (by decide) at_194
  · rw [hk]
    refine OwnW.iloadN C (pc' := 27) at_26 rfl rfl ?_
    refine OwnW.iconst C (pc' := 28) at_27 rfl (z := 1) rfl ?_
    refine OwnW.icLt C (pcY := 39) (pcN := 31) at_28 (by decide) rfl rfl (fun hc28 => absurd hc28 (by decide)) (fun hc28 => ?_)
    refine OwnW.aload C (pc' := 33) at_31 rfl rfl rfl ?_
    refine OwnW.aload C (pc' := 35) at_33 rfl rfl rfl ?_
    have ne_d : d1 ≠ b1 := O.ne X_d1.lt g_b1
    refine OwnW.callV C (pc' := 38) (y := (⟨"java/util/ArrayList", "add", "(Ljava/lang/Object;)Z"⟩ : MethodName)) (z := (⟨"java/util/ArrayList", "add", "(Ljava/lang/Object;)Z"⟩ : MethodName)) (W := 0) (argsL := [(.ref xx)]) (rest := []) (hw _ (List.mem_of_getElem? (i := 101) rfl)) (hw _ (List.mem_of_getElem? (i := 102) rfl)) (notFace_of_selects (args := #[]) (mvT C.2.1 (hw _ (List.mem_of_getElem? (i := 104) rfl)))) (hw _ (List.mem_of_getElem? (i := 104) rfl)) (hw _ (List.mem_of_getElem? (i := 103) rfl)) (hw _ (List.mem_of_getElem? (i := 2) rfl)) (hw _ (List.mem_of_getElem? (i := 105) rfl)) X_b1 (by decide) (own_add_0 l Z a0 hw b1 xx d1 (0 : Int32) cD h4 n0 Sz X_b1 F_modCount_b1 F_elementData_b1 F_size_b1 g_b1 (V_d1.ext O.2) (S_D.ext O.2) (Ins.of_exa X_xx (hw _ (List.mem_of_getElem? (i := 129) rfl))) ne_d) (K' := 4) (S' := 15) (by decide) (by decide) rfl own_pd__Ljava_lang_Object__Z rfl (Nat.le_of_eq rfl) rfl rfl (by decide) (by decide) rfl at_35 rfl (fun v h5 hq => ?_)
    obtain ⟨rfl, KK, bb, cO, hb, F1, F2, F3, V_bb', X_bb', O_bb⟩ := hq
    refine Go.at (st' := [(.int (1 : Int32))]) rfl ?_
    have ne_b1_bb : b1 ≠ bb := Nat.ne_of_lt (Nat.lt_of_lt_of_le X_b1.lt hb)
    have ne_xx_bb : xx ≠ bb := Nat.ne_of_lt (Nat.lt_of_lt_of_le X_xx.lt hb)
    have ne_yy_bb : yy ≠ bb := Nat.ne_of_lt (Nat.lt_of_lt_of_le X_yy.lt hb)
    have g_bb : n0 ≤ bb := Nat.le_trans Sz hb
    have O := O.keep KK (allS (g_b1) all0)
    have Sz := Nat.le_trans Sz KK.1
    have X_b1 := X_b1.keep KK
    have X_xx := X_xx.keep KK
    have X_yy := X_yy.keep KK
    have X_bb := X_bb'
    have F_modCount_b1 := F1
    have F_elementData_b1 := F2
    have F_size_b1 := F3
    have V_bb := V_bb'
    refine OwnW.pop C (pc' := 39) at_38 rfl rfl ?_
    refine OwnW.iloadN C (pc' := 40) at_39 rfl rfl ?_
    refine OwnW.iconst C (pc' := 41) at_40 rfl (z := 2) rfl ?_
    refine OwnW.icLt C (pcY := 52) (pcN := 44) at_41 (by decide) rfl rfl (fun hc41 => absurd hc41 (by decide)) (fun hc41 => ?_)
    refine OwnW.aload C (pc' := 46) at_44 rfl rfl rfl ?_
    refine OwnW.aload C (pc' := 48) at_46 rfl rfl rfl ?_
    refine OwnW.callV C (pc' := 51) (y := (⟨"java/util/ArrayList", "add", "(Ljava/lang/Object;)Z"⟩ : MethodName)) (z := (⟨"java/util/ArrayList", "add", "(Ljava/lang/Object;)Z"⟩ : MethodName)) (W := 0) (argsL := [(.ref yy)]) (rest := []) (hw _ (List.mem_of_getElem? (i := 101) rfl)) (hw _ (List.mem_of_getElem? (i := 102) rfl)) (notFace_of_selects (args := #[]) (mvT C.2.1 (hw _ (List.mem_of_getElem? (i := 104) rfl)))) (hw _ (List.mem_of_getElem? (i := 104) rfl)) (hw _ (List.mem_of_getElem? (i := 103) rfl)) (hw _ (List.mem_of_getElem? (i := 2) rfl)) (hw _ (List.mem_of_getElem? (i := 105) rfl)) X_b1 (by decide) (own_add_N l Z a0 hw b1 yy bb ((0 : Int32) + 1) 1 2 1 ((List.replicate 10 .null).set 0 (.ref xx)) cO h5 n0 X_b1 F_modCount_b1 F_elementData_b1 F_size_b1 g_b1 V_bb O_bb g_bb ne_b1_bb (Ins.of_exa X_yy (hw _ (List.mem_of_getElem? (i := 129) rfl))) rfl ⟨by decide, by decide⟩ (by decide) rfl (Nat.le_of_ble_eq_true rfl)) (K' := 4) (S' := 15) (by decide) (by decide) rfl own_pd__Ljava_lang_Object__Z rfl (Nat.le_of_eq rfl) rfl rfl (by decide) (by decide) rfl at_48 rfl (fun v h6 hq => ?_)
    obtain ⟨rfl, KK, F1, F2, F3, V_bb'⟩ := hq
    refine Go.at (st' := [(.int (1 : Int32))]) rfl ?_
    have O := O.keep KK (allS (g_b1) (allS (g_bb) all0))
    have Sz := Nat.le_trans Sz KK.1
    have X_b1 := X_b1.keep KK
    have X_xx := X_xx.keep KK
    have X_yy := X_yy.keep KK
    have X_bb := X_bb.keep KK
    have F_modCount_b1 := F1
    have F_elementData_b1 := F2
    have F_size_b1 := F3
    have V_bb := V_bb'
    refine OwnW.pop C (pc' := 52) at_51 rfl rfl ?_
    refine OwnW.iloadN C (pc' := 53) at_52 rfl rfl ?_
    refine OwnW.iconst C (pc' := 54) at_53 rfl (z := 3) rfl ?_
    refine OwnW.icLt C (pcY := 65) (pcN := 57) at_54 (by decide) rfl rfl (fun hc54 => absurd hc54 (by decide)) (fun hc54 => ?_)
    refine OwnW.aload C (pc' := 59) at_57 rfl rfl rfl ?_
    refine OwnW.aload C (pc' := 61) at_59 rfl rfl rfl ?_
    refine OwnW.callV C (pc' := 64) (y := (⟨"java/util/ArrayList", "add", "(Ljava/lang/Object;)Z"⟩ : MethodName)) (z := (⟨"java/util/ArrayList", "add", "(Ljava/lang/Object;)Z"⟩ : MethodName)) (W := 0) (argsL := [(.ref xx)]) (rest := []) (hw _ (List.mem_of_getElem? (i := 101) rfl)) (hw _ (List.mem_of_getElem? (i := 102) rfl)) (notFace_of_selects (args := #[]) (mvT C.2.1 (hw _ (List.mem_of_getElem? (i := 104) rfl)))) (hw _ (List.mem_of_getElem? (i := 104) rfl)) (hw _ (List.mem_of_getElem? (i := 103) rfl)) (hw _ (List.mem_of_getElem? (i := 2) rfl)) (hw _ (List.mem_of_getElem? (i := 105) rfl)) X_b1 (by decide) (own_add_N l Z a0 hw b1 xx bb (((0 : Int32) + 1) + 1) 2 3 2 (((List.replicate 10 .null).set 0 (.ref xx)).set 1 (.ref yy)) cO h6 n0 X_b1 F_modCount_b1 F_elementData_b1 F_size_b1 g_b1 V_bb O_bb g_bb ne_b1_bb (Ins.of_exa X_xx (hw _ (List.mem_of_getElem? (i := 129) rfl))) rfl ⟨by decide, by decide⟩ (by decide) rfl (Nat.le_of_ble_eq_true rfl)) (K' := 4) (S' := 15) (by decide) (by decide) rfl own_pd__Ljava_lang_Object__Z rfl (Nat.le_of_eq rfl) rfl rfl (by decide) (by decide) rfl at_61 rfl (fun v h7 hq => ?_)
    obtain ⟨rfl, KK, F1, F2, F3, V_bb'⟩ := hq
    refine Go.at (st' := [(.int (1 : Int32))]) rfl ?_
    have O := O.keep KK (allS (g_b1) (allS (g_bb) all0))
    have Sz := Nat.le_trans Sz KK.1
    have X_b1 := X_b1.keep KK
    have X_xx := X_xx.keep KK
    have X_yy := X_yy.keep KK
    have X_bb := X_bb.keep KK
    have F_modCount_b1 := F1
    have F_elementData_b1 := F2
    have F_size_b1 := F3
    have V_bb := V_bb'
    refine OwnW.pop C (pc' := 65) at_64 rfl rfl ?_
    refine OwnW.iloadN C (pc' := 66) at_65 rfl rfl ?_
    refine OwnW.iconst C (pc' := 67) at_66 rfl (z := 4) rfl ?_
    refine OwnW.icLt C (pcY := 78) (pcN := 70) at_67 (by decide) rfl rfl (fun hc67 => ?_) (fun hc67 => absurd (by decide) hc67)
    refine OwnW.iloadN C (pc' := 79) at_78 rfl rfl ?_
    refine OwnW.iconst C (pc' := 80) at_79 rfl (z := 5) rfl ?_
    refine OwnW.icLt C (pcY := 91) (pcN := 83) at_80 (by decide) rfl rfl (fun hc80 => ?_) (fun hc80 => absurd (by decide) hc80)
    refine OwnW.iloadN C (pc' := 92) at_91 rfl rfl ?_
    refine OwnW.bipush C (pc' := 94) at_92 rfl (z := 6) rfl ?_
    refine OwnW.icLt C (pcY := 105) (pcN := 97) at_94 (by decide) rfl rfl (fun hc94 => ?_) (fun hc94 => absurd (by decide) hc94)
    refine OwnW.iloadN C (pc' := 106) at_105 rfl rfl ?_
    refine OwnW.bipush C (pc' := 108) at_106 rfl (z := 7) rfl ?_
    refine OwnW.icLt C (pcY := 119) (pcN := 111) at_108 (by decide) rfl rfl (fun hc108 => ?_) (fun hc108 => absurd (by decide) hc108)
    refine OwnW.newO C (pc' := 122) (K' := 5) (S' := 16) (hw _ (List.mem_of_getElem? (i := 33) rfl)) (hw _ (List.mem_of_getElem? (i := 34) rfl)) (hw _ (List.mem_of_getElem? (i := 35) rfl)) at_119 rfl rfl rfl (by decide) (by decide) (fun h8 b8 g8 E8 X_b8 D8 => ?_)
    have ne_b1_b8 : b1 ≠ b8 := Nat.ne_of_lt (Nat.lt_of_lt_of_eq X_b1.lt g8.symm)
    have ne_xx_b8 : xx ≠ b8 := Nat.ne_of_lt (Nat.lt_of_lt_of_eq X_xx.lt g8.symm)
    have ne_yy_b8 : yy ≠ b8 := Nat.ne_of_lt (Nat.lt_of_lt_of_eq X_yy.lt g8.symm)
    have ne_bb_b8 : bb ≠ b8 := Nat.ne_of_lt (Nat.lt_of_lt_of_eq X_bb.lt g8.symm)
    have g_b8 : n0 ≤ b8 := Nat.le_trans Sz (Nat.le_of_eq g8.symm)
    have O := O.ext E8
    have Sz := Nat.le_trans Sz E8.1
    have X_b1 := X_b1.ext E8
    have X_xx := X_xx.ext E8
    have X_yy := X_yy.ext E8
    have X_bb := X_bb.ext E8
    have F_modCount_b1 := F_modCount_b1.ext E8
    have F_elementData_b1 := F_elementData_b1.ext E8
    have F_size_b1 := F_size_b1.ext E8
    have V_bb := V_bb.ext E8
    have F_transformations_b8 : Fld Z h8 b8 "com/example/schema_facade/schemafacade/channel/Channel" "transformations" "Ljava/util/List;" .null := D8 (Or.inr (hw _ (List.mem_of_getElem? (i := 70) rfl))) (ty := (.object "java/util/List")) (by decide)
    refine OwnW.dup C (pc' := 123) at_122 rfl rfl ?_
    refine OwnW.aload C (pc' := 125) at_123 rfl rfl rfl ?_
    refine OwnW.callX C (pc' := 128) (y := (⟨"com/example/schema_facade/schemafacade/channel/Channel", "<init>", "(Ljava/util/List;)V"⟩ : MethodName)) (W := 1) (argsL := [(.ref b1)]) (rest := [(.ref b8)]) rfl (hw _ (List.mem_of_getElem? (i := 36) rfl)) (hw _ (List.mem_of_getElem? (i := 37) rfl)) (hw _ (List.mem_of_getElem? (i := 35) rfl)) (hw _ (List.mem_of_getElem? (i := 38) rfl)) (by decide) (own_chinit_3 l Z a0 hw b8 b1 bb mr xx yy ((((List.replicate 10 .null).set 0 (.ref xx)).set 1 (.ref yy)).set 2 (.ref xx)) cO h8 n0 X_b8 F_transformations_b8 g_b8 Sz X_b1 F_elementData_b1 F_size_b1 X_bb V_bb M rfl (Ins.of_exa X_xx (hw _ (List.mem_of_getElem? (i := 129) rfl))) (Ins.of_exa X_yy (hw _ (List.mem_of_getElem? (i := 129) rfl)))) (K' := 8) (S' := 24) (by decide) (by decide) rfl own_pd__Ljava_util_List__V rfl (Nat.le_of_eq rfl) rfl rfl (by decide) (by decide) rfl at_125 rfl (fun v h9 hq => ?_)
    obtain ⟨rfl, KK, rr, ar, cR, hr, FT, X_rr', QQ, VE⟩ := hq
    refine Go.at (st' := [(.ref b8)]) rfl ?_
    have ne_b1_rr : b1 ≠ rr := Nat.ne_of_lt (Nat.lt_of_lt_of_le X_b1.lt hr)
    have ne_bb_rr : bb ≠ rr := Nat.ne_of_lt (Nat.lt_of_lt_of_le V_bb.lt hr)
    have ne_b8_rr : b8 ≠ rr := Nat.ne_of_lt (Nat.lt_of_lt_of_le X_b8.lt hr)
    have O := O.keep KK (allS (g_b8) all0)
    have Sz := Nat.le_trans Sz KK.1
    have X_b1 := X_b1.keep KK
    have X_xx := X_xx.keep KK
    have X_yy := X_yy.keep KK
    have X_bb := X_bb.keep KK
    have F_modCount_b1 := F_modCount_b1.keep KK (ninS ne_b1_b8 nin0)
    have F_elementData_b1 := F_elementData_b1.keep KK (ninS ne_b1_b8 nin0)
    have F_size_b1 := F_size_b1.keep KK (ninS ne_b1_b8 nin0)
    have V_bb := V_bb.keep KK (ninS ne_bb_b8 nin0)
    have X_b8 := X_b8.keep KK
    have F_transformations_b8 := FT
    have X_rr := X_rr'
    have F_q := QQ
    have V_ar := VE
    have ne_b1_ar : b1 ≠ ar := own_exa_arv X_b1 V_ar (hw _ (List.mem_of_getElem? (i := 1) rfl))
    have ne_bb_ar : bb ≠ ar := own_arv_ne V_bb V_ar (by decide)
    refine OwnW.astore C (pc' := 130) at_128 rfl rfl (l' := #[.val (.int i0), .val (.int i1), .val (.int i2), .val (.int (3 : Int32)), .val (.ref b1), .val (.ref xx), .val (.ref yy), .val (.ref b8), .unset, .unset, .unset]) rfl ?_
    refine OwnW.aload C (pc' := 132) at_130 rfl rfl rfl ?_
    refine OwnW.callV C (pc' := 135) (y := (⟨"com/example/schema_facade/schemafacade/channel/Channel", "levels", "()I"⟩ : MethodName)) (z := (⟨"com/example/schema_facade/schemafacade/channel/Channel", "levels", "()I"⟩ : MethodName)) (W := 0) (argsL := []) (rest := []) (hw _ (List.mem_of_getElem? (i := 71) rfl)) (hw _ (List.mem_of_getElem? (i := 72) rfl)) (notFace_of_selects (args := #[]) (mvT C.2.1 (hw _ (List.mem_of_getElem? (i := 74) rfl)))) (hw _ (List.mem_of_getElem? (i := 74) rfl)) (hw _ (List.mem_of_getElem? (i := 73) rfl)) (hw _ (List.mem_of_getElem? (i := 35) rfl)) (hw _ (List.mem_of_getElem? (i := 75) rfl)) X_b8 (by decide) (own_levels_N l Z a0 hw b8 rr ar 3 _ cR h9 n0 F_transformations_b8 X_rr F_q V_ar) (K' := 8) (S' := 24) (by decide) (by decide) rfl own_pd___I rfl (Nat.le_of_eq rfl) rfl rfl (by decide) (by decide) rfl at_132 rfl (fun v h' hq => ?_)
    obtain ⟨hv, hh⟩ := hq
    rw [show ((3 : Int32) + 1) = (4 : Int32) from rfl] at hv; subst hv
    refine Go.at (st' := [(.int (4 : Int32))]) rfl ?_
    refine Go.heap hh ?_
    refine OwnW.istore C (pc' := 137) at_135 rfl (l' := #[.val (.int i0), .val (.int i1), .val (.int i2), .val (.int (3 : Int32)), .val (.ref b1), .val (.ref xx), .val (.ref yy), .val (.ref b8), .val (.int (4 : Int32)), .unset, .unset]) rfl ?_
    refine OwnW.aload C (pc' := 139) at_137 rfl rfl rfl ?_
    refine OwnW.callV C (pc' := 142) (y := (⟨"com/example/schema_facade/schemafacade/channel/Channel", "isEmpty", "()Z"⟩ : MethodName)) (z := (⟨"com/example/schema_facade/schemafacade/channel/Channel", "isEmpty", "()Z"⟩ : MethodName)) (W := 0) (argsL := []) (rest := []) (hw _ (List.mem_of_getElem? (i := 88) rfl)) (hw _ (List.mem_of_getElem? (i := 89) rfl)) (notFace_of_selects (args := #[]) (mvT C.2.1 (hw _ (List.mem_of_getElem? (i := 91) rfl)))) (hw _ (List.mem_of_getElem? (i := 91) rfl)) (hw _ (List.mem_of_getElem? (i := 90) rfl)) (hw _ (List.mem_of_getElem? (i := 35) rfl)) (hw _ (List.mem_of_getElem? (i := 92) rfl)) X_b8 (by decide) (own_isEmpty_N l Z a0 hw b8 rr ar 3 _ cR h9 n0 F_transformations_b8 X_rr F_q V_ar) (K' := 8) (S' := 24) (by decide) (by decide) rfl own_pd___Z rfl (Nat.le_of_eq rfl) rfl rfl (by decide) (by decide) rfl at_139 rfl (fun v h' hq => ?_)
    obtain ⟨hv, hh⟩ := hq
    rw [show (if (3 : Int32) = 0 then (1 : Int32) else 0) = (0 : Int32) from rfl] at hv; subst hv
    refine Go.at (st' := [(.int (0 : Int32))]) rfl ?_
    refine Go.heap hh ?_
    refine OwnW.istore C (pc' := 144) at_142 rfl (l' := #[.val (.int i0), .val (.int i1), .val (.int i2), .val (.int (3 : Int32)), .val (.ref b1), .val (.ref xx), .val (.ref yy), .val (.ref b8), .val (.int (4 : Int32)), .val (.int (0 : Int32)), .unset]) rfl ?_
    refine OwnW.aload C (pc' := 146) at_144 rfl rfl rfl ?_
    refine OwnW.aload C (pc' := 148) at_146 rfl rfl rfl ?_
    refine OwnW.callV C (pc' := 151) (y := (⟨"java/util/ArrayList", "add", "(Ljava/lang/Object;)Z"⟩ : MethodName)) (z := (⟨"java/util/ArrayList", "add", "(Ljava/lang/Object;)Z"⟩ : MethodName)) (W := 0) (argsL := [(.ref yy)]) (rest := []) (hw _ (List.mem_of_getElem? (i := 101) rfl)) (hw _ (List.mem_of_getElem? (i := 102) rfl)) (notFace_of_selects (args := #[]) (mvT C.2.1 (hw _ (List.mem_of_getElem? (i := 104) rfl)))) (hw _ (List.mem_of_getElem? (i := 104) rfl)) (hw _ (List.mem_of_getElem? (i := 103) rfl)) (hw _ (List.mem_of_getElem? (i := 2) rfl)) (hw _ (List.mem_of_getElem? (i := 105) rfl)) X_b1 (by decide) (own_add_N l Z a0 hw b1 yy bb ((((0 : Int32) + 1) + 1) + 1) 3 4 3 ((((List.replicate 10 .null).set 0 (.ref xx)).set 1 (.ref yy)).set 2 (.ref xx)) cO h9 n0 X_b1 F_modCount_b1 F_elementData_b1 F_size_b1 g_b1 V_bb O_bb g_bb ne_b1_bb (Ins.of_exa X_yy (hw _ (List.mem_of_getElem? (i := 129) rfl))) rfl ⟨by decide, by decide⟩ (by decide) rfl (Nat.le_of_ble_eq_true rfl)) (K' := 8) (S' := 24) (by decide) (by decide) rfl own_pd__Ljava_lang_Object__Z rfl (Nat.le_of_eq rfl) rfl rfl (by decide) (by decide) rfl at_148 rfl (fun v h10 hq => ?_)
    obtain ⟨rfl, KK, F1, F2, F3, V_bb'⟩ := hq
    refine Go.at (st' := [(.int (1 : Int32))]) rfl ?_
    have O := O.keep KK (allS (g_b1) (allS (g_bb) all0))
    have Sz := Nat.le_trans Sz KK.1
    have X_b1 := X_b1.keep KK
    have X_xx := X_xx.keep KK
    have X_yy := X_yy.keep KK
    have X_bb := X_bb.keep KK
    have X_b8 := X_b8.keep KK
    have F_transformations_b8 := F_transformations_b8.keep KK (ninS (Ne.symm ne_b1_b8) (ninS (Ne.symm ne_bb_b8) nin0))
    have X_rr := X_rr.keep KK
    have F_q := F_q.keep KK (ninS (Ne.symm ne_b1_rr) (ninS (Ne.symm ne_bb_rr) nin0))
    have V_ar := V_ar.keep KK (ninS (Ne.symm ne_b1_ar) (ninS (Ne.symm ne_bb_ar) nin0))
    have F_modCount_b1 := F1
    have F_elementData_b1 := F2
    have F_size_b1 := F3
    have V_bb := V_bb'
    refine OwnW.pop C (pc' := 152) at_151 rfl rfl ?_
    refine OwnW.aload C (pc' := 154) at_152 rfl rfl rfl ?_
    refine OwnW.callV C (pc' := 157) (y := (⟨"com/example/schema_facade/schemafacade/channel/Channel", "levels", "()I"⟩ : MethodName)) (z := (⟨"com/example/schema_facade/schemafacade/channel/Channel", "levels", "()I"⟩ : MethodName)) (W := 0) (argsL := []) (rest := []) (hw _ (List.mem_of_getElem? (i := 71) rfl)) (hw _ (List.mem_of_getElem? (i := 72) rfl)) (notFace_of_selects (args := #[]) (mvT C.2.1 (hw _ (List.mem_of_getElem? (i := 74) rfl)))) (hw _ (List.mem_of_getElem? (i := 74) rfl)) (hw _ (List.mem_of_getElem? (i := 73) rfl)) (hw _ (List.mem_of_getElem? (i := 35) rfl)) (hw _ (List.mem_of_getElem? (i := 75) rfl)) X_b8 (by decide) (own_levels_N l Z a0 hw b8 rr ar 3 _ cR h10 n0 F_transformations_b8 X_rr F_q V_ar) (K' := 8) (S' := 24) (by decide) (by decide) rfl own_pd___I rfl (Nat.le_of_eq rfl) rfl rfl (by decide) (by decide) rfl at_154 rfl (fun v h' hq => ?_)
    obtain ⟨hv, hh⟩ := hq
    rw [show ((3 : Int32) + 1) = (4 : Int32) from rfl] at hv; subst hv
    refine Go.at (st' := [(.int (4 : Int32))]) rfl ?_
    refine Go.heap hh ?_
    refine OwnW.istore C (pc' := 159) at_157 rfl (l' := #[.val (.int i0), .val (.int i1), .val (.int i2), .val (.int (3 : Int32)), .val (.ref b1), .val (.ref xx), .val (.ref yy), .val (.ref b8), .val (.int (4 : Int32)), .val (.int (0 : Int32)), .val (.int (4 : Int32))]) rfl ?_
    refine OwnW.iload C (pc' := 161) at_159 rfl rfl ?_
    refine OwnW.iloadN C (pc' := 162) at_161 rfl rfl ?_
    refine OwnW.iconst C (pc' := 163) at_162 rfl (z := 1) rfl ?_
    refine OwnW.iadd C (pc' := 164) at_163 rfl ?_
    rw [show (3 : Int32) + 1 = 4 from rfl]
    refine OwnW.icNe C (pcY := 193) (pcN := 167) at_164 (by decide) rfl rfl (fun hc164 => absurd rfl hc164) (fun hc164 => ?_)
    refine OwnW.iload C (pc' := 169) at_167 rfl rfl ?_
    refine OwnW.iloadN C (pc' := 170) at_169 rfl rfl ?_
    refine OwnW.ifNe C (pcY := 177) (pcN := 173) at_170 (by decide) rfl rfl (fun hc170 => ?_) (fun hc170 => absurd hc170 (by decide))
    refine OwnW.iconst C (pc' := 178) at_177 rfl (z := 0) rfl ?_
    refine OwnW.icNe C (pcY := 193) (pcN := 181) at_178 (by decide) rfl rfl (fun hc178 => absurd rfl hc178) (fun hc178 => ?_)
    refine OwnW.iload C (pc' := 183) at_181 rfl rfl ?_
    refine OwnW.iloadN C (pc' := 184) at_183 rfl rfl ?_
    refine OwnW.iconst C (pc' := 185) at_184 rfl (z := 1) rfl ?_
    refine OwnW.iadd C (pc' := 186) at_185 rfl ?_
    rw [show (3 : Int32) + 1 = 4 from rfl]
    refine OwnW.icNe C (pcY := 193) (pcN := 189) at_186 (by decide) rfl rfl (fun hc186 => absurd rfl hc186) (fun hc186 => ?_)
    refine OwnW.iconst C (pc' := 190) at_189 rfl (z := 1) rfl ?_
    refine OwnW.goto C (pc' := 194) at_190 (by decide) rfl ?_
    exact OwnW.retN C (t := .boolean) (z := (1 : Int32)) rfl (by simp) rfl rfl (by decide) (by decide) at_194
  · rw [hk]
    refine OwnW.iloadN C (pc' := 27) at_26 rfl rfl ?_
    refine OwnW.iconst C (pc' := 28) at_27 rfl (z := 1) rfl ?_
    refine OwnW.icLt C (pcY := 39) (pcN := 31) at_28 (by decide) rfl rfl (fun hc28 => absurd hc28 (by decide)) (fun hc28 => ?_)
    refine OwnW.aload C (pc' := 33) at_31 rfl rfl rfl ?_
    refine OwnW.aload C (pc' := 35) at_33 rfl rfl rfl ?_
    have ne_d : d1 ≠ b1 := O.ne X_d1.lt g_b1
    refine OwnW.callV C (pc' := 38) (y := (⟨"java/util/ArrayList", "add", "(Ljava/lang/Object;)Z"⟩ : MethodName)) (z := (⟨"java/util/ArrayList", "add", "(Ljava/lang/Object;)Z"⟩ : MethodName)) (W := 0) (argsL := [(.ref xx)]) (rest := []) (hw _ (List.mem_of_getElem? (i := 101) rfl)) (hw _ (List.mem_of_getElem? (i := 102) rfl)) (notFace_of_selects (args := #[]) (mvT C.2.1 (hw _ (List.mem_of_getElem? (i := 104) rfl)))) (hw _ (List.mem_of_getElem? (i := 104) rfl)) (hw _ (List.mem_of_getElem? (i := 103) rfl)) (hw _ (List.mem_of_getElem? (i := 2) rfl)) (hw _ (List.mem_of_getElem? (i := 105) rfl)) X_b1 (by decide) (own_add_0 l Z a0 hw b1 xx d1 (0 : Int32) cD h4 n0 Sz X_b1 F_modCount_b1 F_elementData_b1 F_size_b1 g_b1 (V_d1.ext O.2) (S_D.ext O.2) (Ins.of_exa X_xx (hw _ (List.mem_of_getElem? (i := 129) rfl))) ne_d) (K' := 4) (S' := 15) (by decide) (by decide) rfl own_pd__Ljava_lang_Object__Z rfl (Nat.le_of_eq rfl) rfl rfl (by decide) (by decide) rfl at_35 rfl (fun v h5 hq => ?_)
    obtain ⟨rfl, KK, bb, cO, hb, F1, F2, F3, V_bb', X_bb', O_bb⟩ := hq
    refine Go.at (st' := [(.int (1 : Int32))]) rfl ?_
    have ne_b1_bb : b1 ≠ bb := Nat.ne_of_lt (Nat.lt_of_lt_of_le X_b1.lt hb)
    have ne_xx_bb : xx ≠ bb := Nat.ne_of_lt (Nat.lt_of_lt_of_le X_xx.lt hb)
    have ne_yy_bb : yy ≠ bb := Nat.ne_of_lt (Nat.lt_of_lt_of_le X_yy.lt hb)
    have g_bb : n0 ≤ bb := Nat.le_trans Sz hb
    have O := O.keep KK (allS (g_b1) all0)
    have Sz := Nat.le_trans Sz KK.1
    have X_b1 := X_b1.keep KK
    have X_xx := X_xx.keep KK
    have X_yy := X_yy.keep KK
    have X_bb := X_bb'
    have F_modCount_b1 := F1
    have F_elementData_b1 := F2
    have F_size_b1 := F3
    have V_bb := V_bb'
    refine OwnW.pop C (pc' := 39) at_38 rfl rfl ?_
    refine OwnW.iloadN C (pc' := 40) at_39 rfl rfl ?_
    refine OwnW.iconst C (pc' := 41) at_40 rfl (z := 2) rfl ?_
    refine OwnW.icLt C (pcY := 52) (pcN := 44) at_41 (by decide) rfl rfl (fun hc41 => absurd hc41 (by decide)) (fun hc41 => ?_)
    refine OwnW.aload C (pc' := 46) at_44 rfl rfl rfl ?_
    refine OwnW.aload C (pc' := 48) at_46 rfl rfl rfl ?_
    refine OwnW.callV C (pc' := 51) (y := (⟨"java/util/ArrayList", "add", "(Ljava/lang/Object;)Z"⟩ : MethodName)) (z := (⟨"java/util/ArrayList", "add", "(Ljava/lang/Object;)Z"⟩ : MethodName)) (W := 0) (argsL := [(.ref yy)]) (rest := []) (hw _ (List.mem_of_getElem? (i := 101) rfl)) (hw _ (List.mem_of_getElem? (i := 102) rfl)) (notFace_of_selects (args := #[]) (mvT C.2.1 (hw _ (List.mem_of_getElem? (i := 104) rfl)))) (hw _ (List.mem_of_getElem? (i := 104) rfl)) (hw _ (List.mem_of_getElem? (i := 103) rfl)) (hw _ (List.mem_of_getElem? (i := 2) rfl)) (hw _ (List.mem_of_getElem? (i := 105) rfl)) X_b1 (by decide) (own_add_N l Z a0 hw b1 yy bb ((0 : Int32) + 1) 1 2 1 ((List.replicate 10 .null).set 0 (.ref xx)) cO h5 n0 X_b1 F_modCount_b1 F_elementData_b1 F_size_b1 g_b1 V_bb O_bb g_bb ne_b1_bb (Ins.of_exa X_yy (hw _ (List.mem_of_getElem? (i := 129) rfl))) rfl ⟨by decide, by decide⟩ (by decide) rfl (Nat.le_of_ble_eq_true rfl)) (K' := 4) (S' := 15) (by decide) (by decide) rfl own_pd__Ljava_lang_Object__Z rfl (Nat.le_of_eq rfl) rfl rfl (by decide) (by decide) rfl at_48 rfl (fun v h6 hq => ?_)
    obtain ⟨rfl, KK, F1, F2, F3, V_bb'⟩ := hq
    refine Go.at (st' := [(.int (1 : Int32))]) rfl ?_
    have O := O.keep KK (allS (g_b1) (allS (g_bb) all0))
    have Sz := Nat.le_trans Sz KK.1
    have X_b1 := X_b1.keep KK
    have X_xx := X_xx.keep KK
    have X_yy := X_yy.keep KK
    have X_bb := X_bb.keep KK
    have F_modCount_b1 := F1
    have F_elementData_b1 := F2
    have F_size_b1 := F3
    have V_bb := V_bb'
    refine OwnW.pop C (pc' := 52) at_51 rfl rfl ?_
    refine OwnW.iloadN C (pc' := 53) at_52 rfl rfl ?_
    refine OwnW.iconst C (pc' := 54) at_53 rfl (z := 3) rfl ?_
    refine OwnW.icLt C (pcY := 65) (pcN := 57) at_54 (by decide) rfl rfl (fun hc54 => absurd hc54 (by decide)) (fun hc54 => ?_)
    refine OwnW.aload C (pc' := 59) at_57 rfl rfl rfl ?_
    refine OwnW.aload C (pc' := 61) at_59 rfl rfl rfl ?_
    refine OwnW.callV C (pc' := 64) (y := (⟨"java/util/ArrayList", "add", "(Ljava/lang/Object;)Z"⟩ : MethodName)) (z := (⟨"java/util/ArrayList", "add", "(Ljava/lang/Object;)Z"⟩ : MethodName)) (W := 0) (argsL := [(.ref xx)]) (rest := []) (hw _ (List.mem_of_getElem? (i := 101) rfl)) (hw _ (List.mem_of_getElem? (i := 102) rfl)) (notFace_of_selects (args := #[]) (mvT C.2.1 (hw _ (List.mem_of_getElem? (i := 104) rfl)))) (hw _ (List.mem_of_getElem? (i := 104) rfl)) (hw _ (List.mem_of_getElem? (i := 103) rfl)) (hw _ (List.mem_of_getElem? (i := 2) rfl)) (hw _ (List.mem_of_getElem? (i := 105) rfl)) X_b1 (by decide) (own_add_N l Z a0 hw b1 xx bb (((0 : Int32) + 1) + 1) 2 3 2 (((List.replicate 10 .null).set 0 (.ref xx)).set 1 (.ref yy)) cO h6 n0 X_b1 F_modCount_b1 F_elementData_b1 F_size_b1 g_b1 V_bb O_bb g_bb ne_b1_bb (Ins.of_exa X_xx (hw _ (List.mem_of_getElem? (i := 129) rfl))) rfl ⟨by decide, by decide⟩ (by decide) rfl (Nat.le_of_ble_eq_true rfl)) (K' := 4) (S' := 15) (by decide) (by decide) rfl own_pd__Ljava_lang_Object__Z rfl (Nat.le_of_eq rfl) rfl rfl (by decide) (by decide) rfl at_61 rfl (fun v h7 hq => ?_)
    obtain ⟨rfl, KK, F1, F2, F3, V_bb'⟩ := hq
    refine Go.at (st' := [(.int (1 : Int32))]) rfl ?_
    have O := O.keep KK (allS (g_b1) (allS (g_bb) all0))
    have Sz := Nat.le_trans Sz KK.1
    have X_b1 := X_b1.keep KK
    have X_xx := X_xx.keep KK
    have X_yy := X_yy.keep KK
    have X_bb := X_bb.keep KK
    have F_modCount_b1 := F1
    have F_elementData_b1 := F2
    have F_size_b1 := F3
    have V_bb := V_bb'
    refine OwnW.pop C (pc' := 65) at_64 rfl rfl ?_
    refine OwnW.iloadN C (pc' := 66) at_65 rfl rfl ?_
    refine OwnW.iconst C (pc' := 67) at_66 rfl (z := 4) rfl ?_
    refine OwnW.icLt C (pcY := 78) (pcN := 70) at_67 (by decide) rfl rfl (fun hc67 => absurd hc67 (by decide)) (fun hc67 => ?_)
    refine OwnW.aload C (pc' := 72) at_70 rfl rfl rfl ?_
    refine OwnW.aload C (pc' := 74) at_72 rfl rfl rfl ?_
    refine OwnW.callV C (pc' := 77) (y := (⟨"java/util/ArrayList", "add", "(Ljava/lang/Object;)Z"⟩ : MethodName)) (z := (⟨"java/util/ArrayList", "add", "(Ljava/lang/Object;)Z"⟩ : MethodName)) (W := 0) (argsL := [(.ref yy)]) (rest := []) (hw _ (List.mem_of_getElem? (i := 101) rfl)) (hw _ (List.mem_of_getElem? (i := 102) rfl)) (notFace_of_selects (args := #[]) (mvT C.2.1 (hw _ (List.mem_of_getElem? (i := 104) rfl)))) (hw _ (List.mem_of_getElem? (i := 104) rfl)) (hw _ (List.mem_of_getElem? (i := 103) rfl)) (hw _ (List.mem_of_getElem? (i := 2) rfl)) (hw _ (List.mem_of_getElem? (i := 105) rfl)) X_b1 (by decide) (own_add_N l Z a0 hw b1 yy bb ((((0 : Int32) + 1) + 1) + 1) 3 4 3 ((((List.replicate 10 .null).set 0 (.ref xx)).set 1 (.ref yy)).set 2 (.ref xx)) cO h7 n0 X_b1 F_modCount_b1 F_elementData_b1 F_size_b1 g_b1 V_bb O_bb g_bb ne_b1_bb (Ins.of_exa X_yy (hw _ (List.mem_of_getElem? (i := 129) rfl))) rfl ⟨by decide, by decide⟩ (by decide) rfl (Nat.le_of_ble_eq_true rfl)) (K' := 4) (S' := 15) (by decide) (by decide) rfl own_pd__Ljava_lang_Object__Z rfl (Nat.le_of_eq rfl) rfl rfl (by decide) (by decide) rfl at_74 rfl (fun v h8 hq => ?_)
    obtain ⟨rfl, KK, F1, F2, F3, V_bb'⟩ := hq
    refine Go.at (st' := [(.int (1 : Int32))]) rfl ?_
    have O := O.keep KK (allS (g_b1) (allS (g_bb) all0))
    have Sz := Nat.le_trans Sz KK.1
    have X_b1 := X_b1.keep KK
    have X_xx := X_xx.keep KK
    have X_yy := X_yy.keep KK
    have X_bb := X_bb.keep KK
    have F_modCount_b1 := F1
    have F_elementData_b1 := F2
    have F_size_b1 := F3
    have V_bb := V_bb'
    refine OwnW.pop C (pc' := 78) at_77 rfl rfl ?_
    refine OwnW.iloadN C (pc' := 79) at_78 rfl rfl ?_
    refine OwnW.iconst C (pc' := 80) at_79 rfl (z := 5) rfl ?_
    refine OwnW.icLt C (pcY := 91) (pcN := 83) at_80 (by decide) rfl rfl (fun hc80 => ?_) (fun hc80 => absurd (by decide) hc80)
    refine OwnW.iloadN C (pc' := 92) at_91 rfl rfl ?_
    refine OwnW.bipush C (pc' := 94) at_92 rfl (z := 6) rfl ?_
    refine OwnW.icLt C (pcY := 105) (pcN := 97) at_94 (by decide) rfl rfl (fun hc94 => ?_) (fun hc94 => absurd (by decide) hc94)
    refine OwnW.iloadN C (pc' := 106) at_105 rfl rfl ?_
    refine OwnW.bipush C (pc' := 108) at_106 rfl (z := 7) rfl ?_
    refine OwnW.icLt C (pcY := 119) (pcN := 111) at_108 (by decide) rfl rfl (fun hc108 => ?_) (fun hc108 => absurd (by decide) hc108)
    refine OwnW.newO C (pc' := 122) (K' := 5) (S' := 16) (hw _ (List.mem_of_getElem? (i := 33) rfl)) (hw _ (List.mem_of_getElem? (i := 34) rfl)) (hw _ (List.mem_of_getElem? (i := 35) rfl)) at_119 rfl rfl rfl (by decide) (by decide) (fun h9 b9 g9 E9 X_b9 D9 => ?_)
    have ne_b1_b9 : b1 ≠ b9 := Nat.ne_of_lt (Nat.lt_of_lt_of_eq X_b1.lt g9.symm)
    have ne_xx_b9 : xx ≠ b9 := Nat.ne_of_lt (Nat.lt_of_lt_of_eq X_xx.lt g9.symm)
    have ne_yy_b9 : yy ≠ b9 := Nat.ne_of_lt (Nat.lt_of_lt_of_eq X_yy.lt g9.symm)
    have ne_bb_b9 : bb ≠ b9 := Nat.ne_of_lt (Nat.lt_of_lt_of_eq X_bb.lt g9.symm)
    have g_b9 : n0 ≤ b9 := Nat.le_trans Sz (Nat.le_of_eq g9.symm)
    have O := O.ext E9
    have Sz := Nat.le_trans Sz E9.1
    have X_b1 := X_b1.ext E9
    have X_xx := X_xx.ext E9
    have X_yy := X_yy.ext E9
    have X_bb := X_bb.ext E9
    have F_modCount_b1 := F_modCount_b1.ext E9
    have F_elementData_b1 := F_elementData_b1.ext E9
    have F_size_b1 := F_size_b1.ext E9
    have V_bb := V_bb.ext E9
    have F_transformations_b9 : Fld Z h9 b9 "com/example/schema_facade/schemafacade/channel/Channel" "transformations" "Ljava/util/List;" .null := D9 (Or.inr (hw _ (List.mem_of_getElem? (i := 70) rfl))) (ty := (.object "java/util/List")) (by decide)
    refine OwnW.dup C (pc' := 123) at_122 rfl rfl ?_
    refine OwnW.aload C (pc' := 125) at_123 rfl rfl rfl ?_
    refine OwnW.callX C (pc' := 128) (y := (⟨"com/example/schema_facade/schemafacade/channel/Channel", "<init>", "(Ljava/util/List;)V"⟩ : MethodName)) (W := 1) (argsL := [(.ref b1)]) (rest := [(.ref b9)]) rfl (hw _ (List.mem_of_getElem? (i := 36) rfl)) (hw _ (List.mem_of_getElem? (i := 37) rfl)) (hw _ (List.mem_of_getElem? (i := 35) rfl)) (hw _ (List.mem_of_getElem? (i := 38) rfl)) (by decide) (own_chinit_4 l Z a0 hw b9 b1 bb mr xx yy (((((List.replicate 10 .null).set 0 (.ref xx)).set 1 (.ref yy)).set 2 (.ref xx)).set 3 (.ref yy)) cO h9 n0 X_b9 F_transformations_b9 g_b9 Sz X_b1 F_elementData_b1 F_size_b1 X_bb V_bb M rfl (Ins.of_exa X_xx (hw _ (List.mem_of_getElem? (i := 129) rfl))) (Ins.of_exa X_yy (hw _ (List.mem_of_getElem? (i := 129) rfl)))) (K' := 8) (S' := 26) (by decide) (by decide) rfl own_pd__Ljava_util_List__V rfl (Nat.le_of_eq rfl) rfl rfl (by decide) (by decide) rfl at_125 rfl (fun v h10 hq => ?_)
    obtain ⟨rfl, KK, rr, ar, cR, hr, FT, X_rr', QQ, VE⟩ := hq
    refine Go.at (st' := [(.ref b9)]) rfl ?_
    have ne_b1_rr : b1 ≠ rr := Nat.ne_of_lt (Nat.lt_of_lt_of_le X_b1.lt hr)
    have ne_bb_rr : bb ≠ rr := Nat.ne_of_lt (Nat.lt_of_lt_of_le V_bb.lt hr)
    have ne_b9_rr : b9 ≠ rr := Nat.ne_of_lt (Nat.lt_of_lt_of_le X_b9.lt hr)
    have O := O.keep KK (allS (g_b9) all0)
    have Sz := Nat.le_trans Sz KK.1
    have X_b1 := X_b1.keep KK
    have X_xx := X_xx.keep KK
    have X_yy := X_yy.keep KK
    have X_bb := X_bb.keep KK
    have F_modCount_b1 := F_modCount_b1.keep KK (ninS ne_b1_b9 nin0)
    have F_elementData_b1 := F_elementData_b1.keep KK (ninS ne_b1_b9 nin0)
    have F_size_b1 := F_size_b1.keep KK (ninS ne_b1_b9 nin0)
    have V_bb := V_bb.keep KK (ninS ne_bb_b9 nin0)
    have X_b9 := X_b9.keep KK
    have F_transformations_b9 := FT
    have X_rr := X_rr'
    have F_q := QQ
    have V_ar := VE
    have ne_b1_ar : b1 ≠ ar := own_exa_arv X_b1 V_ar (hw _ (List.mem_of_getElem? (i := 1) rfl))
    have ne_bb_ar : bb ≠ ar := own_arv_ne V_bb V_ar (by decide)
    refine OwnW.astore C (pc' := 130) at_128 rfl rfl (l' := #[.val (.int i0), .val (.int i1), .val (.int i2), .val (.int (4 : Int32)), .val (.ref b1), .val (.ref xx), .val (.ref yy), .val (.ref b9), .unset, .unset, .unset]) rfl ?_
    refine OwnW.aload C (pc' := 132) at_130 rfl rfl rfl ?_
    refine OwnW.callV C (pc' := 135) (y := (⟨"com/example/schema_facade/schemafacade/channel/Channel", "levels", "()I"⟩ : MethodName)) (z := (⟨"com/example/schema_facade/schemafacade/channel/Channel", "levels", "()I"⟩ : MethodName)) (W := 0) (argsL := []) (rest := []) (hw _ (List.mem_of_getElem? (i := 71) rfl)) (hw _ (List.mem_of_getElem? (i := 72) rfl)) (notFace_of_selects (args := #[]) (mvT C.2.1 (hw _ (List.mem_of_getElem? (i := 74) rfl)))) (hw _ (List.mem_of_getElem? (i := 74) rfl)) (hw _ (List.mem_of_getElem? (i := 73) rfl)) (hw _ (List.mem_of_getElem? (i := 35) rfl)) (hw _ (List.mem_of_getElem? (i := 75) rfl)) X_b9 (by decide) (own_levels_N l Z a0 hw b9 rr ar 4 _ cR h10 n0 F_transformations_b9 X_rr F_q V_ar) (K' := 8) (S' := 26) (by decide) (by decide) rfl own_pd___I rfl (Nat.le_of_eq rfl) rfl rfl (by decide) (by decide) rfl at_132 rfl (fun v h' hq => ?_)
    obtain ⟨hv, hh⟩ := hq
    rw [show ((4 : Int32) + 1) = (5 : Int32) from rfl] at hv; subst hv
    refine Go.at (st' := [(.int (5 : Int32))]) rfl ?_
    refine Go.heap hh ?_
    refine OwnW.istore C (pc' := 137) at_135 rfl (l' := #[.val (.int i0), .val (.int i1), .val (.int i2), .val (.int (4 : Int32)), .val (.ref b1), .val (.ref xx), .val (.ref yy), .val (.ref b9), .val (.int (5 : Int32)), .unset, .unset]) rfl ?_
    refine OwnW.aload C (pc' := 139) at_137 rfl rfl rfl ?_
    refine OwnW.callV C (pc' := 142) (y := (⟨"com/example/schema_facade/schemafacade/channel/Channel", "isEmpty", "()Z"⟩ : MethodName)) (z := (⟨"com/example/schema_facade/schemafacade/channel/Channel", "isEmpty", "()Z"⟩ : MethodName)) (W := 0) (argsL := []) (rest := []) (hw _ (List.mem_of_getElem? (i := 88) rfl)) (hw _ (List.mem_of_getElem? (i := 89) rfl)) (notFace_of_selects (args := #[]) (mvT C.2.1 (hw _ (List.mem_of_getElem? (i := 91) rfl)))) (hw _ (List.mem_of_getElem? (i := 91) rfl)) (hw _ (List.mem_of_getElem? (i := 90) rfl)) (hw _ (List.mem_of_getElem? (i := 35) rfl)) (hw _ (List.mem_of_getElem? (i := 92) rfl)) X_b9 (by decide) (own_isEmpty_N l Z a0 hw b9 rr ar 4 _ cR h10 n0 F_transformations_b9 X_rr F_q V_ar) (K' := 8) (S' := 26) (by decide) (by decide) rfl own_pd___Z rfl (Nat.le_of_eq rfl) rfl rfl (by decide) (by decide) rfl at_139 rfl (fun v h' hq => ?_)
    obtain ⟨hv, hh⟩ := hq
    rw [show (if (4 : Int32) = 0 then (1 : Int32) else 0) = (0 : Int32) from rfl] at hv; subst hv
    refine Go.at (st' := [(.int (0 : Int32))]) rfl ?_
    refine Go.heap hh ?_
    refine OwnW.istore C (pc' := 144) at_142 rfl (l' := #[.val (.int i0), .val (.int i1), .val (.int i2), .val (.int (4 : Int32)), .val (.ref b1), .val (.ref xx), .val (.ref yy), .val (.ref b9), .val (.int (5 : Int32)), .val (.int (0 : Int32)), .unset]) rfl ?_
    refine OwnW.aload C (pc' := 146) at_144 rfl rfl rfl ?_
    refine OwnW.aload C (pc' := 148) at_146 rfl rfl rfl ?_
    refine OwnW.callV C (pc' := 151) (y := (⟨"java/util/ArrayList", "add", "(Ljava/lang/Object;)Z"⟩ : MethodName)) (z := (⟨"java/util/ArrayList", "add", "(Ljava/lang/Object;)Z"⟩ : MethodName)) (W := 0) (argsL := [(.ref yy)]) (rest := []) (hw _ (List.mem_of_getElem? (i := 101) rfl)) (hw _ (List.mem_of_getElem? (i := 102) rfl)) (notFace_of_selects (args := #[]) (mvT C.2.1 (hw _ (List.mem_of_getElem? (i := 104) rfl)))) (hw _ (List.mem_of_getElem? (i := 104) rfl)) (hw _ (List.mem_of_getElem? (i := 103) rfl)) (hw _ (List.mem_of_getElem? (i := 2) rfl)) (hw _ (List.mem_of_getElem? (i := 105) rfl)) X_b1 (by decide) (own_add_N l Z a0 hw b1 yy bb (((((0 : Int32) + 1) + 1) + 1) + 1) 4 5 4 (((((List.replicate 10 .null).set 0 (.ref xx)).set 1 (.ref yy)).set 2 (.ref xx)).set 3 (.ref yy)) cO h10 n0 X_b1 F_modCount_b1 F_elementData_b1 F_size_b1 g_b1 V_bb O_bb g_bb ne_b1_bb (Ins.of_exa X_yy (hw _ (List.mem_of_getElem? (i := 129) rfl))) rfl ⟨by decide, by decide⟩ (by decide) rfl (Nat.le_of_ble_eq_true rfl)) (K' := 8) (S' := 26) (by decide) (by decide) rfl own_pd__Ljava_lang_Object__Z rfl (Nat.le_of_eq rfl) rfl rfl (by decide) (by decide) rfl at_148 rfl (fun v h11 hq => ?_)
    obtain ⟨rfl, KK, F1, F2, F3, V_bb'⟩ := hq
    refine Go.at (st' := [(.int (1 : Int32))]) rfl ?_
    have O := O.keep KK (allS (g_b1) (allS (g_bb) all0))
    have Sz := Nat.le_trans Sz KK.1
    have X_b1 := X_b1.keep KK
    have X_xx := X_xx.keep KK
    have X_yy := X_yy.keep KK
    have X_bb := X_bb.keep KK
    have X_b9 := X_b9.keep KK
    have F_transformations_b9 := F_transformations_b9.keep KK (ninS (Ne.symm ne_b1_b9) (ninS (Ne.symm ne_bb_b9) nin0))
    have X_rr := X_rr.keep KK
    have F_q := F_q.keep KK (ninS (Ne.symm ne_b1_rr) (ninS (Ne.symm ne_bb_rr) nin0))
    have V_ar := V_ar.keep KK (ninS (Ne.symm ne_b1_ar) (ninS (Ne.symm ne_bb_ar) nin0))
    have F_modCount_b1 := F1
    have F_elementData_b1 := F2
    have F_size_b1 := F3
    have V_bb := V_bb'
    refine OwnW.pop C (pc' := 152) at_151 rfl rfl ?_
    refine OwnW.aload C (pc' := 154) at_152 rfl rfl rfl ?_
    refine OwnW.callV C (pc' := 157) (y := (⟨"com/example/schema_facade/schemafacade/channel/Channel", "levels", "()I"⟩ : MethodName)) (z := (⟨"com/example/schema_facade/schemafacade/channel/Channel", "levels", "()I"⟩ : MethodName)) (W := 0) (argsL := []) (rest := []) (hw _ (List.mem_of_getElem? (i := 71) rfl)) (hw _ (List.mem_of_getElem? (i := 72) rfl)) (notFace_of_selects (args := #[]) (mvT C.2.1 (hw _ (List.mem_of_getElem? (i := 74) rfl)))) (hw _ (List.mem_of_getElem? (i := 74) rfl)) (hw _ (List.mem_of_getElem? (i := 73) rfl)) (hw _ (List.mem_of_getElem? (i := 35) rfl)) (hw _ (List.mem_of_getElem? (i := 75) rfl)) X_b9 (by decide) (own_levels_N l Z a0 hw b9 rr ar 4 _ cR h11 n0 F_transformations_b9 X_rr F_q V_ar) (K' := 8) (S' := 26) (by decide) (by decide) rfl own_pd___I rfl (Nat.le_of_eq rfl) rfl rfl (by decide) (by decide) rfl at_154 rfl (fun v h' hq => ?_)
    obtain ⟨hv, hh⟩ := hq
    rw [show ((4 : Int32) + 1) = (5 : Int32) from rfl] at hv; subst hv
    refine Go.at (st' := [(.int (5 : Int32))]) rfl ?_
    refine Go.heap hh ?_
    refine OwnW.istore C (pc' := 159) at_157 rfl (l' := #[.val (.int i0), .val (.int i1), .val (.int i2), .val (.int (4 : Int32)), .val (.ref b1), .val (.ref xx), .val (.ref yy), .val (.ref b9), .val (.int (5 : Int32)), .val (.int (0 : Int32)), .val (.int (5 : Int32))]) rfl ?_
    refine OwnW.iload C (pc' := 161) at_159 rfl rfl ?_
    refine OwnW.iloadN C (pc' := 162) at_161 rfl rfl ?_
    refine OwnW.iconst C (pc' := 163) at_162 rfl (z := 1) rfl ?_
    refine OwnW.iadd C (pc' := 164) at_163 rfl ?_
    rw [show (4 : Int32) + 1 = 5 from rfl]
    refine OwnW.icNe C (pcY := 193) (pcN := 167) at_164 (by decide) rfl rfl (fun hc164 => absurd rfl hc164) (fun hc164 => ?_)
    refine OwnW.iload C (pc' := 169) at_167 rfl rfl ?_
    refine OwnW.iloadN C (pc' := 170) at_169 rfl rfl ?_
    refine OwnW.ifNe C (pcY := 177) (pcN := 173) at_170 (by decide) rfl rfl (fun hc170 => ?_) (fun hc170 => absurd hc170 (by decide))
    refine OwnW.iconst C (pc' := 178) at_177 rfl (z := 0) rfl ?_
    refine OwnW.icNe C (pcY := 193) (pcN := 181) at_178 (by decide) rfl rfl (fun hc178 => absurd rfl hc178) (fun hc178 => ?_)
    refine OwnW.iload C (pc' := 183) at_181 rfl rfl ?_
    refine OwnW.iloadN C (pc' := 184) at_183 rfl rfl ?_
    refine OwnW.iconst C (pc' := 185) at_184 rfl (z := 1) rfl ?_
    refine OwnW.iadd C (pc' := 186) at_185 rfl ?_
    rw [show (4 : Int32) + 1 = 5 from rfl]
    refine OwnW.icNe C (pcY := 193) (pcN := 189) at_186 (by decide) rfl rfl (fun hc186 => absurd rfl hc186) (fun hc186 => ?_)
    refine OwnW.iconst C (pc' := 190) at_189 rfl (z := 1) rfl ?_
    refine OwnW.goto C (pc' := 194) at_190 (by decide) rfl ?_
    exact OwnW.retN C (t := .boolean) (z := (1 : Int32)) rfl (by simp) rfl rfl (by decide) (by decide) at_194
  · rw [hk]
    refine OwnW.iloadN C (pc' := 27) at_26 rfl rfl ?_
    refine OwnW.iconst C (pc' := 28) at_27 rfl (z := 1) rfl ?_
    refine OwnW.icLt C (pcY := 39) (pcN := 31) at_28 (by decide) rfl rfl (fun hc28 => absurd hc28 (by decide)) (fun hc28 => ?_)
    refine OwnW.aload C (pc' := 33) at_31 rfl rfl rfl ?_
    refine OwnW.aload C (pc' := 35) at_33 rfl rfl rfl ?_
    have ne_d : d1 ≠ b1 := O.ne X_d1.lt g_b1
    refine OwnW.callV C (pc' := 38) (y := (⟨"java/util/ArrayList", "add", "(Ljava/lang/Object;)Z"⟩ : MethodName)) (z := (⟨"java/util/ArrayList", "add", "(Ljava/lang/Object;)Z"⟩ : MethodName)) (W := 0) (argsL := [(.ref xx)]) (rest := []) (hw _ (List.mem_of_getElem? (i := 101) rfl)) (hw _ (List.mem_of_getElem? (i := 102) rfl)) (notFace_of_selects (args := #[]) (mvT C.2.1 (hw _ (List.mem_of_getElem? (i := 104) rfl)))) (hw _ (List.mem_of_getElem? (i := 104) rfl)) (hw _ (List.mem_of_getElem? (i := 103) rfl)) (hw _ (List.mem_of_getElem? (i := 2) rfl)) (hw _ (List.mem_of_getElem? (i := 105) rfl)) X_b1 (by decide) (own_add_0 l Z a0 hw b1 xx d1 (0 : Int32) cD h4 n0 Sz X_b1 F_modCount_b1 F_elementData_b1 F_size_b1 g_b1 (V_d1.ext O.2) (S_D.ext O.2) (Ins.of_exa X_xx (hw _ (List.mem_of_getElem? (i := 129) rfl))) ne_d) (K' := 4) (S' := 15) (by decide) (by decide) rfl own_pd__Ljava_lang_Object__Z rfl (Nat.le_of_eq rfl) rfl rfl (by decide) (by decide) rfl at_35 rfl (fun v h5 hq => ?_)
    obtain ⟨rfl, KK, bb, cO, hb, F1, F2, F3, V_bb', X_bb', O_bb⟩ := hq
    refine Go.at (st' := [(.int (1 : Int32))]) rfl ?_
    have ne_b1_bb : b1 ≠ bb := Nat.ne_of_lt (Nat.lt_of_lt_of_le X_b1.lt hb)
    have ne_xx_bb : xx ≠ bb := Nat.ne_of_lt (Nat.lt_of_lt_of_le X_xx.lt hb)
    have ne_yy_bb : yy ≠ bb := Nat.ne_of_lt (Nat.lt_of_lt_of_le X_yy.lt hb)
    have g_bb : n0 ≤ bb := Nat.le_trans Sz hb
    have O := O.keep KK (allS (g_b1) all0)
    have Sz := Nat.le_trans Sz KK.1
    have X_b1 := X_b1.keep KK
    have X_xx := X_xx.keep KK
    have X_yy := X_yy.keep KK
    have X_bb := X_bb'
    have F_modCount_b1 := F1
    have F_elementData_b1 := F2
    have F_size_b1 := F3
    have V_bb := V_bb'
    refine OwnW.pop C (pc' := 39) at_38 rfl rfl ?_
    refine OwnW.iloadN C (pc' := 40) at_39 rfl rfl ?_
    refine OwnW.iconst C (pc' := 41) at_40 rfl (z := 2) rfl ?_
    refine OwnW.icLt C (pcY := 52) (pcN := 44) at_41 (by decide) rfl rfl (fun hc41 => absurd hc41 (by decide)) (fun hc41 => ?_)
    refine OwnW.aload C (pc' := 46) at_44 rfl rfl rfl ?_
    refine OwnW.aload C (pc' := 48) at_46 rfl rfl rfl ?_
    refine OwnW.callV C (pc' := 51) (y := (⟨"java/util/ArrayList", "add", "(Ljava/lang/Object;)Z"⟩ : MethodName)) (z := (⟨"java/util/ArrayList", "add", "(Ljava/lang/Object;)Z"⟩ : MethodName)) (W := 0) (argsL := [(.ref yy)]) (rest := []) (hw _ (List.mem_of_getElem? (i := 101) rfl)) (hw _ (List.mem_of_getElem? (i := 102) rfl)) (notFace_of_selects (args := #[]) (mvT C.2.1 (hw _ (List.mem_of_getElem? (i := 104) rfl)))) (hw _ (List.mem_of_getElem? (i := 104) rfl)) (hw _ (List.mem_of_getElem? (i := 103) rfl)) (hw _ (List.mem_of_getElem? (i := 2) rfl)) (hw _ (List.mem_of_getElem? (i := 105) rfl)) X_b1 (by decide) (own_add_N l Z a0 hw b1 yy bb ((0 : Int32) + 1) 1 2 1 ((List.replicate 10 .null).set 0 (.ref xx)) cO h5 n0 X_b1 F_modCount_b1 F_elementData_b1 F_size_b1 g_b1 V_bb O_bb g_bb ne_b1_bb (Ins.of_exa X_yy (hw _ (List.mem_of_getElem? (i := 129) rfl))) rfl ⟨by decide, by decide⟩ (by decide) rfl (Nat.le_of_ble_eq_true rfl)) (K' := 4) (S' := 15) (by decide) (by decide) rfl own_pd__Ljava_lang_Object__Z rfl (Nat.le_of_eq rfl) rfl rfl (by decide) (by decide) rfl at_48 rfl (fun v h6 hq => ?_)
    obtain ⟨rfl, KK, F1, F2, F3, V_bb'⟩ := hq
    refine Go.at (st' := [(.int (1 : Int32))]) rfl ?_
    have O := O.keep KK (allS (g_b1) (allS (g_bb) all0))
    have Sz := Nat.le_trans Sz KK.1
    have X_b1 := X_b1.keep KK
    have X_xx := X_xx.keep KK
    have X_yy := X_yy.keep KK
    have X_bb := X_bb.keep KK
    have F_modCount_b1 := F1
    have F_elementData_b1 := F2
    have F_size_b1 := F3
    have V_bb := V_bb'
    refine OwnW.pop C (pc' := 52) at_51 rfl rfl ?_
    refine OwnW.iloadN C (pc' := 53) at_52 rfl rfl ?_
    refine OwnW.iconst C (pc' := 54) at_53 rfl (z := 3) rfl ?_
    refine OwnW.icLt C (pcY := 65) (pcN := 57) at_54 (by decide) rfl rfl (fun hc54 => absurd hc54 (by decide)) (fun hc54 => ?_)
    refine OwnW.aload C (pc' := 59) at_57 rfl rfl rfl ?_
    refine OwnW.aload C (pc' := 61) at_59 rfl rfl rfl ?_
    refine OwnW.callV C (pc' := 64) (y := (⟨"java/util/ArrayList", "add", "(Ljava/lang/Object;)Z"⟩ : MethodName)) (z := (⟨"java/util/ArrayList", "add", "(Ljava/lang/Object;)Z"⟩ : MethodName)) (W := 0) (argsL := [(.ref xx)]) (rest := []) (hw _ (List.mem_of_getElem? (i := 101) rfl)) (hw _ (List.mem_of_getElem? (i := 102) rfl)) (notFace_of_selects (args := #[]) (mvT C.2.1 (hw _ (List.mem_of_getElem? (i := 104) rfl)))) (hw _ (List.mem_of_getElem? (i := 104) rfl)) (hw _ (List.mem_of_getElem? (i := 103) rfl)) (hw _ (List.mem_of_getElem? (i := 2) rfl)) (hw _ (List.mem_of_getElem? (i := 105) rfl)) X_b1 (by decide) (own_add_N l Z a0 hw b1 xx bb (((0 : Int32) + 1) + 1) 2 3 2 (((List.replicate 10 .null).set 0 (.ref xx)).set 1 (.ref yy)) cO h6 n0 X_b1 F_modCount_b1 F_elementData_b1 F_size_b1 g_b1 V_bb O_bb g_bb ne_b1_bb (Ins.of_exa X_xx (hw _ (List.mem_of_getElem? (i := 129) rfl))) rfl ⟨by decide, by decide⟩ (by decide) rfl (Nat.le_of_ble_eq_true rfl)) (K' := 4) (S' := 15) (by decide) (by decide) rfl own_pd__Ljava_lang_Object__Z rfl (Nat.le_of_eq rfl) rfl rfl (by decide) (by decide) rfl at_61 rfl (fun v h7 hq => ?_)
    obtain ⟨rfl, KK, F1, F2, F3, V_bb'⟩ := hq
    refine Go.at (st' := [(.int (1 : Int32))]) rfl ?_
    have O := O.keep KK (allS (g_b1) (allS (g_bb) all0))
    have Sz := Nat.le_trans Sz KK.1
    have X_b1 := X_b1.keep KK
    have X_xx := X_xx.keep KK
    have X_yy := X_yy.keep KK
    have X_bb := X_bb.keep KK
    have F_modCount_b1 := F1
    have F_elementData_b1 := F2
    have F_size_b1 := F3
    have V_bb := V_bb'
    refine OwnW.pop C (pc' := 65) at_64 rfl rfl ?_
    refine OwnW.iloadN C (pc' := 66) at_65 rfl rfl ?_
    refine OwnW.iconst C (pc' := 67) at_66 rfl (z := 4) rfl ?_
    refine OwnW.icLt C (pcY := 78) (pcN := 70) at_67 (by decide) rfl rfl (fun hc67 => absurd hc67 (by decide)) (fun hc67 => ?_)
    refine OwnW.aload C (pc' := 72) at_70 rfl rfl rfl ?_
    refine OwnW.aload C (pc' := 74) at_72 rfl rfl rfl ?_
    refine OwnW.callV C (pc' := 77) (y := (⟨"java/util/ArrayList", "add", "(Ljava/lang/Object;)Z"⟩ : MethodName)) (z := (⟨"java/util/ArrayList", "add", "(Ljava/lang/Object;)Z"⟩ : MethodName)) (W := 0) (argsL := [(.ref yy)]) (rest := []) (hw _ (List.mem_of_getElem? (i := 101) rfl)) (hw _ (List.mem_of_getElem? (i := 102) rfl)) (notFace_of_selects (args := #[]) (mvT C.2.1 (hw _ (List.mem_of_getElem? (i := 104) rfl)))) (hw _ (List.mem_of_getElem? (i := 104) rfl)) (hw _ (List.mem_of_getElem? (i := 103) rfl)) (hw _ (List.mem_of_getElem? (i := 2) rfl)) (hw _ (List.mem_of_getElem? (i := 105) rfl)) X_b1 (by decide) (own_add_N l Z a0 hw b1 yy bb ((((0 : Int32) + 1) + 1) + 1) 3 4 3 ((((List.replicate 10 .null).set 0 (.ref xx)).set 1 (.ref yy)).set 2 (.ref xx)) cO h7 n0 X_b1 F_modCount_b1 F_elementData_b1 F_size_b1 g_b1 V_bb O_bb g_bb ne_b1_bb (Ins.of_exa X_yy (hw _ (List.mem_of_getElem? (i := 129) rfl))) rfl ⟨by decide, by decide⟩ (by decide) rfl (Nat.le_of_ble_eq_true rfl)) (K' := 4) (S' := 15) (by decide) (by decide) rfl own_pd__Ljava_lang_Object__Z rfl (Nat.le_of_eq rfl) rfl rfl (by decide) (by decide) rfl at_74 rfl (fun v h8 hq => ?_)
    obtain ⟨rfl, KK, F1, F2, F3, V_bb'⟩ := hq
    refine Go.at (st' := [(.int (1 : Int32))]) rfl ?_
    have O := O.keep KK (allS (g_b1) (allS (g_bb) all0))
    have Sz := Nat.le_trans Sz KK.1
    have X_b1 := X_b1.keep KK
    have X_xx := X_xx.keep KK
    have X_yy := X_yy.keep KK
    have X_bb := X_bb.keep KK
    have F_modCount_b1 := F1
    have F_elementData_b1 := F2
    have F_size_b1 := F3
    have V_bb := V_bb'
    refine OwnW.pop C (pc' := 78) at_77 rfl rfl ?_
    refine OwnW.iloadN C (pc' := 79) at_78 rfl rfl ?_
    refine OwnW.iconst C (pc' := 80) at_79 rfl (z := 5) rfl ?_
    refine OwnW.icLt C (pcY := 91) (pcN := 83) at_80 (by decide) rfl rfl (fun hc80 => absurd hc80 (by decide)) (fun hc80 => ?_)
    refine OwnW.aload C (pc' := 85) at_83 rfl rfl rfl ?_
    refine OwnW.aload C (pc' := 87) at_85 rfl rfl rfl ?_
    refine OwnW.callV C (pc' := 90) (y := (⟨"java/util/ArrayList", "add", "(Ljava/lang/Object;)Z"⟩ : MethodName)) (z := (⟨"java/util/ArrayList", "add", "(Ljava/lang/Object;)Z"⟩ : MethodName)) (W := 0) (argsL := [(.ref xx)]) (rest := []) (hw _ (List.mem_of_getElem? (i := 101) rfl)) (hw _ (List.mem_of_getElem? (i := 102) rfl)) (notFace_of_selects (args := #[]) (mvT C.2.1 (hw _ (List.mem_of_getElem? (i := 104) rfl)))) (hw _ (List.mem_of_getElem? (i := 104) rfl)) (hw _ (List.mem_of_getElem? (i := 103) rfl)) (hw _ (List.mem_of_getElem? (i := 2) rfl)) (hw _ (List.mem_of_getElem? (i := 105) rfl)) X_b1 (by decide) (own_add_N l Z a0 hw b1 xx bb (((((0 : Int32) + 1) + 1) + 1) + 1) 4 5 4 (((((List.replicate 10 .null).set 0 (.ref xx)).set 1 (.ref yy)).set 2 (.ref xx)).set 3 (.ref yy)) cO h8 n0 X_b1 F_modCount_b1 F_elementData_b1 F_size_b1 g_b1 V_bb O_bb g_bb ne_b1_bb (Ins.of_exa X_xx (hw _ (List.mem_of_getElem? (i := 129) rfl))) rfl ⟨by decide, by decide⟩ (by decide) rfl (Nat.le_of_ble_eq_true rfl)) (K' := 4) (S' := 15) (by decide) (by decide) rfl own_pd__Ljava_lang_Object__Z rfl (Nat.le_of_eq rfl) rfl rfl (by decide) (by decide) rfl at_87 rfl (fun v h9 hq => ?_)
    obtain ⟨rfl, KK, F1, F2, F3, V_bb'⟩ := hq
    refine Go.at (st' := [(.int (1 : Int32))]) rfl ?_
    have O := O.keep KK (allS (g_b1) (allS (g_bb) all0))
    have Sz := Nat.le_trans Sz KK.1
    have X_b1 := X_b1.keep KK
    have X_xx := X_xx.keep KK
    have X_yy := X_yy.keep KK
    have X_bb := X_bb.keep KK
    have F_modCount_b1 := F1
    have F_elementData_b1 := F2
    have F_size_b1 := F3
    have V_bb := V_bb'
    refine OwnW.pop C (pc' := 91) at_90 rfl rfl ?_
    refine OwnW.iloadN C (pc' := 92) at_91 rfl rfl ?_
    refine OwnW.bipush C (pc' := 94) at_92 rfl (z := 6) rfl ?_
    refine OwnW.icLt C (pcY := 105) (pcN := 97) at_94 (by decide) rfl rfl (fun hc94 => ?_) (fun hc94 => absurd (by decide) hc94)
    refine OwnW.iloadN C (pc' := 106) at_105 rfl rfl ?_
    refine OwnW.bipush C (pc' := 108) at_106 rfl (z := 7) rfl ?_
    refine OwnW.icLt C (pcY := 119) (pcN := 111) at_108 (by decide) rfl rfl (fun hc108 => ?_) (fun hc108 => absurd (by decide) hc108)
    refine OwnW.newO C (pc' := 122) (K' := 5) (S' := 16) (hw _ (List.mem_of_getElem? (i := 33) rfl)) (hw _ (List.mem_of_getElem? (i := 34) rfl)) (hw _ (List.mem_of_getElem? (i := 35) rfl)) at_119 rfl rfl rfl (by decide) (by decide) (fun h10 b10 g10 E10 X_b10 D10 => ?_)
    have ne_b1_b10 : b1 ≠ b10 := Nat.ne_of_lt (Nat.lt_of_lt_of_eq X_b1.lt g10.symm)
    have ne_xx_b10 : xx ≠ b10 := Nat.ne_of_lt (Nat.lt_of_lt_of_eq X_xx.lt g10.symm)
    have ne_yy_b10 : yy ≠ b10 := Nat.ne_of_lt (Nat.lt_of_lt_of_eq X_yy.lt g10.symm)
    have ne_bb_b10 : bb ≠ b10 := Nat.ne_of_lt (Nat.lt_of_lt_of_eq X_bb.lt g10.symm)
    have g_b10 : n0 ≤ b10 := Nat.le_trans Sz (Nat.le_of_eq g10.symm)
    have O := O.ext E10
    have Sz := Nat.le_trans Sz E10.1
    have X_b1 := X_b1.ext E10
    have X_xx := X_xx.ext E10
    have X_yy := X_yy.ext E10
    have X_bb := X_bb.ext E10
    have F_modCount_b1 := F_modCount_b1.ext E10
    have F_elementData_b1 := F_elementData_b1.ext E10
    have F_size_b1 := F_size_b1.ext E10
    have V_bb := V_bb.ext E10
    have F_transformations_b10 : Fld Z h10 b10 "com/example/schema_facade/schemafacade/channel/Channel" "transformations" "Ljava/util/List;" .null := D10 (Or.inr (hw _ (List.mem_of_getElem? (i := 70) rfl))) (ty := (.object "java/util/List")) (by decide)
    refine OwnW.dup C (pc' := 123) at_122 rfl rfl ?_
    refine OwnW.aload C (pc' := 125) at_123 rfl rfl rfl ?_
    refine OwnW.callX C (pc' := 128) (y := (⟨"com/example/schema_facade/schemafacade/channel/Channel", "<init>", "(Ljava/util/List;)V"⟩ : MethodName)) (W := 1) (argsL := [(.ref b1)]) (rest := [(.ref b10)]) rfl (hw _ (List.mem_of_getElem? (i := 36) rfl)) (hw _ (List.mem_of_getElem? (i := 37) rfl)) (hw _ (List.mem_of_getElem? (i := 35) rfl)) (hw _ (List.mem_of_getElem? (i := 38) rfl)) (by decide) (own_chinit_5 l Z a0 hw b10 b1 bb mr xx yy ((((((List.replicate 10 .null).set 0 (.ref xx)).set 1 (.ref yy)).set 2 (.ref xx)).set 3 (.ref yy)).set 4 (.ref xx)) cO h10 n0 X_b10 F_transformations_b10 g_b10 Sz X_b1 F_elementData_b1 F_size_b1 X_bb V_bb M rfl (Ins.of_exa X_xx (hw _ (List.mem_of_getElem? (i := 129) rfl))) (Ins.of_exa X_yy (hw _ (List.mem_of_getElem? (i := 129) rfl)))) (K' := 8) (S' := 28) (by decide) (by decide) rfl own_pd__Ljava_util_List__V rfl (Nat.le_of_eq rfl) rfl rfl (by decide) (by decide) rfl at_125 rfl (fun v h11 hq => ?_)
    obtain ⟨rfl, KK, rr, ar, cR, hr, FT, X_rr', QQ, VE⟩ := hq
    refine Go.at (st' := [(.ref b10)]) rfl ?_
    have ne_b1_rr : b1 ≠ rr := Nat.ne_of_lt (Nat.lt_of_lt_of_le X_b1.lt hr)
    have ne_bb_rr : bb ≠ rr := Nat.ne_of_lt (Nat.lt_of_lt_of_le V_bb.lt hr)
    have ne_b10_rr : b10 ≠ rr := Nat.ne_of_lt (Nat.lt_of_lt_of_le X_b10.lt hr)
    have O := O.keep KK (allS (g_b10) all0)
    have Sz := Nat.le_trans Sz KK.1
    have X_b1 := X_b1.keep KK
    have X_xx := X_xx.keep KK
    have X_yy := X_yy.keep KK
    have X_bb := X_bb.keep KK
    have F_modCount_b1 := F_modCount_b1.keep KK (ninS ne_b1_b10 nin0)
    have F_elementData_b1 := F_elementData_b1.keep KK (ninS ne_b1_b10 nin0)
    have F_size_b1 := F_size_b1.keep KK (ninS ne_b1_b10 nin0)
    have V_bb := V_bb.keep KK (ninS ne_bb_b10 nin0)
    have X_b10 := X_b10.keep KK
    have F_transformations_b10 := FT
    have X_rr := X_rr'
    have F_q := QQ
    have V_ar := VE
    have ne_b1_ar : b1 ≠ ar := own_exa_arv X_b1 V_ar (hw _ (List.mem_of_getElem? (i := 1) rfl))
    have ne_bb_ar : bb ≠ ar := own_arv_ne V_bb V_ar (by decide)
    refine OwnW.astore C (pc' := 130) at_128 rfl rfl (l' := #[.val (.int i0), .val (.int i1), .val (.int i2), .val (.int (5 : Int32)), .val (.ref b1), .val (.ref xx), .val (.ref yy), .val (.ref b10), .unset, .unset, .unset]) rfl ?_
    refine OwnW.aload C (pc' := 132) at_130 rfl rfl rfl ?_
    refine OwnW.callV C (pc' := 135) (y := (⟨"com/example/schema_facade/schemafacade/channel/Channel", "levels", "()I"⟩ : MethodName)) (z := (⟨"com/example/schema_facade/schemafacade/channel/Channel", "levels", "()I"⟩ : MethodName)) (W := 0) (argsL := []) (rest := []) (hw _ (List.mem_of_getElem? (i := 71) rfl)) (hw _ (List.mem_of_getElem? (i := 72) rfl)) (notFace_of_selects (args := #[]) (mvT C.2.1 (hw _ (List.mem_of_getElem? (i := 74) rfl)))) (hw _ (List.mem_of_getElem? (i := 74) rfl)) (hw _ (List.mem_of_getElem? (i := 73) rfl)) (hw _ (List.mem_of_getElem? (i := 35) rfl)) (hw _ (List.mem_of_getElem? (i := 75) rfl)) X_b10 (by decide) (own_levels_N l Z a0 hw b10 rr ar 5 _ cR h11 n0 F_transformations_b10 X_rr F_q V_ar) (K' := 8) (S' := 28) (by decide) (by decide) rfl own_pd___I rfl (Nat.le_of_eq rfl) rfl rfl (by decide) (by decide) rfl at_132 rfl (fun v h' hq => ?_)
    obtain ⟨hv, hh⟩ := hq
    rw [show ((5 : Int32) + 1) = (6 : Int32) from rfl] at hv; subst hv
    refine Go.at (st' := [(.int (6 : Int32))]) rfl ?_
    refine Go.heap hh ?_
    refine OwnW.istore C (pc' := 137) at_135 rfl (l' := #[.val (.int i0), .val (.int i1), .val (.int i2), .val (.int (5 : Int32)), .val (.ref b1), .val (.ref xx), .val (.ref yy), .val (.ref b10), .val (.int (6 : Int32)), .unset, .unset]) rfl ?_
    refine OwnW.aload C (pc' := 139) at_137 rfl rfl rfl ?_
    refine OwnW.callV C (pc' := 142) (y := (⟨"com/example/schema_facade/schemafacade/channel/Channel", "isEmpty", "()Z"⟩ : MethodName)) (z := (⟨"com/example/schema_facade/schemafacade/channel/Channel", "isEmpty", "()Z"⟩ : MethodName)) (W := 0) (argsL := []) (rest := []) (hw _ (List.mem_of_getElem? (i := 88) rfl)) (hw _ (List.mem_of_getElem? (i := 89) rfl)) (notFace_of_selects (args := #[]) (mvT C.2.1 (hw _ (List.mem_of_getElem? (i := 91) rfl)))) (hw _ (List.mem_of_getElem? (i := 91) rfl)) (hw _ (List.mem_of_getElem? (i := 90) rfl)) (hw _ (List.mem_of_getElem? (i := 35) rfl)) (hw _ (List.mem_of_getElem? (i := 92) rfl)) X_b10 (by decide) (own_isEmpty_N l Z a0 hw b10 rr ar 5 _ cR h11 n0 F_transformations_b10 X_rr F_q V_ar) (K' := 8) (S' := 28) (by decide) (by decide) rfl own_pd___Z rfl (Nat.le_of_eq rfl) rfl rfl (by decide) (by decide) rfl at_139 rfl (fun v h' hq => ?_)
    obtain ⟨hv, hh⟩ := hq
    rw [show (if (5 : Int32) = 0 then (1 : Int32) else 0) = (0 : Int32) from rfl] at hv; subst hv
    refine Go.at (st' := [(.int (0 : Int32))]) rfl ?_
    refine Go.heap hh ?_
    refine OwnW.istore C (pc' := 144) at_142 rfl (l' := #[.val (.int i0), .val (.int i1), .val (.int i2), .val (.int (5 : Int32)), .val (.ref b1), .val (.ref xx), .val (.ref yy), .val (.ref b10), .val (.int (6 : Int32)), .val (.int (0 : Int32)), .unset]) rfl ?_
    refine OwnW.aload C (pc' := 146) at_144 rfl rfl rfl ?_
    refine OwnW.aload C (pc' := 148) at_146 rfl rfl rfl ?_
    refine OwnW.callV C (pc' := 151) (y := (⟨"java/util/ArrayList", "add", "(Ljava/lang/Object;)Z"⟩ : MethodName)) (z := (⟨"java/util/ArrayList", "add", "(Ljava/lang/Object;)Z"⟩ : MethodName)) (W := 0) (argsL := [(.ref yy)]) (rest := []) (hw _ (List.mem_of_getElem? (i := 101) rfl)) (hw _ (List.mem_of_getElem? (i := 102) rfl)) (notFace_of_selects (args := #[]) (mvT C.2.1 (hw _ (List.mem_of_getElem? (i := 104) rfl)))) (hw _ (List.mem_of_getElem? (i := 104) rfl)) (hw _ (List.mem_of_getElem? (i := 103) rfl)) (hw _ (List.mem_of_getElem? (i := 2) rfl)) (hw _ (List.mem_of_getElem? (i := 105) rfl)) X_b1 (by decide) (own_add_N l Z a0 hw b1 yy bb ((((((0 : Int32) + 1) + 1) + 1) + 1) + 1) 5 6 5 ((((((List.replicate 10 .null).set 0 (.ref xx)).set 1 (.ref yy)).set 2 (.ref xx)).set 3 (.ref yy)).set 4 (.ref xx)) cO h11 n0 X_b1 F_modCount_b1 F_elementData_b1 F_size_b1 g_b1 V_bb O_bb g_bb ne_b1_bb (Ins.of_exa X_yy (hw _ (List.mem_of_getElem? (i := 129) rfl))) rfl ⟨by decide, by decide⟩ (by decide) rfl (Nat.le_of_ble_eq_true rfl)) (K' := 8) (S' := 28) (by decide) (by decide) rfl own_pd__Ljava_lang_Object__Z rfl (Nat.le_of_eq rfl) rfl rfl (by decide) (by decide) rfl at_148 rfl (fun v h12 hq => ?_)
    obtain ⟨rfl, KK, F1, F2, F3, V_bb'⟩ := hq
    refine Go.at (st' := [(.int (1 : Int32))]) rfl ?_
    have O := O.keep KK (allS (g_b1) (allS (g_bb) all0))
    have Sz := Nat.le_trans Sz KK.1
    have X_b1 := X_b1.keep KK
    have X_xx := X_xx.keep KK
    have X_yy := X_yy.keep KK
    have X_bb := X_bb.keep KK
    have X_b10 := X_b10.keep KK
    have F_transformations_b10 := F_transformations_b10.keep KK (ninS (Ne.symm ne_b1_b10) (ninS (Ne.symm ne_bb_b10) nin0))
    have X_rr := X_rr.keep KK
    have F_q := F_q.keep KK (ninS (Ne.symm ne_b1_rr) (ninS (Ne.symm ne_bb_rr) nin0))
    have V_ar := V_ar.keep KK (ninS (Ne.symm ne_b1_ar) (ninS (Ne.symm ne_bb_ar) nin0))
    have F_modCount_b1 := F1
    have F_elementData_b1 := F2
    have F_size_b1 := F3
    have V_bb := V_bb'
    refine OwnW.pop C (pc' := 152) at_151 rfl rfl ?_
    refine OwnW.aload C (pc' := 154) at_152 rfl rfl rfl ?_
    refine OwnW.callV C (pc' := 157) (y := (⟨"com/example/schema_facade/schemafacade/channel/Channel", "levels", "()I"⟩ : MethodName)) (z := (⟨"com/example/schema_facade/schemafacade/channel/Channel", "levels", "()I"⟩ : MethodName)) (W := 0) (argsL := []) (rest := []) (hw _ (List.mem_of_getElem? (i := 71) rfl)) (hw _ (List.mem_of_getElem? (i := 72) rfl)) (notFace_of_selects (args := #[]) (mvT C.2.1 (hw _ (List.mem_of_getElem? (i := 74) rfl)))) (hw _ (List.mem_of_getElem? (i := 74) rfl)) (hw _ (List.mem_of_getElem? (i := 73) rfl)) (hw _ (List.mem_of_getElem? (i := 35) rfl)) (hw _ (List.mem_of_getElem? (i := 75) rfl)) X_b10 (by decide) (own_levels_N l Z a0 hw b10 rr ar 5 _ cR h12 n0 F_transformations_b10 X_rr F_q V_ar) (K' := 8) (S' := 28) (by decide) (by decide) rfl own_pd___I rfl (Nat.le_of_eq rfl) rfl rfl (by decide) (by decide) rfl at_154 rfl (fun v h' hq => ?_)
    obtain ⟨hv, hh⟩ := hq
    rw [show ((5 : Int32) + 1) = (6 : Int32) from rfl] at hv; subst hv
    refine Go.at (st' := [(.int (6 : Int32))]) rfl ?_
    refine Go.heap hh ?_
    refine OwnW.istore C (pc' := 159) at_157 rfl (l' := #[.val (.int i0), .val (.int i1), .val (.int i2), .val (.int (5 : Int32)), .val (.ref b1), .val (.ref xx), .val (.ref yy), .val (.ref b10), .val (.int (6 : Int32)), .val (.int (0 : Int32)), .val (.int (6 : Int32))]) rfl ?_
    refine OwnW.iload C (pc' := 161) at_159 rfl rfl ?_
    refine OwnW.iloadN C (pc' := 162) at_161 rfl rfl ?_
    refine OwnW.iconst C (pc' := 163) at_162 rfl (z := 1) rfl ?_
    refine OwnW.iadd C (pc' := 164) at_163 rfl ?_
    rw [show (5 : Int32) + 1 = 6 from rfl]
    refine OwnW.icNe C (pcY := 193) (pcN := 167) at_164 (by decide) rfl rfl (fun hc164 => absurd rfl hc164) (fun hc164 => ?_)
    refine OwnW.iload C (pc' := 169) at_167 rfl rfl ?_
    refine OwnW.iloadN C (pc' := 170) at_169 rfl rfl ?_
    refine OwnW.ifNe C (pcY := 177) (pcN := 173) at_170 (by decide) rfl rfl (fun hc170 => ?_) (fun hc170 => absurd hc170 (by decide))
    refine OwnW.iconst C (pc' := 178) at_177 rfl (z := 0) rfl ?_
    refine OwnW.icNe C (pcY := 193) (pcN := 181) at_178 (by decide) rfl rfl (fun hc178 => absurd rfl hc178) (fun hc178 => ?_)
    refine OwnW.iload C (pc' := 183) at_181 rfl rfl ?_
    refine OwnW.iloadN C (pc' := 184) at_183 rfl rfl ?_
    refine OwnW.iconst C (pc' := 185) at_184 rfl (z := 1) rfl ?_
    refine OwnW.iadd C (pc' := 186) at_185 rfl ?_
    rw [show (5 : Int32) + 1 = 6 from rfl]
    refine OwnW.icNe C (pcY := 193) (pcN := 189) at_186 (by decide) rfl rfl (fun hc186 => absurd rfl hc186) (fun hc186 => ?_)
    refine OwnW.iconst C (pc' := 190) at_189 rfl (z := 1) rfl ?_
    refine OwnW.goto C (pc' := 194) at_190 (by decide) rfl ?_
    exact OwnW.retN C (t := .boolean) (z := (1 : Int32)) rfl (by simp) rfl rfl (by decide) (by decide) at_194
  · rw [hk]
    refine OwnW.iloadN C (pc' := 27) at_26 rfl rfl ?_
    refine OwnW.iconst C (pc' := 28) at_27 rfl (z := 1) rfl ?_
    refine OwnW.icLt C (pcY := 39) (pcN := 31) at_28 (by decide) rfl rfl (fun hc28 => absurd hc28 (by decide)) (fun hc28 => ?_)
    refine OwnW.aload C (pc' := 33) at_31 rfl rfl rfl ?_
    refine OwnW.aload C (pc' := 35) at_33 rfl rfl rfl ?_
    have ne_d : d1 ≠ b1 := O.ne X_d1.lt g_b1
    refine OwnW.callV C (pc' := 38) (y := (⟨"java/util/ArrayList", "add", "(Ljava/lang/Object;)Z"⟩ : MethodName)) (z := (⟨"java/util/ArrayList", "add", "(Ljava/lang/Object;)Z"⟩ : MethodName)) (W := 0) (argsL := [(.ref xx)]) (rest := []) (hw _ (List.mem_of_getElem? (i := 101) rfl)) (hw _ (List.mem_of_getElem? (i := 102) rfl)) (notFace_of_selects (args := #[]) (mvT C.2.1 (hw _ (List.mem_of_getElem? (i := 104) rfl)))) (hw _ (List.mem_of_getElem? (i := 104) rfl)) (hw _ (List.mem_of_getElem? (i := 103) rfl)) (hw _ (List.mem_of_getElem? (i := 2) rfl)) (hw _ (List.mem_of_getElem? (i := 105) rfl)) X_b1 (by decide) (own_add_0 l Z a0 hw b1 xx d1 (0 : Int32) cD h4 n0 Sz X_b1 F_modCount_b1 F_elementData_b1 F_size_b1 g_b1 (V_d1.ext O.2) (S_D.ext O.2) (Ins.of_exa X_xx (hw _ (List.mem_of_getElem? (i := 129) rfl))) ne_d) (K' := 4) (S' := 15) (by decide) (by decide) rfl own_pd__Ljava_lang_Object__Z rfl (Nat.le_of_eq rfl) rfl rfl (by decide) (by decide) rfl at_35 rfl (fun v h5 hq => ?_)
    obtain ⟨rfl, KK, bb, cO, hb, F1, F2, F3, V_bb', X_bb', O_bb⟩ := hq
    refine Go.at (st' := [(.int (1 : Int32))]) rfl ?_
    have ne_b1_bb : b1 ≠ bb := Nat.ne_of_lt (Nat.lt_of_lt_of_le X_b1.lt hb)
    have ne_xx_bb : xx ≠ bb := Nat.ne_of_lt (Nat.lt_of_lt_of_le X_xx.lt hb)
    have ne_yy_bb : yy ≠ bb := Nat.ne_of_lt (Nat.lt_of_lt_of_le X_yy.lt hb)
    have g_bb : n0 ≤ bb := Nat.le_trans Sz hb
    have O := O.keep KK (allS (g_b1) all0)
    have Sz := Nat.le_trans Sz KK.1
    have X_b1 := X_b1.keep KK
    have X_xx := X_xx.keep KK
    have X_yy := X_yy.keep KK
    have X_bb := X_bb'
    have F_modCount_b1 := F1
    have F_elementData_b1 := F2
    have F_size_b1 := F3
    have V_bb := V_bb'
    refine OwnW.pop C (pc' := 39) at_38 rfl rfl ?_
    refine OwnW.iloadN C (pc' := 40) at_39 rfl rfl ?_
    refine OwnW.iconst C (pc' := 41) at_40 rfl (z := 2) rfl ?_
    refine OwnW.icLt C (pcY := 52) (pcN := 44) at_41 (by decide) rfl rfl (fun hc41 => absurd hc41 (by decide)) (fun hc41 => ?_)
    refine OwnW.aload C (pc' := 46) at_44 rfl rfl rfl ?_
    refine OwnW.aload C (pc' := 48) at_46 rfl rfl rfl ?_
    refine OwnW.callV C (pc' := 51) (y := (⟨"java/util/ArrayList", "add", "(Ljava/lang/Object;)Z"⟩ : MethodName)) (z := (⟨"java/util/ArrayList", "add", "(Ljava/lang/Object;)Z"⟩ : MethodName)) (W := 0) (argsL := [(.ref yy)]) (rest := []) (hw _ (List.mem_of_getElem? (i := 101) rfl)) (hw _ (List.mem_of_getElem? (i := 102) rfl)) (notFace_of_selects (args := #[]) (mvT C.2.1 (hw _ (List.mem_of_getElem? (i := 104) rfl)))) (hw _ (List.mem_of_getElem? (i := 104) rfl)) (hw _ (List.mem_of_getElem? (i := 103) rfl)) (hw _ (List.mem_of_getElem? (i := 2) rfl)) (hw _ (List.mem_of_getElem? (i := 105) rfl)) X_b1 (by decide) (own_add_N l Z a0 hw b1 yy bb ((0 : Int32) + 1) 1 2 1 ((List.replicate 10 .null).set 0 (.ref xx)) cO h5 n0 X_b1 F_modCount_b1 F_elementData_b1 F_size_b1 g_b1 V_bb O_bb g_bb ne_b1_bb (Ins.of_exa X_yy (hw _ (List.mem_of_getElem? (i := 129) rfl))) rfl ⟨by decide, by decide⟩ (by decide) rfl (Nat.le_of_ble_eq_true rfl)) (K' := 4) (S' := 15) (by decide) (by decide) rfl own_pd__Ljava_lang_Object__Z rfl (Nat.le_of_eq rfl) rfl rfl (by decide) (by decide) rfl at_48 rfl (fun v h6 hq => ?_)
    obtain ⟨rfl, KK, F1, F2, F3, V_bb'⟩ := hq
    refine Go.at (st' := [(.int (1 : Int32))]) rfl ?_
    have O := O.keep KK (allS (g_b1) (allS (g_bb) all0))
    have Sz := Nat.le_trans Sz KK.1
    have X_b1 := X_b1.keep KK
    have X_xx := X_xx.keep KK
    have X_yy := X_yy.keep KK
    have X_bb := X_bb.keep KK
    have F_modCount_b1 := F1
    have F_elementData_b1 := F2
    have F_size_b1 := F3
    have V_bb := V_bb'
    refine OwnW.pop C (pc' := 52) at_51 rfl rfl ?_
    refine OwnW.iloadN C (pc' := 53) at_52 rfl rfl ?_
    refine OwnW.iconst C (pc' := 54) at_53 rfl (z := 3) rfl ?_
    refine OwnW.icLt C (pcY := 65) (pcN := 57) at_54 (by decide) rfl rfl (fun hc54 => absurd hc54 (by decide)) (fun hc54 => ?_)
    refine OwnW.aload C (pc' := 59) at_57 rfl rfl rfl ?_
    refine OwnW.aload C (pc' := 61) at_59 rfl rfl rfl ?_
    refine OwnW.callV C (pc' := 64) (y := (⟨"java/util/ArrayList", "add", "(Ljava/lang/Object;)Z"⟩ : MethodName)) (z := (⟨"java/util/ArrayList", "add", "(Ljava/lang/Object;)Z"⟩ : MethodName)) (W := 0) (argsL := [(.ref xx)]) (rest := []) (hw _ (List.mem_of_getElem? (i := 101) rfl)) (hw _ (List.mem_of_getElem? (i := 102) rfl)) (notFace_of_selects (args := #[]) (mvT C.2.1 (hw _ (List.mem_of_getElem? (i := 104) rfl)))) (hw _ (List.mem_of_getElem? (i := 104) rfl)) (hw _ (List.mem_of_getElem? (i := 103) rfl)) (hw _ (List.mem_of_getElem? (i := 2) rfl)) (hw _ (List.mem_of_getElem? (i := 105) rfl)) X_b1 (by decide) (own_add_N l Z a0 hw b1 xx bb (((0 : Int32) + 1) + 1) 2 3 2 (((List.replicate 10 .null).set 0 (.ref xx)).set 1 (.ref yy)) cO h6 n0 X_b1 F_modCount_b1 F_elementData_b1 F_size_b1 g_b1 V_bb O_bb g_bb ne_b1_bb (Ins.of_exa X_xx (hw _ (List.mem_of_getElem? (i := 129) rfl))) rfl ⟨by decide, by decide⟩ (by decide) rfl (Nat.le_of_ble_eq_true rfl)) (K' := 4) (S' := 15) (by decide) (by decide) rfl own_pd__Ljava_lang_Object__Z rfl (Nat.le_of_eq rfl) rfl rfl (by decide) (by decide) rfl at_61 rfl (fun v h7 hq => ?_)
    obtain ⟨rfl, KK, F1, F2, F3, V_bb'⟩ := hq
    refine Go.at (st' := [(.int (1 : Int32))]) rfl ?_
    have O := O.keep KK (allS (g_b1) (allS (g_bb) all0))
    have Sz := Nat.le_trans Sz KK.1
    have X_b1 := X_b1.keep KK
    have X_xx := X_xx.keep KK
    have X_yy := X_yy.keep KK
    have X_bb := X_bb.keep KK
    have F_modCount_b1 := F1
    have F_elementData_b1 := F2
    have F_size_b1 := F3
    have V_bb := V_bb'
    refine OwnW.pop C (pc' := 65) at_64 rfl rfl ?_
    refine OwnW.iloadN C (pc' := 66) at_65 rfl rfl ?_
    refine OwnW.iconst C (pc' := 67) at_66 rfl (z := 4) rfl ?_
    refine OwnW.icLt C (pcY := 78) (pcN := 70) at_67 (by decide) rfl rfl (fun hc67 => absurd hc67 (by decide)) (fun hc67 => ?_)
    refine OwnW.aload C (pc' := 72) at_70 rfl rfl rfl ?_
    refine OwnW.aload C (pc' := 74) at_72 rfl rfl rfl ?_
    refine OwnW.callV C (pc' := 77) (y := (⟨"java/util/ArrayList", "add", "(Ljava/lang/Object;)Z"⟩ : MethodName)) (z := (⟨"java/util/ArrayList", "add", "(Ljava/lang/Object;)Z"⟩ : MethodName)) (W := 0) (argsL := [(.ref yy)]) (rest := []) (hw _ (List.mem_of_getElem? (i := 101) rfl)) (hw _ (List.mem_of_getElem? (i := 102) rfl)) (notFace_of_selects (args := #[]) (mvT C.2.1 (hw _ (List.mem_of_getElem? (i := 104) rfl)))) (hw _ (List.mem_of_getElem? (i := 104) rfl)) (hw _ (List.mem_of_getElem? (i := 103) rfl)) (hw _ (List.mem_of_getElem? (i := 2) rfl)) (hw _ (List.mem_of_getElem? (i := 105) rfl)) X_b1 (by decide) (own_add_N l Z a0 hw b1 yy bb ((((0 : Int32) + 1) + 1) + 1) 3 4 3 ((((List.replicate 10 .null).set 0 (.ref xx)).set 1 (.ref yy)).set 2 (.ref xx)) cO h7 n0 X_b1 F_modCount_b1 F_elementData_b1 F_size_b1 g_b1 V_bb O_bb g_bb ne_b1_bb (Ins.of_exa X_yy (hw _ (List.mem_of_getElem? (i := 129) rfl))) rfl ⟨by decide, by decide⟩ (by decide) rfl (Nat.le_of_ble_eq_true rfl)) (K' := 4) (S' := 15) (by decide) (by decide) rfl own_pd__Ljava_lang_Object__Z rfl (Nat.le_of_eq rfl) rfl rfl (by decide) (by decide) rfl at_74 rfl (fun v h8 hq => ?_)
    obtain ⟨rfl, KK, F1, F2, F3, V_bb'⟩ := hq
    refine Go.at (st' := [(.int (1 : Int32))]) rfl ?_
    have O := O.keep KK (allS (g_b1) (allS (g_bb) all0))
    have Sz := Nat.le_trans Sz KK.1
    have X_b1 := X_b1.keep KK
    have X_xx := X_xx.keep KK
    have X_yy := X_yy.keep KK
    have X_bb := X_bb.keep KK
    have F_modCount_b1 := F1
    have F_elementData_b1 := F2
    have F_size_b1 := F3
    have V_bb := V_bb'
    refine OwnW.pop C (pc' := 78) at_77 rfl rfl ?_
    refine OwnW.iloadN C (pc' := 79) at_78 rfl rfl ?_
    refine OwnW.iconst C (pc' := 80) at_79 rfl (z := 5) rfl ?_
    refine OwnW.icLt C (pcY := 91) (pcN := 83) at_80 (by decide) rfl rfl (fun hc80 => absurd hc80 (by decide)) (fun hc80 => ?_)
    refine OwnW.aload C (pc' := 85) at_83 rfl rfl rfl ?_
    refine OwnW.aload C (pc' := 87) at_85 rfl rfl rfl ?_
    refine OwnW.callV C (pc' := 90) (y := (⟨"java/util/ArrayList", "add", "(Ljava/lang/Object;)Z"⟩ : MethodName)) (z := (⟨"java/util/ArrayList", "add", "(Ljava/lang/Object;)Z"⟩ : MethodName)) (W := 0) (argsL := [(.ref xx)]) (rest := []) (hw _ (List.mem_of_getElem? (i := 101) rfl)) (hw _ (List.mem_of_getElem? (i := 102) rfl)) (notFace_of_selects (args := #[]) (mvT C.2.1 (hw _ (List.mem_of_getElem? (i := 104) rfl)))) (hw _ (List.mem_of_getElem? (i := 104) rfl)) (hw _ (List.mem_of_getElem? (i := 103) rfl)) (hw _ (List.mem_of_getElem? (i := 2) rfl)) (hw _ (List.mem_of_getElem? (i := 105) rfl)) X_b1 (by decide) (own_add_N l Z a0 hw b1 xx bb (((((0 : Int32) + 1) + 1) + 1) + 1) 4 5 4 (((((List.replicate 10 .null).set 0 (.ref xx)).set 1 (.ref yy)).set 2 (.ref xx)).set 3 (.ref yy)) cO h8 n0 X_b1 F_modCount_b1 F_elementData_b1 F_size_b1 g_b1 V_bb O_bb g_bb ne_b1_bb (Ins.of_exa X_xx (hw _ (List.mem_of_getElem? (i := 129) rfl))) rfl ⟨by decide, by decide⟩ (by decide) rfl (Nat.le_of_ble_eq_true rfl)) (K' := 4) (S' := 15) (by decide) (by decide) rfl own_pd__Ljava_lang_Object__Z rfl (Nat.le_of_eq rfl) rfl rfl (by decide) (by decide) rfl at_87 rfl (fun v h9 hq => ?_)
    obtain ⟨rfl, KK, F1, F2, F3, V_bb'⟩ := hq
    refine Go.at (st' := [(.int (1 : Int32))]) rfl ?_
    have O := O.keep KK (allS (g_b1) (allS (g_bb) all0))
    have Sz := Nat.le_trans Sz KK.1
    have X_b1 := X_b1.keep KK
    have X_xx := X_xx.keep KK
    have X_yy := X_yy.keep KK
    have X_bb := X_bb.keep KK
    have F_modCount_b1 := F1
    have F_elementData_b1 := F2
    have F_size_b1 := F3
    have V_bb := V_bb'
    refine OwnW.pop C (pc' := 91) at_90 rfl rfl ?_
    refine OwnW.iloadN C (pc' := 92) at_91 rfl rfl ?_
    refine OwnW.bipush C (pc' := 94) at_92 rfl (z := 6) rfl ?_
    refine OwnW.icLt C (pcY := 105) (pcN := 97) at_94 (by decide) rfl rfl (fun hc94 => absurd hc94 (by decide)) (fun hc94 => ?_)
    refine OwnW.aload C (pc' := 99) at_97 rfl rfl rfl ?_
    refine OwnW.aload C (pc' := 101) at_99 rfl rfl rfl ?_
    refine OwnW.callV C (pc' := 104) (y := (⟨"java/util/ArrayList", "add", "(Ljava/lang/Object;)Z"⟩ : MethodName)) (z := (⟨"java/util/ArrayList", "add", "(Ljava/lang/Object;)Z"⟩ : MethodName)) (W := 0) (argsL := [(.ref yy)]) (rest := []) (hw _ (List.mem_of_getElem? (i := 101) rfl)) (hw _ (List.mem_of_getElem? (i := 102) rfl)) (notFace_of_selects (args := #[]) (mvT C.2.1 (hw _ (List.mem_of_getElem? (i := 104) rfl)))) (hw _ (List.mem_of_getElem? (i := 104) rfl)) (hw _ (List.mem_of_getElem? (i := 103) rfl)) (hw _ (List.mem_of_getElem? (i := 2) rfl)) (hw _ (List.mem_of_getElem? (i := 105) rfl)) X_b1 (by decide) (own_add_N l Z a0 hw b1 yy bb ((((((0 : Int32) + 1) + 1) + 1) + 1) + 1) 5 6 5 ((((((List.replicate 10 .null).set 0 (.ref xx)).set 1 (.ref yy)).set 2 (.ref xx)).set 3 (.ref yy)).set 4 (.ref xx)) cO h9 n0 X_b1 F_modCount_b1 F_elementData_b1 F_size_b1 g_b1 V_bb O_bb g_bb ne_b1_bb (Ins.of_exa X_yy (hw _ (List.mem_of_getElem? (i := 129) rfl))) rfl ⟨by decide, by decide⟩ (by decide) rfl (Nat.le_of_ble_eq_true rfl)) (K' := 4) (S' := 15) (by decide) (by decide) rfl own_pd__Ljava_lang_Object__Z rfl (Nat.le_of_eq rfl) rfl rfl (by decide) (by decide) rfl at_101 rfl (fun v h10 hq => ?_)
    obtain ⟨rfl, KK, F1, F2, F3, V_bb'⟩ := hq
    refine Go.at (st' := [(.int (1 : Int32))]) rfl ?_
    have O := O.keep KK (allS (g_b1) (allS (g_bb) all0))
    have Sz := Nat.le_trans Sz KK.1
    have X_b1 := X_b1.keep KK
    have X_xx := X_xx.keep KK
    have X_yy := X_yy.keep KK
    have X_bb := X_bb.keep KK
    have F_modCount_b1 := F1
    have F_elementData_b1 := F2
    have F_size_b1 := F3
    have V_bb := V_bb'
    refine OwnW.pop C (pc' := 105) at_104 rfl rfl ?_
    refine OwnW.iloadN C (pc' := 106) at_105 rfl rfl ?_
    refine OwnW.bipush C (pc' := 108) at_106 rfl (z := 7) rfl ?_
    refine OwnW.icLt C (pcY := 119) (pcN := 111) at_108 (by decide) rfl rfl (fun hc108 => ?_) (fun hc108 => absurd (by decide) hc108)
    refine OwnW.newO C (pc' := 122) (K' := 5) (S' := 16) (hw _ (List.mem_of_getElem? (i := 33) rfl)) (hw _ (List.mem_of_getElem? (i := 34) rfl)) (hw _ (List.mem_of_getElem? (i := 35) rfl)) at_119 rfl rfl rfl (by decide) (by decide) (fun h11 b11 g11 E11 X_b11 D11 => ?_)
    have ne_b1_b11 : b1 ≠ b11 := Nat.ne_of_lt (Nat.lt_of_lt_of_eq X_b1.lt g11.symm)
    have ne_xx_b11 : xx ≠ b11 := Nat.ne_of_lt (Nat.lt_of_lt_of_eq X_xx.lt g11.symm)
    have ne_yy_b11 : yy ≠ b11 := Nat.ne_of_lt (Nat.lt_of_lt_of_eq X_yy.lt g11.symm)
    have ne_bb_b11 : bb ≠ b11 := Nat.ne_of_lt (Nat.lt_of_lt_of_eq X_bb.lt g11.symm)
    have g_b11 : n0 ≤ b11 := Nat.le_trans Sz (Nat.le_of_eq g11.symm)
    have O := O.ext E11
    have Sz := Nat.le_trans Sz E11.1
    have X_b1 := X_b1.ext E11
    have X_xx := X_xx.ext E11
    have X_yy := X_yy.ext E11
    have X_bb := X_bb.ext E11
    have F_modCount_b1 := F_modCount_b1.ext E11
    have F_elementData_b1 := F_elementData_b1.ext E11
    have F_size_b1 := F_size_b1.ext E11
    have V_bb := V_bb.ext E11
    have F_transformations_b11 : Fld Z h11 b11 "com/example/schema_facade/schemafacade/channel/Channel" "transformations" "Ljava/util/List;" .null := D11 (Or.inr (hw _ (List.mem_of_getElem? (i := 70) rfl))) (ty := (.object "java/util/List")) (by decide)
    refine OwnW.dup C (pc' := 123) at_122 rfl rfl ?_
    refine OwnW.aload C (pc' := 125) at_123 rfl rfl rfl ?_
    refine OwnW.callX C (pc' := 128) (y := (⟨"com/example/schema_facade/schemafacade/channel/Channel", "<init>", "(Ljava/util/List;)V"⟩ : MethodName)) (W := 1) (argsL := [(.ref b1)]) (rest := [(.ref b11)]) rfl (hw _ (List.mem_of_getElem? (i := 36) rfl)) (hw _ (List.mem_of_getElem? (i := 37) rfl)) (hw _ (List.mem_of_getElem? (i := 35) rfl)) (hw _ (List.mem_of_getElem? (i := 38) rfl)) (by decide) (own_chinit_6 l Z a0 hw b11 b1 bb mr xx yy (((((((List.replicate 10 .null).set 0 (.ref xx)).set 1 (.ref yy)).set 2 (.ref xx)).set 3 (.ref yy)).set 4 (.ref xx)).set 5 (.ref yy)) cO h11 n0 X_b11 F_transformations_b11 g_b11 Sz X_b1 F_elementData_b1 F_size_b1 X_bb V_bb M rfl (Ins.of_exa X_xx (hw _ (List.mem_of_getElem? (i := 129) rfl))) (Ins.of_exa X_yy (hw _ (List.mem_of_getElem? (i := 129) rfl)))) (K' := 8) (S' := 30) (by decide) (by decide) rfl own_pd__Ljava_util_List__V rfl (Nat.le_of_eq rfl) rfl rfl (by decide) (by decide) rfl at_125 rfl (fun v h12 hq => ?_)
    obtain ⟨rfl, KK, rr, ar, cR, hr, FT, X_rr', QQ, VE⟩ := hq
    refine Go.at (st' := [(.ref b11)]) rfl ?_
    have ne_b1_rr : b1 ≠ rr := Nat.ne_of_lt (Nat.lt_of_lt_of_le X_b1.lt hr)
    have ne_bb_rr : bb ≠ rr := Nat.ne_of_lt (Nat.lt_of_lt_of_le V_bb.lt hr)
    have ne_b11_rr : b11 ≠ rr := Nat.ne_of_lt (Nat.lt_of_lt_of_le X_b11.lt hr)
    have O := O.keep KK (allS (g_b11) all0)
    have Sz := Nat.le_trans Sz KK.1
    have X_b1 := X_b1.keep KK
    have X_xx := X_xx.keep KK
    have X_yy := X_yy.keep KK
    have X_bb := X_bb.keep KK
    have F_modCount_b1 := F_modCount_b1.keep KK (ninS ne_b1_b11 nin0)
    have F_elementData_b1 := F_elementData_b1.keep KK (ninS ne_b1_b11 nin0)
    have F_size_b1 := F_size_b1.keep KK (ninS ne_b1_b11 nin0)
    have V_bb := V_bb.keep KK (ninS ne_bb_b11 nin0)
    have X_b11 := X_b11.keep KK
    have F_transformations_b11 := FT
    have X_rr := X_rr'
    have F_q := QQ
    have V_ar := VE
    have ne_b1_ar : b1 ≠ ar := own_exa_arv X_b1 V_ar (hw _ (List.mem_of_getElem? (i := 1) rfl))
    have ne_bb_ar : bb ≠ ar := own_arv_ne V_bb V_ar (by decide)
    refine OwnW.astore C (pc' := 130) at_128 rfl rfl (l' := #[.val (.int i0), .val (.int i1), .val (.int i2), .val (.int (6 : Int32)), .val (.ref b1), .val (.ref xx), .val (.ref yy), .val (.ref b11), .unset, .unset, .unset]) rfl ?_
    refine OwnW.aload C (pc' := 132) at_130 rfl rfl rfl ?_
    refine OwnW.callV C (pc' := 135) (y := (⟨"com/example/schema_facade/schemafacade/channel/Channel", "levels", "()I"⟩ : MethodName)) (z := (⟨"com/example/schema_facade/schemafacade/channel/Channel", "levels", "()I"⟩ : MethodName)) (W := 0) (argsL := []) (rest := []) (hw _ (List.mem_of_getElem? (i := 71) rfl)) (hw _ (List.mem_of_getElem? (i := 72) rfl)) (notFace_of_selects (args := #[]) (mvT C.2.1 (hw _ (List.mem_of_getElem? (i := 74) rfl)))) (hw _ (List.mem_of_getElem? (i := 74) rfl)) (hw _ (List.mem_of_getElem? (i := 73) rfl)) (hw _ (List.mem_of_getElem? (i := 35) rfl)) (hw _ (List.mem_of_getElem? (i := 75) rfl)) X_b11 (by decide) (own_levels_N l Z a0 hw b11 rr ar 6 _ cR h12 n0 F_transformations_b11 X_rr F_q V_ar) (K' := 8) (S' := 30) (by decide) (by decide) rfl own_pd___I rfl (Nat.le_of_eq rfl) rfl rfl (by decide) (by decide) rfl at_132 rfl (fun v h' hq => ?_)
    obtain ⟨hv, hh⟩ := hq
    rw [show ((6 : Int32) + 1) = (7 : Int32) from rfl] at hv; subst hv
    refine Go.at (st' := [(.int (7 : Int32))]) rfl ?_
    refine Go.heap hh ?_
    refine OwnW.istore C (pc' := 137) at_135 rfl (l' := #[.val (.int i0), .val (.int i1), .val (.int i2), .val (.int (6 : Int32)), .val (.ref b1), .val (.ref xx), .val (.ref yy), .val (.ref b11), .val (.int (7 : Int32)), .unset, .unset]) rfl ?_
    refine OwnW.aload C (pc' := 139) at_137 rfl rfl rfl ?_
    refine OwnW.callV C (pc' := 142) (y := (⟨"com/example/schema_facade/schemafacade/channel/Channel", "isEmpty", "()Z"⟩ : MethodName)) (z := (⟨"com/example/schema_facade/schemafacade/channel/Channel", "isEmpty", "()Z"⟩ : MethodName)) (W := 0) (argsL := []) (rest := []) (hw _ (List.mem_of_getElem? (i := 88) rfl)) (hw _ (List.mem_of_getElem? (i := 89) rfl)) (notFace_of_selects (args := #[]) (mvT C.2.1 (hw _ (List.mem_of_getElem? (i := 91) rfl)))) (hw _ (List.mem_of_getElem? (i := 91) rfl)) (hw _ (List.mem_of_getElem? (i := 90) rfl)) (hw _ (List.mem_of_getElem? (i := 35) rfl)) (hw _ (List.mem_of_getElem? (i := 92) rfl)) X_b11 (by decide) (own_isEmpty_N l Z a0 hw b11 rr ar 6 _ cR h12 n0 F_transformations_b11 X_rr F_q V_ar) (K' := 8) (S' := 30) (by decide) (by decide) rfl own_pd___Z rfl (Nat.le_of_eq rfl) rfl rfl (by decide) (by decide) rfl at_139 rfl (fun v h' hq => ?_)
    obtain ⟨hv, hh⟩ := hq
    rw [show (if (6 : Int32) = 0 then (1 : Int32) else 0) = (0 : Int32) from rfl] at hv; subst hv
    refine Go.at (st' := [(.int (0 : Int32))]) rfl ?_
    refine Go.heap hh ?_
    refine OwnW.istore C (pc' := 144) at_142 rfl (l' := #[.val (.int i0), .val (.int i1), .val (.int i2), .val (.int (6 : Int32)), .val (.ref b1), .val (.ref xx), .val (.ref yy), .val (.ref b11), .val (.int (7 : Int32)), .val (.int (0 : Int32)), .unset]) rfl ?_
    refine OwnW.aload C (pc' := 146) at_144 rfl rfl rfl ?_
    refine OwnW.aload C (pc' := 148) at_146 rfl rfl rfl ?_
    refine OwnW.callV C (pc' := 151) (y := (⟨"java/util/ArrayList", "add", "(Ljava/lang/Object;)Z"⟩ : MethodName)) (z := (⟨"java/util/ArrayList", "add", "(Ljava/lang/Object;)Z"⟩ : MethodName)) (W := 0) (argsL := [(.ref yy)]) (rest := []) (hw _ (List.mem_of_getElem? (i := 101) rfl)) (hw _ (List.mem_of_getElem? (i := 102) rfl)) (notFace_of_selects (args := #[]) (mvT C.2.1 (hw _ (List.mem_of_getElem? (i := 104) rfl)))) (hw _ (List.mem_of_getElem? (i := 104) rfl)) (hw _ (List.mem_of_getElem? (i := 103) rfl)) (hw _ (List.mem_of_getElem? (i := 2) rfl)) (hw _ (List.mem_of_getElem? (i := 105) rfl)) X_b1 (by decide) (own_add_N l Z a0 hw b1 yy bb (((((((0 : Int32) + 1) + 1) + 1) + 1) + 1) + 1) 6 7 6 (((((((List.replicate 10 .null).set 0 (.ref xx)).set 1 (.ref yy)).set 2 (.ref xx)).set 3 (.ref yy)).set 4 (.ref xx)).set 5 (.ref yy)) cO h12 n0 X_b1 F_modCount_b1 F_elementData_b1 F_size_b1 g_b1 V_bb O_bb g_bb ne_b1_bb (Ins.of_exa X_yy (hw _ (List.mem_of_getElem? (i := 129) rfl))) rfl ⟨by decide, by decide⟩ (by decide) rfl (Nat.le_of_ble_eq_true rfl)) (K' := 8) (S' := 30) (by decide) (by decide) rfl own_pd__Ljava_lang_Object__Z rfl (Nat.le_of_eq rfl) rfl rfl (by decide) (by decide) rfl at_148 rfl (fun v h13 hq => ?_)
    obtain ⟨rfl, KK, F1, F2, F3, V_bb'⟩ := hq
    refine Go.at (st' := [(.int (1 : Int32))]) rfl ?_
    have O := O.keep KK (allS (g_b1) (allS (g_bb) all0))
    have Sz := Nat.le_trans Sz KK.1
    have X_b1 := X_b1.keep KK
    have X_xx := X_xx.keep KK
    have X_yy := X_yy.keep KK
    have X_bb := X_bb.keep KK
    have X_b11 := X_b11.keep KK
    have F_transformations_b11 := F_transformations_b11.keep KK (ninS (Ne.symm ne_b1_b11) (ninS (Ne.symm ne_bb_b11) nin0))
    have X_rr := X_rr.keep KK
    have F_q := F_q.keep KK (ninS (Ne.symm ne_b1_rr) (ninS (Ne.symm ne_bb_rr) nin0))
    have V_ar := V_ar.keep KK (ninS (Ne.symm ne_b1_ar) (ninS (Ne.symm ne_bb_ar) nin0))
    have F_modCount_b1 := F1
    have F_elementData_b1 := F2
    have F_size_b1 := F3
    have V_bb := V_bb'
    refine OwnW.pop C (pc' := 152) at_151 rfl rfl ?_
    refine OwnW.aload C (pc' := 154) at_152 rfl rfl rfl ?_
    refine OwnW.callV C (pc' := 157) (y := (⟨"com/example/schema_facade/schemafacade/channel/Channel", "levels", "()I"⟩ : MethodName)) (z := (⟨"com/example/schema_facade/schemafacade/channel/Channel", "levels", "()I"⟩ : MethodName)) (W := 0) (argsL := []) (rest := []) (hw _ (List.mem_of_getElem? (i := 71) rfl)) (hw _ (List.mem_of_getElem? (i := 72) rfl)) (notFace_of_selects (args := #[]) (mvT C.2.1 (hw _ (List.mem_of_getElem? (i := 74) rfl)))) (hw _ (List.mem_of_getElem? (i := 74) rfl)) (hw _ (List.mem_of_getElem? (i := 73) rfl)) (hw _ (List.mem_of_getElem? (i := 35) rfl)) (hw _ (List.mem_of_getElem? (i := 75) rfl)) X_b11 (by decide) (own_levels_N l Z a0 hw b11 rr ar 6 _ cR h13 n0 F_transformations_b11 X_rr F_q V_ar) (K' := 8) (S' := 30) (by decide) (by decide) rfl own_pd___I rfl (Nat.le_of_eq rfl) rfl rfl (by decide) (by decide) rfl at_154 rfl (fun v h' hq => ?_)
    obtain ⟨hv, hh⟩ := hq
    rw [show ((6 : Int32) + 1) = (7 : Int32) from rfl] at hv; subst hv
    refine Go.at (st' := [(.int (7 : Int32))]) rfl ?_
    refine Go.heap hh ?_
    refine OwnW.istore C (pc' := 159) at_157 rfl (l' := #[.val (.int i0), .val (.int i1), .val (.int i2), .val (.int (6 : Int32)), .val (.ref b1), .val (.ref xx), .val (.ref yy), .val (.ref b11), .val (.int (7 : Int32)), .val (.int (0 : Int32)), .val (.int (7 : Int32))]) rfl ?_
    refine OwnW.iload C (pc' := 161) at_159 rfl rfl ?_
    refine OwnW.iloadN C (pc' := 162) at_161 rfl rfl ?_
    refine OwnW.iconst C (pc' := 163) at_162 rfl (z := 1) rfl ?_
    refine OwnW.iadd C (pc' := 164) at_163 rfl ?_
    rw [show (6 : Int32) + 1 = 7 from rfl]
    refine OwnW.icNe C (pcY := 193) (pcN := 167) at_164 (by decide) rfl rfl (fun hc164 => absurd rfl hc164) (fun hc164 => ?_)
    refine OwnW.iload C (pc' := 169) at_167 rfl rfl ?_
    refine OwnW.iloadN C (pc' := 170) at_169 rfl rfl ?_
    refine OwnW.ifNe C (pcY := 177) (pcN := 173) at_170 (by decide) rfl rfl (fun hc170 => ?_) (fun hc170 => absurd hc170 (by decide))
    refine OwnW.iconst C (pc' := 178) at_177 rfl (z := 0) rfl ?_
    refine OwnW.icNe C (pcY := 193) (pcN := 181) at_178 (by decide) rfl rfl (fun hc178 => absurd rfl hc178) (fun hc178 => ?_)
    refine OwnW.iload C (pc' := 183) at_181 rfl rfl ?_
    refine OwnW.iloadN C (pc' := 184) at_183 rfl rfl ?_
    refine OwnW.iconst C (pc' := 185) at_184 rfl (z := 1) rfl ?_
    refine OwnW.iadd C (pc' := 186) at_185 rfl ?_
    rw [show (6 : Int32) + 1 = 7 from rfl]
    refine OwnW.icNe C (pcY := 193) (pcN := 189) at_186 (by decide) rfl rfl (fun hc186 => absurd rfl hc186) (fun hc186 => ?_)
    refine OwnW.iconst C (pc' := 190) at_189 rfl (z := 1) rfl ?_
    refine OwnW.goto C (pc' := 194) at_190 (by decide) rfl ?_
    exact OwnW.retN C (t := .boolean) (z := (1 : Int32)) rfl (by simp) rfl rfl (by decide) (by decide) at_194
  · rw [hk]
    refine OwnW.iloadN C (pc' := 27) at_26 rfl rfl ?_
    refine OwnW.iconst C (pc' := 28) at_27 rfl (z := 1) rfl ?_
    refine OwnW.icLt C (pcY := 39) (pcN := 31) at_28 (by decide) rfl rfl (fun hc28 => absurd hc28 (by decide)) (fun hc28 => ?_)
    refine OwnW.aload C (pc' := 33) at_31 rfl rfl rfl ?_
    refine OwnW.aload C (pc' := 35) at_33 rfl rfl rfl ?_
    have ne_d : d1 ≠ b1 := O.ne X_d1.lt g_b1
    refine OwnW.callV C (pc' := 38) (y := (⟨"java/util/ArrayList", "add", "(Ljava/lang/Object;)Z"⟩ : MethodName)) (z := (⟨"java/util/ArrayList", "add", "(Ljava/lang/Object;)Z"⟩ : MethodName)) (W := 0) (argsL := [(.ref xx)]) (rest := []) (hw _ (List.mem_of_getElem? (i := 101) rfl)) (hw _ (List.mem_of_getElem? (i := 102) rfl)) (notFace_of_selects (args := #[]) (mvT C.2.1 (hw _ (List.mem_of_getElem? (i := 104) rfl)))) (hw _ (List.mem_of_getElem? (i := 104) rfl)) (hw _ (List.mem_of_getElem? (i := 103) rfl)) (hw _ (List.mem_of_getElem? (i := 2) rfl)) (hw _ (List.mem_of_getElem? (i := 105) rfl)) X_b1 (by decide) (own_add_0 l Z a0 hw b1 xx d1 (0 : Int32) cD h4 n0 Sz X_b1 F_modCount_b1 F_elementData_b1 F_size_b1 g_b1 (V_d1.ext O.2) (S_D.ext O.2) (Ins.of_exa X_xx (hw _ (List.mem_of_getElem? (i := 129) rfl))) ne_d) (K' := 4) (S' := 15) (by decide) (by decide) rfl own_pd__Ljava_lang_Object__Z rfl (Nat.le_of_eq rfl) rfl rfl (by decide) (by decide) rfl at_35 rfl (fun v h5 hq => ?_)
    obtain ⟨rfl, KK, bb, cO, hb, F1, F2, F3, V_bb', X_bb', O_bb⟩ := hq
    refine Go.at (st' := [(.int (1 : Int32))]) rfl ?_
    have ne_b1_bb : b1 ≠ bb := Nat.ne_of_lt (Nat.lt_of_lt_of_le X_b1.lt hb)
    have ne_xx_bb : xx ≠ bb := Nat.ne_of_lt (Nat.lt_of_lt_of_le X_xx.lt hb)
    have ne_yy_bb : yy ≠ bb := Nat.ne_of_lt (Nat.lt_of_lt_of_le X_yy.lt hb)
    have g_bb : n0 ≤ bb := Nat.le_trans Sz hb
    have O := O.keep KK (allS (g_b1) all0)
    have Sz := Nat.le_trans Sz KK.1
    have X_b1 := X_b1.keep KK
    have X_xx := X_xx.keep KK
    have X_yy := X_yy.keep KK
    have X_bb := X_bb'
    have F_modCount_b1 := F1
    have F_elementData_b1 := F2
    have F_size_b1 := F3
    have V_bb := V_bb'
    refine OwnW.pop C (pc' := 39) at_38 rfl rfl ?_
    refine OwnW.iloadN C (pc' := 40) at_39 rfl rfl ?_
    refine OwnW.iconst C (pc' := 41) at_40 rfl (z := 2) rfl ?_
    refine OwnW.icLt C (pcY := 52) (pcN := 44) at_41 (by decide) rfl rfl (fun hc41 => absurd hc41 (by decide)) (fun hc41 => ?_)
    refine OwnW.aload C (pc' := 46) at_44 rfl rfl rfl ?_
    refine OwnW.aload C (pc' := 48) at_46 rfl rfl rfl ?_
    refine OwnW.callV C (pc' := 51) (y := (⟨"java/util/ArrayList", "add", "(Ljava/lang/Object;)Z"⟩ : MethodName)) (z := (⟨"java/util/ArrayList", "add", "(Ljava/lang/Object;)Z"⟩ : MethodName)) (W := 0) (argsL := [(.ref yy)]) (rest := []) (hw _ (List.mem_of_getElem? (i := 101) rfl)) (hw _ (List.mem_of_getElem? (i := 102) rfl)) (notFace_of_selects (args := #[]) (mvT C.2.1 (hw _ (List.mem_of_getElem? (i := 104) rfl)))) (hw _ (List.mem_of_getElem? (i := 104) rfl)) (hw _ (List.mem_of_getElem? (i := 103) rfl)) (hw _ (List.mem_of_getElem? (i := 2) rfl)) (hw _ (List.mem_of_getElem? (i := 105) rfl)) X_b1 (by decide) (own_add_N l Z a0 hw b1 yy bb ((0 : Int32) + 1) 1 2 1 ((List.replicate 10 .null).set 0 (.ref xx)) cO h5 n0 X_b1 F_modCount_b1 F_elementData_b1 F_size_b1 g_b1 V_bb O_bb g_bb ne_b1_bb (Ins.of_exa X_yy (hw _ (List.mem_of_getElem? (i := 129) rfl))) rfl ⟨by decide, by decide⟩ (by decide) rfl (Nat.le_of_ble_eq_true rfl)) (K' := 4) (S' := 15) (by decide) (by decide) rfl own_pd__Ljava_lang_Object__Z rfl (Nat.le_of_eq rfl) rfl rfl (by decide) (by decide) rfl at_48 rfl (fun v h6 hq => ?_)
    obtain ⟨rfl, KK, F1, F2, F3, V_bb'⟩ := hq
    refine Go.at (st' := [(.int (1 : Int32))]) rfl ?_
    have O := O.keep KK (allS (g_b1) (allS (g_bb) all0))
    have Sz := Nat.le_trans Sz KK.1
    have X_b1 := X_b1.keep KK
    have X_xx := X_xx.keep KK
    have X_yy := X_yy.keep KK
    have X_bb := X_bb.keep KK
    have F_modCount_b1 := F1
    have F_elementData_b1 := F2
    have F_size_b1 := F3
    have V_bb := V_bb'
    refine OwnW.pop C (pc' := 52) at_51 rfl rfl ?_
    refine OwnW.iloadN C (pc' := 53) at_52 rfl rfl ?_
    refine OwnW.iconst C (pc' := 54) at_53 rfl (z := 3) rfl ?_
    refine OwnW.icLt C (pcY := 65) (pcN := 57) at_54 (by decide) rfl rfl (fun hc54 => absurd hc54 (by decide)) (fun hc54 => ?_)
    refine OwnW.aload C (pc' := 59) at_57 rfl rfl rfl ?_
    refine OwnW.aload C (pc' := 61) at_59 rfl rfl rfl ?_
    refine OwnW.callV C (pc' := 64) (y := (⟨"java/util/ArrayList", "add", "(Ljava/lang/Object;)Z"⟩ : MethodName)) (z := (⟨"java/util/ArrayList", "add", "(Ljava/lang/Object;)Z"⟩ : MethodName)) (W := 0) (argsL := [(.ref xx)]) (rest := []) (hw _ (List.mem_of_getElem? (i := 101) rfl)) (hw _ (List.mem_of_getElem? (i := 102) rfl)) (notFace_of_selects (args := #[]) (mvT C.2.1 (hw _ (List.mem_of_getElem? (i := 104) rfl)))) (hw _ (List.mem_of_getElem? (i := 104) rfl)) (hw _ (List.mem_of_getElem? (i := 103) rfl)) (hw _ (List.mem_of_getElem? (i := 2) rfl)) (hw _ (List.mem_of_getElem? (i := 105) rfl)) X_b1 (by decide) (own_add_N l Z a0 hw b1 xx bb (((0 : Int32) + 1) + 1) 2 3 2 (((List.replicate 10 .null).set 0 (.ref xx)).set 1 (.ref yy)) cO h6 n0 X_b1 F_modCount_b1 F_elementData_b1 F_size_b1 g_b1 V_bb O_bb g_bb ne_b1_bb (Ins.of_exa X_xx (hw _ (List.mem_of_getElem? (i := 129) rfl))) rfl ⟨by decide, by decide⟩ (by decide) rfl (Nat.le_of_ble_eq_true rfl)) (K' := 4) (S' := 15) (by decide) (by decide) rfl own_pd__Ljava_lang_Object__Z rfl (Nat.le_of_eq rfl) rfl rfl (by decide) (by decide) rfl at_61 rfl (fun v h7 hq => ?_)
    obtain ⟨rfl, KK, F1, F2, F3, V_bb'⟩ := hq
    refine Go.at (st' := [(.int (1 : Int32))]) rfl ?_
    have O := O.keep KK (allS (g_b1) (allS (g_bb) all0))
    have Sz := Nat.le_trans Sz KK.1
    have X_b1 := X_b1.keep KK
    have X_xx := X_xx.keep KK
    have X_yy := X_yy.keep KK
    have X_bb := X_bb.keep KK
    have F_modCount_b1 := F1
    have F_elementData_b1 := F2
    have F_size_b1 := F3
    have V_bb := V_bb'
    refine OwnW.pop C (pc' := 65) at_64 rfl rfl ?_
    refine OwnW.iloadN C (pc' := 66) at_65 rfl rfl ?_
    refine OwnW.iconst C (pc' := 67) at_66 rfl (z := 4) rfl ?_
    refine OwnW.icLt C (pcY := 78) (pcN := 70) at_67 (by decide) rfl rfl (fun hc67 => absurd hc67 (by decide)) (fun hc67 => ?_)
    refine OwnW.aload C (pc' := 72) at_70 rfl rfl rfl ?_
    refine OwnW.aload C (pc' := 74) at_72 rfl rfl rfl ?_
    refine OwnW.callV C (pc' := 77) (y := (⟨"java/util/ArrayList", "add", "(Ljava/lang/Object;)Z"⟩ : MethodName)) (z := (⟨"java/util/ArrayList", "add", "(Ljava/lang/Object;)Z"⟩ : MethodName)) (W := 0) (argsL := [(.ref yy)]) (rest := []) (hw _ (List.mem_of_getElem? (i := 101) rfl)) (hw _ (List.mem_of_getElem? (i := 102) rfl)) (notFace_of_selects (args := #[]) (mvT C.2.1 (hw _ (List.mem_of_getElem? (i := 104) rfl)))) (hw _ (List.mem_of_getElem? (i := 104) rfl)) (hw _ (List.mem_of_getElem? (i := 103) rfl)) (hw _ (List.mem_of_getElem? (i := 2) rfl)) (hw _ (List.mem_of_getElem? (i := 105) rfl)) X_b1 (by decide) (own_add_N l Z a0 hw b1 yy bb ((((0 : Int32) + 1) + 1) + 1) 3 4 3 ((((List.replicate 10 .null).set 0 (.ref xx)).set 1 (.ref yy)).set 2 (.ref xx)) cO h7 n0 X_b1 F_modCount_b1 F_elementData_b1 F_size_b1 g_b1 V_bb O_bb g_bb ne_b1_bb (Ins.of_exa X_yy (hw _ (List.mem_of_getElem? (i := 129) rfl))) rfl ⟨by decide, by decide⟩ (by decide) rfl (Nat.le_of_ble_eq_true rfl)) (K' := 4) (S' := 15) (by decide) (by decide) rfl own_pd__Ljava_lang_Object__Z rfl (Nat.le_of_eq rfl) rfl rfl (by decide) (by decide) rfl at_74 rfl (fun v h8 hq => ?_)
    obtain ⟨rfl, KK, F1, F2, F3, V_bb'⟩ := hq
    refine Go.at (st' := [(.int (1 : Int32))]) rfl ?_
    have O := O.keep KK (allS (g_b1) (allS (g_bb) all0))
    have Sz := Nat.le_trans Sz KK.1
    have X_b1 := X_b1.keep KK
    have X_xx := X_xx.keep KK
    have X_yy := X_yy.keep KK
    have X_bb := X_bb.keep KK
    have F_modCount_b1 := F1
    have F_elementData_b1 := F2
    have F_size_b1 := F3
    have V_bb := V_bb'
    refine OwnW.pop C (pc' := 78) at_77 rfl rfl ?_
    refine OwnW.iloadN C (pc' := 79) at_78 rfl rfl ?_
    refine OwnW.iconst C (pc' := 80) at_79 rfl (z := 5) rfl ?_
    refine OwnW.icLt C (pcY := 91) (pcN := 83) at_80 (by decide) rfl rfl (fun hc80 => absurd hc80 (by decide)) (fun hc80 => ?_)
    refine OwnW.aload C (pc' := 85) at_83 rfl rfl rfl ?_
    refine OwnW.aload C (pc' := 87) at_85 rfl rfl rfl ?_
    refine OwnW.callV C (pc' := 90) (y := (⟨"java/util/ArrayList", "add", "(Ljava/lang/Object;)Z"⟩ : MethodName)) (z := (⟨"java/util/ArrayList", "add", "(Ljava/lang/Object;)Z"⟩ : MethodName)) (W := 0) (argsL := [(.ref xx)]) (rest := []) (hw _ (List.mem_of_getElem? (i := 101) rfl)) (hw _ (List.mem_of_getElem? (i := 102) rfl)) (notFace_of_selects (args := #[]) (mvT C.2.1 (hw _ (List.mem_of_getElem? (i := 104) rfl)))) (hw _ (List.mem_of_getElem? (i := 104) rfl)) (hw _ (List.mem_of_getElem? (i := 103) rfl)) (hw _ (List.mem_of_getElem? (i := 2) rfl)) (hw _ (List.mem_of_getElem? (i := 105) rfl)) X_b1 (by decide) (own_add_N l Z a0 hw b1 xx bb (((((0 : Int32) + 1) + 1) + 1) + 1) 4 5 4 (((((List.replicate 10 .null).set 0 (.ref xx)).set 1 (.ref yy)).set 2 (.ref xx)).set 3 (.ref yy)) cO h8 n0 X_b1 F_modCount_b1 F_elementData_b1 F_size_b1 g_b1 V_bb O_bb g_bb ne_b1_bb (Ins.of_exa X_xx (hw _ (List.mem_of_getElem? (i := 129) rfl))) rfl ⟨by decide, by decide⟩ (by decide) rfl (Nat.le_of_ble_eq_true rfl)) (K' := 4) (S' := 15) (by decide) (by decide) rfl own_pd__Ljava_lang_Object__Z rfl (Nat.le_of_eq rfl) rfl rfl (by decide) (by decide) rfl at_87 rfl (fun v h9 hq => ?_)
    obtain ⟨rfl, KK, F1, F2, F3, V_bb'⟩ := hq
    refine Go.at (st' := [(.int (1 : Int32))]) rfl ?_
    have O := O.keep KK (allS (g_b1) (allS (g_bb) all0))
    have Sz := Nat.le_trans Sz KK.1
    have X_b1 := X_b1.keep KK
    have X_xx := X_xx.keep KK
    have X_yy := X_yy.keep KK
    have X_bb := X_bb.keep KK
    have F_modCount_b1 := F1
    have F_elementData_b1 := F2
    have F_size_b1 := F3
    have V_bb := V_bb'
    refine OwnW.pop C (pc' := 91) at_90 rfl rfl ?_
    refine OwnW.iloadN C (pc' := 92) at_91 rfl rfl ?_
    refine OwnW.bipush C (pc' := 94) at_92 rfl (z := 6) rfl ?_
    refine OwnW.icLt C (pcY := 105) (pcN := 97) at_94 (by decide) rfl rfl (fun hc94 => absurd hc94 (by decide)) (fun hc94 => ?_)
    refine OwnW.aload C (pc' := 99) at_97 rfl rfl rfl ?_
    refine OwnW.aload C (pc' := 101) at_99 rfl rfl rfl ?_
    refine OwnW.callV C (pc' := 104) (y := (⟨"java/util/ArrayList", "add", "(Ljava/lang/Object;)Z"⟩ : MethodName)) (z := (⟨"java/util/ArrayList", "add", "(Ljava/lang/Object;)Z"⟩ : MethodName)) (W := 0) (argsL := [(.ref yy)]) (rest := []) (hw _ (List.mem_of_getElem? (i := 101) rfl)) (hw _ (List.mem_of_getElem? (i := 102) rfl)) (notFace_of_selects (args := #[]) (mvT C.2.1 (hw _ (List.mem_of_getElem? (i := 104) rfl)))) (hw _ (List.mem_of_getElem? (i := 104) rfl)) (hw _ (List.mem_of_getElem? (i := 103) rfl)) (hw _ (List.mem_of_getElem? (i := 2) rfl)) (hw _ (List.mem_of_getElem? (i := 105) rfl)) X_b1 (by decide) (own_add_N l Z a0 hw b1 yy bb ((((((0 : Int32) + 1) + 1) + 1) + 1) + 1) 5 6 5 ((((((List.replicate 10 .null).set 0 (.ref xx)).set 1 (.ref yy)).set 2 (.ref xx)).set 3 (.ref yy)).set 4 (.ref xx)) cO h9 n0 X_b1 F_modCount_b1 F_elementData_b1 F_size_b1 g_b1 V_bb O_bb g_bb ne_b1_bb (Ins.of_exa X_yy (hw _ (List.mem_of_getElem? (i := 129) rfl))) rfl ⟨by decide, by decide⟩ (by decide) rfl (Nat.le_of_ble_eq_true rfl)) (K' := 4) (S' := 15) (by decide) (by decide) rfl own_pd__Ljava_lang_Object__Z rfl (Nat.le_of_eq rfl) rfl rfl (by decide) (by decide) rfl at_101 rfl (fun v h10 hq => ?_)
    obtain ⟨rfl, KK, F1, F2, F3, V_bb'⟩ := hq
    refine Go.at (st' := [(.int (1 : Int32))]) rfl ?_
    have O := O.keep KK (allS (g_b1) (allS (g_bb) all0))
    have Sz := Nat.le_trans Sz KK.1
    have X_b1 := X_b1.keep KK
    have X_xx := X_xx.keep KK
    have X_yy := X_yy.keep KK
    have X_bb := X_bb.keep KK
    have F_modCount_b1 := F1
    have F_elementData_b1 := F2
    have F_size_b1 := F3
    have V_bb := V_bb'
    refine OwnW.pop C (pc' := 105) at_104 rfl rfl ?_
    refine OwnW.iloadN C (pc' := 106) at_105 rfl rfl ?_
    refine OwnW.bipush C (pc' := 108) at_106 rfl (z := 7) rfl ?_
    refine OwnW.icLt C (pcY := 119) (pcN := 111) at_108 (by decide) rfl rfl (fun hc108 => absurd hc108 (by decide)) (fun hc108 => ?_)
    refine OwnW.aload C (pc' := 113) at_111 rfl rfl rfl ?_
    refine OwnW.aload C (pc' := 115) at_113 rfl rfl rfl ?_
    refine OwnW.callV C (pc' := 118) (y := (⟨"java/util/ArrayList", "add", "(Ljava/lang/Object;)Z"⟩ : MethodName)) (z := (⟨"java/util/ArrayList", "add", "(Ljava/lang/Object;)Z"⟩ : MethodName)) (W := 0) (argsL := [(.ref xx)]) (rest := []) (hw _ (List.mem_of_getElem? (i := 101) rfl)) (hw _ (List.mem_of_getElem? (i := 102) rfl)) (notFace_of_selects (args := #[]) (mvT C.2.1 (hw _ (List.mem_of_getElem? (i := 104) rfl)))) (hw _ (List.mem_of_getElem? (i := 104) rfl)) (hw _ (List.mem_of_getElem? (i := 103) rfl)) (hw _ (List.mem_of_getElem? (i := 2) rfl)) (hw _ (List.mem_of_getElem? (i := 105) rfl)) X_b1 (by decide) (own_add_N l Z a0 hw b1 xx bb (((((((0 : Int32) + 1) + 1) + 1) + 1) + 1) + 1) 6 7 6 (((((((List.replicate 10 .null).set 0 (.ref xx)).set 1 (.ref yy)).set 2 (.ref xx)).set 3 (.ref yy)).set 4 (.ref xx)).set 5 (.ref yy)) cO h10 n0 X_b1 F_modCount_b1 F_elementData_b1 F_size_b1 g_b1 V_bb O_bb g_bb ne_b1_bb (Ins.of_exa X_xx (hw _ (List.mem_of_getElem? (i := 129) rfl))) rfl ⟨by decide, by decide⟩ (by decide) rfl (Nat.le_of_ble_eq_true rfl)) (K' := 4) (S' := 15) (by decide) (by decide) rfl own_pd__Ljava_lang_Object__Z rfl (Nat.le_of_eq rfl) rfl rfl (by decide) (by decide) rfl at_115 rfl (fun v h11 hq => ?_)
    obtain ⟨rfl, KK, F1, F2, F3, V_bb'⟩ := hq
    refine Go.at (st' := [(.int (1 : Int32))]) rfl ?_
    have O := O.keep KK (allS (g_b1) (allS (g_bb) all0))
    have Sz := Nat.le_trans Sz KK.1
    have X_b1 := X_b1.keep KK
    have X_xx := X_xx.keep KK
    have X_yy := X_yy.keep KK
    have X_bb := X_bb.keep KK
    have F_modCount_b1 := F1
    have F_elementData_b1 := F2
    have F_size_b1 := F3
    have V_bb := V_bb'
    refine OwnW.pop C (pc' := 119) at_118 rfl rfl ?_
    refine OwnW.newO C (pc' := 122) (K' := 5) (S' := 16) (hw _ (List.mem_of_getElem? (i := 33) rfl)) (hw _ (List.mem_of_getElem? (i := 34) rfl)) (hw _ (List.mem_of_getElem? (i := 35) rfl)) at_119 rfl rfl rfl (by decide) (by decide) (fun h12 b12 g12 E12 X_b12 D12 => ?_)
    have ne_b1_b12 : b1 ≠ b12 := Nat.ne_of_lt (Nat.lt_of_lt_of_eq X_b1.lt g12.symm)
    have ne_xx_b12 : xx ≠ b12 := Nat.ne_of_lt (Nat.lt_of_lt_of_eq X_xx.lt g12.symm)
    have ne_yy_b12 : yy ≠ b12 := Nat.ne_of_lt (Nat.lt_of_lt_of_eq X_yy.lt g12.symm)
    have ne_bb_b12 : bb ≠ b12 := Nat.ne_of_lt (Nat.lt_of_lt_of_eq X_bb.lt g12.symm)
    have g_b12 : n0 ≤ b12 := Nat.le_trans Sz (Nat.le_of_eq g12.symm)
    have O := O.ext E12
    have Sz := Nat.le_trans Sz E12.1
    have X_b1 := X_b1.ext E12
    have X_xx := X_xx.ext E12
    have X_yy := X_yy.ext E12
    have X_bb := X_bb.ext E12
    have F_modCount_b1 := F_modCount_b1.ext E12
    have F_elementData_b1 := F_elementData_b1.ext E12
    have F_size_b1 := F_size_b1.ext E12
    have V_bb := V_bb.ext E12
    have F_transformations_b12 : Fld Z h12 b12 "com/example/schema_facade/schemafacade/channel/Channel" "transformations" "Ljava/util/List;" .null := D12 (Or.inr (hw _ (List.mem_of_getElem? (i := 70) rfl))) (ty := (.object "java/util/List")) (by decide)
    refine OwnW.dup C (pc' := 123) at_122 rfl rfl ?_
    refine OwnW.aload C (pc' := 125) at_123 rfl rfl rfl ?_
    refine OwnW.callX C (pc' := 128) (y := (⟨"com/example/schema_facade/schemafacade/channel/Channel", "<init>", "(Ljava/util/List;)V"⟩ : MethodName)) (W := 1) (argsL := [(.ref b1)]) (rest := [(.ref b12)]) rfl (hw _ (List.mem_of_getElem? (i := 36) rfl)) (hw _ (List.mem_of_getElem? (i := 37) rfl)) (hw _ (List.mem_of_getElem? (i := 35) rfl)) (hw _ (List.mem_of_getElem? (i := 38) rfl)) (by decide) (own_chinit_7 l Z a0 hw b12 b1 bb mr xx yy ((((((((List.replicate 10 .null).set 0 (.ref xx)).set 1 (.ref yy)).set 2 (.ref xx)).set 3 (.ref yy)).set 4 (.ref xx)).set 5 (.ref yy)).set 6 (.ref xx)) cO h12 n0 X_b12 F_transformations_b12 g_b12 Sz X_b1 F_elementData_b1 F_size_b1 X_bb V_bb M rfl (Ins.of_exa X_xx (hw _ (List.mem_of_getElem? (i := 129) rfl))) (Ins.of_exa X_yy (hw _ (List.mem_of_getElem? (i := 129) rfl)))) (K' := 8) (S' := 32) (by decide) (by decide) rfl own_pd__Ljava_util_List__V rfl (Nat.le_of_eq rfl) rfl rfl (by decide) (by decide) rfl at_125 rfl (fun v h13 hq => ?_)
    obtain ⟨rfl, KK, rr, ar, cR, hr, FT, X_rr', QQ, VE⟩ := hq
    refine Go.at (st' := [(.ref b12)]) rfl ?_
    have ne_b1_rr : b1 ≠ rr := Nat.ne_of_lt (Nat.lt_of_lt_of_le X_b1.lt hr)
    have ne_bb_rr : bb ≠ rr := Nat.ne_of_lt (Nat.lt_of_lt_of_le V_bb.lt hr)
    have ne_b12_rr : b12 ≠ rr := Nat.ne_of_lt (Nat.lt_of_lt_of_le X_b12.lt hr)
    have O := O.keep KK (allS (g_b12) all0)
    have Sz := Nat.le_trans Sz KK.1
    have X_b1 := X_b1.keep KK
    have X_xx := X_xx.keep KK
    have X_yy := X_yy.keep KK
    have X_bb := X_bb.keep KK
    have F_modCount_b1 := F_modCount_b1.keep KK (ninS ne_b1_b12 nin0)
    have F_elementData_b1 := F_elementData_b1.keep KK (ninS ne_b1_b12 nin0)
    have F_size_b1 := F_size_b1.keep KK (ninS ne_b1_b12 nin0)
    have V_bb := V_bb.keep KK (ninS ne_bb_b12 nin0)
    have X_b12 := X_b12.keep KK
    have F_transformations_b12 := FT
    have X_rr := X_rr'
    have F_q := QQ
    have V_ar := VE
    have ne_b1_ar : b1 ≠ ar := own_exa_arv X_b1 V_ar (hw _ (List.mem_of_getElem? (i := 1) rfl))
    have ne_bb_ar : bb ≠ ar := own_arv_ne V_bb V_ar (by decide)
    refine OwnW.astore C (pc' := 130) at_128 rfl rfl (l' := #[.val (.int i0), .val (.int i1), .val (.int i2), .val (.int (7 : Int32)), .val (.ref b1), .val (.ref xx), .val (.ref yy), .val (.ref b12), .unset, .unset, .unset]) rfl ?_
    refine OwnW.aload C (pc' := 132) at_130 rfl rfl rfl ?_
    refine OwnW.callV C (pc' := 135) (y := (⟨"com/example/schema_facade/schemafacade/channel/Channel", "levels", "()I"⟩ : MethodName)) (z := (⟨"com/example/schema_facade/schemafacade/channel/Channel", "levels", "()I"⟩ : MethodName)) (W := 0) (argsL := []) (rest := []) (hw _ (List.mem_of_getElem? (i := 71) rfl)) (hw _ (List.mem_of_getElem? (i := 72) rfl)) (notFace_of_selects (args := #[]) (mvT C.2.1 (hw _ (List.mem_of_getElem? (i := 74) rfl)))) (hw _ (List.mem_of_getElem? (i := 74) rfl)) (hw _ (List.mem_of_getElem? (i := 73) rfl)) (hw _ (List.mem_of_getElem? (i := 35) rfl)) (hw _ (List.mem_of_getElem? (i := 75) rfl)) X_b12 (by decide) (own_levels_N l Z a0 hw b12 rr ar 7 _ cR h13 n0 F_transformations_b12 X_rr F_q V_ar) (K' := 8) (S' := 32) (by decide) (by decide) rfl own_pd___I rfl (Nat.le_of_eq rfl) rfl rfl (by decide) (by decide) rfl at_132 rfl (fun v h' hq => ?_)
    obtain ⟨hv, hh⟩ := hq
    rw [show ((7 : Int32) + 1) = (8 : Int32) from rfl] at hv; subst hv
    refine Go.at (st' := [(.int (8 : Int32))]) rfl ?_
    refine Go.heap hh ?_
    refine OwnW.istore C (pc' := 137) at_135 rfl (l' := #[.val (.int i0), .val (.int i1), .val (.int i2), .val (.int (7 : Int32)), .val (.ref b1), .val (.ref xx), .val (.ref yy), .val (.ref b12), .val (.int (8 : Int32)), .unset, .unset]) rfl ?_
    refine OwnW.aload C (pc' := 139) at_137 rfl rfl rfl ?_
    refine OwnW.callV C (pc' := 142) (y := (⟨"com/example/schema_facade/schemafacade/channel/Channel", "isEmpty", "()Z"⟩ : MethodName)) (z := (⟨"com/example/schema_facade/schemafacade/channel/Channel", "isEmpty", "()Z"⟩ : MethodName)) (W := 0) (argsL := []) (rest := []) (hw _ (List.mem_of_getElem? (i := 88) rfl)) (hw _ (List.mem_of_getElem? (i := 89) rfl)) (notFace_of_selects (args := #[]) (mvT C.2.1 (hw _ (List.mem_of_getElem? (i := 91) rfl)))) (hw _ (List.mem_of_getElem? (i := 91) rfl)) (hw _ (List.mem_of_getElem? (i := 90) rfl)) (hw _ (List.mem_of_getElem? (i := 35) rfl)) (hw _ (List.mem_of_getElem? (i := 92) rfl)) X_b12 (by decide) (own_isEmpty_N l Z a0 hw b12 rr ar 7 _ cR h13 n0 F_transformations_b12 X_rr F_q V_ar) (K' := 8) (S' := 32) (by decide) (by decide) rfl own_pd___Z rfl (Nat.le_of_eq rfl) rfl rfl (by decide) (by decide) rfl at_139 rfl (fun v h' hq => ?_)
    obtain ⟨hv, hh⟩ := hq
    rw [show (if (7 : Int32) = 0 then (1 : Int32) else 0) = (0 : Int32) from rfl] at hv; subst hv
    refine Go.at (st' := [(.int (0 : Int32))]) rfl ?_
    refine Go.heap hh ?_
    refine OwnW.istore C (pc' := 144) at_142 rfl (l' := #[.val (.int i0), .val (.int i1), .val (.int i2), .val (.int (7 : Int32)), .val (.ref b1), .val (.ref xx), .val (.ref yy), .val (.ref b12), .val (.int (8 : Int32)), .val (.int (0 : Int32)), .unset]) rfl ?_
    refine OwnW.aload C (pc' := 146) at_144 rfl rfl rfl ?_
    refine OwnW.aload C (pc' := 148) at_146 rfl rfl rfl ?_
    refine OwnW.callV C (pc' := 151) (y := (⟨"java/util/ArrayList", "add", "(Ljava/lang/Object;)Z"⟩ : MethodName)) (z := (⟨"java/util/ArrayList", "add", "(Ljava/lang/Object;)Z"⟩ : MethodName)) (W := 0) (argsL := [(.ref yy)]) (rest := []) (hw _ (List.mem_of_getElem? (i := 101) rfl)) (hw _ (List.mem_of_getElem? (i := 102) rfl)) (notFace_of_selects (args := #[]) (mvT C.2.1 (hw _ (List.mem_of_getElem? (i := 104) rfl)))) (hw _ (List.mem_of_getElem? (i := 104) rfl)) (hw _ (List.mem_of_getElem? (i := 103) rfl)) (hw _ (List.mem_of_getElem? (i := 2) rfl)) (hw _ (List.mem_of_getElem? (i := 105) rfl)) X_b1 (by decide) (own_add_N l Z a0 hw b1 yy bb ((((((((0 : Int32) + 1) + 1) + 1) + 1) + 1) + 1) + 1) 7 8 7 ((((((((List.replicate 10 .null).set 0 (.ref xx)).set 1 (.ref yy)).set 2 (.ref xx)).set 3 (.ref yy)).set 4 (.ref xx)).set 5 (.ref yy)).set 6 (.ref xx)) cO h13 n0 X_b1 F_modCount_b1 F_elementData_b1 F_size_b1 g_b1 V_bb O_bb g_bb ne_b1_bb (Ins.of_exa X_yy (hw _ (List.mem_of_getElem? (i := 129) rfl))) rfl ⟨by decide, by decide⟩ (by decide) rfl (Nat.le_of_ble_eq_true rfl)) (K' := 8) (S' := 32) (by decide) (by decide) rfl own_pd__Ljava_lang_Object__Z rfl (Nat.le_of_eq rfl) rfl rfl (by decide) (by decide) rfl at_148 rfl (fun v h14 hq => ?_)
    obtain ⟨rfl, KK, F1, F2, F3, V_bb'⟩ := hq
    refine Go.at (st' := [(.int (1 : Int32))]) rfl ?_
    have O := O.keep KK (allS (g_b1) (allS (g_bb) all0))
    have Sz := Nat.le_trans Sz KK.1
    have X_b1 := X_b1.keep KK
    have X_xx := X_xx.keep KK
    have X_yy := X_yy.keep KK
    have X_bb := X_bb.keep KK
    have X_b12 := X_b12.keep KK
    have F_transformations_b12 := F_transformations_b12.keep KK (ninS (Ne.symm ne_b1_b12) (ninS (Ne.symm ne_bb_b12) nin0))
    have X_rr := X_rr.keep KK
    have F_q := F_q.keep KK (ninS (Ne.symm ne_b1_rr) (ninS (Ne.symm ne_bb_rr) nin0))
    have V_ar := V_ar.keep KK (ninS (Ne.symm ne_b1_ar) (ninS (Ne.symm ne_bb_ar) nin0))
    have F_modCount_b1 := F1
    have F_elementData_b1 := F2
    have F_size_b1 := F3
    have V_bb := V_bb'
    refine OwnW.pop C (pc' := 152) at_151 rfl rfl ?_
    refine OwnW.aload C (pc' := 154) at_152 rfl rfl rfl ?_
    refine OwnW.callV C (pc' := 157) (y := (⟨"com/example/schema_facade/schemafacade/channel/Channel", "levels", "()I"⟩ : MethodName)) (z := (⟨"com/example/schema_facade/schemafacade/channel/Channel", "levels", "()I"⟩ : MethodName)) (W := 0) (argsL := []) (rest := []) (hw _ (List.mem_of_getElem? (i := 71) rfl)) (hw _ (List.mem_of_getElem? (i := 72) rfl)) (notFace_of_selects (args := #[]) (mvT C.2.1 (hw _ (List.mem_of_getElem? (i := 74) rfl)))) (hw _ (List.mem_of_getElem? (i := 74) rfl)) (hw _ (List.mem_of_getElem? (i := 73) rfl)) (hw _ (List.mem_of_getElem? (i := 35) rfl)) (hw _ (List.mem_of_getElem? (i := 75) rfl)) X_b12 (by decide) (own_levels_N l Z a0 hw b12 rr ar 7 _ cR h14 n0 F_transformations_b12 X_rr F_q V_ar) (K' := 8) (S' := 32) (by decide) (by decide) rfl own_pd___I rfl (Nat.le_of_eq rfl) rfl rfl (by decide) (by decide) rfl at_154 rfl (fun v h' hq => ?_)
    obtain ⟨hv, hh⟩ := hq
    rw [show ((7 : Int32) + 1) = (8 : Int32) from rfl] at hv; subst hv
    refine Go.at (st' := [(.int (8 : Int32))]) rfl ?_
    refine Go.heap hh ?_
    refine OwnW.istore C (pc' := 159) at_157 rfl (l' := #[.val (.int i0), .val (.int i1), .val (.int i2), .val (.int (7 : Int32)), .val (.ref b1), .val (.ref xx), .val (.ref yy), .val (.ref b12), .val (.int (8 : Int32)), .val (.int (0 : Int32)), .val (.int (8 : Int32))]) rfl ?_
    refine OwnW.iload C (pc' := 161) at_159 rfl rfl ?_
    refine OwnW.iloadN C (pc' := 162) at_161 rfl rfl ?_
    refine OwnW.iconst C (pc' := 163) at_162 rfl (z := 1) rfl ?_
    refine OwnW.iadd C (pc' := 164) at_163 rfl ?_
    rw [show (7 : Int32) + 1 = 8 from rfl]
    refine OwnW.icNe C (pcY := 193) (pcN := 167) at_164 (by decide) rfl rfl (fun hc164 => absurd rfl hc164) (fun hc164 => ?_)
    refine OwnW.iload C (pc' := 169) at_167 rfl rfl ?_
    refine OwnW.iloadN C (pc' := 170) at_169 rfl rfl ?_
    refine OwnW.ifNe C (pcY := 177) (pcN := 173) at_170 (by decide) rfl rfl (fun hc170 => ?_) (fun hc170 => absurd hc170 (by decide))
    refine OwnW.iconst C (pc' := 178) at_177 rfl (z := 0) rfl ?_
    refine OwnW.icNe C (pcY := 193) (pcN := 181) at_178 (by decide) rfl rfl (fun hc178 => absurd rfl hc178) (fun hc178 => ?_)
    refine OwnW.iload C (pc' := 183) at_181 rfl rfl ?_
    refine OwnW.iloadN C (pc' := 184) at_183 rfl rfl ?_
    refine OwnW.iconst C (pc' := 185) at_184 rfl (z := 1) rfl ?_
    refine OwnW.iadd C (pc' := 186) at_185 rfl ?_
    rw [show (7 : Int32) + 1 = 8 from rfl]
    refine OwnW.icNe C (pcY := 193) (pcN := 189) at_186 (by decide) rfl rfl (fun hc186 => absurd rfl hc186) (fun hc186 => ?_)
    refine OwnW.iconst C (pc' := 190) at_189 rfl (z := 1) rfl ?_
    refine OwnW.goto C (pc' := 194) at_190 (by decide) rfl ?_
    exact OwnW.retN C (t := .boolean) (z := (1 : Int32)) rfl (by simp) rfl rfl (by decide) (by decide) at_194
set_option maxRecDepth 65536 in
set_option maxHeartbeats 40000000 in
theorem own_comes {Post : Tables → Env → Array Value → State → Outcome → State → Prop} (hpost : ∀ tb e args s v u, (limb_1_1.after args s (.returned v) u = true ∧ limb_1_2.after args s (.returned v) u = true) → FrameEnd s (.returned v) u (Jvm.fieldLocs frame_1_writes args s ++ Jvm.arrayLocs frame_1_arrays args s ++ Jvm.staticLocs frame_1_statics s) 24 128 → Post tb e args s (.returned v) u) :
    ArmFor flags0 classFile x code maxLocals ret World_1 tables_1 room_1 Calls_1 rest_1 Pre_1 Post := by
  intro l hfl _ _ p e ha hc hk s m args below hf hA hF happ hP
  obtain ⟨hcalls, hrest, hpre⟩ := hP
  obtain ⟨-, -, -, hnamed, -, -, -, hat⟩ := (Spec.applies_iff hf).mp happ
  obtain ⟨hg, hn⟩ := and_e (Cond.before_iff.mp (show (Jvm.Cond.and given_1 narrow_1).before args s = true from hpre))
  obtain ⟨gl1, gr1⟩ := and_e hg
  obtain ⟨gl2, gr2⟩ := and_e gr1
  obtain ⟨gl3, gr3⟩ := and_e gr2
  obtain ⟨w0, w1, w2, rfl⟩ : ∃ w0 w1 w2 : Value, args = #[w0, w1, w2] := by
    have hs : args.size = 3 := by simpa [Cond.value, given_1] using gl1
    obtain ⟨L⟩ := args
    match L, hs with
    | [w0, w1, w2], _ => exact ⟨w0, w1, w2, rfl⟩
  have hw := fun d (hd : d ∈ tables_1) => atoms_spec (ws := Jvm.Cond.code x code maxLocals ret :: tables_1) hat d (List.mem_cons_of_mem _ hd)
  obtain ⟨i0, ei0⟩ := is_v gl2
  obtain rfl : w0 = (.int i0) := Option.some.inj ei0
  obtain ⟨i1, ei1⟩ := is_v gl3
  obtain rfl : w1 = (.int i1) := Option.some.inj ei1
  obtain ⟨i2, ei2⟩ := is_v gr3
  obtain rfl : w2 = (.int i2) := Option.some.inj ei2
  have hfit : Fit s := fun {y c} hc i hi => by
    obtain ⟨ha, rfl⟩ := Array.getElem?_eq_some_iff.mp hc
    have q := List.all_eq_true.mp ((Array.all_eq_true_iff_forall_mem.mp hF) _ (Array.getElem_mem ha)) i (List.mem_range.mpr hi)
    simpa [Array.getElem?_eq_getElem hi] using q
  obtain ⟨hsets, hown0⟩ := atoms_of _ (rest_1_c_eq ▸ (show rest_1_c.before _ s = true from hrest))
  obtain ⟨d1, ev⟩ := exa_v (Cond.before_iff.mp (hsets _ (List.mem_of_getElem? (i := 7) rfl)))
  have X_d1 := Exa.start ev (Cond.before_iff.mp (hsets _ (List.mem_of_getElem? (i := 7) rfl)))
  obtain ⟨cl, AV⟩ := Arr.start ev (Cond.before_iff.mp (hsets _ (List.mem_of_getElem? (i := 6) rfl)))
  obtain ⟨hl1, hl2⟩ := len_start ev AV (Cond.before_iff.mp (hsets _ (List.mem_of_getElem? (i := 8) rfl)))
  have VV : Arv s s.heap d1 cl.cls (.object "java/lang/Object") 0 [] .null := Arv.start hfit AV hl1 hl2 (by decide) rfl trivial
  have S_D := Sta.start ev (Or.inr ⟨(hw _ (List.mem_of_getElem? (i := 2) rfl)), (hsets _ (List.mem_of_getElem? (i := 2) rfl))⟩)
  have evH := eqv_i (Term.int_eval 127) (Cond.before_iff.mp (hsets _ (List.mem_of_getElem? (i := 12) rfl)))
  have S_H := Sta.start evH (Or.inl (hsets _ (List.mem_of_getElem? (i := 10) rfl)))
  obtain ⟨ca, evC⟩ := exa_v (Cond.before_iff.mp (hsets _ (List.mem_of_getElem? (i := 14) rfl)))
  obtain ⟨cc, AC⟩ := Arr.start evC (Cond.before_iff.mp (hsets _ (List.mem_of_getElem? (i := 13) rfl)))
  obtain ⟨hm1, hm2⟩ := len_start evC AC (Cond.before_iff.mp (hsets _ (List.mem_of_getElem? (i := 15) rfl)))
  have S_C := Sta.start evC (Or.inr ⟨(hw _ (List.mem_of_getElem? (i := 31) rfl)), (hsets _ (List.mem_of_getElem? (i := 11) rfl))⟩)
  have BX := Bxs.start (fun idx => evC) AC hm1 hm2 (by decide) (Cond.before_iff.mp (hsets _ (List.mem_of_getElem? (i := 16) rfl))) (val := fun j => .int (j - 128)) (fun X j hj h => eqv_i (Term.sub_int (idx_at hj) (Term.int_eval 128)) h)
  obtain ⟨el, evL⟩ := exa_v (Cond.before_iff.mp (hsets _ (List.mem_of_getElem? (i := 19) rfl)))
  have X_el := Exa.start evL (Cond.before_iff.mp (hsets _ (List.mem_of_getElem? (i := 19) rfl)))
  have S_EL := Sta.start evL (Or.inl (hsets _ (List.mem_of_getElem? (i := 18) rfl)))
  obtain ⟨ea, evA⟩ := exa_v (Cond.before_iff.mp (hsets _ (List.mem_of_getElem? (i := 21) rfl)))
  have F_el := Fld.start ((fld_at evL).symm.trans evA)
  obtain ⟨ce, AE⟩ := Arr.start evA (Cond.before_iff.mp (hsets _ (List.mem_of_getElem? (i := 20) rfl)))
  obtain ⟨hn1, hn2⟩ := len_start evA AE (Cond.before_iff.mp (hsets _ (List.mem_of_getElem? (i := 22) rfl)))
  have VE : Arv s s.heap ea ce.cls (.object "java/lang/Object") 0 [] .null := Arv.start hfit AE hn1 hn2 (by decide) rfl trivial
  obtain ⟨em, evM⟩ := exa_v (Cond.before_iff.mp (hsets _ (List.mem_of_getElem? (i := 26) rfl)))
  have X_em := Exa.start evM (Cond.before_iff.mp (hsets _ (List.mem_of_getElem? (i := 26) rfl)))
  have S_EM := Sta.start evM (Or.inl (hsets _ (List.mem_of_getElem? (i := 25) rfl)))
  obtain ⟨⟨c9, k9, mr, m1, m2, m3⟩, -⟩ := hcalls
  obtain ⟨n, o, h1, h2, h3, v, L, rfl, ⟨rfl, N⟩, hq⟩ := (own_law l s _ hw i0 i1 i2 d1 ca el ea em mr cl.cls ce.cls cc _ s.heap s.heap.size (Old.start s) (Nat.le_refl _) S_D X_d1 VV S_H S_C BX S_EL X_el F_el VE S_EM X_em ⟨c9, k9, m1, m2, m3.1⟩) tables_1 p e ha hc hk s m _ below hf ((Spec.applies_iff_loose hf).mp happ).1 ⟨rfl, State.Warmed39.refl s, rfl⟩ trivial
  refine ⟨n, _, h1, h2, h3, hpost _ _ _ _ _ _ ⟨Cond.after_iff.mpr rfl, Cond.after_iff.mpr (eq_i res_at (Term.int_eval (1)) rfl)⟩ ⟨hq.1, hq.2.1, (hq.2.2.sift fun y hy => Or.inr (N y hy)).mono (by decide) (by decide)⟩⟩
theorem main_1_1 : Claimed_1_1 := own_comes fun _ _ _ _ _ _ h hF => ⟨h.1, hF⟩
theorem main_1_2 : Claimed_1_2 := own_comes fun _ _ _ _ _ _ h hF => ⟨h.2, hF⟩
end Jvm.Pilot.@@N@@
namespace Jvm.Pilot.@@N@@
open Jvm Jvm.ClassFile Sem Op Lib Jvm.Free Jvm.Stand Jvm.Pilot.@@N@@.Jvm.D
/-! MADE BY PROGRAM (witnessworld.py) out of the Statement's table words and the real class files: 35 classes; the members and pool entries that the words name. The judged class is class 1, her method 1. -/
namespace start1
open Jvm.ClassFile
def u (s : String) : CpInfo := .utf8 (stringToUtf16 s)
/-- a pool by its gaps: so many unusable entries, then the entry; so many at the end -/
def gap : Nat → List CpInfo → List CpInfo
  | 0, r => r
  | n + 1, r => .unusable :: gap n r
def poolList (es : List (Nat × CpInfo)) (last : Nat) : List CpInfo := es.foldr (fun e r => gap e.1 (e.2 :: r)) (gap last [])
def pool (es : List (Nat × CpInfo)) (last : Nat) : Array CpInfo := ⟨poolList es last⟩
def fileOf (pool : Array CpInfo) (this : Nat) (attrs : Array Attribute := #[]) (ms : Array MethodInfo := #[]) (fl : Nat := 33) (sup : Nat := 0) (ifs : Array Nat := #[]) (fds : Array FieldInfo := #[]) : ClassFile where
  minorVersion := 0
  majorVersion := 65
  constantPool := pool
  accessFlags := fl
  thisClass := this
  superClass := sup
  interfaces := ifs
  fields := fds
  methods := ms
  attributes := attrs
def plain (name : String) (sup : Option ClassId) : Class where
  name := name
  kind := .ordinary
  loader := none
  accessFlags := 33
  super := sup
  interfaces := #[]
  cf := none
  fields := #[]
  methods := #[]
  instanceTypes := #[]
  staticTypes := #[]
  resolved := #[]
  callSites := []
  init := .initialized
  statics := none
  mirror := none

def pool0 : Array CpInfo := pool [(5, u "<init>"), (0, u "()V"), (1, .class_ 10), (1, u "java/lang/Object"), (0, u "getClass"), (0, u "()Ljava/lang/Class;")] 111

def k0c0 : Code := { maxStack := 0, maxLocals := 1, code := object_method_1_code, exceptionTable := #[], attributes := #[] }
def k0m0 : Method := { name := "<init>", desc := "()V", sig := { parameters := [], returnType := none }, accessFlags := 1, code := some k0c0 }
def k0m1 : Method := { name := "getClass", desc := "()Ljava/lang/Class;", sig := { parameters := [], returnType := some (.object "java/lang/Class") }, accessFlags := 273, code := none }
/-- java/lang/Object -/
def k0 : Class := { plain "java/lang/Object" none with
  accessFlags := 33
  interfaces := #[]
  cf := some (fileOf pool0 8 #[] #[{ accessFlags := 1, nameIndex := 5, descriptorIndex := 6, attributes := #[] }, { accessFlags := 273, nameIndex := 11, descriptorIndex := 12, attributes := #[] }] 33 0 #[] #[])
  fields := #[]
  methods := #[k0m0, k0m1]
  instanceTypes := #[]
  staticTypes := #[]
  resolved := Array.replicate 124 none
  statics := none }

def pool1 : Array CpInfo := pool [(2, .class_ 4), (0, .nameAndType 5 6), (0, u "java/lang/Object"), (0, u "<init>"), (0, u "()V"), (0, .class_ 8), (0, u "java/util/ArrayList"), (0, .methodref 7 3), (0, .methodref 11 12), (0, .class_ 13), (0, .nameAndType 14 15), (0, u "java/lang/Integer"), (0, u "valueOf"), (0, u "(I)Ljava/lang/Integer;"), (0, .methodref 7 17), (0, .nameAndType 18 19), (0, u "add"), (0, u "(Ljava/lang/Object;)Z"), (0, .class_ 21), (0, u "com/example/schema_facade/schemafacade/channel/Channel"), (0, .methodref 20 23), (0, .nameAndType 5 24), (0, u "(Ljava/util/List;)V"), (0, .methodref 20 26), (0, .nameAndType 27 28), (0, u "levels"), (0, u "()I"), (0, .methodref 20 30), (0, .nameAndType 31 32), (0, u "isEmpty"), (0, u "()Z"), (0, .class_ 34), (0, u "com/example/schema_facade/schemafacade/channel/ChannelLevelsPinLaw"), (2, u "law"), (0, u "(III)Z")] 3

def k1m0 : Method := { name := "<init>", desc := "()V", sig := { parameters := [], returnType := none }, accessFlags := 1, code := none }
def k1c1 : Code := { maxStack := 3, maxLocals := 11, code := code, exceptionTable := #[], attributes := #[] }
def k1m1 : Method := { name := "law", desc := "(III)Z", sig := { parameters := [.int, .int, .int], returnType := some .boolean }, accessFlags := 9, code := some k1c1 }
/-- com/example/schema_facade/schemafacade/channel/ChannelLevelsPinLaw -/
def k1 : Class := { plain "com/example/schema_facade/schemafacade/channel/ChannelLevelsPinLaw" (some 0) with
  accessFlags := 49
  interfaces := #[]
  cf := some (fileOf pool1 33 #[] #[{ accessFlags := 1, nameIndex := 5, descriptorIndex := 6, attributes := #[] }, { accessFlags := 9, nameIndex := 37, descriptorIndex := 38, attributes := #[] }] 49 2 #[] #[])
  fields := #[]
  methods := #[k1m0, k1m1]
  instanceTypes := #[]
  staticTypes := #[]
  resolved := Array.replicate 42 none
  statics := none }

def pool2 : Array CpInfo := pool [(8, .class_ 10), (1, u "java/lang/Iterable"), (24, .class_ 36), (0, u "java/lang/Object")] 25

/-- java/lang/Iterable -/
def k2 : Class := { plain "java/lang/Iterable" (some 0) with
  accessFlags := 1537
  interfaces := #[]
  cf := some (fileOf pool2 8 #[] #[] 1537 35 #[] #[])
  fields := #[]
  methods := #[]
  instanceTypes := #[]
  staticTypes := #[]
  resolved := Array.replicate 62 none
  statics := none }

def pool3 : Array CpInfo := pool [(10, .class_ 12), (1, u "java/util/Collection"), (0, u "toArray"), (16, u "()Z"), (29, .class_ 61), (0, u "java/lang/Object"), (0, .class_ 63), (0, u "java/lang/Iterable"), (2, u "isEmpty"), (3, u "()[Ljava/lang/Object;")] 44

def k3m0 : Method := { name := "isEmpty", desc := "()Z", sig := { parameters := [], returnType := some .boolean }, accessFlags := 1025, code := none }
def k3m1 : Method := { name := "toArray", desc := "()[Ljava/lang/Object;", sig := { parameters := [], returnType := some (.array (.object "java/lang/Object")) }, accessFlags := 1025, code := none }
/-- java/util/Collection -/
def k3 : Class := { plain "java/util/Collection" (some 0) with
  accessFlags := 1537
  interfaces := #[2]
  cf := some (fileOf pool3 10 #[] #[{ accessFlags := 1025, nameIndex := 66, descriptorIndex := 30, attributes := #[] }, { accessFlags := 1025, nameIndex := 13, descriptorIndex := 70, attributes := #[] }] 1537 60 #[62] #[])
  fields := #[]
  methods := #[k3m0, k3m1]
  instanceTypes := #[]
  staticTypes := #[]
  resolved := Array.replicate 115 none
  statics := none }

def pool4 : Array CpInfo := pool [(1, .methodref 2 3), (0, .class_ 4), (0, .nameAndType 5 6), (0, u "java/lang/Object"), (0, u "<init>"), (0, u "()V"), (1, .class_ 10), (1, u "java/util/AbstractCollection"), (66, .class_ 78), (0, u "java/util/Collection")] 81

def k4c0 : Code := { maxStack := 1, maxLocals := 1, code := jdk_22_method_1_code, exceptionTable := #[], attributes := #[] }
def k4m0 : Method := { name := "<init>", desc := "()V", sig := { parameters := [], returnType := none }, accessFlags := 4, code := some k4c0 }
/-- java/util/AbstractCollection -/
def k4 : Class := { plain "java/util/AbstractCollection" (some 0) with
  accessFlags := 1057
  interfaces := #[3]
  cf := some (fileOf pool4 8 #[] #[{ accessFlags := 4, nameIndex := 5, descriptorIndex := 6, attributes := #[] }] 1057 2 #[77] #[])
  fields := #[]
  methods := #[k4m0]
  instanceTypes := #[]
  staticTypes := #[]
  resolved := Array.replicate 160 none
  statics := none }

def pool5 : Array CpInfo := pool [(8, .class_ 10), (1, u "java/util/SequencedCollection"), (15, .class_ 27), (0, u "java/lang/Object"), (0, .class_ 29), (0, u "java/util/Collection")] 27

/-- java/util/SequencedCollection -/
def k5 : Class := { plain "java/util/SequencedCollection" (some 0) with
  accessFlags := 1537
  interfaces := #[3]
  cf := some (fileOf pool5 8 #[] #[] 1537 26 #[28] #[])
  fields := #[]
  methods := #[]
  instanceTypes := #[]
  staticTypes := #[]
  resolved := Array.replicate 57 none
  statics := none }

def pool6 : Array CpInfo := pool [(8, .class_ 10), (1, u "java/util/List"), (7, u "()Z"), (12, u "(Ljava/lang/Object;)V"), (16, u "<init>"), (18, u "isEmpty"), (11, u "size"), (0, u "()I"), (7, u "of"), (1, .fieldref 91 92), (0, .class_ 93), (0, .nameAndType 94 95), (0, u "java/util/ImmutableCollections"), (0, u "EMPTY_LIST"), (0, u "Ljava/util/ImmutableCollections$ListN;"), (0, .class_ 97), (0, u "java/util/ImmutableCollections$List12"), (0, .methodref 96 99), (0, .nameAndType 48 31), (0, .methodref 96 101), (0, .nameAndType 48 102), (0, u "(Ljava/lang/Object;Ljava/lang/Object;)V"), (0, .class_ 104), (0, u "java/lang/Object"), (3, u "([Ljava/lang/Object;)Ljava/util/List;"), (0, .methodref 91 110), (0, .nameAndType 111 108), (0, u "listFromArray"), (0, .methodref 91 113), (0, .nameAndType 114 115), (0, u "listCopy"), (0, u "(Ljava/util/Collection;)Ljava/util/List;"), (3, u "()Ljava/util/List;"), (0, .class_ 121), (0, u "java/util/SequencedCollection"), (112, u "copyOf")] 16

def k6m0 : Method := { name := "size", desc := "()I", sig := { parameters := [], returnType := some .int }, accessFlags := 1025, code := none }
def k6m1 : Method := { name := "isEmpty", desc := "()Z", sig := { parameters := [], returnType := some .boolean }, accessFlags := 1025, code := none }
def k6c2 : Code := { maxStack := 1, maxLocals := 0, code := jdk_40_method_36_code, exceptionTable := #[], attributes := #[] }
def k6m2 : Method := { name := "of", desc := "()Ljava/util/List;", sig := { parameters := [], returnType := some (.object "java/util/List") }, accessFlags := 9, code := some k6c2 }
def k6c3 : Code := { maxStack := 5, maxLocals := 2, code := jdk_40_method_47_code, exceptionTable := #[], attributes := #[] }
def k6m3 : Method := { name := "of", desc := "([Ljava/lang/Object;)Ljava/util/List;", sig := { parameters := [(.array (.object "java/lang/Object"))], returnType := some (.object "java/util/List") }, accessFlags := 137, code := some k6c3 }
def k6c4 : Code := { maxStack := 1, maxLocals := 1, code := jdk_40_method_48_code, exceptionTable := #[], attributes := #[] }
def k6m4 : Method := { name := "copyOf", desc := "(Ljava/util/Collection;)Ljava/util/List;", sig := { parameters := [(.object "java/util/Collection")], returnType := some (.object "java/util/List") }, accessFlags := 9, code := some k6c4 }
/-- java/util/List -/
def k6 : Class := { plain "java/util/List" (some 0) with
  accessFlags := 1537
  interfaces := #[5]
  cf := some (fileOf pool6 8 #[] #[{ accessFlags := 1025, nameIndex := 79, descriptorIndex := 80, attributes := #[] }, { accessFlags := 1025, nameIndex := 67, descriptorIndex := 18, attributes := #[] }, { accessFlags := 9, nameIndex := 88, descriptorIndex := 119, attributes := #[] }, { accessFlags := 137, nameIndex := 88, descriptorIndex := 108, attributes := #[] }, { accessFlags := 9, nameIndex := 234, descriptorIndex := 115, attributes := #[] }] 1537 103 #[120] #[])
  fields := #[]
  methods := #[k6m0, k6m1, k6m2, k6m3, k6m4]
  instanceTypes := #[]
  staticTypes := #[]
  resolved := Array.replicate 251 none
  statics := none }

def pool7 : Array CpInfo := pool [(1, .methodref 2 3), (0, .class_ 4), (0, .nameAndType 5 6), (0, u "java/util/AbstractCollection"), (0, u "<init>"), (0, u "()V"), (0, .fieldref 8 9), (0, .class_ 10), (0, .nameAndType 11 12), (0, u "java/util/AbstractList"), (0, u "modCount"), (0, u "I"), (64, .class_ 78), (0, u "java/util/AbstractList$Itr"), (3, .class_ 83), (0, u "java/util/AbstractList$ListItr"), (9, .class_ 94), (0, u "java/util/AbstractList$RandomAccessSubList"), (3, .class_ 99), (0, u "java/util/AbstractList$SubList"), (33, .class_ 134), (0, u "java/util/List"), (73, .class_ 209), (0, u "java/util/AbstractList$SubList$1"), (0, .class_ 211), (0, u "java/util/AbstractList$RandomAccessSpliterator")] 6

def k7c0 : Code := { maxStack := 2, maxLocals := 1, code := jdk_39_method_1_code, exceptionTable := #[], attributes := #[] }
def k7m0 : Method := { name := "<init>", desc := "()V", sig := { parameters := [], returnType := none }, accessFlags := 4, code := some k7c0 }
/-- java/util/AbstractList -/
def k7 : Class := { plain "java/util/AbstractList" (some 4) with
  accessFlags := 1057
  interfaces := #[6]
  cf := some (fileOf pool7 8 #[.nestMembers #[93, 98, 208, 210, 82, 77]] #[{ accessFlags := 4, nameIndex := 5, descriptorIndex := 6, attributes := #[] }] 1057 2 #[133] #[{ accessFlags := 132, nameIndex := 11, descriptorIndex := 12, attributes := #[] }])
  fields := #[{ name := "modCount", type := .int, accessFlags := 132, slot := 0, constantValue := 0 }]
  methods := #[k7m0]
  instanceTypes := #[.int]
  staticTypes := #[]
  resolved := Array.replicate 218 none
  statics := none }

def pool8 : Array CpInfo := pool [(1, .class_ 2), (0, u "java/util/RandomAccess"), (0, .class_ 4), (0, u "java/lang/Object")] 2

/-- java/util/RandomAccess -/
def k8 : Class := { plain "java/util/RandomAccess" (some 0) with
  accessFlags := 1537
  interfaces := #[]
  cf := some (fileOf pool8 1 #[] #[] 1537 3 #[] #[])
  fields := #[]
  methods := #[]
  instanceTypes := #[]
  staticTypes := #[]
  resolved := Array.replicate 7 none
  statics := none }

def pool9 : Array CpInfo := pool [(1, .class_ 2), (0, u "java/lang/Cloneable"), (0, .class_ 4), (0, u "java/lang/Object")] 2

/-- java/lang/Cloneable -/
def k9 : Class := { plain "java/lang/Cloneable" (some 0) with
  accessFlags := 1537
  interfaces := #[]
  cf := some (fileOf pool9 1 #[] #[] 1537 3 #[] #[])
  fields := #[]
  methods := #[]
  instanceTypes := #[]
  staticTypes := #[]
  resolved := Array.replicate 7 none
  statics := none }

def pool10 : Array CpInfo := pool [(1, .class_ 2), (0, u "java/io/Serializable"), (0, .class_ 4), (0, u "java/lang/Object")] 2

/-- java/io/Serializable -/
def k10 : Class := { plain "java/io/Serializable" (some 0) with
  accessFlags := 1537
  interfaces := #[]
  cf := some (fileOf pool10 1 #[] #[] 1537 3 #[] #[])
  fields := #[]
  methods := #[]
  instanceTypes := #[]
  staticTypes := #[]
  resolved := Array.replicate 7 none
  statics := none }

def pool11 : Array CpInfo := pool [(1, .methodref 2 3), (0, .class_ 4), (0, .nameAndType 5 6), (0, u "java/util/AbstractList"), (0, u "<init>"), (0, u "()V"), (0, .class_ 8), (0, u "java/lang/Object"), (0, .fieldref 10 11), (0, .class_ 12), (0, .nameAndType 13 14), (0, u "java/util/ArrayList"), (0, u "elementData"), (0, u "[Ljava/lang/Object;"), (2, u "EMPTY_ELEMENTDATA"), (21, .fieldref 10 40), (0, .nameAndType 41 14), (0, u "DEFAULTCAPACITY_EMPTY_ELEMENTDATA"), (4, u "toArray"), (0, u "()[Ljava/lang/Object;"), (0, .fieldref 10 49), (0, .nameAndType 50 51), (0, u "size"), (0, u "I"), (6, .class_ 60), (1, u "java/util/Arrays"), (0, u "copyOf"), (1, .fieldref 10 64), (0, .nameAndType 65 51), (0, u "modCount"), (0, .methodref 58 67), (0, .nameAndType 61 68), (0, u "([Ljava/lang/Object;I)[Ljava/lang/Object;"), (0, .methodref 10 70), (0, .nameAndType 71 72), (0, u "grow"), (0, u "(I)[Ljava/lang/Object;"), (6, .methodref 80 81), (0, .class_ 82), (0, .nameAndType 83 84), (0, u "java/lang/Math"), (0, u "max"), (0, u "(II)I"), (11, u "(Ljava/lang/Object;)Z"), (32, .methodref 10 130), (0, .nameAndType 71 47), (0, .methodref 10 132), (0, .nameAndType 133 134), (0, u "add"), (0, u "(Ljava/lang/Object;[Ljava/lang/Object;I)V"), (13, .class_ 149), (0, u "java/util/List"), (23, u "()Z"), (88, .class_ 263), (0, u "java/util/ArrayList$ListItr"), (3, .class_ 268), (0, u "java/util/ArrayList$Itr"), (7, .class_ 277), (0, u "java/util/ArrayList$SubList"), (12, .class_ 291), (0, u "java/util/ArrayList$ArrayListSpliterator"), (37, .class_ 330), (0, u "java/util/RandomAccess"), (0, .class_ 332), (0, u "java/lang/Cloneable"), (0, .class_ 334), (0, u "java/io/Serializable"), (0, u "serialVersionUID"), (0, u "J"), (3, u "DEFAULT_CAPACITY"), (22, u "isEmpty"), (136, .class_ 501), (0, u "java/util/ArrayList$SubList$2"), (0, .class_ 503), (0, u "java/util/ArrayList$SubList$1")] 5

def k11c0 : Code := { maxStack := 2, maxLocals := 1, code := jdk_38_method_2_code, exceptionTable := #[], attributes := #[] }
def k11m0 : Method := { name := "<init>", desc := "()V", sig := { parameters := [], returnType := none }, accessFlags := 1, code := some k11c0 }
def k11c1 : Code := { maxStack := 4, maxLocals := 4, code := jdk_38_method_6_code, exceptionTable := #[], attributes := #[] }
def k11m1 : Method := { name := "grow", desc := "(I)[Ljava/lang/Object;", sig := { parameters := [.int], returnType := some (.array (.object "java/lang/Object")) }, accessFlags := 2, code := some k11c1 }
def k11c2 : Code := { maxStack := 3, maxLocals := 1, code := jdk_38_method_7_code, exceptionTable := #[], attributes := #[] }
def k11m2 : Method := { name := "grow", desc := "()[Ljava/lang/Object;", sig := { parameters := [], returnType := some (.array (.object "java/lang/Object")) }, accessFlags := 2, code := some k11c2 }
def k11c3 : Code := { maxStack := 1, maxLocals := 1, code := jdk_38_method_9_code, exceptionTable := #[], attributes := #[] }
def k11m3 : Method := { name := "isEmpty", desc := "()Z", sig := { parameters := [], returnType := some .boolean }, accessFlags := 1, code := some k11c3 }
def k11c4 : Code := { maxStack := 2, maxLocals := 1, code := jdk_38_method_16_code, exceptionTable := #[], attributes := #[] }
def k11m4 : Method := { name := "toArray", desc := "()[Ljava/lang/Object;", sig := { parameters := [], returnType := some (.array (.object "java/lang/Object")) }, accessFlags := 1, code := some k11c4 }
def k11c5 : Code := { maxStack := 3, maxLocals := 4, code := jdk_38_method_24_code, exceptionTable := #[], attributes := #[] }
def k11m5 : Method := { name := "add", desc := "(Ljava/lang/Object;[Ljava/lang/Object;I)V", sig := { parameters := [(.object "java/lang/Object"), (.array (.object "java/lang/Object")), .int], returnType := none }, accessFlags := 2, code := some k11c5 }
def k11c6 : Code := { maxStack := 4, maxLocals := 2, code := jdk_38_method_25_code, exceptionTable := #[], attributes := #[] }
def k11m6 : Method := { name := "add", desc := "(Ljava/lang/Object;)Z", sig := { parameters := [(.object "java/lang/Object")], returnType := some .boolean }, accessFlags := 1, code := some k11c6 }
/-- java/util/ArrayList -/
def k11 : Class := { plain "java/util/ArrayList" (some 7) with
  accessFlags := 33
  interfaces := #[6, 8, 9, 10]
  cf := some (fileOf pool11 10 #[.nestMembers #[290, 276, 500, 502, 262, 267]] #[{ accessFlags := 1, nameIndex := 5, descriptorIndex := 6, attributes := #[] }, { accessFlags := 2, nameIndex := 71, descriptorIndex := 72, attributes := #[] }, { accessFlags := 2, nameIndex := 71, descriptorIndex := 47, attributes := #[] }, { accessFlags := 1, nameIndex := 363, descriptorIndex := 173, attributes := #[] }, { accessFlags := 1, nameIndex := 46, descriptorIndex := 47, attributes := #[] }, { accessFlags := 2, nameIndex := 133, descriptorIndex := 134, attributes := #[] }, { accessFlags := 1, nameIndex := 133, descriptorIndex := 96, attributes := #[] }] 33 2 #[148, 329, 331, 333] #[{ accessFlags := 26, nameIndex := 335, descriptorIndex := 336, attributes := #[] }, { accessFlags := 26, nameIndex := 340, descriptorIndex := 51, attributes := #[] }, { accessFlags := 26, nameIndex := 17, descriptorIndex := 14, attributes := #[] }, { accessFlags := 26, nameIndex := 41, descriptorIndex := 14, attributes := #[] }, { accessFlags := 128, nameIndex := 13, descriptorIndex := 14, attributes := #[] }, { accessFlags := 2, nameIndex := 50, descriptorIndex := 51, attributes := #[] }])
  fields := #[{ name := "serialVersionUID", type := .long, accessFlags := 26, slot := 0, constantValue := 0 }, { name := "DEFAULT_CAPACITY", type := .int, accessFlags := 26, slot := 1, constantValue := 0 }, { name := "EMPTY_ELEMENTDATA", type := (.array (.object "java/lang/Object")), accessFlags := 26, slot := 2, constantValue := 0 }, { name := "DEFAULTCAPACITY_EMPTY_ELEMENTDATA", type := (.array (.object "java/lang/Object")), accessFlags := 26, slot := 3, constantValue := 0 }, { name := "elementData", type := (.array (.object "java/lang/Object")), accessFlags := 128, slot := 1, constantValue := 0 }, { name := "size", type := .int, accessFlags := 2, slot := 2, constantValue := 0 }]
  methods := #[k11m0, k11m1, k11m2, k11m3, k11m4, k11m5, k11m6]
  instanceTypes := #[.int, (.array (.object "java/lang/Object")), .int]
  staticTypes := #[.long, .int, (.array (.object "java/lang/Object")), (.array (.object "java/lang/Object"))]
  resolved := Array.replicate 509 none
  statics := some 0 }

def pool12 : Array CpInfo := pool [(1, .methodref 2 3), (0, .class_ 4), (0, .nameAndType 5 6), (0, u "java/lang/Object"), (0, u "<init>"), (0, u "()V"), (1, .class_ 10), (1, u "java/lang/Number"), (2, .class_ 14), (0, u "java/io/Serializable"), (0, u "serialVersionUID"), (0, u "J")] 20

def k12c0 : Code := { maxStack := 1, maxLocals := 1, code := jdk_18_method_1_code, exceptionTable := #[], attributes := #[] }
def k12m0 : Method := { name := "<init>", desc := "()V", sig := { parameters := [], returnType := none }, accessFlags := 1, code := some k12c0 }
/-- java/lang/Number -/
def k12 : Class := { plain "java/lang/Number" (some 0) with
  accessFlags := 1057
  interfaces := #[10]
  cf := some (fileOf pool12 8 #[] #[{ accessFlags := 1, nameIndex := 5, descriptorIndex := 6, attributes := #[] }] 1057 2 #[13] #[{ accessFlags := 26, nameIndex := 15, descriptorIndex := 16, attributes := #[] }])
  fields := #[{ name := "serialVersionUID", type := .long, accessFlags := 26, slot := 0, constantValue := 0 }]
  methods := #[k12m0]
  instanceTypes := #[]
  staticTypes := #[.long]
  resolved := Array.replicate 37 none
  statics := none }

def pool13 : Array CpInfo := pool [(1, .class_ 2), (0, u "java/lang/Comparable"), (0, .class_ 4), (0, u "java/lang/Object")] 7

/-- java/lang/Comparable -/
def k13 : Class := { plain "java/lang/Comparable" (some 0) with
  accessFlags := 1537
  interfaces := #[]
  cf := some (fileOf pool13 1 #[] #[] 1537 3 #[] #[])
  fields := #[]
  methods := #[]
  instanceTypes := #[]
  staticTypes := #[]
  resolved := Array.replicate 12 none
  statics := none }

def pool14 : Array CpInfo := pool [(1, .class_ 2), (0, u "java/lang/constant/Constable"), (0, .class_ 4), (0, u "java/lang/Object")] 6

/-- java/lang/constant/Constable -/
def k14 : Class := { plain "java/lang/constant/Constable" (some 0) with
  accessFlags := 1537
  interfaces := #[]
  cf := some (fileOf pool14 1 #[] #[] 1537 3 #[] #[])
  fields := #[]
  methods := #[]
  instanceTypes := #[]
  staticTypes := #[]
  resolved := Array.replicate 11 none
  statics := none }

def pool15 : Array CpInfo := pool [(1, .class_ 2), (0, u "java/lang/constant/ConstantDesc"), (0, .class_ 4), (0, u "java/lang/Object")] 32

/-- java/lang/constant/ConstantDesc -/
def k15 : Class := { plain "java/lang/constant/ConstantDesc" (some 0) with
  accessFlags := 1537
  interfaces := #[]
  cf := some (fileOf pool15 1 #[] #[] 1537 3 #[] #[])
  fields := #[]
  methods := #[]
  instanceTypes := #[]
  staticTypes := #[]
  resolved := Array.replicate 37 none
  statics := none }

def pool16 : Array CpInfo := pool [(1, .class_ 2), (0, u "java/lang/Integer"), (16, u "digits"), (0, u "[C"), (46, u "<init>"), (17, u "DigitOnes"), (0, u "[B"), (2, u "DigitTens"), (10, .nameAndType 67 101), (0, u "()V"), (85, u "valueOf"), (0, u "(I)Ljava/lang/Integer;"), (0, .class_ 190), (0, u "java/lang/Integer$IntegerCache"), (0, .fieldref 189 192), (0, .nameAndType 193 194), (0, u "high"), (0, u "I"), (0, .fieldref 189 196), (0, .nameAndType 197 198), (0, u "cache"), (0, u "[Ljava/lang/Integer;"), (0, .methodref 1 200), (0, .nameAndType 67 201), (0, u "(I)V"), (0, .methodref 203 100), (0, .class_ 204), (0, u "java/lang/Number"), (0, .fieldref 1 206), (0, .nameAndType 207 194), (0, u "value"), (94, u "TYPE"), (0, u "Ljava/lang/Class;"), (0, .class_ 305), (0, u "java/lang/Comparable"), (0, .class_ 307), (0, u "java/lang/constant/Constable"), (0, .class_ 309), (0, u "java/lang/constant/ConstantDesc"), (0, u "MIN_VALUE"), (1, u "MAX_VALUE"), (3, u "SIZE"), (1, u "BYTES"), (1, u "serialVersionUID"), (0, u "J")] 131

def k16c0 : Code := { maxStack := 3, maxLocals := 1, code := jdk_33_method_22_code, exceptionTable := #[], attributes := #[] }
def k16m0 : Method := { name := "valueOf", desc := "(I)Ljava/lang/Integer;", sig := { parameters := [.int], returnType := some (.object "java/lang/Integer") }, accessFlags := 9, code := some k16c0 }
def k16c1 : Code := { maxStack := 2, maxLocals := 2, code := jdk_33_method_23_code, exceptionTable := #[], attributes := #[] }
def k16m1 : Method := { name := "<init>", desc := "(I)V", sig := { parameters := [.int], returnType := none }, accessFlags := 1, code := some k16c1 }
/-- java/lang/Integer -/
def k16 : Class := { plain "java/lang/Integer" (some 12) with
  accessFlags := 49
  interfaces := #[13, 14, 15]
  cf := some (fileOf pool16 1 #[.nestMembers #[189]] #[{ accessFlags := 9, nameIndex := 187, descriptorIndex := 188, attributes := #[] }, { accessFlags := 1, nameIndex := 67, descriptorIndex := 201, attributes := #[] }] 49 203 #[304, 306, 308] #[{ accessFlags := 25, nameIndex := 310, descriptorIndex := 194, attributes := #[] }, { accessFlags := 25, nameIndex := 312, descriptorIndex := 194, attributes := #[] }, { accessFlags := 25, nameIndex := 302, descriptorIndex := 303, attributes := #[] }, { accessFlags := 24, nameIndex := 19, descriptorIndex := 20, attributes := #[] }, { accessFlags := 24, nameIndex := 89, descriptorIndex := 86, attributes := #[] }, { accessFlags := 24, nameIndex := 85, descriptorIndex := 86, attributes := #[] }, { accessFlags := 18, nameIndex := 207, descriptorIndex := 194, attributes := #[] }, { accessFlags := 25, nameIndex := 316, descriptorIndex := 194, attributes := #[] }, { accessFlags := 25, nameIndex := 318, descriptorIndex := 194, attributes := #[] }, { accessFlags := 26, nameIndex := 320, descriptorIndex := 321, attributes := #[] }])
  fields := #[{ name := "MIN_VALUE", type := .int, accessFlags := 25, slot := 0, constantValue := 0 }, { name := "MAX_VALUE", type := .int, accessFlags := 25, slot := 1, constantValue := 0 }, { name := "TYPE", type := (.object "java/lang/Class"), accessFlags := 25, slot := 2, constantValue := 0 }, { name := "digits", type := (.array .char), accessFlags := 24, slot := 3, constantValue := 0 }, { name := "DigitTens", type := (.array .byte), accessFlags := 24, slot := 4, constantValue := 0 }, { name := "DigitOnes", type := (.array .byte), accessFlags := 24, slot := 5, constantValue := 0 }, { name := "value", type := .int, accessFlags := 18, slot := 0, constantValue := 0 }, { name := "SIZE", type := .int, accessFlags := 25, slot := 6, constantValue := 0 }, { name := "BYTES", type := .int, accessFlags := 25, slot := 7, constantValue := 0 }, { name := "serialVersionUID", type := .long, accessFlags := 26, slot := 8, constantValue := 0 }]
  methods := #[k16m0, k16m1]
  instanceTypes := #[.int]
  staticTypes := #[.int, .int, (.object "java/lang/Class"), (.array .char), (.array .byte), (.array .byte), .int, .int, .long]
  resolved := Array.replicate 453 none
  statics := none }

def pool17 : Array CpInfo := pool [(2, .class_ 4), (1, u "java/lang/Object"), (0, u "<init>"), (0, u "()V"), (0, .class_ 8), (0, u "java/lang/Integer"), (7, .class_ 18), (1, u "java/lang/Integer$IntegerCache"), (0, u "$assertionsDisabled"), (0, u "Z"), (26, u "high"), (0, u "I"), (8, u "archivedCache"), (0, u "[Ljava/lang/Integer;"), (12, u "cache"), (0, u "low")] 27

def k17m0 : Method := { name := "<init>", desc := "()V", sig := { parameters := [], returnType := none }, accessFlags := 2, code := none }
/-- java/lang/Integer$IntegerCache -/
def k17 : Class := { plain "java/lang/Integer$IntegerCache" (some 0) with
  accessFlags := 48
  interfaces := #[]
  cf := some (fileOf pool17 16 #[.nestHost 7] #[{ accessFlags := 2, nameIndex := 5, descriptorIndex := 6, attributes := #[] }] 48 2 #[] #[{ accessFlags := 24, nameIndex := 72, descriptorIndex := 48, attributes := #[] }, { accessFlags := 24, nameIndex := 47, descriptorIndex := 48, attributes := #[] }, { accessFlags := 24, nameIndex := 71, descriptorIndex := 58, attributes := #[] }, { accessFlags := 8, nameIndex := 57, descriptorIndex := 58, attributes := #[] }, { accessFlags := 4120, nameIndex := 19, descriptorIndex := 20, attributes := #[] }])
  fields := #[{ name := "low", type := .int, accessFlags := 24, slot := 0, constantValue := 0 }, { name := "high", type := .int, accessFlags := 24, slot := 1, constantValue := 0 }, { name := "cache", type := (.array (.object "java/lang/Integer")), accessFlags := 24, slot := 2, constantValue := 0 }, { name := "archivedCache", type := (.array (.object "java/lang/Integer")), accessFlags := 8, slot := 3, constantValue := 0 }, { name := "$assertionsDisabled", type := .boolean, accessFlags := 4120, slot := 4, constantValue := 0 }]
  methods := #[k17m0]
  instanceTypes := #[]
  staticTypes := #[.int, .int, (.array (.object "java/lang/Integer")), (.array (.object "java/lang/Integer")), .boolean]
  resolved := Array.replicate 100 none
  statics := some 1 }

def pool18 : Array CpInfo := pool [(1, .methodref 2 3), (0, .class_ 4), (0, .nameAndType 5 6), (0, u "java/lang/Object"), (0, u "<init>"), (0, u "()V"), (0, .interfaceMethodref 8 9), (0, .class_ 10), (0, .nameAndType 11 12), (0, u "java/util/List"), (0, u "copyOf"), (0, u "(Ljava/util/Collection;)Ljava/util/List;"), (0, .fieldref 14 15), (0, .class_ 16), (0, .nameAndType 17 18), (0, u "com/example/schema_facade/schemafacade/channel/Channel"), (0, u "transformations"), (0, u "Ljava/util/List;"), (2, u "EMPTY"), (0, u "Lcom/example/schema_facade/schemafacade/channel/Channel;"), (0, .interfaceMethodref 8 24), (0, .nameAndType 25 26), (0, u "isEmpty"), (0, u "()Z"), (0, .interfaceMethodref 8 28), (0, .nameAndType 29 30), (0, u "size"), (0, u "()I"), (73, u "(Ljava/util/List;)V"), (27, .class_ 133), (0, u "com/example/schema_facade/schemafacade/channel/Channel$Translation"), (61, u "levels")] 84

def k18c0 : Code := { maxStack := 2, maxLocals := 2, code := prog_4_method_1_code, exceptionTable := #[], attributes := #[] }
def k18m0 : Method := { name := "<init>", desc := "(Ljava/util/List;)V", sig := { parameters := [(.object "java/util/List")], returnType := none }, accessFlags := 1, code := some k18c0 }
def k18c1 : Code := { maxStack := 1, maxLocals := 1, code := prog_4_method_3_code, exceptionTable := #[], attributes := #[] }
def k18m1 : Method := { name := "isEmpty", desc := "()Z", sig := { parameters := [], returnType := some .boolean }, accessFlags := 1, code := some k18c1 }
def k18c2 : Code := { maxStack := 2, maxLocals := 1, code := prog_4_method_4_code, exceptionTable := #[], attributes := #[] }
def k18m2 : Method := { name := "levels", desc := "()I", sig := { parameters := [], returnType := some .int }, accessFlags := 1, code := some k18c2 }
/-- com/example/schema_facade/schemafacade/channel/Channel -/
def k18 : Class := { plain "com/example/schema_facade/schemafacade/channel/Channel" (some 0) with
  accessFlags := 49
  interfaces := #[]
  cf := some (fileOf pool18 14 #[.nestMembers #[132]] #[{ accessFlags := 1, nameIndex := 5, descriptorIndex := 104, attributes := #[] }, { accessFlags := 1, nameIndex := 25, descriptorIndex := 26, attributes := #[] }, { accessFlags := 1, nameIndex := 195, descriptorIndex := 30, attributes := #[] }] 49 2 #[] #[{ accessFlags := 26, nameIndex := 21, descriptorIndex := 22, attributes := #[] }, { accessFlags := 18, nameIndex := 17, descriptorIndex := 18, attributes := #[] }])
  fields := #[{ name := "EMPTY", type := (.object "com/example/schema_facade/schemafacade/channel/Channel"), accessFlags := 26, slot := 0, constantValue := 0 }, { name := "transformations", type := (.object "java/util/List"), accessFlags := 18, slot := 0, constantValue := 0 }]
  methods := #[k18m0, k18m1, k18m2]
  instanceTypes := #[(.object "java/util/List")]
  staticTypes := #[(.object "com/example/schema_facade/schemafacade/channel/Channel")]
  resolved := Array.replicate 280 none
  statics := none }

def pool19 : Array CpInfo := pool [(2, .class_ 4), (1, u "java/lang/Object"), (0, u "<init>"), (0, u "()V"), (3, .class_ 11), (0, u "java/util/ImmutableCollections$List12"), (0, .class_ 13), (0, u "java/util/ImmutableCollections$ListN"), (3, u "Z"), (0, .class_ 19), (0, u "java/util/List"), (0, .interfaceMethodref 21 22), (0, .class_ 23), (0, .nameAndType 24 25), (0, u "java/util/Collection"), (0, u "isEmpty"), (0, u "()Z"), (0, .interfaceMethodref 18 27), (0, .nameAndType 28 29), (0, u "of"), (0, u "()Ljava/util/List;"), (0, .interfaceMethodref 21 31), (0, .nameAndType 32 33), (0, u "toArray"), (0, u "()[Ljava/lang/Object;"), (0, .interfaceMethodref 18 35), (0, .nameAndType 28 36), (0, u "([Ljava/lang/Object;)Ljava/util/List;"), (0, .methodref 38 39), (0, .class_ 40), (0, .nameAndType 41 42), (0, u "java/util/Objects"), (0, u "requireNonNull"), (0, u "(Ljava/lang/Object;)Ljava/lang/Object;"), (0, .methodref 12 44), (0, .nameAndType 5 45), (0, u "([Ljava/lang/Object;Z)V"), (1, .class_ 49), (1, u "java/util/ImmutableCollections"), (0, u "$assertionsDisabled"), (5, u "[Ljava/lang/Object;"), (5, u "EMPTY_LIST"), (0, u "Ljava/util/ImmutableCollections$ListN;"), (8, u "EMPTY_LIST_NULLS"), (22, u "SALT32L"), (0, u "J"), (2, u "REVERSE"), (6, u "archivedObjects"), (2, u "EMPTY"), (0, u "Ljava/lang/Object;"), (0, .class_ 112), (0, u "java/util/ImmutableCollections$SetN"), (5, u "EMPTY_SET"), (0, u "Ljava/util/ImmutableCollections$SetN;"), (0, .class_ 121), (0, u "java/util/ImmutableCollections$MapN"), (3, u "EMPTY_MAP"), (0, u "Ljava/util/ImmutableCollections$MapN;"), (4, u "EXPAND_FACTOR"), (0, u "I"), (9, u "listCopy"), (0, u "(Ljava/util/Collection;)Ljava/util/List;"), (7, u "listFromArray"), (17, .class_ 170), (0, u "java/util/ImmutableCollections$MapN$MapNIterator"), (0, .class_ 172), (0, u "java/util/ImmutableCollections$MapN$1"), (0, .class_ 174), (0, u "java/util/ImmutableCollections$Map1"), (0, .class_ 176), (0, u "java/util/ImmutableCollections$AbstractImmutableMap"), (0, .class_ 178), (0, u "java/util/ImmutableCollections$SetN$SetNIterator"), (0, .class_ 180), (0, u "java/util/ImmutableCollections$Set12"), (0, .class_ 182), (0, u "java/util/ImmutableCollections$Set12$1"), (0, .class_ 184), (0, u "java/util/ImmutableCollections$AbstractImmutableSet"), (0, .class_ 186), (0, u "java/util/ImmutableCollections$SubList"), (0, .class_ 188), (0, u "java/util/ImmutableCollections$ListItr"), (0, .class_ 190), (0, u "java/util/ImmutableCollections$AbstractImmutableList"), (0, .class_ 192), (0, u "java/util/ImmutableCollections$AbstractImmutableCollection"), (0, .class_ 194), (0, u "java/util/ImmutableCollections$Access"), (0, .class_ 196), (0, u "java/util/ImmutableCollections$Access$1")] 16

def k19m0 : Method := { name := "<init>", desc := "()V", sig := { parameters := [], returnType := none }, accessFlags := 2, code := none }
def k19c1 : Code := { maxStack := 1, maxLocals := 2, code := jdk_56_method_3_code, exceptionTable := #[], attributes := #[] }
def k19m1 : Method := { name := "listCopy", desc := "(Ljava/util/Collection;)Ljava/util/List;", sig := { parameters := [(.object "java/util/Collection")], returnType := some (.object "java/util/List") }, accessFlags := 8, code := some k19c1 }
def k19c2 : Code := { maxStack := 4, maxLocals := 3, code := jdk_56_method_4_code, exceptionTable := #[], attributes := #[] }
def k19m2 : Method := { name := "listFromArray", desc := "([Ljava/lang/Object;)Ljava/util/List;", sig := { parameters := [(.array (.object "java/lang/Object"))], returnType := some (.object "java/util/List") }, accessFlags := 136, code := some k19c2 }
/-- java/util/ImmutableCollections -/
def k19 : Class := { plain "java/util/ImmutableCollections" (some 0) with
  accessFlags := 32
  interfaces := #[]
  cf := some (fileOf pool19 47 #[.nestMembers #[120, 169, 171, 173, 175, 111, 177, 179, 181, 183, 12, 10, 185, 187, 189, 191, 193, 195]] #[{ accessFlags := 2, nameIndex := 5, descriptorIndex := 6, attributes := #[] }, { accessFlags := 8, nameIndex := 142, descriptorIndex := 143, attributes := #[] }, { accessFlags := 136, nameIndex := 151, descriptorIndex := 36, attributes := #[] }] 32 2 #[] #[{ accessFlags := 26, nameIndex := 95, descriptorIndex := 96, attributes := #[] }, { accessFlags := 26, nameIndex := 99, descriptorIndex := 17, attributes := #[] }, { accessFlags := 10, nameIndex := 106, descriptorIndex := 56, attributes := #[] }, { accessFlags := 26, nameIndex := 109, descriptorIndex := 110, attributes := #[] }, { accessFlags := 24, nameIndex := 62, descriptorIndex := 63, attributes := #[] }, { accessFlags := 24, nameIndex := 72, descriptorIndex := 63, attributes := #[] }, { accessFlags := 24, nameIndex := 118, descriptorIndex := 119, attributes := #[] }, { accessFlags := 24, nameIndex := 125, descriptorIndex := 126, attributes := #[] }, { accessFlags := 24, nameIndex := 131, descriptorIndex := 132, attributes := #[] }, { accessFlags := 4120, nameIndex := 50, descriptorIndex := 17, attributes := #[] }])
  fields := #[{ name := "SALT32L", type := .long, accessFlags := 26, slot := 0, constantValue := 0 }, { name := "REVERSE", type := .boolean, accessFlags := 26, slot := 1, constantValue := 0 }, { name := "archivedObjects", type := (.array (.object "java/lang/Object")), accessFlags := 10, slot := 2, constantValue := 0 }, { name := "EMPTY", type := (.object "java/lang/Object"), accessFlags := 26, slot := 3, constantValue := 0 }, { name := "EMPTY_LIST", type := (.object "java/util/ImmutableCollections$ListN"), accessFlags := 24, slot := 4, constantValue := 0 }, { name := "EMPTY_LIST_NULLS", type := (.object "java/util/ImmutableCollections$ListN"), accessFlags := 24, slot := 5, constantValue := 0 }, { name := "EMPTY_SET", type := (.object "java/util/ImmutableCollections$SetN"), accessFlags := 24, slot := 6, constantValue := 0 }, { name := "EMPTY_MAP", type := (.object "java/util/ImmutableCollections$MapN"), accessFlags := 24, slot := 7, constantValue := 0 }, { name := "EXPAND_FACTOR", type := .int, accessFlags := 24, slot := 8, constantValue := 0 }, { name := "$assertionsDisabled", type := .boolean, accessFlags := 4120, slot := 9, constantValue := 0 }]
  methods := #[k19m0, k19m1, k19m2]
  instanceTypes := #[]
  staticTypes := #[.long, .boolean, (.array (.object "java/lang/Object")), (.object "java/lang/Object"), (.object "java/util/ImmutableCollections$ListN"), (.object "java/util/ImmutableCollections$ListN"), (.object "java/util/ImmutableCollections$SetN"), (.object "java/util/ImmutableCollections$MapN"), .int, .boolean]
  resolved := Array.replicate 213 none
  statics := some 2 }

def pool20 : Array CpInfo := pool [(1, .methodref 2 3), (0, .class_ 4), (0, .nameAndType 5 6), (0, u "java/util/AbstractCollection"), (0, u "<init>"), (0, u "()V"), (1, .class_ 10), (1, u "java/util/ImmutableCollections"), (2, .class_ 14), (0, u "java/util/ImmutableCollections$AbstractImmutableCollection")] 41

def k20c0 : Code := { maxStack := 1, maxLocals := 1, code := jdk_47_method_1_code, exceptionTable := #[], attributes := #[] }
def k20m0 : Method := { name := "<init>", desc := "()V", sig := { parameters := [], returnType := none }, accessFlags := 0, code := some k20c0 }
/-- java/util/ImmutableCollections$AbstractImmutableCollection -/
def k20 : Class := { plain "java/util/ImmutableCollections$AbstractImmutableCollection" (some 4) with
  accessFlags := 1056
  interfaces := #[]
  cf := some (fileOf pool20 13 #[.nestHost 8] #[{ accessFlags := 0, nameIndex := 5, descriptorIndex := 6, attributes := #[] }] 1056 2 #[] #[])
  fields := #[]
  methods := #[k20m0]
  instanceTypes := #[]
  staticTypes := #[]
  resolved := Array.replicate 56 none
  statics := none }

def pool21 : Array CpInfo := pool [(1, .methodref 2 3), (0, .class_ 4), (0, .nameAndType 5 6), (0, u "java/util/ImmutableCollections$AbstractImmutableCollection"), (0, u "<init>"), (0, u "()V"), (1, .class_ 10), (1, u "java/util/ImmutableCollections"), (3, .class_ 16), (1, u "java/util/ImmutableCollections$AbstractImmutableList"), (60, .class_ 78), (0, u "java/util/List"), (45, .class_ 125), (0, u "java/util/RandomAccess")] 70

def k21c0 : Code := { maxStack := 1, maxLocals := 1, code := jdk_46_method_1_code, exceptionTable := #[], attributes := #[] }
def k21m0 : Method := { name := "<init>", desc := "()V", sig := { parameters := [], returnType := none }, accessFlags := 0, code := some k21c0 }
/-- java/util/ImmutableCollections$AbstractImmutableList -/
def k21 : Class := { plain "java/util/ImmutableCollections$AbstractImmutableList" (some 20) with
  accessFlags := 1056
  interfaces := #[6, 8]
  cf := some (fileOf pool21 14 #[.nestHost 8] #[{ accessFlags := 0, nameIndex := 5, descriptorIndex := 6, attributes := #[] }] 1056 2 #[77, 124] #[])
  fields := #[]
  methods := #[k21m0]
  instanceTypes := #[]
  staticTypes := #[]
  resolved := Array.replicate 196 none
  statics := none }

def pool22 : Array CpInfo := pool [(1, .methodref 2 3), (0, .class_ 4), (0, .nameAndType 5 6), (0, u "java/util/ImmutableCollections$AbstractImmutableList"), (0, u "<init>"), (0, u "()V"), (0, .methodref 8 9), (0, .class_ 10), (0, .nameAndType 11 12), (0, u "java/util/Objects"), (0, u "requireNonNull"), (0, u "(Ljava/lang/Object;)Ljava/lang/Object;"), (0, .fieldref 14 15), (0, .class_ 16), (0, .nameAndType 17 18), (0, u "java/util/ImmutableCollections$List12"), (0, u "e0"), (0, u "Ljava/lang/Object;"), (0, .fieldref 20 21), (0, .class_ 22), (0, .nameAndType 23 18), (0, u "java/util/ImmutableCollections"), (0, u "EMPTY"), (0, .fieldref 14 25), (0, .nameAndType 26 18), (0, u "e1"), (24, u "size"), (0, u "()I"), (17, .class_ 71), (0, u "java/io/Serializable"), (4, u "(Ljava/lang/Object;)V"), (8, u "(Ljava/lang/Object;Ljava/lang/Object;)V"), (2, u "isEmpty"), (0, u "()Z")] 35

def k22c0 : Code := { maxStack := 2, maxLocals := 2, code := jdk_44_method_1_code, exceptionTable := #[], attributes := #[] }
def k22m0 : Method := { name := "<init>", desc := "(Ljava/lang/Object;)V", sig := { parameters := [(.object "java/lang/Object")], returnType := none }, accessFlags := 0, code := some k22c0 }
def k22c1 : Code := { maxStack := 2, maxLocals := 3, code := jdk_44_method_2_code, exceptionTable := #[], attributes := #[] }
def k22m1 : Method := { name := "<init>", desc := "(Ljava/lang/Object;Ljava/lang/Object;)V", sig := { parameters := [(.object "java/lang/Object"), (.object "java/lang/Object")], returnType := none }, accessFlags := 0, code := some k22c1 }
def k22c2 : Code := { maxStack := 2, maxLocals := 1, code := jdk_44_method_3_code, exceptionTable := #[], attributes := #[] }
def k22m2 : Method := { name := "size", desc := "()I", sig := { parameters := [], returnType := some .int }, accessFlags := 1, code := some k22c2 }
def k22c3 : Code := { maxStack := 1, maxLocals := 1, code := jdk_44_method_4_code, exceptionTable := #[], attributes := #[] }
def k22m3 : Method := { name := "isEmpty", desc := "()Z", sig := { parameters := [], returnType := some .boolean }, accessFlags := 1, code := some k22c3 }
/-- java/util/ImmutableCollections$List12 -/
def k22 : Class := { plain "java/util/ImmutableCollections$List12" (some 21) with
  accessFlags := 48
  interfaces := #[10]
  cf := some (fileOf pool22 14 #[.nestHost 20] #[{ accessFlags := 0, nameIndex := 5, descriptorIndex := 76, attributes := #[] }, { accessFlags := 0, nameIndex := 5, descriptorIndex := 85, attributes := #[] }, { accessFlags := 1, nameIndex := 51, descriptorIndex := 52, attributes := #[] }, { accessFlags := 1, nameIndex := 88, descriptorIndex := 89, attributes := #[] }] 48 2 #[70] #[{ accessFlags := 18, nameIndex := 17, descriptorIndex := 18, attributes := #[] }, { accessFlags := 18, nameIndex := 26, descriptorIndex := 18, attributes := #[] }])
  fields := #[{ name := "e0", type := (.object "java/lang/Object"), accessFlags := 18, slot := 0, constantValue := 0 }, { name := "e1", type := (.object "java/lang/Object"), accessFlags := 18, slot := 1, constantValue := 0 }]
  methods := #[k22m0, k22m1, k22m2, k22m3]
  instanceTypes := #[(.object "java/lang/Object"), (.object "java/lang/Object")]
  staticTypes := #[]
  resolved := Array.replicate 125 none
  statics := none }

def pool23 : Array CpInfo := pool [(1, .methodref 2 3), (0, .class_ 4), (0, .nameAndType 5 6), (0, u "java/util/ImmutableCollections$AbstractImmutableList"), (0, u "<init>"), (0, u "()V"), (0, .fieldref 8 9), (0, .class_ 10), (0, .nameAndType 11 12), (0, u "java/util/ImmutableCollections$ListN"), (0, u "elements"), (0, u "[Ljava/lang/Object;"), (0, .fieldref 8 14), (0, .nameAndType 15 16), (0, u "allowNulls"), (0, u "Z"), (42, .class_ 60), (0, u "java/io/Serializable"), (4, u "([Ljava/lang/Object;Z)V"), (8, u "isEmpty"), (0, u "()Z"), (1, u "size"), (0, u "()I"), (35, .class_ 115), (0, u "java/util/ImmutableCollections")] 3

def k23c0 : Code := { maxStack := 2, maxLocals := 3, code := jdk_45_method_1_code, exceptionTable := #[], attributes := #[] }
def k23m0 : Method := { name := "<init>", desc := "([Ljava/lang/Object;Z)V", sig := { parameters := [(.array (.object "java/lang/Object")), .boolean], returnType := none }, accessFlags := 2, code := some k23c0 }
def k23c1 : Code := { maxStack := 1, maxLocals := 1, code := jdk_45_method_2_code, exceptionTable := #[], attributes := #[] }
def k23m1 : Method := { name := "isEmpty", desc := "()Z", sig := { parameters := [], returnType := some .boolean }, accessFlags := 1, code := some k23c1 }
def k23c2 : Code := { maxStack := 1, maxLocals := 1, code := jdk_45_method_3_code, exceptionTable := #[], attributes := #[] }
def k23m2 : Method := { name := "size", desc := "()I", sig := { parameters := [], returnType := some .int }, accessFlags := 1, code := some k23c2 }
/-- java/util/ImmutableCollections$ListN -/
def k23 : Class := { plain "java/util/ImmutableCollections$ListN" (some 21) with
  accessFlags := 48
  interfaces := #[10]
  cf := some (fileOf pool23 8 #[.nestHost 114] #[{ accessFlags := 2, nameIndex := 5, descriptorIndex := 65, attributes := #[] }, { accessFlags := 1, nameIndex := 74, descriptorIndex := 75, attributes := #[] }, { accessFlags := 1, nameIndex := 77, descriptorIndex := 78, attributes := #[] }] 48 2 #[59] #[{ accessFlags := 18, nameIndex := 11, descriptorIndex := 12, attributes := #[] }, { accessFlags := 18, nameIndex := 15, descriptorIndex := 16, attributes := #[] }])
  fields := #[{ name := "elements", type := (.array (.object "java/lang/Object")), accessFlags := 18, slot := 0, constantValue := 0 }, { name := "allowNulls", type := .boolean, accessFlags := 18, slot := 1, constantValue := 0 }]
  methods := #[k23m0, k23m1, k23m2]
  instanceTypes := #[(.array (.object "java/lang/Object")), .boolean]
  staticTypes := #[]
  resolved := Array.replicate 119 none
  statics := none }

def pool24 : Array CpInfo := pool [(1, .class_ 2), (0, u "java/lang/Math"), (1, .class_ 6), (1, u "java/lang/Object"), (0, u "<init>"), (0, u "()V"), (89, .class_ 100), (1, u "java/lang/Math$RandomNumberGeneratorHolder"), (71, u "negativeZeroFloatBits"), (0, u "J"), (2, u "negativeZeroDoubleBits"), (21, u "max"), (2, u "min"), (43, u "$assertionsDisabled"), (0, u "Z"), (88, u "(II)I"), (2, u "twoToTheDoubleScaleDown"), (0, u "D"), (4, u "twoToTheDoubleScaleUp"), (9, u "E"), (3, u "PI"), (2, u "TAU"), (2, u "DEGREES_TO_RADIANS"), (0, u "RADIANS_TO_DEGREES")] 94

def k24m0 : Method := { name := "<init>", desc := "()V", sig := { parameters := [], returnType := none }, accessFlags := 2, code := none }
def k24c1 : Code := { maxStack := 2, maxLocals := 2, code := jdk_29_method_65_code, exceptionTable := #[], attributes := #[] }
def k24m1 : Method := { name := "max", desc := "(II)I", sig := { parameters := [.int, .int], returnType := some .int }, accessFlags := 9, code := some k24c1 }
def k24c2 : Code := { maxStack := 2, maxLocals := 2, code := jdk_29_method_69_code, exceptionTable := #[], attributes := #[] }
def k24m2 : Method := { name := "min", desc := "(II)I", sig := { parameters := [.int, .int], returnType := some .int }, accessFlags := 9, code := some k24c2 }
/-- java/lang/Math -/
def k24 : Class := { plain "java/lang/Math" (some 0) with
  accessFlags := 49
  interfaces := #[]
  cf := some (fileOf pool24 1 #[.nestMembers #[98]] #[{ accessFlags := 2, nameIndex := 7, descriptorIndex := 8, attributes := #[] }, { accessFlags := 9, nameIndex := 198, descriptorIndex := 335, attributes := #[] }, { accessFlags := 9, nameIndex := 201, descriptorIndex := 335, attributes := #[] }] 49 4 #[] #[{ accessFlags := 25, nameIndex := 354, descriptorIndex := 339, attributes := #[] }, { accessFlags := 25, nameIndex := 358, descriptorIndex := 339, attributes := #[] }, { accessFlags := 25, nameIndex := 361, descriptorIndex := 339, attributes := #[] }, { accessFlags := 26, nameIndex := 364, descriptorIndex := 339, attributes := #[] }, { accessFlags := 26, nameIndex := 365, descriptorIndex := 339, attributes := #[] }, { accessFlags := 26, nameIndex := 172, descriptorIndex := 173, attributes := #[] }, { accessFlags := 26, nameIndex := 176, descriptorIndex := 173, attributes := #[] }, { accessFlags := 8, nameIndex := 344, descriptorIndex := 339, attributes := #[] }, { accessFlags := 8, nameIndex := 338, descriptorIndex := 339, attributes := #[] }, { accessFlags := 4120, nameIndex := 245, descriptorIndex := 246, attributes := #[] }])
  fields := #[{ name := "E", type := .double, accessFlags := 25, slot := 0, constantValue := 0 }, { name := "PI", type := .double, accessFlags := 25, slot := 1, constantValue := 0 }, { name := "TAU", type := .double, accessFlags := 25, slot := 2, constantValue := 0 }, { name := "DEGREES_TO_RADIANS", type := .double, accessFlags := 26, slot := 3, constantValue := 0 }, { name := "RADIANS_TO_DEGREES", type := .double, accessFlags := 26, slot := 4, constantValue := 0 }, { name := "negativeZeroFloatBits", type := .long, accessFlags := 26, slot := 5, constantValue := 0 }, { name := "negativeZeroDoubleBits", type := .long, accessFlags := 26, slot := 6, constantValue := 0 }, { name := "twoToTheDoubleScaleUp", type := .double, accessFlags := 8, slot := 7, constantValue := 0 }, { name := "twoToTheDoubleScaleDown", type := .double, accessFlags := 8, slot := 8, constantValue := 0 }, { name := "$assertionsDisabled", type := .boolean, accessFlags := 4120, slot := 9, constantValue := 0 }]
  methods := #[k24m0, k24m1, k24m2]
  instanceTypes := #[]
  staticTypes := #[.double, .double, .double, .double, .double, .long, .long, .double, .double, .boolean]
  resolved := Array.replicate 460 none
  statics := none }

def pool25 : Array CpInfo := pool [(2, .class_ 4), (1, u "java/lang/Object"), (0, u "<init>"), (0, u "()V"), (7, .class_ 16), (1, u "java/util/Arrays"), (57, .class_ 76), (1, u "java/util/Arrays$NaturalOrder"), (9, .methodref 2 87), (0, .nameAndType 88 89), (0, u "getClass"), (0, u "()Ljava/lang/Class;"), (20, .class_ 111), (0, u "[Ljava/lang/Object;"), (1, .class_ 115), (1, u "java/util/Arrays$LegacyMergeSort"), (1, u "Z"), (32, .methodref 151 152), (0, .class_ 153), (0, .nameAndType 154 155), (0, u "java/lang/System"), (0, u "arraycopy"), (0, u "(Ljava/lang/Object;ILjava/lang/Object;II)V"), (144, .methodref 14 301), (0, .nameAndType 302 303), (0, u "copyOf"), (0, u "([Ljava/lang/Object;ILjava/lang/Class;)[Ljava/lang/Object;"), (0, .methodref 305 306), (0, .class_ 307), (0, .nameAndType 308 309), (0, u "java/lang/Math"), (0, u "min"), (0, u "(II)I"), (65, .class_ 376), (0, u "java/util/Arrays$ArrayList"), (68, u "$assertionsDisabled"), (269, u "MIN_ARRAY_SORT_GRAN"), (0, u "I"), (2, u "INSERTIONSORT_THRESHOLD"), (140, u "([Ljava/lang/Object;I)[Ljava/lang/Object;"), (114, .class_ 976), (0, u "java/util/Arrays$ArrayItr")] 52

def k25m0 : Method := { name := "<init>", desc := "()V", sig := { parameters := [], returnType := none }, accessFlags := 2, code := none }
def k25c1 : Code := { maxStack := 3, maxLocals := 2, code := jdk_65_method_119_code, exceptionTable := #[], attributes := #[] }
def k25m1 : Method := { name := "copyOf", desc := "([Ljava/lang/Object;I)[Ljava/lang/Object;", sig := { parameters := [(.array (.object "java/lang/Object")), .int], returnType := some (.array (.object "java/lang/Object")) }, accessFlags := 9, code := some k25c1 }
def k25c2 : Code := { maxStack := 6, maxLocals := 4, code := jdk_65_method_120_code, exceptionTable := #[], attributes := #[] }
def k25m2 : Method := { name := "copyOf", desc := "([Ljava/lang/Object;ILjava/lang/Class;)[Ljava/lang/Object;", sig := { parameters := [(.array (.object "java/lang/Object")), .int, (.object "java/lang/Class")], returnType := some (.array (.object "java/lang/Object")) }, accessFlags := 9, code := some k25c2 }
/-- java/util/Arrays -/
def k25 : Class := { plain "java/util/Arrays" (some 0) with
  accessFlags := 49
  interfaces := #[]
  cf := some (fileOf pool25 14 #[.nestMembers #[975, 375, 113, 74]] #[{ accessFlags := 2, nameIndex := 5, descriptorIndex := 6, attributes := #[] }, { accessFlags := 9, nameIndex := 302, descriptorIndex := 860, attributes := #[] }, { accessFlags := 9, nameIndex := 302, descriptorIndex := 303, attributes := #[] }] 49 2 #[] #[{ accessFlags := 26, nameIndex := 715, descriptorIndex := 716, attributes := #[] }, { accessFlags := 26, nameIndex := 719, descriptorIndex := 716, attributes := #[] }, { accessFlags := 4120, nameIndex := 445, descriptorIndex := 117, attributes := #[] }])
  fields := #[{ name := "MIN_ARRAY_SORT_GRAN", type := .int, accessFlags := 26, slot := 0, constantValue := 0 }, { name := "INSERTIONSORT_THRESHOLD", type := .int, accessFlags := 26, slot := 1, constantValue := 0 }, { name := "$assertionsDisabled", type := .boolean, accessFlags := 4120, slot := 2, constantValue := 0 }]
  methods := #[k25m0, k25m1, k25m2]
  instanceTypes := #[]
  staticTypes := #[.int, .int, .boolean]
  resolved := Array.replicate 1029 none
  statics := none }

def pool26 : Array CpInfo := pool [(2, .class_ 4), (1, u "java/lang/Object"), (0, u "<init>"), (0, u "()V"), (1, .class_ 10), (1, u "java/lang/System"), (0, u "allowSecurityManager"), (0, u "I"), (16, u "cons"), (0, u "Ljava/io/Console;"), (77, .class_ 110), (1, u "java/lang/System$CallersHolder"), (43, u "initialErrStream"), (0, u "Ljava/io/PrintStream;"), (19, u "security"), (0, u "Ljava/lang/SecurityManager;"), (31, .class_ 209), (0, u "java/lang/System$1"), (7, u "props"), (0, u "Ljava/util/Properties;"), (2, u "lineSeparator"), (0, u "Ljava/lang/String;"), (96, .class_ 321), (1, u "java/lang/System$LoggerFinder"), (5, .class_ 328), (0, u "java/lang/System$Logger"), (67, u "err"), (2, u "out"), (91, u "notSupportedJnuEncoding"), (15, u "in"), (17, u "initialIn"), (0, u "Ljava/io/InputStream;"), (35, u "bootLayer"), (0, u "Ljava/lang/ModuleLayer;"), (99, .class_ 664), (0, u "java/lang/System$2"), (9, u "NEVER"), (2, u "MAYBE"), (49, u "arraycopy"), (0, u "(Ljava/lang/Object;ILjava/lang/Object;II)V"), (72, .class_ 802), (0, u "java/lang/System$Logger$Level")] 31

def k26m0 : Method := { name := "<init>", desc := "()V", sig := { parameters := [], returnType := none }, accessFlags := 2, code := none }
def k26m1 : Method := { name := "arraycopy", desc := "(Ljava/lang/Object;ILjava/lang/Object;II)V", sig := { parameters := [(.object "java/lang/Object"), .int, (.object "java/lang/Object"), .int, .int], returnType := none }, accessFlags := 265, code := none }
/-- java/lang/System -/
def k26 : Class := { plain "java/lang/System" (some 0) with
  accessFlags := 49
  interfaces := #[]
  cf := some (fileOf pool26 8 #[.nestMembers #[319, 327, 801, 108, 663, 208]] #[{ accessFlags := 2, nameIndex := 5, descriptorIndex := 6, attributes := #[] }, { accessFlags := 265, nameIndex := 727, descriptorIndex := 728, attributes := #[] }] 49 2 #[] #[{ accessFlags := 25, nameIndex := 507, descriptorIndex := 526, attributes := #[] }, { accessFlags := 25, nameIndex := 399, descriptorIndex := 155, attributes := #[] }, { accessFlags := 25, nameIndex := 396, descriptorIndex := 155, attributes := #[] }, { accessFlags := 10, nameIndex := 525, descriptorIndex := 526, attributes := #[] }, { accessFlags := 26, nameIndex := 674, descriptorIndex := 12, attributes := #[] }, { accessFlags := 26, nameIndex := 677, descriptorIndex := 12, attributes := #[] }, { accessFlags := 10, nameIndex := 11, descriptorIndex := 12, attributes := #[] }, { accessFlags := 74, nameIndex := 175, descriptorIndex := 176, attributes := #[] }, { accessFlags := 10, nameIndex := 491, descriptorIndex := 222, attributes := #[] }, { accessFlags := 74, nameIndex := 29, descriptorIndex := 30, attributes := #[] }, { accessFlags := 74, nameIndex := 154, descriptorIndex := 155, attributes := #[] }, { accessFlags := 10, nameIndex := 217, descriptorIndex := 218, attributes := #[] }, { accessFlags := 10, nameIndex := 221, descriptorIndex := 222, attributes := #[] }, { accessFlags := 8, nameIndex := 562, descriptorIndex := 563, attributes := #[] }])
  fields := #[{ name := "in", type := (.object "java/io/InputStream"), accessFlags := 25, slot := 0, constantValue := 0 }, { name := "out", type := (.object "java/io/PrintStream"), accessFlags := 25, slot := 1, constantValue := 0 }, { name := "err", type := (.object "java/io/PrintStream"), accessFlags := 25, slot := 2, constantValue := 0 }, { name := "initialIn", type := (.object "java/io/InputStream"), accessFlags := 10, slot := 3, constantValue := 0 }, { name := "NEVER", type := .int, accessFlags := 26, slot := 4, constantValue := 0 }, { name := "MAYBE", type := .int, accessFlags := 26, slot := 5, constantValue := 0 }, { name := "allowSecurityManager", type := .int, accessFlags := 10, slot := 6, constantValue := 0 }, { name := "security", type := (.object "java/lang/SecurityManager"), accessFlags := 74, slot := 7, constantValue := 0 }, { name := "notSupportedJnuEncoding", type := (.object "java/lang/String"), accessFlags := 10, slot := 8, constantValue := 0 }, { name := "cons", type := (.object "java/io/Console"), accessFlags := 74, slot := 9, constantValue := 0 }, { name := "initialErrStream", type := (.object "java/io/PrintStream"), accessFlags := 74, slot := 10, constantValue := 0 }, { name := "props", type := (.object "java/util/Properties"), accessFlags := 10, slot := 11, constantValue := 0 }, { name := "lineSeparator", type := (.object "java/lang/String"), accessFlags := 10, slot := 12, constantValue := 0 }, { name := "bootLayer", type := (.object "java/lang/ModuleLayer"), accessFlags := 8, slot := 13, constantValue := 0 }]
  methods := #[k26m0, k26m1]
  instanceTypes := #[]
  staticTypes := #[(.object "java/io/InputStream"), (.object "java/io/PrintStream"), (.object "java/io/PrintStream"), (.object "java/io/InputStream"), .int, .int, .int, (.object "java/lang/SecurityManager"), (.object "java/lang/String"), (.object "java/io/Console"), (.object "java/io/PrintStream"), (.object "java/util/Properties"), (.object "java/lang/String"), (.object "java/lang/ModuleLayer")]
  resolved := Array.replicate 834 none
  statics := none }

def pool27 : Array CpInfo := pool [(2, .class_ 4), (1, u "java/lang/Object"), (0, u "<init>"), (0, u "()V"), (35, .class_ 44), (1, u "java/util/Objects"), (0, u "requireNonNull"), (0, u "(Ljava/lang/Object;)Ljava/lang/Object;")] 137

def k27m0 : Method := { name := "<init>", desc := "()V", sig := { parameters := [], returnType := none }, accessFlags := 2, code := none }
def k27c1 : Code := { maxStack := 2, maxLocals := 1, code := jdk_31_method_10_code, exceptionTable := #[], attributes := #[] }
def k27m1 : Method := { name := "requireNonNull", desc := "(Ljava/lang/Object;)Ljava/lang/Object;", sig := { parameters := [(.object "java/lang/Object")], returnType := some (.object "java/lang/Object") }, accessFlags := 9, code := some k27c1 }
/-- java/util/Objects -/
def k27 : Class := { plain "java/util/Objects" (some 0) with
  accessFlags := 49
  interfaces := #[]
  cf := some (fileOf pool27 42 #[] #[{ accessFlags := 2, nameIndex := 5, descriptorIndex := 6, attributes := #[] }, { accessFlags := 9, nameIndex := 45, descriptorIndex := 46, attributes := #[] }] 49 2 #[] #[])
  fields := #[]
  methods := #[k27m0, k27m1]
  instanceTypes := #[]
  staticTypes := #[]
  resolved := Array.replicate 184 none
  statics := none }

def pool28 : Array CpInfo := pool [(1, u "java/lang/Class"), (0, .class_ 1), (0, u "java/lang/Object"), (0, .class_ 3)] 0

/-- java/lang/Class -/
def k28 : Class := { plain "java/lang/Class" (some 0) with
  accessFlags := 49
  interfaces := #[]
  cf := some (fileOf pool28 2 #[] #[] 49 4 #[] #[])
  fields := #[]
  methods := #[]
  instanceTypes := #[]
  staticTypes := #[]
  resolved := Array.replicate 5 none
  statics := none }

/-- the primitive byte -/
def k29 : Class := { plain "byte" none with kind := .primitive 'B', accessFlags := 0x411 }
/-- [B -/
def k30 : Class := { plain "[B" (some 0) with kind := .array 29 .byte, interfaces := #[9, 10], accessFlags := 1041 }

/-- the primitive int -/
def k31 : Class := { plain "int" none with kind := .primitive 'I', accessFlags := 0x411 }
/-- [I -/
def k32 : Class := { plain "[I" (some 0) with kind := .array 31 .int, interfaces := #[9, 10], accessFlags := 1041 }

/-- [Ljava/lang/Integer; -/
def k33 : Class := { plain "[Ljava/lang/Integer;" (some 0) with kind := .array 16 (.object "java/lang/Integer"), interfaces := #[9, 10], accessFlags := 1041 }

/-- [Ljava/lang/Object; -/
def k34 : Class := { plain "[Ljava/lang/Object;" (some 0) with kind := .array 0 (.object "java/lang/Object"), interfaces := #[9, 10], accessFlags := 1041, mirror := some 3 }

def heap : Heap := #[{ cls := 11, slots := #[.long 0, .int 0, .ref 263, .ref 264], vm := .statics 11 },
  { cls := 17, slots := #[.int 0, .int 127, .ref 4, .null, .int 0], vm := .statics 17 },
  { cls := 19, slots := #[.long 0, .int 0, .null, .ref 265, .ref 262, .null, .null, .null, .int 0, .int 1], vm := .statics 19 },
  { cls := 28, slots := #[], vm := .mirror 34 },
  { cls := 33, slots := #[.ref 6, .ref 7, .ref 8, .ref 9, .ref 10, .ref 11, .ref 12, .ref 13, .ref 14, .ref 15, .ref 16, .ref 17, .ref 18, .ref 19, .ref 20, .ref 21, .ref 22, .ref 23, .ref 24, .ref 25, .ref 26, .ref 27, .ref 28, .ref 29, .ref 30, .ref 31, .ref 32, .ref 33, .ref 34, .ref 35, .ref 36, .ref 37, .ref 38, .ref 39, .ref 40, .ref 41, .ref 42, .ref 43, .ref 44, .ref 45, .ref 46, .ref 47, .ref 48, .ref 49, .ref 50, .ref 51, .ref 52, .ref 53, .ref 54, .ref 55, .ref 56, .ref 57, .ref 58, .ref 59, .ref 60, .ref 61, .ref 62, .ref 63, .ref 64, .ref 65, .ref 66, .ref 67, .ref 68, .ref 69, .ref 70, .ref 71, .ref 72, .ref 73, .ref 74, .ref 75, .ref 76, .ref 77, .ref 78, .ref 79, .ref 80, .ref 81, .ref 82, .ref 83, .ref 84, .ref 85, .ref 86, .ref 87, .ref 88, .ref 89, .ref 90, .ref 91, .ref 92, .ref 93, .ref 94, .ref 95, .ref 96, .ref 97, .ref 98, .ref 99, .ref 100, .ref 101, .ref 102, .ref 103, .ref 104, .ref 105, .ref 106, .ref 107, .ref 108, .ref 109, .ref 110, .ref 111, .ref 112, .ref 113, .ref 114, .ref 115, .ref 116, .ref 117, .ref 118, .ref 119, .ref 120, .ref 121, .ref 122, .ref 123, .ref 124, .ref 125, .ref 126, .ref 127, .ref 128, .ref 129, .ref 130, .ref 131, .ref 132, .ref 133, .ref 134, .ref 135, .ref 136, .ref 137, .ref 138, .ref 139, .ref 140, .ref 141, .ref 142, .ref 143, .ref 144, .ref 145, .ref 146, .ref 147, .ref 148, .ref 149, .ref 150, .ref 151, .ref 152, .ref 153, .ref 154, .ref 155, .ref 156, .ref 157, .ref 158, .ref 159, .ref 160, .ref 161, .ref 162, .ref 163, .ref 164, .ref 165, .ref 166, .ref 167, .ref 168, .ref 169, .ref 170, .ref 171, .ref 172, .ref 173, .ref 174, .ref 175, .ref 176, .ref 177, .ref 178, .ref 179, .ref 180, .ref 181, .ref 182, .ref 183, .ref 184, .ref 185, .ref 186, .ref 187, .ref 188, .ref 189, .ref 190, .ref 191, .ref 192, .ref 193, .ref 194, .ref 195, .ref 196, .ref 197, .ref 198, .ref 199, .ref 200, .ref 201, .ref 202, .ref 203, .ref 204, .ref 205, .ref 206, .ref 207, .ref 208, .ref 209, .ref 210, .ref 211, .ref 212, .ref 213, .ref 214, .ref 215, .ref 216, .ref 217, .ref 218, .ref 219, .ref 220, .ref 221, .ref 222, .ref 223, .ref 224, .ref 225, .ref 226, .ref 227, .ref 228, .ref 229, .ref 230, .ref 231, .ref 232, .ref 233, .ref 234, .ref 235, .ref 236, .ref 237, .ref 238, .ref 239, .ref 240, .ref 241, .ref 242, .ref 243, .ref 244, .ref 245, .ref 246, .ref 247, .ref 248, .ref 249, .ref 250, .ref 251, .ref 252, .ref 253, .ref 254, .ref 255, .ref 256, .ref 257, .ref 258, .ref 259, .ref 260, .ref 261], vm := .none },
  { cls := 34, slots := #[], vm := .none },
  { cls := 16, slots := #[.int (-128)], vm := .none },
  { cls := 16, slots := #[.int (-127)], vm := .none },
  { cls := 16, slots := #[.int (-126)], vm := .none },
  { cls := 16, slots := #[.int (-125)], vm := .none },
  { cls := 16, slots := #[.int (-124)], vm := .none },
  { cls := 16, slots := #[.int (-123)], vm := .none },
  { cls := 16, slots := #[.int (-122)], vm := .none },
  { cls := 16, slots := #[.int (-121)], vm := .none },
  { cls := 16, slots := #[.int (-120)], vm := .none },
  { cls := 16, slots := #[.int (-119)], vm := .none },
  { cls := 16, slots := #[.int (-118)], vm := .none },
  { cls := 16, slots := #[.int (-117)], vm := .none },
  { cls := 16, slots := #[.int (-116)], vm := .none },
  { cls := 16, slots := #[.int (-115)], vm := .none },
  { cls := 16, slots := #[.int (-114)], vm := .none },
  { cls := 16, slots := #[.int (-113)], vm := .none },
  { cls := 16, slots := #[.int (-112)], vm := .none },
  { cls := 16, slots := #[.int (-111)], vm := .none },
  { cls := 16, slots := #[.int (-110)], vm := .none },
  { cls := 16, slots := #[.int (-109)], vm := .none },
  { cls := 16, slots := #[.int (-108)], vm := .none },
  { cls := 16, slots := #[.int (-107)], vm := .none },
  { cls := 16, slots := #[.int (-106)], vm := .none },
  { cls := 16, slots := #[.int (-105)], vm := .none },
  { cls := 16, slots := #[.int (-104)], vm := .none },
  { cls := 16, slots := #[.int (-103)], vm := .none },
  { cls := 16, slots := #[.int (-102)], vm := .none },
  { cls := 16, slots := #[.int (-101)], vm := .none },
  { cls := 16, slots := #[.int (-100)], vm := .none },
  { cls := 16, slots := #[.int (-99)], vm := .none },
  { cls := 16, slots := #[.int (-98)], vm := .none },
  { cls := 16, slots := #[.int (-97)], vm := .none },
  { cls := 16, slots := #[.int (-96)], vm := .none },
  { cls := 16, slots := #[.int (-95)], vm := .none },
  { cls := 16, slots := #[.int (-94)], vm := .none },
  { cls := 16, slots := #[.int (-93)], vm := .none },
  { cls := 16, slots := #[.int (-92)], vm := .none },
  { cls := 16, slots := #[.int (-91)], vm := .none },
  { cls := 16, slots := #[.int (-90)], vm := .none },
  { cls := 16, slots := #[.int (-89)], vm := .none },
  { cls := 16, slots := #[.int (-88)], vm := .none },
  { cls := 16, slots := #[.int (-87)], vm := .none },
  { cls := 16, slots := #[.int (-86)], vm := .none },
  { cls := 16, slots := #[.int (-85)], vm := .none },
  { cls := 16, slots := #[.int (-84)], vm := .none },
  { cls := 16, slots := #[.int (-83)], vm := .none },
  { cls := 16, slots := #[.int (-82)], vm := .none },
  { cls := 16, slots := #[.int (-81)], vm := .none },
  { cls := 16, slots := #[.int (-80)], vm := .none },
  { cls := 16, slots := #[.int (-79)], vm := .none },
  { cls := 16, slots := #[.int (-78)], vm := .none },
  { cls := 16, slots := #[.int (-77)], vm := .none },
  { cls := 16, slots := #[.int (-76)], vm := .none },
  { cls := 16, slots := #[.int (-75)], vm := .none },
  { cls := 16, slots := #[.int (-74)], vm := .none },
  { cls := 16, slots := #[.int (-73)], vm := .none },
  { cls := 16, slots := #[.int (-72)], vm := .none },
  { cls := 16, slots := #[.int (-71)], vm := .none },
  { cls := 16, slots := #[.int (-70)], vm := .none },
  { cls := 16, slots := #[.int (-69)], vm := .none },
  { cls := 16, slots := #[.int (-68)], vm := .none },
  { cls := 16, slots := #[.int (-67)], vm := .none },
  { cls := 16, slots := #[.int (-66)], vm := .none },
  { cls := 16, slots := #[.int (-65)], vm := .none },
  { cls := 16, slots := #[.int (-64)], vm := .none },
  { cls := 16, slots := #[.int (-63)], vm := .none },
  { cls := 16, slots := #[.int (-62)], vm := .none },
  { cls := 16, slots := #[.int (-61)], vm := .none },
  { cls := 16, slots := #[.int (-60)], vm := .none },
  { cls := 16, slots := #[.int (-59)], vm := .none },
  { cls := 16, slots := #[.int (-58)], vm := .none },
  { cls := 16, slots := #[.int (-57)], vm := .none },
  { cls := 16, slots := #[.int (-56)], vm := .none },
  { cls := 16, slots := #[.int (-55)], vm := .none },
  { cls := 16, slots := #[.int (-54)], vm := .none },
  { cls := 16, slots := #[.int (-53)], vm := .none },
  { cls := 16, slots := #[.int (-52)], vm := .none },
  { cls := 16, slots := #[.int (-51)], vm := .none },
  { cls := 16, slots := #[.int (-50)], vm := .none },
  { cls := 16, slots := #[.int (-49)], vm := .none },
  { cls := 16, slots := #[.int (-48)], vm := .none },
  { cls := 16, slots := #[.int (-47)], vm := .none },
  { cls := 16, slots := #[.int (-46)], vm := .none },
  { cls := 16, slots := #[.int (-45)], vm := .none },
  { cls := 16, slots := #[.int (-44)], vm := .none },
  { cls := 16, slots := #[.int (-43)], vm := .none },
  { cls := 16, slots := #[.int (-42)], vm := .none },
  { cls := 16, slots := #[.int (-41)], vm := .none },
  { cls := 16, slots := #[.int (-40)], vm := .none },
  { cls := 16, slots := #[.int (-39)], vm := .none },
  { cls := 16, slots := #[.int (-38)], vm := .none },
  { cls := 16, slots := #[.int (-37)], vm := .none },
  { cls := 16, slots := #[.int (-36)], vm := .none },
  { cls := 16, slots := #[.int (-35)], vm := .none },
  { cls := 16, slots := #[.int (-34)], vm := .none },
  { cls := 16, slots := #[.int (-33)], vm := .none },
  { cls := 16, slots := #[.int (-32)], vm := .none },
  { cls := 16, slots := #[.int (-31)], vm := .none },
  { cls := 16, slots := #[.int (-30)], vm := .none },
  { cls := 16, slots := #[.int (-29)], vm := .none },
  { cls := 16, slots := #[.int (-28)], vm := .none },
  { cls := 16, slots := #[.int (-27)], vm := .none },
  { cls := 16, slots := #[.int (-26)], vm := .none },
  { cls := 16, slots := #[.int (-25)], vm := .none },
  { cls := 16, slots := #[.int (-24)], vm := .none },
  { cls := 16, slots := #[.int (-23)], vm := .none },
  { cls := 16, slots := #[.int (-22)], vm := .none },
  { cls := 16, slots := #[.int (-21)], vm := .none },
  { cls := 16, slots := #[.int (-20)], vm := .none },
  { cls := 16, slots := #[.int (-19)], vm := .none },
  { cls := 16, slots := #[.int (-18)], vm := .none },
  { cls := 16, slots := #[.int (-17)], vm := .none },
  { cls := 16, slots := #[.int (-16)], vm := .none },
  { cls := 16, slots := #[.int (-15)], vm := .none },
  { cls := 16, slots := #[.int (-14)], vm := .none },
  { cls := 16, slots := #[.int (-13)], vm := .none },
  { cls := 16, slots := #[.int (-12)], vm := .none },
  { cls := 16, slots := #[.int (-11)], vm := .none },
  { cls := 16, slots := #[.int (-10)], vm := .none },
  { cls := 16, slots := #[.int (-9)], vm := .none },
  { cls := 16, slots := #[.int (-8)], vm := .none },
  { cls := 16, slots := #[.int (-7)], vm := .none },
  { cls := 16, slots := #[.int (-6)], vm := .none },
  { cls := 16, slots := #[.int (-5)], vm := .none },
  { cls := 16, slots := #[.int (-4)], vm := .none },
  { cls := 16, slots := #[.int (-3)], vm := .none },
  { cls := 16, slots := #[.int (-2)], vm := .none },
  { cls := 16, slots := #[.int (-1)], vm := .none },
  { cls := 16, slots := #[.int (0)], vm := .none },
  { cls := 16, slots := #[.int (1)], vm := .none },
  { cls := 16, slots := #[.int (2)], vm := .none },
  { cls := 16, slots := #[.int (3)], vm := .none },
  { cls := 16, slots := #[.int (4)], vm := .none },
  { cls := 16, slots := #[.int (5)], vm := .none },
  { cls := 16, slots := #[.int (6)], vm := .none },
  { cls := 16, slots := #[.int (7)], vm := .none },
  { cls := 16, slots := #[.int (8)], vm := .none },
  { cls := 16, slots := #[.int (9)], vm := .none },
  { cls := 16, slots := #[.int (10)], vm := .none },
  { cls := 16, slots := #[.int (11)], vm := .none },
  { cls := 16, slots := #[.int (12)], vm := .none },
  { cls := 16, slots := #[.int (13)], vm := .none },
  { cls := 16, slots := #[.int (14)], vm := .none },
  { cls := 16, slots := #[.int (15)], vm := .none },
  { cls := 16, slots := #[.int (16)], vm := .none },
  { cls := 16, slots := #[.int (17)], vm := .none },
  { cls := 16, slots := #[.int (18)], vm := .none },
  { cls := 16, slots := #[.int (19)], vm := .none },
  { cls := 16, slots := #[.int (20)], vm := .none },
  { cls := 16, slots := #[.int (21)], vm := .none },
  { cls := 16, slots := #[.int (22)], vm := .none },
  { cls := 16, slots := #[.int (23)], vm := .none },
  { cls := 16, slots := #[.int (24)], vm := .none },
  { cls := 16, slots := #[.int (25)], vm := .none },
  { cls := 16, slots := #[.int (26)], vm := .none },
  { cls := 16, slots := #[.int (27)], vm := .none },
  { cls := 16, slots := #[.int (28)], vm := .none },
  { cls := 16, slots := #[.int (29)], vm := .none },
  { cls := 16, slots := #[.int (30)], vm := .none },
  { cls := 16, slots := #[.int (31)], vm := .none },
  { cls := 16, slots := #[.int (32)], vm := .none },
  { cls := 16, slots := #[.int (33)], vm := .none },
  { cls := 16, slots := #[.int (34)], vm := .none },
  { cls := 16, slots := #[.int (35)], vm := .none },
  { cls := 16, slots := #[.int (36)], vm := .none },
  { cls := 16, slots := #[.int (37)], vm := .none },
  { cls := 16, slots := #[.int (38)], vm := .none },
  { cls := 16, slots := #[.int (39)], vm := .none },
  { cls := 16, slots := #[.int (40)], vm := .none },
  { cls := 16, slots := #[.int (41)], vm := .none },
  { cls := 16, slots := #[.int (42)], vm := .none },
  { cls := 16, slots := #[.int (43)], vm := .none },
  { cls := 16, slots := #[.int (44)], vm := .none },
  { cls := 16, slots := #[.int (45)], vm := .none },
  { cls := 16, slots := #[.int (46)], vm := .none },
  { cls := 16, slots := #[.int (47)], vm := .none },
  { cls := 16, slots := #[.int (48)], vm := .none },
  { cls := 16, slots := #[.int (49)], vm := .none },
  { cls := 16, slots := #[.int (50)], vm := .none },
  { cls := 16, slots := #[.int (51)], vm := .none },
  { cls := 16, slots := #[.int (52)], vm := .none },
  { cls := 16, slots := #[.int (53)], vm := .none },
  { cls := 16, slots := #[.int (54)], vm := .none },
  { cls := 16, slots := #[.int (55)], vm := .none },
  { cls := 16, slots := #[.int (56)], vm := .none },
  { cls := 16, slots := #[.int (57)], vm := .none },
  { cls := 16, slots := #[.int (58)], vm := .none },
  { cls := 16, slots := #[.int (59)], vm := .none },
  { cls := 16, slots := #[.int (60)], vm := .none },
  { cls := 16, slots := #[.int (61)], vm := .none },
  { cls := 16, slots := #[.int (62)], vm := .none },
  { cls := 16, slots := #[.int (63)], vm := .none },
  { cls := 16, slots := #[.int (64)], vm := .none },
  { cls := 16, slots := #[.int (65)], vm := .none },
  { cls := 16, slots := #[.int (66)], vm := .none },
  { cls := 16, slots := #[.int (67)], vm := .none },
  { cls := 16, slots := #[.int (68)], vm := .none },
  { cls := 16, slots := #[.int (69)], vm := .none },
  { cls := 16, slots := #[.int (70)], vm := .none },
  { cls := 16, slots := #[.int (71)], vm := .none },
  { cls := 16, slots := #[.int (72)], vm := .none },
  { cls := 16, slots := #[.int (73)], vm := .none },
  { cls := 16, slots := #[.int (74)], vm := .none },
  { cls := 16, slots := #[.int (75)], vm := .none },
  { cls := 16, slots := #[.int (76)], vm := .none },
  { cls := 16, slots := #[.int (77)], vm := .none },
  { cls := 16, slots := #[.int (78)], vm := .none },
  { cls := 16, slots := #[.int (79)], vm := .none },
  { cls := 16, slots := #[.int (80)], vm := .none },
  { cls := 16, slots := #[.int (81)], vm := .none },
  { cls := 16, slots := #[.int (82)], vm := .none },
  { cls := 16, slots := #[.int (83)], vm := .none },
  { cls := 16, slots := #[.int (84)], vm := .none },
  { cls := 16, slots := #[.int (85)], vm := .none },
  { cls := 16, slots := #[.int (86)], vm := .none },
  { cls := 16, slots := #[.int (87)], vm := .none },
  { cls := 16, slots := #[.int (88)], vm := .none },
  { cls := 16, slots := #[.int (89)], vm := .none },
  { cls := 16, slots := #[.int (90)], vm := .none },
  { cls := 16, slots := #[.int (91)], vm := .none },
  { cls := 16, slots := #[.int (92)], vm := .none },
  { cls := 16, slots := #[.int (93)], vm := .none },
  { cls := 16, slots := #[.int (94)], vm := .none },
  { cls := 16, slots := #[.int (95)], vm := .none },
  { cls := 16, slots := #[.int (96)], vm := .none },
  { cls := 16, slots := #[.int (97)], vm := .none },
  { cls := 16, slots := #[.int (98)], vm := .none },
  { cls := 16, slots := #[.int (99)], vm := .none },
  { cls := 16, slots := #[.int (100)], vm := .none },
  { cls := 16, slots := #[.int (101)], vm := .none },
  { cls := 16, slots := #[.int (102)], vm := .none },
  { cls := 16, slots := #[.int (103)], vm := .none },
  { cls := 16, slots := #[.int (104)], vm := .none },
  { cls := 16, slots := #[.int (105)], vm := .none },
  { cls := 16, slots := #[.int (106)], vm := .none },
  { cls := 16, slots := #[.int (107)], vm := .none },
  { cls := 16, slots := #[.int (108)], vm := .none },
  { cls := 16, slots := #[.int (109)], vm := .none },
  { cls := 16, slots := #[.int (110)], vm := .none },
  { cls := 16, slots := #[.int (111)], vm := .none },
  { cls := 16, slots := #[.int (112)], vm := .none },
  { cls := 16, slots := #[.int (113)], vm := .none },
  { cls := 16, slots := #[.int (114)], vm := .none },
  { cls := 16, slots := #[.int (115)], vm := .none },
  { cls := 16, slots := #[.int (116)], vm := .none },
  { cls := 16, slots := #[.int (117)], vm := .none },
  { cls := 16, slots := #[.int (118)], vm := .none },
  { cls := 16, slots := #[.int (119)], vm := .none },
  { cls := 16, slots := #[.int (120)], vm := .none },
  { cls := 16, slots := #[.int (121)], vm := .none },
  { cls := 16, slots := #[.int (122)], vm := .none },
  { cls := 16, slots := #[.int (123)], vm := .none },
  { cls := 16, slots := #[.int (124)], vm := .none },
  { cls := 16, slots := #[.int (125)], vm := .none },
  { cls := 16, slots := #[.int (126)], vm := .none },
  { cls := 16, slots := #[.int (127)], vm := .none },
  { cls := 23, slots := #[.ref 5, .int 0], vm := .none },
  { cls := 34, slots := #[], vm := .none },
  { cls := 34, slots := #[], vm := .none },
  { cls := 0, slots := #[], vm := .none }]
def classes : Array Class := #[k0, k1, k2, k3, k4, k5, k6, k7, k8, k9, k10, k11, k12, k13, k14, k15, k16, k17, k18, k19, k20, k21, k22, k23, k24, k25, k26, k27, k28, k29, k30, k31, k32, k33, k34]
def interned : List (Array UInt16 × Addr) := []
def slotsUsed : Nat := 533
def theMethod : MethodId := ⟨1, 1⟩
def args0 : Array Value := #[.int 1, .int 300, .int 400]
def aboutOver (below : List Frame) : State where
  vm := { classes := classes, interned := interned.toArray }
  heap := heap
  slotsUsed := slotsUsed
  threads := #[{ frames := .invoking theMethod args0 :: below }]
def below0 : List Frame := [.native { method := ⟨0, 0⟩, args := #[] }]
def about1 : State := aboutOver below0
def p0 : Program := .bare "" "" ""
def e0 : Env := launch0.env 0 0 0
theorem w_frames : about1.frames = Frame.invoking theMethod args0 :: below0 := rfl
set_option maxRecDepth 65536 in
theorem w_args : argsFit about1.vm theMethod args0 = true := by decide +kernel
set_option maxRecDepth 65536 in
theorem w_heap : heapFits about1 = true := by decide +kernel
set_option maxRecDepth 65536 in
theorem w_runnable : about1.curStatus? = some .runnable := by decide +kernel
set_option maxRecDepth 65536 in
theorem w_alone : about1.alone = true := by decide +kernel
set_option maxRecDepth 65536 in
theorem w_named : about1.methodNamed? x = some theMethod := by decide +kernel
set_option maxRecDepth 65536 in
theorem w_hears : about1.hears theMethod below0 = true := by decide +kernel
set_option maxRecDepth 65536 in
theorem w_ripe : about1.ripe theMethod args0 below0 = true := by decide +kernel
theorem w_running : about1.status = .running := rfl
set_option maxRecDepth 65536 in
theorem w_room : about1.hasRoom e0.platform room_1 = true :=
  launch0.hasRoom_least _ room_1 (by decide +kernel) (by decide +kernel) (by decide +kernel) (by decide +kernel) (by decide +kernel) (by decide +kernel)
theorem allAtoms_all (ts : List Jvm.Cond) (a : Array Jvm.Value) (st : Jvm.State) : (allAtoms ts).before a st = ts.all (fun c => c.before a st) := by
  induction ts with
  | nil => rfl
  | cons c t ih =>
    show (Jvm.Cond.and c (allAtoms t)).before a st = _
    rw [Jvm.Cond.before_and, ih, List.all_cons]
def words1 : List Jvm.Cond := Jvm.Cond.code x code maxLocals ret :: tables_1
/-- a 'code' word, met by the world's own term for the bytes: nothing is compared byte by byte -/
theorem code_word {y : MethodName} {bytes : ByteArray} {mx : Nat} {rt : Option FieldType} {a : Array Value} {s : State} {m : MethodId} {meth : Method} {c : Code} (h1 : s.methodNamed? y = some m) (h2 : s.vm.method? m = some meth) (h3 : meth.code = some c) (h4 : c.code = bytes)
    (h5 : (c.maxLocals == mx && c.exceptionTable.isEmpty && decide (c.maxStack ≤ mostOperands) && decide (meth.sig.returnType = rt) && !meth.locks && decide (parseMethodDescriptor y.desc = some meth.sig)) = true) : (Jvm.Cond.code y bytes mx rt).before a s = true := by
  simp only [Bool.and_eq_true, beq_iff_eq, Bool.not_eq_true', decide_eq_true_eq] at h5
  obtain ⟨⟨⟨⟨⟨g1, g2⟩, g3⟩, g4⟩, g5⟩, g6⟩ := h5
  simp [Cond.before, Cond.holds, Cond.value, h1, h2, h3, h4, g1, g2, g3, g4, g5, g6]
def isCode : Jvm.Cond → Bool
  | .code _ _ _ _ => true
  | _ => false
theorem all_split {L : List Jvm.Cond} {P : Jvm.Cond → Bool} (h1 : L.all (fun c => isCode c || P c) = true) (h2 : ∀ c ∈ L.filter isCode, P c = true) : L.all P = true := by
  refine List.all_eq_true.mpr fun c hc => ?_
  have h := List.all_eq_true.mp h1 c hc
  rcases Bool.eq_false_or_eq_true (isCode c) with hi | hi
  · exact h2 c (List.mem_filter.mpr ⟨hc, hi⟩)
  · simpa [hi] using h
set_option maxRecDepth 65536 in
theorem w_c0 : (Jvm.Cond.code x code maxLocals ret).before args0 about1 = true := code_word (m := ⟨1, 1⟩) (meth := k1m1) (c := k1c1) (by decide +kernel) rfl rfl rfl (by decide +kernel)
set_option maxRecDepth 65536 in
theorem w_c1 : (Jvm.Cond.code ({ cls := "java/util/ArrayList", name := "<init>", desc := "()V" } : Jvm.MethodName) jdk_38_method_2_code (1 : Nat) (Option.none : Option Jvm.ClassFile.FieldType)).before args0 about1 = true := code_word (m := ⟨11, 0⟩) (meth := k11m0) (c := k11c0) (by decide +kernel) rfl rfl rfl (by decide +kernel)
set_option maxRecDepth 65536 in
theorem w_c2 : (Jvm.Cond.code ({ cls := "java/util/AbstractList", name := "<init>", desc := "()V" } : Jvm.MethodName) jdk_39_method_1_code (1 : Nat) (Option.none : Option Jvm.ClassFile.FieldType)).before args0 about1 = true := code_word (m := ⟨7, 0⟩) (meth := k7m0) (c := k7c0) (by decide +kernel) rfl rfl rfl (by decide +kernel)
set_option maxRecDepth 65536 in
theorem w_c3 : (Jvm.Cond.code ({ cls := "java/util/AbstractCollection", name := "<init>", desc := "()V" } : Jvm.MethodName) jdk_22_method_1_code (1 : Nat) (Option.none : Option Jvm.ClassFile.FieldType)).before args0 about1 = true := code_word (m := ⟨4, 0⟩) (meth := k4m0) (c := k4c0) (by decide +kernel) rfl rfl rfl (by decide +kernel)
set_option maxRecDepth 65536 in
theorem w_c4 : (Jvm.Cond.code ({ cls := "java/lang/Object", name := "<init>", desc := "()V" } : Jvm.MethodName) object_method_1_code (1 : Nat) (Option.none : Option Jvm.ClassFile.FieldType)).before args0 about1 = true := code_word (m := ⟨0, 0⟩) (meth := k0m0) (c := k0c0) (by decide +kernel) rfl rfl rfl (by decide +kernel)
set_option maxRecDepth 65536 in
theorem w_c5 : (Jvm.Cond.code ({ cls := "java/lang/Integer", name := "valueOf", desc := "(I)Ljava/lang/Integer;" } : Jvm.MethodName) jdk_33_method_22_code (1 : Nat) (Option.some (Jvm.ClassFile.FieldType.object "java/lang/Integer"))).before args0 about1 = true := code_word (m := ⟨16, 0⟩) (meth := k16m0) (c := k16c0) (by decide +kernel) rfl rfl rfl (by decide +kernel)
set_option maxRecDepth 65536 in
theorem w_c6 : (Jvm.Cond.code ({ cls := "com/example/schema_facade/schemafacade/channel/Channel", name := "<init>", desc := "(Ljava/util/List;)V" } : Jvm.MethodName) prog_4_method_1_code (2 : Nat) (Option.none : Option Jvm.ClassFile.FieldType)).before args0 about1 = true := code_word (m := ⟨18, 0⟩) (meth := k18m0) (c := k18c0) (by decide +kernel) rfl rfl rfl (by decide +kernel)
set_option maxRecDepth 65536 in
theorem w_c7 : (Jvm.Cond.code ({ cls := "java/util/List", name := "copyOf", desc := "(Ljava/util/Collection;)Ljava/util/List;" } : Jvm.MethodName) jdk_40_method_48_code (1 : Nat) (Option.some (Jvm.ClassFile.FieldType.object "java/util/List"))).before args0 about1 = true := code_word (m := ⟨6, 4⟩) (meth := k6m4) (c := k6c4) (by decide +kernel) rfl rfl rfl (by decide +kernel)
set_option maxRecDepth 65536 in
theorem w_c8 : (Jvm.Cond.code ({ cls := "java/util/ImmutableCollections", name := "listCopy", desc := "(Ljava/util/Collection;)Ljava/util/List;" } : Jvm.MethodName) jdk_56_method_3_code (2 : Nat) (Option.some (Jvm.ClassFile.FieldType.object "java/util/List"))).before args0 about1 = true := code_word (m := ⟨19, 1⟩) (meth := k19m1) (c := k19c1) (by decide +kernel) rfl rfl rfl (by decide +kernel)
set_option maxRecDepth 65536 in
theorem w_c9 : (Jvm.Cond.code ({ cls := "java/util/ArrayList", name := "isEmpty", desc := "()Z" } : Jvm.MethodName) jdk_38_method_9_code (1 : Nat) (Option.some Jvm.ClassFile.FieldType.boolean)).before args0 about1 = true := code_word (m := ⟨11, 3⟩) (meth := k11m3) (c := k11c3) (by decide +kernel) rfl rfl rfl (by decide +kernel)
set_option maxRecDepth 65536 in
theorem w_c10 : (Jvm.Cond.code ({ cls := "java/util/List", name := "of", desc := "()Ljava/util/List;" } : Jvm.MethodName) jdk_40_method_36_code (0 : Nat) (Option.some (Jvm.ClassFile.FieldType.object "java/util/List"))).before args0 about1 = true := code_word (m := ⟨6, 2⟩) (meth := k6m2) (c := k6c2) (by decide +kernel) rfl rfl rfl (by decide +kernel)
set_option maxRecDepth 65536 in
theorem w_c11 : (Jvm.Cond.code ({ cls := "com/example/schema_facade/schemafacade/channel/Channel", name := "levels", desc := "()I" } : Jvm.MethodName) prog_4_method_4_code (1 : Nat) (Option.some Jvm.ClassFile.FieldType.int)).before args0 about1 = true := code_word (m := ⟨18, 2⟩) (meth := k18m2) (c := k18c2) (by decide +kernel) rfl rfl rfl (by decide +kernel)
set_option maxRecDepth 65536 in
theorem w_c12 : (Jvm.Cond.code ({ cls := "java/util/ImmutableCollections$ListN", name := "size", desc := "()I" } : Jvm.MethodName) jdk_45_method_3_code (1 : Nat) (Option.some Jvm.ClassFile.FieldType.int)).before args0 about1 = true := code_word (m := ⟨23, 2⟩) (meth := k23m2) (c := k23c2) (by decide +kernel) rfl rfl rfl (by decide +kernel)
set_option maxRecDepth 65536 in
theorem w_c13 : (Jvm.Cond.code ({ cls := "com/example/schema_facade/schemafacade/channel/Channel", name := "isEmpty", desc := "()Z" } : Jvm.MethodName) prog_4_method_3_code (1 : Nat) (Option.some Jvm.ClassFile.FieldType.boolean)).before args0 about1 = true := code_word (m := ⟨18, 1⟩) (meth := k18m1) (c := k18c1) (by decide +kernel) rfl rfl rfl (by decide +kernel)
set_option maxRecDepth 65536 in
theorem w_c14 : (Jvm.Cond.code ({ cls := "java/util/ImmutableCollections$ListN", name := "isEmpty", desc := "()Z" } : Jvm.MethodName) jdk_45_method_2_code (1 : Nat) (Option.some Jvm.ClassFile.FieldType.boolean)).before args0 about1 = true := code_word (m := ⟨23, 1⟩) (meth := k23m1) (c := k23c1) (by decide +kernel) rfl rfl rfl (by decide +kernel)
set_option maxRecDepth 65536 in
theorem w_c15 : (Jvm.Cond.code ({ cls := "java/util/ArrayList", name := "add", desc := "(Ljava/lang/Object;)Z" } : Jvm.MethodName) jdk_38_method_25_code (2 : Nat) (Option.some Jvm.ClassFile.FieldType.boolean)).before args0 about1 = true := code_word (m := ⟨11, 6⟩) (meth := k11m6) (c := k11c6) (by decide +kernel) rfl rfl rfl (by decide +kernel)
set_option maxRecDepth 65536 in
theorem w_c16 : (Jvm.Cond.code ({ cls := "java/util/ArrayList", name := "add", desc := "(Ljava/lang/Object;[Ljava/lang/Object;I)V" } : Jvm.MethodName) jdk_38_method_24_code (4 : Nat) (Option.none : Option Jvm.ClassFile.FieldType)).before args0 about1 = true := code_word (m := ⟨11, 5⟩) (meth := k11m5) (c := k11c5) (by decide +kernel) rfl rfl rfl (by decide +kernel)
set_option maxRecDepth 65536 in
theorem w_c17 : (Jvm.Cond.code ({ cls := "java/util/ArrayList", name := "grow", desc := "()[Ljava/lang/Object;" } : Jvm.MethodName) jdk_38_method_7_code (1 : Nat) (Option.some (Jvm.ClassFile.FieldType.array (Jvm.ClassFile.FieldType.object "java/lang/Object")))).before args0 about1 = true := code_word (m := ⟨11, 2⟩) (meth := k11m2) (c := k11c2) (by decide +kernel) rfl rfl rfl (by decide +kernel)
set_option maxRecDepth 65536 in
theorem w_c18 : (Jvm.Cond.code ({ cls := "java/util/ArrayList", name := "grow", desc := "(I)[Ljava/lang/Object;" } : Jvm.MethodName) jdk_38_method_6_code (4 : Nat) (Option.some (Jvm.ClassFile.FieldType.array (Jvm.ClassFile.FieldType.object "java/lang/Object")))).before args0 about1 = true := code_word (m := ⟨11, 1⟩) (meth := k11m1) (c := k11c1) (by decide +kernel) rfl rfl rfl (by decide +kernel)
set_option maxRecDepth 65536 in
theorem w_c19 : (Jvm.Cond.code ({ cls := "java/lang/Math", name := "max", desc := "(II)I" } : Jvm.MethodName) jdk_29_method_65_code (2 : Nat) (Option.some Jvm.ClassFile.FieldType.int)).before args0 about1 = true := code_word (m := ⟨24, 1⟩) (meth := k24m1) (c := k24c1) (by decide +kernel) rfl rfl rfl (by decide +kernel)
set_option maxRecDepth 65536 in
theorem w_c20 : (Jvm.Cond.code ({ cls := "java/util/ArrayList", name := "toArray", desc := "()[Ljava/lang/Object;" } : Jvm.MethodName) jdk_38_method_16_code (1 : Nat) (Option.some (Jvm.ClassFile.FieldType.array (Jvm.ClassFile.FieldType.object "java/lang/Object")))).before args0 about1 = true := code_word (m := ⟨11, 4⟩) (meth := k11m4) (c := k11c4) (by decide +kernel) rfl rfl rfl (by decide +kernel)
set_option maxRecDepth 65536 in
theorem w_c21 : (Jvm.Cond.code ({ cls := "java/util/Arrays", name := "copyOf", desc := "([Ljava/lang/Object;I)[Ljava/lang/Object;" } : Jvm.MethodName) jdk_65_method_119_code (2 : Nat) (Option.some (Jvm.ClassFile.FieldType.array (Jvm.ClassFile.FieldType.object "java/lang/Object")))).before args0 about1 = true := code_word (m := ⟨25, 1⟩) (meth := k25m1) (c := k25c1) (by decide +kernel) rfl rfl rfl (by decide +kernel)
set_option maxRecDepth 65536 in
theorem w_c22 : (Jvm.Cond.code ({ cls := "java/util/Arrays", name := "copyOf", desc := "([Ljava/lang/Object;ILjava/lang/Class;)[Ljava/lang/Object;" } : Jvm.MethodName) jdk_65_method_120_code (4 : Nat) (Option.some (Jvm.ClassFile.FieldType.array (Jvm.ClassFile.FieldType.object "java/lang/Object")))).before args0 about1 = true := code_word (m := ⟨25, 2⟩) (meth := k25m2) (c := k25c2) (by decide +kernel) rfl rfl rfl (by decide +kernel)
set_option maxRecDepth 65536 in
theorem w_c23 : (Jvm.Cond.code ({ cls := "java/lang/Math", name := "min", desc := "(II)I" } : Jvm.MethodName) jdk_29_method_69_code (2 : Nat) (Option.some Jvm.ClassFile.FieldType.int)).before args0 about1 = true := code_word (m := ⟨24, 2⟩) (meth := k24m2) (c := k24c2) (by decide +kernel) rfl rfl rfl (by decide +kernel)
set_option maxRecDepth 65536 in
theorem w_c24 : (Jvm.Cond.code ({ cls := "java/util/List", name := "of", desc := "([Ljava/lang/Object;)Ljava/util/List;" } : Jvm.MethodName) jdk_40_method_47_code (2 : Nat) (Option.some (Jvm.ClassFile.FieldType.object "java/util/List"))).before args0 about1 = true := code_word (m := ⟨6, 3⟩) (meth := k6m3) (c := k6c3) (by decide +kernel) rfl rfl rfl (by decide +kernel)
set_option maxRecDepth 65536 in
theorem w_c25 : (Jvm.Cond.code ({ cls := "java/util/ImmutableCollections$List12", name := "<init>", desc := "(Ljava/lang/Object;)V" } : Jvm.MethodName) jdk_44_method_1_code (2 : Nat) (Option.none : Option Jvm.ClassFile.FieldType)).before args0 about1 = true := code_word (m := ⟨22, 0⟩) (meth := k22m0) (c := k22c0) (by decide +kernel) rfl rfl rfl (by decide +kernel)
set_option maxRecDepth 65536 in
theorem w_c26 : (Jvm.Cond.code ({ cls := "java/util/ImmutableCollections$AbstractImmutableList", name := "<init>", desc := "()V" } : Jvm.MethodName) jdk_46_method_1_code (1 : Nat) (Option.none : Option Jvm.ClassFile.FieldType)).before args0 about1 = true := code_word (m := ⟨21, 0⟩) (meth := k21m0) (c := k21c0) (by decide +kernel) rfl rfl rfl (by decide +kernel)
set_option maxRecDepth 65536 in
theorem w_c27 : (Jvm.Cond.code ({ cls := "java/util/ImmutableCollections$AbstractImmutableCollection", name := "<init>", desc := "()V" } : Jvm.MethodName) jdk_47_method_1_code (1 : Nat) (Option.none : Option Jvm.ClassFile.FieldType)).before args0 about1 = true := code_word (m := ⟨20, 0⟩) (meth := k20m0) (c := k20c0) (by decide +kernel) rfl rfl rfl (by decide +kernel)
set_option maxRecDepth 65536 in
theorem w_c28 : (Jvm.Cond.code ({ cls := "java/util/Objects", name := "requireNonNull", desc := "(Ljava/lang/Object;)Ljava/lang/Object;" } : Jvm.MethodName) jdk_31_method_10_code (1 : Nat) (Option.some (Jvm.ClassFile.FieldType.object "java/lang/Object"))).before args0 about1 = true := code_word (m := ⟨27, 1⟩) (meth := k27m1) (c := k27c1) (by decide +kernel) rfl rfl rfl (by decide +kernel)
set_option maxRecDepth 65536 in
theorem w_c29 : (Jvm.Cond.code ({ cls := "java/util/ImmutableCollections$List12", name := "size", desc := "()I" } : Jvm.MethodName) jdk_44_method_3_code (1 : Nat) (Option.some Jvm.ClassFile.FieldType.int)).before args0 about1 = true := code_word (m := ⟨22, 2⟩) (meth := k22m2) (c := k22c2) (by decide +kernel) rfl rfl rfl (by decide +kernel)
set_option maxRecDepth 65536 in
theorem w_c30 : (Jvm.Cond.code ({ cls := "java/util/ImmutableCollections$List12", name := "isEmpty", desc := "()Z" } : Jvm.MethodName) jdk_44_method_4_code (1 : Nat) (Option.some Jvm.ClassFile.FieldType.boolean)).before args0 about1 = true := code_word (m := ⟨22, 3⟩) (meth := k22m3) (c := k22c3) (by decide +kernel) rfl rfl rfl (by decide +kernel)
set_option maxRecDepth 65536 in
theorem w_c31 : (Jvm.Cond.code ({ cls := "java/util/ImmutableCollections", name := "listFromArray", desc := "([Ljava/lang/Object;)Ljava/util/List;" } : Jvm.MethodName) jdk_56_method_4_code (3 : Nat) (Option.some (Jvm.ClassFile.FieldType.object "java/util/List"))).before args0 about1 = true := code_word (m := ⟨19, 2⟩) (meth := k19m2) (c := k19c2) (by decide +kernel) rfl rfl rfl (by decide +kernel)
set_option maxRecDepth 65536 in
theorem w_c32 : (Jvm.Cond.code ({ cls := "java/util/ImmutableCollections$ListN", name := "<init>", desc := "([Ljava/lang/Object;Z)V" } : Jvm.MethodName) jdk_45_method_1_code (3 : Nat) (Option.none : Option Jvm.ClassFile.FieldType)).before args0 about1 = true := code_word (m := ⟨23, 0⟩) (meth := k23m0) (c := k23c0) (by decide +kernel) rfl rfl rfl (by decide +kernel)
set_option maxRecDepth 65536 in
theorem w_c33 : (Jvm.Cond.code ({ cls := "java/lang/Integer", name := "<init>", desc := "(I)V" } : Jvm.MethodName) jdk_33_method_23_code (2 : Nat) (Option.none : Option Jvm.ClassFile.FieldType)).before args0 about1 = true := code_word (m := ⟨16, 1⟩) (meth := k16m1) (c := k16c1) (by decide +kernel) rfl rfl rfl (by decide +kernel)
set_option maxRecDepth 65536 in
theorem w_c34 : (Jvm.Cond.code ({ cls := "java/lang/Number", name := "<init>", desc := "()V" } : Jvm.MethodName) jdk_18_method_1_code (1 : Nat) (Option.none : Option Jvm.ClassFile.FieldType)).before args0 about1 = true := code_word (m := ⟨12, 0⟩) (meth := k12m0) (c := k12c0) (by decide +kernel) rfl rfl rfl (by decide +kernel)
set_option maxRecDepth 65536 in
theorem w_c35 : (Jvm.Cond.code ({ cls := "java/util/ImmutableCollections$List12", name := "<init>", desc := "(Ljava/lang/Object;Ljava/lang/Object;)V" } : Jvm.MethodName) jdk_44_method_2_code (3 : Nat) (Option.none : Option Jvm.ClassFile.FieldType)).before args0 about1 = true := code_word (m := ⟨22, 1⟩) (meth := k22m1) (c := k22c1) (by decide +kernel) rfl rfl rfl (by decide +kernel)
def codes1 : List Jvm.Cond := [Jvm.Cond.code x code maxLocals ret, Jvm.Cond.code ({ cls := "java/util/ArrayList", name := "<init>", desc := "()V" } : Jvm.MethodName) jdk_38_method_2_code (1 : Nat) (Option.none : Option Jvm.ClassFile.FieldType), Jvm.Cond.code ({ cls := "java/util/AbstractList", name := "<init>", desc := "()V" } : Jvm.MethodName) jdk_39_method_1_code (1 : Nat) (Option.none : Option Jvm.ClassFile.FieldType), Jvm.Cond.code ({ cls := "java/util/AbstractCollection", name := "<init>", desc := "()V" } : Jvm.MethodName) jdk_22_method_1_code (1 : Nat) (Option.none : Option Jvm.ClassFile.FieldType), Jvm.Cond.code ({ cls := "java/lang/Object", name := "<init>", desc := "()V" } : Jvm.MethodName) object_method_1_code (1 : Nat) (Option.none : Option Jvm.ClassFile.FieldType), Jvm.Cond.code ({ cls := "java/lang/Integer", name := "valueOf", desc := "(I)Ljava/lang/Integer;" } : Jvm.MethodName) jdk_33_method_22_code (1 : Nat) (Option.some (Jvm.ClassFile.FieldType.object "java/lang/Integer")), Jvm.Cond.code ({ cls := "com/example/schema_facade/schemafacade/channel/Channel", name := "<init>", desc := "(Ljava/util/List;)V" } : Jvm.MethodName) prog_4_method_1_code (2 : Nat) (Option.none : Option Jvm.ClassFile.FieldType), Jvm.Cond.code ({ cls := "java/util/List", name := "copyOf", desc := "(Ljava/util/Collection;)Ljava/util/List;" } : Jvm.MethodName) jdk_40_method_48_code (1 : Nat) (Option.some (Jvm.ClassFile.FieldType.object "java/util/List")), Jvm.Cond.code ({ cls := "java/util/ImmutableCollections", name := "listCopy", desc := "(Ljava/util/Collection;)Ljava/util/List;" } : Jvm.MethodName) jdk_56_method_3_code (2 : Nat) (Option.some (Jvm.ClassFile.FieldType.object "java/util/List")), Jvm.Cond.code ({ cls := "java/util/ArrayList", name := "isEmpty", desc := "()Z" } : Jvm.MethodName) jdk_38_method_9_code (1 : Nat) (Option.some Jvm.ClassFile.FieldType.boolean), Jvm.Cond.code ({ cls := "java/util/List", name := "of", desc := "()Ljava/util/List;" } : Jvm.MethodName) jdk_40_method_36_code (0 : Nat) (Option.some (Jvm.ClassFile.FieldType.object "java/util/List")), Jvm.Cond.code ({ cls := "com/example/schema_facade/schemafacade/channel/Channel", name := "levels", desc := "()I" } : Jvm.MethodName) prog_4_method_4_code (1 : Nat) (Option.some Jvm.ClassFile.FieldType.int), Jvm.Cond.code ({ cls := "java/util/ImmutableCollections$ListN", name := "size", desc := "()I" } : Jvm.MethodName) jdk_45_method_3_code (1 : Nat) (Option.some Jvm.ClassFile.FieldType.int), Jvm.Cond.code ({ cls := "com/example/schema_facade/schemafacade/channel/Channel", name := "isEmpty", desc := "()Z" } : Jvm.MethodName) prog_4_method_3_code (1 : Nat) (Option.some Jvm.ClassFile.FieldType.boolean), Jvm.Cond.code ({ cls := "java/util/ImmutableCollections$ListN", name := "isEmpty", desc := "()Z" } : Jvm.MethodName) jdk_45_method_2_code (1 : Nat) (Option.some Jvm.ClassFile.FieldType.boolean), Jvm.Cond.code ({ cls := "java/util/ArrayList", name := "add", desc := "(Ljava/lang/Object;)Z" } : Jvm.MethodName) jdk_38_method_25_code (2 : Nat) (Option.some Jvm.ClassFile.FieldType.boolean), Jvm.Cond.code ({ cls := "java/util/ArrayList", name := "add", desc := "(Ljava/lang/Object;[Ljava/lang/Object;I)V" } : Jvm.MethodName) jdk_38_method_24_code (4 : Nat) (Option.none : Option Jvm.ClassFile.FieldType), Jvm.Cond.code ({ cls := "java/util/ArrayList", name := "grow", desc := "()[Ljava/lang/Object;" } : Jvm.MethodName) jdk_38_method_7_code (1 : Nat) (Option.some (Jvm.ClassFile.FieldType.array (Jvm.ClassFile.FieldType.object "java/lang/Object"))), Jvm.Cond.code ({ cls := "java/util/ArrayList", name := "grow", desc := "(I)[Ljava/lang/Object;" } : Jvm.MethodName) jdk_38_method_6_code (4 : Nat) (Option.some (Jvm.ClassFile.FieldType.array (Jvm.ClassFile.FieldType.object "java/lang/Object"))), Jvm.Cond.code ({ cls := "java/lang/Math", name := "max", desc := "(II)I" } : Jvm.MethodName) jdk_29_method_65_code (2 : Nat) (Option.some Jvm.ClassFile.FieldType.int), Jvm.Cond.code ({ cls := "java/util/ArrayList", name := "toArray", desc := "()[Ljava/lang/Object;" } : Jvm.MethodName) jdk_38_method_16_code (1 : Nat) (Option.some (Jvm.ClassFile.FieldType.array (Jvm.ClassFile.FieldType.object "java/lang/Object"))), Jvm.Cond.code ({ cls := "java/util/Arrays", name := "copyOf", desc := "([Ljava/lang/Object;I)[Ljava/lang/Object;" } : Jvm.MethodName) jdk_65_method_119_code (2 : Nat) (Option.some (Jvm.ClassFile.FieldType.array (Jvm.ClassFile.FieldType.object "java/lang/Object"))), Jvm.Cond.code ({ cls := "java/util/Arrays", name := "copyOf", desc := "([Ljava/lang/Object;ILjava/lang/Class;)[Ljava/lang/Object;" } : Jvm.MethodName) jdk_65_method_120_code (4 : Nat) (Option.some (Jvm.ClassFile.FieldType.array (Jvm.ClassFile.FieldType.object "java/lang/Object"))), Jvm.Cond.code ({ cls := "java/lang/Math", name := "min", desc := "(II)I" } : Jvm.MethodName) jdk_29_method_69_code (2 : Nat) (Option.some Jvm.ClassFile.FieldType.int), Jvm.Cond.code ({ cls := "java/util/List", name := "of", desc := "([Ljava/lang/Object;)Ljava/util/List;" } : Jvm.MethodName) jdk_40_method_47_code (2 : Nat) (Option.some (Jvm.ClassFile.FieldType.object "java/util/List")), Jvm.Cond.code ({ cls := "java/util/ImmutableCollections$List12", name := "<init>", desc := "(Ljava/lang/Object;)V" } : Jvm.MethodName) jdk_44_method_1_code (2 : Nat) (Option.none : Option Jvm.ClassFile.FieldType), Jvm.Cond.code ({ cls := "java/util/ImmutableCollections$AbstractImmutableList", name := "<init>", desc := "()V" } : Jvm.MethodName) jdk_46_method_1_code (1 : Nat) (Option.none : Option Jvm.ClassFile.FieldType), Jvm.Cond.code ({ cls := "java/util/ImmutableCollections$AbstractImmutableCollection", name := "<init>", desc := "()V" } : Jvm.MethodName) jdk_47_method_1_code (1 : Nat) (Option.none : Option Jvm.ClassFile.FieldType), Jvm.Cond.code ({ cls := "java/util/Objects", name := "requireNonNull", desc := "(Ljava/lang/Object;)Ljava/lang/Object;" } : Jvm.MethodName) jdk_31_method_10_code (1 : Nat) (Option.some (Jvm.ClassFile.FieldType.object "java/lang/Object")), Jvm.Cond.code ({ cls := "java/util/ImmutableCollections$List12", name := "size", desc := "()I" } : Jvm.MethodName) jdk_44_method_3_code (1 : Nat) (Option.some Jvm.ClassFile.FieldType.int), Jvm.Cond.code ({ cls := "java/util/ImmutableCollections$List12", name := "isEmpty", desc := "()Z" } : Jvm.MethodName) jdk_44_method_4_code (1 : Nat) (Option.some Jvm.ClassFile.FieldType.boolean), Jvm.Cond.code ({ cls := "java/util/ImmutableCollections", name := "listFromArray", desc := "([Ljava/lang/Object;)Ljava/util/List;" } : Jvm.MethodName) jdk_56_method_4_code (3 : Nat) (Option.some (Jvm.ClassFile.FieldType.object "java/util/List")), Jvm.Cond.code ({ cls := "java/util/ImmutableCollections$ListN", name := "<init>", desc := "([Ljava/lang/Object;Z)V" } : Jvm.MethodName) jdk_45_method_1_code (3 : Nat) (Option.none : Option Jvm.ClassFile.FieldType), Jvm.Cond.code ({ cls := "java/lang/Integer", name := "<init>", desc := "(I)V" } : Jvm.MethodName) jdk_33_method_23_code (2 : Nat) (Option.none : Option Jvm.ClassFile.FieldType), Jvm.Cond.code ({ cls := "java/lang/Number", name := "<init>", desc := "()V" } : Jvm.MethodName) jdk_18_method_1_code (1 : Nat) (Option.none : Option Jvm.ClassFile.FieldType), Jvm.Cond.code ({ cls := "java/util/ImmutableCollections$List12", name := "<init>", desc := "(Ljava/lang/Object;Ljava/lang/Object;)V" } : Jvm.MethodName) jdk_44_method_2_code (3 : Nat) (Option.none : Option Jvm.ClassFile.FieldType)]
set_option maxRecDepth 65536 in
theorem codes_eq : words1.filter isCode = codes1 := rfl
theorem w_codes : ∀ c ∈ words1.filter isCode, c.before args0 about1 = true := by
  rw [codes_eq]
  intro c hc
  simp only [codes1, List.mem_cons, List.not_mem_nil, or_false] at hc
  rcases hc with rfl | rfl | rfl | rfl | rfl | rfl | rfl | rfl | rfl | rfl | rfl | rfl | rfl | rfl | rfl | rfl | rfl | rfl | rfl | rfl | rfl | rfl | rfl | rfl | rfl | rfl | rfl | rfl | rfl | rfl | rfl | rfl | rfl | rfl | rfl | rfl
  · exact w_c0
  · exact w_c1
  · exact w_c2
  · exact w_c3
  · exact w_c4
  · exact w_c5
  · exact w_c6
  · exact w_c7
  · exact w_c8
  · exact w_c9
  · exact w_c10
  · exact w_c11
  · exact w_c12
  · exact w_c13
  · exact w_c14
  · exact w_c15
  · exact w_c16
  · exact w_c17
  · exact w_c18
  · exact w_c19
  · exact w_c20
  · exact w_c21
  · exact w_c22
  · exact w_c23
  · exact w_c24
  · exact w_c25
  · exact w_c26
  · exact w_c27
  · exact w_c28
  · exact w_c29
  · exact w_c30
  · exact w_c31
  · exact w_c32
  · exact w_c33
  · exact w_c34
  · exact w_c35
set_option maxRecDepth 65536 in
theorem w_t1 : (words1.take 24).all (fun c => isCode c || c.before args0 about1) = true := by decide +kernel
set_option maxRecDepth 65536 in
theorem w_t2 : ((words1.drop 24).take 24).all (fun c => isCode c || c.before args0 about1) = true := by decide +kernel
set_option maxRecDepth 65536 in
theorem w_t3 : (((words1.drop 24).drop 24).take 24).all (fun c => isCode c || c.before args0 about1) = true := by decide +kernel
set_option maxRecDepth 65536 in
theorem w_t4 : ((((words1.drop 24).drop 24).drop 24).take 24).all (fun c => isCode c || c.before args0 about1) = true := by decide +kernel
set_option maxRecDepth 65536 in
theorem w_t5 : (((((words1.drop 24).drop 24).drop 24).drop 24).take 24).all (fun c => isCode c || c.before args0 about1) = true := by decide +kernel
set_option maxRecDepth 65536 in
theorem w_t6 : ((((((words1.drop 24).drop 24).drop 24).drop 24).drop 24).take 24).all (fun c => isCode c || c.before args0 about1) = true := by decide +kernel
set_option maxRecDepth 65536 in
theorem w_t7 : (((((((words1.drop 24).drop 24).drop 24).drop 24).drop 24).drop 24).take 24).all (fun c => isCode c || c.before args0 about1) = true := by decide +kernel
set_option maxRecDepth 65536 in
theorem w_t8 : ((((((((words1.drop 24).drop 24).drop 24).drop 24).drop 24).drop 24).drop 24).take 24).all (fun c => isCode c || c.before args0 about1) = true := by decide +kernel
set_option maxRecDepth 65536 in
theorem w_t9 : (((((((((words1.drop 24).drop 24).drop 24).drop 24).drop 24).drop 24).drop 24).drop 24).take 24).all (fun c => isCode c || c.before args0 about1) = true := by decide +kernel
set_option maxRecDepth 65536 in
theorem w_t10 : (((((((((words1.drop 24).drop 24).drop 24).drop 24).drop 24).drop 24).drop 24).drop 24).drop 24).all (fun c => isCode c || c.before args0 about1) = true := by decide +kernel
theorem w_tables : (allAtoms (Jvm.Cond.code x code maxLocals ret :: tables_1)).before args0 about1 = true := by
  rw [allAtoms_all]
  show words1.all (fun c => c.before args0 about1) = true
  refine all_split ?_ w_codes
  rw [← List.take_append_drop 24 words1, List.all_append, w_t1, ← List.take_append_drop 24 (words1.drop 24), List.all_append, w_t2, ← List.take_append_drop 24 ((words1.drop 24).drop 24), List.all_append, w_t3, ← List.take_append_drop 24 (((words1.drop 24).drop 24).drop 24), List.all_append, w_t4, ← List.take_append_drop 24 ((((words1.drop 24).drop 24).drop 24).drop 24), List.all_append, w_t5, ← List.take_append_drop 24 (((((words1.drop 24).drop 24).drop 24).drop 24).drop 24), List.all_append, w_t6, ← List.take_append_drop 24 ((((((words1.drop 24).drop 24).drop 24).drop 24).drop 24).drop 24), List.all_append, w_t7, ← List.take_append_drop 24 (((((((words1.drop 24).drop 24).drop 24).drop 24).drop 24).drop 24).drop 24), List.all_append, w_t8, ← List.take_append_drop 24 ((((((((words1.drop 24).drop 24).drop 24).drop 24).drop 24).drop 24).drop 24).drop 24), List.all_append, w_t9, w_t10]
  rfl
set_option maxRecDepth 65536 in
theorem w_rest : rest_1_c.before args0 about1 = true := by decide +kernel
set_option maxRecDepth 65536 in
theorem w_case : (Jvm.Cond.and given_1 narrow_1).before args0 about1 = true := by decide +kernel
theorem w_applies : (headSpec (Jvm.Cond.code x code maxLocals ret :: tables_1) room_1).applies x e0.platform about1 = true :=
  (Spec.applies_iff w_frames).mpr ⟨w_running, w_runnable, w_alone, w_named, w_hears, w_ripe, w_room, w_tables⟩
set_option maxRecDepth 65536 in
theorem atStart : AtStart classFile x code maxLocals ret World_1 tables_1 room_1 Calls_1 rest_1 Pre_1 launch0 p0 e0 about1 theMethod args0 below0 :=
  ⟨lists_1, trivial, launch0.admits_env _ _ _, launch0.least_env, fairChoices_fair.cas, fairChoices_fair.clock, w_frames, w_args, w_heap, w_applies, ⟨⟨34, k34, 3, by decide +kernel, rfl, rfl, _, rfl, rfl⟩, trivial⟩, w_rest, w_case⟩
end start1
theorem witness_1 : WitnessClaimed_1 := ⟨start1.p0, start1.e0, start1.about1, start1.theMethod, start1.args0, start1.below0, start1.atStart⟩
end Jvm.Pilot.@@N@@
