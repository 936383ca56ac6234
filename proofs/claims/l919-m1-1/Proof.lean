import JvmDerived
import JvmDerived.Pilot.@@N@@Statement
import JvmDerived.Pilot.@@N@@Code
set_option linter.unusedVariables false
set_option linter.unusedSimpArgs false
namespace Jvm.OwnW
open Sem ClassFile Op Lib Jvm.Stand Jvm.Free Jvm.LawKit Jvm.RoadKit
section K
variable {p : Program} {l : Launch} {e : Env} {R : Room} {s : State} {m : MethodId} {args : Array Value} {below : List Frame} {meth : Method} {c : Code} {Z : State} {bytes : ByteArray} {ml : Nat} {own nm : String} {ret : Option FieldType} {n0 K S K' S' : Nat} {Q : Option Value → Heap → Prop} {h : Heap} {a0 : Array Value}
/-- what is fixed in the walk of one body -/
def Cx (p : Program) (l : Launch) (e : Env) (R : Room) (s : State) (m : MethodId) (args : Array Value) (below : List Frame) (meth : Method) (c : Code) (Z : State) (bytes : ByteArray) (ml : Nat) (own : String) (ret : Option FieldType) (nm : String) : Prop :=
  p.tables.exec = Jvm.exec ∧ Z.Warmed39 s.vm ∧ c.code = bytes ∧ c.maxLocals = ml ∧ s.vm.findClass own = some m.cls ∧ meth.locks = false ∧ meth.sig.returnType = ret ∧ meth.name = nm
/-- the walk stands in T: the heap is h, only new places have been written, at most K cells and S slots are made -/
def Sd (p : Program) (l : Launch) (e : Env) (R : Room) (s : State) (m : MethodId) (args : Array Value) (below : List Frame) (meth : Method) (c : Code) (n0 K S : Nat) (h : Heap) (T : State) : Prop :=
  ∃ locs cells slots, Stand p l e R s m args below meth c T locs cells slots ∧ Fr n0 locs ∧ cells ≤ K ∧ slots ≤ S ∧ T.heap = h
/-- from the frame g in T the body runs to its return, and Q holds of what it returns and of the heap -/
def Done (p : Program) (e : Env) (R : Room) (s : State) (below : List Frame) (n0 : Nat) (Q : Option Value → Heap → Prop) (T : State) (g : JFrame) : Prop :=
  ∃ s₂ v L, Steps p.tables e below (T.setTop g) s₂ ∧ s₂.status = .running ∧ Ended s₂ below (.returned v) ∧ Q v s₂.heap ∧ Fr n0 L ∧ FrameEnd s (.returned v) s₂ L R.cells R.slots
def Go (p : Program) (l : Launch) (e : Env) (R : Room) (s : State) (m : MethodId) (args : Array Value) (below : List Frame) (meth : Method) (c : Code) (n0 : Nat) (Q : Option Value → Heap → Prop) (K S : Nat) (h : Heap) (g : JFrame) : Prop :=
  ∀ T, Sd p l e R s m args below meth c n0 K S h T → Done p e R s below n0 Q T g
/-- the contract of a body at the arguments as and the heap h -/
def Ctr (l : Launch) (Z : State) (y : MethodName) (bytes : ByteArray) (ml : Nat) (ret : Option FieldType) (rm : Room) (as : Array Value) (h : Heap) (n0 : Nat) (Q : Option Value → Heap → Prop) : Prop :=
  ∀ ws : List Jvm.Cond, MetFree l y (head1 (Jvm.Cond.code y bytes ml ret :: ws) rm) (fun a U => a = as ∧ Z.Warmed39 U.vm ∧ U.heap = h) (fun _ _ _ _ _ => True) (fun _ U o U' => ∃ v L, o = .returned v ∧ (Q v U'.heap ∧ Fr n0 L) ∧ FrameEnd U o U' L rm.cells rm.slots)
theorem Ctr.of {y : MethodName} {rm : Room} {as : Array Value} (hn : plainFor y = true)
    (body : ∀ (p : Program) (e : Env) (s : State) (m : MethodId) (below : List Frame) (meth : Method) (c : Code), Cx p l e rm s m as below meth c Z bytes ml y.cls ret y.name → Go p l e rm s m as below meth c n0 Q 0 0 h (entryFrame m as ml)) :
    Ctr l Z y bytes ml ret rm as h n0 Q := by
  intro ws
  refine MetFree.of_bodySF hn hisR ?_
  intro p e s m args below meth c s₁ Bd hml hP hK
  obtain ⟨rfl, hZ, hh⟩ := hP
  have X0 : Stand p l e rm s m args below meth c s₁ [] 0 0 := Stand.of_body Bd
  obtain ⟨s₂, v, L, h1, h2, h3, h4, h5, h6⟩ := body p e s m below meth c ⟨Bd.exec, hZ, Bd.bytes, hml, findClass_of_methodNamed Bd.named, Bd.notSynchronized, Bd.returns, (name_of_methodNamed Bd.named Bd.method).1⟩ s₁ ⟨[], 0, 0, X0, Fr.nil _, Nat.le_refl _, Nat.le_refl _, by rw [← hh, Bd.state]; rfl⟩
  exact ⟨s₂, .returned v, h1, h2, h3, v, L, rfl, ⟨h4, h5⟩, h6⟩
theorem Ctr.mono {y : MethodName} {rm : Room} {as : Array Value} {Q' : Option Value → Heap → Prop} (hC : Ctr l Z y bytes ml ret rm as h n0 Q) (hq : ∀ v h', Q v h' → Q' v h') : Ctr l Z y bytes ml ret rm as h n0 Q' := by
  intro ws p e ha hc hk s m args below hf happ hP hK
  obtain ⟨n, o, h1, h2, h3, v, L, h4, ⟨h5, h6⟩, h7⟩ := hC ws p e ha hc hk s m args below hf happ hP hK
  exact ⟨n, o, h1, h2, h3, v, L, h4, ⟨hq _ _ h5, h6⟩, h7⟩
theorem Go.at {pc : Nat} {Ls : Array Slot} {st st' : List Value} (hst : st = st') (n : Go p l e R s m args below meth c n0 Q K S h (mkF m pc Ls st')) : Go p l e R s m args below meth c n0 Q K S h (mkF m pc Ls st) := hst ▸ n
theorem Go.frame {g g' : JFrame} (hg : g = g') (n : Go p l e R s m args below meth c n0 Q K S h g') : Go p l e R s m args below meth c n0 Q K S h g := hg ▸ n
theorem Go.heap {g : JFrame} {h' : Heap} (hh : h = h') (n : Go p l e R s m args below meth c n0 Q K S h' g) : Go p l e R s m args below meth c n0 Q K S h g := hh ▸ n
theorem Go.by {g g' : JFrame} (hst : ∀ T locs cells slots, Stand p l e R s m args below meth c T locs cells slots → T.heap = h → ∀ target, Steps p.tables e below (T.setTop g') target → Steps p.tables e below (T.setTop g) target) (n : Go p l e R s m args below meth c n0 Q K S h g') : Go p l e R s m args below meth c n0 Q K S h g :=
  fun T ⟨ls, cs, ss, X, r⟩ => by
    obtain ⟨s₂, v, L, h1, h2⟩ := n T ⟨ls, cs, ss, X, r⟩
    exact ⟨s₂, v, L, hst T ls cs ss X r.2.2.2 _ h1, h2⟩
theorem Go.weak {g : JFrame} (hK : K ≤ K') (hS : S ≤ S') (n : Go p l e R s m args below meth c n0 Q K' S' h g) : Go p l e R s m args below meth c n0 Q K S h g := fun T ⟨ls, cs, ss, X, N, a, b, e'⟩ => n T ⟨ls, cs, ss, X, N, Nat.le_trans a hK, Nat.le_trans b hS, e'⟩
/-- a law that hands back a new state over the same heap -/
theorem Go.law {g g' : JFrame} (hst : ∀ T locs cells slots, Stand p l e R s m args below meth c T locs cells slots → T.heap = h → ∃ T', Stand p l e R s m args below meth c T' locs cells slots ∧ T'.heap = h ∧ ∀ target, Steps p.tables e below (T'.setTop g') target → Steps p.tables e below (T.setTop g) target) (n : Go p l e R s m args below meth c n0 Q K S h g') : Go p l e R s m args below meth c n0 Q K S h g :=
  fun T ⟨ls, cs, ss, X, r⟩ => by
    obtain ⟨T', X', e', st⟩ := hst T ls cs ss X r.2.2.2
    obtain ⟨s₂, v, L, h1, h2⟩ := n T' ⟨ls, cs, ss, X', r.1, r.2.1, r.2.2.1, e'⟩
    exact ⟨s₂, v, L, st _ h1, h2⟩
/-- a law that writes one place of a new cell -/
theorem Go.write {g g' : JFrame} {a : Addr} {sl : Nat} {v : Value} (ha : n0 ≤ a) (hst : ∀ T locs cells slots, Stand p l e R s m args below meth c T locs cells slots → T.heap = h → ∃ T' h', Stand p l e R s m args below meth c T' (locs ++ [⟨a, sl⟩]) cells slots ∧ T'.heap = h' ∧ Wr h h' a sl v ∧ ∀ target, Steps p.tables e below (T'.setTop g') target → Steps p.tables e below (T.setTop g) target)
    (n : ∀ h', Wr h h' a sl v → Go p l e R s m args below meth c n0 Q K S h' g') : Go p l e R s m args below meth c n0 Q K S h g :=
  fun T ⟨ls, cs, ss, X, r⟩ => by
    obtain ⟨T', h', X', e', W, st⟩ := hst T ls cs ss X r.2.2.2
    obtain ⟨s₂, v, L, h1, h2⟩ := n h' W T' ⟨_, cs, ss, X', Fr.snoc X' r.1 ha, r.2.1, r.2.2.1, e'⟩
    exact ⟨s₂, v, L, st _ h1, h2⟩
theorem iloadN (C : Cx p l e R s m args below meth c Z bytes ml own ret nm) {pc pc' : Nat} {Ls : Array Slot} {st : List Value} {k : Fin 4} {v : Int32}  (hd : decode bytes pc = .ok (.iload_n k, 1)) (hp : pc + 1 = pc') (hl : Ls[k.val]? = some (.val (.int v))) (n : Go p l e R s m args below meth c n0 Q K S h (mkF m pc' Ls (.int v :: st))) : Go p l e R s m args below meth c n0 Q K S h (mkF m pc Ls st) := by
  subst hp; exact Go.by (g' := (mkF m (pc + 1) Ls (.int v :: st))) (fun T ls cs ss X eT t kt => XS.iloadN X.here C.1 rfl (hb C.2.2.1 hd) hl kt) n
theorem iload (C : Cx p l e R s m args below meth c Z bytes ml own ret nm) {pc pc' : Nat} {Ls : Array Slot} {st : List Value} {k : Nat} {v : Int32}  (hd : decode bytes pc = .ok (.iload k, 2)) (hp : pc + 2 = pc') (hl : Ls[k]? = some (.val (.int v))) (n : Go p l e R s m args below meth c n0 Q K S h (mkF m pc' Ls (.int v :: st))) : Go p l e R s m args below meth c n0 Q K S h (mkF m pc Ls st) := by
  subst hp; exact Go.by (g' := (mkF m (pc + 2) Ls (.int v :: st))) (fun T ls cs ss X eT t kt => XS.iload X.here C.1 rfl (hb C.2.2.1 hd) hl kt) n
theorem istoreN (C : Cx p l e R s m args below meth c Z bytes ml own ret nm) {pc pc' : Nat} {Ls : Array Slot} {st : List Value} {k : Fin 4} {v : Int32} {l' : Array Slot}  (hd : decode bytes pc = .ok (.istore_n k, 1)) (hp : pc + 1 = pc') (hl : storeLocals Ls k.val (.int v) = some l') (n : Go p l e R s m args below meth c n0 Q K S h (mkF m pc' l' st)) : Go p l e R s m args below meth c n0 Q K S h (mkF m pc Ls (.int v :: st)) := by
  subst hp; exact Go.by (g' := (mkF m (pc + 1) l' st)) (fun T ls cs ss X eT t kt => XS.istoreN X.here C.1 rfl (hb C.2.2.1 hd) rfl hl kt) n
theorem istore (C : Cx p l e R s m args below meth c Z bytes ml own ret nm) {pc pc' : Nat} {Ls : Array Slot} {st : List Value} {k : Nat} {v : Int32} {l' : Array Slot}  (hd : decode bytes pc = .ok (.istore k, 2)) (hp : pc + 2 = pc') (hl : storeLocals Ls k (.int v) = some l') (n : Go p l e R s m args below meth c n0 Q K S h (mkF m pc' l' st)) : Go p l e R s m args below meth c n0 Q K S h (mkF m pc Ls (.int v :: st)) := by
  subst hp; exact Go.by (g' := (mkF m (pc + 2) l' st)) (fun T ls cs ss X eT t kt => XS.istore X.here C.1 rfl (hb C.2.2.1 hd) rfl hl kt) n
theorem lloadN (C : Cx p l e R s m args below meth c Z bytes ml own ret nm) {pc pc' : Nat} {Ls : Array Slot} {st : List Value} {k : Fin 4} {v : Int64}  (hd : decode bytes pc = .ok (.lload_n k, 1)) (hp : pc + 1 = pc') (hl : Ls[k.val]? = some (.val (.long v))) (n : Go p l e R s m args below meth c n0 Q K S h (mkF m pc' Ls (.long v :: st))) : Go p l e R s m args below meth c n0 Q K S h (mkF m pc Ls st) := by
  subst hp; exact Go.by (g' := (mkF m (pc + 1) Ls (.long v :: st))) (fun T ls cs ss X eT t kt => XS.lloadN X.here C.1 rfl (hb C.2.2.1 hd) hl kt) n
theorem lload (C : Cx p l e R s m args below meth c Z bytes ml own ret nm) {pc pc' : Nat} {Ls : Array Slot} {st : List Value} {k : Nat} {v : Int64}  (hd : decode bytes pc = .ok (.lload k, 2)) (hp : pc + 2 = pc') (hl : Ls[k]? = some (.val (.long v))) (n : Go p l e R s m args below meth c n0 Q K S h (mkF m pc' Ls (.long v :: st))) : Go p l e R s m args below meth c n0 Q K S h (mkF m pc Ls st) := by
  subst hp; exact Go.by (g' := (mkF m (pc + 2) Ls (.long v :: st))) (fun T ls cs ss X eT t kt => XS.lload X.here C.1 rfl (hb C.2.2.1 hd) hl kt) n
theorem lstoreN (C : Cx p l e R s m args below meth c Z bytes ml own ret nm) {pc pc' : Nat} {Ls : Array Slot} {st : List Value} {k : Fin 4} {v : Int64} {l' : Array Slot}  (hd : decode bytes pc = .ok (.lstore_n k, 1)) (hp : pc + 1 = pc') (hl : storeLocals Ls k.val (.long v) = some l') (n : Go p l e R s m args below meth c n0 Q K S h (mkF m pc' l' st)) : Go p l e R s m args below meth c n0 Q K S h (mkF m pc Ls (.long v :: st)) := by
  subst hp; exact Go.by (g' := (mkF m (pc + 1) l' st)) (fun T ls cs ss X eT t kt => XS.lstoreN X.here C.1 rfl (hb C.2.2.1 hd) rfl hl kt) n
theorem lstore (C : Cx p l e R s m args below meth c Z bytes ml own ret nm) {pc pc' : Nat} {Ls : Array Slot} {st : List Value} {k : Nat} {v : Int64} {l' : Array Slot}  (hd : decode bytes pc = .ok (.lstore k, 2)) (hp : pc + 2 = pc') (hl : storeLocals Ls k (.long v) = some l') (n : Go p l e R s m args below meth c n0 Q K S h (mkF m pc' l' st)) : Go p l e R s m args below meth c n0 Q K S h (mkF m pc Ls (.long v :: st)) := by
  subst hp; exact Go.by (g' := (mkF m (pc + 2) l' st)) (fun T ls cs ss X eT t kt => XS.lstore X.here C.1 rfl (hb C.2.2.1 hd) rfl hl kt) n
theorem aloadN (C : Cx p l e R s m args below meth c Z bytes ml own ret nm) {pc pc' : Nat} {Ls : Array Slot} {st : List Value} {k : Fin 4} {v : Value}  (hd : decode bytes pc = .ok (.aload_n k, 1)) (hp : pc + 1 = pc') (hl : Ls[k.val]? = some (.val v)) (hv : v.isRef = true) (n : Go p l e R s m args below meth c n0 Q K S h (mkF m pc' Ls (v :: st))) : Go p l e R s m args below meth c n0 Q K S h (mkF m pc Ls st) := by
  subst hp; exact Go.by (g' := (mkF m (pc + 1) Ls (v :: st))) (fun T ls cs ss X eT t kt => XS.aloadN X.here C.1 rfl (hb C.2.2.1 hd) hl hv kt) n
theorem aload (C : Cx p l e R s m args below meth c Z bytes ml own ret nm) {pc pc' : Nat} {Ls : Array Slot} {st : List Value} {k : Nat} {v : Value}  (hd : decode bytes pc = .ok (.aload k, 2)) (hp : pc + 2 = pc') (hl : Ls[k]? = some (.val v)) (hv : v.isRef = true) (n : Go p l e R s m args below meth c n0 Q K S h (mkF m pc' Ls (v :: st))) : Go p l e R s m args below meth c n0 Q K S h (mkF m pc Ls st) := by
  subst hp; exact Go.by (g' := (mkF m (pc + 2) Ls (v :: st))) (fun T ls cs ss X eT t kt => XS.aload X.here C.1 rfl (hb C.2.2.1 hd) hl hv kt) n
theorem astoreN (C : Cx p l e R s m args below meth c Z bytes ml own ret nm) {pc pc' : Nat} {Ls : Array Slot} {st : List Value} {k : Fin 4} {v : Value} {l' : Array Slot}  (hd : decode bytes pc = .ok (.astore_n k, 1)) (hp : pc + 1 = pc') (hv : v.isRef = true) (hl : storeLocals Ls k.val v = some l') (n : Go p l e R s m args below meth c n0 Q K S h (mkF m pc' l' st)) : Go p l e R s m args below meth c n0 Q K S h (mkF m pc Ls (v :: st)) := by
  subst hp; exact Go.by (g' := (mkF m (pc + 1) l' st)) (fun T ls cs ss X eT t kt => XS.astoreN X.here C.1 rfl (hb C.2.2.1 hd) rfl hv hl kt) n
theorem astore (C : Cx p l e R s m args below meth c Z bytes ml own ret nm) {pc pc' : Nat} {Ls : Array Slot} {st : List Value} {k : Nat} {v : Value} {l' : Array Slot}  (hd : decode bytes pc = .ok (.astore k, 2)) (hp : pc + 2 = pc') (hv : v.isRef = true) (hl : storeLocals Ls k v = some l') (n : Go p l e R s m args below meth c n0 Q K S h (mkF m pc' l' st)) : Go p l e R s m args below meth c n0 Q K S h (mkF m pc Ls (v :: st)) := by
  subst hp; exact Go.by (g' := (mkF m (pc + 2) l' st)) (fun T ls cs ss X eT t kt => XS.astore X.here C.1 rfl (hb C.2.2.1 hd) rfl hv hl kt) n
theorem istoreS (C : Cx p l e R s m args below meth c Z bytes ml own ret nm) {pc pc' : Nat} {Ls : Array Slot} {st : List Value} {k : Nat} {v : Int32} {o : Slot} {l' : Array Slot}  (hd : decode bytes pc = .ok (.istore k, 2)) (hp : pc + 2 = pc') (ho : Ls[k]? = some o) (h1 : One o) (hl : Ls.setIfInBounds k (.val (.int v)) = l') (n : Go p l e R s m args below meth c n0 Q K S h (mkF m pc' l' st)) : Go p l e R s m args below meth c n0 Q K S h (mkF m pc Ls (.int v :: st)) := by
  subst hp; exact Go.by (g' := (mkF m (pc + 2) l' st)) (fun T ls cs ss X eT t kt => XS.istoreS X.here C.1 rfl (hb C.2.2.1 hd) rfl ho h1 (hl ▸ kt)) n
theorem astoreS (C : Cx p l e R s m args below meth c Z bytes ml own ret nm) {pc pc' : Nat} {Ls : Array Slot} {st : List Value} {k : Nat} {v : Value} {o : Slot} {l' : Array Slot}  (hd : decode bytes pc = .ok (.astore k, 2)) (hp : pc + 2 = pc') (hv : v.isRef = true) (hc : v.category = 1) (ho : Ls[k]? = some o) (h1 : One o) (hl : Ls.setIfInBounds k (.val v) = l') (n : Go p l e R s m args below meth c n0 Q K S h (mkF m pc' l' st)) : Go p l e R s m args below meth c n0 Q K S h (mkF m pc Ls (v :: st)) := by
  subst hp; exact Go.by (g' := (mkF m (pc + 2) l' st)) (fun T ls cs ss X eT t kt => XS.astoreS X.here C.1 rfl (hb C.2.2.1 hd) rfl hv hc ho h1 (hl ▸ kt)) n
theorem iconst (C : Cx p l e R s m args below meth c Z bytes ml own ret nm) {pc pc' : Nat} {Ls : Array Slot} {st : List Value} {i : Int} {z : Int32}  (hd : decode bytes pc = .ok (.iconst i, 1)) (hp : pc + 1 = pc') (hz : Int32.ofInt i = z) (n : Go p l e R s m args below meth c n0 Q K S h (mkF m pc' Ls (.int z :: st))) : Go p l e R s m args below meth c n0 Q K S h (mkF m pc Ls st) := by
  subst hp; exact Go.by (g' := (mkF m (pc + 1) Ls (.int z :: st))) (fun T ls cs ss X eT t kt => XS.iconst X.here C.1 rfl (hb C.2.2.1 hd) (hz ▸ kt)) n
theorem bipush (C : Cx p l e R s m args below meth c Z bytes ml own ret nm) {pc pc' : Nat} {Ls : Array Slot} {st : List Value} {i : Int} {z : Int32}  (hd : decode bytes pc = .ok (.bipush i, 2)) (hp : pc + 2 = pc') (hz : (Int8.ofInt i).toInt32 = z) (n : Go p l e R s m args below meth c n0 Q K S h (mkF m pc' Ls (.int z :: st))) : Go p l e R s m args below meth c n0 Q K S h (mkF m pc Ls st) := by
  subst hp; exact Go.by (g' := (mkF m (pc + 2) Ls (.int z :: st))) (fun T ls cs ss X eT t kt => XS.bipush X.here C.1 rfl (hb C.2.2.1 hd) (hz ▸ kt)) n
theorem sipush (C : Cx p l e R s m args below meth c Z bytes ml own ret nm) {pc pc' : Nat} {Ls : Array Slot} {st : List Value} {i : Int} {z : Int32}  (hd : decode bytes pc = .ok (.sipush i, 3)) (hp : pc + 3 = pc') (hz : (Int16.ofInt i).toInt32 = z) (n : Go p l e R s m args below meth c n0 Q K S h (mkF m pc' Ls (.int z :: st))) : Go p l e R s m args below meth c n0 Q K S h (mkF m pc Ls st) := by
  subst hp; exact Go.by (g' := (mkF m (pc + 3) Ls (.int z :: st))) (fun T ls cs ss X eT t kt => XS.sipush X.here C.1 rfl (hb C.2.2.1 hd) (hz ▸ kt)) n
theorem lconst (C : Cx p l e R s m args below meth c Z bytes ml own ret nm) {pc pc' : Nat} {Ls : Array Slot} {st : List Value} {i : Fin 2} {z : Int64}  (hd : decode bytes pc = .ok (.lconst i, 1)) (hp : pc + 1 = pc') (hz : Int64.ofNat i.val = z) (n : Go p l e R s m args below meth c n0 Q K S h (mkF m pc' Ls (.long z :: st))) : Go p l e R s m args below meth c n0 Q K S h (mkF m pc Ls st) := by
  subst hp; exact Go.by (g' := (mkF m (pc + 1) Ls (.long z :: st))) (fun T ls cs ss X eT t kt => XS.lconst X.here C.1 rfl (hb C.2.2.1 hd) (hz ▸ kt)) n
theorem aconstNull (C : Cx p l e R s m args below meth c Z bytes ml own ret nm) {pc pc' : Nat} {Ls : Array Slot} {st : List Value}  (hd : decode bytes pc = .ok (.aconst_null, 1)) (hp : pc + 1 = pc')  (n : Go p l e R s m args below meth c n0 Q K S h (mkF m pc' Ls (.null :: st))) : Go p l e R s m args below meth c n0 Q K S h (mkF m pc Ls st) := by
  subst hp; exact Go.by (g' := (mkF m (pc + 1) Ls (.null :: st))) (fun T ls cs ss X eT t kt => XS.aconstNull X.here C.1 rfl (hb C.2.2.1 hd) kt) n
theorem iadd (C : Cx p l e R s m args below meth c Z bytes ml own ret nm) {pc pc' : Nat} {Ls : Array Slot} {st : List Value} {x y : Int32} (hd : decode bytes pc = .ok (.iadd, 1)) (hp : pc + 1 = pc')  (n : Go p l e R s m args below meth c n0 Q K S h (mkF m pc' Ls (.int (x + y) :: st))) : Go p l e R s m args below meth c n0 Q K S h (mkF m pc Ls (.int y :: .int x :: st)) := by
  subst hp; exact Go.by (g' := (mkF m (pc + 1) Ls (.int (x + y) :: st))) (fun T ls cs ss X eT t kt => XS.iadd X.here C.1 rfl (hb C.2.2.1 hd) rfl kt) n
theorem isub (C : Cx p l e R s m args below meth c Z bytes ml own ret nm) {pc pc' : Nat} {Ls : Array Slot} {st : List Value} {x y : Int32} (hd : decode bytes pc = .ok (.isub, 1)) (hp : pc + 1 = pc')  (n : Go p l e R s m args below meth c n0 Q K S h (mkF m pc' Ls (.int (x - y) :: st))) : Go p l e R s m args below meth c n0 Q K S h (mkF m pc Ls (.int y :: .int x :: st)) := by
  subst hp; exact Go.by (g' := (mkF m (pc + 1) Ls (.int (x - y) :: st))) (fun T ls cs ss X eT t kt => XS.isub X.here C.1 rfl (hb C.2.2.1 hd) rfl kt) n
theorem imul (C : Cx p l e R s m args below meth c Z bytes ml own ret nm) {pc pc' : Nat} {Ls : Array Slot} {st : List Value} {x y : Int32} (hd : decode bytes pc = .ok (.imul, 1)) (hp : pc + 1 = pc')  (n : Go p l e R s m args below meth c n0 Q K S h (mkF m pc' Ls (.int (x * y) :: st))) : Go p l e R s m args below meth c n0 Q K S h (mkF m pc Ls (.int y :: .int x :: st)) := by
  subst hp; exact Go.by (g' := (mkF m (pc + 1) Ls (.int (x * y) :: st))) (fun T ls cs ss X eT t kt => XS.imul X.here C.1 rfl (hb C.2.2.1 hd) rfl kt) n
theorem iand (C : Cx p l e R s m args below meth c Z bytes ml own ret nm) {pc pc' : Nat} {Ls : Array Slot} {st : List Value} {x y : Int32} (hd : decode bytes pc = .ok (.iand, 1)) (hp : pc + 1 = pc')  (n : Go p l e R s m args below meth c n0 Q K S h (mkF m pc' Ls (.int (x &&& y) :: st))) : Go p l e R s m args below meth c n0 Q K S h (mkF m pc Ls (.int y :: .int x :: st)) := by
  subst hp; exact Go.by (g' := (mkF m (pc + 1) Ls (.int (x &&& y) :: st))) (fun T ls cs ss X eT t kt => XS.iand X.here C.1 rfl (hb C.2.2.1 hd) rfl kt) n
theorem ior (C : Cx p l e R s m args below meth c Z bytes ml own ret nm) {pc pc' : Nat} {Ls : Array Slot} {st : List Value} {x y : Int32} (hd : decode bytes pc = .ok (.ior, 1)) (hp : pc + 1 = pc')  (n : Go p l e R s m args below meth c n0 Q K S h (mkF m pc' Ls (.int (x ||| y) :: st))) : Go p l e R s m args below meth c n0 Q K S h (mkF m pc Ls (.int y :: .int x :: st)) := by
  subst hp; exact Go.by (g' := (mkF m (pc + 1) Ls (.int (x ||| y) :: st))) (fun T ls cs ss X eT t kt => XS.ior X.here C.1 rfl (hb C.2.2.1 hd) rfl kt) n
theorem ixor (C : Cx p l e R s m args below meth c Z bytes ml own ret nm) {pc pc' : Nat} {Ls : Array Slot} {st : List Value} {x y : Int32} (hd : decode bytes pc = .ok (.ixor, 1)) (hp : pc + 1 = pc')  (n : Go p l e R s m args below meth c n0 Q K S h (mkF m pc' Ls (.int (x ^^^ y) :: st))) : Go p l e R s m args below meth c n0 Q K S h (mkF m pc Ls (.int y :: .int x :: st)) := by
  subst hp; exact Go.by (g' := (mkF m (pc + 1) Ls (.int (x ^^^ y) :: st))) (fun T ls cs ss X eT t kt => XS.ixor X.here C.1 rfl (hb C.2.2.1 hd) rfl kt) n
theorem ladd (C : Cx p l e R s m args below meth c Z bytes ml own ret nm) {pc pc' : Nat} {Ls : Array Slot} {st : List Value} {x y : Int64} (hd : decode bytes pc = .ok (.ladd, 1)) (hp : pc + 1 = pc')  (n : Go p l e R s m args below meth c n0 Q K S h (mkF m pc' Ls (.long (x + y) :: st))) : Go p l e R s m args below meth c n0 Q K S h (mkF m pc Ls (.long y :: .long x :: st)) := by
  subst hp; exact Go.by (g' := (mkF m (pc + 1) Ls (.long (x + y) :: st))) (fun T ls cs ss X eT t kt => XS.ladd X.here C.1 rfl (hb C.2.2.1 hd) rfl kt) n
theorem lsub (C : Cx p l e R s m args below meth c Z bytes ml own ret nm) {pc pc' : Nat} {Ls : Array Slot} {st : List Value} {x y : Int64} (hd : decode bytes pc = .ok (.lsub, 1)) (hp : pc + 1 = pc')  (n : Go p l e R s m args below meth c n0 Q K S h (mkF m pc' Ls (.long (x - y) :: st))) : Go p l e R s m args below meth c n0 Q K S h (mkF m pc Ls (.long y :: .long x :: st)) := by
  subst hp; exact Go.by (g' := (mkF m (pc + 1) Ls (.long (x - y) :: st))) (fun T ls cs ss X eT t kt => XS.lsub X.here C.1 rfl (hb C.2.2.1 hd) rfl kt) n
theorem lmul (C : Cx p l e R s m args below meth c Z bytes ml own ret nm) {pc pc' : Nat} {Ls : Array Slot} {st : List Value} {x y : Int64} (hd : decode bytes pc = .ok (.lmul, 1)) (hp : pc + 1 = pc')  (n : Go p l e R s m args below meth c n0 Q K S h (mkF m pc' Ls (.long (x * y) :: st))) : Go p l e R s m args below meth c n0 Q K S h (mkF m pc Ls (.long y :: .long x :: st)) := by
  subst hp; exact Go.by (g' := (mkF m (pc + 1) Ls (.long (x * y) :: st))) (fun T ls cs ss X eT t kt => XS.lmul X.here C.1 rfl (hb C.2.2.1 hd) rfl kt) n
theorem land (C : Cx p l e R s m args below meth c Z bytes ml own ret nm) {pc pc' : Nat} {Ls : Array Slot} {st : List Value} {x y : Int64} (hd : decode bytes pc = .ok (.land, 1)) (hp : pc + 1 = pc')  (n : Go p l e R s m args below meth c n0 Q K S h (mkF m pc' Ls (.long (x &&& y) :: st))) : Go p l e R s m args below meth c n0 Q K S h (mkF m pc Ls (.long y :: .long x :: st)) := by
  subst hp; exact Go.by (g' := (mkF m (pc + 1) Ls (.long (x &&& y) :: st))) (fun T ls cs ss X eT t kt => XS.land X.here C.1 rfl (hb C.2.2.1 hd) rfl kt) n
theorem lor (C : Cx p l e R s m args below meth c Z bytes ml own ret nm) {pc pc' : Nat} {Ls : Array Slot} {st : List Value} {x y : Int64} (hd : decode bytes pc = .ok (.lor, 1)) (hp : pc + 1 = pc')  (n : Go p l e R s m args below meth c n0 Q K S h (mkF m pc' Ls (.long (x ||| y) :: st))) : Go p l e R s m args below meth c n0 Q K S h (mkF m pc Ls (.long y :: .long x :: st)) := by
  subst hp; exact Go.by (g' := (mkF m (pc + 1) Ls (.long (x ||| y) :: st))) (fun T ls cs ss X eT t kt => XS.lor X.here C.1 rfl (hb C.2.2.1 hd) rfl kt) n
theorem lxor (C : Cx p l e R s m args below meth c Z bytes ml own ret nm) {pc pc' : Nat} {Ls : Array Slot} {st : List Value} {x y : Int64} (hd : decode bytes pc = .ok (.lxor, 1)) (hp : pc + 1 = pc')  (n : Go p l e R s m args below meth c n0 Q K S h (mkF m pc' Ls (.long (x ^^^ y) :: st))) : Go p l e R s m args below meth c n0 Q K S h (mkF m pc Ls (.long y :: .long x :: st)) := by
  subst hp; exact Go.by (g' := (mkF m (pc + 1) Ls (.long (x ^^^ y) :: st))) (fun T ls cs ss X eT t kt => XS.lxor X.here C.1 rfl (hb C.2.2.1 hd) rfl kt) n
theorem ishl (C : Cx p l e R s m args below meth c Z bytes ml own ret nm) {pc pc' : Nat} {Ls : Array Slot} {st : List Value} {x y : Int32} (hd : decode bytes pc = .ok (.ishl, 1)) (hp : pc + 1 = pc')  (n : Go p l e R s m args below meth c n0 Q K S h (mkF m pc' Ls (.int (x <<< (y &&& 31)) :: st))) : Go p l e R s m args below meth c n0 Q K S h (mkF m pc Ls (.int y :: .int x :: st)) := by
  subst hp; exact Go.by (g' := (mkF m (pc + 1) Ls (.int (x <<< (y &&& 31)) :: st))) (fun T ls cs ss X eT t kt => XS.ishl X.here C.1 rfl (hb C.2.2.1 hd) rfl kt) n
theorem ishr (C : Cx p l e R s m args below meth c Z bytes ml own ret nm) {pc pc' : Nat} {Ls : Array Slot} {st : List Value} {x y : Int32} (hd : decode bytes pc = .ok (.ishr, 1)) (hp : pc + 1 = pc')  (n : Go p l e R s m args below meth c n0 Q K S h (mkF m pc' Ls (.int (x >>> (y &&& 31)) :: st))) : Go p l e R s m args below meth c n0 Q K S h (mkF m pc Ls (.int y :: .int x :: st)) := by
  subst hp; exact Go.by (g' := (mkF m (pc + 1) Ls (.int (x >>> (y &&& 31)) :: st))) (fun T ls cs ss X eT t kt => XS.ishr X.here C.1 rfl (hb C.2.2.1 hd) rfl kt) n
theorem iushr (C : Cx p l e R s m args below meth c Z bytes ml own ret nm) {pc pc' : Nat} {Ls : Array Slot} {st : List Value} {x y : Int32} (hd : decode bytes pc = .ok (.iushr, 1)) (hp : pc + 1 = pc')  (n : Go p l e R s m args below meth c n0 Q K S h (mkF m pc' Ls (.int ((x.toUInt32 >>> (y &&& 31).toUInt32).toInt32) :: st))) : Go p l e R s m args below meth c n0 Q K S h (mkF m pc Ls (.int y :: .int x :: st)) := by
  subst hp; exact Go.by (g' := (mkF m (pc + 1) Ls (.int ((x.toUInt32 >>> (y &&& 31).toUInt32).toInt32) :: st))) (fun T ls cs ss X eT t kt => XS.iushr X.here C.1 rfl (hb C.2.2.1 hd) rfl kt) n
theorem lshl (C : Cx p l e R s m args below meth c Z bytes ml own ret nm) {pc pc' : Nat} {Ls : Array Slot} {st : List Value} {x : Int64} {y : Int32} (hd : decode bytes pc = .ok (.lshl, 1)) (hp : pc + 1 = pc')  (n : Go p l e R s m args below meth c n0 Q K S h (mkF m pc' Ls (.long (x <<< (y &&& 0x3f).toInt64) :: st))) : Go p l e R s m args below meth c n0 Q K S h (mkF m pc Ls (.int y :: .long x :: st)) := by
  subst hp; exact Go.by (g' := (mkF m (pc + 1) Ls (.long (x <<< (y &&& 0x3f).toInt64) :: st))) (fun T ls cs ss X eT t kt => XS.lshl X.here C.1 rfl (hb C.2.2.1 hd) rfl kt) n
theorem lshr (C : Cx p l e R s m args below meth c Z bytes ml own ret nm) {pc pc' : Nat} {Ls : Array Slot} {st : List Value} {x : Int64} {y : Int32} (hd : decode bytes pc = .ok (.lshr, 1)) (hp : pc + 1 = pc')  (n : Go p l e R s m args below meth c n0 Q K S h (mkF m pc' Ls (.long (x >>> (y &&& 0x3f).toInt64) :: st))) : Go p l e R s m args below meth c n0 Q K S h (mkF m pc Ls (.int y :: .long x :: st)) := by
  subst hp; exact Go.by (g' := (mkF m (pc + 1) Ls (.long (x >>> (y &&& 0x3f).toInt64) :: st))) (fun T ls cs ss X eT t kt => XS.lshr X.here C.1 rfl (hb C.2.2.1 hd) rfl kt) n
theorem lushr (C : Cx p l e R s m args below meth c Z bytes ml own ret nm) {pc pc' : Nat} {Ls : Array Slot} {st : List Value} {x : Int64} {y : Int32} (hd : decode bytes pc = .ok (.lushr, 1)) (hp : pc + 1 = pc')  (n : Go p l e R s m args below meth c n0 Q K S h (mkF m pc' Ls (.long ((x.toUInt64 >>> (y &&& 0x3f).toInt64.toUInt64).toInt64) :: st))) : Go p l e R s m args below meth c n0 Q K S h (mkF m pc Ls (.int y :: .long x :: st)) := by
  subst hp; exact Go.by (g' := (mkF m (pc + 1) Ls (.long ((x.toUInt64 >>> (y &&& 0x3f).toInt64.toUInt64).toInt64) :: st))) (fun T ls cs ss X eT t kt => XS.lushr X.here C.1 rfl (hb C.2.2.1 hd) rfl kt) n
theorem idiv (C : Cx p l e R s m args below meth c Z bytes ml own ret nm) {pc pc' : Nat} {Ls : Array Slot} {st : List Value} {x y : Int32}  (hd : decode bytes pc = .ok (.idiv, 1)) (hp : pc + 1 = pc') (hy : y ≠ 0) (n : Go p l e R s m args below meth c n0 Q K S h (mkF m pc' Ls (.int (x / y) :: st))) : Go p l e R s m args below meth c n0 Q K S h (mkF m pc Ls (.int y :: .int x :: st)) := by
  subst hp; exact Go.by (g' := (mkF m (pc + 1) Ls (.int (x / y) :: st))) (fun T ls cs ss X eT t kt => XS.idiv X.here C.1 rfl (hb C.2.2.1 hd) rfl hy kt) n
theorem irem (C : Cx p l e R s m args below meth c Z bytes ml own ret nm) {pc pc' : Nat} {Ls : Array Slot} {st : List Value} {x y : Int32}  (hd : decode bytes pc = .ok (.irem, 1)) (hp : pc + 1 = pc') (hy : y ≠ 0) (n : Go p l e R s m args below meth c n0 Q K S h (mkF m pc' Ls (.int (x % y) :: st))) : Go p l e R s m args below meth c n0 Q K S h (mkF m pc Ls (.int y :: .int x :: st)) := by
  subst hp; exact Go.by (g' := (mkF m (pc + 1) Ls (.int (x % y) :: st))) (fun T ls cs ss X eT t kt => iremM X C.1 rfl (hb C.2.2.1 hd) rfl hy kt) n
theorem ldiv (C : Cx p l e R s m args below meth c Z bytes ml own ret nm) {pc pc' : Nat} {Ls : Array Slot} {st : List Value} {x y : Int64}  (hd : decode bytes pc = .ok (.ldiv, 1)) (hp : pc + 1 = pc') (hy : y ≠ 0) (n : Go p l e R s m args below meth c n0 Q K S h (mkF m pc' Ls (.long (x / y) :: st))) : Go p l e R s m args below meth c n0 Q K S h (mkF m pc Ls (.long y :: .long x :: st)) := by
  subst hp; exact Go.by (g' := (mkF m (pc + 1) Ls (.long (x / y) :: st))) (fun T ls cs ss X eT t kt => XS.ldiv X.here C.1 rfl (hb C.2.2.1 hd) rfl hy kt) n
theorem ineg (C : Cx p l e R s m args below meth c Z bytes ml own ret nm) {pc pc' : Nat} {Ls : Array Slot} {st : List Value} {x : Int32} (hd : decode bytes pc = .ok (.ineg, 1)) (hp : pc + 1 = pc')  (n : Go p l e R s m args below meth c n0 Q K S h (mkF m pc' Ls (.int (-x) :: st))) : Go p l e R s m args below meth c n0 Q K S h (mkF m pc Ls (.int x :: st)) := by
  subst hp; exact Go.by (g' := (mkF m (pc + 1) Ls (.int (-x) :: st))) (fun T ls cs ss X eT t kt => XS.ineg X.here C.1 rfl (hb C.2.2.1 hd) rfl kt) n
theorem lneg (C : Cx p l e R s m args below meth c Z bytes ml own ret nm) {pc pc' : Nat} {Ls : Array Slot} {st : List Value} {x : Int64} (hd : decode bytes pc = .ok (.lneg, 1)) (hp : pc + 1 = pc')  (n : Go p l e R s m args below meth c n0 Q K S h (mkF m pc' Ls (.long (-x) :: st))) : Go p l e R s m args below meth c n0 Q K S h (mkF m pc Ls (.long x :: st)) := by
  subst hp; exact Go.by (g' := (mkF m (pc + 1) Ls (.long (-x) :: st))) (fun T ls cs ss X eT t kt => XS.lneg X.here C.1 rfl (hb C.2.2.1 hd) rfl kt) n
theorem i2l (C : Cx p l e R s m args below meth c Z bytes ml own ret nm) {pc pc' : Nat} {Ls : Array Slot} {st : List Value} {x : Int32} (hd : decode bytes pc = .ok (.i2l, 1)) (hp : pc + 1 = pc')  (n : Go p l e R s m args below meth c n0 Q K S h (mkF m pc' Ls (.long (x.toInt64) :: st))) : Go p l e R s m args below meth c n0 Q K S h (mkF m pc Ls (.int x :: st)) := by
  subst hp; exact Go.by (g' := (mkF m (pc + 1) Ls (.long (x.toInt64) :: st))) (fun T ls cs ss X eT t kt => XS.i2l X.here C.1 rfl (hb C.2.2.1 hd) rfl kt) n
theorem i2b (C : Cx p l e R s m args below meth c Z bytes ml own ret nm) {pc pc' : Nat} {Ls : Array Slot} {st : List Value} {x : Int32} (hd : decode bytes pc = .ok (.i2b, 1)) (hp : pc + 1 = pc')  (n : Go p l e R s m args below meth c n0 Q K S h (mkF m pc' Ls (.int (x.toInt8.toInt32) :: st))) : Go p l e R s m args below meth c n0 Q K S h (mkF m pc Ls (.int x :: st)) := by
  subst hp; exact Go.by (g' := (mkF m (pc + 1) Ls (.int (x.toInt8.toInt32) :: st))) (fun T ls cs ss X eT t kt => XS.i2b X.here C.1 rfl (hb C.2.2.1 hd) rfl kt) n
theorem i2s (C : Cx p l e R s m args below meth c Z bytes ml own ret nm) {pc pc' : Nat} {Ls : Array Slot} {st : List Value} {x : Int32} (hd : decode bytes pc = .ok (.i2s, 1)) (hp : pc + 1 = pc')  (n : Go p l e R s m args below meth c n0 Q K S h (mkF m pc' Ls (.int (x.toInt16.toInt32) :: st))) : Go p l e R s m args below meth c n0 Q K S h (mkF m pc Ls (.int x :: st)) := by
  subst hp; exact Go.by (g' := (mkF m (pc + 1) Ls (.int (x.toInt16.toInt32) :: st))) (fun T ls cs ss X eT t kt => XS.i2s X.here C.1 rfl (hb C.2.2.1 hd) rfl kt) n
theorem i2c (C : Cx p l e R s m args below meth c Z bytes ml own ret nm) {pc pc' : Nat} {Ls : Array Slot} {st : List Value} {x : Int32} (hd : decode bytes pc = .ok (.i2c, 1)) (hp : pc + 1 = pc')  (n : Go p l e R s m args below meth c n0 Q K S h (mkF m pc' Ls (.int (x.toUInt32.toUInt16.toUInt32.toInt32) :: st))) : Go p l e R s m args below meth c n0 Q K S h (mkF m pc Ls (.int x :: st)) := by
  subst hp; exact Go.by (g' := (mkF m (pc + 1) Ls (.int (x.toUInt32.toUInt16.toUInt32.toInt32) :: st))) (fun T ls cs ss X eT t kt => XS.i2c X.here C.1 rfl (hb C.2.2.1 hd) rfl kt) n
theorem l2i (C : Cx p l e R s m args below meth c Z bytes ml own ret nm) {pc pc' : Nat} {Ls : Array Slot} {st : List Value} {x : Int64} (hd : decode bytes pc = .ok (.l2i, 1)) (hp : pc + 1 = pc')  (n : Go p l e R s m args below meth c n0 Q K S h (mkF m pc' Ls (.int x.toInt32 :: st))) : Go p l e R s m args below meth c n0 Q K S h (mkF m pc Ls (.long x :: st)) := by
  subst hp; exact Go.by (g' := (mkF m (pc + 1) Ls (.int x.toInt32 :: st))) (fun T ls cs ss X eT t kt => XS.l2i X.here C.1 rfl (hb C.2.2.1 hd) rfl kt) n
theorem lcmp (C : Cx p l e R s m args below meth c Z bytes ml own ret nm) {pc pc' : Nat} {Ls : Array Slot} {st : List Value} {x y : Int64} (hd : decode bytes pc = .ok (.lcmp, 1)) (hp : pc + 1 = pc')  (n : Go p l e R s m args below meth c n0 Q K S h (mkF m pc' Ls (.int (lcmpW x y) :: st))) : Go p l e R s m args below meth c n0 Q K S h (mkF m pc Ls (.long y :: .long x :: st)) := by
  subst hp; exact Go.by (g' := (mkF m (pc + 1) Ls (.int (lcmpW x y) :: st))) (fun T ls cs ss X eT t kt => XS.lcmp X.here C.1 rfl (hb C.2.2.1 hd) rfl kt) n
theorem iinc (C : Cx p l e R s m args below meth c Z bytes ml own ret nm) {pc pc' : Nat} {Ls : Array Slot} {st : List Value} {k : Nat} {i : Int} {x : Int32} {l' : Array Slot}  (hd : decode bytes pc = .ok (.iinc k i, 3)) (hp : pc + 3 = pc') (hl : Ls[k]? = some (.val (.int x))) (hl' : storeLocals Ls k (.int (x + Int32.ofInt i)) = some l') (n : Go p l e R s m args below meth c n0 Q K S h (mkF m pc' l' st)) : Go p l e R s m args below meth c n0 Q K S h (mkF m pc Ls st) := by
  subst hp; exact Go.by (g' := (mkF m (pc + 3) l' st)) (fun T ls cs ss X eT t kt => XS.iinc X.here C.1 rfl (hb C.2.2.1 hd) hl hl' kt) n
theorem dup (C : Cx p l e R s m args below meth c Z bytes ml own ret nm) {pc pc' : Nat} {Ls : Array Slot} {st : List Value} {x : Value}  (hd : decode bytes pc = .ok (.dup, 1)) (hp : pc + 1 = pc') (hc : x.category = 1) (n : Go p l e R s m args below meth c n0 Q K S h (mkF m pc' Ls (x :: x :: st))) : Go p l e R s m args below meth c n0 Q K S h (mkF m pc Ls (x :: st)) := by
  subst hp; exact Go.by (g' := (mkF m (pc + 1) Ls (x :: x :: st))) (fun T ls cs ss X eT t kt => XS.dup X.here C.1 rfl (hb C.2.2.1 hd) rfl hc kt) n
theorem pop (C : Cx p l e R s m args below meth c Z bytes ml own ret nm) {pc pc' : Nat} {Ls : Array Slot} {st : List Value} {x : Value}  (hd : decode bytes pc = .ok (.pop, 1)) (hp : pc + 1 = pc') (hc : x.category = 1) (n : Go p l e R s m args below meth c n0 Q K S h (mkF m pc' Ls st)) : Go p l e R s m args below meth c n0 Q K S h (mkF m pc Ls (x :: st)) := by
  subst hp; exact Go.by (g' := (mkF m (pc + 1) Ls st)) (fun T ls cs ss X eT t kt => XS.pop X.here C.1 rfl (hb C.2.2.1 hd) rfl hc kt) n
theorem dupX1 (C : Cx p l e R s m args below meth c Z bytes ml own ret nm) {pc pc' : Nat} {Ls : Array Slot} {st : List Value} {x y : Value}  (hd : decode bytes pc = .ok (.dup_x1, 1)) (hp : pc + 1 = pc') (hc : x.category = 1) (hc' : y.category = 1) (n : Go p l e R s m args below meth c n0 Q K S h (mkF m pc' Ls (x :: y :: x :: st))) : Go p l e R s m args below meth c n0 Q K S h (mkF m pc Ls (x :: y :: st)) := by
  subst hp; exact Go.by (g' := (mkF m (pc + 1) Ls (x :: y :: x :: st))) (fun T ls cs ss X eT t kt => XS.dupX1 X.here C.1 rfl (hb C.2.2.1 hd) rfl hc hc' kt) n
theorem dloadN (C : Cx p l e R s m args below meth c Z bytes ml own ret nm) {pc pc' : Nat} {Ls : Array Slot} {st : List Value} {k : Fin 4} {v : UInt64}  (hd : decode bytes pc = .ok (.dload_n k, 1)) (hp : pc + 1 = pc') (hl : Ls[k.val]? = some (.val (.double v))) (n : Go p l e R s m args below meth c n0 Q K S h (mkF m pc' Ls (.double v :: st))) : Go p l e R s m args below meth c n0 Q K S h (mkF m pc Ls st) := by
  subst hp; exact Go.by (g' := (mkF m (pc + 1) Ls (.double v :: st))) (fun T ls cs ss X eT t kt => XS.dloadN X.here C.1 rfl (hb C.2.2.1 hd) hl kt) n
theorem dload (C : Cx p l e R s m args below meth c Z bytes ml own ret nm) {pc pc' : Nat} {Ls : Array Slot} {st : List Value} {k : Nat} {v : UInt64}  (hd : decode bytes pc = .ok (.dload k, 2)) (hp : pc + 2 = pc') (hl : Ls[k]? = some (.val (.double v))) (n : Go p l e R s m args below meth c n0 Q K S h (mkF m pc' Ls (.double v :: st))) : Go p l e R s m args below meth c n0 Q K S h (mkF m pc Ls st) := by
  subst hp; exact Go.by (g' := (mkF m (pc + 2) Ls (.double v :: st))) (fun T ls cs ss X eT t kt => XS.dload X.here C.1 rfl (hb C.2.2.1 hd) hl kt) n
theorem i2d (C : Cx p l e R s m args below meth c Z bytes ml own ret nm) {pc pc' : Nat} {Ls : Array Slot} {st : List Value} {x : Int32} (hd : decode bytes pc = .ok (.i2d, 1)) (hp : pc + 1 = pc')  (n : Go p l e R s m args below meth c n0 Q K S h (mkF m pc' Ls (.double (FP.i2d x) :: st))) : Go p l e R s m args below meth c n0 Q K S h (mkF m pc Ls (.int x :: st)) := by
  subst hp; exact Go.by (g' := (mkF m (pc + 1) Ls (.double (FP.i2d x) :: st))) (fun T ls cs ss X eT t kt => XS.i2dS X.here C.1 rfl (hb C.2.2.1 hd) rfl rfl kt) n
theorem ddiv (C : Cx p l e R s m args below meth c Z bytes ml own ret nm) {pc pc' : Nat} {Ls : Array Slot} {st : List Value} {x y v : UInt64}  (hd : decode bytes pc = .ok (.ddiv, 1)) (hp : pc + 1 = pc') (hn : Jvm.Free.Fl.NoNaN64 (FP.ddiv x y)) (hv : FP.ddiv x y = v) (n : Go p l e R s m args below meth c n0 Q K S h (mkF m pc' Ls (.double v :: st))) : Go p l e R s m args below meth c n0 Q K S h (mkF m pc Ls (.double y :: .double x :: st)) := by
  subst hp; exact Go.by (g' := (mkF m (pc + 1) Ls (.double v :: st))) (fun T ls cs ss X eT t kt => XS.ddivS X.here C.1 rfl (hb C.2.2.1 hd) rfl hn hv kt) n
theorem dcmp (C : Cx p l e R s m args below meth c Z bytes ml own ret nm) {pc pc' : Nat} {Ls : Array Slot} {st : List Value} {x y : UInt64} {o : CmpOp} {v : Int32}  (hd : decode bytes pc = .ok (.dcmp o, 1)) (hp : pc + 1 = pc') (hv : cmpValue (FP.dcmp x y) o = v) (n : Go p l e R s m args below meth c n0 Q K S h (mkF m pc' Ls (.int v :: st))) : Go p l e R s m args below meth c n0 Q K S h (mkF m pc Ls (.double y :: .double x :: st)) := by
  subst hp; exact Go.by (g' := (mkF m (pc + 1) Ls (.int v :: st))) (fun T ls cs ss X eT t kt => XS.dcmpS X.here C.1 rfl (hb C.2.2.1 hd) rfl hv kt) n
theorem goto (C : Cx p l e R s m args below meth c Z bytes ml own ret nm) {pc pc' : Nat} {Ls : Array Slot} {st : List Value} {o : Int} (hd : decode bytes pc = .ok (.goto o, 3)) (ho : 0 ≤ (pc : Int) + o) (hp : ((pc : Int) + o).toNat = pc') (n : Go p l e R s m args below meth c n0 Q K S h (mkF m pc' Ls st)) : Go p l e R s m args below meth c n0 Q K S h (mkF m pc Ls st) :=
  Go.by (fun T ls cs ss X eT t kt => XS.goto X.here C.1 rfl rfl (hb C.2.2.1 hd) ho hp kt) n
theorem ifG (C : Cx p l e R s m args below meth c Z bytes ml own ret nm) {pc pcY pcN : Nat} {Ls : Array Slot} {st : List Value} {cd : ClassFile.Cond} {o : Int} {x : Int32} (hd : decode bytes pc = .ok (.ifCond cd o, 3)) (ho : 0 ≤ (pc : Int) + o) (hp : ((pc : Int) + o).toNat = pcY) (hp' : pc + 3 = pcN) (ny : ifCond.holds cd x = true → Go p l e R s m args below meth c n0 Q K S h (mkF m pcY Ls st)) (nn : ifCond.holds cd x = false → Go p l e R s m args below meth c n0 Q K S h (mkF m pcN Ls st)) : Go p l e R s m args below meth c n0 Q K S h (mkF m pc Ls (.int x :: st)) := by
  subst hp'
  cases hc : ifCond.holds cd x
  · exact Go.by (g' := (mkF m (pc + 3) Ls st)) (fun T ls cs ss X eT t kt => XS.ifNo X.here C.1 rfl (hb C.2.2.1 hd) rfl hc kt) (nn hc)
  · exact Go.by (fun T ls cs ss X eT t kt => XS.ifYes X.here C.1 rfl rfl (hb C.2.2.1 hd) rfl hc ho hp kt) (ny hc)
theorem icmpG (C : Cx p l e R s m args below meth c Z bytes ml own ret nm) {pc pcY pcN : Nat} {Ls : Array Slot} {st : List Value} {cd : ClassFile.Cond} {o : Int} {x y : Int32} (hd : decode bytes pc = .ok (.if_icmp cd o, 3)) (ho : 0 ≤ (pc : Int) + o) (hp : ((pc : Int) + o).toNat = pcY) (hp' : pc + 3 = pcN) (ny : if_icmp.holds cd x y = true → Go p l e R s m args below meth c n0 Q K S h (mkF m pcY Ls st)) (nn : if_icmp.holds cd x y = false → Go p l e R s m args below meth c n0 Q K S h (mkF m pcN Ls st)) : Go p l e R s m args below meth c n0 Q K S h (mkF m pc Ls (.int y :: .int x :: st)) := by
  subst hp'
  cases hc : if_icmp.holds cd x y
  · exact Go.by (g' := (mkF m (pc + 3) Ls st)) (fun T ls cs ss X eT t kt => XS.icmpNo X.here C.1 rfl (hb C.2.2.1 hd) rfl hc kt) (nn hc)
  · exact Go.by (fun T ls cs ss X eT t kt => XS.icmpYes X.here C.1 rfl rfl (hb C.2.2.1 hd) rfl hc ho hp kt) (ny hc)
theorem ifEq (C : Cx p l e R s m args below meth c Z bytes ml own ret nm) {pc pcY pcN : Nat} {Ls : Array Slot} {st : List Value} {o : Int} {x : Int32} (hd : decode bytes pc = .ok (.ifCond .eq o, 3)) (ho : 0 ≤ (pc : Int) + o) (hp : ((pc : Int) + o).toNat = pcY) (hp' : pc + 3 = pcN) (ny : x = 0 → Go p l e R s m args below meth c n0 Q K S h (mkF m pcY Ls st)) (nn : ¬ x = 0 → Go p l e R s m args below meth c n0 Q K S h (mkF m pcN Ls st)) : Go p l e R s m args below meth c n0 Q K S h (mkF m pc Ls (.int x :: st)) := by
  by_cases hq : x = 0
  · exact ifG C hd ho hp hp' (fun hc => ny hq) (fun hc => absurd (hc.symm.trans ((if0 _ _).trans (teq hq).1)) (by decide))
  · exact ifG C hd ho hp hp' (fun hc => absurd (hc.symm.trans ((if0 _ _).trans (feq hq).1)) (by decide)) (fun hc => nn hq)
theorem icEq (C : Cx p l e R s m args below meth c Z bytes ml own ret nm) {pc pcY pcN : Nat} {Ls : Array Slot} {st : List Value} {o : Int} {x y : Int32} (hd : decode bytes pc = .ok (.if_icmp .eq o, 3)) (ho : 0 ≤ (pc : Int) + o) (hp : ((pc : Int) + o).toNat = pcY) (hp' : pc + 3 = pcN) (ny : x = y → Go p l e R s m args below meth c n0 Q K S h (mkF m pcY Ls st)) (nn : ¬ x = y → Go p l e R s m args below meth c n0 Q K S h (mkF m pcN Ls st)) : Go p l e R s m args below meth c n0 Q K S h (mkF m pc Ls (.int y :: .int x :: st)) := by
  by_cases hq : x = y
  · exact icmpG C hd ho hp hp' (fun hc => ny hq) (fun hc => absurd (hc.symm.trans ((teq hq).1)) (by decide))
  · exact icmpG C hd ho hp hp' (fun hc => absurd (hc.symm.trans ((feq hq).1)) (by decide)) (fun hc => nn hq)
theorem ifNe (C : Cx p l e R s m args below meth c Z bytes ml own ret nm) {pc pcY pcN : Nat} {Ls : Array Slot} {st : List Value} {o : Int} {x : Int32} (hd : decode bytes pc = .ok (.ifCond .ne o, 3)) (ho : 0 ≤ (pc : Int) + o) (hp : ((pc : Int) + o).toNat = pcY) (hp' : pc + 3 = pcN) (ny : ¬ x = 0 → Go p l e R s m args below meth c n0 Q K S h (mkF m pcY Ls st)) (nn : x = 0 → Go p l e R s m args below meth c n0 Q K S h (mkF m pcN Ls st)) : Go p l e R s m args below meth c n0 Q K S h (mkF m pc Ls (.int x :: st)) := by
  by_cases hq : x = 0
  · exact ifG C hd ho hp hp' (fun hc => absurd (hc.symm.trans ((if0 _ _).trans (teq hq).2)) (by decide)) (fun hc => nn hq)
  · exact ifG C hd ho hp hp' (fun hc => ny hq) (fun hc => absurd (hc.symm.trans ((if0 _ _).trans (feq hq).2)) (by decide))
theorem icNe (C : Cx p l e R s m args below meth c Z bytes ml own ret nm) {pc pcY pcN : Nat} {Ls : Array Slot} {st : List Value} {o : Int} {x y : Int32} (hd : decode bytes pc = .ok (.if_icmp .ne o, 3)) (ho : 0 ≤ (pc : Int) + o) (hp : ((pc : Int) + o).toNat = pcY) (hp' : pc + 3 = pcN) (ny : ¬ x = y → Go p l e R s m args below meth c n0 Q K S h (mkF m pcY Ls st)) (nn : x = y → Go p l e R s m args below meth c n0 Q K S h (mkF m pcN Ls st)) : Go p l e R s m args below meth c n0 Q K S h (mkF m pc Ls (.int y :: .int x :: st)) := by
  by_cases hq : x = y
  · exact icmpG C hd ho hp hp' (fun hc => absurd (hc.symm.trans ((teq hq).2)) (by decide)) (fun hc => nn hq)
  · exact icmpG C hd ho hp hp' (fun hc => ny hq) (fun hc => absurd (hc.symm.trans ((feq hq).2)) (by decide))
theorem ifLt (C : Cx p l e R s m args below meth c Z bytes ml own ret nm) {pc pcY pcN : Nat} {Ls : Array Slot} {st : List Value} {o : Int} {x : Int32} (hd : decode bytes pc = .ok (.ifCond .lt o, 3)) (ho : 0 ≤ (pc : Int) + o) (hp : ((pc : Int) + o).toNat = pcY) (hp' : pc + 3 = pcN) (ny : x < 0 → Go p l e R s m args below meth c n0 Q K S h (mkF m pcY Ls st)) (nn : ¬ x < 0 → Go p l e R s m args below meth c n0 Q K S h (mkF m pcN Ls st)) : Go p l e R s m args below meth c n0 Q K S h (mkF m pc Ls (.int x :: st)) := by
  by_cases hq : x < 0
  · exact ifG C hd ho hp hp' (fun hc => ny hq) (fun hc => absurd (hc.symm.trans ((if0 _ _).trans (tlt hq).1)) (by decide))
  · exact ifG C hd ho hp hp' (fun hc => absurd (hc.symm.trans ((if0 _ _).trans (flt hq).1)) (by decide)) (fun hc => nn hq)
theorem icLt (C : Cx p l e R s m args below meth c Z bytes ml own ret nm) {pc pcY pcN : Nat} {Ls : Array Slot} {st : List Value} {o : Int} {x y : Int32} (hd : decode bytes pc = .ok (.if_icmp .lt o, 3)) (ho : 0 ≤ (pc : Int) + o) (hp : ((pc : Int) + o).toNat = pcY) (hp' : pc + 3 = pcN) (ny : x < y → Go p l e R s m args below meth c n0 Q K S h (mkF m pcY Ls st)) (nn : ¬ x < y → Go p l e R s m args below meth c n0 Q K S h (mkF m pcN Ls st)) : Go p l e R s m args below meth c n0 Q K S h (mkF m pc Ls (.int y :: .int x :: st)) := by
  by_cases hq : x < y
  · exact icmpG C hd ho hp hp' (fun hc => ny hq) (fun hc => absurd (hc.symm.trans ((tlt hq).1)) (by decide))
  · exact icmpG C hd ho hp hp' (fun hc => absurd (hc.symm.trans ((flt hq).1)) (by decide)) (fun hc => nn hq)
theorem ifGe (C : Cx p l e R s m args below meth c Z bytes ml own ret nm) {pc pcY pcN : Nat} {Ls : Array Slot} {st : List Value} {o : Int} {x : Int32} (hd : decode bytes pc = .ok (.ifCond .ge o, 3)) (ho : 0 ≤ (pc : Int) + o) (hp : ((pc : Int) + o).toNat = pcY) (hp' : pc + 3 = pcN) (ny : ¬ x < 0 → Go p l e R s m args below meth c n0 Q K S h (mkF m pcY Ls st)) (nn : x < 0 → Go p l e R s m args below meth c n0 Q K S h (mkF m pcN Ls st)) : Go p l e R s m args below meth c n0 Q K S h (mkF m pc Ls (.int x :: st)) := by
  by_cases hq : x < 0
  · exact ifG C hd ho hp hp' (fun hc => absurd (hc.symm.trans ((if0 _ _).trans (tlt hq).2.1)) (by decide)) (fun hc => nn hq)
  · exact ifG C hd ho hp hp' (fun hc => ny hq) (fun hc => absurd (hc.symm.trans ((if0 _ _).trans (flt hq).2.1)) (by decide))
theorem icGe (C : Cx p l e R s m args below meth c Z bytes ml own ret nm) {pc pcY pcN : Nat} {Ls : Array Slot} {st : List Value} {o : Int} {x y : Int32} (hd : decode bytes pc = .ok (.if_icmp .ge o, 3)) (ho : 0 ≤ (pc : Int) + o) (hp : ((pc : Int) + o).toNat = pcY) (hp' : pc + 3 = pcN) (ny : ¬ x < y → Go p l e R s m args below meth c n0 Q K S h (mkF m pcY Ls st)) (nn : x < y → Go p l e R s m args below meth c n0 Q K S h (mkF m pcN Ls st)) : Go p l e R s m args below meth c n0 Q K S h (mkF m pc Ls (.int y :: .int x :: st)) := by
  by_cases hq : x < y
  · exact icmpG C hd ho hp hp' (fun hc => absurd (hc.symm.trans ((tlt hq).2.1)) (by decide)) (fun hc => nn hq)
  · exact icmpG C hd ho hp hp' (fun hc => ny hq) (fun hc => absurd (hc.symm.trans ((flt hq).2.1)) (by decide))
theorem ifGt (C : Cx p l e R s m args below meth c Z bytes ml own ret nm) {pc pcY pcN : Nat} {Ls : Array Slot} {st : List Value} {o : Int} {x : Int32} (hd : decode bytes pc = .ok (.ifCond .gt o, 3)) (ho : 0 ≤ (pc : Int) + o) (hp : ((pc : Int) + o).toNat = pcY) (hp' : pc + 3 = pcN) (ny : 0 < x → Go p l e R s m args below meth c n0 Q K S h (mkF m pcY Ls st)) (nn : ¬ 0 < x → Go p l e R s m args below meth c n0 Q K S h (mkF m pcN Ls st)) : Go p l e R s m args below meth c n0 Q K S h (mkF m pc Ls (.int x :: st)) := by
  by_cases hq : 0 < x
  · exact ifG C hd ho hp hp' (fun hc => ny hq) (fun hc => absurd (hc.symm.trans ((if0 _ _).trans (tlt hq).2.2.1)) (by decide))
  · exact ifG C hd ho hp hp' (fun hc => absurd (hc.symm.trans ((if0 _ _).trans (flt hq).2.2.1)) (by decide)) (fun hc => nn hq)
theorem icGt (C : Cx p l e R s m args below meth c Z bytes ml own ret nm) {pc pcY pcN : Nat} {Ls : Array Slot} {st : List Value} {o : Int} {x y : Int32} (hd : decode bytes pc = .ok (.if_icmp .gt o, 3)) (ho : 0 ≤ (pc : Int) + o) (hp : ((pc : Int) + o).toNat = pcY) (hp' : pc + 3 = pcN) (ny : y < x → Go p l e R s m args below meth c n0 Q K S h (mkF m pcY Ls st)) (nn : ¬ y < x → Go p l e R s m args below meth c n0 Q K S h (mkF m pcN Ls st)) : Go p l e R s m args below meth c n0 Q K S h (mkF m pc Ls (.int y :: .int x :: st)) := by
  by_cases hq : y < x
  · exact icmpG C hd ho hp hp' (fun hc => ny hq) (fun hc => absurd (hc.symm.trans ((tlt hq).2.2.1)) (by decide))
  · exact icmpG C hd ho hp hp' (fun hc => absurd (hc.symm.trans ((flt hq).2.2.1)) (by decide)) (fun hc => nn hq)
theorem ifLe (C : Cx p l e R s m args below meth c Z bytes ml own ret nm) {pc pcY pcN : Nat} {Ls : Array Slot} {st : List Value} {o : Int} {x : Int32} (hd : decode bytes pc = .ok (.ifCond .le o, 3)) (ho : 0 ≤ (pc : Int) + o) (hp : ((pc : Int) + o).toNat = pcY) (hp' : pc + 3 = pcN) (ny : ¬ 0 < x → Go p l e R s m args below meth c n0 Q K S h (mkF m pcY Ls st)) (nn : 0 < x → Go p l e R s m args below meth c n0 Q K S h (mkF m pcN Ls st)) : Go p l e R s m args below meth c n0 Q K S h (mkF m pc Ls (.int x :: st)) := by
  by_cases hq : 0 < x
  · exact ifG C hd ho hp hp' (fun hc => absurd (hc.symm.trans ((if0 _ _).trans (tlt hq).2.2.2)) (by decide)) (fun hc => nn hq)
  · exact ifG C hd ho hp hp' (fun hc => ny hq) (fun hc => absurd (hc.symm.trans ((if0 _ _).trans (flt hq).2.2.2)) (by decide))
theorem icLe (C : Cx p l e R s m args below meth c Z bytes ml own ret nm) {pc pcY pcN : Nat} {Ls : Array Slot} {st : List Value} {o : Int} {x y : Int32} (hd : decode bytes pc = .ok (.if_icmp .le o, 3)) (ho : 0 ≤ (pc : Int) + o) (hp : ((pc : Int) + o).toNat = pcY) (hp' : pc + 3 = pcN) (ny : ¬ y < x → Go p l e R s m args below meth c n0 Q K S h (mkF m pcY Ls st)) (nn : y < x → Go p l e R s m args below meth c n0 Q K S h (mkF m pcN Ls st)) : Go p l e R s m args below meth c n0 Q K S h (mkF m pc Ls (.int y :: .int x :: st)) := by
  by_cases hq : y < x
  · exact icmpG C hd ho hp hp' (fun hc => absurd (hc.symm.trans ((tlt hq).2.2.2)) (by decide)) (fun hc => nn hq)
  · exact icmpG C hd ho hp hp' (fun hc => ny hq) (fun hc => absurd (hc.symm.trans ((flt hq).2.2.2)) (by decide))
theorem acEq (C : Cx p l e R s m args below meth c Z bytes ml own ret nm) {pc pcY pcN : Nat} {Ls : Array Slot} {st : List Value} {o : Int} {x y : Value} (hx : x.isRef = true) (hy : y.isRef = true) (hd : decode bytes pc = .ok (.if_acmp .eq o, 3)) (ho : 0 ≤ (pc : Int) + o) (hp : ((pc : Int) + o).toNat = pcY) (hp' : pc + 3 = pcN) (ny : x = y → Go p l e R s m args below meth c n0 Q K S h (mkF m pcY Ls st)) (nn : ¬ x = y → Go p l e R s m args below meth c n0 Q K S h (mkF m pcN Ls st)) : Go p l e R s m args below meth c n0 Q K S h (mkF m pc Ls (y :: x :: st)) := by
  by_cases hq : x = y
  · exact Go.by (fun T ls cs ss X eT t kt => Jvm.RoadKit.acmp (g := mkF m pc Ls (y :: x :: st)) X C.1 rfl hx hy (same := true) rfl (hb C.2.2.1 hd) rfl (decide_eq_true hq) ho (by first | (simp [acV]; omega) | (simp [acV, ← hp'])) kt) (ny hq)
  · exact Go.by (fun T ls cs ss X eT t kt => Jvm.RoadKit.acmp (g := mkF m pc Ls (y :: x :: st)) X C.1 rfl hx hy (same := false) rfl (hb C.2.2.1 hd) rfl (decide_eq_false hq) ho (by first | (simp [acV]; omega) | (simp [acV, ← hp'])) kt) (nn hq)
theorem acNe (C : Cx p l e R s m args below meth c Z bytes ml own ret nm) {pc pcY pcN : Nat} {Ls : Array Slot} {st : List Value} {o : Int} {x y : Value} (hx : x.isRef = true) (hy : y.isRef = true) (hd : decode bytes pc = .ok (.if_acmp .ne o, 3)) (ho : 0 ≤ (pc : Int) + o) (hp : ((pc : Int) + o).toNat = pcY) (hp' : pc + 3 = pcN) (ny : ¬ x = y → Go p l e R s m args below meth c n0 Q K S h (mkF m pcY Ls st)) (nn : x = y → Go p l e R s m args below meth c n0 Q K S h (mkF m pcN Ls st)) : Go p l e R s m args below meth c n0 Q K S h (mkF m pc Ls (y :: x :: st)) := by
  by_cases hq : x = y
  · exact Go.by (fun T ls cs ss X eT t kt => Jvm.RoadKit.acmp (g := mkF m pc Ls (y :: x :: st)) X C.1 rfl hx hy (same := true) rfl (hb C.2.2.1 hd) rfl (decide_eq_true hq) ho (by first | (simp [acV]; omega) | (simp [acV, ← hp'])) kt) (nn hq)
  · exact Go.by (fun T ls cs ss X eT t kt => Jvm.RoadKit.acmp (g := mkF m pc Ls (y :: x :: st)) X C.1 rfl hx hy (same := false) rfl (hb C.2.2.1 hd) rfl (decide_eq_false hq) ho (by first | (simp [acV]; omega) | (simp [acV, ← hp'])) kt) (ny hq)
theorem ifnull (C : Cx p l e R s m args below meth c Z bytes ml own ret nm) {pc pcY pcN : Nat} {Ls : Array Slot} {st : List Value} {o : Int} {x : Value} (hx : x.isRef = true) (hd : decode bytes pc = .ok (.ifnull o, 3)) (ho : 0 ≤ (pc : Int) + o) (hp : ((pc : Int) + o).toNat = pcY) (hp' : pc + 3 = pcN) (ny : x = .null → Go p l e R s m args below meth c n0 Q K S h (mkF m pcY Ls st)) (nn : (∃ a, x = .ref a) → Go p l e R s m args below meth c n0 Q K S h (mkF m pcN Ls st)) : Go p l e R s m args below meth c n0 Q K S h (mkF m pc Ls (x :: st)) := by
  subst hp'
  rcases ref_cases hx with rfl | ⟨a, rfl⟩
  · exact Go.by (fun T ls cs ss X eT t kt => XS.ifnullYes X.here C.1 rfl rfl (hb C.2.2.1 hd) rfl ho hp kt) (ny rfl)
  · exact Go.by (g' := (mkF m (pc + 3) Ls st)) (fun T ls cs ss X eT t kt => XS.ifnullNo X.here C.1 rfl (hb C.2.2.1 hd) rfl kt) (nn ⟨a, rfl⟩)
theorem ifnonnull (C : Cx p l e R s m args below meth c Z bytes ml own ret nm) {pc pcY pcN : Nat} {Ls : Array Slot} {st : List Value} {o : Int} {x : Value} (hx : x.isRef = true) (hd : decode bytes pc = .ok (.ifnonnull o, 3)) (ho : 0 ≤ (pc : Int) + o) (hp : ((pc : Int) + o).toNat = pcY) (hp' : pc + 3 = pcN) (ny : (∃ a, x = .ref a) → Go p l e R s m args below meth c n0 Q K S h (mkF m pcY Ls st)) (nn : x = .null → Go p l e R s m args below meth c n0 Q K S h (mkF m pcN Ls st)) : Go p l e R s m args below meth c n0 Q K S h (mkF m pc Ls (x :: st)) := by
  subst hp'
  rcases ref_cases hx with rfl | ⟨a, rfl⟩
  · exact Go.by (g' := (mkF m (pc + 3) Ls st)) (fun T ls cs ss X eT t kt => XS.ifnonnullNo X.here C.1 rfl (hb C.2.2.1 hd) rfl kt) (nn rfl)
  · exact Go.by (fun T ls cs ss X eT t kt => XS.ifnonnullYes X.here C.1 rfl rfl (hb C.2.2.1 hd) rfl ho hp kt) (ny ⟨a, rfl⟩)
theorem tsw (C : Cx p l e R s m args below meth c Z bytes ml own ret nm) {pc pc' : Nat} {Ls : Array Slot} {st : List Value} {dflt low high : Int} {offs : Array Int} {len : Nat} {o : Int} {i : Int32} (hd : decode bytes pc = .ok (.tableswitch dflt low high offs, len)) (hin : ¬ (i.toInt < low ∨ i.toInt > high)) (hoff : offs[(i.toInt - low).toNat]? = some o) (ho : 0 ≤ (pc : Int) + o) (hp : ((pc : Int) + o).toNat = pc') (n : Go p l e R s m args below meth c n0 Q K S h (mkF m pc' Ls st)) : Go p l e R s m args below meth c n0 Q K S h (mkF m pc Ls (.int i :: st)) :=
  Go.by (fun T ls cs ss X eT t kt => XS.tswIn X.here C.1 rfl rfl (hb C.2.2.1 hd) rfl hin hoff ho hp kt) n
theorem tswD (C : Cx p l e R s m args below meth c Z bytes ml own ret nm) {pc pc' : Nat} {Ls : Array Slot} {st : List Value} {dflt low high : Int} {offs : Array Int} {len : Nat} {i : Int32} (hd : decode bytes pc = .ok (.tableswitch dflt low high offs, len)) (hin : i.toInt < low ∨ i.toInt > high) (ho : 0 ≤ (pc : Int) + dflt) (hp : ((pc : Int) + dflt).toNat = pc') (n : Go p l e R s m args below meth c n0 Q K S h (mkF m pc' Ls st)) : Go p l e R s m args below meth c n0 Q K S h (mkF m pc Ls (.int i :: st)) :=
  Go.by (fun T ls cs ss X eT t kt => XS.tswOut X.here C.1 rfl rfl (hb C.2.2.1 hd) rfl hin ho hp kt) n
theorem ldcI (C : Cx p l e R s m args below meth c Z bytes ml own ret nm) {pc pc' : Nat} {Ls : Array Slot} {st : List Value} {index : Nat} {v : Int32}  (hd : decode bytes pc = .ok (.ldc index, 2)) (hp : pc + 2 = pc') (w : (Jvm.Cond.constant own index v).before a0 Z = true) (n : Go p l e R s m args below meth c n0 Q K S h (mkF m pc' Ls (.int v :: st))) : Go p l e R s m args below meth c n0 Q K S h (mkF m pc Ls st) := by
  subst hp; exact Go.by (g' := (mkF m (pc + 2) Ls (.int v :: st))) (fun T ls cs ss X eT t kt => X.ldcInt C.1 C.2.2.2.2.1 (mvT C.2.1 w) (g := (mkF m pc Ls st)) rfl (hb C.2.2.1 hd) t kt) n
theorem ldcwI (C : Cx p l e R s m args below meth c Z bytes ml own ret nm) {pc pc' : Nat} {Ls : Array Slot} {st : List Value} {index : Nat} {v : Int32}  (hd : decode bytes pc = .ok (.ldc_w index, 3)) (hp : pc + 3 = pc') (w : (Jvm.Cond.constant own index v).before a0 Z = true) (n : Go p l e R s m args below meth c n0 Q K S h (mkF m pc' Ls (.int v :: st))) : Go p l e R s m args below meth c n0 Q K S h (mkF m pc Ls st) := by
  subst hp; exact Go.by (g' := (mkF m (pc + 3) Ls (.int v :: st))) (fun T ls cs ss X eT t kt => X.ldcwInt C.1 C.2.2.2.2.1 (mvT C.2.1 w) (g := (mkF m pc Ls st)) rfl (hb C.2.2.1 hd) t kt) n
theorem ldc2L (C : Cx p l e R s m args below meth c Z bytes ml own ret nm) {pc pc' : Nat} {Ls : Array Slot} {st : List Value} {index : Nat} {v : Int64}  (hd : decode bytes pc = .ok (.ldc2_w index, 3)) (hp : pc + 3 = pc') (w : (Jvm.Cond.constantLong own index v).before a0 Z = true) (n : Go p l e R s m args below meth c n0 Q K S h (mkF m pc' Ls (.long v :: st))) : Go p l e R s m args below meth c n0 Q K S h (mkF m pc Ls st) := by
  subst hp; exact Go.by (g' := (mkF m (pc + 3) Ls (.long v :: st))) (fun T ls cs ss X eT t kt => X.ldc2Long C.1 C.2.2.2.2.1 (mvT C.2.1 w) (g := (mkF m pc Ls st)) rfl (hb C.2.2.1 hd) t kt) n
theorem ldc2D (C : Cx p l e R s m args below meth c Z bytes ml own ret nm) {pc pc' : Nat} {Ls : Array Slot} {st : List Value} {index : Nat} {v : UInt64}  (hd : decode bytes pc = .ok (.ldc2_w index, 3)) (hp : pc + 3 = pc') (w : (Jvm.Cond.constantDouble own index v).before a0 Z = true) (n : Go p l e R s m args below meth c n0 Q K S h (mkF m pc' Ls (.double v :: st))) : Go p l e R s m args below meth c n0 Q K S h (mkF m pc Ls st) := by
  subst hp; exact Go.by (g' := (mkF m (pc + 3) Ls (.double v :: st))) (fun T ls cs ss X eT t kt => X.ldc2DoubleC C.1 C.2.2.2.2.1 (mvT C.2.1 w) (g := (mkF m pc Ls st)) rfl (hb C.2.2.1 hd) t kt) n
theorem getS (C : Cx p l e R s m args below meth c Z bytes ml own ret nm) {pc pc' : Nat} {Ls : Array Slot} {st : List Value} {R0 O n d host : String} {index : Nat} (w : (Jvm.Cond.fieldLink own index R0 n d).before a0 Z = true ∨ (Jvm.Cond.fieldLinkNest own index R0 n d host).before a0 Z = true) (via : Via Z R0 O n d) {v : Value} (F : Sta Z h O n d v) (hd : decode bytes pc = .ok (.getstatic index, 3)) (hp : pc + 3 = pc') (k : Go p l e R s m args below meth c n0 Q K S h (mkF m pc' Ls (v :: st))) : Go p l e R s m args below meth c n0 Q K S h (mkF m pc Ls st) := by
  subst hp; exact Go.law (fun T ls cs ss X eT => getS2 X C.1 C.2.1 C.2.2.2.2.1 w via eT F (g := (mkF m pc Ls st)) rfl (hb C.2.2.1 hd)) k
theorem getF (C : Cx p l e R s m args below meth c Z bytes ml own ret nm) {pc pc' : Nat} {Ls : Array Slot} {st : List Value} {R0 O n d host : String} {index : Nat} (w : (Jvm.Cond.fieldLink own index R0 n d).before a0 Z = true ∨ (Jvm.Cond.fieldLinkNest own index R0 n d host).before a0 Z = true) (via : Via Z R0 O n d) {a : Addr} {v : Value} (F : Fld Z h a O n d v) (hd : decode bytes pc = .ok (.getfield index, 3)) (hp : pc + 3 = pc') (k : Go p l e R s m args below meth c n0 Q K S h (mkF m pc' Ls (v :: st))) : Go p l e R s m args below meth c n0 Q K S h (mkF m pc Ls (.ref a :: st)) := by
  subst hp; exact Go.law (fun T ls cs ss X eT => Jvm.RoadKit.getF X C.1 C.2.1 C.2.2.2.2.1 w via eT F (g := (mkF m pc Ls (.ref a :: st))) rfl rfl (hb C.2.2.1 hd)) k
theorem putF (C : Cx p l e R s m args below meth c Z bytes ml own ret nm) {pc pc' : Nat} {Ls : Array Slot} {st : List Value} {R0 O n d host : String} {index : Nat} (w : (Jvm.Cond.fieldLink own index R0 n d).before a0 Z = true ∨ (Jvm.Cond.fieldLinkNest own index R0 n d host).before a0 Z = true) (via : Via Z R0 O n d) {Cn : String} {kk : Nat} {ty : FieldType} {a : Addr} {v old : Value} (F : Fld Z h a O n d old) (E : Exa Z h a Cn) (L : (Jvm.Cond.lays Cn O n d).before a0 Z = true ∨ ((Jvm.Cond.laysFinal Cn O n d).before a0 Z = true ∧ own = O ∧ nm = "<init>")) (wi : (Jvm.Cond.instantiable Cn kk).before a0 Z = true) (hty : parseFieldDescriptor d = some ty) (hn : narrow ty v = v) (hf : fits ty v = true) (ha : n0 ≤ a) (hd : decode bytes pc = .ok (.putfield index, 3)) (hp : pc + 3 = pc') (k : ∀ h', Wr h h' a (Jvm.RoadKit.slotOf Z O n d) v → Go p l e R s m args below meth c n0 Q K S h' (mkF m pc' Ls st)) : Go p l e R s m args below meth c n0 Q K S h (mkF m pc Ls (v :: .ref a :: st)) := by
  subst hp; exact Go.write ha (fun T ls cs ss X eT => Jvm.RoadKit.putF X C.1 C.2.1 C.2.2.2.2.1 w via eT F E (L.imp id fun q => ⟨q.1, q.2.1, C.2.2.2.2.2.2.2.trans q.2.2⟩) wi hty hn hf (g := (mkF m pc Ls (v :: .ref a :: st))) rfl rfl (hb C.2.2.1 hd)) k
theorem castY (C : Cx p l e R s m args below meth c Z bytes ml own ret nm) {pc pc' : Nat} {Ls : Array Slot} {st : List Value} {Kn : String} {index : Nat} (w : (Jvm.Cond.classLink own index Kn).before a0 Z = true) {a : Addr} (F : Ins Z h a Kn true) (hd : decode bytes pc = .ok (.checkcast index, 3)) (hp : pc + 3 = pc') (k : Go p l e R s m args below meth c n0 Q K S h (mkF m pc' Ls (.ref a :: st))) : Go p l e R s m args below meth c n0 Q K S h (mkF m pc Ls (.ref a :: st)) := by
  subst hp; exact Go.law (fun T ls cs ss X eT => Jvm.RoadKit.castY X C.1 C.2.1 C.2.2.2.2.1 w eT F (g := (mkF m pc Ls (.ref a :: st))) rfl rfl (hb C.2.2.1 hd)) k
theorem castNull (C : Cx p l e R s m args below meth c Z bytes ml own ret nm) {pc pc' : Nat} {Ls : Array Slot} {st : List Value} {index : Nat} (hd : decode bytes pc = .ok (.checkcast index, 3)) (hp : pc + 3 = pc') (k : Go p l e R s m args below meth c n0 Q K S h (mkF m pc' Ls (.null :: st))) : Go p l e R s m args below meth c n0 Q K S h (mkF m pc Ls (.null :: st)) := by
  subst hp; exact Go.by (g' := (mkF m (pc + 3) Ls (.null :: st))) (fun T ls cs ss X eT t kt => X.checkcastNull C.1 (g := (mkF m pc Ls (.null :: st))) rfl rfl (hb C.2.2.1 hd) t kt) k
theorem newO (C : Cx p l e R s m args below meth c Z bytes ml own ret nm) {pc pc' : Nat} {Ls : Array Slot} {st : List Value} {Cn : String} {index k : Nat} (w : (Jvm.Cond.classLink own index Cn).before a0 Z = true) (wi : (Jvm.Cond.instantiable Cn k).before a0 Z = true) (wz : (Jvm.Cond.initialized Cn).before a0 Z = true) (hd : decode bytes pc = .ok (.new index, 3)) (hp : pc + 3 = pc') (hK : K + 1 = K') (hS : S + k = S') (hK' : K' ≤ R.cells) (hS' : S' ≤ R.slots)
    (n : ∀ (h' : Heap) (a : Addr), a = h.size → Ext h h' → Exa Z h' a Cn → (∀ {O nm d : String} {ty : FieldType}, Laid Z a0 Cn O nm d → parseFieldDescriptor d = some ty → Fld Z h' a O nm d (defaultValue ty)) → Go p l e R s m args below meth c n0 Q K' S' h' (mkF m pc' Ls (.ref a :: st))) : Go p l e R s m args below meth c n0 Q K S h (mkF m pc Ls st) :=
  fun T ⟨ls, cs, ss, X, N, hc, hs, eT⟩ => by
    subst hp hK hS
    obtain ⟨T', h', X', e', E', A', D', -, st⟩ := Jvm.RoadKit.newO X C.1 C.2.1 C.2.2.2.2.1 w wi wz eT (g := (mkF m pc Ls st)) rfl (hb C.2.2.1 hd) (by omega) (by omega)
    obtain ⟨s₂, v, L, h1, h2⟩ := n h' _ rfl E' A' D' T' ⟨ls, _, _, X', N, by omega, by omega, e'⟩
    exact ⟨s₂, v, L, st _ h1, h2⟩
theorem newP (C : Cx p l e R s m args below meth c Z bytes ml own ret nm) {pc pc' : Nat} {Ls : Array Slot} {st : List Value} {aty : ArrayType} (w : (Jvm.Cond.arrayClass (newarray.typeOf aty)).before a0 Z = true) {i : Int32} {cap : Nat} (hn : ¬ i < 0) (hcap : i.toNatClampNeg ≤ cap) (hb8 : cap * 8 ≤ 536870912) (hd : decode bytes pc = .ok (.newarray aty, 2)) (hp : pc + 2 = pc') (hK : K + 1 = K') (hS : S + cap = S') (hK' : K' ≤ R.cells) (hS' : S' ≤ R.slots)
    (n : ∀ (h' : Heap) (a : Addr) (cA : ClassId), a = h.size → Ext h h' → Arv Z h' a cA (newarray.typeOf aty) i [] (defaultValue (newarray.typeOf aty)) → Go p l e R s m args below meth c n0 Q K' S' h' (mkF m pc' Ls (.ref a :: st))) : Go p l e R s m args below meth c n0 Q K S h (mkF m pc Ls (.int i :: st)) :=
  fun T ⟨ls, cs, ss, X, N, hc, hs, eT⟩ => by
    subst hp hK hS
    obtain ⟨T', h', cA, X', e', E', A', st⟩ := Jvm.RoadKit.newP X C.1 C.2.1 w eT (g := (mkF m pc Ls (.int i :: st))) rfl (hb C.2.2.1 hd) rfl hn hcap hb8 (by omega) (by omega)
    obtain ⟨s₂, v, L, h1, h2⟩ := n h' _ cA rfl E' (Arv.new A' hn) T' ⟨ls, _, _, X', N, by omega, by omega, e'⟩
    exact ⟨s₂, v, L, st _ h1, h2⟩
theorem newR (C : Cx p l e R s m args below meth c Z bytes ml own ret nm) {pc pc' : Nat} {Ls : Array Slot} {st : List Value} {Cn ad : String} {index : Nat} (had : "[" ++ (FieldType.object Cn).toString = ad) (w1 : (Jvm.Cond.classLink own index Cn).before a0 Z = true) (w2 : (Jvm.Cond.arrayOver (.object Cn)).before a0 Z = true) {i : Int32} {cap : Nat} (hn : ¬ i < 0) (hcap : i.toNatClampNeg ≤ cap) (hb8 : cap * 8 ≤ 536870912) (hd : decode bytes pc = .ok (.anewarray index, 3)) (hp : pc + 3 = pc') (hK : K + 1 = K') (hS : S + cap = S') (hK' : K' ≤ R.cells) (hS' : S' ≤ R.slots)
    (n : ∀ (h' : Heap) (a : Addr) (cA : ClassId), a = h.size → Ext h h' → Arv Z h' a cA (.object Cn) i [] .null → Exa Z h' a ad → Ovr Z cA Cn → Go p l e R s m args below meth c n0 Q K' S' h' (mkF m pc' Ls (.ref a :: st))) : Go p l e R s m args below meth c n0 Q K S h (mkF m pc Ls (.int i :: st)) :=
  fun T ⟨ls, cs, ss, X, N, hc, hs, eT⟩ => by
    subst hp hK hS
    obtain ⟨T', h', cA, X', e', E', A', X2, O', st⟩ := Jvm.RoadKit.newRE X C.1 C.2.1 C.2.2.2.2.1 w1 w2 eT (g := (mkF m pc Ls (.int i :: st))) rfl (hb C.2.2.1 hd) rfl hn hcap hb8 (by omega) (by omega) had
    obtain ⟨s₂, v, L, h1, h2⟩ := n h' _ cA rfl E' (Arv.new A' hn) X2 O' T' ⟨ls, _, _, X', N, by omega, by omega, e'⟩
    exact ⟨s₂, v, L, st _ h1, h2⟩
theorem newPE (C : Cx p l e R s m args below meth c Z bytes ml own ret nm) {pc pc' : Nat} {Ls : Array Slot} {st : List Value} {aty : ArrayType} {ad : String} (had : "[" ++ (newarray.typeOf aty).toString = ad) (w : (Jvm.Cond.arrayClass (newarray.typeOf aty)).before a0 Z = true) {i : Int32} {cap : Nat} (hn : ¬ i < 0) (hcap : i.toNatClampNeg ≤ cap) (hb8 : cap * 8 ≤ 536870912) (hd : decode bytes pc = .ok (.newarray aty, 2)) (hp : pc + 2 = pc') (hK : K + 1 = K') (hS : S + cap = S') (hK' : K' ≤ R.cells) (hS' : S' ≤ R.slots)
    (n : ∀ (h' : Heap) (a : Addr) (cA : ClassId), a = h.size → Ext h h' → Arv Z h' a cA (newarray.typeOf aty) i [] (defaultValue (newarray.typeOf aty)) → Exa Z h' a ad → Go p l e R s m args below meth c n0 Q K' S' h' (mkF m pc' Ls (.ref a :: st))) : Go p l e R s m args below meth c n0 Q K S h (mkF m pc Ls (.int i :: st)) :=
  fun T ⟨ls, cs, ss, X, N, hc, hs, eT⟩ => by
    subst hp hK hS
    obtain ⟨T', h', cA, X', e', E', A', X2, st⟩ := Jvm.RoadKit.newPE X C.1 C.2.1 w eT (g := (mkF m pc Ls (.int i :: st))) rfl (hb C.2.2.1 hd) rfl hn hcap hb8 (by omega) (by omega) had
    obtain ⟨s₂, v, L, h1, h2⟩ := n h' _ cA rfl E' (Arv.new A' hn) X2 T' ⟨ls, _, _, X', N, by omega, by omega, e'⟩
    exact ⟨s₂, v, L, st _ h1, h2⟩
theorem newRA (C : Cx p l e R s m args below meth c Z bytes ml own ret nm) {pc pc' : Nat} {Ls : Array Slot} {st : List Value} {Cn ad : String} {ty : FieldType} {index : Nat} (hC : (FieldType.array ty).toString = Cn) (had : "[" ++ Cn = ad) (w1 : (Jvm.Cond.classLink own index Cn).before a0 Z = true) (w2 : (Jvm.Cond.arrayOver (.array ty)).before a0 Z = true) {i : Int32} {cap : Nat} (hn : ¬ i < 0) (hcap : i.toNatClampNeg ≤ cap) (hb8 : cap * 8 ≤ 536870912) (hd : decode bytes pc = .ok (.anewarray index, 3)) (hp : pc + 3 = pc') (hK : K + 1 = K') (hS : S + cap = S') (hK' : K' ≤ R.cells) (hS' : S' ≤ R.slots)
    (n : ∀ (h' : Heap) (a : Addr) (cA : ClassId), a = h.size → Ext h h' → Arv Z h' a cA (.array ty) i [] .null → Exa Z h' a ad → OvrA Z cA ty Cn → Go p l e R s m args below meth c n0 Q K' S' h' (mkF m pc' Ls (.ref a :: st))) : Go p l e R s m args below meth c n0 Q K S h (mkF m pc Ls (.int i :: st)) :=
  fun T ⟨ls, cs, ss, X, N, hc, hs, eT⟩ => by
    subst hp hK hS
    obtain ⟨T', h', cA, X', e', E', A', X2, O', st⟩ := Jvm.RoadKit.newRA X C.1 C.2.1 C.2.2.2.2.1 hC w1 w2 eT (g := (mkF m pc Ls (.int i :: st))) rfl (hb C.2.2.1 hd) rfl hn hcap hb8 (by omega) (by omega) had
    obtain ⟨s₂, v, L, h1, h2⟩ := n h' _ cA rfl E' (Arv.new A' hn) X2 O' T' ⟨ls, _, _, X', N, by omega, by omega, e'⟩
    exact ⟨s₂, v, L, st _ h1, h2⟩
theorem iaload (C : Cx p l e R s m args below meth c Z bytes ml own ret nm) {pc pc' : Nat} {Ls : Array Slot} {st : List Value} {a : Addr} {cA : ClassId} {i j : Int32} {vs : List Value} {dv v : Value} (F : Arv Z h a cA .int i vs dv) (hj : ¬ j < 0 ∧ j < i) (hv : vs.getD j.toNatClampNeg dv = v) (hd : decode bytes pc = .ok (.iaload, 1)) (hp : pc + 1 = pc') (n : Go p l e R s m args below meth c n0 Q K S h (mkF m pc' Ls (v :: st))) : Go p l e R s m args below meth c n0 Q K S h (mkF m pc Ls (.int j :: .ref a :: st)) := by
  subst hp; obtain ⟨cl, A, q1, Sz, q3, H, G⟩ := F
  exact Go.by (g' := (mkF m (pc + 1) Ls (v :: st))) (fun T ls cs ss X eT t kt => X.iaload C.1 (j := j) (v := v) (by rw [eT]; exact A.1) (State.isArrayOf_alike C.2.1.alike A.2.1) A.2.2 (inb_of Sz hj) (H.at (inb_of Sz hj) hv) (g := (mkF m pc Ls (.int j :: .ref a :: st))) rfl rfl (hb C.2.2.1 hd) t kt) n
theorem caload (C : Cx p l e R s m args below meth c Z bytes ml own ret nm) {pc pc' : Nat} {Ls : Array Slot} {st : List Value} {a : Addr} {cA : ClassId} {i j : Int32} {vs : List Value} {dv v : Value} (F : Arv Z h a cA .char i vs dv) (hj : ¬ j < 0 ∧ j < i) (hv : vs.getD j.toNatClampNeg dv = v) (hd : decode bytes pc = .ok (.caload, 1)) (hp : pc + 1 = pc') (n : Go p l e R s m args below meth c n0 Q K S h (mkF m pc' Ls (v :: st))) : Go p l e R s m args below meth c n0 Q K S h (mkF m pc Ls (.int j :: .ref a :: st)) := by
  subst hp; obtain ⟨cl, A, q1, Sz, q3, H, G⟩ := F
  exact Go.by (g' := (mkF m (pc + 1) Ls (v :: st))) (fun T ls cs ss X eT t kt => X.caload C.1 (j := j) (v := v) (by rw [eT]; exact A.1) (State.isArrayOf_alike C.2.1.alike A.2.1) A.2.2 (inb_of Sz hj) (H.at (inb_of Sz hj) hv) (g := (mkF m pc Ls (.int j :: .ref a :: st))) rfl rfl (hb C.2.2.1 hd) t kt) n
theorem baload (C : Cx p l e R s m args below meth c Z bytes ml own ret nm) {pc pc' : Nat} {Ls : Array Slot} {st : List Value} {a : Addr} {cA : ClassId} {i j : Int32} {vs : List Value} {dv v : Value} (F : Arv Z h a cA .byte i vs dv) (hj : ¬ j < 0 ∧ j < i) (hv : vs.getD j.toNatClampNeg dv = v) (hd : decode bytes pc = .ok (.baload, 1)) (hp : pc + 1 = pc') (n : Go p l e R s m args below meth c n0 Q K S h (mkF m pc' Ls (v :: st))) : Go p l e R s m args below meth c n0 Q K S h (mkF m pc Ls (.int j :: .ref a :: st)) := by
  subst hp; obtain ⟨cl, A, q1, Sz, q3, H, G⟩ := F
  exact Go.by (g' := (mkF m (pc + 1) Ls (v :: st))) (fun T ls cs ss X eT t kt => X.baloadBytes C.1 (j := j) (v := v) (by rw [eT]; exact A.1) (State.isArrayOf_alike C.2.1.alike A.2.1) A.2.2 (inb_of Sz hj) (H.at (inb_of Sz hj) hv) (g := (mkF m pc Ls (.int j :: .ref a :: st))) rfl rfl (hb C.2.2.1 hd) t kt) n
theorem laload (C : Cx p l e R s m args below meth c Z bytes ml own ret nm) {pc pc' : Nat} {Ls : Array Slot} {st : List Value} {a : Addr} {cA : ClassId} {i j : Int32} {vs : List Value} {dv v : Value} (F : Arv Z h a cA .long i vs dv) (hj : ¬ j < 0 ∧ j < i) (hv : vs.getD j.toNatClampNeg dv = v) (hd : decode bytes pc = .ok (.laload, 1)) (hp : pc + 1 = pc') (n : Go p l e R s m args below meth c n0 Q K S h (mkF m pc' Ls (v :: st))) : Go p l e R s m args below meth c n0 Q K S h (mkF m pc Ls (.int j :: .ref a :: st)) := by
  subst hp; obtain ⟨cl, A, q1, Sz, q3, H, G⟩ := F
  exact Go.by (g' := (mkF m (pc + 1) Ls (v :: st))) (fun T ls cs ss X eT t kt => X.laload C.1 (j := j) (v := v) (by rw [eT]; exact A.1) (State.isArrayOf_alike C.2.1.alike A.2.1) A.2.2 (inb_of Sz hj) (H.at (inb_of Sz hj) hv) (g := (mkF m pc Ls (.int j :: .ref a :: st))) rfl rfl (hb C.2.2.1 hd) t kt) n
theorem aaload (C : Cx p l e R s m args below meth c Z bytes ml own ret nm) {pc pc' : Nat} {Ls : Array Slot} {st : List Value} {a : Addr} {cA : ClassId} {ty : FieldType} {i j : Int32} {vs : List Value} {dv v : Value} (F : Arv Z h a cA ty i vs dv) (ht : ty.isReference = true) (hj : ¬ j < 0 ∧ j < i) (hv : vs.getD j.toNatClampNeg dv = v) (hd : decode bytes pc = .ok (.aaload, 1)) (hp : pc + 1 = pc') (n : Go p l e R s m args below meth c n0 Q K S h (mkF m pc' Ls (v :: st))) : Go p l e R s m args below meth c n0 Q K S h (mkF m pc Ls (.int j :: .ref a :: st)) := by
  subst hp; obtain ⟨cl, A, q1, Sz, q3, H, G⟩ := F
  exact Go.by (g' := (mkF m (pc + 1) Ls (v :: st))) (fun T ls cs ss X eT t kt => X.aaload C.1 (j := j) (v := v) (by rw [eT]; exact A.1) (State.isArrayOf_alike C.2.1.alike A.2.1) ht A.2.2 (inb_of Sz hj) (H.at (inb_of Sz hj) hv) (g := (mkF m pc Ls (.int j :: .ref a :: st))) rfl rfl (hb C.2.2.1 hd) t kt) n
theorem aaloadA (C : Cx p l e R s m args below meth c Z bytes ml own ret nm) {pc pc' : Nat} {Ls : Array Slot} {st : List Value} {a : Addr} {cl : Cell} {ty : FieldType} {j : Int32} {v : Value} (A : Arr Z h a cl ty) (ht : ty.isReference = true) (hj : ¬ (j < 0 ∨ cl.slots.size ≤ j.toNatClampNeg)) (hv : cl.slots[j.toNatClampNeg]? = some v) (hd : decode bytes pc = .ok (.aaload, 1)) (hp : pc + 1 = pc') (n : Go p l e R s m args below meth c n0 Q K S h (mkF m pc' Ls (v :: st))) : Go p l e R s m args below meth c n0 Q K S h (mkF m pc Ls (.int j :: .ref a :: st)) := by
  subst hp
  exact Go.by (g' := (mkF m (pc + 1) Ls (v :: st))) (fun T ls cs ss X eT t kt => X.aaload C.1 (j := j) (v := v) (by rw [eT]; exact A.1) (State.isArrayOf_alike C.2.1.alike A.2.1) ht A.2.2 hj hv (g := (mkF m pc Ls (.int j :: .ref a :: st))) rfl rfl (hb C.2.2.1 hd) t kt) n
theorem alen (C : Cx p l e R s m args below meth c Z bytes ml own ret nm) {pc pc' : Nat} {Ls : Array Slot} {st : List Value} {a : Addr} {cA : ClassId} {ty : FieldType} {i : Int32} {vs : List Value} {dv : Value} (F : Arv Z h a cA ty i vs dv) (hd : decode bytes pc = .ok (.arraylength, 1)) (hp : pc + 1 = pc') (n : Go p l e R s m args below meth c n0 Q K S h (mkF m pc' Ls (.int i :: st))) : Go p l e R s m args below meth c n0 Q K S h (mkF m pc Ls (.ref a :: st)) := by
  subst hp; obtain ⟨cl, A, q1, Sz, q3, H, G⟩ := F
  exact Go.by (g' := (mkF m (pc + 1) Ls (.int i :: st))) (fun T ls cs ss X eT t kt => X.arraylength C.1 (by rw [eT]; exact A.1) (State.isArrayOf_alike C.2.1.alike A.2.1) (g := (mkF m pc Ls (.ref a :: st))) rfl rfl (hb C.2.2.1 hd) t (by rw [len_of Sz q3]; exact kt)) n
theorem iastore (C : Cx p l e R s m args below meth c Z bytes ml own ret nm) {pc pc' : Nat} {Ls : Array Slot} {st : List Value} {a : Addr} {cA : ClassId} {i j : Int32} {k : Nat} {x : Int32} {vs : List Value} {dv : Value} (F : Arv Z h a cA .int i vs dv) (ha : n0 ≤ a) (hj : ¬ j < 0 ∧ j < i) (hk : j.toNatClampNeg = k) (hlen : k < vs.length) (hd : decode bytes pc = .ok (.iastore, 1)) (hp : pc + 1 = pc') (n : ∀ h', Wr h h' a j.toNatClampNeg (.int x) → Arv Z h' a cA .int i (vs.set k (.int x)) dv → Go p l e R s m args below meth c n0 Q K S h' (mkF m pc' Ls st)) : Go p l e R s m args below meth c n0 Q K S h (mkF m pc Ls (.int x :: .int j :: .ref a :: st)) := by
  subst hp; obtain ⟨cl, A, q1, Sz, q3, H, G⟩ := F
  exact Go.write ha (fun T ls cs ss X eT => stI X C.1 C.2.1 eT A (inb_of Sz hj) (g := (mkF m pc Ls (.int x :: .int j :: .ref a :: st))) rfl rfl (hb C.2.2.1 hd)) (fun h' W => n h' W (Arv.set A q1 Sz q3 H G rfl W k hk hlen))
theorem castore (C : Cx p l e R s m args below meth c Z bytes ml own ret nm) {pc pc' : Nat} {Ls : Array Slot} {st : List Value} {a : Addr} {cA : ClassId} {i j : Int32} {k : Nat} {x : Int32} {vs : List Value} {dv : Value} (F : Arv Z h a cA .char i vs dv) (ha : n0 ≤ a) (hj : ¬ j < 0 ∧ j < i) (hk : j.toNatClampNeg = k) (hlen : k < vs.length) (hd : decode bytes pc = .ok (.castore, 1)) (hp : pc + 1 = pc') (n : ∀ h', Wr h h' a j.toNatClampNeg (.int (nar .char x)) → Arv Z h' a cA .char i (vs.set k (.int (nar .char x))) dv → Go p l e R s m args below meth c n0 Q K S h' (mkF m pc' Ls st)) : Go p l e R s m args below meth c n0 Q K S h (mkF m pc Ls (.int x :: .int j :: .ref a :: st)) := by
  subst hp; obtain ⟨cl, A, q1, Sz, q3, H, G⟩ := F
  exact Go.write ha (fun T ls cs ss X eT => stC X C.1 C.2.1 eT A (inb_of Sz hj) (g := (mkF m pc Ls (.int x :: .int j :: .ref a :: st))) rfl rfl (hb C.2.2.1 hd)) (fun h' W => n h' W (Arv.set A q1 Sz q3 H G (fits_nar_char _) W k hk hlen))
theorem bastore (C : Cx p l e R s m args below meth c Z bytes ml own ret nm) {pc pc' : Nat} {Ls : Array Slot} {st : List Value} {a : Addr} {cA : ClassId} {i j : Int32} {k : Nat} {x : Int32} {vs : List Value} {dv : Value} (F : Arv Z h a cA .byte i vs dv) (ha : n0 ≤ a) (hj : ¬ j < 0 ∧ j < i) (hk : j.toNatClampNeg = k) (hlen : k < vs.length) (hd : decode bytes pc = .ok (.bastore, 1)) (hp : pc + 1 = pc') (n : ∀ h', Wr h h' a j.toNatClampNeg (.int (nar .byte x)) → Arv Z h' a cA .byte i (vs.set k (.int (nar .byte x))) dv → Go p l e R s m args below meth c n0 Q K S h' (mkF m pc' Ls st)) : Go p l e R s m args below meth c n0 Q K S h (mkF m pc Ls (.int x :: .int j :: .ref a :: st)) := by
  subst hp; obtain ⟨cl, A, q1, Sz, q3, H, G⟩ := F
  exact Go.write ha (fun T ls cs ss X eT => stB X C.1 C.2.1 eT A (inb_of Sz hj) (g := (mkF m pc Ls (.int x :: .int j :: .ref a :: st))) rfl rfl (hb C.2.2.1 hd)) (fun h' W => n h' W (Arv.set A q1 Sz q3 H G (fits_nar_byte _) W k hk hlen))
theorem lastore (C : Cx p l e R s m args below meth c Z bytes ml own ret nm) {pc pc' : Nat} {Ls : Array Slot} {st : List Value} {a : Addr} {cA : ClassId} {i j : Int32} {k : Nat} {x : Int64} {vs : List Value} {dv : Value} (F : Arv Z h a cA .long i vs dv) (ha : n0 ≤ a) (hj : ¬ j < 0 ∧ j < i) (hk : j.toNatClampNeg = k) (hlen : k < vs.length) (hd : decode bytes pc = .ok (.lastore, 1)) (hp : pc + 1 = pc') (n : ∀ h', Wr h h' a j.toNatClampNeg (.long x) → Arv Z h' a cA .long i (vs.set k (.long x)) dv → Go p l e R s m args below meth c n0 Q K S h' (mkF m pc' Ls st)) : Go p l e R s m args below meth c n0 Q K S h (mkF m pc Ls (.long x :: .int j :: .ref a :: st)) := by
  subst hp; obtain ⟨cl, A, q1, Sz, q3, H, G⟩ := F
  exact Go.write ha (fun T ls cs ss X eT => stJ X C.1 C.2.1 eT A (inb_of Sz hj) (g := (mkF m pc Ls (.long x :: .int j :: .ref a :: st))) rfl rfl (hb C.2.2.1 hd)) (fun h' W => n h' W (Arv.set A q1 Sz q3 H G rfl W k hk hlen))
theorem aastore (C : Cx p l e R s m args below meth c Z bytes ml own ret nm) {pc pc' : Nat} {Ls : Array Slot} {st : List Value} {a : Addr} {cA : ClassId} {ty : FieldType} {i j : Int32} {k : Nat} {x : Value} {vs : List Value} {dv : Value} (F : Arv Z h a cA ty i vs dv) (ht : ty.isReference = true) (ha : n0 ≤ a) (hj : ¬ j < 0 ∧ j < i) (hk : j.toNatClampNeg = k) (hlen : k < vs.length) (hx : Sto Z h a x) (hf : fits ty x = true) (hd : decode bytes pc = .ok (.aastore, 1)) (hp : pc + 1 = pc') (n : ∀ h', Wr h h' a j.toNatClampNeg x → Arv Z h' a cA ty i (vs.set k x) dv → Go p l e R s m args below meth c n0 Q K S h' (mkF m pc' Ls st)) : Go p l e R s m args below meth c n0 Q K S h (mkF m pc Ls (x :: .int j :: .ref a :: st)) := by
  subst hp; obtain ⟨cl, A, q1, Sz, q3, H, G⟩ := F
  exact Go.write ha (fun T ls cs ss X eT => stR X C.1 C.2.1 eT A (inb_of Sz hj) ht hx (g := (mkF m pc Ls (x :: .int j :: .ref a :: st))) rfl rfl (hb C.2.2.1 hd)) (fun h' W => n h' W (Arv.set A q1 Sz q3 H G hf W k hk hlen))
theorem initO (C : Cx p l e R s m args below meth c Z bytes ml own ret nm) {pc pc' : Nat} {Ls : Array Slot} {st : List Value} {idx : Nat} (w1 : (Jvm.Cond.methodLink own idx Lib.objectInit).before a0 Z = true) (w2 : (Jvm.Cond.instanceMethod Lib.objectInit).before a0 Z = true) (w3 : (Jvm.Cond.code Lib.objectInit ⟨#[0xb1]⟩ 1 none).before a0 Z = true) {a : Addr} (hsz : Ls.size = ml) (hf : 1 ≤ R.frames) {W : Nat} (hW : 2 * 0 + (st.map fun v => v.category).sum ≤ W) (hl : W + 12 ≤ R.locals) (hd : decode bytes pc = .ok (.invokespecial idx, 3)) (hp : pc + 3 = pc') (n : Go p l e R s m args below meth c n0 Q K S h (mkF m pc' Ls st)) : Go p l e R s m args below meth c n0 Q K S h (mkF m pc Ls (.ref a :: st)) := by
  subst hp; exact Go.law (fun T ls cs ss X eT => Jvm.RoadKit.initO X C.1 C.2.1 C.2.2.2.2.1 w1 w2 w3 eT (g := (mkF m pc Ls (.ref a :: st))) rfl (hsz.trans C.2.2.2.1.symm) rfl (hb C.2.2.1 hd) hf hW hl) n
theorem cloneV (C : Cx p l e R s m args below meth c Z bytes ml own ret nm) {pc pc' : Nat} {Ls : Array Slot} {st : List Value} {ad : String} {idx : Nat} (w1 : (Jvm.Cond.methodLink own idx ⟨ad, "clone", "()Ljava/lang/Object;"⟩).before a0 Z = true) (w2 : (Jvm.Cond.sameMethod ad "java/lang/Object" "clone" "()Ljava/lang/Object;").before a0 Z = true) (w3 : (Jvm.Cond.native ⟨"java/lang/Object", "clone", "()Ljava/lang/Object;"⟩).before a0 Z = true)
    (w4 : (Jvm.Cond.instanceMethod ⟨"java/lang/Object", "clone", "()Ljava/lang/Object;"⟩).before a0 Z = true) (w5 : (Jvm.Cond.selects ad ⟨ad, "clone", "()Ljava/lang/Object;"⟩ ⟨"java/lang/Object", "clone", "()Ljava/lang/Object;"⟩).before a0 Z = true) (w6 : (Jvm.Cond.castable ad "java/lang/Cloneable").before a0 Z = true)
    {a : Addr} {cA : ClassId} {ty : FieldType} {i : Int32} {vs : List Value} {dv : Value} (F : Arv Z h a cA ty i vs dv) (E : Exa Z h a ad) (hsz : Ls.size = ml) (hf : 1 ≤ R.frames) {W cap : Nat} (hW : 2 * 0 + (st.map fun v => v.category).sum ≤ W) (hl : W + 14 ≤ R.locals) (hcap : i.toNatClampNeg ≤ cap) (hd : decode bytes pc = .ok (.invokevirtual idx, 3)) (hp : pc + 3 = pc') (hK : K + 1 = K') (hS : S + cap = S') (hK' : K' ≤ R.cells) (hS' : S' ≤ R.slots)
    (n : ∀ (h' : Heap) (b : Addr), b = h.size → Ext h h' → Arv Z h' b cA ty i vs dv → Exa Z h' b ad → Go p l e R s m args below meth c n0 Q K' S' h' (mkF m pc' Ls (.ref b :: st))) : Go p l e R s m args below meth c n0 Q K S h (mkF m pc Ls (.ref a :: st)) :=
  fun T ⟨ls, cs, ss, X, N, hc, hs, eT⟩ => by
    subst hp hK hS
    obtain ⟨T', h', X', e', E', A', X2, st'⟩ := cloneH X C.1 C.2.1 C.2.2.2.2.1 w1 w2 w3 w4 w5 w6 eT F.arh E (g := (mkF m pc Ls (.ref a :: st))) rfl (hsz.trans C.2.2.2.1.symm) rfl (hb C.2.2.1 hd) hf hW hl hcap (by omega) (by omega)
    obtain ⟨s₂, v, L, h1, h2⟩ := n h' _ rfl E' A' X2 T' ⟨ls, _, _, X', N, by omega, by omega, e'⟩
    exact ⟨s₂, v, L, st' _ h1, h2⟩
def Mi (Z : State) (Cn : String) (a : Addr) : Prop := ∃ (c : ClassId) (k : Class), Z.vm.findClass Cn = some c ∧ Z.vm.classes[c]? = some k ∧ k.mirror = some a
theorem ldcMi (C : Cx p l e R s m args below meth c Z bytes ml own ret nm) {pc pc' : Nat} {Ls : Array Slot} {st : List Value} {Cn : String} {index : Nat} {a : Addr} (w : (Jvm.Cond.classLink own index Cn).before a0 Z = true) (M : Mi Z Cn a) (hd : decode bytes pc = .ok (.ldc index, 2)) (hp : pc + 2 = pc') (n : Go p l e R s m args below meth c n0 Q K S h (mkF m pc' Ls (.ref a :: st))) : Go p l e R s m args below meth c n0 Q K S h (mkF m pc Ls st) := by
  subst hp
  have hev : (Term.mirror Cn).eval args s none [] s = some (.ref a) := by
    obtain ⟨c', k, m1, m2, m3⟩ := M
    obtain ⟨k', q, ek⟩ := C.2.1.alike.2.2 _ _ m2
    have m3' : k'.mirror = some a := by rw [ek]; exact m3
    simp [Term.eval, C.2.1.alike.findClass, m1, q, m3']
  exact Go.law (fun T ls cs ss X eT => by
    obtain ⟨vm', X', st'⟩ := X.ldcMirror C.1 C.2.2.2.2.1 (mvT C.2.1 w) hev (g := (mkF m pc Ls st)) rfl (hb C.2.2.1 hd)
    exact ⟨_, X', eT, st'⟩) n
theorem getCls (C : Cx p l e R s m args below meth c Z bytes ml own ret nm) {pc pc' : Nat} {Ls : Array Slot} {st : List Value} {Cn : String} {index : Nat} {a mr : Addr} (w1 : (Jvm.Cond.methodLink own index ⟨"java/lang/Object", "getClass", "()Ljava/lang/Class;"⟩).before a0 Z = true) (w2 : (Jvm.Cond.declares ⟨"java/lang/Object", "getClass", "()Ljava/lang/Class;"⟩).before a0 Z = true) (w3 : (Jvm.Cond.noSuperclass "java/lang/Object").before a0 Z = true) (w4 : (Jvm.Cond.selects Cn ⟨"java/lang/Object", "getClass", "()Ljava/lang/Class;"⟩ ⟨"java/lang/Object", "getClass", "()Ljava/lang/Class;"⟩).before a0 Z = true) (w5 : (Jvm.Cond.instanceMethod ⟨"java/lang/Object", "getClass", "()Ljava/lang/Class;"⟩).before a0 Z = true) (w6 : (Jvm.Cond.native ⟨"java/lang/Object", "getClass", "()Ljava/lang/Class;"⟩).before a0 Z = true) (E : Exa Z h a Cn) (M : Mi Z Cn mr) (hsz : Ls.size = ml) (hf : 1 ≤ R.frames) {W : Nat} (hW : 2 * 0 + (st.map fun v => v.category).sum ≤ W) (hl : W + (nativeFrameWords "java/lang/Object" "getClass" 1 + 11) ≤ R.locals) (hd : decode bytes pc = .ok (.invokevirtual index, 3)) (hp : pc + 3 = pc') (n : Go p l e R s m args below meth c n0 Q K S h (mkF m pc' Ls (.ref mr :: st))) : Go p l e R s m args below meth c n0 Q K S h (mkF m pc Ls (.ref a :: st)) := by
  subst hp
  exact Go.law (fun T ls cs ss X eT => by
    obtain ⟨cB, kB, i1, i2, i3⟩ := isOf C.2.1 eT E
    obtain ⟨cc, kc, m1, m2, m3⟩ := M
    rw [C.2.1.alike.findClass] at i1
    cases i1.symm.trans m1
    obtain ⟨k', q, ek⟩ := C.2.1.alike.2.2 _ _ m2
    obtain ⟨vm', X', st'⟩ := X.getClassOf C.1 C.2.2.2.2.1 (mvT C.2.1 w1) (mvT C.2.1 w2) (nf_top (args := #[]) (mvT C.2.1 w3)) (mvT C.2.1 w4) (mvT C.2.1 w5) (mvT C.2.1 w6) (by rw [C.2.1.alike.findClass]; exact m1) i3 q (by rw [ek]; exact m3) (g := (mkF m pc Ls (.ref a :: st))) rfl (hsz.trans C.2.2.2.1.symm) rfl (hb C.2.2.1 hd) hf (Nat.le_trans (Nat.add_le_add_right hW _) hl)
    exact ⟨_, X', eT, st'⟩) n
theorem instNo (C : Cx p l e R s m args below meth c Z bytes ml own ret nm) {pc pc' : Nat} {Ls : Array Slot} {st : List Value} {Cn Kn : String} {index : Nat} {a : Addr} (w : (Jvm.Cond.classLink own index Kn).before a0 Z = true) (E : Exa Z h a Cn) (F : ∃ c t, Z.vm.findClass Cn = some c ∧ Z.vm.findClass Kn = some t ∧ Z.vm.assignable c t = false) (hd : decode bytes pc = .ok (.instanceof index, 3)) (hp : pc + 3 = pc') (n : Go p l e R s m args below meth c n0 Q K S h (mkF m pc' Ls (.int 0 :: st))) : Go p l e R s m args below meth c n0 Q K S h (mkF m pc Ls (.ref a :: st)) := by
  subst hp; exact Go.law (fun T ls cs ss X eT => Jvm.RoadKit.instNo X C.1 C.2.1 C.2.2.2.2.1 w eT E F (g := (mkF m pc Ls (.ref a :: st))) rfl rfl (hb C.2.2.1 hd)) n
theorem instY (C : Cx p l e R s m args below meth c Z bytes ml own ret nm) {pc pc' : Nat} {Ls : Array Slot} {st : List Value} {Kn : String} {index : Nat} {a : Addr} (w : (Jvm.Cond.classLink own index Kn).before a0 Z = true) (F : Ins Z h a Kn true) (hd : decode bytes pc = .ok (.instanceof index, 3)) (hp : pc + 3 = pc') (n : Go p l e R s m args below meth c n0 Q K S h (mkF m pc' Ls (.int 1 :: st))) : Go p l e R s m args below meth c n0 Q K S h (mkF m pc Ls (.ref a :: st)) := by
  subst hp; exact Go.law (fun T ls cs ss X eT => Jvm.RoadKit.instY X C.1 C.2.1 C.2.2.2.2.1 w eT F (g := (mkF m pc Ls (.ref a :: st))) rfl rfl (hb C.2.2.1 hd)) n
theorem putFN (C : Cx p l e R s m args below meth c Z bytes ml own ret nm) {pc pc' : Nat} {Ls : Array Slot} {st : List Value} {R0 O n d Cn : String} {index kk : Nat} {ty : FieldType} (w : (Jvm.Cond.fieldLink own index R0 n d).before a0 Z = true) (via : Via Z R0 O n d) {a : Addr} {v v' old : Value} (F : Fld Z h a O n d old) (E : Exa Z h a Cn) (L : (Jvm.Cond.lays Cn O n d).before a0 Z = true ∨ ((Jvm.Cond.laysFinal Cn O n d).before a0 Z = true ∧ own = O ∧ nm = "<init>")) (wi : (Jvm.Cond.instantiable Cn kk).before a0 Z = true) (hty : parseFieldDescriptor d = some ty) (hn : narrow ty v = v') (hf : fits ty v' = true) (ha : n0 ≤ a) (hd : decode bytes pc = .ok (.putfield index, 3)) (hp : pc + 3 = pc') (k : ∀ h', Wr h h' a (Jvm.RoadKit.slotOf Z O n d) v' → Go p l e R s m args below meth c n0 Q K S h' (mkF m pc' Ls st)) : Go p l e R s m args below meth c n0 Q K S h (mkF m pc Ls (v :: .ref a :: st)) := by
  subst hp; exact Go.write ha (fun T ls cs ss X eT => Jvm.RoadKit.putFN X C.1 C.2.1 C.2.2.2.2.1 w via eT F E (L.imp id fun q => ⟨q.1, q.2.1, C.2.2.2.2.2.2.2.trans q.2.2⟩) wi hty hn hf (g := (mkF m pc Ls (v :: .ref a :: st))) rfl rfl (hb C.2.2.1 hd)) k
theorem acopy (C : Cx p l e R s m args below meth c Z bytes ml own ret nm) {pc pc' : Nat} {Ls : Array Slot} {st : List Value} {index : Nat} {a b : Addr} {k1 k2 : ClassId} {t1 t2 : FieldType} {z1 z2 sp dp nn : Int32} {vs vd us : List Value} {d1 d2 : Value} (w1 : (Jvm.Cond.methodLink own index Jvm.Stand.acN).before a0 Z = true) (w2 : (Jvm.Cond.native Jvm.Stand.acN).before a0 Z = true) (w3 : (Jvm.Cond.static Jvm.Stand.acN).before a0 Z = true) (w4 : (Jvm.Cond.initialized "java/lang/System").before a0 Z = true) (A : Arv Z h a k1 t1 z1 vs d1) (B : Arv Z h b k2 t2 z2 vd d2) (hty : (t1 = t2 ∧ refKind t1 = false) ∨ (refKind t1 = true ∧ refKind t2 = true ∧ StoL Z h b us)) (h1 : ¬ sp < 0) (h2 : ¬ dp < 0) (h3 : ¬ nn < 0) (h4 : sp.toNatClampNeg + nn.toNatClampNeg ≤ z1.toNatClampNeg) (h5 : dp.toNatClampNeg + nn.toNatClampNeg ≤ z2.toNatClampNeg) (hus : us = (List.range nn.toNatClampNeg).map fun i => vs.getD (sp.toNatClampNeg + i) d1) (hlen : dp.toNatClampNeg + nn.toNatClampNeg ≤ vd.length) (ha : n0 ≤ b) (hsz : Ls.size = ml) (hf : 1 ≤ R.frames) {W : Nat} (hW : 2 * 0 + (st.map fun v => v.category).sum ≤ W) (hl : W + (nativeFrameWords "java/lang/System" "arraycopy" 5 + 11) ≤ R.locals) (hd : decode bytes pc = .ok (.invokestatic index, 3)) (hp : pc + 3 = pc')
    (n : ∀ h', Keep h h' [b] → Arv Z h' b k2 t2 z2 (vd.take dp.toNatClampNeg ++ us ++ vd.drop (dp.toNatClampNeg + nn.toNatClampNeg)) d2 → Go p l e R s m args below meth c n0 Q K S h' (mkF m pc' Ls st)) : Go p l e R s m args below meth c n0 Q K S h (mkF m pc Ls (.int nn :: .int dp :: .ref b :: .int sp :: .ref a :: st)) :=
  fun T ⟨ls, cs, ss, X, N, hc, hs, eT⟩ => by
    subst hp
    obtain ⟨T', h', L', X', e', N', K', V', st'⟩ := cpA X C.1 C.2.1 C.2.2.2.2.1 w1 w2 w3 w4 eT A B hty h1 h2 h3 h4 h5 hus hlen N ha (g := (mkF m pc Ls (.int nn :: .int dp :: .ref b :: .int sp :: .ref a :: st))) rfl (hsz.trans C.2.2.2.1.symm) rfl (hb C.2.2.1 hd) hf hW hl
    obtain ⟨s₂, v, L, q1, q2⟩ := n h' K' V' T' ⟨L', _, _, X', N', hc, hs, e'⟩
    exact ⟨s₂, v, L, st' _ q1, q2⟩
theorem callS (C : Cx p l e R s m args below meth c Z bytes ml own ret nm) {pc pc' : Nat} {Ls : Array Slot} {st : List Value} {y : MethodName} {yb : ByteArray} {yl idx : Nat} {yr r : Option FieldType} {rm : Room} {Qc : Option Value → Heap → Prop} {argsL rest : List Value} {ps : List FieldType} {W : Nat} (w1 : (Jvm.Cond.methodLink own idx y).before a0 Z = true) (w2 : (Jvm.Cond.static y).before a0 Z = true) (w3 : (Jvm.Cond.initialized y.cls).before a0 Z = true) (w4 : (Jvm.Cond.code y yb yl yr).before a0 Z = true) (hy : y.cls ≠ "java/lang/invoke/MethodHandle" ∧ y.cls ≠ "java/lang/invoke/VarHandle") (hC : Ctr l Z y yb yl yr rm argsL.toArray h n0 Qc) (hf : rm.frames + 1 ≤ R.frames) (hl : W + (yl + 11) + rm.locals ≤ R.locals) (hsz : Ls.size = ml) (hpd : parseMethodDescriptor y.desc = some ⟨ps, r⟩) (hn : argsL.length = ps.length) (hW : 2 * 0 + (rest.map fun v => v.category).sum ≤ W) (hK : K + rm.cells = K') (hS : S + rm.slots = S') (hK' : K' ≤ R.cells) (hS' : S' ≤ R.slots) (hst : st = argsL.reverse ++ rest) (hd : decode bytes pc = .ok (.invokestatic idx, 3)) (hp : pc + 3 = pc')
    (n : ∀ v h', Qc v h' → Go p l e R s m args below meth c n0 Q K' S' h' (mkF m pc' Ls (v.toList ++ rest))) : Go p l e R s m args below meth c n0 Q K S h (mkF m pc Ls st) :=
  fun T ⟨ls, cs, ss, X, N, hc, hs, eT⟩ => by
    subst hp hK hS
    obtain ⟨v, _, ⟨T', L', k', n'⟩, -, X', ⟨Lc', hQ', l', y', z'⟩, st'⟩ := Jvm.LawKit.callS X C.1 (y := y) C.2.2.2.2.1 (mvT C.2.1 w1) (mvT C.2.1 w2) (mvT C.2.1 w3) (mvT C.2.1 w4) hy (backOf (Q := fun v h L => Qc v h ∧ Fr n0 L) (W := W) (hC []) C.2.1 w4 w3 hf hl) (g := (mkF m pc Ls st)) rfl (hsz.trans C.2.2.2.1.symm) (argsL := argsL) (rest := rest) (lenOf hpd hn) hst hW (hb C.2.2.1 hd) (fun _ _ => ⟨rfl, eT, (show cs + rm.cells ≤ R.cells by omega), (show ss + rm.slots ≤ R.slots by omega)⟩)
    dsimp only [Pt.U, Pt.locs, Pt.cells, Pt.slots] at X' l' y' z' st' hQ'
    subst l' y' z'
    obtain ⟨s₂, v2, L, h1, h2⟩ := n v T'.heap hQ'.1 T' ⟨_, _, _, X', Fr.app N hQ'.2, by omega, by omega, rfl⟩
    exact ⟨s₂, v2, L, st' _ h1, h2⟩
theorem callX (C : Cx p l e R s m args below meth c Z bytes ml own ret nm) {pc pc' : Nat} {Ls : Array Slot} {st : List Value} {y : MethodName} {yb : ByteArray} {yl idx : Nat} {r : Option FieldType} {rm : Room} {Qc : Option Value → Heap → Prop} {argsL rest : List Value} {ps : List FieldType} {W : Nat} {a : Addr} (hy1 : y.name = "<init>") (w1 : (Jvm.Cond.methodLink own idx y).before a0 Z = true) (w2 : (Jvm.Cond.instanceMethod y).before a0 Z = true) (w3 : (Jvm.Cond.initialized y.cls).before a0 Z = true) (w4 : (Jvm.Cond.code y yb yl none).before a0 Z = true) (hy : y.cls ≠ "java/lang/invoke/MethodHandle" ∧ y.cls ≠ "java/lang/invoke/VarHandle") (hC : Ctr l Z y yb yl none rm (.ref a :: argsL).toArray h n0 Qc) (hf : rm.frames + 1 ≤ R.frames) (hl : W + (yl + 11) + rm.locals ≤ R.locals) (hsz : Ls.size = ml) (hpd : parseMethodDescriptor y.desc = some ⟨ps, r⟩) (hn : argsL.length = ps.length) (hW : 2 * 0 + (rest.map fun v => v.category).sum ≤ W) (hK : K + rm.cells = K') (hS : S + rm.slots = S') (hK' : K' ≤ R.cells) (hS' : S' ≤ R.slots) (hst : st = argsL.reverse ++ .ref a :: rest) (hd : decode bytes pc = .ok (.invokespecial idx, 3)) (hp : pc + 3 = pc')
    (n : ∀ v h', Qc v h' → Go p l e R s m args below meth c n0 Q K' S' h' (mkF m pc' Ls (v.toList ++ rest))) : Go p l e R s m args below meth c n0 Q K S h (mkF m pc Ls st) :=
  fun T ⟨ls, cs, ss, X, N, hc, hs, eT⟩ => by
    subst hp hK hS
    obtain ⟨v, _, ⟨T', L', k', n'⟩, -, X', ⟨Lc', hQ', l', y', z'⟩, st'⟩ := X.specialBack C.1 (y := y) hy1 C.2.2.2.2.1 (mvT C.2.1 w1) (mvT C.2.1 w2) (mvT C.2.1 w4) hy (backOf (Q := fun v h L => Qc v h ∧ Fr n0 L) (W := W) (hC []) C.2.1 w4 w3 hf hl) (g := (mkF m pc Ls st)) rfl (hsz.trans C.2.2.2.1.symm) (Steps.refl _) (a := a) (argsL := argsL) (rest := rest) (lenOf hpd hn) hst hW (hb C.2.2.1 hd) (fun _ _ => ⟨rfl, eT, (show cs + rm.cells ≤ R.cells by omega), (show ss + rm.slots ≤ R.slots by omega)⟩)
    dsimp only [Pt.U, Pt.locs, Pt.cells, Pt.slots] at X' l' y' z' st' hQ'
    subst l' y' z'
    obtain ⟨s₂, v2, L, h1, h2⟩ := n v T'.heap hQ'.1 T' ⟨_, _, _, X', Fr.app N hQ'.2, by omega, by omega, rfl⟩
    exact ⟨s₂, v2, L, st'.trans h1, h2⟩
theorem callV (C : Cx p l e R s m args below meth c Z bytes ml own ret nm) {pc pc' : Nat} {Ls : Array Slot} {st : List Value} {y z : MethodName} {yb : ByteArray} {yl idx : Nat} {yr r : Option FieldType} {rm : Room} {Qc : Option Value → Heap → Prop} {argsL rest : List Value} {ps : List FieldType} {W : Nat} {a : Addr} {Cn : String} (w1 : (Jvm.Cond.methodLink own idx y).before a0 Z = true) (w2 : (Jvm.Cond.declares y).before a0 Z = true) (wf : NotFace s y) (w5 : (Jvm.Cond.selects Cn y z).before a0 Z = true) (w6 : (Jvm.Cond.instanceMethod z).before a0 Z = true) (w3 : (Jvm.Cond.initialized z.cls).before a0 Z = true) (w4 : (Jvm.Cond.code z yb yl yr).before a0 Z = true) (E : Exa Z h a Cn) (hy : y.cls ≠ "java/lang/invoke/MethodHandle" ∧ y.cls ≠ "java/lang/invoke/VarHandle") (hC : Ctr l Z z yb yl yr rm (.ref a :: argsL).toArray h n0 Qc) (hf : rm.frames + 1 ≤ R.frames) (hl : W + (yl + 11) + rm.locals ≤ R.locals) (hsz : Ls.size = ml) (hpd : parseMethodDescriptor y.desc = some ⟨ps, r⟩) (hn : argsL.length = ps.length) (hW : 2 * 0 + (rest.map fun v => v.category).sum ≤ W) (hK : K + rm.cells = K') (hS : S + rm.slots = S') (hK' : K' ≤ R.cells) (hS' : S' ≤ R.slots) (hst : st = argsL.reverse ++ .ref a :: rest) (hd : decode bytes pc = .ok (.invokevirtual idx, 3)) (hp : pc + 3 = pc')
    (n : ∀ v h', Qc v h' → Go p l e R s m args below meth c n0 Q K' S' h' (mkF m pc' Ls (v.toList ++ rest))) : Go p l e R s m args below meth c n0 Q K S h (mkF m pc Ls st) :=
  fun T ⟨ls, cs, ss, X, N, hc, hs, eT⟩ => by
    subst hp hK hS
    obtain ⟨cq, kq, qa, qb, qc⟩ := isOf C.2.1 eT E
    obtain ⟨v, _, ⟨T', L', k', n'⟩, -, X', ⟨Lc', hQ', l', y', z'⟩, st'⟩ := X.virtualBack C.1 (y := y) (z := z) C.2.2.2.2.1 (mvT C.2.1 w1) (mvT C.2.1 w2) wf (mvT C.2.1 w5) (mvT C.2.1 w6) hy (backOf (Q := fun v h L => Qc v h ∧ Fr n0 L) (W := W) (hC []) C.2.1 w4 w3 hf hl) qa qc (g := (mkF m pc Ls st)) rfl (hsz.trans C.2.2.2.1.symm) (Steps.refl _) (argsL := argsL) (rest := rest) (lenOf hpd hn) hst hW (hb C.2.2.1 hd) (fun _ _ => ⟨rfl, eT, (show cs + rm.cells ≤ R.cells by omega), (show ss + rm.slots ≤ R.slots by omega)⟩)
    dsimp only [Pt.U, Pt.locs, Pt.cells, Pt.slots] at X' l' y' z' st' hQ'
    subst l' y' z'
    obtain ⟨s₂, v2, L, h1, h2⟩ := n v T'.heap hQ'.1 T' ⟨_, _, _, X', Fr.app N hQ'.2, by omega, by omega, rfl⟩
    exact ⟨s₂, v2, L, st'.trans h1, h2⟩
theorem callVU (C : Cx p l e R s m args below meth c Z bytes ml own ret nm) {pc pc' : Nat} {Ls : Array Slot} {st : List Value} {y z : MethodName} {yb : ByteArray} {yl idx : Nat} {yr r : Option FieldType} {rm : Room} {Qc : Option Value → Heap → Prop} {argsL rest : List Value} {ps : List FieldType} {W : Nat} {a : Addr} {Cn owner : String} (w1 : (Jvm.Cond.methodLink own idx y).before a0 Z = true) (wS : (Jvm.Cond.sameMethod y.cls owner y.name y.desc).before a0 Z = true) (w2 : (Jvm.Cond.declares ⟨owner, y.name, y.desc⟩).before a0 Z = true) (w5 : (Jvm.Cond.selects Cn y z).before a0 Z = true) (w6 : (Jvm.Cond.instanceMethod z).before a0 Z = true) (w3 : (Jvm.Cond.initialized z.cls).before a0 Z = true) (w4 : (Jvm.Cond.code z yb yl yr).before a0 Z = true) (E : Exa Z h a Cn) (hy : owner ≠ "java/lang/invoke/MethodHandle" ∧ owner ≠ "java/lang/invoke/VarHandle") (hC : Ctr l Z z yb yl yr rm (.ref a :: argsL).toArray h n0 Qc) (hf : rm.frames + 1 ≤ R.frames) (hl : W + (yl + 11) + rm.locals ≤ R.locals) (hsz : Ls.size = ml) (hpd : parseMethodDescriptor y.desc = some ⟨ps, r⟩) (hn : argsL.length = ps.length) (hW : 2 * 0 + (rest.map fun v => v.category).sum ≤ W) (hK : K + rm.cells = K') (hS : S + rm.slots = S') (hK' : K' ≤ R.cells) (hS' : S' ≤ R.slots) (hst : st = argsL.reverse ++ .ref a :: rest) (hd : decode bytes pc = .ok (.invokevirtual idx, 3)) (hp : pc + 3 = pc')
    (n : ∀ v h', Qc v h' → Go p l e R s m args below meth c n0 Q K' S' h' (mkF m pc' Ls (v.toList ++ rest))) : Go p l e R s m args below meth c n0 Q K S h (mkF m pc Ls st) :=
  fun T ⟨ls, cs, ss, X, N, hc, hs, eT⟩ => by
    subst hp hK hS
    obtain ⟨cq, kq, qa, qb, qc⟩ := isOf C.2.1 eT E
    obtain ⟨v, _, ⟨T', L', k', n'⟩, -, X', ⟨Lc', hQ', l', y', z'⟩, st'⟩ := X.virtualBackUp C.1 (x := y) (y := z) C.2.2.2.2.1 (mvT C.2.1 w1) (mvT C.2.1 wS) (mvT C.2.1 w2) hy (mvT C.2.1 w5) (mvT C.2.1 w6) (backOf (Q := fun v h L => Qc v h ∧ Fr n0 L) (W := W) (hC []) C.2.1 w4 w3 hf hl) qa qc (g := (mkF m pc Ls st)) rfl (hsz.trans C.2.2.2.1.symm) (Steps.refl _) (argsL := argsL) (rest := rest) (lenOf hpd hn) hst hW (hb C.2.2.1 hd) (fun _ _ => ⟨rfl, eT, (show cs + rm.cells ≤ R.cells by omega), (show ss + rm.slots ≤ R.slots by omega)⟩)
    dsimp only [Pt.U, Pt.locs, Pt.cells, Pt.slots] at X' l' y' z' st' hQ'
    subst l' y' z'
    obtain ⟨s₂, v2, L, h1, h2⟩ := n v T'.heap hQ'.1 T' ⟨_, _, _, X', Fr.app N hQ'.2, by omega, by omega, rfl⟩
    exact ⟨s₂, v2, L, st'.trans h1, h2⟩
theorem callP (C : Cx p l e R s m args below meth c Z bytes ml own ret nm) {pc pc' : Nat} {Ls : Array Slot} {st : List Value} {y : MethodName} {yb : ByteArray} {yl idx : Nat} {yr r : Option FieldType} {rm : Room} {Qc : Option Value → Heap → Prop} {argsL rest : List Value} {ps : List FieldType} {W : Nat} {a : Addr} {Cn : String} (w1 : (Jvm.Cond.methodLink own idx y).before a0 Z = true) (w2 : (Jvm.Cond.instanceMethod y).before a0 Z = true) (w5 : (Jvm.Cond.selects y.cls y y).before a0 Z = true) (w6 : (Jvm.Cond.privateMethod y).before a0 Z = true) (w3 : (Jvm.Cond.initialized y.cls).before a0 Z = true) (w4 : (Jvm.Cond.code y yb yl yr).before a0 Z = true) (E : Exa Z h a Cn) (hy : y.cls ≠ "java/lang/invoke/MethodHandle" ∧ y.cls ≠ "java/lang/invoke/VarHandle") (hC : Ctr l Z y yb yl yr rm (.ref a :: argsL).toArray h n0 Qc) (hf : rm.frames + 1 ≤ R.frames) (hl : W + (yl + 11) + rm.locals ≤ R.locals) (hsz : Ls.size = ml) (hpd : parseMethodDescriptor y.desc = some ⟨ps, r⟩) (hn : argsL.length = ps.length) (hW : 2 * 0 + (rest.map fun v => v.category).sum ≤ W) (hK : K + rm.cells = K') (hS : S + rm.slots = S') (hK' : K' ≤ R.cells) (hS' : S' ≤ R.slots) (hst : st = argsL.reverse ++ .ref a :: rest) (hd : decode bytes pc = .ok (.invokevirtual idx, 3)) (hp : pc + 3 = pc')
    (n : ∀ v h', Qc v h' → Go p l e R s m args below meth c n0 Q K' S' h' (mkF m pc' Ls (v.toList ++ rest))) : Go p l e R s m args below meth c n0 Q K S h (mkF m pc Ls st) :=
  fun T ⟨ls, cs, ss, X, N, hc, hs, eT⟩ => by
    subst hp hK hS
    obtain ⟨cq, qa, qb⟩ := E.cell
    obtain ⟨v, _, ⟨T', L', k', n'⟩, -, X', ⟨Lc', hQ', l', y', z'⟩, st'⟩ := X.privateBack C.1 (y := y) C.2.2.2.2.1 (mvT C.2.1 w1) (mvT C.2.1 w2) (mvT C.2.1 w5) (Cond.privateMethod_at (mvP C.2.1 w6 (args := #[]))) (mvT C.2.1 w4) hy (backOf (Q := fun v h L => Qc v h ∧ Fr n0 L) (W := W) (hC []) C.2.1 w4 w3 hf hl) (g := (mkF m pc Ls st)) rfl (hsz.trans C.2.2.2.1.symm) (Steps.refl _) (a := a) (by rw [eT]; exact qa) qb (argsL := argsL) (rest := rest) (lenOf hpd hn) hst hW (hb C.2.2.1 hd) (fun _ _ => ⟨rfl, eT, (show cs + rm.cells ≤ R.cells by omega), (show ss + rm.slots ≤ R.slots by omega)⟩)
    dsimp only [Pt.U, Pt.locs, Pt.cells, Pt.slots] at X' l' y' z' st' hQ'
    subst l' y' z'
    obtain ⟨s₂, v2, L, h1, h2⟩ := n v T'.heap hQ'.1 T' ⟨_, _, _, X', Fr.app N hQ'.2, by omega, by omega, rfl⟩
    exact ⟨s₂, v2, L, st'.trans h1, h2⟩
theorem callI (C : Cx p l e R s m args below meth c Z bytes ml own ret nm) {pc pc' : Nat} {Ls : Array Slot} {st : List Value} {y z : MethodName} {yb : ByteArray} {yl idx : Nat} {yr r : Option FieldType} {rm : Room} {Qc : Option Value → Heap → Prop} {argsL rest : List Value} {ps : List FieldType} {W : Nat} {a : Addr} {Cn : String} {count : Nat} (w1 : (Jvm.Cond.methodLink own idx y).before a0 Z = true) (w2 : (Jvm.Cond.declares y).before a0 Z = true) (wf : (Jvm.Cond.interfaceMethod y.cls y.cls y.name y.desc).before a0 Z = true) (wfk : ((Jvm.Cond.interfaceMethod y.cls y.cls y.name y.desc).onTables && (Jvm.Cond.interfaceMethod y.cls y.cls y.name y.desc).keepsFace) = true) (w5 : (Jvm.Cond.selects Cn y z).before a0 Z = true) (w6 : (Jvm.Cond.instanceMethod z).before a0 Z = true) (w7 : (Jvm.Cond.publicMethod z).before a0 Z = true) (w8 : (Jvm.Cond.unhidden Cn y.name y.desc).before a0 Z = true) (w9 : (Jvm.Cond.castable Cn y.cls).before a0 Z = true) (w3 : (Jvm.Cond.initialized z.cls).before a0 Z = true) (w4 : (Jvm.Cond.code z yb yl yr).before a0 Z = true) (E : Exa Z h a Cn) (hy : y.cls ≠ "java/lang/invoke/MethodHandle" ∧ y.cls ≠ "java/lang/invoke/VarHandle") (hC : Ctr l Z z yb yl yr rm (.ref a :: argsL).toArray h n0 Qc) (hf : rm.frames + 1 ≤ R.frames) (hl : W + (yl + 11) + rm.locals ≤ R.locals) (hsz : Ls.size = ml) (hpd : parseMethodDescriptor y.desc = some ⟨ps, r⟩) (hn : argsL.length = ps.length) (hW : 2 * 0 + (rest.map fun v => v.category).sum ≤ W) (hK : K + rm.cells = K') (hS : S + rm.slots = S') (hK' : K' ≤ R.cells) (hS' : S' ≤ R.slots) (hst : st = argsL.reverse ++ .ref a :: rest) (hd : decode bytes pc = .ok (.invokeinterface idx count, 5)) (hp : pc + 5 = pc')
    (n : ∀ v h', Qc v h' → Go p l e R s m args below meth c n0 Q K' S' h' (mkF m pc' Ls (v.toList ++ rest))) : Go p l e R s m args below meth c n0 Q K S h (mkF m pc Ls st) :=
  fun T ⟨ls, cs, ss, X, N, hc, hs, eT⟩ => by
    subst hp hK hS
    obtain ⟨cq, kq, qa, qb, qc⟩ := isOf C.2.1 eT E
    obtain ⟨v, _, ⟨T', L', k', n'⟩, -, X', ⟨Lc', hQ', l', y', z'⟩, st'⟩ := X.interfaceBack C.1 (xi := y) (y := z) C.2.2.2.2.1 (mvT C.2.1 w1) (mvT C.2.1 w2) (mvT C.2.1 wf wfk) (mvT C.2.1 w5) (mvT C.2.1 w6) (mvT C.2.1 w7) (mvT C.2.1 w8) (mvT C.2.1 w9) hy (backOf (Q := fun v h L => Qc v h ∧ Fr n0 L) (W := W) (hC []) C.2.1 w4 w3 hf hl) qa qb qc (g := (mkF m pc Ls st)) rfl (hsz.trans C.2.2.2.1.symm) (Steps.refl _) (argsL := argsL) (rest := rest) (lenOf hpd hn) hst hW (hb C.2.2.1 hd) (fun _ _ => ⟨rfl, eT, (show cs + rm.cells ≤ R.cells by omega), (show ss + rm.slots ≤ R.slots by omega)⟩)
    dsimp only [Pt.U, Pt.locs, Pt.cells, Pt.slots] at X' l' y' z' st' hQ'
    subst l' y' z'
    obtain ⟨s₂, v2, L, h1, h2⟩ := n v T'.heap hQ'.1 T' ⟨_, _, _, X', Fr.app N hQ'.2, by omega, by omega, rfl⟩
    exact ⟨s₂, v2, L, st'.trans h1, h2⟩
theorem callXN (C : Cx p l e R s m args below meth c Z bytes ml own ret nm) {pc pc' : Nat} {Ls : Array Slot} {st : List Value} {y : MethodName} {yb : ByteArray} {yl idx : Nat} {r : Option FieldType} {rm : Room} {Qc : Option Value → Heap → Prop} {argsL rest : List Value} {ps : List FieldType} {W : Nat} {a : Addr} {host : String} (hy1 : y.name = "<init>") (w1 : (Jvm.Cond.methodLinkNest own idx y host).before a0 Z = true) (w2 : (Jvm.Cond.instanceMethod y).before a0 Z = true) (w3 : (Jvm.Cond.initialized y.cls).before a0 Z = true) (w4 : (Jvm.Cond.code y yb yl none).before a0 Z = true) (hy : y.cls ≠ "java/lang/invoke/MethodHandle" ∧ y.cls ≠ "java/lang/invoke/VarHandle") (hC : Ctr l Z y yb yl none rm (.ref a :: argsL).toArray h n0 Qc) (hf : rm.frames + 1 ≤ R.frames) (hl : W + (yl + 11) + rm.locals ≤ R.locals) (hsz : Ls.size = ml) (hpd : parseMethodDescriptor y.desc = some ⟨ps, r⟩) (hn : argsL.length = ps.length) (hW : 2 * 0 + (rest.map fun v => v.category).sum ≤ W) (hK : K + rm.cells = K') (hS : S + rm.slots = S') (hK' : K' ≤ R.cells) (hS' : S' ≤ R.slots) (hst : st = argsL.reverse ++ .ref a :: rest) (hd : decode bytes pc = .ok (.invokespecial idx, 3)) (hp : pc + 3 = pc')
    (n : ∀ v h', Qc v h' → Go p l e R s m args below meth c n0 Q K' S' h' (mkF m pc' Ls (v.toList ++ rest))) : Go p l e R s m args below meth c n0 Q K S h (mkF m pc Ls st) :=
  fun T ⟨ls, cs, ss, X, N, hc, hs, eT⟩ => by
    subst hp hK hS
    obtain ⟨v, _, ⟨T', L', k', n'⟩, -, X', ⟨Lc', hQ', l', y', z'⟩, st'⟩ := X.specialBackNest C.1 (y := y) hy1 C.2.2.2.2.1 (Cond.methodLinkNest_wide C.2.1 w1 :) (mvT C.2.1 w2) (mvT C.2.1 w4) hy (backOf (Q := fun v h L => Qc v h ∧ Fr n0 L) (W := W) (hC []) C.2.1 w4 w3 hf hl) (g := (mkF m pc Ls st)) rfl (hsz.trans C.2.2.2.1.symm) (Steps.refl _) (a := a) (argsL := argsL) (rest := rest) (lenOf hpd hn) hst hW (hb C.2.2.1 hd) (fun _ _ => ⟨rfl, eT, (show cs + rm.cells ≤ R.cells by omega), (show ss + rm.slots ≤ R.slots by omega)⟩)
    dsimp only [Pt.U, Pt.locs, Pt.cells, Pt.slots] at X' l' y' z' st' hQ'
    subst l' y' z'
    obtain ⟨s₂, v2, L, h1, h2⟩ := n v T'.heap hQ'.1 T' ⟨_, _, _, X', Fr.app N hQ'.2, by omega, by omega, rfl⟩
    exact ⟨s₂, v2, L, st'.trans h1, h2⟩
theorem retN (C : Cx p l e R s m args below meth c Z bytes ml own ret nm) {pc : Nat} {Ls : Array Slot} {st : List Value} {x z : Int32} {t : FieldType} (hr0 : ret = some t) (ht : t = .boolean ∨ t = .byte ∨ t = .char ∨ t = .short) (hz : nar t x = z) (hq : Q (some (.int z)) h) (hK : K ≤ R.cells) (hS : S ≤ R.slots) (hd : decode bytes pc = .ok (.ireturn, 1)) : Go p l e R s m args below meth c n0 Q K S h (mkF m pc Ls (.int x :: st)) :=
  fun T ⟨ls, cs, ss, X, N, hc, hs, eT⟩ => by
    obtain ⟨fs, hr, hrun, hended, hW, hsame⟩ := X.leave (v := (some (.int z))) (fun h => by rw [C.2.2.2.2.2.2.1, hr0] at h; cases h) C.2.2.2.2.2.1
    exact ⟨_, _, _, Jvm.RoadKit.retN X C.1 (C.2.2.2.2.2.2.1.trans hr0) ht (hb C.2.2.1 hd) (hz ▸ hr), hrun, hended, (show Q (some (.int z)) T.heap from eT.symm ▸ hq), N, ⟨_, rfl⟩, hW, hsame.mono (Nat.le_trans hc hK) (Nat.le_trans hs hS)⟩
theorem retI (C : Cx p l e R s m args below meth c Z bytes ml own ret nm) {pc : Nat} {Ls : Array Slot} {st : List Value} {x : Int32} (hr0 : ret = some .int) (hq : Q (some (.int x)) h) (hK : K ≤ R.cells) (hS : S ≤ R.slots) (hd : decode bytes pc = .ok (.ireturn, 1)) : Go p l e R s m args below meth c n0 Q K S h (mkF m pc Ls (.int x :: st)) :=
  fun T ⟨ls, cs, ss, X, N, hc, hs, eT⟩ => by
    obtain ⟨fs, hr, hrun, hended, hW, hsame⟩ := X.leave (v := (some (.int x))) (fun h => by rw [C.2.2.2.2.2.2.1, hr0] at h; cases h) C.2.2.2.2.2.1
    exact ⟨_, _, _, retOut X C.1 (C.2.2.2.2.2.2.1.trans hr0) rfl (Or.inl ⟨rfl, Or.inl rfl, x, rfl⟩) (hb C.2.2.1 hd) hr, hrun, hended, (show Q (some (.int x)) T.heap from eT.symm ▸ hq), N, ⟨_, rfl⟩, hW, hsame.mono (Nat.le_trans hc hK) (Nat.le_trans hs hS)⟩
theorem retL (C : Cx p l e R s m args below meth c Z bytes ml own ret nm) {pc : Nat} {Ls : Array Slot} {st : List Value} {x : Int64} (hr0 : ret = some .long) (hq : Q (some (.long x)) h) (hK : K ≤ R.cells) (hS : S ≤ R.slots) (hd : decode bytes pc = .ok (.lreturn, 1)) : Go p l e R s m args below meth c n0 Q K S h (mkF m pc Ls (.long x :: st)) :=
  fun T ⟨ls, cs, ss, X, N, hc, hs, eT⟩ => by
    obtain ⟨fs, hr, hrun, hended, hW, hsame⟩ := X.leave (v := (some (.long x))) (fun h => by rw [C.2.2.2.2.2.2.1, hr0] at h; cases h) C.2.2.2.2.2.1
    exact ⟨_, _, _, retOut X C.1 (C.2.2.2.2.2.2.1.trans hr0) rfl (Or.inr (Or.inl ⟨rfl, rfl, x, rfl⟩)) (hb C.2.2.1 hd) hr, hrun, hended, (show Q (some (.long x)) T.heap from eT.symm ▸ hq), N, ⟨_, rfl⟩, hW, hsame.mono (Nat.le_trans hc hK) (Nat.le_trans hs hS)⟩
theorem retA (C : Cx p l e R s m args below meth c Z bytes ml own ret nm) {pc : Nat} {Ls : Array Slot} {st : List Value} {x : Value} {t : FieldType} (hr0 : ret = some t) (ht : t.isReference = true) (hx : x.isRef = true) (hq : Q (some x) h) (hK : K ≤ R.cells) (hS : S ≤ R.slots) (hd : decode bytes pc = .ok (.areturn, 1)) : Go p l e R s m args below meth c n0 Q K S h (mkF m pc Ls (x :: st)) :=
  fun T ⟨ls, cs, ss, X, N, hc, hs, eT⟩ => by
    obtain ⟨fs, hr, hrun, hended, hW, hsame⟩ := X.leave (v := (some x)) (fun h => by rw [C.2.2.2.2.2.2.1, hr0] at h; cases h) C.2.2.2.2.2.1
    exact ⟨_, _, _, retOut X C.1 (C.2.2.2.2.2.2.1.trans hr0) (by cases t <;> first | (cases ht; done) | rfl) (Or.inr (Or.inr (Or.inr (Or.inr ⟨rfl, ht, hx⟩)))) (hb C.2.2.1 hd) hr, hrun, hended, (show Q (some x) T.heap from eT.symm ▸ hq), N, ⟨_, rfl⟩, hW, hsame.mono (Nat.le_trans hc hK) (Nat.le_trans hs hS)⟩
theorem retV (C : Cx p l e R s m args below meth c Z bytes ml own ret nm) {pc : Nat} {Ls : Array Slot} (hr0 : ret = none) (hq : Q none h) (hK : K ≤ R.cells) (hS : S ≤ R.slots) (hd : decode bytes pc = .ok (.return_, 1)) : Go p l e R s m args below meth c n0 Q K S h (mkF m pc Ls []) :=
  fun T ⟨ls, cs, ss, X, N, hc, hs, eT⟩ => by
    obtain ⟨fs, hr, hrun, hended, hW, hsame⟩ := X.leave (v := none) (fun _ => rfl) C.2.2.2.2.2.1
    exact ⟨_, _, _, X.returnOut C.1 (C.2.2.2.2.2.2.1.trans hr0) (hb C.2.2.1 hd) hr, hrun, hended, (show Q none T.heap from eT.symm ▸ hq), N, ⟨_, rfl⟩, hW, hsame.mono (Nat.le_trans hc hK) (Nat.le_trans hs hS)⟩
theorem fld_int {t : Term} {a : Addr} {Cn n d : String} {k : Int32} (ev : t.eval args s none [] s = some (.ref a)) (h : (Jvm.Cond.eq (.field t Cn n d) (.int k)).value args s none s [] = some true) : Fld s s.heap a Cn n d (.int k) := by
  obtain ⟨x, y, e1, e2, k1, k2⟩ := cmp_v (Or.inl h)
  rw [Term.int_eval] at e2; cases e2
  cases x with
  | int z =>
    have q : z = k := by simpa [Jvm.Cond.value, e1, Term.int_eval] using h
    subst q; rw [fld_at ev] at e1; exact Fld.start e1
  | _ => simp [Jvm.Cond.value, e1, Term.int_eval] at h
theorem fld_ref {t u : Term} {a b : Addr} {Cn n d : String} (ev : t.eval args s none [] s = some (.ref a)) (eu : u.eval args s none [] s = some (.ref b)) (h : (Jvm.Cond.eq (.field t Cn n d) u).value args s none s [] = some true) : Fld s s.heap a Cn n d (.ref b) := by
  obtain ⟨x, y, e1, e2, k1, k2⟩ := cmp_v (Or.inl h)
  rw [eu] at e2; cases e2
  cases x with
  | ref z =>
    have q : z = b := by simpa [Jvm.Cond.value, e1, eu] using h
    subst q; rw [fld_at ev] at e1; exact Fld.start e1
  | _ => simp [Jvm.Cond.value, e1, eu] at h
theorem ref_ne {a b : Addr} (h : a ≠ b) : ¬ (Value.ref a = Value.ref b) := fun q => h (Value.ref.inj q)
theorem len_start {t : Term} {a : Addr} {cl : Cell} {ty : FieldType} {k : Int32} (ev : t.eval args s none [] s = some (.ref a)) (A : Arr s s.heap a cl ty) (hl : (Jvm.Cond.eq (.length t) (.int k)).value args s none s [] = some true) : cl.slots.size < 2 ^ 31 ∧ cl.slots.size.toInt32 = k := by
  obtain ⟨x, y, e1, e2, -, -⟩ := cmp_v (Or.inl hl)
  obtain ⟨b, cell, q1, q2, q3, rfl⟩ := Jvm.Lib.length_spec e1
  cases ev.symm.trans q1
  cases q2.symm.trans (A.fin (Vm.Alike.refl _))
  rw [Term.int_eval] at e2; cases e2
  exact ⟨q3, by simpa [Jvm.Cond.value, e1, Term.int_eval] using hl⟩
theorem elem_start {t u : Term} {a b : Addr} {cl : Cell} {j : Int32} (ev : t.eval args s none [] s = some (.ref a)) (hc : s.heap[a]? = some cl) (eu : u.eval args s none [] s = some (.ref b)) (h : (Jvm.Cond.eq (.elem t (.int j)) u).value args s none s [] = some true) : cl.slots[j.toNatClampNeg]? = some (.ref b) := by
  obtain ⟨x, y, e1, e2, -, -⟩ := cmp_v (Or.inl h)
  rw [eu] at e2; cases e2
  have q := (elem_in e1 ev (Term.int_eval j) hc).2
  cases x with
  | ref z =>
    have q' : z = b := by simpa [Jvm.Cond.value, e1, eu] using h
    subst q'; exact q
  | _ => simp [Jvm.Cond.value, e1, eu] at h
theorem sto_of {a y : Addr} {cA : ClassId} {ty : FieldType} {i : Int32} {vs : List Value} {dv : Value} {Cn : String} (F : Arv Z h a cA ty i vs dv) (O : Ovr Z cA Cn) (I : Ins Z h y Cn true) : Sto Z h a (.ref y) := by
  obtain ⟨c, A, q, -⟩ := F; exact Sto.ofV A q O I
theorem sto_ofA {a y : Addr} {cA : ClassId} {ty t : FieldType} {i : Int32} {vs : List Value} {dv : Value} {Cn : String} (F : Arv Z h a cA ty i vs dv) (O : OvrA Z cA t Cn) (I : Ins Z h y Cn true) : Sto Z h a (.ref y) := by
  obtain ⟨c, A, q, -⟩ := F; exact Sto.ofVA A q O I
theorem ins_keep {a : Addr} {Cn : String} {b : Bool} {h' : Heap} {ws : List Addr} (F : Ins Z h a Cn b) (K : Keep h h' ws) : Ins Z h' a Cn b := by
  obtain ⟨cell, cT, h1, h2, h3⟩ := F
  obtain ⟨c', q, r1, r2, r3⟩ := K.2.2 a cell h1
  exact ⟨c', cT, q, h2, by rw [r1, r2]; exact h3⟩
theorem sta_keep {Cn n d Cm : String} {v : Value} {a : Addr} {h' : Heap} (F : Sta Z h Cn n d v) (K : Keep h h' [a]) (E : Exa Z h a Cm) : Sta Z h' Cn n d v := by
  obtain ⟨cf, i, k, f, st, cell, h1, h2, h3, h4, h5, h6, h7⟩ := F
  obtain ⟨c2, k2, g1, -, -, g4, -⟩ := E
  have ne : st ≠ a := fun q => by subst q; cases h5.symm.trans g1; rw [h6] at g4; cases g4
  exact ⟨cf, i, k, f, st, cell, h1, h2, h3, h4, K.2.1 st cell h5 (fun q => ne (List.mem_singleton.mp q)), h6, h7⟩
theorem nar_b {x : Int32} (h : x = 0 ∨ x = 1) : nar .boolean x = x := by rcases h with rfl | rfl <;> rfl
end K
end Jvm.OwnW
namespace Jvm.Pilot.@@N@@
open Jvm Jvm.ClassFile Sem Op Lib Jvm.Free Jvm.Stand Jvm.LawKit Jvm.RoadKit Jvm.OwnW Bundle Jvm.Pilot.@@N@@.Jvm.D
theorem own_pn_AbstractCollection : plainName "java/util/AbstractCollection" = true := by first | (simp [plainName, overriddenIn]; done) | decide +kernel
theorem own_d_jdk_22_method_1_code_0 : decode jdk_22_method_1_code 0 = .ok (.aload_n 0, 1) := by decide +kernel
theorem own_d_jdk_22_method_1_code_1 : decode jdk_22_method_1_code 1 = .ok (.invokespecial 1, 3) := by decide +kernel
theorem own_d_jdk_22_method_1_code_4 : decode jdk_22_method_1_code 4 = .ok (.return_, 1) := by decide +kernel
theorem own_pn_AbstractList : plainName "java/util/AbstractList" = true := by first | (simp [plainName, overriddenIn]; done) | decide +kernel
theorem own_d_jdk_39_method_1_code_0 : decode jdk_39_method_1_code 0 = .ok (.aload_n 0, 1) := by decide +kernel
theorem own_d_jdk_39_method_1_code_1 : decode jdk_39_method_1_code 1 = .ok (.invokespecial 1, 3) := by decide +kernel
theorem own_pd___V : parseMethodDescriptor "()V" = some ⟨[], none⟩ := by decide +kernel
theorem own_d_jdk_39_method_1_code_4 : decode jdk_39_method_1_code 4 = .ok (.aload_n 0, 1) := by decide +kernel
theorem own_d_jdk_39_method_1_code_5 : decode jdk_39_method_1_code 5 = .ok (.iconst 0, 1) := by decide +kernel
theorem own_d_jdk_39_method_1_code_6 : decode jdk_39_method_1_code 6 = .ok (.putfield 7, 3) := by decide +kernel
theorem own_d_jdk_39_method_1_code_9 : decode jdk_39_method_1_code 9 = .ok (.return_, 1) := by decide +kernel
theorem own_pn_ArrayList : plainName "java/util/ArrayList" = true := by first | (simp [plainName, overriddenIn]; done) | decide +kernel
theorem own_d_jdk_38_method_2_code_0 : decode jdk_38_method_2_code 0 = .ok (.aload_n 0, 1) := by decide +kernel
theorem own_d_jdk_38_method_2_code_1 : decode jdk_38_method_2_code 1 = .ok (.invokespecial 1, 3) := by decide +kernel
theorem own_d_jdk_38_method_2_code_4 : decode jdk_38_method_2_code 4 = .ok (.aload_n 0, 1) := by decide +kernel
theorem own_d_jdk_38_method_2_code_5 : decode jdk_38_method_2_code 5 = .ok (.getstatic 39, 3) := by decide +kernel
theorem own_d_jdk_38_method_2_code_8 : decode jdk_38_method_2_code 8 = .ok (.putfield 9, 3) := by decide +kernel
theorem own_d_jdk_38_method_2_code_11 : decode jdk_38_method_2_code 11 = .ok (.return_, 1) := by decide +kernel
theorem own_d_jdk_29_method_65_code_0 : decode jdk_29_method_65_code 0 = .ok (.iload_n 0, 1) := by decide +kernel
theorem own_d_jdk_29_method_65_code_1 : decode jdk_29_method_65_code 1 = .ok (.iload_n 1, 1) := by decide +kernel
theorem own_d_jdk_29_method_65_code_2 : decode jdk_29_method_65_code 2 = .ok (.if_icmp .lt 7, 3) := by decide +kernel
theorem own_d_jdk_29_method_65_code_9 : decode jdk_29_method_65_code 9 = .ok (.iload_n 1, 1) := by decide +kernel
theorem own_d_jdk_29_method_65_code_10 : decode jdk_29_method_65_code 10 = .ok (.ireturn, 1) := by decide +kernel
theorem own_d_jdk_29_method_65_code_5 : decode jdk_29_method_65_code 5 = .ok (.iload_n 0, 1) := by decide +kernel
theorem own_d_jdk_29_method_65_code_6 : decode jdk_29_method_65_code 6 = .ok (.goto 4, 3) := by decide +kernel
theorem own_d_jdk_38_method_6_code_0 : decode jdk_38_method_6_code 0 = .ok (.aload_n 0, 1) := by decide +kernel
theorem own_d_jdk_38_method_6_code_1 : decode jdk_38_method_6_code 1 = .ok (.getfield 9, 3) := by decide +kernel
theorem own_d_jdk_38_method_6_code_4 : decode jdk_38_method_6_code 4 = .ok (.arraylength, 1) := by decide +kernel
theorem own_d_jdk_38_method_6_code_5 : decode jdk_38_method_6_code 5 = .ok (.istore_n 2, 1) := by decide +kernel
theorem own_d_jdk_38_method_6_code_6 : decode jdk_38_method_6_code 6 = .ok (.iload_n 2, 1) := by decide +kernel
theorem own_d_jdk_38_method_6_code_7 : decode jdk_38_method_6_code 7 = .ok (.ifCond .gt 13, 3) := by decide +kernel
theorem own_d_jdk_38_method_6_code_10 : decode jdk_38_method_6_code 10 = .ok (.aload_n 0, 1) := by decide +kernel
theorem own_d_jdk_38_method_6_code_11 : decode jdk_38_method_6_code 11 = .ok (.getfield 9, 3) := by decide +kernel
theorem own_d_jdk_38_method_6_code_14 : decode jdk_38_method_6_code 14 = .ok (.getstatic 39, 3) := by decide +kernel
theorem own_d_jdk_38_method_6_code_17 : decode jdk_38_method_6_code 17 = .ok (.if_acmp .eq 28, 3) := by decide +kernel
theorem own_d_jdk_38_method_6_code_45 : decode jdk_38_method_6_code 45 = .ok (.aload_n 0, 1) := by decide +kernel
theorem own_d_jdk_38_method_6_code_46 : decode jdk_38_method_6_code 46 = .ok (.bipush 10, 2) := by decide +kernel
theorem own_d_jdk_38_method_6_code_48 : decode jdk_38_method_6_code 48 = .ok (.iload_n 1, 1) := by decide +kernel
theorem own_d_jdk_38_method_6_code_49 : decode jdk_38_method_6_code 49 = .ok (.invokestatic 79, 3) := by decide +kernel
theorem own_pd__II_I : parseMethodDescriptor "(II)I" = some ⟨[.int, .int], some .int⟩ := by decide +kernel
theorem own_d_jdk_38_method_6_code_52 : decode jdk_38_method_6_code 52 = .ok (.anewarray 7, 3) := by decide +kernel
theorem own_d_jdk_38_method_6_code_55 : decode jdk_38_method_6_code 55 = .ok (.dup_x1, 1) := by decide +kernel
theorem own_d_jdk_38_method_6_code_56 : decode jdk_38_method_6_code 56 = .ok (.putfield 9, 3) := by decide +kernel
theorem own_d_jdk_38_method_6_code_59 : decode jdk_38_method_6_code 59 = .ok (.areturn, 1) := by decide +kernel
theorem own_d_jdk_38_method_7_code_0 : decode jdk_38_method_7_code 0 = .ok (.aload_n 0, 1) := by decide +kernel
theorem own_d_jdk_38_method_7_code_1 : decode jdk_38_method_7_code 1 = .ok (.aload_n 0, 1) := by decide +kernel
theorem own_d_jdk_38_method_7_code_2 : decode jdk_38_method_7_code 2 = .ok (.getfield 48, 3) := by decide +kernel
theorem own_d_jdk_38_method_7_code_5 : decode jdk_38_method_7_code 5 = .ok (.iconst 1, 1) := by decide +kernel
theorem own_d_jdk_38_method_7_code_6 : decode jdk_38_method_7_code 6 = .ok (.iadd, 1) := by decide +kernel
theorem own_d_jdk_38_method_7_code_7 : decode jdk_38_method_7_code 7 = .ok (.invokevirtual 69, 3) := by decide +kernel
theorem own_pd__I__Ljava_lang_Object_ : parseMethodDescriptor "(I)[Ljava/lang/Object;" = some ⟨[.int], some (.array (.object "java/lang/Object"))⟩ := by decide +kernel
theorem own_d_jdk_38_method_7_code_10 : decode jdk_38_method_7_code 10 = .ok (.areturn, 1) := by decide +kernel
theorem own_d_jdk_38_method_24_code_0 : decode jdk_38_method_24_code 0 = .ok (.iload_n 3, 1) := by decide +kernel
theorem own_d_jdk_38_method_24_code_1 : decode jdk_38_method_24_code 1 = .ok (.aload_n 2, 1) := by decide +kernel
theorem own_d_jdk_38_method_24_code_2 : decode jdk_38_method_24_code 2 = .ok (.arraylength, 1) := by decide +kernel
theorem own_d_jdk_38_method_24_code_3 : decode jdk_38_method_24_code 3 = .ok (.if_icmp .ne 8, 3) := by decide +kernel
theorem own_d_jdk_38_method_24_code_6 : decode jdk_38_method_24_code 6 = .ok (.aload_n 0, 1) := by decide +kernel
theorem own_d_jdk_38_method_24_code_7 : decode jdk_38_method_24_code 7 = .ok (.invokevirtual 129, 3) := by decide +kernel
theorem own_pd____Ljava_lang_Object_ : parseMethodDescriptor "()[Ljava/lang/Object;" = some ⟨[], some (.array (.object "java/lang/Object"))⟩ := by decide +kernel
theorem own_d_jdk_38_method_24_code_10 : decode jdk_38_method_24_code 10 = .ok (.astore_n 2, 1) := by decide +kernel
theorem own_d_jdk_38_method_24_code_11 : decode jdk_38_method_24_code 11 = .ok (.aload_n 2, 1) := by decide +kernel
theorem own_d_jdk_38_method_24_code_12 : decode jdk_38_method_24_code 12 = .ok (.iload_n 3, 1) := by decide +kernel
theorem own_d_jdk_38_method_24_code_13 : decode jdk_38_method_24_code 13 = .ok (.aload_n 1, 1) := by decide +kernel
theorem own_d_jdk_38_method_24_code_14 : decode jdk_38_method_24_code 14 = .ok (.aastore, 1) := by decide +kernel
theorem own_d_jdk_38_method_24_code_15 : decode jdk_38_method_24_code 15 = .ok (.aload_n 0, 1) := by decide +kernel
theorem own_d_jdk_38_method_24_code_16 : decode jdk_38_method_24_code 16 = .ok (.iload_n 3, 1) := by decide +kernel
theorem own_d_jdk_38_method_24_code_17 : decode jdk_38_method_24_code 17 = .ok (.iconst 1, 1) := by decide +kernel
theorem own_d_jdk_38_method_24_code_18 : decode jdk_38_method_24_code 18 = .ok (.iadd, 1) := by decide +kernel
theorem own_d_jdk_38_method_24_code_19 : decode jdk_38_method_24_code 19 = .ok (.putfield 48, 3) := by decide +kernel
theorem own_d_jdk_38_method_24_code_22 : decode jdk_38_method_24_code 22 = .ok (.return_, 1) := by decide +kernel
theorem own_d_jdk_38_method_25_code_0 : decode jdk_38_method_25_code 0 = .ok (.aload_n 0, 1) := by decide +kernel
theorem own_d_jdk_38_method_25_code_1 : decode jdk_38_method_25_code 1 = .ok (.dup, 1) := by decide +kernel
theorem own_d_jdk_38_method_25_code_2 : decode jdk_38_method_25_code 2 = .ok (.getfield 63, 3) := by decide +kernel
theorem own_d_jdk_38_method_25_code_5 : decode jdk_38_method_25_code 5 = .ok (.iconst 1, 1) := by decide +kernel
theorem own_d_jdk_38_method_25_code_6 : decode jdk_38_method_25_code 6 = .ok (.iadd, 1) := by decide +kernel
theorem own_d_jdk_38_method_25_code_7 : decode jdk_38_method_25_code 7 = .ok (.putfield 63, 3) := by decide +kernel
theorem own_d_jdk_38_method_25_code_10 : decode jdk_38_method_25_code 10 = .ok (.aload_n 0, 1) := by decide +kernel
theorem own_d_jdk_38_method_25_code_11 : decode jdk_38_method_25_code 11 = .ok (.aload_n 1, 1) := by decide +kernel
theorem own_d_jdk_38_method_25_code_12 : decode jdk_38_method_25_code 12 = .ok (.aload_n 0, 1) := by decide +kernel
theorem own_d_jdk_38_method_25_code_13 : decode jdk_38_method_25_code 13 = .ok (.getfield 9, 3) := by decide +kernel
theorem own_d_jdk_38_method_25_code_16 : decode jdk_38_method_25_code 16 = .ok (.aload_n 0, 1) := by decide +kernel
theorem own_d_jdk_38_method_25_code_17 : decode jdk_38_method_25_code 17 = .ok (.getfield 48, 3) := by decide +kernel
theorem own_d_jdk_38_method_25_code_20 : decode jdk_38_method_25_code 20 = .ok (.invokevirtual 131, 3) := by decide +kernel
theorem own_pd__Ljava_lang_Object__Ljava_lang_Object_I_V : parseMethodDescriptor "(Ljava/lang/Object;[Ljava/lang/Object;I)V" = some ⟨[(.object "java/lang/Object"), (.array (.object "java/lang/Object")), .int], none⟩ := by decide +kernel
theorem own_d_jdk_38_method_25_code_23 : decode jdk_38_method_25_code 23 = .ok (.iconst 1, 1) := by decide +kernel
theorem own_d_jdk_38_method_25_code_24 : decode jdk_38_method_25_code 24 = .ok (.ireturn, 1) := by decide +kernel
theorem own_d_jdk_38_method_8_code_0 : decode jdk_38_method_8_code 0 = .ok (.aload_n 0, 1) := by decide +kernel
theorem own_d_jdk_38_method_8_code_1 : decode jdk_38_method_8_code 1 = .ok (.getfield 48, 3) := by decide +kernel
theorem own_d_jdk_38_method_8_code_4 : decode jdk_38_method_8_code 4 = .ok (.ireturn, 1) := by decide +kernel
theorem own_pn_Preconditions : plainName "jdk/internal/util/Preconditions" = true := by first | (simp [plainName, overriddenIn]; done) | decide +kernel
theorem own_d_jdk_41_method_11_code_0 : decode jdk_41_method_11_code 0 = .ok (.iload_n 0, 1) := by decide +kernel
theorem own_d_jdk_41_method_11_code_1 : decode jdk_41_method_11_code 1 = .ok (.ifCond .lt 8, 3) := by decide +kernel
theorem own_d_jdk_41_method_11_code_4 : decode jdk_41_method_11_code 4 = .ok (.iload_n 0, 1) := by decide +kernel
theorem own_d_jdk_41_method_11_code_5 : decode jdk_41_method_11_code 5 = .ok (.iload_n 1, 1) := by decide +kernel
theorem own_d_jdk_41_method_11_code_6 : decode jdk_41_method_11_code 6 = .ok (.if_icmp .lt 10, 3) := by decide +kernel
theorem own_d_jdk_41_method_11_code_16 : decode jdk_41_method_11_code 16 = .ok (.iload_n 0, 1) := by decide +kernel
theorem own_d_jdk_41_method_11_code_17 : decode jdk_41_method_11_code 17 = .ok (.ireturn, 1) := by decide +kernel
theorem own_pn_Objects : plainName "java/util/Objects" = true := by first | (simp [plainName, overriddenIn]; done) | decide +kernel
theorem own_d_jdk_31_method_17_code_0 : decode jdk_31_method_17_code 0 = .ok (.iload_n 0, 1) := by decide +kernel
theorem own_d_jdk_31_method_17_code_1 : decode jdk_31_method_17_code 1 = .ok (.iload_n 1, 1) := by decide +kernel
theorem own_d_jdk_31_method_17_code_2 : decode jdk_31_method_17_code 2 = .ok (.aconst_null, 1) := by decide +kernel
theorem own_d_jdk_31_method_17_code_3 : decode jdk_31_method_17_code 3 = .ok (.invokestatic 105, 3) := by decide +kernel
theorem own_pd__IILjava_util_function_BiFunction__I : parseMethodDescriptor "(IILjava/util/function/BiFunction;)I" = some ⟨[.int, .int, (.object "java/util/function/BiFunction")], some .int⟩ := by decide +kernel
theorem own_d_jdk_31_method_17_code_6 : decode jdk_31_method_17_code 6 = .ok (.ireturn, 1) := by decide +kernel
theorem own_pn_Request : plainName "com/example/kinegrid/kinegrid/server/Request" = true := by first | (simp [plainName, overriddenIn]; done) | decide +kernel
theorem own_d_prog_81_method_1_code_0 : decode prog_81_method_1_code 0 = .ok (.aload_n 0, 1) := by decide +kernel
theorem own_d_prog_81_method_1_code_1 : decode prog_81_method_1_code 1 = .ok (.invokespecial 1, 3) := by decide +kernel
theorem own_d_prog_81_method_1_code_4 : decode prog_81_method_1_code 4 = .ok (.return_, 1) := by decide +kernel
theorem own_pn_ArrayList_Itr : plainName "java/util/ArrayList$Itr" = true := by first | (simp [plainName, overriddenIn]; done) | decide +kernel
theorem own_d_jdk_49_method_1_code_0 : decode jdk_49_method_1_code 0 = .ok (.aload_n 0, 1) := by decide +kernel
theorem own_d_jdk_49_method_1_code_1 : decode jdk_49_method_1_code 1 = .ok (.aload_n 1, 1) := by decide +kernel
theorem own_d_jdk_49_method_1_code_2 : decode jdk_49_method_1_code 2 = .ok (.putfield 1, 3) := by decide +kernel
theorem own_d_jdk_49_method_1_code_5 : decode jdk_49_method_1_code 5 = .ok (.aload_n 0, 1) := by decide +kernel
theorem own_d_jdk_49_method_1_code_6 : decode jdk_49_method_1_code 6 = .ok (.invokespecial 7, 3) := by decide +kernel
theorem own_d_jdk_49_method_1_code_9 : decode jdk_49_method_1_code 9 = .ok (.aload_n 0, 1) := by decide +kernel
theorem own_d_jdk_49_method_1_code_10 : decode jdk_49_method_1_code 10 = .ok (.iconst (-1), 1) := by decide +kernel
theorem own_d_jdk_49_method_1_code_11 : decode jdk_49_method_1_code 11 = .ok (.putfield 13, 3) := by decide +kernel
theorem own_d_jdk_49_method_1_code_14 : decode jdk_49_method_1_code 14 = .ok (.aload_n 0, 1) := by decide +kernel
theorem own_d_jdk_49_method_1_code_15 : decode jdk_49_method_1_code 15 = .ok (.aload_n 0, 1) := by decide +kernel
theorem own_d_jdk_49_method_1_code_16 : decode jdk_49_method_1_code 16 = .ok (.getfield 1, 3) := by decide +kernel
theorem own_d_jdk_49_method_1_code_19 : decode jdk_49_method_1_code 19 = .ok (.getfield 17, 3) := by decide +kernel
theorem own_d_jdk_49_method_1_code_22 : decode jdk_49_method_1_code 22 = .ok (.putfield 22, 3) := by decide +kernel
theorem own_d_jdk_49_method_1_code_25 : decode jdk_49_method_1_code 25 = .ok (.return_, 1) := by decide +kernel
theorem own_d_jdk_38_method_55_code_0 : decode jdk_38_method_55_code 0 = .ok (.new 267, 3) := by decide +kernel
theorem own_d_jdk_38_method_55_code_3 : decode jdk_38_method_55_code 3 = .ok (.dup, 1) := by decide +kernel
theorem own_d_jdk_38_method_55_code_4 : decode jdk_38_method_55_code 4 = .ok (.aload_n 0, 1) := by decide +kernel
theorem own_d_jdk_38_method_55_code_5 : decode jdk_38_method_55_code 5 = .ok (.invokespecial 269, 3) := by decide +kernel
theorem own_pd__Ljava_util_ArrayList__V : parseMethodDescriptor "(Ljava/util/ArrayList;)V" = some ⟨[(.object "java/util/ArrayList")], none⟩ := by decide +kernel
theorem own_d_jdk_38_method_55_code_8 : decode jdk_38_method_55_code 8 = .ok (.areturn, 1) := by decide +kernel
theorem own_d_jdk_49_method_2_code_0 : decode jdk_49_method_2_code 0 = .ok (.aload_n 0, 1) := by decide +kernel
theorem own_d_jdk_49_method_2_code_1 : decode jdk_49_method_2_code 1 = .ok (.getfield 25, 3) := by decide +kernel
theorem own_d_jdk_49_method_2_code_4 : decode jdk_49_method_2_code 4 = .ok (.aload_n 0, 1) := by decide +kernel
theorem own_d_jdk_49_method_2_code_5 : decode jdk_49_method_2_code 5 = .ok (.getfield 1, 3) := by decide +kernel
theorem own_d_jdk_49_method_2_code_8 : decode jdk_49_method_2_code 8 = .ok (.getfield 28, 3) := by decide +kernel
theorem own_d_jdk_49_method_2_code_11 : decode jdk_49_method_2_code 11 = .ok (.if_icmp .eq 7, 3) := by decide +kernel
theorem own_d_jdk_49_method_2_code_18 : decode jdk_49_method_2_code 18 = .ok (.iconst 0, 1) := by decide +kernel
theorem own_d_jdk_49_method_2_code_19 : decode jdk_49_method_2_code 19 = .ok (.ireturn, 1) := by decide +kernel
theorem own_d_jdk_49_method_2_code_14 : decode jdk_49_method_2_code 14 = .ok (.iconst 1, 1) := by decide +kernel
theorem own_d_jdk_49_method_2_code_15 : decode jdk_49_method_2_code 15 = .ok (.goto 4, 3) := by decide +kernel
theorem own_d_jdk_49_method_6_code_0 : decode jdk_49_method_6_code 0 = .ok (.aload_n 0, 1) := by decide +kernel
theorem own_d_jdk_49_method_6_code_1 : decode jdk_49_method_6_code 1 = .ok (.getfield 1, 3) := by decide +kernel
theorem own_d_jdk_49_method_6_code_4 : decode jdk_49_method_6_code 4 = .ok (.getfield 17, 3) := by decide +kernel
theorem own_d_jdk_49_method_6_code_7 : decode jdk_49_method_6_code 7 = .ok (.aload_n 0, 1) := by decide +kernel
theorem own_d_jdk_49_method_6_code_8 : decode jdk_49_method_6_code 8 = .ok (.getfield 22, 3) := by decide +kernel
theorem own_d_jdk_49_method_6_code_11 : decode jdk_49_method_6_code 11 = .ok (.if_icmp .eq 11, 3) := by decide +kernel
theorem own_d_jdk_49_method_6_code_22 : decode jdk_49_method_6_code 22 = .ok (.return_, 1) := by decide +kernel
theorem own_d_jdk_49_method_3_code_0 : decode jdk_49_method_3_code 0 = .ok (.aload_n 0, 1) := by decide +kernel
theorem own_d_jdk_49_method_3_code_1 : decode jdk_49_method_3_code 1 = .ok (.invokevirtual 31, 3) := by decide +kernel
theorem own_d_jdk_49_method_3_code_4 : decode jdk_49_method_3_code 4 = .ok (.aload_n 0, 1) := by decide +kernel
theorem own_d_jdk_49_method_3_code_5 : decode jdk_49_method_3_code 5 = .ok (.getfield 25, 3) := by decide +kernel
theorem own_d_jdk_49_method_3_code_8 : decode jdk_49_method_3_code 8 = .ok (.istore_n 1, 1) := by decide +kernel
theorem own_d_jdk_49_method_3_code_9 : decode jdk_49_method_3_code 9 = .ok (.iload_n 1, 1) := by decide +kernel
theorem own_d_jdk_49_method_3_code_10 : decode jdk_49_method_3_code 10 = .ok (.aload_n 0, 1) := by decide +kernel
theorem own_d_jdk_49_method_3_code_11 : decode jdk_49_method_3_code 11 = .ok (.getfield 1, 3) := by decide +kernel
theorem own_d_jdk_49_method_3_code_14 : decode jdk_49_method_3_code 14 = .ok (.getfield 28, 3) := by decide +kernel
theorem own_d_jdk_49_method_3_code_17 : decode jdk_49_method_3_code 17 = .ok (.if_icmp .lt 11, 3) := by decide +kernel
theorem own_d_jdk_49_method_3_code_28 : decode jdk_49_method_3_code 28 = .ok (.aload_n 0, 1) := by decide +kernel
theorem own_d_jdk_49_method_3_code_29 : decode jdk_49_method_3_code 29 = .ok (.getfield 1, 3) := by decide +kernel
theorem own_d_jdk_49_method_3_code_32 : decode jdk_49_method_3_code 32 = .ok (.getfield 37, 3) := by decide +kernel
theorem own_d_jdk_49_method_3_code_35 : decode jdk_49_method_3_code 35 = .ok (.astore_n 2, 1) := by decide +kernel
theorem own_d_jdk_49_method_3_code_36 : decode jdk_49_method_3_code 36 = .ok (.iload_n 1, 1) := by decide +kernel
theorem own_d_jdk_49_method_3_code_37 : decode jdk_49_method_3_code 37 = .ok (.aload_n 2, 1) := by decide +kernel
theorem own_d_jdk_49_method_3_code_38 : decode jdk_49_method_3_code 38 = .ok (.arraylength, 1) := by decide +kernel
theorem own_d_jdk_49_method_3_code_39 : decode jdk_49_method_3_code 39 = .ok (.if_icmp .lt 11, 3) := by decide +kernel
theorem own_d_jdk_49_method_3_code_50 : decode jdk_49_method_3_code 50 = .ok (.aload_n 0, 1) := by decide +kernel
theorem own_d_jdk_49_method_3_code_51 : decode jdk_49_method_3_code 51 = .ok (.iload_n 1, 1) := by decide +kernel
theorem own_d_jdk_49_method_3_code_52 : decode jdk_49_method_3_code 52 = .ok (.iconst 1, 1) := by decide +kernel
theorem own_d_jdk_49_method_3_code_53 : decode jdk_49_method_3_code 53 = .ok (.iadd, 1) := by decide +kernel
theorem own_d_jdk_49_method_3_code_54 : decode jdk_49_method_3_code 54 = .ok (.putfield 25, 3) := by decide +kernel
theorem own_d_jdk_49_method_3_code_57 : decode jdk_49_method_3_code 57 = .ok (.aload_n 2, 1) := by decide +kernel
theorem own_d_jdk_49_method_3_code_58 : decode jdk_49_method_3_code 58 = .ok (.aload_n 0, 1) := by decide +kernel
theorem own_d_jdk_49_method_3_code_59 : decode jdk_49_method_3_code 59 = .ok (.iload_n 1, 1) := by decide +kernel
theorem own_d_jdk_49_method_3_code_60 : decode jdk_49_method_3_code 60 = .ok (.dup_x1, 1) := by decide +kernel
theorem own_d_jdk_49_method_3_code_61 : decode jdk_49_method_3_code 61 = .ok (.putfield 13, 3) := by decide +kernel
theorem own_d_jdk_49_method_3_code_64 : decode jdk_49_method_3_code 64 = .ok (.aaload, 1) := by decide +kernel
theorem own_d_jdk_49_method_3_code_65 : decode jdk_49_method_3_code 65 = .ok (.areturn, 1) := by decide +kernel
theorem own_d_prog_81_method_2_code_0 : decode prog_81_method_2_code 0 = .ok (.new 7, 3) := by decide +kernel
theorem own_d_prog_81_method_2_code_3 : decode prog_81_method_2_code 3 = .ok (.dup, 1) := by decide +kernel
theorem own_d_prog_81_method_2_code_4 : decode prog_81_method_2_code 4 = .ok (.invokespecial 9, 3) := by decide +kernel
theorem own_d_prog_81_method_2_code_7 : decode prog_81_method_2_code 7 = .ok (.astore_n 1, 1) := by decide +kernel
theorem own_d_prog_81_method_2_code_8 : decode prog_81_method_2_code 8 = .ok (.aload_n 1, 1) := by decide +kernel
theorem own_d_prog_81_method_2_code_9 : decode prog_81_method_2_code 9 = .ok (.aload_n 0, 1) := by decide +kernel
theorem own_d_prog_81_method_2_code_10 : decode prog_81_method_2_code 10 = .ok (.putfield 10, 3) := by decide +kernel
theorem own_d_prog_81_method_2_code_13 : decode prog_81_method_2_code 13 = .ok (.aload_n 0, 1) := by decide +kernel
theorem own_d_prog_81_method_2_code_14 : decode prog_81_method_2_code 14 = .ok (.invokeinterface 14 1, 5) := by decide +kernel
theorem own_pd___Ljava_util_Iterator_ : parseMethodDescriptor "()Ljava/util/Iterator;" = some ⟨[], some (.object "java/util/Iterator")⟩ := by decide +kernel
theorem own_d_prog_81_method_2_code_19 : decode prog_81_method_2_code 19 = .ok (.astore_n 2, 1) := by decide +kernel
theorem own_d_prog_81_method_2_code_20 : decode prog_81_method_2_code 20 = .ok (.aload_n 2, 1) := by decide +kernel
theorem own_d_prog_81_method_2_code_21 : decode prog_81_method_2_code 21 = .ok (.invokeinterface 20 1, 5) := by decide +kernel
theorem own_pd___Z : parseMethodDescriptor "()Z" = some ⟨[], some .boolean⟩ := by decide +kernel
theorem own_d_prog_81_method_2_code_26 : decode prog_81_method_2_code 26 = .ok (.ifCond .eq 31, 3) := by decide +kernel
theorem own_d_prog_81_method_2_code_29 : decode prog_81_method_2_code 29 = .ok (.aload_n 2, 1) := by decide +kernel
theorem own_d_prog_81_method_2_code_30 : decode prog_81_method_2_code 30 = .ok (.invokeinterface 26 1, 5) := by decide +kernel
theorem own_pd___Ljava_lang_Object_ : parseMethodDescriptor "()Ljava/lang/Object;" = some ⟨[], some (.object "java/lang/Object")⟩ := by decide +kernel
theorem own_d_prog_81_method_2_code_35 : decode prog_81_method_2_code 35 = .ok (.checkcast 30, 3) := by decide +kernel
theorem own_d_prog_81_method_2_code_38 : decode prog_81_method_2_code 38 = .ok (.astore_n 3, 1) := by decide +kernel
theorem own_d_prog_81_method_2_code_39 : decode prog_81_method_2_code 39 = .ok (.aload_n 1, 1) := by decide +kernel
theorem own_d_prog_81_method_2_code_40 : decode prog_81_method_2_code 40 = .ok (.dup, 1) := by decide +kernel
theorem own_d_prog_81_method_2_code_41 : decode prog_81_method_2_code 41 = .ok (.getfield 32, 3) := by decide +kernel
theorem own_d_prog_81_method_2_code_44 : decode prog_81_method_2_code 44 = .ok (.aload_n 3, 1) := by decide +kernel
theorem own_d_prog_81_method_2_code_45 : decode prog_81_method_2_code 45 = .ok (.arraylength, 1) := by decide +kernel
theorem own_d_prog_81_method_2_code_46 : decode prog_81_method_2_code 46 = .ok (.bipush 24, 2) := by decide +kernel
theorem own_d_prog_81_method_2_code_48 : decode prog_81_method_2_code 48 = .ok (.iadd, 1) := by decide +kernel
theorem own_d_prog_81_method_2_code_49 : decode prog_81_method_2_code 49 = .ok (.i2l, 1) := by decide +kernel
theorem own_d_prog_81_method_2_code_50 : decode prog_81_method_2_code 50 = .ok (.ladd, 1) := by decide +kernel
theorem own_d_prog_81_method_2_code_51 : decode prog_81_method_2_code 51 = .ok (.putfield 32, 3) := by decide +kernel
theorem own_d_prog_81_method_2_code_54 : decode prog_81_method_2_code 54 = .ok (.goto (-34), 3) := by decide +kernel
theorem own_d_prog_81_method_2_code_57 : decode prog_81_method_2_code 57 = .ok (.aload_n 1, 1) := by decide +kernel
theorem own_d_prog_81_method_2_code_58 : decode prog_81_method_2_code 58 = .ok (.aload_n 0, 1) := by decide +kernel
theorem own_d_prog_81_method_2_code_59 : decode prog_81_method_2_code 59 = .ok (.invokeinterface 36 1, 5) := by decide +kernel
theorem own_pd___I : parseMethodDescriptor "()I" = some ⟨[], some .int⟩ := by decide +kernel
theorem own_d_prog_81_method_2_code_64 : decode prog_81_method_2_code 64 = .ok (.putfield 40, 3) := by decide +kernel
theorem own_d_prog_81_method_2_code_67 : decode prog_81_method_2_code 67 = .ok (.aload_n 1, 1) := by decide +kernel
theorem own_d_prog_81_method_2_code_68 : decode prog_81_method_2_code 68 = .ok (.areturn, 1) := by decide +kernel
theorem own_d_prog_81_method_3_code_0 : decode prog_81_method_3_code 0 = .ok (.aload_n 0, 1) := by decide +kernel
theorem own_d_prog_81_method_3_code_1 : decode prog_81_method_3_code 1 = .ok (.getfield 43, 3) := by decide +kernel
theorem own_d_prog_81_method_3_code_4 : decode prog_81_method_3_code 4 = .ok (.aload_n 1, 1) := by decide +kernel
theorem own_d_prog_81_method_3_code_5 : decode prog_81_method_3_code 5 = .ok (.if_acmp .eq 8, 3) := by decide +kernel
theorem own_d_prog_81_method_3_code_13 : decode prog_81_method_3_code 13 = .ok (.aload_n 0, 1) := by decide +kernel
theorem own_d_prog_81_method_3_code_14 : decode prog_81_method_3_code 14 = .ok (.getfield 46, 3) := by decide +kernel
theorem own_d_prog_81_method_3_code_17 : decode prog_81_method_3_code 17 = .ok (.aload_n 2, 1) := by decide +kernel
theorem own_d_prog_81_method_3_code_18 : decode prog_81_method_3_code 18 = .ok (.if_acmp .eq 8, 3) := by decide +kernel
theorem own_d_prog_81_method_3_code_26 : decode prog_81_method_3_code 26 = .ok (.aload_n 0, 1) := by decide +kernel
theorem own_d_prog_81_method_3_code_27 : decode prog_81_method_3_code 27 = .ok (.getfield 10, 3) := by decide +kernel
theorem own_d_prog_81_method_3_code_30 : decode prog_81_method_3_code 30 = .ok (.ifnull 8, 3) := by decide +kernel
theorem own_d_prog_81_method_3_code_38 : decode prog_81_method_3_code 38 = .ok (.aload_n 0, 1) := by decide +kernel
theorem own_d_prog_81_method_3_code_39 : decode prog_81_method_3_code 39 = .ok (.iload_n 3, 1) := by decide +kernel
theorem own_d_prog_81_method_3_code_40 : decode prog_81_method_3_code 40 = .ok (.putfield 50, 3) := by decide +kernel
theorem own_d_prog_81_method_3_code_43 : decode prog_81_method_3_code 43 = .ok (.aload_n 0, 1) := by decide +kernel
theorem own_d_prog_81_method_3_code_44 : decode prog_81_method_3_code 44 = .ok (.iload 4, 2) := by decide +kernel
theorem own_d_prog_81_method_3_code_46 : decode prog_81_method_3_code 46 = .ok (.putfield 40, 3) := by decide +kernel
theorem own_d_prog_81_method_3_code_49 : decode prog_81_method_3_code 49 = .ok (.return_, 1) := by decide +kernel
theorem own_d_prog_81_method_3_code_33 : decode prog_81_method_3_code 33 = .ok (.aload_n 0, 1) := by decide +kernel
theorem own_d_prog_81_method_3_code_34 : decode prog_81_method_3_code 34 = .ok (.aconst_null, 1) := by decide +kernel
theorem own_d_prog_81_method_3_code_35 : decode prog_81_method_3_code 35 = .ok (.putfield 10, 3) := by decide +kernel
theorem own_d_prog_81_method_3_code_21 : decode prog_81_method_3_code 21 = .ok (.aload_n 0, 1) := by decide +kernel
theorem own_d_prog_81_method_3_code_22 : decode prog_81_method_3_code 22 = .ok (.aload_n 2, 1) := by decide +kernel
theorem own_d_prog_81_method_3_code_23 : decode prog_81_method_3_code 23 = .ok (.putfield 46, 3) := by decide +kernel
theorem own_d_prog_81_method_3_code_8 : decode prog_81_method_3_code 8 = .ok (.aload_n 0, 1) := by decide +kernel
theorem own_d_prog_81_method_3_code_9 : decode prog_81_method_3_code 9 = .ok (.aload_n 1, 1) := by decide +kernel
theorem own_d_prog_81_method_3_code_10 : decode prog_81_method_3_code 10 = .ok (.putfield 43, 3) := by decide +kernel
theorem own_d_prog_81_method_8_code_0 : decode prog_81_method_8_code 0 = .ok (.aload_n 0, 1) := by decide +kernel
theorem own_d_prog_81_method_8_code_1 : decode prog_81_method_8_code 1 = .ok (.getfield 40, 3) := by decide +kernel
theorem own_d_prog_81_method_8_code_4 : decode prog_81_method_8_code 4 = .ok (.ireturn, 1) := by decide +kernel
theorem own_d_prog_81_method_7_code_0 : decode prog_81_method_7_code 0 = .ok (.aload_n 0, 1) := by decide +kernel
theorem own_d_prog_81_method_7_code_1 : decode prog_81_method_7_code 1 = .ok (.getfield 10, 3) := by decide +kernel
theorem own_d_prog_81_method_7_code_4 : decode prog_81_method_7_code 4 = .ok (.ifnonnull 7, 3) := by decide +kernel
theorem own_d_prog_81_method_7_code_7 : decode prog_81_method_7_code 7 = .ok (.lconst 0, 1) := by decide +kernel
theorem own_d_prog_81_method_7_code_8 : decode prog_81_method_7_code 8 = .ok (.goto 7, 3) := by decide +kernel
theorem own_d_prog_81_method_7_code_15 : decode prog_81_method_7_code 15 = .ok (.lreturn, 1) := by decide +kernel
theorem own_d_prog_81_method_11_code_0 : decode prog_81_method_11_code 0 = .ok (.aload_n 0, 1) := by decide +kernel
theorem own_d_prog_81_method_11_code_1 : decode prog_81_method_11_code 1 = .ok (.getfield 10, 3) := by decide +kernel
theorem own_d_prog_81_method_11_code_4 : decode prog_81_method_11_code 4 = .ok (.ifnonnull 10, 3) := by decide +kernel
theorem own_d_prog_81_method_11_code_7 : decode prog_81_method_11_code 7 = .ok (.aload_n 0, 1) := by decide +kernel
theorem own_d_prog_81_method_11_code_8 : decode prog_81_method_11_code 8 = .ok (.getfield 43, 3) := by decide +kernel
theorem own_d_prog_81_method_11_code_11 : decode prog_81_method_11_code 11 = .ok (.goto 16, 3) := by decide +kernel
theorem own_d_prog_81_method_11_code_27 : decode prog_81_method_11_code 27 = .ok (.areturn, 1) := by decide +kernel
theorem own_d_prog_81_method_12_code_0 : decode prog_81_method_12_code 0 = .ok (.iload_n 1, 1) := by decide +kernel
theorem own_d_prog_81_method_12_code_1 : decode prog_81_method_12_code 1 = .ok (.aload_n 0, 1) := by decide +kernel
theorem own_d_prog_81_method_12_code_2 : decode prog_81_method_12_code 2 = .ok (.getfield 40, 3) := by decide +kernel
theorem own_d_prog_81_method_12_code_5 : decode prog_81_method_12_code 5 = .ok (.invokestatic 74, 3) := by decide +kernel
theorem own_d_prog_81_method_12_code_8 : decode prog_81_method_12_code 8 = .ok (.istore_n 2, 1) := by decide +kernel
theorem own_d_prog_81_method_12_code_9 : decode prog_81_method_12_code 9 = .ok (.aload_n 0, 1) := by decide +kernel
theorem own_d_prog_81_method_12_code_10 : decode prog_81_method_12_code 10 = .ok (.getfield 10, 3) := by decide +kernel
theorem own_d_prog_81_method_12_code_13 : decode prog_81_method_12_code 13 = .ok (.ifnonnull 19, 3) := by decide +kernel
theorem own_d_prog_81_method_12_code_16 : decode prog_81_method_12_code 16 = .ok (.aload_n 0, 1) := by decide +kernel
theorem own_d_prog_81_method_12_code_17 : decode prog_81_method_12_code 17 = .ok (.getfield 46, 3) := by decide +kernel
theorem own_d_prog_81_method_12_code_20 : decode prog_81_method_12_code 20 = .ok (.aload_n 0, 1) := by decide +kernel
theorem own_d_prog_81_method_12_code_21 : decode prog_81_method_12_code 21 = .ok (.getfield 50, 3) := by decide +kernel
theorem own_d_prog_81_method_12_code_24 : decode prog_81_method_12_code 24 = .ok (.iconst 2, 1) := by decide +kernel
theorem own_d_prog_81_method_12_code_25 : decode prog_81_method_12_code 25 = .ok (.iload_n 2, 1) := by decide +kernel
theorem own_d_prog_81_method_12_code_26 : decode prog_81_method_12_code 26 = .ok (.imul, 1) := by decide +kernel
theorem own_d_prog_81_method_12_code_27 : decode prog_81_method_12_code 27 = .ok (.iadd, 1) := by decide +kernel
theorem own_d_prog_81_method_12_code_28 : decode prog_81_method_12_code 28 = .ok (.iaload, 1) := by decide +kernel
theorem own_d_prog_81_method_12_code_29 : decode prog_81_method_12_code 29 = .ok (.goto 4, 3) := by decide +kernel
theorem own_d_prog_81_method_12_code_33 : decode prog_81_method_12_code 33 = .ok (.ireturn, 1) := by decide +kernel
theorem own_d_prog_81_method_13_code_0 : decode prog_81_method_13_code 0 = .ok (.iload_n 1, 1) := by decide +kernel
theorem own_d_prog_81_method_13_code_1 : decode prog_81_method_13_code 1 = .ok (.aload_n 0, 1) := by decide +kernel
theorem own_d_prog_81_method_13_code_2 : decode prog_81_method_13_code 2 = .ok (.getfield 40, 3) := by decide +kernel
theorem own_d_prog_81_method_13_code_5 : decode prog_81_method_13_code 5 = .ok (.invokestatic 74, 3) := by decide +kernel
theorem own_d_prog_81_method_13_code_8 : decode prog_81_method_13_code 8 = .ok (.istore_n 2, 1) := by decide +kernel
theorem own_d_prog_81_method_13_code_9 : decode prog_81_method_13_code 9 = .ok (.aload_n 0, 1) := by decide +kernel
theorem own_d_prog_81_method_13_code_10 : decode prog_81_method_13_code 10 = .ok (.getfield 10, 3) := by decide +kernel
theorem own_d_prog_81_method_13_code_13 : decode prog_81_method_13_code 13 = .ok (.ifnonnull 21, 3) := by decide +kernel
theorem own_d_prog_81_method_13_code_16 : decode prog_81_method_13_code 16 = .ok (.aload_n 0, 1) := by decide +kernel
theorem own_d_prog_81_method_13_code_17 : decode prog_81_method_13_code 17 = .ok (.getfield 46, 3) := by decide +kernel
theorem own_d_prog_81_method_13_code_20 : decode prog_81_method_13_code 20 = .ok (.aload_n 0, 1) := by decide +kernel
theorem own_d_prog_81_method_13_code_21 : decode prog_81_method_13_code 21 = .ok (.getfield 50, 3) := by decide +kernel
theorem own_d_prog_81_method_13_code_24 : decode prog_81_method_13_code 24 = .ok (.iconst 2, 1) := by decide +kernel
theorem own_d_prog_81_method_13_code_25 : decode prog_81_method_13_code 25 = .ok (.iload_n 2, 1) := by decide +kernel
theorem own_d_prog_81_method_13_code_26 : decode prog_81_method_13_code 26 = .ok (.imul, 1) := by decide +kernel
theorem own_d_prog_81_method_13_code_27 : decode prog_81_method_13_code 27 = .ok (.iadd, 1) := by decide +kernel
theorem own_d_prog_81_method_13_code_28 : decode prog_81_method_13_code 28 = .ok (.iconst 1, 1) := by decide +kernel
theorem own_d_prog_81_method_13_code_29 : decode prog_81_method_13_code 29 = .ok (.iadd, 1) := by decide +kernel
theorem own_d_prog_81_method_13_code_30 : decode prog_81_method_13_code 30 = .ok (.iaload, 1) := by decide +kernel
theorem own_d_prog_81_method_13_code_31 : decode prog_81_method_13_code 31 = .ok (.goto 17, 3) := by decide +kernel
theorem own_d_prog_81_method_13_code_48 : decode prog_81_method_13_code 48 = .ok (.ireturn, 1) := by decide +kernel
theorem own_pn_RequestReadInPlacePinLaw : plainName "com/example/kinegrid/kinegrid/server/RequestReadInPlacePinLaw" = true := by first | (simp [plainName, overriddenIn]; done) | decide +kernel
theorem own_pd___B_III_V : parseMethodDescriptor "([B[III)V" = some ⟨[(.array .byte), (.array .int), .int, .int], none⟩ := by decide +kernel
theorem own_pd___J : parseMethodDescriptor "()J" = some ⟨[], some .long⟩ := by decide +kernel
theorem own_pd__I__B : parseMethodDescriptor "(I)[B" = some ⟨[.int], some (.array .byte)⟩ := by decide +kernel
theorem own_pd__I_I : parseMethodDescriptor "(I)I" = some ⟨[.int], some .int⟩ := by decide +kernel
theorem own_pd__Ljava_lang_Object__Z : parseMethodDescriptor "(Ljava/lang/Object;)Z" = some ⟨[(.object "java/lang/Object")], some .boolean⟩ := by decide +kernel
theorem own_pd__Ljava_util_List__Lcom_example_kinegrid_kinegrid_server_Request_ : parseMethodDescriptor "(Ljava/util/List;)Lcom/example/kinegrid/kinegrid/server/Request;" = some ⟨[(.object "java/util/List")], some (.object "com/example/kinegrid/kinegrid/server/Request")⟩ := by decide +kernel
set_option maxRecDepth 65536 in
set_option maxHeartbeats 40000000 in
theorem own_acinit (l : Launch) (Z : State) (a0 : Array Value) (hw : ∀ d ∈ tables_1, d.before a0 Z = true) (a1 : Addr) (h0 : Heap) (n0 : Nat)  :
    Ctr l Z (⟨"java/util/AbstractCollection", "<init>", "()V"⟩ : MethodName) jdk_22_method_1_code 1 none ({ frames := 1, cells := 0, slots := 0, locals := 12 } : Room) #[(.ref a1)] h0 n0 (fun v h => v = none ∧ h = h0) := by
  refine Ctr.of (plainFor_of_name own_pn_AbstractCollection) ?_
  intro p e s m below meth c C
  refine Go.frame (g' := mkF m 0 #[.val (.ref a1)] []) (by first | (simp [entryFrame, mkF, argsToLocals, Value.category]; done) | rfl) ?_
  refine OwnW.aloadN C (pc' := 1) own_d_jdk_22_method_1_code_0 rfl rfl rfl ?_
  refine OwnW.initO C (pc' := 4) (hw _ (List.mem_of_getElem? (i := 21) rfl)) (hw _ (List.mem_of_getElem? (i := 22) rfl)) (hw _ (List.mem_of_getElem? (i := 23) rfl)) rfl (by decide) (W := 0) (Nat.le_of_eq rfl) (by decide) own_d_jdk_22_method_1_code_1 rfl ?_
  exact OwnW.retV C rfl ⟨rfl, rfl⟩ (by decide) (by decide) own_d_jdk_22_method_1_code_4
set_option maxRecDepth 65536 in
set_option maxHeartbeats 40000000 in
theorem own_alinit (l : Launch) (Z : State) (a0 : Array Value) (hw : ∀ d ∈ tables_1, d.before a0 Z = true) (a1 : Addr) (h0 : Heap) (n0 : Nat) (X_a1 : Exa Z h0 a1 "java/util/ArrayList") (F_modCount_a1 : Fld Z h0 a1 "java/util/AbstractList" "modCount" "I" (.int 0)) (F_elementData_a1 : Fld Z h0 a1 "java/util/ArrayList" "elementData" "[Ljava/lang/Object;" .null) (F_size_a1 : Fld Z h0 a1 "java/util/ArrayList" "size" "I" (.int 0)) (g_a1 : n0 ≤ a1) :
    Ctr l Z (⟨"java/util/AbstractList", "<init>", "()V"⟩ : MethodName) jdk_39_method_1_code 1 none ({ frames := 2, cells := 0, slots := 0, locals := 24 } : Room) #[(.ref a1)] h0 n0 (fun v h => v = none ∧ Keep h0 h [a1] ∧ Fld Z h a1 "java/util/AbstractList" "modCount" "I" (.int 0) ∧ Fld Z h a1 "java/util/ArrayList" "elementData" "[Ljava/lang/Object;" .null ∧ Fld Z h a1 "java/util/ArrayList" "size" "I" (.int 0)) := by
  refine Ctr.of (plainFor_of_name own_pn_AbstractList) ?_
  intro p e s m below meth c C
  refine Go.frame (g' := mkF m 0 #[.val (.ref a1)] []) (by first | (simp [entryFrame, mkF, argsToLocals, Value.category]; done) | rfl) ?_
  have KH := Keep.refl h0 [a1]
  refine OwnW.aloadN C (pc' := 1) own_d_jdk_39_method_1_code_0 rfl rfl rfl ?_
  refine OwnW.callX C (pc' := 4) (y := (⟨"java/util/AbstractCollection", "<init>", "()V"⟩ : MethodName)) (W := 0) (argsL := []) (rest := []) rfl (hw _ (List.mem_of_getElem? (i := 15) rfl)) (hw _ (List.mem_of_getElem? (i := 16) rfl)) (hw _ (List.mem_of_getElem? (i := 19) rfl)) (hw _ (List.mem_of_getElem? (i := 20) rfl)) (by decide) (own_acinit l Z a0 hw a1 h0 n0) (K' := 0) (S' := 0) (by decide) (by decide) rfl own_pd___V rfl (Nat.le_of_eq rfl) rfl rfl (by decide) (by decide) rfl own_d_jdk_39_method_1_code_1 rfl (fun v h' hq => ?_)
  obtain ⟨rfl, hh⟩ := hq
  refine Go.at (st' := []) rfl ?_
  refine Go.heap hh ?_
  refine OwnW.aloadN C (pc' := 5) own_d_jdk_39_method_1_code_4 rfl rfl rfl ?_
  refine OwnW.iconst C (pc' := 6) own_d_jdk_39_method_1_code_5 rfl (z := 0) rfl ?_
  refine OwnW.putF C (pc' := 9) (host := "") (Or.inl (hw _ (List.mem_of_getElem? (i := 24) rfl))) Via.refl F_modCount_a1 X_a1 (Or.inl (hw _ (List.mem_of_getElem? (i := 25) rfl))) (hw _ (List.mem_of_getElem? (i := 4) rfl)) (ty := .int) (by decide) rfl rfl g_a1 own_d_jdk_39_method_1_code_6 rfl (fun h1 W1 => ?_)
  have KH := KH.wr W1 (Or.inl (List.mem_of_getElem? (i := 0) rfl))
  have X_a1 := X_a1.wr W1
  have F_modCount_a1 := F_modCount_a1.same W1
  have F_elementData_a1 := F_elementData_a1.other W1 (Or.inr (slot_ne (Or.inl (hw _ (List.mem_of_getElem? (i := 28) rfl))) (Or.inl (hw _ (List.mem_of_getElem? (i := 25) rfl))) (by decide) (t := (.array (.object "java/lang/Object"))) (t' := .int) (by decide) (by decide)))
  have F_size_a1 := F_size_a1.other W1 (Or.inr (slot_ne (Or.inl (hw _ (List.mem_of_getElem? (i := 37) rfl))) (Or.inl (hw _ (List.mem_of_getElem? (i := 25) rfl))) (by decide) (t := .int) (t' := .int) (by decide) (by decide)))
  exact OwnW.retV C rfl ⟨rfl, KH, F_modCount_a1, F_elementData_a1, F_size_a1⟩ (by decide) (by decide) own_d_jdk_39_method_1_code_9
set_option maxRecDepth 65536 in
set_option maxHeartbeats 40000000 in
theorem own_lstinit (l : Launch) (Z : State) (a0 : Array Value) (hw : ∀ d ∈ tables_1, d.before a0 Z = true) (a1 d1 : Addr) (h0 : Heap) (n0 : Nat) (X_a1 : Exa Z h0 a1 "java/util/ArrayList") (F_modCount_a1 : Fld Z h0 a1 "java/util/AbstractList" "modCount" "I" (.int 0)) (F_elementData_a1 : Fld Z h0 a1 "java/util/ArrayList" "elementData" "[Ljava/lang/Object;" .null) (F_size_a1 : Fld Z h0 a1 "java/util/ArrayList" "size" "I" (.int 0)) (g_a1 : n0 ≤ a1) (S_D : Sta Z h0 "java/util/ArrayList" "DEFAULTCAPACITY_EMPTY_ELEMENTDATA" "[Ljava/lang/Object;" (.ref d1)) :
    Ctr l Z (⟨"java/util/ArrayList", "<init>", "()V"⟩ : MethodName) jdk_38_method_2_code 1 none ({ frames := 3, cells := 0, slots := 0, locals := 36 } : Room) #[(.ref a1)] h0 n0 (fun v h => v = none ∧ Keep h0 h [a1] ∧ Fld Z h a1 "java/util/AbstractList" "modCount" "I" (.int 0) ∧ Fld Z h a1 "java/util/ArrayList" "elementData" "[Ljava/lang/Object;" (.ref d1) ∧ Fld Z h a1 "java/util/ArrayList" "size" "I" (.int 0)) := by
  refine Ctr.of (plainFor_of_name own_pn_ArrayList) ?_
  intro p e s m below meth c C
  refine Go.frame (g' := mkF m 0 #[.val (.ref a1)] []) (by first | (simp [entryFrame, mkF, argsToLocals, Value.category]; done) | rfl) ?_
  have KH := Keep.refl h0 [a1]
  refine OwnW.aloadN C (pc' := 1) own_d_jdk_38_method_2_code_0 rfl rfl rfl ?_
  refine OwnW.callX C (pc' := 4) (y := (⟨"java/util/AbstractList", "<init>", "()V"⟩ : MethodName)) (W := 0) (argsL := []) (rest := []) rfl (hw _ (List.mem_of_getElem? (i := 9) rfl)) (hw _ (List.mem_of_getElem? (i := 10) rfl)) (hw _ (List.mem_of_getElem? (i := 13) rfl)) (hw _ (List.mem_of_getElem? (i := 14) rfl)) (by decide) (own_alinit l Z a0 hw a1 h0 n0 X_a1 F_modCount_a1 F_elementData_a1 F_size_a1 g_a1) (K' := 0) (S' := 0) (by decide) (by decide) rfl own_pd___V rfl (Nat.le_of_eq rfl) rfl rfl (by decide) (by decide) rfl own_d_jdk_38_method_2_code_1 rfl (fun v h1 hq => ?_)
  obtain ⟨rfl, KK, F1, F2, F3⟩ := hq
  refine Go.at (st' := []) rfl ?_
  have S_D := sta_keep S_D KK X_a1
  have KH := KH.trans KK (allS (Or.inl (List.mem_of_getElem? (i := 0) rfl)) all0)
  have X_a1 := X_a1.keep KK
  have F_modCount_a1 := F1
  have F_elementData_a1 := F2
  have F_size_a1 := F3
  refine OwnW.aloadN C (pc' := 5) own_d_jdk_38_method_2_code_4 rfl rfl rfl ?_
  refine OwnW.getS C (pc' := 8) (host := "") (Or.inl (hw _ (List.mem_of_getElem? (i := 26) rfl))) Via.refl S_D own_d_jdk_38_method_2_code_5 rfl ?_
  refine OwnW.putF C (pc' := 11) (host := "") (Or.inl (hw _ (List.mem_of_getElem? (i := 27) rfl))) Via.refl F_elementData_a1 X_a1 (Or.inl (hw _ (List.mem_of_getElem? (i := 28) rfl))) (hw _ (List.mem_of_getElem? (i := 4) rfl)) (ty := (.array (.object "java/lang/Object"))) (by decide) rfl rfl g_a1 own_d_jdk_38_method_2_code_8 rfl (fun h2 W2 => ?_)
  have KH := KH.wr W2 (Or.inl (List.mem_of_getElem? (i := 0) rfl))
  have X_a1 := X_a1.wr W2
  have F_modCount_a1 := F_modCount_a1.other W2 (Or.inr (slot_ne (Or.inl (hw _ (List.mem_of_getElem? (i := 25) rfl))) (Or.inl (hw _ (List.mem_of_getElem? (i := 28) rfl))) (by decide) (t := .int) (t' := (.array (.object "java/lang/Object"))) (by decide) (by decide)))
  have F_elementData_a1 := F_elementData_a1.same W2
  have F_size_a1 := F_size_a1.other W2 (Or.inr (slot_ne (Or.inl (hw _ (List.mem_of_getElem? (i := 37) rfl))) (Or.inl (hw _ (List.mem_of_getElem? (i := 28) rfl))) (by decide) (t := .int) (t' := (.array (.object "java/lang/Object"))) (by decide) (by decide)))
  exact OwnW.retV C rfl ⟨rfl, KH, F_modCount_a1, F_elementData_a1, F_size_a1⟩ (by decide) (by decide) own_d_jdk_38_method_2_code_11
set_option maxRecDepth 65536 in
set_option maxHeartbeats 40000000 in
theorem own_maxI (l : Launch) (Z : State) (a0 : Array Value) (hw : ∀ d ∈ tables_1, d.before a0 Z = true) (p1 p2 : Int32) (h0 : Heap) (n0 : Nat)  :
    Ctr l Z (⟨"java/lang/Math", "max", "(II)I"⟩ : MethodName) jdk_29_method_65_code 2 (some .int) ({ frames := 0, cells := 0, slots := 0, locals := 0 } : Room) #[(.int p1), (.int p2)] h0 n0 (fun v h => v = some (.int (if p1 < p2 then p2 else p1)) ∧ h = h0) := by
  refine Ctr.of (Jvm.Free.JP.mathPlain rfl (by decide +kernel)) ?_
  intro p e s m below meth c C
  refine Go.frame (g' := mkF m 0 #[.val (.int p1), .val (.int p2)] []) (by first | (simp [entryFrame, mkF, argsToLocals, Value.category]; done) | rfl) ?_
  refine OwnW.iloadN C (pc' := 1) own_d_jdk_29_method_65_code_0 rfl rfl ?_
  refine OwnW.iloadN C (pc' := 2) own_d_jdk_29_method_65_code_1 rfl rfl ?_
  refine OwnW.icLt C (pcY := 9) (pcN := 5) own_d_jdk_29_method_65_code_2 (by decide) rfl rfl (fun hc2 => ?_) (fun hc2 => ?_)
  · refine OwnW.iloadN C (pc' := 10) own_d_jdk_29_method_65_code_9 rfl rfl ?_
    exact OwnW.retI C rfl ⟨by rw [if_pos hc2], rfl⟩ (by decide) (by decide) own_d_jdk_29_method_65_code_10
  · refine OwnW.iloadN C (pc' := 6) own_d_jdk_29_method_65_code_5 rfl rfl ?_
    refine OwnW.goto C (pc' := 10) own_d_jdk_29_method_65_code_6 (by decide) rfl ?_
    exact OwnW.retI C rfl ⟨by rw [if_neg hc2], rfl⟩ (by decide) (by decide) own_d_jdk_29_method_65_code_10
set_option maxRecDepth 65536 in
set_option maxHeartbeats 40000000 in
theorem own_growI (l : Launch) (Z : State) (a0 : Array Value) (hw : ∀ d ∈ tables_1, d.before a0 Z = true) (a1 d1 : Addr) (mc : Int32) (cD : ClassId) (h0 : Heap) (n0 : Nat) (Sz : n0 ≤ h0.size) (X_a1 : Exa Z h0 a1 "java/util/ArrayList") (F_modCount_a1 : Fld Z h0 a1 "java/util/AbstractList" "modCount" "I" (.int mc)) (F_elementData_a1 : Fld Z h0 a1 "java/util/ArrayList" "elementData" "[Ljava/lang/Object;" (.ref d1)) (F_size_a1 : Fld Z h0 a1 "java/util/ArrayList" "size" "I" (.int 0)) (g_a1 : n0 ≤ a1) (V_d1 : Arv Z h0 d1 cD (.object "java/lang/Object") 0 [] .null) (S_D : Sta Z h0 "java/util/ArrayList" "DEFAULTCAPACITY_EMPTY_ELEMENTDATA" "[Ljava/lang/Object;" (.ref d1)) :
    Ctr l Z (⟨"java/util/ArrayList", "grow", "(I)[Ljava/lang/Object;"⟩ : MethodName) jdk_38_method_6_code 4 (some (.array (.object "java/lang/Object"))) ({ frames := 1, cells := 1, slots := 10, locals := 14 } : Room) #[(.ref a1), (.int (1 : Int32))] h0 n0 (fun v h => ∃ (b : Addr) (cO : ClassId), v = some (.ref b) ∧ Keep h0 h [a1] ∧ h0.size ≤ b ∧ Fld Z h a1 "java/util/AbstractList" "modCount" "I" (.int mc) ∧ Fld Z h a1 "java/util/ArrayList" "elementData" "[Ljava/lang/Object;" (.ref b) ∧ Fld Z h a1 "java/util/ArrayList" "size" "I" (.int 0) ∧ Arv Z h b cO (.object "java/lang/Object") 10 (List.replicate 10 .null) .null ∧ Exa Z h b "[Ljava/lang/Object;" ∧ Ovr Z cO "java/lang/Object") := by
  refine Ctr.of (plainFor_of_name own_pn_ArrayList) ?_
  intro p e s m below meth c C
  refine Go.frame (g' := mkF m 0 #[.val (.ref a1), .val (.int (1 : Int32)), .unset, .unset] []) (by first | (simp [entryFrame, mkF, argsToLocals, Value.category]; done) | rfl) ?_
  have KH := Keep.refl h0 [a1]
  refine OwnW.aloadN C (pc' := 1) own_d_jdk_38_method_6_code_0 rfl rfl rfl ?_
  refine OwnW.getF C (pc' := 4) (host := "") (Or.inl (hw _ (List.mem_of_getElem? (i := 27) rfl))) Via.refl F_elementData_a1 own_d_jdk_38_method_6_code_1 rfl ?_
  refine OwnW.alen C (pc' := 5) V_d1 own_d_jdk_38_method_6_code_4 rfl ?_
  refine OwnW.istoreN C (pc' := 6) own_d_jdk_38_method_6_code_5 rfl (l' := #[.val (.ref a1), .val (.int (1 : Int32)), .val (.int (0 : Int32)), .unset]) rfl ?_
  refine OwnW.iloadN C (pc' := 7) own_d_jdk_38_method_6_code_6 rfl rfl ?_
  refine OwnW.ifGt C (pcY := 20) (pcN := 10) own_d_jdk_38_method_6_code_7 (by decide) rfl rfl (fun hc7 => absurd hc7 (by decide)) (fun hc7 => ?_)
  refine OwnW.aloadN C (pc' := 11) own_d_jdk_38_method_6_code_10 rfl rfl rfl ?_
  refine OwnW.getF C (pc' := 14) (host := "") (Or.inl (hw _ (List.mem_of_getElem? (i := 27) rfl))) Via.refl F_elementData_a1 own_d_jdk_38_method_6_code_11 rfl ?_
  refine OwnW.getS C (pc' := 17) (host := "") (Or.inl (hw _ (List.mem_of_getElem? (i := 26) rfl))) Via.refl S_D own_d_jdk_38_method_6_code_14 rfl ?_
  refine OwnW.acEq C (pcY := 45) (pcN := 20) rfl rfl own_d_jdk_38_method_6_code_17 (by decide) rfl rfl (fun hc17 => ?_) (fun hc17 => absurd rfl hc17)
  refine OwnW.aloadN C (pc' := 46) own_d_jdk_38_method_6_code_45 rfl rfl rfl ?_
  refine OwnW.bipush C (pc' := 48) own_d_jdk_38_method_6_code_46 rfl (z := 10) rfl ?_
  refine OwnW.iloadN C (pc' := 49) own_d_jdk_38_method_6_code_48 rfl rfl ?_
  refine OwnW.callS C (pc' := 52) (y := (⟨"java/lang/Math", "max", "(II)I"⟩ : MethodName)) (W := 1) (argsL := [(.int (10 : Int32)), (.int (1 : Int32))]) (rest := [(.ref a1)]) (hw _ (List.mem_of_getElem? (i := 53) rfl)) (hw _ (List.mem_of_getElem? (i := 54) rfl)) (hw _ (List.mem_of_getElem? (i := 55) rfl)) (hw _ (List.mem_of_getElem? (i := 56) rfl)) (by decide) (own_maxI l Z a0 hw 10 1 h0 n0) (K' := 0) (S' := 0) (by decide) (by decide) rfl own_pd__II_I rfl (Nat.le_of_eq rfl) rfl rfl (by decide) (by decide) rfl own_d_jdk_38_method_6_code_49 rfl (fun v h' hq => ?_)
  obtain ⟨rfl, hh⟩ := hq
  refine Go.at (st' := [(.int (if (10 : Int32) < 1 then (1 : Int32) else 10)), (.ref a1)]) rfl ?_
  refine Go.heap hh ?_
  rw [show (if (10 : Int32) < 1 then (1 : Int32) else 10) = 10 from rfl]
  refine OwnW.newR C (pc' := 55) (K' := 1) (S' := 10) (ad := "[Ljava/lang/Object;") (by decide +kernel) (hw _ (List.mem_of_getElem? (i := 57) rfl)) (hw _ (List.mem_of_getElem? (i := 58) rfl)) (cap := 10) (by decide) (by decide) (by decide) own_d_jdk_38_method_6_code_52 rfl rfl rfl (by decide) (by decide) (fun h1 b1 cA_b1 g1 E1 V_b1 X_b1 O_b1 => ?_)
  have ne_a1_b1 : a1 ≠ b1 := Nat.ne_of_lt (Nat.lt_of_lt_of_eq X_a1.lt g1.symm)
  have g_b1 : n0 ≤ b1 := Nat.le_trans Sz (Nat.le_of_eq g1.symm)
  have s_b1 : h0.size ≤ b1 := Nat.le_trans KH.1 (Nat.le_of_eq g1.symm)
  have KH := KH.ext E1
  have Sz := Nat.le_trans Sz E1.1
  have X_a1 := X_a1.ext E1
  have F_modCount_a1 := F_modCount_a1.ext E1
  have F_elementData_a1 := F_elementData_a1.ext E1
  have F_size_a1 := F_size_a1.ext E1
  have V_b1 : Arv Z h1 b1 cA_b1 (.object "java/lang/Object") (10 : Int32) [.null, .null, .null, .null, .null, .null, .null, .null, .null, .null] .null := V_b1.pad (pad_rep [] .null 10)
  refine OwnW.dupX1 C (pc' := 56) own_d_jdk_38_method_6_code_55 rfl rfl rfl ?_
  refine OwnW.putF C (pc' := 59) (host := "") (Or.inl (hw _ (List.mem_of_getElem? (i := 27) rfl))) Via.refl F_elementData_a1 X_a1 (Or.inl (hw _ (List.mem_of_getElem? (i := 28) rfl))) (hw _ (List.mem_of_getElem? (i := 4) rfl)) (ty := (.array (.object "java/lang/Object"))) (by decide) rfl rfl g_a1 own_d_jdk_38_method_6_code_56 rfl (fun h2 W2 => ?_)
  have KH := KH.wr W2 (Or.inl (List.mem_of_getElem? (i := 0) rfl))
  have Sz := Nat.le_trans Sz (Keep.of_wr W2).1
  have X_a1 := X_a1.wr W2
  have F_modCount_a1 := F_modCount_a1.other W2 (Or.inr (slot_ne (Or.inl (hw _ (List.mem_of_getElem? (i := 25) rfl))) (Or.inl (hw _ (List.mem_of_getElem? (i := 28) rfl))) (by decide) (t := .int) (t' := (.array (.object "java/lang/Object"))) (by decide) (by decide)))
  have F_elementData_a1 := F_elementData_a1.same W2
  have F_size_a1 := F_size_a1.other W2 (Or.inr (slot_ne (Or.inl (hw _ (List.mem_of_getElem? (i := 37) rfl))) (Or.inl (hw _ (List.mem_of_getElem? (i := 28) rfl))) (by decide) (t := .int) (t' := (.array (.object "java/lang/Object"))) (by decide) (by decide)))
  have X_b1 := X_b1.wr W2
  have V_b1 := V_b1.other W2 (Ne.symm ne_a1_b1)
  exact OwnW.retA C rfl rfl rfl ⟨b1, cA_b1, rfl, KH, s_b1, F_modCount_a1, F_elementData_a1, F_size_a1, V_b1, X_b1, O_b1⟩ (by decide) (by decide) own_d_jdk_38_method_6_code_59
set_option maxRecDepth 65536 in
set_option maxHeartbeats 40000000 in
theorem own_grow (l : Launch) (Z : State) (a0 : Array Value) (hw : ∀ d ∈ tables_1, d.before a0 Z = true) (a1 d1 : Addr) (mc : Int32) (cD : ClassId) (h0 : Heap) (n0 : Nat) (Sz : n0 ≤ h0.size) (X_a1 : Exa Z h0 a1 "java/util/ArrayList") (F_modCount_a1 : Fld Z h0 a1 "java/util/AbstractList" "modCount" "I" (.int mc)) (F_elementData_a1 : Fld Z h0 a1 "java/util/ArrayList" "elementData" "[Ljava/lang/Object;" (.ref d1)) (F_size_a1 : Fld Z h0 a1 "java/util/ArrayList" "size" "I" (.int 0)) (g_a1 : n0 ≤ a1) (V_d1 : Arv Z h0 d1 cD (.object "java/lang/Object") 0 [] .null) (S_D : Sta Z h0 "java/util/ArrayList" "DEFAULTCAPACITY_EMPTY_ELEMENTDATA" "[Ljava/lang/Object;" (.ref d1)) :
    Ctr l Z (⟨"java/util/ArrayList", "grow", "()[Ljava/lang/Object;"⟩ : MethodName) jdk_38_method_7_code 1 (some (.array (.object "java/lang/Object"))) ({ frames := 2, cells := 1, slots := 10, locals := 29 } : Room) #[(.ref a1)] h0 n0 (fun v h => ∃ (b : Addr) (cO : ClassId), v = some (.ref b) ∧ Keep h0 h [a1] ∧ h0.size ≤ b ∧ Fld Z h a1 "java/util/AbstractList" "modCount" "I" (.int mc) ∧ Fld Z h a1 "java/util/ArrayList" "elementData" "[Ljava/lang/Object;" (.ref b) ∧ Fld Z h a1 "java/util/ArrayList" "size" "I" (.int 0) ∧ Arv Z h b cO (.object "java/lang/Object") 10 (List.replicate 10 .null) .null ∧ Exa Z h b "[Ljava/lang/Object;" ∧ Ovr Z cO "java/lang/Object") := by
  refine Ctr.of (plainFor_of_name own_pn_ArrayList) ?_
  intro p e s m below meth c C
  refine Go.frame (g' := mkF m 0 #[.val (.ref a1)] []) (by first | (simp [entryFrame, mkF, argsToLocals, Value.category]; done) | rfl) ?_
  refine OwnW.aloadN C (pc' := 1) own_d_jdk_38_method_7_code_0 rfl rfl rfl ?_
  refine OwnW.aloadN C (pc' := 2) own_d_jdk_38_method_7_code_1 rfl rfl rfl ?_
  refine OwnW.getF C (pc' := 5) (host := "") (Or.inl (hw _ (List.mem_of_getElem? (i := 36) rfl))) Via.refl F_size_a1 own_d_jdk_38_method_7_code_2 rfl ?_
  refine OwnW.iconst C (pc' := 6) own_d_jdk_38_method_7_code_5 rfl (z := 1) rfl ?_
  refine OwnW.iadd C (pc' := 7) own_d_jdk_38_method_7_code_6 rfl ?_
  rw [show (0 : Int32) + 1 = 1 from rfl]
  refine OwnW.callP C (pc' := 10) (y := (⟨"java/util/ArrayList", "grow", "(I)[Ljava/lang/Object;"⟩ : MethodName)) (W := 0) (argsL := [(.int (1 : Int32))]) (rest := []) (hw _ (List.mem_of_getElem? (i := 48) rfl)) (hw _ (List.mem_of_getElem? (i := 49) rfl)) (hw _ (List.mem_of_getElem? (i := 51) rfl)) (hw _ (List.mem_of_getElem? (i := 50) rfl)) (hw _ (List.mem_of_getElem? (i := 5) rfl)) (hw _ (List.mem_of_getElem? (i := 52) rfl)) X_a1 (by decide) (own_growI l Z a0 hw a1 d1 mc cD h0 n0 Sz X_a1 F_modCount_a1 F_elementData_a1 F_size_a1 g_a1 V_d1 S_D) (K' := 1) (S' := 10) (by decide) (by decide) rfl own_pd__I__Ljava_lang_Object_ rfl (Nat.le_of_eq rfl) rfl rfl (by decide) (by decide) rfl own_d_jdk_38_method_7_code_7 rfl (fun v h1 hq => ?_)
  obtain ⟨b, cO, rfl, KK, hb, F1, F2, F3, V, XB, O⟩ := hq
  refine Go.at (st' := [(.ref b)]) rfl ?_
  exact OwnW.retA C rfl rfl rfl ⟨b, cO, rfl, KK, hb, F1, F2, F3, V, XB, O⟩ (by decide) (by decide) own_d_jdk_38_method_7_code_10
set_option maxRecDepth 65536 in
set_option maxHeartbeats 40000000 in
theorem own_add3_0 (l : Launch) (Z : State) (a0 : Array Value) (hw : ∀ d ∈ tables_1, d.before a0 Z = true) (a1 e1 d1 : Addr) (mc : Int32) (cD : ClassId) (h0 : Heap) (n0 : Nat) (Sz : n0 ≤ h0.size) (X_a1 : Exa Z h0 a1 "java/util/ArrayList") (F_modCount_a1 : Fld Z h0 a1 "java/util/AbstractList" "modCount" "I" (.int mc)) (F_elementData_a1 : Fld Z h0 a1 "java/util/ArrayList" "elementData" "[Ljava/lang/Object;" (.ref d1)) (F_size_a1 : Fld Z h0 a1 "java/util/ArrayList" "size" "I" (.int 0)) (g_a1 : n0 ≤ a1) (V_d1 : Arv Z h0 d1 cD (.object "java/lang/Object") 0 [] .null) (S_D : Sta Z h0 "java/util/ArrayList" "DEFAULTCAPACITY_EMPTY_ELEMENTDATA" "[Ljava/lang/Object;" (.ref d1)) (I_e : Ins Z h0 e1 "java/lang/Object" true) :
    Ctr l Z (⟨"java/util/ArrayList", "add", "(Ljava/lang/Object;[Ljava/lang/Object;I)V"⟩ : MethodName) jdk_38_method_24_code 4 none ({ frames := 3, cells := 1, slots := 10, locals := 41 } : Room) #[(.ref a1), (.ref e1), (.ref d1), (.int (0 : Int32))] h0 n0 (fun v h => v = none ∧ Keep h0 h [a1] ∧ ∃ (b : Addr) (cO : ClassId), h0.size ≤ b ∧ Fld Z h a1 "java/util/AbstractList" "modCount" "I" (.int mc) ∧ Fld Z h a1 "java/util/ArrayList" "elementData" "[Ljava/lang/Object;" (.ref b) ∧ Fld Z h a1 "java/util/ArrayList" "size" "I" (.int 1) ∧ Arv Z h b cO (.object "java/lang/Object") 10 ((List.replicate 10 .null).set 0 (.ref e1)) .null ∧ Exa Z h b "[Ljava/lang/Object;" ∧ Ovr Z cO "java/lang/Object") := by
  refine Ctr.of (plainFor_of_name own_pn_ArrayList) ?_
  intro p e s m below meth c C
  refine Go.frame (g' := mkF m 0 #[.val (.ref a1), .val (.ref e1), .val (.ref d1), .val (.int (0 : Int32))] []) (by first | (simp [entryFrame, mkF, argsToLocals, Value.category]; done) | rfl) ?_
  refine OwnW.iloadN C (pc' := 1) own_d_jdk_38_method_24_code_0 rfl rfl ?_
  refine OwnW.aloadN C (pc' := 2) own_d_jdk_38_method_24_code_1 rfl rfl rfl ?_
  refine OwnW.alen C (pc' := 3) V_d1 own_d_jdk_38_method_24_code_2 rfl ?_
  refine OwnW.icNe C (pcY := 11) (pcN := 6) own_d_jdk_38_method_24_code_3 (by decide) rfl rfl (fun hc3 => absurd rfl hc3) (fun hc3 => ?_)
  refine OwnW.aloadN C (pc' := 7) own_d_jdk_38_method_24_code_6 rfl rfl rfl ?_
  refine OwnW.callP C (pc' := 10) (y := (⟨"java/util/ArrayList", "grow", "()[Ljava/lang/Object;"⟩ : MethodName)) (W := 0) (argsL := []) (rest := []) (hw _ (List.mem_of_getElem? (i := 43) rfl)) (hw _ (List.mem_of_getElem? (i := 44) rfl)) (hw _ (List.mem_of_getElem? (i := 46) rfl)) (hw _ (List.mem_of_getElem? (i := 45) rfl)) (hw _ (List.mem_of_getElem? (i := 5) rfl)) (hw _ (List.mem_of_getElem? (i := 47) rfl)) X_a1 (by decide) (own_grow l Z a0 hw a1 d1 mc cD h0 n0 Sz X_a1 F_modCount_a1 F_elementData_a1 F_size_a1 g_a1 V_d1 S_D) (K' := 1) (S' := 10) (by decide) (by decide) rfl own_pd____Ljava_lang_Object_ rfl (Nat.le_of_eq rfl) rfl rfl (by decide) (by decide) rfl own_d_jdk_38_method_24_code_7 rfl (fun v h1 hq => ?_)
  obtain ⟨b, cO, rfl, KK, hb, F1, F2, F3, V_b, X_b, O_b⟩ := hq
  refine Go.at (st' := [(.ref b)]) rfl ?_
  have ne_a1_b : a1 ≠ b := Nat.ne_of_lt (Nat.lt_of_lt_of_le X_a1.lt hb)
  have g_b : n0 ≤ b := Nat.le_trans Sz hb
  have KH := KK
  have I_e := ins_keep I_e KK
  have X_a1 := X_a1.keep KK
  have F_modCount_a1 := F1
  have F_elementData_a1 := F2
  have F_size_a1 := F3
  have s_b := hb
  refine OwnW.astoreN C (pc' := 11) own_d_jdk_38_method_24_code_10 rfl rfl (l' := #[.val (.ref a1), .val (.ref e1), .val (.ref b), .val (.int (0 : Int32))]) rfl ?_
  refine OwnW.aloadN C (pc' := 12) own_d_jdk_38_method_24_code_11 rfl rfl rfl ?_
  refine OwnW.iloadN C (pc' := 13) own_d_jdk_38_method_24_code_12 rfl rfl ?_
  refine OwnW.aloadN C (pc' := 14) own_d_jdk_38_method_24_code_13 rfl rfl rfl ?_
  refine OwnW.aastore C (pc' := 15) V_b rfl g_b ⟨by decide, by decide⟩ (k := 0) rfl (Nat.le_of_ble_eq_true rfl) (sto_of V_b O_b I_e) rfl own_d_jdk_38_method_24_code_14 rfl (fun h2 W2 V_b => ?_)
  have KH := KH.wr W2 (Or.inr s_b)
  have X_a1 := X_a1.wr W2
  have F_modCount_a1 := F_modCount_a1.other W2 (Or.inl ne_a1_b)
  have F_elementData_a1 := F_elementData_a1.other W2 (Or.inl ne_a1_b)
  have F_size_a1 := F_size_a1.other W2 (Or.inl ne_a1_b)
  have X_b := X_b.wr W2
  refine OwnW.aloadN C (pc' := 16) own_d_jdk_38_method_24_code_15 rfl rfl rfl ?_
  refine OwnW.iloadN C (pc' := 17) own_d_jdk_38_method_24_code_16 rfl rfl ?_
  refine OwnW.iconst C (pc' := 18) own_d_jdk_38_method_24_code_17 rfl (z := 1) rfl ?_
  refine OwnW.iadd C (pc' := 19) own_d_jdk_38_method_24_code_18 rfl ?_
  rw [show (0 : Int32) + 1 = 1 from rfl]
  refine OwnW.putF C (pc' := 22) (host := "") (Or.inl (hw _ (List.mem_of_getElem? (i := 36) rfl))) Via.refl F_size_a1 X_a1 (Or.inl (hw _ (List.mem_of_getElem? (i := 37) rfl))) (hw _ (List.mem_of_getElem? (i := 4) rfl)) (ty := .int) (by decide) rfl rfl g_a1 own_d_jdk_38_method_24_code_19 rfl (fun h3 W3 => ?_)
  have KH := KH.wr W3 (Or.inl (List.mem_of_getElem? (i := 0) rfl))
  have X_a1 := X_a1.wr W3
  have F_modCount_a1 := F_modCount_a1.other W3 (Or.inr (slot_ne (Or.inl (hw _ (List.mem_of_getElem? (i := 25) rfl))) (Or.inl (hw _ (List.mem_of_getElem? (i := 37) rfl))) (by decide) (t := .int) (t' := .int) (by decide) (by decide)))
  have F_elementData_a1 := F_elementData_a1.other W3 (Or.inr (slot_ne (Or.inl (hw _ (List.mem_of_getElem? (i := 28) rfl))) (Or.inl (hw _ (List.mem_of_getElem? (i := 37) rfl))) (by decide) (t := (.array (.object "java/lang/Object"))) (t' := .int) (by decide) (by decide)))
  have F_size_a1 := F_size_a1.same W3
  have X_b := X_b.wr W3
  have V_b := V_b.other W3 (Ne.symm ne_a1_b)
  exact OwnW.retV C rfl ⟨rfl, KH, b, cO, s_b, F_modCount_a1, F_elementData_a1, F_size_a1, V_b, X_b, O_b⟩ (by decide) (by decide) own_d_jdk_38_method_24_code_22
set_option maxRecDepth 65536 in
set_option maxHeartbeats 40000000 in
theorem own_add_0 (l : Launch) (Z : State) (a0 : Array Value) (hw : ∀ d ∈ tables_1, d.before a0 Z = true) (a1 e1 d1 : Addr) (mc : Int32) (cD : ClassId) (h0 : Heap) (n0 : Nat) (Sz : n0 ≤ h0.size) (X_a1 : Exa Z h0 a1 "java/util/ArrayList") (F_modCount_a1 : Fld Z h0 a1 "java/util/AbstractList" "modCount" "I" (.int mc)) (F_elementData_a1 : Fld Z h0 a1 "java/util/ArrayList" "elementData" "[Ljava/lang/Object;" (.ref d1)) (F_size_a1 : Fld Z h0 a1 "java/util/ArrayList" "size" "I" (.int 0)) (g_a1 : n0 ≤ a1) (V_d1 : Arv Z h0 d1 cD (.object "java/lang/Object") 0 [] .null) (S_D : Sta Z h0 "java/util/ArrayList" "DEFAULTCAPACITY_EMPTY_ELEMENTDATA" "[Ljava/lang/Object;" (.ref d1)) (I_e : Ins Z h0 e1 "java/lang/Object" true) (ne_d : d1 ≠ a1) :
    Ctr l Z (⟨"java/util/ArrayList", "add", "(Ljava/lang/Object;)Z"⟩ : MethodName) jdk_38_method_25_code 2 (some .boolean) ({ frames := 4, cells := 1, slots := 10, locals := 56 } : Room) #[(.ref a1), (.ref e1)] h0 n0 (fun v h => v = some (.int 1) ∧ Keep h0 h [a1] ∧ ∃ (b : Addr) (cO : ClassId), h0.size ≤ b ∧ Fld Z h a1 "java/util/AbstractList" "modCount" "I" (.int (mc + 1)) ∧ Fld Z h a1 "java/util/ArrayList" "elementData" "[Ljava/lang/Object;" (.ref b) ∧ Fld Z h a1 "java/util/ArrayList" "size" "I" (.int 1) ∧ Arv Z h b cO (.object "java/lang/Object") 10 ((List.replicate 10 .null).set 0 (.ref e1)) .null ∧ Exa Z h b "[Ljava/lang/Object;" ∧ Ovr Z cO "java/lang/Object") := by
  refine Ctr.of (plainFor_of_name own_pn_ArrayList) ?_
  intro p e s m below meth c C
  refine Go.frame (g' := mkF m 0 #[.val (.ref a1), .val (.ref e1)] []) (by first | (simp [entryFrame, mkF, argsToLocals, Value.category]; done) | rfl) ?_
  have KH := Keep.refl h0 [a1]
  refine OwnW.aloadN C (pc' := 1) own_d_jdk_38_method_25_code_0 rfl rfl rfl ?_
  refine OwnW.dup C (pc' := 2) own_d_jdk_38_method_25_code_1 rfl rfl ?_
  refine OwnW.getF C (pc' := 5) (host := "") (Or.inl (hw _ (List.mem_of_getElem? (i := 34) rfl))) (Via.of (hw _ (List.mem_of_getElem? (i := 35) rfl))) F_modCount_a1 own_d_jdk_38_method_25_code_2 rfl ?_
  refine OwnW.iconst C (pc' := 6) own_d_jdk_38_method_25_code_5 rfl (z := 1) rfl ?_
  refine OwnW.iadd C (pc' := 7) own_d_jdk_38_method_25_code_6 rfl ?_
  refine OwnW.putF C (pc' := 10) (host := "") (Or.inl (hw _ (List.mem_of_getElem? (i := 34) rfl))) (Via.of (hw _ (List.mem_of_getElem? (i := 35) rfl))) F_modCount_a1 X_a1 (Or.inl (hw _ (List.mem_of_getElem? (i := 25) rfl))) (hw _ (List.mem_of_getElem? (i := 4) rfl)) (ty := .int) (by decide) rfl rfl g_a1 own_d_jdk_38_method_25_code_7 rfl (fun h1 W1 => ?_)
  have KH := KH.wr W1 (Or.inl (List.mem_of_getElem? (i := 0) rfl))
  have Sz := Nat.le_trans Sz (Keep.of_wr W1).1
  have X_a1 := X_a1.wr W1
  have F_modCount_a1 := F_modCount_a1.same W1
  have F_elementData_a1 := F_elementData_a1.other W1 (Or.inr (slot_ne (Or.inl (hw _ (List.mem_of_getElem? (i := 28) rfl))) (Or.inl (hw _ (List.mem_of_getElem? (i := 25) rfl))) (by decide) (t := (.array (.object "java/lang/Object"))) (t' := .int) (by decide) (by decide)))
  have F_size_a1 := F_size_a1.other W1 (Or.inr (slot_ne (Or.inl (hw _ (List.mem_of_getElem? (i := 37) rfl))) (Or.inl (hw _ (List.mem_of_getElem? (i := 25) rfl))) (by decide) (t := .int) (t' := .int) (by decide) (by decide)))
  refine OwnW.aloadN C (pc' := 11) own_d_jdk_38_method_25_code_10 rfl rfl rfl ?_
  refine OwnW.aloadN C (pc' := 12) own_d_jdk_38_method_25_code_11 rfl rfl rfl ?_
  refine OwnW.aloadN C (pc' := 13) own_d_jdk_38_method_25_code_12 rfl rfl rfl ?_
  refine OwnW.getF C (pc' := 16) (host := "") (Or.inl (hw _ (List.mem_of_getElem? (i := 27) rfl))) Via.refl F_elementData_a1 own_d_jdk_38_method_25_code_13 rfl ?_
  refine OwnW.aloadN C (pc' := 17) own_d_jdk_38_method_25_code_16 rfl rfl rfl ?_
  refine OwnW.getF C (pc' := 20) (host := "") (Or.inl (hw _ (List.mem_of_getElem? (i := 36) rfl))) Via.refl F_size_a1 own_d_jdk_38_method_25_code_17 rfl ?_
  have V_d1 := V_d1.other W1 ne_d
  have S_D := S_D.wr W1
  have I_e := I_e.wr W1
  refine OwnW.callP C (pc' := 23) (y := (⟨"java/util/ArrayList", "add", "(Ljava/lang/Object;[Ljava/lang/Object;I)V"⟩ : MethodName)) (W := 0) (argsL := [(.ref e1), (.ref d1), (.int (0 : Int32))]) (rest := []) (hw _ (List.mem_of_getElem? (i := 38) rfl)) (hw _ (List.mem_of_getElem? (i := 39) rfl)) (hw _ (List.mem_of_getElem? (i := 41) rfl)) (hw _ (List.mem_of_getElem? (i := 40) rfl)) (hw _ (List.mem_of_getElem? (i := 5) rfl)) (hw _ (List.mem_of_getElem? (i := 42) rfl)) X_a1 (by decide) (own_add3_0 l Z a0 hw a1 e1 d1 (mc + 1) cD h1 n0 Sz X_a1 F_modCount_a1 F_elementData_a1 F_size_a1 g_a1 V_d1 S_D I_e) (K' := 1) (S' := 10) (by decide) (by decide) rfl own_pd__Ljava_lang_Object__Ljava_lang_Object_I_V rfl (Nat.le_of_eq rfl) rfl rfl (by decide) (by decide) rfl own_d_jdk_38_method_25_code_20 rfl (fun v h9 hq => ?_)
  obtain ⟨rfl, KK, b, cO, hb, F1, F2, F3, V, XB, O⟩ := hq
  refine Go.at (st' := []) rfl ?_
  have KH := KH.trans KK (allS (Or.inl (List.mem_of_getElem? (i := 0) rfl)) all0)
  have hb := Nat.le_trans (Keep.of_wr W1).1 hb
  refine OwnW.iconst C (pc' := 24) own_d_jdk_38_method_25_code_23 rfl (z := 1) rfl ?_
  exact OwnW.retN C (t := .boolean) (z := (1 : Int32)) rfl (by simp) rfl ⟨rfl, KH, b, cO, hb, F1, F2, F3, V, XB, O⟩ (by decide) (by decide) own_d_jdk_38_method_25_code_24
set_option maxRecDepth 65536 in
set_option maxHeartbeats 40000000 in
theorem own_size (l : Launch) (Z : State) (a0 : Array Value) (hw : ∀ d ∈ tables_1, d.before a0 Z = true) (a1 : Addr) (k : Int32) (h0 : Heap) (n0 : Nat) (F : Fld Z h0 a1 "java/util/ArrayList" "size" "I" (.int k)) :
    Ctr l Z (⟨"java/util/ArrayList", "size", "()I"⟩ : MethodName) jdk_38_method_8_code 1 (some .int) ({ frames := 0, cells := 0, slots := 0, locals := 0 } : Room) #[(.ref a1)] h0 n0 (fun v h => v = some (.int k) ∧ h = h0) := by
  refine Ctr.of (plainFor_of_name own_pn_ArrayList) ?_
  intro p e s m below meth c C
  refine Go.frame (g' := mkF m 0 #[.val (.ref a1)] []) (by first | (simp [entryFrame, mkF, argsToLocals, Value.category]; done) | rfl) ?_
  refine OwnW.aloadN C (pc' := 1) own_d_jdk_38_method_8_code_0 rfl rfl rfl ?_
  refine OwnW.getF C (pc' := 4) (host := "") (Or.inl (hw _ (List.mem_of_getElem? (i := 36) rfl))) Via.refl F own_d_jdk_38_method_8_code_1 rfl ?_
  exact OwnW.retI C rfl ⟨rfl, rfl⟩ (by decide) (by decide) own_d_jdk_38_method_8_code_4
set_option maxRecDepth 65536 in
set_option maxHeartbeats 40000000 in
theorem own_pci (l : Launch) (Z : State) (a0 : Array Value) (hw : ∀ d ∈ tables_1, d.before a0 Z = true) (p1 p2 : Int32) (h0 : Heap) (n0 : Nat) (h1 : ¬ p1 < 0) (h2 : p1 < p2) :
    Ctr l Z (⟨"jdk/internal/util/Preconditions", "checkIndex", "(IILjava/util/function/BiFunction;)I"⟩ : MethodName) jdk_41_method_11_code 3 (some .int) ({ frames := 0, cells := 0, slots := 0, locals := 0 } : Room) #[(.int p1), (.int p2), .null] h0 n0 (fun v h => v = some (.int p1) ∧ h = h0) := by
  refine Ctr.of (plainFor_of_name own_pn_Preconditions) ?_
  intro p e s m below meth c C
  refine Go.frame (g' := mkF m 0 #[.val (.int p1), .val (.int p2), .val .null] []) (by first | (simp [entryFrame, mkF, argsToLocals, Value.category]; done) | rfl) ?_
  refine OwnW.iloadN C (pc' := 1) own_d_jdk_41_method_11_code_0 rfl rfl ?_
  refine OwnW.ifLt C (pcY := 9) (pcN := 4) own_d_jdk_41_method_11_code_1 (by decide) rfl rfl (fun hc1 => absurd hc1 h1) (fun hc1 => ?_)
  refine OwnW.iloadN C (pc' := 5) own_d_jdk_41_method_11_code_4 rfl rfl ?_
  refine OwnW.iloadN C (pc' := 6) own_d_jdk_41_method_11_code_5 rfl rfl ?_
  refine OwnW.icLt C (pcY := 16) (pcN := 9) own_d_jdk_41_method_11_code_6 (by decide) rfl rfl (fun hc6 => ?_) (fun hc6 => absurd h2 hc6)
  refine OwnW.iloadN C (pc' := 17) own_d_jdk_41_method_11_code_16 rfl rfl ?_
  exact OwnW.retI C rfl ⟨rfl, rfl⟩ (by decide) (by decide) own_d_jdk_41_method_11_code_17
set_option maxRecDepth 65536 in
set_option maxHeartbeats 40000000 in
theorem own_ci (l : Launch) (Z : State) (a0 : Array Value) (hw : ∀ d ∈ tables_1, d.before a0 Z = true) (p1 p2 : Int32) (h0 : Heap) (n0 : Nat) (h1 : ¬ p1 < 0) (h2 : p1 < p2) :
    Ctr l Z (⟨"java/util/Objects", "checkIndex", "(II)I"⟩ : MethodName) jdk_31_method_17_code 2 (some .int) ({ frames := 1, cells := 0, slots := 0, locals := 14 } : Room) #[(.int p1), (.int p2)] h0 n0 (fun v h => v = some (.int p1) ∧ h = h0) := by
  refine Ctr.of (plainFor_of_name own_pn_Objects) ?_
  intro p e s m below meth c C
  refine Go.frame (g' := mkF m 0 #[.val (.int p1), .val (.int p2)] []) (by first | (simp [entryFrame, mkF, argsToLocals, Value.category]; done) | rfl) ?_
  refine OwnW.iloadN C (pc' := 1) own_d_jdk_31_method_17_code_0 rfl rfl ?_
  refine OwnW.iloadN C (pc' := 2) own_d_jdk_31_method_17_code_1 rfl rfl ?_
  refine OwnW.aconstNull C (pc' := 3) own_d_jdk_31_method_17_code_2 rfl ?_
  refine OwnW.callS C (pc' := 6) (y := (⟨"jdk/internal/util/Preconditions", "checkIndex", "(IILjava/util/function/BiFunction;)I"⟩ : MethodName)) (W := 0) (argsL := [(.int p1), (.int p2), .null]) (rest := []) (hw _ (List.mem_of_getElem? (i := 173) rfl)) (hw _ (List.mem_of_getElem? (i := 174) rfl)) (hw _ (List.mem_of_getElem? (i := 175) rfl)) (hw _ (List.mem_of_getElem? (i := 176) rfl)) (by decide) (own_pci l Z a0 hw p1 p2 h0 n0 h1 h2) (K' := 0) (S' := 0) (by decide) (by decide) rfl own_pd__IILjava_util_function_BiFunction__I rfl (Nat.le_of_eq rfl) rfl rfl (by decide) (by decide) rfl own_d_jdk_31_method_17_code_3 rfl (fun v h' hq => ?_)
  obtain ⟨rfl, hh⟩ := hq
  refine Go.at (st' := [(.int p1)]) rfl ?_
  refine Go.heap hh ?_
  exact OwnW.retI C rfl ⟨rfl, rfl⟩ (by decide) (by decide) own_d_jdk_31_method_17_code_6
set_option maxRecDepth 65536 in
set_option maxHeartbeats 40000000 in
theorem own_rqinit (l : Launch) (Z : State) (a0 : Array Value) (hw : ∀ d ∈ tables_1, d.before a0 Z = true) (a1 : Addr) (h0 : Heap) (n0 : Nat)  :
    Ctr l Z (⟨"com/example/kinegrid/kinegrid/server/Request", "<init>", "()V"⟩ : MethodName) prog_81_method_1_code 1 none ({ frames := 1, cells := 0, slots := 0, locals := 12 } : Room) #[(.ref a1)] h0 n0 (fun v h => v = none ∧ h = h0) := by
  refine Ctr.of (plainFor_of_name own_pn_Request) ?_
  intro p e s m below meth c C
  refine Go.frame (g' := mkF m 0 #[.val (.ref a1)] []) (by first | (simp [entryFrame, mkF, argsToLocals, Value.category]; done) | rfl) ?_
  refine OwnW.aloadN C (pc' := 1) own_d_prog_81_method_1_code_0 rfl rfl rfl ?_
  refine OwnW.initO C (pc' := 4) (hw _ (List.mem_of_getElem? (i := 69) rfl)) (hw _ (List.mem_of_getElem? (i := 22) rfl)) (hw _ (List.mem_of_getElem? (i := 23) rfl)) rfl (by decide) (W := 0) (Nat.le_of_eq rfl) (by decide) own_d_prog_81_method_1_code_1 rfl ?_
  exact OwnW.retV C rfl ⟨rfl, rfl⟩ (by decide) (by decide) own_d_prog_81_method_1_code_4
set_option maxRecDepth 65536 in
set_option maxHeartbeats 40000000 in
theorem own_itinit (l : Launch) (Z : State) (a0 : Array Value) (hw : ∀ d ∈ tables_1, d.before a0 Z = true) (a1 l1 : Addr) (mc : Int32) (h0 : Heap) (n0 : Nat) (X_a1 : Exa Z h0 a1 "java/util/ArrayList$Itr") (F_cursor_a1 : Fld Z h0 a1 "java/util/ArrayList$Itr" "cursor" "I" (.int 0)) (F_lastRet_a1 : Fld Z h0 a1 "java/util/ArrayList$Itr" "lastRet" "I" (.int 0)) (F_expectedModCount_a1 : Fld Z h0 a1 "java/util/ArrayList$Itr" "expectedModCount" "I" (.int 0)) (F_this_0_a1 : Fld Z h0 a1 "java/util/ArrayList$Itr" "this$0" "Ljava/util/ArrayList;" .null) (g_a1 : n0 ≤ a1) (F_modCount_l1 : Fld Z h0 l1 "java/util/AbstractList" "modCount" "I" (.int mc)) (ne1 : l1 ≠ a1) :
    Ctr l Z (⟨"java/util/ArrayList$Itr", "<init>", "(Ljava/util/ArrayList;)V"⟩ : MethodName) jdk_49_method_1_code 2 none ({ frames := 1, cells := 0, slots := 0, locals := 12 } : Room) #[(.ref a1), (.ref l1)] h0 n0 (fun v h => v = none ∧ Keep h0 h [a1] ∧ Fld Z h a1 "java/util/ArrayList$Itr" "cursor" "I" (.int 0) ∧ Fld Z h a1 "java/util/ArrayList$Itr" "lastRet" "I" (.int (-1)) ∧ Fld Z h a1 "java/util/ArrayList$Itr" "expectedModCount" "I" (.int mc) ∧ Fld Z h a1 "java/util/ArrayList$Itr" "this$0" "Ljava/util/ArrayList;" (.ref l1)) := by
  refine Ctr.of (plainFor_of_name own_pn_ArrayList_Itr) ?_
  intro p e s m below meth c C
  refine Go.frame (g' := mkF m 0 #[.val (.ref a1), .val (.ref l1)] []) (by first | (simp [entryFrame, mkF, argsToLocals, Value.category]; done) | rfl) ?_
  have KH := Keep.refl h0 [a1]
  refine OwnW.aloadN C (pc' := 1) own_d_jdk_49_method_1_code_0 rfl rfl rfl ?_
  refine OwnW.aloadN C (pc' := 2) own_d_jdk_49_method_1_code_1 rfl rfl rfl ?_
  refine OwnW.putF C (pc' := 5) (host := "") (Or.inl (hw _ (List.mem_of_getElem? (i := 88) rfl))) Via.refl F_this_0_a1 X_a1 (Or.inr ⟨(hw _ (List.mem_of_getElem? (i := 89) rfl)), rfl, rfl⟩) (hw _ (List.mem_of_getElem? (i := 82) rfl)) (ty := (.object "java/util/ArrayList")) (by decide) rfl rfl g_a1 own_d_jdk_49_method_1_code_2 rfl (fun h1 W1 => ?_)
  have KH := KH.wr W1 (Or.inl (List.mem_of_getElem? (i := 0) rfl))
  have X_a1 := X_a1.wr W1
  have F_cursor_a1 := F_cursor_a1.other W1 (Or.inr (slot_ne (Or.inl (hw _ (List.mem_of_getElem? (i := 106) rfl))) (Or.inr (hw _ (List.mem_of_getElem? (i := 89) rfl))) (by decide) (t := .int) (t' := (.object "java/util/ArrayList")) (by decide) (by decide)))
  have F_lastRet_a1 := F_lastRet_a1.other W1 (Or.inr (slot_ne (Or.inl (hw _ (List.mem_of_getElem? (i := 92) rfl))) (Or.inr (hw _ (List.mem_of_getElem? (i := 89) rfl))) (by decide) (t := .int) (t' := (.object "java/util/ArrayList")) (by decide) (by decide)))
  have F_expectedModCount_a1 := F_expectedModCount_a1.other W1 (Or.inr (slot_ne (Or.inl (hw _ (List.mem_of_getElem? (i := 95) rfl))) (Or.inr (hw _ (List.mem_of_getElem? (i := 89) rfl))) (by decide) (t := .int) (t' := (.object "java/util/ArrayList")) (by decide) (by decide)))
  have F_this_0_a1 := F_this_0_a1.same W1
  have F_modCount_l1 := F_modCount_l1.other W1 (Or.inl ne1)
  refine OwnW.aloadN C (pc' := 6) own_d_jdk_49_method_1_code_5 rfl rfl rfl ?_
  refine OwnW.initO C (pc' := 9) (hw _ (List.mem_of_getElem? (i := 90) rfl)) (hw _ (List.mem_of_getElem? (i := 22) rfl)) (hw _ (List.mem_of_getElem? (i := 23) rfl)) rfl (by decide) (W := 0) (Nat.le_of_eq rfl) (by decide) own_d_jdk_49_method_1_code_6 rfl ?_
  refine OwnW.aloadN C (pc' := 10) own_d_jdk_49_method_1_code_9 rfl rfl rfl ?_
  refine OwnW.iconst C (pc' := 11) own_d_jdk_49_method_1_code_10 rfl (z := -1) rfl ?_
  refine OwnW.putF C (pc' := 14) (host := "") (Or.inl (hw _ (List.mem_of_getElem? (i := 91) rfl))) Via.refl F_lastRet_a1 X_a1 (Or.inl (hw _ (List.mem_of_getElem? (i := 92) rfl))) (hw _ (List.mem_of_getElem? (i := 82) rfl)) (ty := .int) (by decide) rfl rfl g_a1 own_d_jdk_49_method_1_code_11 rfl (fun h2 W2 => ?_)
  have KH := KH.wr W2 (Or.inl (List.mem_of_getElem? (i := 0) rfl))
  have X_a1 := X_a1.wr W2
  have F_cursor_a1 := F_cursor_a1.other W2 (Or.inr (slot_ne (Or.inl (hw _ (List.mem_of_getElem? (i := 106) rfl))) (Or.inl (hw _ (List.mem_of_getElem? (i := 92) rfl))) (by decide) (t := .int) (t' := .int) (by decide) (by decide)))
  have F_lastRet_a1 := F_lastRet_a1.same W2
  have F_expectedModCount_a1 := F_expectedModCount_a1.other W2 (Or.inr (slot_ne (Or.inl (hw _ (List.mem_of_getElem? (i := 95) rfl))) (Or.inl (hw _ (List.mem_of_getElem? (i := 92) rfl))) (by decide) (t := .int) (t' := .int) (by decide) (by decide)))
  have F_this_0_a1 := F_this_0_a1.other W2 (Or.inr (slot_ne (Or.inr (hw _ (List.mem_of_getElem? (i := 89) rfl))) (Or.inl (hw _ (List.mem_of_getElem? (i := 92) rfl))) (by decide) (t := (.object "java/util/ArrayList")) (t' := .int) (by decide) (by decide)))
  have F_modCount_l1 := F_modCount_l1.other W2 (Or.inl ne1)
  refine OwnW.aloadN C (pc' := 15) own_d_jdk_49_method_1_code_14 rfl rfl rfl ?_
  refine OwnW.aloadN C (pc' := 16) own_d_jdk_49_method_1_code_15 rfl rfl rfl ?_
  refine OwnW.getF C (pc' := 19) (host := "") (Or.inl (hw _ (List.mem_of_getElem? (i := 88) rfl))) Via.refl F_this_0_a1 own_d_jdk_49_method_1_code_16 rfl ?_
  refine OwnW.getF C (pc' := 22) (host := "") (Or.inl (hw _ (List.mem_of_getElem? (i := 93) rfl))) (Via.of (hw _ (List.mem_of_getElem? (i := 35) rfl))) F_modCount_l1 own_d_jdk_49_method_1_code_19 rfl ?_
  refine OwnW.putF C (pc' := 25) (host := "") (Or.inl (hw _ (List.mem_of_getElem? (i := 94) rfl))) Via.refl F_expectedModCount_a1 X_a1 (Or.inl (hw _ (List.mem_of_getElem? (i := 95) rfl))) (hw _ (List.mem_of_getElem? (i := 82) rfl)) (ty := .int) (by decide) rfl rfl g_a1 own_d_jdk_49_method_1_code_22 rfl (fun h3 W3 => ?_)
  have KH := KH.wr W3 (Or.inl (List.mem_of_getElem? (i := 0) rfl))
  have X_a1 := X_a1.wr W3
  have F_cursor_a1 := F_cursor_a1.other W3 (Or.inr (slot_ne (Or.inl (hw _ (List.mem_of_getElem? (i := 106) rfl))) (Or.inl (hw _ (List.mem_of_getElem? (i := 95) rfl))) (by decide) (t := .int) (t' := .int) (by decide) (by decide)))
  have F_lastRet_a1 := F_lastRet_a1.other W3 (Or.inr (slot_ne (Or.inl (hw _ (List.mem_of_getElem? (i := 92) rfl))) (Or.inl (hw _ (List.mem_of_getElem? (i := 95) rfl))) (by decide) (t := .int) (t' := .int) (by decide) (by decide)))
  have F_expectedModCount_a1 := F_expectedModCount_a1.same W3
  have F_this_0_a1 := F_this_0_a1.other W3 (Or.inr (slot_ne (Or.inr (hw _ (List.mem_of_getElem? (i := 89) rfl))) (Or.inl (hw _ (List.mem_of_getElem? (i := 95) rfl))) (by decide) (t := (.object "java/util/ArrayList")) (t' := .int) (by decide) (by decide)))
  have F_modCount_l1 := F_modCount_l1.other W3 (Or.inl ne1)
  exact OwnW.retV C rfl ⟨rfl, KH, F_cursor_a1, F_lastRet_a1, F_expectedModCount_a1, F_this_0_a1⟩ (by decide) (by decide) own_d_jdk_49_method_1_code_25
set_option maxRecDepth 65536 in
set_option maxHeartbeats 40000000 in
theorem own_iterator (l : Launch) (Z : State) (a0 : Array Value) (hw : ∀ d ∈ tables_1, d.before a0 Z = true) (l1 : Addr) (mc : Int32) (h0 : Heap) (n0 : Nat) (Sz : n0 ≤ h0.size) (F_modCount_l1 : Fld Z h0 l1 "java/util/AbstractList" "modCount" "I" (.int mc)) :
    Ctr l Z (⟨"java/util/ArrayList", "iterator", "()Ljava/util/Iterator;"⟩ : MethodName) jdk_38_method_55_code 1 (some (.object "java/util/Iterator")) ({ frames := 2, cells := 1, slots := 4, locals := 26 } : Room) #[(.ref l1)] h0 n0 (fun v h => ∃ b, v = some (.ref b) ∧ h0.size ≤ b ∧ Keep h0 h [] ∧ Exa Z h b "java/util/ArrayList$Itr" ∧ Fld Z h b "java/util/ArrayList$Itr" "cursor" "I" (.int 0) ∧ Fld Z h b "java/util/ArrayList$Itr" "lastRet" "I" (.int (-1)) ∧ Fld Z h b "java/util/ArrayList$Itr" "expectedModCount" "I" (.int mc) ∧ Fld Z h b "java/util/ArrayList$Itr" "this$0" "Ljava/util/ArrayList;" (.ref l1)) := by
  refine Ctr.of (plainFor_of_name own_pn_ArrayList) ?_
  intro p e s m below meth c C
  refine Go.frame (g' := mkF m 0 #[.val (.ref l1)] []) (by first | (simp [entryFrame, mkF, argsToLocals, Value.category]; done) | rfl) ?_
  have KH := Keep.refl h0 []
  refine OwnW.newO C (pc' := 3) (K' := 1) (S' := 4) (hw _ (List.mem_of_getElem? (i := 81) rfl)) (hw _ (List.mem_of_getElem? (i := 82) rfl)) (hw _ (List.mem_of_getElem? (i := 83) rfl)) own_d_jdk_38_method_55_code_0 rfl rfl rfl (by decide) (by decide) (fun h1 b1 g1 E1 X_b1 D1 => ?_)
  have ne_l1_b1 : l1 ≠ b1 := Nat.ne_of_lt (Nat.lt_of_lt_of_eq F_modCount_l1.lt g1.symm)
  have g_b1 : n0 ≤ b1 := Nat.le_trans Sz (Nat.le_of_eq g1.symm)
  have s_b1 : h0.size ≤ b1 := Nat.le_trans KH.1 (Nat.le_of_eq g1.symm)
  have KH := KH.ext E1
  have Sz := Nat.le_trans Sz E1.1
  have F_modCount_l1 := F_modCount_l1.ext E1
  have F_this_0_b1 : Fld Z h1 b1 "java/util/ArrayList$Itr" "this$0" "Ljava/util/ArrayList;" .null := D1 (Or.inr (hw _ (List.mem_of_getElem? (i := 89) rfl))) (ty := (.object "java/util/ArrayList")) (by decide)
  have F_lastRet_b1 : Fld Z h1 b1 "java/util/ArrayList$Itr" "lastRet" "I" (.int (0 : Int32)) := D1 (Or.inl (hw _ (List.mem_of_getElem? (i := 92) rfl))) (ty := .int) (by decide)
  have F_expectedModCount_b1 : Fld Z h1 b1 "java/util/ArrayList$Itr" "expectedModCount" "I" (.int (0 : Int32)) := D1 (Or.inl (hw _ (List.mem_of_getElem? (i := 95) rfl))) (ty := .int) (by decide)
  have F_cursor_b1 : Fld Z h1 b1 "java/util/ArrayList$Itr" "cursor" "I" (.int (0 : Int32)) := D1 (Or.inl (hw _ (List.mem_of_getElem? (i := 106) rfl))) (ty := .int) (by decide)
  refine OwnW.dup C (pc' := 4) own_d_jdk_38_method_55_code_3 rfl rfl ?_
  refine OwnW.aloadN C (pc' := 5) own_d_jdk_38_method_55_code_4 rfl rfl rfl ?_
  refine OwnW.callX C (pc' := 8) (y := (⟨"java/util/ArrayList$Itr", "<init>", "(Ljava/util/ArrayList;)V"⟩ : MethodName)) (W := 1) (argsL := [(.ref l1)]) (rest := [(.ref b1)]) rfl (hw _ (List.mem_of_getElem? (i := 84) rfl)) (hw _ (List.mem_of_getElem? (i := 85) rfl)) (hw _ (List.mem_of_getElem? (i := 83) rfl)) (hw _ (List.mem_of_getElem? (i := 87) rfl)) (by decide) (own_itinit l Z a0 hw b1 l1 mc h1 n0 X_b1 F_cursor_b1 F_lastRet_b1 F_expectedModCount_b1 F_this_0_b1 g_b1 F_modCount_l1 ne_l1_b1) (K' := 1) (S' := 4) (by decide) (by decide) rfl own_pd__Ljava_util_ArrayList__V rfl (Nat.le_of_eq rfl) rfl rfl (by decide) (by decide) rfl own_d_jdk_38_method_55_code_5 rfl (fun v h2 hq => ?_)
  obtain ⟨rfl, KK, F1, F2, F3, F4⟩ := hq
  refine Go.at (st' := [(.ref b1)]) rfl ?_
  have KH := KH.trans KK (allS (Or.inr s_b1) all0)
  have X_b1 := X_b1.keep KK
  exact OwnW.retA C rfl rfl rfl ⟨b1, rfl, s_b1, KH, X_b1, F1, F2, F3, F4⟩ (by decide) (by decide) own_d_jdk_38_method_55_code_8
set_option maxRecDepth 65536 in
set_option maxHeartbeats 40000000 in
theorem own_hasNext (l : Launch) (Z : State) (a0 : Array Value) (hw : ∀ d ∈ tables_1, d.before a0 Z = true) (a1 l1 : Addr) (c1 k1 : Int32) (h0 : Heap) (n0 : Nat) (F_cursor_a1 : Fld Z h0 a1 "java/util/ArrayList$Itr" "cursor" "I" (.int c1)) (F_this_0_a1 : Fld Z h0 a1 "java/util/ArrayList$Itr" "this$0" "Ljava/util/ArrayList;" (.ref l1)) (F_size_l1 : Fld Z h0 l1 "java/util/ArrayList" "size" "I" (.int k1)) :
    Ctr l Z (⟨"java/util/ArrayList$Itr", "hasNext", "()Z"⟩ : MethodName) jdk_49_method_2_code 1 (some .boolean) ({ frames := 0, cells := 0, slots := 0, locals := 0 } : Room) #[(.ref a1)] h0 n0 (fun v h => v = some (.int (if c1 = k1 then 0 else 1)) ∧ h = h0) := by
  refine Ctr.of (plainFor_of_name own_pn_ArrayList_Itr) ?_
  intro p e s m below meth c C
  refine Go.frame (g' := mkF m 0 #[.val (.ref a1)] []) (by first | (simp [entryFrame, mkF, argsToLocals, Value.category]; done) | rfl) ?_
  refine OwnW.aloadN C (pc' := 1) own_d_jdk_49_method_2_code_0 rfl rfl rfl ?_
  refine OwnW.getF C (pc' := 4) (host := "") (Or.inl (hw _ (List.mem_of_getElem? (i := 105) rfl))) Via.refl F_cursor_a1 own_d_jdk_49_method_2_code_1 rfl ?_
  refine OwnW.aloadN C (pc' := 5) own_d_jdk_49_method_2_code_4 rfl rfl rfl ?_
  refine OwnW.getF C (pc' := 8) (host := "") (Or.inl (hw _ (List.mem_of_getElem? (i := 88) rfl))) Via.refl F_this_0_a1 own_d_jdk_49_method_2_code_5 rfl ?_
  refine OwnW.getF C (pc' := 11) (Or.inr (hw _ (List.mem_of_getElem? (i := 107) rfl))) Via.refl F_size_l1 own_d_jdk_49_method_2_code_8 rfl ?_
  refine OwnW.icEq C (pcY := 18) (pcN := 14) own_d_jdk_49_method_2_code_11 (by decide) rfl rfl (fun hc11 => ?_) (fun hc11 => ?_)
  · refine OwnW.iconst C (pc' := 19) own_d_jdk_49_method_2_code_18 rfl (z := 0) rfl ?_
    exact OwnW.retN C (t := .boolean) (z := (0 : Int32)) rfl (by simp) rfl ⟨by rw [if_pos hc11], rfl⟩ (by decide) (by decide) own_d_jdk_49_method_2_code_19
  · refine OwnW.iconst C (pc' := 15) own_d_jdk_49_method_2_code_14 rfl (z := 1) rfl ?_
    refine OwnW.goto C (pc' := 19) own_d_jdk_49_method_2_code_15 (by decide) rfl ?_
    exact OwnW.retN C (t := .boolean) (z := (1 : Int32)) rfl (by simp) rfl ⟨by rw [if_neg hc11], rfl⟩ (by decide) (by decide) own_d_jdk_49_method_2_code_19
set_option maxRecDepth 65536 in
set_option maxHeartbeats 40000000 in
theorem own_ckmod (l : Launch) (Z : State) (a0 : Array Value) (hw : ∀ d ∈ tables_1, d.before a0 Z = true) (a1 l1 : Addr) (mc : Int32) (h0 : Heap) (n0 : Nat) (F_expectedModCount_a1 : Fld Z h0 a1 "java/util/ArrayList$Itr" "expectedModCount" "I" (.int mc)) (F_this_0_a1 : Fld Z h0 a1 "java/util/ArrayList$Itr" "this$0" "Ljava/util/ArrayList;" (.ref l1)) (F_modCount_l1 : Fld Z h0 l1 "java/util/AbstractList" "modCount" "I" (.int mc)) :
    Ctr l Z (⟨"java/util/ArrayList$Itr", "checkForComodification", "()V"⟩ : MethodName) jdk_49_method_6_code 1 none ({ frames := 0, cells := 0, slots := 0, locals := 0 } : Room) #[(.ref a1)] h0 n0 (fun v h => v = none ∧ h = h0) := by
  refine Ctr.of (plainFor_of_name own_pn_ArrayList_Itr) ?_
  intro p e s m below meth c C
  refine Go.frame (g' := mkF m 0 #[.val (.ref a1)] []) (by first | (simp [entryFrame, mkF, argsToLocals, Value.category]; done) | rfl) ?_
  refine OwnW.aloadN C (pc' := 1) own_d_jdk_49_method_6_code_0 rfl rfl rfl ?_
  refine OwnW.getF C (pc' := 4) (host := "") (Or.inl (hw _ (List.mem_of_getElem? (i := 88) rfl))) Via.refl F_this_0_a1 own_d_jdk_49_method_6_code_1 rfl ?_
  refine OwnW.getF C (pc' := 7) (host := "") (Or.inl (hw _ (List.mem_of_getElem? (i := 93) rfl))) (Via.of (hw _ (List.mem_of_getElem? (i := 35) rfl))) F_modCount_l1 own_d_jdk_49_method_6_code_4 rfl ?_
  refine OwnW.aloadN C (pc' := 8) own_d_jdk_49_method_6_code_7 rfl rfl rfl ?_
  refine OwnW.getF C (pc' := 11) (host := "") (Or.inl (hw _ (List.mem_of_getElem? (i := 94) rfl))) Via.refl F_expectedModCount_a1 own_d_jdk_49_method_6_code_8 rfl ?_
  refine OwnW.icEq C (pcY := 22) (pcN := 14) own_d_jdk_49_method_6_code_11 (by decide) rfl rfl (fun hc11 => ?_) (fun hc11 => absurd rfl hc11)
  exact OwnW.retV C rfl ⟨rfl, rfl⟩ (by decide) (by decide) own_d_jdk_49_method_6_code_22
set_option maxRecDepth 65536 in
set_option maxHeartbeats 40000000 in
theorem own_next (l : Launch) (Z : State) (a0 : Array Value) (hw : ∀ d ∈ tables_1, d.before a0 Z = true) (a1 l1 b e1 : Addr) (mc : Int32) (vs : List Value) (cO : ClassId) (h0 : Heap) (n0 : Nat) (X_a1 : Exa Z h0 a1 "java/util/ArrayList$Itr") (F_cursor_a1 : Fld Z h0 a1 "java/util/ArrayList$Itr" "cursor" "I" (.int 0)) (F_lastRet_a1 : Fld Z h0 a1 "java/util/ArrayList$Itr" "lastRet" "I" (.int (-1))) (F_expectedModCount_a1 : Fld Z h0 a1 "java/util/ArrayList$Itr" "expectedModCount" "I" (.int mc)) (F_this_0_a1 : Fld Z h0 a1 "java/util/ArrayList$Itr" "this$0" "Ljava/util/ArrayList;" (.ref l1)) (g_a1 : n0 ≤ a1) (F_modCount_l1 : Fld Z h0 l1 "java/util/AbstractList" "modCount" "I" (.int mc)) (F_elementData_l1 : Fld Z h0 l1 "java/util/ArrayList" "elementData" "[Ljava/lang/Object;" (.ref b)) (F_size_l1 : Fld Z h0 l1 "java/util/ArrayList" "size" "I" (.int 1)) (V_b : Arv Z h0 b cO (.object "java/lang/Object") 10 vs .null) (hget : vs.getD (0 : Int32).toNatClampNeg .null = .ref e1) (ne1 : l1 ≠ a1) (ne2 : b ≠ a1) :
    Ctr l Z (⟨"java/util/ArrayList$Itr", "next", "()Ljava/lang/Object;"⟩ : MethodName) jdk_49_method_3_code 3 (some (.object "java/lang/Object")) ({ frames := 1, cells := 0, slots := 0, locals := 12 } : Room) #[(.ref a1)] h0 n0 (fun v h => v = some (.ref e1) ∧ Keep h0 h [a1] ∧ Fld Z h a1 "java/util/ArrayList$Itr" "cursor" "I" (.int 1) ∧ Fld Z h a1 "java/util/ArrayList$Itr" "lastRet" "I" (.int 0) ∧ Fld Z h a1 "java/util/ArrayList$Itr" "expectedModCount" "I" (.int mc) ∧ Fld Z h a1 "java/util/ArrayList$Itr" "this$0" "Ljava/util/ArrayList;" (.ref l1)) := by
  refine Ctr.of (plainFor_of_name own_pn_ArrayList_Itr) ?_
  intro p e s m below meth c C
  refine Go.frame (g' := mkF m 0 #[.val (.ref a1), .unset, .unset] []) (by first | (simp [entryFrame, mkF, argsToLocals, Value.category]; done) | rfl) ?_
  have KH := Keep.refl h0 [a1]
  refine OwnW.aloadN C (pc' := 1) own_d_jdk_49_method_3_code_0 rfl rfl rfl ?_
  refine OwnW.callV C (pc' := 4) (y := (⟨"java/util/ArrayList$Itr", "checkForComodification", "()V"⟩ : MethodName)) (z := (⟨"java/util/ArrayList$Itr", "checkForComodification", "()V"⟩ : MethodName)) (W := 0) (argsL := []) (rest := []) (hw _ (List.mem_of_getElem? (i := 116) rfl)) (hw _ (List.mem_of_getElem? (i := 117) rfl)) (notFace_of_selects (args := #[]) (mvT C.2.1 (hw _ (List.mem_of_getElem? (i := 119) rfl)))) (hw _ (List.mem_of_getElem? (i := 119) rfl)) (hw _ (List.mem_of_getElem? (i := 118) rfl)) (hw _ (List.mem_of_getElem? (i := 83) rfl)) (hw _ (List.mem_of_getElem? (i := 120) rfl)) X_a1 (by decide) (own_ckmod l Z a0 hw a1 l1 mc h0 n0 F_expectedModCount_a1 F_this_0_a1 F_modCount_l1) (K' := 0) (S' := 0) (by decide) (by decide) rfl own_pd___V rfl (Nat.le_of_eq rfl) rfl rfl (by decide) (by decide) rfl own_d_jdk_49_method_3_code_1 rfl (fun v h' hq => ?_)
  obtain ⟨rfl, hh⟩ := hq
  refine Go.at (st' := []) rfl ?_
  refine Go.heap hh ?_
  refine OwnW.aloadN C (pc' := 5) own_d_jdk_49_method_3_code_4 rfl rfl rfl ?_
  refine OwnW.getF C (pc' := 8) (host := "") (Or.inl (hw _ (List.mem_of_getElem? (i := 105) rfl))) Via.refl F_cursor_a1 own_d_jdk_49_method_3_code_5 rfl ?_
  refine OwnW.istoreN C (pc' := 9) own_d_jdk_49_method_3_code_8 rfl (l' := #[.val (.ref a1), .val (.int (0 : Int32)), .unset]) rfl ?_
  refine OwnW.iloadN C (pc' := 10) own_d_jdk_49_method_3_code_9 rfl rfl ?_
  refine OwnW.aloadN C (pc' := 11) own_d_jdk_49_method_3_code_10 rfl rfl rfl ?_
  refine OwnW.getF C (pc' := 14) (host := "") (Or.inl (hw _ (List.mem_of_getElem? (i := 88) rfl))) Via.refl F_this_0_a1 own_d_jdk_49_method_3_code_11 rfl ?_
  refine OwnW.getF C (pc' := 17) (Or.inr (hw _ (List.mem_of_getElem? (i := 107) rfl))) Via.refl F_size_l1 own_d_jdk_49_method_3_code_14 rfl ?_
  refine OwnW.icLt C (pcY := 28) (pcN := 20) own_d_jdk_49_method_3_code_17 (by decide) rfl rfl (fun hc17 => ?_) (fun hc17 => absurd (by decide) hc17)
  refine OwnW.aloadN C (pc' := 29) own_d_jdk_49_method_3_code_28 rfl rfl rfl ?_
  refine OwnW.getF C (pc' := 32) (host := "") (Or.inl (hw _ (List.mem_of_getElem? (i := 88) rfl))) Via.refl F_this_0_a1 own_d_jdk_49_method_3_code_29 rfl ?_
  refine OwnW.getF C (pc' := 35) (host := "") (Or.inl (hw _ (List.mem_of_getElem? (i := 121) rfl))) Via.refl F_elementData_l1 own_d_jdk_49_method_3_code_32 rfl ?_
  refine OwnW.astoreN C (pc' := 36) own_d_jdk_49_method_3_code_35 rfl rfl (l' := #[.val (.ref a1), .val (.int (0 : Int32)), .val (.ref b)]) rfl ?_
  refine OwnW.iloadN C (pc' := 37) own_d_jdk_49_method_3_code_36 rfl rfl ?_
  refine OwnW.aloadN C (pc' := 38) own_d_jdk_49_method_3_code_37 rfl rfl rfl ?_
  refine OwnW.alen C (pc' := 39) V_b own_d_jdk_49_method_3_code_38 rfl ?_
  refine OwnW.icLt C (pcY := 50) (pcN := 42) own_d_jdk_49_method_3_code_39 (by decide) rfl rfl (fun hc39 => ?_) (fun hc39 => absurd (by decide) hc39)
  refine OwnW.aloadN C (pc' := 51) own_d_jdk_49_method_3_code_50 rfl rfl rfl ?_
  refine OwnW.iloadN C (pc' := 52) own_d_jdk_49_method_3_code_51 rfl rfl ?_
  refine OwnW.iconst C (pc' := 53) own_d_jdk_49_method_3_code_52 rfl (z := 1) rfl ?_
  refine OwnW.iadd C (pc' := 54) own_d_jdk_49_method_3_code_53 rfl ?_
  rw [show (0 : Int32) + 1 = 1 from rfl]
  refine OwnW.putF C (pc' := 57) (host := "") (Or.inl (hw _ (List.mem_of_getElem? (i := 105) rfl))) Via.refl F_cursor_a1 X_a1 (Or.inl (hw _ (List.mem_of_getElem? (i := 106) rfl))) (hw _ (List.mem_of_getElem? (i := 82) rfl)) (ty := .int) (by decide) rfl rfl g_a1 own_d_jdk_49_method_3_code_54 rfl (fun h1 W1 => ?_)
  have KH := KH.wr W1 (Or.inl (List.mem_of_getElem? (i := 0) rfl))
  have X_a1 := X_a1.wr W1
  have F_cursor_a1 := F_cursor_a1.same W1
  have F_lastRet_a1 := F_lastRet_a1.other W1 (Or.inr (slot_ne (Or.inl (hw _ (List.mem_of_getElem? (i := 92) rfl))) (Or.inl (hw _ (List.mem_of_getElem? (i := 106) rfl))) (by decide) (t := .int) (t' := .int) (by decide) (by decide)))
  have F_expectedModCount_a1 := F_expectedModCount_a1.other W1 (Or.inr (slot_ne (Or.inl (hw _ (List.mem_of_getElem? (i := 95) rfl))) (Or.inl (hw _ (List.mem_of_getElem? (i := 106) rfl))) (by decide) (t := .int) (t' := .int) (by decide) (by decide)))
  have F_this_0_a1 := F_this_0_a1.other W1 (Or.inr (slot_ne (Or.inr (hw _ (List.mem_of_getElem? (i := 89) rfl))) (Or.inl (hw _ (List.mem_of_getElem? (i := 106) rfl))) (by decide) (t := (.object "java/util/ArrayList")) (t' := .int) (by decide) (by decide)))
  have F_modCount_l1 := F_modCount_l1.other W1 (Or.inl ne1)
  have F_elementData_l1 := F_elementData_l1.other W1 (Or.inl ne1)
  have F_size_l1 := F_size_l1.other W1 (Or.inl ne1)
  have V_b := V_b.other W1 ne2
  refine OwnW.aloadN C (pc' := 58) own_d_jdk_49_method_3_code_57 rfl rfl rfl ?_
  refine OwnW.aloadN C (pc' := 59) own_d_jdk_49_method_3_code_58 rfl rfl rfl ?_
  refine OwnW.iloadN C (pc' := 60) own_d_jdk_49_method_3_code_59 rfl rfl ?_
  refine OwnW.dupX1 C (pc' := 61) own_d_jdk_49_method_3_code_60 rfl rfl rfl ?_
  refine OwnW.putF C (pc' := 64) (host := "") (Or.inl (hw _ (List.mem_of_getElem? (i := 91) rfl))) Via.refl F_lastRet_a1 X_a1 (Or.inl (hw _ (List.mem_of_getElem? (i := 92) rfl))) (hw _ (List.mem_of_getElem? (i := 82) rfl)) (ty := .int) (by decide) rfl rfl g_a1 own_d_jdk_49_method_3_code_61 rfl (fun h2 W2 => ?_)
  have KH := KH.wr W2 (Or.inl (List.mem_of_getElem? (i := 0) rfl))
  have X_a1 := X_a1.wr W2
  have F_cursor_a1 := F_cursor_a1.other W2 (Or.inr (slot_ne (Or.inl (hw _ (List.mem_of_getElem? (i := 106) rfl))) (Or.inl (hw _ (List.mem_of_getElem? (i := 92) rfl))) (by decide) (t := .int) (t' := .int) (by decide) (by decide)))
  have F_lastRet_a1 := F_lastRet_a1.same W2
  have F_expectedModCount_a1 := F_expectedModCount_a1.other W2 (Or.inr (slot_ne (Or.inl (hw _ (List.mem_of_getElem? (i := 95) rfl))) (Or.inl (hw _ (List.mem_of_getElem? (i := 92) rfl))) (by decide) (t := .int) (t' := .int) (by decide) (by decide)))
  have F_this_0_a1 := F_this_0_a1.other W2 (Or.inr (slot_ne (Or.inr (hw _ (List.mem_of_getElem? (i := 89) rfl))) (Or.inl (hw _ (List.mem_of_getElem? (i := 92) rfl))) (by decide) (t := (.object "java/util/ArrayList")) (t' := .int) (by decide) (by decide)))
  have F_modCount_l1 := F_modCount_l1.other W2 (Or.inl ne1)
  have F_elementData_l1 := F_elementData_l1.other W2 (Or.inl ne1)
  have F_size_l1 := F_size_l1.other W2 (Or.inl ne1)
  have V_b := V_b.other W2 ne2
  refine OwnW.aaload C (pc' := 65) V_b rfl ⟨by decide, by decide⟩ (v := .ref e1) hget own_d_jdk_49_method_3_code_64 rfl ?_
  exact OwnW.retA C rfl rfl rfl ⟨rfl, KH, F_cursor_a1, F_lastRet_a1, F_expectedModCount_a1, F_this_0_a1⟩ (by decide) (by decide) own_d_jdk_49_method_3_code_65
set_option maxRecDepth 65536 in
set_option maxHeartbeats 40000000 in
theorem own_of (l : Launch) (Z : State) (a0 : Array Value) (hw : ∀ d ∈ tables_1, d.before a0 Z = true) (l1 b e1 : Addr) (mc : Int32) (vs ws : List Value) (dv : Value) (cO cB : ClassId) (h0 : Heap) (n0 : Nat) (Sz : n0 ≤ h0.size) (X_l1 : Exa Z h0 l1 "java/util/ArrayList") (F_modCount_l1 : Fld Z h0 l1 "java/util/AbstractList" "modCount" "I" (.int mc)) (F_elementData_l1 : Fld Z h0 l1 "java/util/ArrayList" "elementData" "[Ljava/lang/Object;" (.ref b)) (F_size_l1 : Fld Z h0 l1 "java/util/ArrayList" "size" "I" (.int 1)) (V_b : Arv Z h0 b cO (.object "java/lang/Object") 10 vs .null) (hget : vs.getD (0 : Int32).toNatClampNeg .null = .ref e1) (X_e1 : Exa Z h0 e1 "[B") (V_e1 : Arv Z h0 e1 cB .byte 2 ws dv) :
    Ctr l Z (⟨"com/example/kinegrid/kinegrid/server/Request", "of", "(Ljava/util/List;)Lcom/example/kinegrid/kinegrid/server/Request;"⟩ : MethodName) prog_81_method_2_code 4 (some (.object "com/example/kinegrid/kinegrid/server/Request")) ({ frames := 3, cells := 2, slots := 10, locals := 38 } : Room) #[(.ref l1)] h0 n0 (fun v h => ∃ r, v = some (.ref r) ∧ h0.size ≤ r ∧ Keep h0 h [] ∧ Exa Z h r "com/example/kinegrid/kinegrid/server/Request" ∧ Fld Z h r "com/example/kinegrid/kinegrid/server/Request" "array" "[B" .null ∧ Fld Z h r "com/example/kinegrid/kinegrid/server/Request" "bounds" "[I" .null ∧ Fld Z h r "com/example/kinegrid/kinegrid/server/Request" "arrays" "Ljava/util/List;" (.ref l1) ∧ Fld Z h r "com/example/kinegrid/kinegrid/server/Request" "firstBound" "I" (.int 0) ∧ Fld Z h r "com/example/kinegrid/kinegrid/server/Request" "size" "I" (.int 1)) := by
  refine Ctr.of (plainFor_of_name own_pn_Request) ?_
  intro p e s m below meth c C
  refine Go.frame (g' := mkF m 0 #[.val (.ref l1), .unset, .unset, .unset] []) (by first | (simp [entryFrame, mkF, argsToLocals, Value.category]; done) | rfl) ?_
  have KH := Keep.refl h0 []
  refine OwnW.newO C (pc' := 3) (K' := 1) (S' := 6) (hw _ (List.mem_of_getElem? (i := 64) rfl)) (hw _ (List.mem_of_getElem? (i := 65) rfl)) (hw _ (List.mem_of_getElem? (i := 62) rfl)) own_d_prog_81_method_2_code_0 rfl rfl rfl (by decide) (by decide) (fun h1 b1 g1 E1 X_b1 D1 => ?_)
  have ne_l1_b1 : l1 ≠ b1 := Nat.ne_of_lt (Nat.lt_of_lt_of_eq X_l1.lt g1.symm)
  have ne_b_b1 : b ≠ b1 := Nat.ne_of_lt (Nat.lt_of_lt_of_eq V_b.lt g1.symm)
  have ne_e1_b1 : e1 ≠ b1 := Nat.ne_of_lt (Nat.lt_of_lt_of_eq X_e1.lt g1.symm)
  have g_b1 : n0 ≤ b1 := Nat.le_trans Sz (Nat.le_of_eq g1.symm)
  have s_b1 : h0.size ≤ b1 := Nat.le_trans KH.1 (Nat.le_of_eq g1.symm)
  have KH := KH.ext E1
  have Sz := Nat.le_trans Sz E1.1
  have X_l1 := X_l1.ext E1
  have F_modCount_l1 := F_modCount_l1.ext E1
  have F_elementData_l1 := F_elementData_l1.ext E1
  have F_size_l1 := F_size_l1.ext E1
  have V_b := V_b.ext E1
  have X_e1 := X_e1.ext E1
  have V_e1 := V_e1.ext E1
  have F_arrays_b1 : Fld Z h1 b1 "com/example/kinegrid/kinegrid/server/Request" "arrays" "Ljava/util/List;" .null := D1 (Or.inl (hw _ (List.mem_of_getElem? (i := 71) rfl))) (ty := (.object "java/util/List")) (by decide)
  have F_copiedBytes_b1 : Fld Z h1 b1 "com/example/kinegrid/kinegrid/server/Request" "copiedBytes" "J" (.long (0 : Int64)) := D1 (Or.inl (hw _ (List.mem_of_getElem? (i := 125) rfl))) (ty := .long) (by decide)
  have F_size_b1 : Fld Z h1 b1 "com/example/kinegrid/kinegrid/server/Request" "size" "I" (.int (0 : Int32)) := D1 (Or.inl (hw _ (List.mem_of_getElem? (i := 135) rfl))) (ty := .int) (by decide)
  have F_array_b1 : Fld Z h1 b1 "com/example/kinegrid/kinegrid/server/Request" "array" "[B" .null := D1 (Or.inl (hw _ (List.mem_of_getElem? (i := 142) rfl))) (ty := (.array .byte)) (by decide)
  have F_bounds_b1 : Fld Z h1 b1 "com/example/kinegrid/kinegrid/server/Request" "bounds" "[I" .null := D1 (Or.inl (hw _ (List.mem_of_getElem? (i := 144) rfl))) (ty := (.array .int)) (by decide)
  have F_firstBound_b1 : Fld Z h1 b1 "com/example/kinegrid/kinegrid/server/Request" "firstBound" "I" (.int (0 : Int32)) := D1 (Or.inl (hw _ (List.mem_of_getElem? (i := 146) rfl))) (ty := .int) (by decide)
  refine OwnW.dup C (pc' := 4) own_d_prog_81_method_2_code_3 rfl rfl ?_
  refine OwnW.callX C (pc' := 7) (y := (⟨"com/example/kinegrid/kinegrid/server/Request", "<init>", "()V"⟩ : MethodName)) (W := 1) (argsL := []) (rest := [(.ref b1)]) rfl (hw _ (List.mem_of_getElem? (i := 66) rfl)) (hw _ (List.mem_of_getElem? (i := 67) rfl)) (hw _ (List.mem_of_getElem? (i := 62) rfl)) (hw _ (List.mem_of_getElem? (i := 68) rfl)) (by decide) (own_rqinit l Z a0 hw b1 h1 n0) (K' := 1) (S' := 6) (by decide) (by decide) rfl own_pd___V rfl (Nat.le_of_eq rfl) rfl rfl (by decide) (by decide) rfl own_d_prog_81_method_2_code_4 rfl (fun v h' hq => ?_)
  obtain ⟨rfl, hh⟩ := hq
  refine Go.at (st' := [(.ref b1)]) rfl ?_
  refine Go.heap hh ?_
  refine OwnW.astoreN C (pc' := 8) own_d_prog_81_method_2_code_7 rfl rfl (l' := #[.val (.ref l1), .val (.ref b1), .unset, .unset]) rfl ?_
  refine OwnW.aloadN C (pc' := 9) own_d_prog_81_method_2_code_8 rfl rfl rfl ?_
  refine OwnW.aloadN C (pc' := 10) own_d_prog_81_method_2_code_9 rfl rfl rfl ?_
  refine OwnW.putF C (pc' := 13) (host := "") (Or.inl (hw _ (List.mem_of_getElem? (i := 70) rfl))) Via.refl F_arrays_b1 X_b1 (Or.inl (hw _ (List.mem_of_getElem? (i := 71) rfl))) (hw _ (List.mem_of_getElem? (i := 65) rfl)) (ty := (.object "java/util/List")) (by decide) rfl rfl g_b1 own_d_prog_81_method_2_code_10 rfl (fun h2 W2 => ?_)
  have KH := KH.wr W2 (Or.inr s_b1)
  have Sz := Nat.le_trans Sz (Keep.of_wr W2).1
  have X_l1 := X_l1.wr W2
  have F_modCount_l1 := F_modCount_l1.other W2 (Or.inl ne_l1_b1)
  have F_elementData_l1 := F_elementData_l1.other W2 (Or.inl ne_l1_b1)
  have F_size_l1 := F_size_l1.other W2 (Or.inl ne_l1_b1)
  have V_b := V_b.other W2 ne_b_b1
  have X_e1 := X_e1.wr W2
  have V_e1 := V_e1.other W2 ne_e1_b1
  have X_b1 := X_b1.wr W2
  have F_arrays_b1 := F_arrays_b1.same W2
  have F_copiedBytes_b1 := F_copiedBytes_b1.other W2 (Or.inr (slot_ne (Or.inl (hw _ (List.mem_of_getElem? (i := 125) rfl))) (Or.inl (hw _ (List.mem_of_getElem? (i := 71) rfl))) (by decide) (t := .long) (t' := (.object "java/util/List")) (by decide) (by decide)))
  have F_size_b1 := F_size_b1.other W2 (Or.inr (slot_ne (Or.inl (hw _ (List.mem_of_getElem? (i := 135) rfl))) (Or.inl (hw _ (List.mem_of_getElem? (i := 71) rfl))) (by decide) (t := .int) (t' := (.object "java/util/List")) (by decide) (by decide)))
  have F_array_b1 := F_array_b1.other W2 (Or.inr (slot_ne (Or.inl (hw _ (List.mem_of_getElem? (i := 142) rfl))) (Or.inl (hw _ (List.mem_of_getElem? (i := 71) rfl))) (by decide) (t := (.array .byte)) (t' := (.object "java/util/List")) (by decide) (by decide)))
  have F_bounds_b1 := F_bounds_b1.other W2 (Or.inr (slot_ne (Or.inl (hw _ (List.mem_of_getElem? (i := 144) rfl))) (Or.inl (hw _ (List.mem_of_getElem? (i := 71) rfl))) (by decide) (t := (.array .int)) (t' := (.object "java/util/List")) (by decide) (by decide)))
  have F_firstBound_b1 := F_firstBound_b1.other W2 (Or.inr (slot_ne (Or.inl (hw _ (List.mem_of_getElem? (i := 146) rfl))) (Or.inl (hw _ (List.mem_of_getElem? (i := 71) rfl))) (by decide) (t := .int) (t' := (.object "java/util/List")) (by decide) (by decide)))
  refine OwnW.aloadN C (pc' := 14) own_d_prog_81_method_2_code_13 rfl rfl rfl ?_
  have Szc := Sz
  refine OwnW.callI C (pc' := 19) (y := (⟨"java/util/List", "iterator", "()Ljava/util/Iterator;"⟩ : MethodName)) (z := (⟨"java/util/ArrayList", "iterator", "()Ljava/util/Iterator;"⟩ : MethodName)) (W := 0) (argsL := []) (rest := []) (hw _ (List.mem_of_getElem? (i := 72) rfl)) (hw _ (List.mem_of_getElem? (i := 73) rfl)) (hw _ (List.mem_of_getElem? (i := 74) rfl)) (by first | rfl | decide) (hw _ (List.mem_of_getElem? (i := 75) rfl)) (hw _ (List.mem_of_getElem? (i := 76) rfl)) (hw _ (List.mem_of_getElem? (i := 77) rfl)) (hw _ (List.mem_of_getElem? (i := 78) rfl)) (hw _ (List.mem_of_getElem? (i := 79) rfl)) (hw _ (List.mem_of_getElem? (i := 5) rfl)) (hw _ (List.mem_of_getElem? (i := 80) rfl)) X_l1 (by decide) (own_iterator l Z a0 hw l1 mc h2 n0 Sz F_modCount_l1) (K' := 2) (S' := 10) (by decide) (by decide) rfl own_pd___Ljava_util_Iterator_ rfl (Nat.le_of_eq rfl) rfl rfl (by decide) (by decide) rfl own_d_prog_81_method_2_code_14 rfl (fun v h8 hq => ?_)
  obtain ⟨it, rfl, hb, KK, X_it, F_cursor_it', F_lastRet_it', F_expectedModCount_it', F_this_0_it'⟩ := hq
  refine Go.at (st' := [(.ref it)]) rfl ?_
  have s_it := Nat.le_trans KH.1 hb
  have g_it : n0 ≤ it := Nat.le_trans Sz hb
  have ne_l1_it : l1 ≠ it := Nat.ne_of_lt (Nat.lt_of_lt_of_le X_l1.lt hb)
  have ne_b_it : b ≠ it := Nat.ne_of_lt (Nat.lt_of_lt_of_le V_b.lt hb)
  have ne_e1_it : e1 ≠ it := Nat.ne_of_lt (Nat.lt_of_lt_of_le X_e1.lt hb)
  have ne_b1_it : b1 ≠ it := Nat.ne_of_lt (Nat.lt_of_lt_of_le X_b1.lt hb)
  have KH := KH.trans KK all0
  have Sz := Nat.le_trans Sz KK.1
  have X_l1 := X_l1.keep KK
  have F_modCount_l1 := F_modCount_l1.keep KK nin0
  have F_elementData_l1 := F_elementData_l1.keep KK nin0
  have F_size_l1 := F_size_l1.keep KK nin0
  have V_b := V_b.keep KK nin0
  have X_e1 := X_e1.keep KK
  have V_e1 := V_e1.keep KK nin0
  have X_b1 := X_b1.keep KK
  have F_arrays_b1 := F_arrays_b1.keep KK nin0
  have F_copiedBytes_b1 := F_copiedBytes_b1.keep KK nin0
  have F_size_b1 := F_size_b1.keep KK nin0
  have F_array_b1 := F_array_b1.keep KK nin0
  have F_bounds_b1 := F_bounds_b1.keep KK nin0
  have F_firstBound_b1 := F_firstBound_b1.keep KK nin0
  have F_cursor_it := F_cursor_it'
  have F_lastRet_it := F_lastRet_it'
  have F_expectedModCount_it := F_expectedModCount_it'
  have F_this_0_it := F_this_0_it'
  refine OwnW.astoreN C (pc' := 20) own_d_prog_81_method_2_code_19 rfl rfl (l' := #[.val (.ref l1), .val (.ref b1), .val (.ref it), .unset]) rfl ?_
  refine OwnW.aloadN C (pc' := 21) own_d_prog_81_method_2_code_20 rfl rfl rfl ?_
  refine OwnW.callI C (pc' := 26) (y := (⟨"java/util/Iterator", "hasNext", "()Z"⟩ : MethodName)) (z := (⟨"java/util/ArrayList$Itr", "hasNext", "()Z"⟩ : MethodName)) (W := 0) (argsL := []) (rest := []) (hw _ (List.mem_of_getElem? (i := 96) rfl)) (hw _ (List.mem_of_getElem? (i := 97) rfl)) (hw _ (List.mem_of_getElem? (i := 98) rfl)) (by first | rfl | decide) (hw _ (List.mem_of_getElem? (i := 99) rfl)) (hw _ (List.mem_of_getElem? (i := 100) rfl)) (hw _ (List.mem_of_getElem? (i := 101) rfl)) (hw _ (List.mem_of_getElem? (i := 102) rfl)) (hw _ (List.mem_of_getElem? (i := 103) rfl)) (hw _ (List.mem_of_getElem? (i := 83) rfl)) (hw _ (List.mem_of_getElem? (i := 104) rfl)) X_it (by decide) (own_hasNext l Z a0 hw it l1 (0 : Int32) 1 h8 n0 F_cursor_it F_this_0_it F_size_l1) (K' := 2) (S' := 10) (by decide) (by decide) rfl own_pd___Z rfl (Nat.le_of_eq rfl) rfl rfl (by decide) (by decide) rfl own_d_prog_81_method_2_code_21 rfl (fun v h' hq => ?_)
  obtain ⟨rfl, hh⟩ := hq
  refine Go.at (st' := [(.int (if (0 : Int32) = (1 : Int32) then (0 : Int32) else 1))]) rfl ?_
  refine Go.heap hh ?_
  refine OwnW.ifEq C (pcY := 57) (pcN := 29) own_d_prog_81_method_2_code_26 (by decide) rfl rfl (fun hc26 => absurd hc26 (by decide)) (fun hc26 => ?_)
  refine OwnW.aloadN C (pc' := 30) own_d_prog_81_method_2_code_29 rfl rfl rfl ?_
  refine OwnW.callI C (pc' := 35) (y := (⟨"java/util/Iterator", "next", "()Ljava/lang/Object;"⟩ : MethodName)) (z := (⟨"java/util/ArrayList$Itr", "next", "()Ljava/lang/Object;"⟩ : MethodName)) (W := 0) (argsL := []) (rest := []) (hw _ (List.mem_of_getElem? (i := 108) rfl)) (hw _ (List.mem_of_getElem? (i := 109) rfl)) (hw _ (List.mem_of_getElem? (i := 110) rfl)) (by first | rfl | decide) (hw _ (List.mem_of_getElem? (i := 111) rfl)) (hw _ (List.mem_of_getElem? (i := 112) rfl)) (hw _ (List.mem_of_getElem? (i := 113) rfl)) (hw _ (List.mem_of_getElem? (i := 114) rfl)) (hw _ (List.mem_of_getElem? (i := 103) rfl)) (hw _ (List.mem_of_getElem? (i := 83) rfl)) (hw _ (List.mem_of_getElem? (i := 115) rfl)) X_it (by decide) (own_next l Z a0 hw it l1 b e1 mc vs cO h8 n0 X_it F_cursor_it F_lastRet_it F_expectedModCount_it F_this_0_it g_it F_modCount_l1 F_elementData_l1 F_size_l1 V_b hget ne_l1_it ne_b_it) (K' := 2) (S' := 10) (by decide) (by decide) rfl own_pd___Ljava_lang_Object_ rfl (Nat.le_of_eq rfl) rfl rfl (by decide) (by decide) rfl own_d_prog_81_method_2_code_30 rfl (fun v h9 hq => ?_)
  obtain ⟨rfl, KK, F_cursor_it', F_lastRet_it', F_expectedModCount_it', F_this_0_it'⟩ := hq
  refine Go.at (st' := [(.ref e1)]) rfl ?_
  have KH := KH.trans KK (allS (Or.inr s_it) all0)
  have Sz := Nat.le_trans Sz KK.1
  have X_l1 := X_l1.keep KK
  have F_modCount_l1 := F_modCount_l1.keep KK (ninS ne_l1_it nin0)
  have F_elementData_l1 := F_elementData_l1.keep KK (ninS ne_l1_it nin0)
  have F_size_l1 := F_size_l1.keep KK (ninS ne_l1_it nin0)
  have V_b := V_b.keep KK (ninS ne_b_it nin0)
  have X_e1 := X_e1.keep KK
  have V_e1 := V_e1.keep KK (ninS ne_e1_it nin0)
  have X_b1 := X_b1.keep KK
  have F_arrays_b1 := F_arrays_b1.keep KK (ninS ne_b1_it nin0)
  have F_copiedBytes_b1 := F_copiedBytes_b1.keep KK (ninS ne_b1_it nin0)
  have F_size_b1 := F_size_b1.keep KK (ninS ne_b1_it nin0)
  have F_array_b1 := F_array_b1.keep KK (ninS ne_b1_it nin0)
  have F_bounds_b1 := F_bounds_b1.keep KK (ninS ne_b1_it nin0)
  have F_firstBound_b1 := F_firstBound_b1.keep KK (ninS ne_b1_it nin0)
  have X_it := X_it.keep KK
  have F_cursor_it := F_cursor_it'
  have F_lastRet_it := F_lastRet_it'
  have F_expectedModCount_it := F_expectedModCount_it'
  have F_this_0_it := F_this_0_it'
  refine OwnW.castY C (pc' := 38) (hw _ (List.mem_of_getElem? (i := 122) rfl)) (Ins.self X_e1) own_d_prog_81_method_2_code_35 rfl ?_
  refine OwnW.astoreN C (pc' := 39) own_d_prog_81_method_2_code_38 rfl rfl (l' := #[.val (.ref l1), .val (.ref b1), .val (.ref it), .val (.ref e1)]) rfl ?_
  refine OwnW.aloadN C (pc' := 40) own_d_prog_81_method_2_code_39 rfl rfl rfl ?_
  refine OwnW.dup C (pc' := 41) own_d_prog_81_method_2_code_40 rfl rfl ?_
  refine OwnW.getF C (pc' := 44) (host := "") (Or.inl (hw _ (List.mem_of_getElem? (i := 124) rfl))) Via.refl F_copiedBytes_b1 own_d_prog_81_method_2_code_41 rfl ?_
  refine OwnW.aloadN C (pc' := 45) own_d_prog_81_method_2_code_44 rfl rfl rfl ?_
  refine OwnW.alen C (pc' := 46) V_e1 own_d_prog_81_method_2_code_45 rfl ?_
  refine OwnW.bipush C (pc' := 48) own_d_prog_81_method_2_code_46 rfl (z := 24) rfl ?_
  refine OwnW.iadd C (pc' := 49) own_d_prog_81_method_2_code_48 rfl ?_
  refine OwnW.i2l C (pc' := 50) own_d_prog_81_method_2_code_49 rfl ?_
  refine OwnW.ladd C (pc' := 51) own_d_prog_81_method_2_code_50 rfl ?_
  refine OwnW.putF C (pc' := 54) (host := "") (Or.inl (hw _ (List.mem_of_getElem? (i := 124) rfl))) Via.refl F_copiedBytes_b1 X_b1 (Or.inl (hw _ (List.mem_of_getElem? (i := 125) rfl))) (hw _ (List.mem_of_getElem? (i := 65) rfl)) (ty := .long) (by decide) rfl rfl g_b1 own_d_prog_81_method_2_code_51 rfl (fun h10 W10 => ?_)
  have KH := KH.wr W10 (Or.inr s_b1)
  have Sz := Nat.le_trans Sz (Keep.of_wr W10).1
  have X_l1 := X_l1.wr W10
  have F_modCount_l1 := F_modCount_l1.other W10 (Or.inl ne_l1_b1)
  have F_elementData_l1 := F_elementData_l1.other W10 (Or.inl ne_l1_b1)
  have F_size_l1 := F_size_l1.other W10 (Or.inl ne_l1_b1)
  have V_b := V_b.other W10 ne_b_b1
  have X_e1 := X_e1.wr W10
  have V_e1 := V_e1.other W10 ne_e1_b1
  have X_b1 := X_b1.wr W10
  have F_arrays_b1 := F_arrays_b1.other W10 (Or.inr (slot_ne (Or.inl (hw _ (List.mem_of_getElem? (i := 71) rfl))) (Or.inl (hw _ (List.mem_of_getElem? (i := 125) rfl))) (by decide) (t := (.object "java/util/List")) (t' := .long) (by decide) (by decide)))
  have F_copiedBytes_b1 := F_copiedBytes_b1.same W10
  have F_size_b1 := F_size_b1.other W10 (Or.inr (slot_ne (Or.inl (hw _ (List.mem_of_getElem? (i := 135) rfl))) (Or.inl (hw _ (List.mem_of_getElem? (i := 125) rfl))) (by decide) (t := .int) (t' := .long) (by decide) (by decide)))
  have F_array_b1 := F_array_b1.other W10 (Or.inr (slot_ne (Or.inl (hw _ (List.mem_of_getElem? (i := 142) rfl))) (Or.inl (hw _ (List.mem_of_getElem? (i := 125) rfl))) (by decide) (t := (.array .byte)) (t' := .long) (by decide) (by decide)))
  have F_bounds_b1 := F_bounds_b1.other W10 (Or.inr (slot_ne (Or.inl (hw _ (List.mem_of_getElem? (i := 144) rfl))) (Or.inl (hw _ (List.mem_of_getElem? (i := 125) rfl))) (by decide) (t := (.array .int)) (t' := .long) (by decide) (by decide)))
  have F_firstBound_b1 := F_firstBound_b1.other W10 (Or.inr (slot_ne (Or.inl (hw _ (List.mem_of_getElem? (i := 146) rfl))) (Or.inl (hw _ (List.mem_of_getElem? (i := 125) rfl))) (by decide) (t := .int) (t' := .long) (by decide) (by decide)))
  have X_it := X_it.wr W10
  have F_cursor_it := F_cursor_it.other W10 (Or.inl (Ne.symm ne_b1_it))
  have F_lastRet_it := F_lastRet_it.other W10 (Or.inl (Ne.symm ne_b1_it))
  have F_expectedModCount_it := F_expectedModCount_it.other W10 (Or.inl (Ne.symm ne_b1_it))
  have F_this_0_it := F_this_0_it.other W10 (Or.inl (Ne.symm ne_b1_it))
  refine OwnW.goto C (pc' := 20) own_d_prog_81_method_2_code_54 (by decide) rfl ?_
  refine OwnW.aloadN C (pc' := 21) own_d_prog_81_method_2_code_20 rfl rfl rfl ?_
  refine OwnW.callI C (pc' := 26) (y := (⟨"java/util/Iterator", "hasNext", "()Z"⟩ : MethodName)) (z := (⟨"java/util/ArrayList$Itr", "hasNext", "()Z"⟩ : MethodName)) (W := 0) (argsL := []) (rest := []) (hw _ (List.mem_of_getElem? (i := 96) rfl)) (hw _ (List.mem_of_getElem? (i := 97) rfl)) (hw _ (List.mem_of_getElem? (i := 98) rfl)) (by first | rfl | decide) (hw _ (List.mem_of_getElem? (i := 99) rfl)) (hw _ (List.mem_of_getElem? (i := 100) rfl)) (hw _ (List.mem_of_getElem? (i := 101) rfl)) (hw _ (List.mem_of_getElem? (i := 102) rfl)) (hw _ (List.mem_of_getElem? (i := 103) rfl)) (hw _ (List.mem_of_getElem? (i := 83) rfl)) (hw _ (List.mem_of_getElem? (i := 104) rfl)) X_it (by decide) (own_hasNext l Z a0 hw it l1 (1 : Int32) 1 h10 n0 F_cursor_it F_this_0_it F_size_l1) (K' := 2) (S' := 10) (by decide) (by decide) rfl own_pd___Z rfl (Nat.le_of_eq rfl) rfl rfl (by decide) (by decide) rfl own_d_prog_81_method_2_code_21 rfl (fun v h' hq => ?_)
  obtain ⟨rfl, hh⟩ := hq
  refine Go.at (st' := [(.int (if (1 : Int32) = (1 : Int32) then (0 : Int32) else 1))]) rfl ?_
  refine Go.heap hh ?_
  refine OwnW.ifEq C (pcY := 57) (pcN := 29) own_d_prog_81_method_2_code_26 (by decide) rfl rfl (fun hc26_1 => ?_) (fun hc26_1 => absurd rfl hc26_1)
  refine OwnW.aloadN C (pc' := 58) own_d_prog_81_method_2_code_57 rfl rfl rfl ?_
  refine OwnW.aloadN C (pc' := 59) own_d_prog_81_method_2_code_58 rfl rfl rfl ?_
  refine OwnW.callI C (pc' := 64) (y := (⟨"java/util/List", "size", "()I"⟩ : MethodName)) (z := (⟨"java/util/ArrayList", "size", "()I"⟩ : MethodName)) (W := 1) (argsL := []) (rest := [(.ref b1)]) (hw _ (List.mem_of_getElem? (i := 126) rfl)) (hw _ (List.mem_of_getElem? (i := 127) rfl)) (hw _ (List.mem_of_getElem? (i := 128) rfl)) (by first | rfl | decide) (hw _ (List.mem_of_getElem? (i := 129) rfl)) (hw _ (List.mem_of_getElem? (i := 130) rfl)) (hw _ (List.mem_of_getElem? (i := 131) rfl)) (hw _ (List.mem_of_getElem? (i := 132) rfl)) (hw _ (List.mem_of_getElem? (i := 79) rfl)) (hw _ (List.mem_of_getElem? (i := 5) rfl)) (hw _ (List.mem_of_getElem? (i := 133) rfl)) X_l1 (by decide) (own_size l Z a0 hw l1 1 h10 n0 F_size_l1) (K' := 2) (S' := 10) (by decide) (by decide) rfl own_pd___I rfl (Nat.le_of_eq rfl) rfl rfl (by decide) (by decide) rfl own_d_prog_81_method_2_code_59 rfl (fun v h' hq => ?_)
  obtain ⟨rfl, hh⟩ := hq
  refine Go.at (st' := [(.int (1 : Int32)), (.ref b1)]) rfl ?_
  refine Go.heap hh ?_
  refine OwnW.putF C (pc' := 67) (host := "") (Or.inl (hw _ (List.mem_of_getElem? (i := 134) rfl))) Via.refl F_size_b1 X_b1 (Or.inl (hw _ (List.mem_of_getElem? (i := 135) rfl))) (hw _ (List.mem_of_getElem? (i := 65) rfl)) (ty := .int) (by decide) rfl rfl g_b1 own_d_prog_81_method_2_code_64 rfl (fun h11 W11 => ?_)
  have KH := KH.wr W11 (Or.inr s_b1)
  have Sz := Nat.le_trans Sz (Keep.of_wr W11).1
  have X_l1 := X_l1.wr W11
  have F_modCount_l1 := F_modCount_l1.other W11 (Or.inl ne_l1_b1)
  have F_elementData_l1 := F_elementData_l1.other W11 (Or.inl ne_l1_b1)
  have F_size_l1 := F_size_l1.other W11 (Or.inl ne_l1_b1)
  have V_b := V_b.other W11 ne_b_b1
  have X_e1 := X_e1.wr W11
  have V_e1 := V_e1.other W11 ne_e1_b1
  have X_b1 := X_b1.wr W11
  have F_arrays_b1 := F_arrays_b1.other W11 (Or.inr (slot_ne (Or.inl (hw _ (List.mem_of_getElem? (i := 71) rfl))) (Or.inl (hw _ (List.mem_of_getElem? (i := 135) rfl))) (by decide) (t := (.object "java/util/List")) (t' := .int) (by decide) (by decide)))
  have F_copiedBytes_b1 := F_copiedBytes_b1.other W11 (Or.inr (slot_ne (Or.inl (hw _ (List.mem_of_getElem? (i := 125) rfl))) (Or.inl (hw _ (List.mem_of_getElem? (i := 135) rfl))) (by decide) (t := .long) (t' := .int) (by decide) (by decide)))
  have F_size_b1 := F_size_b1.same W11
  have F_array_b1 := F_array_b1.other W11 (Or.inr (slot_ne (Or.inl (hw _ (List.mem_of_getElem? (i := 142) rfl))) (Or.inl (hw _ (List.mem_of_getElem? (i := 135) rfl))) (by decide) (t := (.array .byte)) (t' := .int) (by decide) (by decide)))
  have F_bounds_b1 := F_bounds_b1.other W11 (Or.inr (slot_ne (Or.inl (hw _ (List.mem_of_getElem? (i := 144) rfl))) (Or.inl (hw _ (List.mem_of_getElem? (i := 135) rfl))) (by decide) (t := (.array .int)) (t' := .int) (by decide) (by decide)))
  have F_firstBound_b1 := F_firstBound_b1.other W11 (Or.inr (slot_ne (Or.inl (hw _ (List.mem_of_getElem? (i := 146) rfl))) (Or.inl (hw _ (List.mem_of_getElem? (i := 135) rfl))) (by decide) (t := .int) (t' := .int) (by decide) (by decide)))
  have X_it := X_it.wr W11
  have F_cursor_it := F_cursor_it.other W11 (Or.inl (Ne.symm ne_b1_it))
  have F_lastRet_it := F_lastRet_it.other W11 (Or.inl (Ne.symm ne_b1_it))
  have F_expectedModCount_it := F_expectedModCount_it.other W11 (Or.inl (Ne.symm ne_b1_it))
  have F_this_0_it := F_this_0_it.other W11 (Or.inl (Ne.symm ne_b1_it))
  refine OwnW.aloadN C (pc' := 68) own_d_prog_81_method_2_code_67 rfl rfl rfl ?_
  exact OwnW.retA C rfl rfl rfl ⟨b1, rfl, s_b1, KH, X_b1, F_array_b1, F_bounds_b1, F_arrays_b1, F_firstBound_b1, F_size_b1⟩ (by decide) (by decide) own_d_prog_81_method_2_code_68
set_option maxRecDepth 65536 in
set_option maxHeartbeats 40000000 in
theorem own_read (l : Launch) (Z : State) (a0 : Array Value) (hw : ∀ d ∈ tables_1, d.before a0 Z = true) (a1 a2 b2 : Addr) (va vb vl : Value) (f0 s0 f1 s1 : Int32) (h0 : Heap) (n0 : Nat) (X_a1 : Exa Z h0 a1 "com/example/kinegrid/kinegrid/server/Request") (F_array_a1 : Fld Z h0 a1 "com/example/kinegrid/kinegrid/server/Request" "array" "[B" va) (F_bounds_a1 : Fld Z h0 a1 "com/example/kinegrid/kinegrid/server/Request" "bounds" "[I" vb) (F_arrays_a1 : Fld Z h0 a1 "com/example/kinegrid/kinegrid/server/Request" "arrays" "Ljava/util/List;" vl) (F_firstBound_a1 : Fld Z h0 a1 "com/example/kinegrid/kinegrid/server/Request" "firstBound" "I" (.int f0)) (F_size_a1 : Fld Z h0 a1 "com/example/kinegrid/kinegrid/server/Request" "size" "I" (.int s0)) (g_a1 : n0 ≤ a1) (ra : va.isRef = true) (rb : vb.isRef = true) (rl : vl.isRef = true) :
    Ctr l Z (⟨"com/example/kinegrid/kinegrid/server/Request", "readInPlace", "([B[III)V"⟩ : MethodName) prog_81_method_3_code 5 none ({ frames := 0, cells := 0, slots := 0, locals := 0 } : Room) #[(.ref a1), (.ref a2), (.ref b2), (.int f1), (.int s1)] h0 n0 (fun v h => v = none ∧ Keep h0 h [a1] ∧ Fld Z h a1 "com/example/kinegrid/kinegrid/server/Request" "array" "[B" (.ref a2) ∧ Fld Z h a1 "com/example/kinegrid/kinegrid/server/Request" "bounds" "[I" (.ref b2) ∧ Fld Z h a1 "com/example/kinegrid/kinegrid/server/Request" "arrays" "Ljava/util/List;" .null ∧ Fld Z h a1 "com/example/kinegrid/kinegrid/server/Request" "firstBound" "I" (.int f1) ∧ Fld Z h a1 "com/example/kinegrid/kinegrid/server/Request" "size" "I" (.int s1)) := by
  refine Ctr.of (plainFor_of_name own_pn_Request) ?_
  intro p e s m below meth c C
  refine Go.frame (g' := mkF m 0 #[.val (.ref a1), .val (.ref a2), .val (.ref b2), .val (.int f1), .val (.int s1)] []) (by first | (simp [entryFrame, mkF, argsToLocals, Value.category]; done) | rfl) ?_
  have KH := Keep.refl h0 [a1]
  refine OwnW.aloadN C (pc' := 1) own_d_prog_81_method_3_code_0 rfl rfl rfl ?_
  refine OwnW.getF C (pc' := 4) (host := "") (Or.inl (hw _ (List.mem_of_getElem? (i := 141) rfl))) Via.refl F_array_a1 own_d_prog_81_method_3_code_1 rfl ?_
  refine OwnW.aloadN C (pc' := 5) own_d_prog_81_method_3_code_4 rfl rfl rfl ?_
  refine OwnW.acEq C (pcY := 13) (pcN := 8) ra rfl own_d_prog_81_method_3_code_5 (by decide) rfl rfl (fun hc5 => ?_) (fun hc5 => ?_)
  · refine OwnW.aloadN C (pc' := 14) own_d_prog_81_method_3_code_13 rfl rfl rfl ?_
    refine OwnW.getF C (pc' := 17) (host := "") (Or.inl (hw _ (List.mem_of_getElem? (i := 143) rfl))) Via.refl F_bounds_a1 own_d_prog_81_method_3_code_14 rfl ?_
    refine OwnW.aloadN C (pc' := 18) own_d_prog_81_method_3_code_17 rfl rfl rfl ?_
    refine OwnW.acEq C (pcY := 26) (pcN := 21) rb rfl own_d_prog_81_method_3_code_18 (by decide) rfl rfl (fun hc18 => ?_) (fun hc18 => ?_)
    · refine OwnW.aloadN C (pc' := 27) own_d_prog_81_method_3_code_26 rfl rfl rfl ?_
      refine OwnW.getF C (pc' := 30) (host := "") (Or.inl (hw _ (List.mem_of_getElem? (i := 70) rfl))) Via.refl F_arrays_a1 own_d_prog_81_method_3_code_27 rfl ?_
      refine OwnW.ifnull C (pcY := 38) (pcN := 33) rl own_d_prog_81_method_3_code_30 (by decide) rfl rfl (fun hc30 => ?_) (fun hc30 => ?_)
      · refine OwnW.aloadN C (pc' := 39) own_d_prog_81_method_3_code_38 rfl rfl rfl ?_
        refine OwnW.iloadN C (pc' := 40) own_d_prog_81_method_3_code_39 rfl rfl ?_
        refine OwnW.putF C (pc' := 43) (host := "") (Or.inl (hw _ (List.mem_of_getElem? (i := 145) rfl))) Via.refl F_firstBound_a1 X_a1 (Or.inl (hw _ (List.mem_of_getElem? (i := 146) rfl))) (hw _ (List.mem_of_getElem? (i := 65) rfl)) (ty := .int) (by decide) rfl rfl g_a1 own_d_prog_81_method_3_code_40 rfl (fun h1 W1 => ?_)
        have KH := KH.wr W1 (Or.inl (List.mem_of_getElem? (i := 0) rfl))
        have X_a1 := X_a1.wr W1
        have F_array_a1 := F_array_a1.other W1 (Or.inr (slot_ne (Or.inl (hw _ (List.mem_of_getElem? (i := 142) rfl))) (Or.inl (hw _ (List.mem_of_getElem? (i := 146) rfl))) (by decide) (t := (.array .byte)) (t' := .int) (by decide) (by decide)))
        have F_bounds_a1 := F_bounds_a1.other W1 (Or.inr (slot_ne (Or.inl (hw _ (List.mem_of_getElem? (i := 144) rfl))) (Or.inl (hw _ (List.mem_of_getElem? (i := 146) rfl))) (by decide) (t := (.array .int)) (t' := .int) (by decide) (by decide)))
        have F_arrays_a1 := F_arrays_a1.other W1 (Or.inr (slot_ne (Or.inl (hw _ (List.mem_of_getElem? (i := 71) rfl))) (Or.inl (hw _ (List.mem_of_getElem? (i := 146) rfl))) (by decide) (t := (.object "java/util/List")) (t' := .int) (by decide) (by decide)))
        have F_firstBound_a1 := F_firstBound_a1.same W1
        have F_size_a1 := F_size_a1.other W1 (Or.inr (slot_ne (Or.inl (hw _ (List.mem_of_getElem? (i := 135) rfl))) (Or.inl (hw _ (List.mem_of_getElem? (i := 146) rfl))) (by decide) (t := .int) (t' := .int) (by decide) (by decide)))
        refine OwnW.aloadN C (pc' := 44) own_d_prog_81_method_3_code_43 rfl rfl rfl ?_
        refine OwnW.iload C (pc' := 46) own_d_prog_81_method_3_code_44 rfl rfl ?_
        refine OwnW.putF C (pc' := 49) (host := "") (Or.inl (hw _ (List.mem_of_getElem? (i := 134) rfl))) Via.refl F_size_a1 X_a1 (Or.inl (hw _ (List.mem_of_getElem? (i := 135) rfl))) (hw _ (List.mem_of_getElem? (i := 65) rfl)) (ty := .int) (by decide) rfl rfl g_a1 own_d_prog_81_method_3_code_46 rfl (fun h2 W2 => ?_)
        have KH := KH.wr W2 (Or.inl (List.mem_of_getElem? (i := 0) rfl))
        have X_a1 := X_a1.wr W2
        have F_array_a1 := F_array_a1.other W2 (Or.inr (slot_ne (Or.inl (hw _ (List.mem_of_getElem? (i := 142) rfl))) (Or.inl (hw _ (List.mem_of_getElem? (i := 135) rfl))) (by decide) (t := (.array .byte)) (t' := .int) (by decide) (by decide)))
        have F_bounds_a1 := F_bounds_a1.other W2 (Or.inr (slot_ne (Or.inl (hw _ (List.mem_of_getElem? (i := 144) rfl))) (Or.inl (hw _ (List.mem_of_getElem? (i := 135) rfl))) (by decide) (t := (.array .int)) (t' := .int) (by decide) (by decide)))
        have F_arrays_a1 := F_arrays_a1.other W2 (Or.inr (slot_ne (Or.inl (hw _ (List.mem_of_getElem? (i := 71) rfl))) (Or.inl (hw _ (List.mem_of_getElem? (i := 135) rfl))) (by decide) (t := (.object "java/util/List")) (t' := .int) (by decide) (by decide)))
        have F_firstBound_a1 := F_firstBound_a1.other W2 (Or.inr (slot_ne (Or.inl (hw _ (List.mem_of_getElem? (i := 146) rfl))) (Or.inl (hw _ (List.mem_of_getElem? (i := 135) rfl))) (by decide) (t := .int) (t' := .int) (by decide) (by decide)))
        have F_size_a1 := F_size_a1.same W2
        exact OwnW.retV C rfl ⟨rfl, KH, (hc5 ▸ F_array_a1), (hc18 ▸ F_bounds_a1), (hc30 ▸ F_arrays_a1), F_firstBound_a1, F_size_a1⟩ (by decide) (by decide) own_d_prog_81_method_3_code_49
      · refine OwnW.aloadN C (pc' := 34) own_d_prog_81_method_3_code_33 rfl rfl rfl ?_
        refine OwnW.aconstNull C (pc' := 35) own_d_prog_81_method_3_code_34 rfl ?_
        refine OwnW.putF C (pc' := 38) (host := "") (Or.inl (hw _ (List.mem_of_getElem? (i := 70) rfl))) Via.refl F_arrays_a1 X_a1 (Or.inl (hw _ (List.mem_of_getElem? (i := 71) rfl))) (hw _ (List.mem_of_getElem? (i := 65) rfl)) (ty := (.object "java/util/List")) (by decide) rfl rfl g_a1 own_d_prog_81_method_3_code_35 rfl (fun h1 W1 => ?_)
        have KH := KH.wr W1 (Or.inl (List.mem_of_getElem? (i := 0) rfl))
        have X_a1 := X_a1.wr W1
        have F_array_a1 := F_array_a1.other W1 (Or.inr (slot_ne (Or.inl (hw _ (List.mem_of_getElem? (i := 142) rfl))) (Or.inl (hw _ (List.mem_of_getElem? (i := 71) rfl))) (by decide) (t := (.array .byte)) (t' := (.object "java/util/List")) (by decide) (by decide)))
        have F_bounds_a1 := F_bounds_a1.other W1 (Or.inr (slot_ne (Or.inl (hw _ (List.mem_of_getElem? (i := 144) rfl))) (Or.inl (hw _ (List.mem_of_getElem? (i := 71) rfl))) (by decide) (t := (.array .int)) (t' := (.object "java/util/List")) (by decide) (by decide)))
        have F_arrays_a1 := F_arrays_a1.same W1
        have F_firstBound_a1 := F_firstBound_a1.other W1 (Or.inr (slot_ne (Or.inl (hw _ (List.mem_of_getElem? (i := 146) rfl))) (Or.inl (hw _ (List.mem_of_getElem? (i := 71) rfl))) (by decide) (t := .int) (t' := (.object "java/util/List")) (by decide) (by decide)))
        have F_size_a1 := F_size_a1.other W1 (Or.inr (slot_ne (Or.inl (hw _ (List.mem_of_getElem? (i := 135) rfl))) (Or.inl (hw _ (List.mem_of_getElem? (i := 71) rfl))) (by decide) (t := .int) (t' := (.object "java/util/List")) (by decide) (by decide)))
        refine OwnW.aloadN C (pc' := 39) own_d_prog_81_method_3_code_38 rfl rfl rfl ?_
        refine OwnW.iloadN C (pc' := 40) own_d_prog_81_method_3_code_39 rfl rfl ?_
        refine OwnW.putF C (pc' := 43) (host := "") (Or.inl (hw _ (List.mem_of_getElem? (i := 145) rfl))) Via.refl F_firstBound_a1 X_a1 (Or.inl (hw _ (List.mem_of_getElem? (i := 146) rfl))) (hw _ (List.mem_of_getElem? (i := 65) rfl)) (ty := .int) (by decide) rfl rfl g_a1 own_d_prog_81_method_3_code_40 rfl (fun h2 W2 => ?_)
        have KH := KH.wr W2 (Or.inl (List.mem_of_getElem? (i := 0) rfl))
        have X_a1 := X_a1.wr W2
        have F_array_a1 := F_array_a1.other W2 (Or.inr (slot_ne (Or.inl (hw _ (List.mem_of_getElem? (i := 142) rfl))) (Or.inl (hw _ (List.mem_of_getElem? (i := 146) rfl))) (by decide) (t := (.array .byte)) (t' := .int) (by decide) (by decide)))
        have F_bounds_a1 := F_bounds_a1.other W2 (Or.inr (slot_ne (Or.inl (hw _ (List.mem_of_getElem? (i := 144) rfl))) (Or.inl (hw _ (List.mem_of_getElem? (i := 146) rfl))) (by decide) (t := (.array .int)) (t' := .int) (by decide) (by decide)))
        have F_arrays_a1 := F_arrays_a1.other W2 (Or.inr (slot_ne (Or.inl (hw _ (List.mem_of_getElem? (i := 71) rfl))) (Or.inl (hw _ (List.mem_of_getElem? (i := 146) rfl))) (by decide) (t := (.object "java/util/List")) (t' := .int) (by decide) (by decide)))
        have F_firstBound_a1 := F_firstBound_a1.same W2
        have F_size_a1 := F_size_a1.other W2 (Or.inr (slot_ne (Or.inl (hw _ (List.mem_of_getElem? (i := 135) rfl))) (Or.inl (hw _ (List.mem_of_getElem? (i := 146) rfl))) (by decide) (t := .int) (t' := .int) (by decide) (by decide)))
        refine OwnW.aloadN C (pc' := 44) own_d_prog_81_method_3_code_43 rfl rfl rfl ?_
        refine OwnW.iload C (pc' := 46) own_d_prog_81_method_3_code_44 rfl rfl ?_
        refine OwnW.putF C (pc' := 49) (host := "") (Or.inl (hw _ (List.mem_of_getElem? (i := 134) rfl))) Via.refl F_size_a1 X_a1 (Or.inl (hw _ (List.mem_of_getElem? (i := 135) rfl))) (hw _ (List.mem_of_getElem? (i := 65) rfl)) (ty := .int) (by decide) rfl rfl g_a1 own_d_prog_81_method_3_code_46 rfl (fun h3 W3 => ?_)
        have KH := KH.wr W3 (Or.inl (List.mem_of_getElem? (i := 0) rfl))
        have X_a1 := X_a1.wr W3
        have F_array_a1 := F_array_a1.other W3 (Or.inr (slot_ne (Or.inl (hw _ (List.mem_of_getElem? (i := 142) rfl))) (Or.inl (hw _ (List.mem_of_getElem? (i := 135) rfl))) (by decide) (t := (.array .byte)) (t' := .int) (by decide) (by decide)))
        have F_bounds_a1 := F_bounds_a1.other W3 (Or.inr (slot_ne (Or.inl (hw _ (List.mem_of_getElem? (i := 144) rfl))) (Or.inl (hw _ (List.mem_of_getElem? (i := 135) rfl))) (by decide) (t := (.array .int)) (t' := .int) (by decide) (by decide)))
        have F_arrays_a1 := F_arrays_a1.other W3 (Or.inr (slot_ne (Or.inl (hw _ (List.mem_of_getElem? (i := 71) rfl))) (Or.inl (hw _ (List.mem_of_getElem? (i := 135) rfl))) (by decide) (t := (.object "java/util/List")) (t' := .int) (by decide) (by decide)))
        have F_firstBound_a1 := F_firstBound_a1.other W3 (Or.inr (slot_ne (Or.inl (hw _ (List.mem_of_getElem? (i := 146) rfl))) (Or.inl (hw _ (List.mem_of_getElem? (i := 135) rfl))) (by decide) (t := .int) (t' := .int) (by decide) (by decide)))
        have F_size_a1 := F_size_a1.same W3
        exact OwnW.retV C rfl ⟨rfl, KH, (hc5 ▸ F_array_a1), (hc18 ▸ F_bounds_a1), F_arrays_a1, F_firstBound_a1, F_size_a1⟩ (by decide) (by decide) own_d_prog_81_method_3_code_49
    · refine OwnW.aloadN C (pc' := 22) own_d_prog_81_method_3_code_21 rfl rfl rfl ?_
      refine OwnW.aloadN C (pc' := 23) own_d_prog_81_method_3_code_22 rfl rfl rfl ?_
      refine OwnW.putF C (pc' := 26) (host := "") (Or.inl (hw _ (List.mem_of_getElem? (i := 143) rfl))) Via.refl F_bounds_a1 X_a1 (Or.inl (hw _ (List.mem_of_getElem? (i := 144) rfl))) (hw _ (List.mem_of_getElem? (i := 65) rfl)) (ty := (.array .int)) (by decide) rfl rfl g_a1 own_d_prog_81_method_3_code_23 rfl (fun h1 W1 => ?_)
      have KH := KH.wr W1 (Or.inl (List.mem_of_getElem? (i := 0) rfl))
      have X_a1 := X_a1.wr W1
      have F_array_a1 := F_array_a1.other W1 (Or.inr (slot_ne (Or.inl (hw _ (List.mem_of_getElem? (i := 142) rfl))) (Or.inl (hw _ (List.mem_of_getElem? (i := 144) rfl))) (by decide) (t := (.array .byte)) (t' := (.array .int)) (by decide) (by decide)))
      have F_bounds_a1 := F_bounds_a1.same W1
      have F_arrays_a1 := F_arrays_a1.other W1 (Or.inr (slot_ne (Or.inl (hw _ (List.mem_of_getElem? (i := 71) rfl))) (Or.inl (hw _ (List.mem_of_getElem? (i := 144) rfl))) (by decide) (t := (.object "java/util/List")) (t' := (.array .int)) (by decide) (by decide)))
      have F_firstBound_a1 := F_firstBound_a1.other W1 (Or.inr (slot_ne (Or.inl (hw _ (List.mem_of_getElem? (i := 146) rfl))) (Or.inl (hw _ (List.mem_of_getElem? (i := 144) rfl))) (by decide) (t := .int) (t' := (.array .int)) (by decide) (by decide)))
      have F_size_a1 := F_size_a1.other W1 (Or.inr (slot_ne (Or.inl (hw _ (List.mem_of_getElem? (i := 135) rfl))) (Or.inl (hw _ (List.mem_of_getElem? (i := 144) rfl))) (by decide) (t := .int) (t' := (.array .int)) (by decide) (by decide)))
      refine OwnW.aloadN C (pc' := 27) own_d_prog_81_method_3_code_26 rfl rfl rfl ?_
      refine OwnW.getF C (pc' := 30) (host := "") (Or.inl (hw _ (List.mem_of_getElem? (i := 70) rfl))) Via.refl F_arrays_a1 own_d_prog_81_method_3_code_27 rfl ?_
      refine OwnW.ifnull C (pcY := 38) (pcN := 33) rl own_d_prog_81_method_3_code_30 (by decide) rfl rfl (fun hc30 => ?_) (fun hc30 => ?_)
      · refine OwnW.aloadN C (pc' := 39) own_d_prog_81_method_3_code_38 rfl rfl rfl ?_
        refine OwnW.iloadN C (pc' := 40) own_d_prog_81_method_3_code_39 rfl rfl ?_
        refine OwnW.putF C (pc' := 43) (host := "") (Or.inl (hw _ (List.mem_of_getElem? (i := 145) rfl))) Via.refl F_firstBound_a1 X_a1 (Or.inl (hw _ (List.mem_of_getElem? (i := 146) rfl))) (hw _ (List.mem_of_getElem? (i := 65) rfl)) (ty := .int) (by decide) rfl rfl g_a1 own_d_prog_81_method_3_code_40 rfl (fun h2 W2 => ?_)
        have KH := KH.wr W2 (Or.inl (List.mem_of_getElem? (i := 0) rfl))
        have X_a1 := X_a1.wr W2
        have F_array_a1 := F_array_a1.other W2 (Or.inr (slot_ne (Or.inl (hw _ (List.mem_of_getElem? (i := 142) rfl))) (Or.inl (hw _ (List.mem_of_getElem? (i := 146) rfl))) (by decide) (t := (.array .byte)) (t' := .int) (by decide) (by decide)))
        have F_bounds_a1 := F_bounds_a1.other W2 (Or.inr (slot_ne (Or.inl (hw _ (List.mem_of_getElem? (i := 144) rfl))) (Or.inl (hw _ (List.mem_of_getElem? (i := 146) rfl))) (by decide) (t := (.array .int)) (t' := .int) (by decide) (by decide)))
        have F_arrays_a1 := F_arrays_a1.other W2 (Or.inr (slot_ne (Or.inl (hw _ (List.mem_of_getElem? (i := 71) rfl))) (Or.inl (hw _ (List.mem_of_getElem? (i := 146) rfl))) (by decide) (t := (.object "java/util/List")) (t' := .int) (by decide) (by decide)))
        have F_firstBound_a1 := F_firstBound_a1.same W2
        have F_size_a1 := F_size_a1.other W2 (Or.inr (slot_ne (Or.inl (hw _ (List.mem_of_getElem? (i := 135) rfl))) (Or.inl (hw _ (List.mem_of_getElem? (i := 146) rfl))) (by decide) (t := .int) (t' := .int) (by decide) (by decide)))
        refine OwnW.aloadN C (pc' := 44) own_d_prog_81_method_3_code_43 rfl rfl rfl ?_
        refine OwnW.iload C (pc' := 46) own_d_prog_81_method_3_code_44 rfl rfl ?_
        refine OwnW.putF C (pc' := 49) (host := "") (Or.inl (hw _ (List.mem_of_getElem? (i := 134) rfl))) Via.refl F_size_a1 X_a1 (Or.inl (hw _ (List.mem_of_getElem? (i := 135) rfl))) (hw _ (List.mem_of_getElem? (i := 65) rfl)) (ty := .int) (by decide) rfl rfl g_a1 own_d_prog_81_method_3_code_46 rfl (fun h3 W3 => ?_)
        have KH := KH.wr W3 (Or.inl (List.mem_of_getElem? (i := 0) rfl))
        have X_a1 := X_a1.wr W3
        have F_array_a1 := F_array_a1.other W3 (Or.inr (slot_ne (Or.inl (hw _ (List.mem_of_getElem? (i := 142) rfl))) (Or.inl (hw _ (List.mem_of_getElem? (i := 135) rfl))) (by decide) (t := (.array .byte)) (t' := .int) (by decide) (by decide)))
        have F_bounds_a1 := F_bounds_a1.other W3 (Or.inr (slot_ne (Or.inl (hw _ (List.mem_of_getElem? (i := 144) rfl))) (Or.inl (hw _ (List.mem_of_getElem? (i := 135) rfl))) (by decide) (t := (.array .int)) (t' := .int) (by decide) (by decide)))
        have F_arrays_a1 := F_arrays_a1.other W3 (Or.inr (slot_ne (Or.inl (hw _ (List.mem_of_getElem? (i := 71) rfl))) (Or.inl (hw _ (List.mem_of_getElem? (i := 135) rfl))) (by decide) (t := (.object "java/util/List")) (t' := .int) (by decide) (by decide)))
        have F_firstBound_a1 := F_firstBound_a1.other W3 (Or.inr (slot_ne (Or.inl (hw _ (List.mem_of_getElem? (i := 146) rfl))) (Or.inl (hw _ (List.mem_of_getElem? (i := 135) rfl))) (by decide) (t := .int) (t' := .int) (by decide) (by decide)))
        have F_size_a1 := F_size_a1.same W3
        exact OwnW.retV C rfl ⟨rfl, KH, (hc5 ▸ F_array_a1), F_bounds_a1, (hc30 ▸ F_arrays_a1), F_firstBound_a1, F_size_a1⟩ (by decide) (by decide) own_d_prog_81_method_3_code_49
      · refine OwnW.aloadN C (pc' := 34) own_d_prog_81_method_3_code_33 rfl rfl rfl ?_
        refine OwnW.aconstNull C (pc' := 35) own_d_prog_81_method_3_code_34 rfl ?_
        refine OwnW.putF C (pc' := 38) (host := "") (Or.inl (hw _ (List.mem_of_getElem? (i := 70) rfl))) Via.refl F_arrays_a1 X_a1 (Or.inl (hw _ (List.mem_of_getElem? (i := 71) rfl))) (hw _ (List.mem_of_getElem? (i := 65) rfl)) (ty := (.object "java/util/List")) (by decide) rfl rfl g_a1 own_d_prog_81_method_3_code_35 rfl (fun h2 W2 => ?_)
        have KH := KH.wr W2 (Or.inl (List.mem_of_getElem? (i := 0) rfl))
        have X_a1 := X_a1.wr W2
        have F_array_a1 := F_array_a1.other W2 (Or.inr (slot_ne (Or.inl (hw _ (List.mem_of_getElem? (i := 142) rfl))) (Or.inl (hw _ (List.mem_of_getElem? (i := 71) rfl))) (by decide) (t := (.array .byte)) (t' := (.object "java/util/List")) (by decide) (by decide)))
        have F_bounds_a1 := F_bounds_a1.other W2 (Or.inr (slot_ne (Or.inl (hw _ (List.mem_of_getElem? (i := 144) rfl))) (Or.inl (hw _ (List.mem_of_getElem? (i := 71) rfl))) (by decide) (t := (.array .int)) (t' := (.object "java/util/List")) (by decide) (by decide)))
        have F_arrays_a1 := F_arrays_a1.same W2
        have F_firstBound_a1 := F_firstBound_a1.other W2 (Or.inr (slot_ne (Or.inl (hw _ (List.mem_of_getElem? (i := 146) rfl))) (Or.inl (hw _ (List.mem_of_getElem? (i := 71) rfl))) (by decide) (t := .int) (t' := (.object "java/util/List")) (by decide) (by decide)))
        have F_size_a1 := F_size_a1.other W2 (Or.inr (slot_ne (Or.inl (hw _ (List.mem_of_getElem? (i := 135) rfl))) (Or.inl (hw _ (List.mem_of_getElem? (i := 71) rfl))) (by decide) (t := .int) (t' := (.object "java/util/List")) (by decide) (by decide)))
        refine OwnW.aloadN C (pc' := 39) own_d_prog_81_method_3_code_38 rfl rfl rfl ?_
        refine OwnW.iloadN C (pc' := 40) own_d_prog_81_method_3_code_39 rfl rfl ?_
        refine OwnW.putF C (pc' := 43) (host := "") (Or.inl (hw _ (List.mem_of_getElem? (i := 145) rfl))) Via.refl F_firstBound_a1 X_a1 (Or.inl (hw _ (List.mem_of_getElem? (i := 146) rfl))) (hw _ (List.mem_of_getElem? (i := 65) rfl)) (ty := .int) (by decide) rfl rfl g_a1 own_d_prog_81_method_3_code_40 rfl (fun h3 W3 => ?_)
        have KH := KH.wr W3 (Or.inl (List.mem_of_getElem? (i := 0) rfl))
        have X_a1 := X_a1.wr W3
        have F_array_a1 := F_array_a1.other W3 (Or.inr (slot_ne (Or.inl (hw _ (List.mem_of_getElem? (i := 142) rfl))) (Or.inl (hw _ (List.mem_of_getElem? (i := 146) rfl))) (by decide) (t := (.array .byte)) (t' := .int) (by decide) (by decide)))
        have F_bounds_a1 := F_bounds_a1.other W3 (Or.inr (slot_ne (Or.inl (hw _ (List.mem_of_getElem? (i := 144) rfl))) (Or.inl (hw _ (List.mem_of_getElem? (i := 146) rfl))) (by decide) (t := (.array .int)) (t' := .int) (by decide) (by decide)))
        have F_arrays_a1 := F_arrays_a1.other W3 (Or.inr (slot_ne (Or.inl (hw _ (List.mem_of_getElem? (i := 71) rfl))) (Or.inl (hw _ (List.mem_of_getElem? (i := 146) rfl))) (by decide) (t := (.object "java/util/List")) (t' := .int) (by decide) (by decide)))
        have F_firstBound_a1 := F_firstBound_a1.same W3
        have F_size_a1 := F_size_a1.other W3 (Or.inr (slot_ne (Or.inl (hw _ (List.mem_of_getElem? (i := 135) rfl))) (Or.inl (hw _ (List.mem_of_getElem? (i := 146) rfl))) (by decide) (t := .int) (t' := .int) (by decide) (by decide)))
        refine OwnW.aloadN C (pc' := 44) own_d_prog_81_method_3_code_43 rfl rfl rfl ?_
        refine OwnW.iload C (pc' := 46) own_d_prog_81_method_3_code_44 rfl rfl ?_
        refine OwnW.putF C (pc' := 49) (host := "") (Or.inl (hw _ (List.mem_of_getElem? (i := 134) rfl))) Via.refl F_size_a1 X_a1 (Or.inl (hw _ (List.mem_of_getElem? (i := 135) rfl))) (hw _ (List.mem_of_getElem? (i := 65) rfl)) (ty := .int) (by decide) rfl rfl g_a1 own_d_prog_81_method_3_code_46 rfl (fun h4 W4 => ?_)
        have KH := KH.wr W4 (Or.inl (List.mem_of_getElem? (i := 0) rfl))
        have X_a1 := X_a1.wr W4
        have F_array_a1 := F_array_a1.other W4 (Or.inr (slot_ne (Or.inl (hw _ (List.mem_of_getElem? (i := 142) rfl))) (Or.inl (hw _ (List.mem_of_getElem? (i := 135) rfl))) (by decide) (t := (.array .byte)) (t' := .int) (by decide) (by decide)))
        have F_bounds_a1 := F_bounds_a1.other W4 (Or.inr (slot_ne (Or.inl (hw _ (List.mem_of_getElem? (i := 144) rfl))) (Or.inl (hw _ (List.mem_of_getElem? (i := 135) rfl))) (by decide) (t := (.array .int)) (t' := .int) (by decide) (by decide)))
        have F_arrays_a1 := F_arrays_a1.other W4 (Or.inr (slot_ne (Or.inl (hw _ (List.mem_of_getElem? (i := 71) rfl))) (Or.inl (hw _ (List.mem_of_getElem? (i := 135) rfl))) (by decide) (t := (.object "java/util/List")) (t' := .int) (by decide) (by decide)))
        have F_firstBound_a1 := F_firstBound_a1.other W4 (Or.inr (slot_ne (Or.inl (hw _ (List.mem_of_getElem? (i := 146) rfl))) (Or.inl (hw _ (List.mem_of_getElem? (i := 135) rfl))) (by decide) (t := .int) (t' := .int) (by decide) (by decide)))
        have F_size_a1 := F_size_a1.same W4
        exact OwnW.retV C rfl ⟨rfl, KH, (hc5 ▸ F_array_a1), F_bounds_a1, F_arrays_a1, F_firstBound_a1, F_size_a1⟩ (by decide) (by decide) own_d_prog_81_method_3_code_49
  · refine OwnW.aloadN C (pc' := 9) own_d_prog_81_method_3_code_8 rfl rfl rfl ?_
    refine OwnW.aloadN C (pc' := 10) own_d_prog_81_method_3_code_9 rfl rfl rfl ?_
    refine OwnW.putF C (pc' := 13) (host := "") (Or.inl (hw _ (List.mem_of_getElem? (i := 141) rfl))) Via.refl F_array_a1 X_a1 (Or.inl (hw _ (List.mem_of_getElem? (i := 142) rfl))) (hw _ (List.mem_of_getElem? (i := 65) rfl)) (ty := (.array .byte)) (by decide) rfl rfl g_a1 own_d_prog_81_method_3_code_10 rfl (fun h1 W1 => ?_)
    have KH := KH.wr W1 (Or.inl (List.mem_of_getElem? (i := 0) rfl))
    have X_a1 := X_a1.wr W1
    have F_array_a1 := F_array_a1.same W1
    have F_bounds_a1 := F_bounds_a1.other W1 (Or.inr (slot_ne (Or.inl (hw _ (List.mem_of_getElem? (i := 144) rfl))) (Or.inl (hw _ (List.mem_of_getElem? (i := 142) rfl))) (by decide) (t := (.array .int)) (t' := (.array .byte)) (by decide) (by decide)))
    have F_arrays_a1 := F_arrays_a1.other W1 (Or.inr (slot_ne (Or.inl (hw _ (List.mem_of_getElem? (i := 71) rfl))) (Or.inl (hw _ (List.mem_of_getElem? (i := 142) rfl))) (by decide) (t := (.object "java/util/List")) (t' := (.array .byte)) (by decide) (by decide)))
    have F_firstBound_a1 := F_firstBound_a1.other W1 (Or.inr (slot_ne (Or.inl (hw _ (List.mem_of_getElem? (i := 146) rfl))) (Or.inl (hw _ (List.mem_of_getElem? (i := 142) rfl))) (by decide) (t := .int) (t' := (.array .byte)) (by decide) (by decide)))
    have F_size_a1 := F_size_a1.other W1 (Or.inr (slot_ne (Or.inl (hw _ (List.mem_of_getElem? (i := 135) rfl))) (Or.inl (hw _ (List.mem_of_getElem? (i := 142) rfl))) (by decide) (t := .int) (t' := (.array .byte)) (by decide) (by decide)))
    refine OwnW.aloadN C (pc' := 14) own_d_prog_81_method_3_code_13 rfl rfl rfl ?_
    refine OwnW.getF C (pc' := 17) (host := "") (Or.inl (hw _ (List.mem_of_getElem? (i := 143) rfl))) Via.refl F_bounds_a1 own_d_prog_81_method_3_code_14 rfl ?_
    refine OwnW.aloadN C (pc' := 18) own_d_prog_81_method_3_code_17 rfl rfl rfl ?_
    refine OwnW.acEq C (pcY := 26) (pcN := 21) rb rfl own_d_prog_81_method_3_code_18 (by decide) rfl rfl (fun hc18 => ?_) (fun hc18 => ?_)
    · refine OwnW.aloadN C (pc' := 27) own_d_prog_81_method_3_code_26 rfl rfl rfl ?_
      refine OwnW.getF C (pc' := 30) (host := "") (Or.inl (hw _ (List.mem_of_getElem? (i := 70) rfl))) Via.refl F_arrays_a1 own_d_prog_81_method_3_code_27 rfl ?_
      refine OwnW.ifnull C (pcY := 38) (pcN := 33) rl own_d_prog_81_method_3_code_30 (by decide) rfl rfl (fun hc30 => ?_) (fun hc30 => ?_)
      · refine OwnW.aloadN C (pc' := 39) own_d_prog_81_method_3_code_38 rfl rfl rfl ?_
        refine OwnW.iloadN C (pc' := 40) own_d_prog_81_method_3_code_39 rfl rfl ?_
        refine OwnW.putF C (pc' := 43) (host := "") (Or.inl (hw _ (List.mem_of_getElem? (i := 145) rfl))) Via.refl F_firstBound_a1 X_a1 (Or.inl (hw _ (List.mem_of_getElem? (i := 146) rfl))) (hw _ (List.mem_of_getElem? (i := 65) rfl)) (ty := .int) (by decide) rfl rfl g_a1 own_d_prog_81_method_3_code_40 rfl (fun h2 W2 => ?_)
        have KH := KH.wr W2 (Or.inl (List.mem_of_getElem? (i := 0) rfl))
        have X_a1 := X_a1.wr W2
        have F_array_a1 := F_array_a1.other W2 (Or.inr (slot_ne (Or.inl (hw _ (List.mem_of_getElem? (i := 142) rfl))) (Or.inl (hw _ (List.mem_of_getElem? (i := 146) rfl))) (by decide) (t := (.array .byte)) (t' := .int) (by decide) (by decide)))
        have F_bounds_a1 := F_bounds_a1.other W2 (Or.inr (slot_ne (Or.inl (hw _ (List.mem_of_getElem? (i := 144) rfl))) (Or.inl (hw _ (List.mem_of_getElem? (i := 146) rfl))) (by decide) (t := (.array .int)) (t' := .int) (by decide) (by decide)))
        have F_arrays_a1 := F_arrays_a1.other W2 (Or.inr (slot_ne (Or.inl (hw _ (List.mem_of_getElem? (i := 71) rfl))) (Or.inl (hw _ (List.mem_of_getElem? (i := 146) rfl))) (by decide) (t := (.object "java/util/List")) (t' := .int) (by decide) (by decide)))
        have F_firstBound_a1 := F_firstBound_a1.same W2
        have F_size_a1 := F_size_a1.other W2 (Or.inr (slot_ne (Or.inl (hw _ (List.mem_of_getElem? (i := 135) rfl))) (Or.inl (hw _ (List.mem_of_getElem? (i := 146) rfl))) (by decide) (t := .int) (t' := .int) (by decide) (by decide)))
        refine OwnW.aloadN C (pc' := 44) own_d_prog_81_method_3_code_43 rfl rfl rfl ?_
        refine OwnW.iload C (pc' := 46) own_d_prog_81_method_3_code_44 rfl rfl ?_
        refine OwnW.putF C (pc' := 49) (host := "") (Or.inl (hw _ (List.mem_of_getElem? (i := 134) rfl))) Via.refl F_size_a1 X_a1 (Or.inl (hw _ (List.mem_of_getElem? (i := 135) rfl))) (hw _ (List.mem_of_getElem? (i := 65) rfl)) (ty := .int) (by decide) rfl rfl g_a1 own_d_prog_81_method_3_code_46 rfl (fun h3 W3 => ?_)
        have KH := KH.wr W3 (Or.inl (List.mem_of_getElem? (i := 0) rfl))
        have X_a1 := X_a1.wr W3
        have F_array_a1 := F_array_a1.other W3 (Or.inr (slot_ne (Or.inl (hw _ (List.mem_of_getElem? (i := 142) rfl))) (Or.inl (hw _ (List.mem_of_getElem? (i := 135) rfl))) (by decide) (t := (.array .byte)) (t' := .int) (by decide) (by decide)))
        have F_bounds_a1 := F_bounds_a1.other W3 (Or.inr (slot_ne (Or.inl (hw _ (List.mem_of_getElem? (i := 144) rfl))) (Or.inl (hw _ (List.mem_of_getElem? (i := 135) rfl))) (by decide) (t := (.array .int)) (t' := .int) (by decide) (by decide)))
        have F_arrays_a1 := F_arrays_a1.other W3 (Or.inr (slot_ne (Or.inl (hw _ (List.mem_of_getElem? (i := 71) rfl))) (Or.inl (hw _ (List.mem_of_getElem? (i := 135) rfl))) (by decide) (t := (.object "java/util/List")) (t' := .int) (by decide) (by decide)))
        have F_firstBound_a1 := F_firstBound_a1.other W3 (Or.inr (slot_ne (Or.inl (hw _ (List.mem_of_getElem? (i := 146) rfl))) (Or.inl (hw _ (List.mem_of_getElem? (i := 135) rfl))) (by decide) (t := .int) (t' := .int) (by decide) (by decide)))
        have F_size_a1 := F_size_a1.same W3
        exact OwnW.retV C rfl ⟨rfl, KH, F_array_a1, (hc18 ▸ F_bounds_a1), (hc30 ▸ F_arrays_a1), F_firstBound_a1, F_size_a1⟩ (by decide) (by decide) own_d_prog_81_method_3_code_49
      · refine OwnW.aloadN C (pc' := 34) own_d_prog_81_method_3_code_33 rfl rfl rfl ?_
        refine OwnW.aconstNull C (pc' := 35) own_d_prog_81_method_3_code_34 rfl ?_
        refine OwnW.putF C (pc' := 38) (host := "") (Or.inl (hw _ (List.mem_of_getElem? (i := 70) rfl))) Via.refl F_arrays_a1 X_a1 (Or.inl (hw _ (List.mem_of_getElem? (i := 71) rfl))) (hw _ (List.mem_of_getElem? (i := 65) rfl)) (ty := (.object "java/util/List")) (by decide) rfl rfl g_a1 own_d_prog_81_method_3_code_35 rfl (fun h2 W2 => ?_)
        have KH := KH.wr W2 (Or.inl (List.mem_of_getElem? (i := 0) rfl))
        have X_a1 := X_a1.wr W2
        have F_array_a1 := F_array_a1.other W2 (Or.inr (slot_ne (Or.inl (hw _ (List.mem_of_getElem? (i := 142) rfl))) (Or.inl (hw _ (List.mem_of_getElem? (i := 71) rfl))) (by decide) (t := (.array .byte)) (t' := (.object "java/util/List")) (by decide) (by decide)))
        have F_bounds_a1 := F_bounds_a1.other W2 (Or.inr (slot_ne (Or.inl (hw _ (List.mem_of_getElem? (i := 144) rfl))) (Or.inl (hw _ (List.mem_of_getElem? (i := 71) rfl))) (by decide) (t := (.array .int)) (t' := (.object "java/util/List")) (by decide) (by decide)))
        have F_arrays_a1 := F_arrays_a1.same W2
        have F_firstBound_a1 := F_firstBound_a1.other W2 (Or.inr (slot_ne (Or.inl (hw _ (List.mem_of_getElem? (i := 146) rfl))) (Or.inl (hw _ (List.mem_of_getElem? (i := 71) rfl))) (by decide) (t := .int) (t' := (.object "java/util/List")) (by decide) (by decide)))
        have F_size_a1 := F_size_a1.other W2 (Or.inr (slot_ne (Or.inl (hw _ (List.mem_of_getElem? (i := 135) rfl))) (Or.inl (hw _ (List.mem_of_getElem? (i := 71) rfl))) (by decide) (t := .int) (t' := (.object "java/util/List")) (by decide) (by decide)))
        refine OwnW.aloadN C (pc' := 39) own_d_prog_81_method_3_code_38 rfl rfl rfl ?_
        refine OwnW.iloadN C (pc' := 40) own_d_prog_81_method_3_code_39 rfl rfl ?_
        refine OwnW.putF C (pc' := 43) (host := "") (Or.inl (hw _ (List.mem_of_getElem? (i := 145) rfl))) Via.refl F_firstBound_a1 X_a1 (Or.inl (hw _ (List.mem_of_getElem? (i := 146) rfl))) (hw _ (List.mem_of_getElem? (i := 65) rfl)) (ty := .int) (by decide) rfl rfl g_a1 own_d_prog_81_method_3_code_40 rfl (fun h3 W3 => ?_)
        have KH := KH.wr W3 (Or.inl (List.mem_of_getElem? (i := 0) rfl))
        have X_a1 := X_a1.wr W3
        have F_array_a1 := F_array_a1.other W3 (Or.inr (slot_ne (Or.inl (hw _ (List.mem_of_getElem? (i := 142) rfl))) (Or.inl (hw _ (List.mem_of_getElem? (i := 146) rfl))) (by decide) (t := (.array .byte)) (t' := .int) (by decide) (by decide)))
        have F_bounds_a1 := F_bounds_a1.other W3 (Or.inr (slot_ne (Or.inl (hw _ (List.mem_of_getElem? (i := 144) rfl))) (Or.inl (hw _ (List.mem_of_getElem? (i := 146) rfl))) (by decide) (t := (.array .int)) (t' := .int) (by decide) (by decide)))
        have F_arrays_a1 := F_arrays_a1.other W3 (Or.inr (slot_ne (Or.inl (hw _ (List.mem_of_getElem? (i := 71) rfl))) (Or.inl (hw _ (List.mem_of_getElem? (i := 146) rfl))) (by decide) (t := (.object "java/util/List")) (t' := .int) (by decide) (by decide)))
        have F_firstBound_a1 := F_firstBound_a1.same W3
        have F_size_a1 := F_size_a1.other W3 (Or.inr (slot_ne (Or.inl (hw _ (List.mem_of_getElem? (i := 135) rfl))) (Or.inl (hw _ (List.mem_of_getElem? (i := 146) rfl))) (by decide) (t := .int) (t' := .int) (by decide) (by decide)))
        refine OwnW.aloadN C (pc' := 44) own_d_prog_81_method_3_code_43 rfl rfl rfl ?_
        refine OwnW.iload C (pc' := 46) own_d_prog_81_method_3_code_44 rfl rfl ?_
        refine OwnW.putF C (pc' := 49) (host := "") (Or.inl (hw _ (List.mem_of_getElem? (i := 134) rfl))) Via.refl F_size_a1 X_a1 (Or.inl (hw _ (List.mem_of_getElem? (i := 135) rfl))) (hw _ (List.mem_of_getElem? (i := 65) rfl)) (ty := .int) (by decide) rfl rfl g_a1 own_d_prog_81_method_3_code_46 rfl (fun h4 W4 => ?_)
        have KH := KH.wr W4 (Or.inl (List.mem_of_getElem? (i := 0) rfl))
        have X_a1 := X_a1.wr W4
        have F_array_a1 := F_array_a1.other W4 (Or.inr (slot_ne (Or.inl (hw _ (List.mem_of_getElem? (i := 142) rfl))) (Or.inl (hw _ (List.mem_of_getElem? (i := 135) rfl))) (by decide) (t := (.array .byte)) (t' := .int) (by decide) (by decide)))
        have F_bounds_a1 := F_bounds_a1.other W4 (Or.inr (slot_ne (Or.inl (hw _ (List.mem_of_getElem? (i := 144) rfl))) (Or.inl (hw _ (List.mem_of_getElem? (i := 135) rfl))) (by decide) (t := (.array .int)) (t' := .int) (by decide) (by decide)))
        have F_arrays_a1 := F_arrays_a1.other W4 (Or.inr (slot_ne (Or.inl (hw _ (List.mem_of_getElem? (i := 71) rfl))) (Or.inl (hw _ (List.mem_of_getElem? (i := 135) rfl))) (by decide) (t := (.object "java/util/List")) (t' := .int) (by decide) (by decide)))
        have F_firstBound_a1 := F_firstBound_a1.other W4 (Or.inr (slot_ne (Or.inl (hw _ (List.mem_of_getElem? (i := 146) rfl))) (Or.inl (hw _ (List.mem_of_getElem? (i := 135) rfl))) (by decide) (t := .int) (t' := .int) (by decide) (by decide)))
        have F_size_a1 := F_size_a1.same W4
        exact OwnW.retV C rfl ⟨rfl, KH, F_array_a1, (hc18 ▸ F_bounds_a1), F_arrays_a1, F_firstBound_a1, F_size_a1⟩ (by decide) (by decide) own_d_prog_81_method_3_code_49
    · refine OwnW.aloadN C (pc' := 22) own_d_prog_81_method_3_code_21 rfl rfl rfl ?_
      refine OwnW.aloadN C (pc' := 23) own_d_prog_81_method_3_code_22 rfl rfl rfl ?_
      refine OwnW.putF C (pc' := 26) (host := "") (Or.inl (hw _ (List.mem_of_getElem? (i := 143) rfl))) Via.refl F_bounds_a1 X_a1 (Or.inl (hw _ (List.mem_of_getElem? (i := 144) rfl))) (hw _ (List.mem_of_getElem? (i := 65) rfl)) (ty := (.array .int)) (by decide) rfl rfl g_a1 own_d_prog_81_method_3_code_23 rfl (fun h2 W2 => ?_)
      have KH := KH.wr W2 (Or.inl (List.mem_of_getElem? (i := 0) rfl))
      have X_a1 := X_a1.wr W2
      have F_array_a1 := F_array_a1.other W2 (Or.inr (slot_ne (Or.inl (hw _ (List.mem_of_getElem? (i := 142) rfl))) (Or.inl (hw _ (List.mem_of_getElem? (i := 144) rfl))) (by decide) (t := (.array .byte)) (t' := (.array .int)) (by decide) (by decide)))
      have F_bounds_a1 := F_bounds_a1.same W2
      have F_arrays_a1 := F_arrays_a1.other W2 (Or.inr (slot_ne (Or.inl (hw _ (List.mem_of_getElem? (i := 71) rfl))) (Or.inl (hw _ (List.mem_of_getElem? (i := 144) rfl))) (by decide) (t := (.object "java/util/List")) (t' := (.array .int)) (by decide) (by decide)))
      have F_firstBound_a1 := F_firstBound_a1.other W2 (Or.inr (slot_ne (Or.inl (hw _ (List.mem_of_getElem? (i := 146) rfl))) (Or.inl (hw _ (List.mem_of_getElem? (i := 144) rfl))) (by decide) (t := .int) (t' := (.array .int)) (by decide) (by decide)))
      have F_size_a1 := F_size_a1.other W2 (Or.inr (slot_ne (Or.inl (hw _ (List.mem_of_getElem? (i := 135) rfl))) (Or.inl (hw _ (List.mem_of_getElem? (i := 144) rfl))) (by decide) (t := .int) (t' := (.array .int)) (by decide) (by decide)))
      refine OwnW.aloadN C (pc' := 27) own_d_prog_81_method_3_code_26 rfl rfl rfl ?_
      refine OwnW.getF C (pc' := 30) (host := "") (Or.inl (hw _ (List.mem_of_getElem? (i := 70) rfl))) Via.refl F_arrays_a1 own_d_prog_81_method_3_code_27 rfl ?_
      refine OwnW.ifnull C (pcY := 38) (pcN := 33) rl own_d_prog_81_method_3_code_30 (by decide) rfl rfl (fun hc30 => ?_) (fun hc30 => ?_)
      · refine OwnW.aloadN C (pc' := 39) own_d_prog_81_method_3_code_38 rfl rfl rfl ?_
        refine OwnW.iloadN C (pc' := 40) own_d_prog_81_method_3_code_39 rfl rfl ?_
        refine OwnW.putF C (pc' := 43) (host := "") (Or.inl (hw _ (List.mem_of_getElem? (i := 145) rfl))) Via.refl F_firstBound_a1 X_a1 (Or.inl (hw _ (List.mem_of_getElem? (i := 146) rfl))) (hw _ (List.mem_of_getElem? (i := 65) rfl)) (ty := .int) (by decide) rfl rfl g_a1 own_d_prog_81_method_3_code_40 rfl (fun h3 W3 => ?_)
        have KH := KH.wr W3 (Or.inl (List.mem_of_getElem? (i := 0) rfl))
        have X_a1 := X_a1.wr W3
        have F_array_a1 := F_array_a1.other W3 (Or.inr (slot_ne (Or.inl (hw _ (List.mem_of_getElem? (i := 142) rfl))) (Or.inl (hw _ (List.mem_of_getElem? (i := 146) rfl))) (by decide) (t := (.array .byte)) (t' := .int) (by decide) (by decide)))
        have F_bounds_a1 := F_bounds_a1.other W3 (Or.inr (slot_ne (Or.inl (hw _ (List.mem_of_getElem? (i := 144) rfl))) (Or.inl (hw _ (List.mem_of_getElem? (i := 146) rfl))) (by decide) (t := (.array .int)) (t' := .int) (by decide) (by decide)))
        have F_arrays_a1 := F_arrays_a1.other W3 (Or.inr (slot_ne (Or.inl (hw _ (List.mem_of_getElem? (i := 71) rfl))) (Or.inl (hw _ (List.mem_of_getElem? (i := 146) rfl))) (by decide) (t := (.object "java/util/List")) (t' := .int) (by decide) (by decide)))
        have F_firstBound_a1 := F_firstBound_a1.same W3
        have F_size_a1 := F_size_a1.other W3 (Or.inr (slot_ne (Or.inl (hw _ (List.mem_of_getElem? (i := 135) rfl))) (Or.inl (hw _ (List.mem_of_getElem? (i := 146) rfl))) (by decide) (t := .int) (t' := .int) (by decide) (by decide)))
        refine OwnW.aloadN C (pc' := 44) own_d_prog_81_method_3_code_43 rfl rfl rfl ?_
        refine OwnW.iload C (pc' := 46) own_d_prog_81_method_3_code_44 rfl rfl ?_
        refine OwnW.putF C (pc' := 49) (host := "") (Or.inl (hw _ (List.mem_of_getElem? (i := 134) rfl))) Via.refl F_size_a1 X_a1 (Or.inl (hw _ (List.mem_of_getElem? (i := 135) rfl))) (hw _ (List.mem_of_getElem? (i := 65) rfl)) (ty := .int) (by decide) rfl rfl g_a1 own_d_prog_81_method_3_code_46 rfl (fun h4 W4 => ?_)
        have KH := KH.wr W4 (Or.inl (List.mem_of_getElem? (i := 0) rfl))
        have X_a1 := X_a1.wr W4
        have F_array_a1 := F_array_a1.other W4 (Or.inr (slot_ne (Or.inl (hw _ (List.mem_of_getElem? (i := 142) rfl))) (Or.inl (hw _ (List.mem_of_getElem? (i := 135) rfl))) (by decide) (t := (.array .byte)) (t' := .int) (by decide) (by decide)))
        have F_bounds_a1 := F_bounds_a1.other W4 (Or.inr (slot_ne (Or.inl (hw _ (List.mem_of_getElem? (i := 144) rfl))) (Or.inl (hw _ (List.mem_of_getElem? (i := 135) rfl))) (by decide) (t := (.array .int)) (t' := .int) (by decide) (by decide)))
        have F_arrays_a1 := F_arrays_a1.other W4 (Or.inr (slot_ne (Or.inl (hw _ (List.mem_of_getElem? (i := 71) rfl))) (Or.inl (hw _ (List.mem_of_getElem? (i := 135) rfl))) (by decide) (t := (.object "java/util/List")) (t' := .int) (by decide) (by decide)))
        have F_firstBound_a1 := F_firstBound_a1.other W4 (Or.inr (slot_ne (Or.inl (hw _ (List.mem_of_getElem? (i := 146) rfl))) (Or.inl (hw _ (List.mem_of_getElem? (i := 135) rfl))) (by decide) (t := .int) (t' := .int) (by decide) (by decide)))
        have F_size_a1 := F_size_a1.same W4
        exact OwnW.retV C rfl ⟨rfl, KH, F_array_a1, F_bounds_a1, (hc30 ▸ F_arrays_a1), F_firstBound_a1, F_size_a1⟩ (by decide) (by decide) own_d_prog_81_method_3_code_49
      · refine OwnW.aloadN C (pc' := 34) own_d_prog_81_method_3_code_33 rfl rfl rfl ?_
        refine OwnW.aconstNull C (pc' := 35) own_d_prog_81_method_3_code_34 rfl ?_
        refine OwnW.putF C (pc' := 38) (host := "") (Or.inl (hw _ (List.mem_of_getElem? (i := 70) rfl))) Via.refl F_arrays_a1 X_a1 (Or.inl (hw _ (List.mem_of_getElem? (i := 71) rfl))) (hw _ (List.mem_of_getElem? (i := 65) rfl)) (ty := (.object "java/util/List")) (by decide) rfl rfl g_a1 own_d_prog_81_method_3_code_35 rfl (fun h3 W3 => ?_)
        have KH := KH.wr W3 (Or.inl (List.mem_of_getElem? (i := 0) rfl))
        have X_a1 := X_a1.wr W3
        have F_array_a1 := F_array_a1.other W3 (Or.inr (slot_ne (Or.inl (hw _ (List.mem_of_getElem? (i := 142) rfl))) (Or.inl (hw _ (List.mem_of_getElem? (i := 71) rfl))) (by decide) (t := (.array .byte)) (t' := (.object "java/util/List")) (by decide) (by decide)))
        have F_bounds_a1 := F_bounds_a1.other W3 (Or.inr (slot_ne (Or.inl (hw _ (List.mem_of_getElem? (i := 144) rfl))) (Or.inl (hw _ (List.mem_of_getElem? (i := 71) rfl))) (by decide) (t := (.array .int)) (t' := (.object "java/util/List")) (by decide) (by decide)))
        have F_arrays_a1 := F_arrays_a1.same W3
        have F_firstBound_a1 := F_firstBound_a1.other W3 (Or.inr (slot_ne (Or.inl (hw _ (List.mem_of_getElem? (i := 146) rfl))) (Or.inl (hw _ (List.mem_of_getElem? (i := 71) rfl))) (by decide) (t := .int) (t' := (.object "java/util/List")) (by decide) (by decide)))
        have F_size_a1 := F_size_a1.other W3 (Or.inr (slot_ne (Or.inl (hw _ (List.mem_of_getElem? (i := 135) rfl))) (Or.inl (hw _ (List.mem_of_getElem? (i := 71) rfl))) (by decide) (t := .int) (t' := (.object "java/util/List")) (by decide) (by decide)))
        refine OwnW.aloadN C (pc' := 39) own_d_prog_81_method_3_code_38 rfl rfl rfl ?_
        refine OwnW.iloadN C (pc' := 40) own_d_prog_81_method_3_code_39 rfl rfl ?_
        refine OwnW.putF C (pc' := 43) (host := "") (Or.inl (hw _ (List.mem_of_getElem? (i := 145) rfl))) Via.refl F_firstBound_a1 X_a1 (Or.inl (hw _ (List.mem_of_getElem? (i := 146) rfl))) (hw _ (List.mem_of_getElem? (i := 65) rfl)) (ty := .int) (by decide) rfl rfl g_a1 own_d_prog_81_method_3_code_40 rfl (fun h4 W4 => ?_)
        have KH := KH.wr W4 (Or.inl (List.mem_of_getElem? (i := 0) rfl))
        have X_a1 := X_a1.wr W4
        have F_array_a1 := F_array_a1.other W4 (Or.inr (slot_ne (Or.inl (hw _ (List.mem_of_getElem? (i := 142) rfl))) (Or.inl (hw _ (List.mem_of_getElem? (i := 146) rfl))) (by decide) (t := (.array .byte)) (t' := .int) (by decide) (by decide)))
        have F_bounds_a1 := F_bounds_a1.other W4 (Or.inr (slot_ne (Or.inl (hw _ (List.mem_of_getElem? (i := 144) rfl))) (Or.inl (hw _ (List.mem_of_getElem? (i := 146) rfl))) (by decide) (t := (.array .int)) (t' := .int) (by decide) (by decide)))
        have F_arrays_a1 := F_arrays_a1.other W4 (Or.inr (slot_ne (Or.inl (hw _ (List.mem_of_getElem? (i := 71) rfl))) (Or.inl (hw _ (List.mem_of_getElem? (i := 146) rfl))) (by decide) (t := (.object "java/util/List")) (t' := .int) (by decide) (by decide)))
        have F_firstBound_a1 := F_firstBound_a1.same W4
        have F_size_a1 := F_size_a1.other W4 (Or.inr (slot_ne (Or.inl (hw _ (List.mem_of_getElem? (i := 135) rfl))) (Or.inl (hw _ (List.mem_of_getElem? (i := 146) rfl))) (by decide) (t := .int) (t' := .int) (by decide) (by decide)))
        refine OwnW.aloadN C (pc' := 44) own_d_prog_81_method_3_code_43 rfl rfl rfl ?_
        refine OwnW.iload C (pc' := 46) own_d_prog_81_method_3_code_44 rfl rfl ?_
        refine OwnW.putF C (pc' := 49) (host := "") (Or.inl (hw _ (List.mem_of_getElem? (i := 134) rfl))) Via.refl F_size_a1 X_a1 (Or.inl (hw _ (List.mem_of_getElem? (i := 135) rfl))) (hw _ (List.mem_of_getElem? (i := 65) rfl)) (ty := .int) (by decide) rfl rfl g_a1 own_d_prog_81_method_3_code_46 rfl (fun h5 W5 => ?_)
        have KH := KH.wr W5 (Or.inl (List.mem_of_getElem? (i := 0) rfl))
        have X_a1 := X_a1.wr W5
        have F_array_a1 := F_array_a1.other W5 (Or.inr (slot_ne (Or.inl (hw _ (List.mem_of_getElem? (i := 142) rfl))) (Or.inl (hw _ (List.mem_of_getElem? (i := 135) rfl))) (by decide) (t := (.array .byte)) (t' := .int) (by decide) (by decide)))
        have F_bounds_a1 := F_bounds_a1.other W5 (Or.inr (slot_ne (Or.inl (hw _ (List.mem_of_getElem? (i := 144) rfl))) (Or.inl (hw _ (List.mem_of_getElem? (i := 135) rfl))) (by decide) (t := (.array .int)) (t' := .int) (by decide) (by decide)))
        have F_arrays_a1 := F_arrays_a1.other W5 (Or.inr (slot_ne (Or.inl (hw _ (List.mem_of_getElem? (i := 71) rfl))) (Or.inl (hw _ (List.mem_of_getElem? (i := 135) rfl))) (by decide) (t := (.object "java/util/List")) (t' := .int) (by decide) (by decide)))
        have F_firstBound_a1 := F_firstBound_a1.other W5 (Or.inr (slot_ne (Or.inl (hw _ (List.mem_of_getElem? (i := 146) rfl))) (Or.inl (hw _ (List.mem_of_getElem? (i := 135) rfl))) (by decide) (t := .int) (t' := .int) (by decide) (by decide)))
        have F_size_a1 := F_size_a1.same W5
        exact OwnW.retV C rfl ⟨rfl, KH, F_array_a1, F_bounds_a1, F_arrays_a1, F_firstBound_a1, F_size_a1⟩ (by decide) (by decide) own_d_prog_81_method_3_code_49
set_option maxRecDepth 65536 in
set_option maxHeartbeats 40000000 in
theorem own_rsize (l : Launch) (Z : State) (a0 : Array Value) (hw : ∀ d ∈ tables_1, d.before a0 Z = true) (a1 : Addr) (k : Int32) (h0 : Heap) (n0 : Nat) (F : Fld Z h0 a1 "com/example/kinegrid/kinegrid/server/Request" "size" "I" (.int k)) :
    Ctr l Z (⟨"com/example/kinegrid/kinegrid/server/Request", "size", "()I"⟩ : MethodName) prog_81_method_8_code 1 (some .int) ({ frames := 0, cells := 0, slots := 0, locals := 0 } : Room) #[(.ref a1)] h0 n0 (fun v h => v = some (.int k) ∧ h = h0) := by
  refine Ctr.of (plainFor_of_name own_pn_Request) ?_
  intro p e s m below meth c C
  refine Go.frame (g' := mkF m 0 #[.val (.ref a1)] []) (by first | (simp [entryFrame, mkF, argsToLocals, Value.category]; done) | rfl) ?_
  refine OwnW.aloadN C (pc' := 1) own_d_prog_81_method_8_code_0 rfl rfl rfl ?_
  refine OwnW.getF C (pc' := 4) (host := "") (Or.inl (hw _ (List.mem_of_getElem? (i := 134) rfl))) Via.refl F own_d_prog_81_method_8_code_1 rfl ?_
  exact OwnW.retI C rfl ⟨rfl, rfl⟩ (by decide) (by decide) own_d_prog_81_method_8_code_4
set_option maxRecDepth 65536 in
set_option maxHeartbeats 40000000 in
theorem own_rcopied (l : Launch) (Z : State) (a0 : Array Value) (hw : ∀ d ∈ tables_1, d.before a0 Z = true) (a1 : Addr) (h0 : Heap) (n0 : Nat) (F : Fld Z h0 a1 "com/example/kinegrid/kinegrid/server/Request" "arrays" "Ljava/util/List;" .null) :
    Ctr l Z (⟨"com/example/kinegrid/kinegrid/server/Request", "copiedBytes", "()J"⟩ : MethodName) prog_81_method_7_code 1 (some .long) ({ frames := 0, cells := 0, slots := 0, locals := 0 } : Room) #[(.ref a1)] h0 n0 (fun v h => v = some (.long 0) ∧ h = h0) := by
  refine Ctr.of (plainFor_of_name own_pn_Request) ?_
  intro p e s m below meth c C
  refine Go.frame (g' := mkF m 0 #[.val (.ref a1)] []) (by first | (simp [entryFrame, mkF, argsToLocals, Value.category]; done) | rfl) ?_
  refine OwnW.aloadN C (pc' := 1) own_d_prog_81_method_7_code_0 rfl rfl rfl ?_
  refine OwnW.getF C (pc' := 4) (host := "") (Or.inl (hw _ (List.mem_of_getElem? (i := 70) rfl))) Via.refl F own_d_prog_81_method_7_code_1 rfl ?_
  refine OwnW.ifnonnull C (pcY := 11) (pcN := 7) rfl own_d_prog_81_method_7_code_4 (by decide) rfl rfl (fun hc4 => absurd hc4 (by rintro ⟨a, q⟩; cases q)) (fun hc4 => ?_)
  refine OwnW.lconst C (pc' := 8) own_d_prog_81_method_7_code_7 rfl (z := 0) rfl ?_
  refine OwnW.goto C (pc' := 15) own_d_prog_81_method_7_code_8 (by decide) rfl ?_
  exact OwnW.retL C rfl ⟨rfl, rfl⟩ (by decide) (by decide) own_d_prog_81_method_7_code_15
set_option maxRecDepth 65536 in
set_option maxHeartbeats 40000000 in
theorem own_rarray (l : Launch) (Z : State) (a0 : Array Value) (hw : ∀ d ∈ tables_1, d.before a0 Z = true) (a1 a2 : Addr) (p1 : Int32) (h0 : Heap) (n0 : Nat) (F : Fld Z h0 a1 "com/example/kinegrid/kinegrid/server/Request" "arrays" "Ljava/util/List;" .null) (G : Fld Z h0 a1 "com/example/kinegrid/kinegrid/server/Request" "array" "[B" (.ref a2)) :
    Ctr l Z (⟨"com/example/kinegrid/kinegrid/server/Request", "array", "(I)[B"⟩ : MethodName) prog_81_method_11_code 2 (some (.array .byte)) ({ frames := 0, cells := 0, slots := 0, locals := 0 } : Room) #[(.ref a1), (.int p1)] h0 n0 (fun v h => v = some (.ref a2) ∧ h = h0) := by
  refine Ctr.of (plainFor_of_name own_pn_Request) ?_
  intro p e s m below meth c C
  refine Go.frame (g' := mkF m 0 #[.val (.ref a1), .val (.int p1)] []) (by first | (simp [entryFrame, mkF, argsToLocals, Value.category]; done) | rfl) ?_
  refine OwnW.aloadN C (pc' := 1) own_d_prog_81_method_11_code_0 rfl rfl rfl ?_
  refine OwnW.getF C (pc' := 4) (host := "") (Or.inl (hw _ (List.mem_of_getElem? (i := 70) rfl))) Via.refl F own_d_prog_81_method_11_code_1 rfl ?_
  refine OwnW.ifnonnull C (pcY := 14) (pcN := 7) rfl own_d_prog_81_method_11_code_4 (by decide) rfl rfl (fun hc4 => absurd hc4 (by rintro ⟨a, q⟩; cases q)) (fun hc4 => ?_)
  refine OwnW.aloadN C (pc' := 8) own_d_prog_81_method_11_code_7 rfl rfl rfl ?_
  refine OwnW.getF C (pc' := 11) (host := "") (Or.inl (hw _ (List.mem_of_getElem? (i := 141) rfl))) Via.refl G own_d_prog_81_method_11_code_8 rfl ?_
  refine OwnW.goto C (pc' := 27) own_d_prog_81_method_11_code_11 (by decide) rfl ?_
  exact OwnW.retA C rfl rfl rfl ⟨rfl, rfl⟩ (by decide) (by decide) own_d_prog_81_method_11_code_27
set_option maxRecDepth 65536 in
set_option maxHeartbeats 40000000 in
theorem own_roffset (l : Launch) (Z : State) (a0 : Array Value) (hw : ∀ d ∈ tables_1, d.before a0 Z = true) (a1 b2 : Addr) (p1 s1 f1 j z : Int32) (vs : List Value) (dv : Value) (cI : ClassId) (h0 : Heap) (n0 : Nat) (F_arrays_a1 : Fld Z h0 a1 "com/example/kinegrid/kinegrid/server/Request" "arrays" "Ljava/util/List;" .null) (F_bounds_a1 : Fld Z h0 a1 "com/example/kinegrid/kinegrid/server/Request" "bounds" "[I" (.ref b2)) (F_firstBound_a1 : Fld Z h0 a1 "com/example/kinegrid/kinegrid/server/Request" "firstBound" "I" (.int f1)) (F_size_a1 : Fld Z h0 a1 "com/example/kinegrid/kinegrid/server/Request" "size" "I" (.int s1)) (V : Arv Z h0 b2 cI .int 6 vs dv) (h1 : ¬ p1 < 0) (h2 : p1 < s1) (hj : f1 + 2 * p1 = j) (hjr : ¬ j < 0 ∧ j < 6) (hv : vs.getD j.toNatClampNeg dv = .int z) :
    Ctr l Z (⟨"com/example/kinegrid/kinegrid/server/Request", "offset", "(I)I"⟩ : MethodName) prog_81_method_12_code 3 (some .int) ({ frames := 2, cells := 0, slots := 0, locals := 27 } : Room) #[(.ref a1), (.int p1)] h0 n0 (fun v h => v = some (.int z) ∧ h = h0) := by
  refine Ctr.of (plainFor_of_name own_pn_Request) ?_
  intro p e s m below meth c C
  refine Go.frame (g' := mkF m 0 #[.val (.ref a1), .val (.int p1), .unset] []) (by first | (simp [entryFrame, mkF, argsToLocals, Value.category]; done) | rfl) ?_
  refine OwnW.iloadN C (pc' := 1) own_d_prog_81_method_12_code_0 rfl rfl ?_
  refine OwnW.aloadN C (pc' := 2) own_d_prog_81_method_12_code_1 rfl rfl rfl ?_
  refine OwnW.getF C (pc' := 5) (host := "") (Or.inl (hw _ (List.mem_of_getElem? (i := 134) rfl))) Via.refl F_size_a1 own_d_prog_81_method_12_code_2 rfl ?_
  refine OwnW.callS C (pc' := 8) (y := (⟨"java/util/Objects", "checkIndex", "(II)I"⟩ : MethodName)) (W := 0) (argsL := [(.int p1), (.int s1)]) (rest := []) (hw _ (List.mem_of_getElem? (i := 169) rfl)) (hw _ (List.mem_of_getElem? (i := 170) rfl)) (hw _ (List.mem_of_getElem? (i := 171) rfl)) (hw _ (List.mem_of_getElem? (i := 172) rfl)) (by decide) (own_ci l Z a0 hw p1 s1 h0 n0 h1 h2) (K' := 0) (S' := 0) (by decide) (by decide) rfl own_pd__II_I rfl (Nat.le_of_eq rfl) rfl rfl (by decide) (by decide) rfl own_d_prog_81_method_12_code_5 rfl (fun v h' hq => ?_)
  obtain ⟨rfl, hh⟩ := hq
  refine Go.at (st' := [(.int p1)]) rfl ?_
  refine Go.heap hh ?_
  refine OwnW.istoreN C (pc' := 9) own_d_prog_81_method_12_code_8 rfl (l' := #[.val (.ref a1), .val (.int p1), .val (.int p1)]) rfl ?_
  refine OwnW.aloadN C (pc' := 10) own_d_prog_81_method_12_code_9 rfl rfl rfl ?_
  refine OwnW.getF C (pc' := 13) (host := "") (Or.inl (hw _ (List.mem_of_getElem? (i := 70) rfl))) Via.refl F_arrays_a1 own_d_prog_81_method_12_code_10 rfl ?_
  refine OwnW.ifnonnull C (pcY := 32) (pcN := 16) rfl own_d_prog_81_method_12_code_13 (by decide) rfl rfl (fun hc13 => absurd hc13 (by rintro ⟨a, q⟩; cases q)) (fun hc13 => ?_)
  refine OwnW.aloadN C (pc' := 17) own_d_prog_81_method_12_code_16 rfl rfl rfl ?_
  refine OwnW.getF C (pc' := 20) (host := "") (Or.inl (hw _ (List.mem_of_getElem? (i := 143) rfl))) Via.refl F_bounds_a1 own_d_prog_81_method_12_code_17 rfl ?_
  refine OwnW.aloadN C (pc' := 21) own_d_prog_81_method_12_code_20 rfl rfl rfl ?_
  refine OwnW.getF C (pc' := 24) (host := "") (Or.inl (hw _ (List.mem_of_getElem? (i := 145) rfl))) Via.refl F_firstBound_a1 own_d_prog_81_method_12_code_21 rfl ?_
  refine OwnW.iconst C (pc' := 25) own_d_prog_81_method_12_code_24 rfl (z := 2) rfl ?_
  refine OwnW.iloadN C (pc' := 26) own_d_prog_81_method_12_code_25 rfl rfl ?_
  refine OwnW.imul C (pc' := 27) own_d_prog_81_method_12_code_26 rfl ?_
  refine OwnW.iadd C (pc' := 28) own_d_prog_81_method_12_code_27 rfl ?_
  rw [hj]
  refine OwnW.iaload C (pc' := 29) V hjr (v := .int z) hv own_d_prog_81_method_12_code_28 rfl ?_
  refine OwnW.goto C (pc' := 33) own_d_prog_81_method_12_code_29 (by decide) rfl ?_
  exact OwnW.retI C rfl ⟨rfl, rfl⟩ (by decide) (by decide) own_d_prog_81_method_12_code_33
set_option maxRecDepth 65536 in
set_option maxHeartbeats 40000000 in
theorem own_rend (l : Launch) (Z : State) (a0 : Array Value) (hw : ∀ d ∈ tables_1, d.before a0 Z = true) (a1 b2 : Addr) (p1 s1 f1 j z : Int32) (vs : List Value) (dv : Value) (cI : ClassId) (h0 : Heap) (n0 : Nat) (F_arrays_a1 : Fld Z h0 a1 "com/example/kinegrid/kinegrid/server/Request" "arrays" "Ljava/util/List;" .null) (F_bounds_a1 : Fld Z h0 a1 "com/example/kinegrid/kinegrid/server/Request" "bounds" "[I" (.ref b2)) (F_firstBound_a1 : Fld Z h0 a1 "com/example/kinegrid/kinegrid/server/Request" "firstBound" "I" (.int f1)) (F_size_a1 : Fld Z h0 a1 "com/example/kinegrid/kinegrid/server/Request" "size" "I" (.int s1)) (V : Arv Z h0 b2 cI .int 6 vs dv) (h1 : ¬ p1 < 0) (h2 : p1 < s1) (hj : (f1 + 2 * p1) + 1 = j) (hjr : ¬ j < 0 ∧ j < 6) (hv : vs.getD j.toNatClampNeg dv = .int z) :
    Ctr l Z (⟨"com/example/kinegrid/kinegrid/server/Request", "end", "(I)I"⟩ : MethodName) prog_81_method_13_code 3 (some .int) ({ frames := 2, cells := 0, slots := 0, locals := 27 } : Room) #[(.ref a1), (.int p1)] h0 n0 (fun v h => v = some (.int z) ∧ h = h0) := by
  refine Ctr.of (plainFor_of_name own_pn_Request) ?_
  intro p e s m below meth c C
  refine Go.frame (g' := mkF m 0 #[.val (.ref a1), .val (.int p1), .unset] []) (by first | (simp [entryFrame, mkF, argsToLocals, Value.category]; done) | rfl) ?_
  refine OwnW.iloadN C (pc' := 1) own_d_prog_81_method_13_code_0 rfl rfl ?_
  refine OwnW.aloadN C (pc' := 2) own_d_prog_81_method_13_code_1 rfl rfl rfl ?_
  refine OwnW.getF C (pc' := 5) (host := "") (Or.inl (hw _ (List.mem_of_getElem? (i := 134) rfl))) Via.refl F_size_a1 own_d_prog_81_method_13_code_2 rfl ?_
  refine OwnW.callS C (pc' := 8) (y := (⟨"java/util/Objects", "checkIndex", "(II)I"⟩ : MethodName)) (W := 0) (argsL := [(.int p1), (.int s1)]) (rest := []) (hw _ (List.mem_of_getElem? (i := 169) rfl)) (hw _ (List.mem_of_getElem? (i := 170) rfl)) (hw _ (List.mem_of_getElem? (i := 171) rfl)) (hw _ (List.mem_of_getElem? (i := 172) rfl)) (by decide) (own_ci l Z a0 hw p1 s1 h0 n0 h1 h2) (K' := 0) (S' := 0) (by decide) (by decide) rfl own_pd__II_I rfl (Nat.le_of_eq rfl) rfl rfl (by decide) (by decide) rfl own_d_prog_81_method_13_code_5 rfl (fun v h' hq => ?_)
  obtain ⟨rfl, hh⟩ := hq
  refine Go.at (st' := [(.int p1)]) rfl ?_
  refine Go.heap hh ?_
  refine OwnW.istoreN C (pc' := 9) own_d_prog_81_method_13_code_8 rfl (l' := #[.val (.ref a1), .val (.int p1), .val (.int p1)]) rfl ?_
  refine OwnW.aloadN C (pc' := 10) own_d_prog_81_method_13_code_9 rfl rfl rfl ?_
  refine OwnW.getF C (pc' := 13) (host := "") (Or.inl (hw _ (List.mem_of_getElem? (i := 70) rfl))) Via.refl F_arrays_a1 own_d_prog_81_method_13_code_10 rfl ?_
  refine OwnW.ifnonnull C (pcY := 34) (pcN := 16) rfl own_d_prog_81_method_13_code_13 (by decide) rfl rfl (fun hc13 => absurd hc13 (by rintro ⟨a, q⟩; cases q)) (fun hc13 => ?_)
  refine OwnW.aloadN C (pc' := 17) own_d_prog_81_method_13_code_16 rfl rfl rfl ?_
  refine OwnW.getF C (pc' := 20) (host := "") (Or.inl (hw _ (List.mem_of_getElem? (i := 143) rfl))) Via.refl F_bounds_a1 own_d_prog_81_method_13_code_17 rfl ?_
  refine OwnW.aloadN C (pc' := 21) own_d_prog_81_method_13_code_20 rfl rfl rfl ?_
  refine OwnW.getF C (pc' := 24) (host := "") (Or.inl (hw _ (List.mem_of_getElem? (i := 145) rfl))) Via.refl F_firstBound_a1 own_d_prog_81_method_13_code_21 rfl ?_
  refine OwnW.iconst C (pc' := 25) own_d_prog_81_method_13_code_24 rfl (z := 2) rfl ?_
  refine OwnW.iloadN C (pc' := 26) own_d_prog_81_method_13_code_25 rfl rfl ?_
  refine OwnW.imul C (pc' := 27) own_d_prog_81_method_13_code_26 rfl ?_
  refine OwnW.iadd C (pc' := 28) own_d_prog_81_method_13_code_27 rfl ?_
  refine OwnW.iconst C (pc' := 29) own_d_prog_81_method_13_code_28 rfl (z := 1) rfl ?_
  refine OwnW.iadd C (pc' := 30) own_d_prog_81_method_13_code_29 rfl ?_
  rw [hj]
  refine OwnW.iaload C (pc' := 31) V hjr (v := .int z) hv own_d_prog_81_method_13_code_30 rfl ?_
  refine OwnW.goto C (pc' := 48) own_d_prog_81_method_13_code_31 (by decide) rfl ?_
  exact OwnW.retI C rfl ⟨rfl, rfl⟩ (by decide) (by decide) own_d_prog_81_method_13_code_48
theorem own_c3 (i3 : Int32) : ((i3 &&& (2147483647 : Int32)) % (3 : Int32)) = 0 ∨ ((i3 &&& (2147483647 : Int32)) % (3 : Int32)) = 1 ∨ ((i3 &&& (2147483647 : Int32)) % (3 : Int32)) = 2 := by
  have h1 := c_and i3 2147483647 (by decide)
  have h2 := (c_irem (i3 &&& 2147483647) 3 3 (by decide)).1 h1.1
  have : (((i3 &&& (2147483647 : Int32)) % (3 : Int32))).toInt = 0 ∨ (((i3 &&& (2147483647 : Int32)) % (3 : Int32))).toInt = 1 ∨ (((i3 &&& (2147483647 : Int32)) % (3 : Int32))).toInt = 2 := by omega
  rcases this with q | q | q
  · exact Or.inl (Int32.toInt_inj.mp q)
  · exact Or.inr (Or.inl (Int32.toInt_inj.mp q))
  · exact Or.inr (Or.inr ((Int32.toInt_inj.mp q)))
theorem own_ge0 (i : Int32) (h : ¬ i < 1) : 0 < i := by
  rw [Int32.lt_iff_toInt_lt] at h ⊢
  have e0 : (0 : Int32).toInt = 0 := rfl
  have e1 : (1 : Int32).toInt = 1 := rfl
  omega
theorem own_ge1 (i : Int32) (h : ¬ i < 2) : 1 < i := by
  rw [Int32.lt_iff_toInt_lt] at h ⊢
  have e0 : (2 : Int32).toInt = 2 := rfl
  have e1 : (1 : Int32).toInt = 1 := rfl
  omega
set_option maxRecDepth 65536 in
set_option maxHeartbeats 40000000 in
theorem own_law (l : Launch) (Z : State) (a0 : Array Value) (hw : ∀ d ∈ tables_1, d.before a0 Z = true) (i0 i1 i2 i3 i4 i5 : Int32) (d1 : Addr) (cD : ClassId) (h0 : Heap) (n0 : Nat) (O : Old Z n0 h0) (Sz : n0 ≤ h0.size) (S_D : Sta Z Z.heap "java/util/ArrayList" "DEFAULTCAPACITY_EMPTY_ELEMENTDATA" "[Ljava/lang/Object;" (.ref d1)) (X_d1 : Exa Z Z.heap d1 "[Ljava/lang/Object;") (V_d1 : Arv Z Z.heap d1 cD (.object "java/lang/Object") 0 [] .null) :
    Ctr l Z x code maxLocals ret room_1 #[(.int i0), (.int i1), (.int i2), (.int i3), (.int i4), (.int i5)] h0 n0 (fun v _ => v = some (.int 1)) := by
  refine Ctr.of (plainFor_of_name own_pn_RequestReadInPlacePinLaw) ?_
  intro p e s m below meth c C
  refine Go.frame (g' := mkF m 0 #[.val (.int i0), .val (.int i1), .val (.int i2), .val (.int i3), .val (.int i4), .val (.int i5), .unset, .unset, .unset, .unset, .unset, .unset, .unset, .unset, .unset] []) (by first | (simp [entryFrame, mkF, argsToLocals, Value.category, maxLocals]; done) | rfl) ?_
  refine OwnW.iconst C (pc' := 1) at_0 rfl (z := 4) rfl ?_
  refine OwnW.newPE C (pc' := 3) (K' := 1) (S' := 4) (ad := "[B") (by decide +kernel) (hw _ (List.mem_of_getElem? (i := 0) rfl)) (cap := 4) (by decide) (by decide) (by decide) at_1 rfl rfl rfl (by decide) (by decide) (fun h1 b1 cA_b1 g1 E1 V_b1 X_b1 => ?_)
  have g_b1 : n0 ≤ b1 := Nat.le_trans Sz (Nat.le_of_eq g1.symm)
  have O := O.ext E1
  have Sz := Nat.le_trans Sz E1.1
  have V_b1 : Arv Z h1 b1 cA_b1 .byte (4 : Int32) [(.int (0 : Int32)), (.int (0 : Int32)), (.int (0 : Int32)), (.int (0 : Int32))] (.int (0 : Int32)) := V_b1.pad (pad_rep [] (.int (0 : Int32)) 4)
  refine OwnW.astore C (pc' := 5) at_3 rfl rfl (l' := #[.val (.int i0), .val (.int i1), .val (.int i2), .val (.int i3), .val (.int i4), .val (.int i5), .val (.ref b1), .unset, .unset, .unset, .unset, .unset, .unset, .unset, .unset]) rfl ?_
  refine OwnW.bipush C (pc' := 7) at_5 rfl (z := 6) rfl ?_
  refine OwnW.newPE C (pc' := 9) (K' := 2) (S' := 10) (ad := "[I") (by decide +kernel) (hw _ (List.mem_of_getElem? (i := 1) rfl)) (cap := 6) (by decide) (by decide) (by decide) at_7 rfl rfl rfl (by decide) (by decide) (fun h2 b2 cA_b2 g2 E2 V_b2 X_b2 => ?_)
  have ne_b1_b2 : b1 ≠ b2 := Nat.ne_of_lt (Nat.lt_of_lt_of_eq X_b1.lt g2.symm)
  have g_b2 : n0 ≤ b2 := Nat.le_trans Sz (Nat.le_of_eq g2.symm)
  have O := O.ext E2
  have Sz := Nat.le_trans Sz E2.1
  have X_b1 := X_b1.ext E2
  have V_b1 := V_b1.ext E2
  have V_b2 : Arv Z h2 b2 cA_b2 .int (6 : Int32) [(.int (0 : Int32)), (.int (0 : Int32)), (.int (0 : Int32)), (.int (0 : Int32)), (.int (0 : Int32)), (.int (0 : Int32))] (.int (0 : Int32)) := V_b2.pad (pad_rep [] (.int (0 : Int32)) 6)
  refine OwnW.dup C (pc' := 10) at_9 rfl rfl ?_
  refine OwnW.iconst C (pc' := 11) at_10 rfl (z := 0) rfl ?_
  refine OwnW.iloadN C (pc' := 12) at_11 rfl rfl ?_
  refine OwnW.iastore C (pc' := 13) V_b2 g_b2 ⟨by decide, by decide⟩ (k := 0) rfl (Nat.le_of_ble_eq_true rfl) at_12 rfl (fun h3 W3 V_b2 => ?_)
  have V_b2 : Arv Z h3 b2 cA_b2 .int (6 : Int32) [(.int i0), (.int (0 : Int32)), (.int (0 : Int32)), (.int (0 : Int32)), (.int (0 : Int32)), (.int (0 : Int32))] (.int (0 : Int32)) := V_b2
  have O := O.wr W3 g_b2
  have Sz := Nat.le_trans Sz (Keep.of_wr W3).1
  have X_b1 := X_b1.wr W3
  have V_b1 := V_b1.other W3 ne_b1_b2
  have X_b2 := X_b2.wr W3
  refine OwnW.dup C (pc' := 14) at_13 rfl rfl ?_
  refine OwnW.iconst C (pc' := 15) at_14 rfl (z := 1) rfl ?_
  refine OwnW.iloadN C (pc' := 16) at_15 rfl rfl ?_
  refine OwnW.iastore C (pc' := 17) V_b2 g_b2 ⟨by decide, by decide⟩ (k := 1) rfl (Nat.le_of_ble_eq_true rfl) at_16 rfl (fun h4 W4 V_b2 => ?_)
  have V_b2 : Arv Z h4 b2 cA_b2 .int (6 : Int32) [(.int i0), (.int i1), (.int (0 : Int32)), (.int (0 : Int32)), (.int (0 : Int32)), (.int (0 : Int32))] (.int (0 : Int32)) := V_b2
  have O := O.wr W4 g_b2
  have Sz := Nat.le_trans Sz (Keep.of_wr W4).1
  have X_b1 := X_b1.wr W4
  have V_b1 := V_b1.other W4 ne_b1_b2
  have X_b2 := X_b2.wr W4
  refine OwnW.dup C (pc' := 18) at_17 rfl rfl ?_
  refine OwnW.iconst C (pc' := 19) at_18 rfl (z := 2) rfl ?_
  refine OwnW.iloadN C (pc' := 20) at_19 rfl rfl ?_
  refine OwnW.iastore C (pc' := 21) V_b2 g_b2 ⟨by decide, by decide⟩ (k := 2) rfl (Nat.le_of_ble_eq_true rfl) at_20 rfl (fun h5 W5 V_b2 => ?_)
  have V_b2 : Arv Z h5 b2 cA_b2 .int (6 : Int32) [(.int i0), (.int i1), (.int i2), (.int (0 : Int32)), (.int (0 : Int32)), (.int (0 : Int32))] (.int (0 : Int32)) := V_b2
  have O := O.wr W5 g_b2
  have Sz := Nat.le_trans Sz (Keep.of_wr W5).1
  have X_b1 := X_b1.wr W5
  have V_b1 := V_b1.other W5 ne_b1_b2
  have X_b2 := X_b2.wr W5
  refine OwnW.dup C (pc' := 22) at_21 rfl rfl ?_
  refine OwnW.iconst C (pc' := 23) at_22 rfl (z := 3) rfl ?_
  refine OwnW.iloadN C (pc' := 24) at_23 rfl rfl ?_
  refine OwnW.iconst C (pc' := 25) at_24 rfl (z := -1) rfl ?_
  refine OwnW.ixor C (pc' := 26) at_25 rfl ?_
  refine OwnW.iastore C (pc' := 27) V_b2 g_b2 ⟨by decide, by decide⟩ (k := 3) rfl (Nat.le_of_ble_eq_true rfl) at_26 rfl (fun h6 W6 V_b2 => ?_)
  have V_b2 : Arv Z h6 b2 cA_b2 .int (6 : Int32) [(.int i0), (.int i1), (.int i2), (.int (i0 ^^^ (-1 : Int32))), (.int (0 : Int32)), (.int (0 : Int32))] (.int (0 : Int32)) := V_b2
  have O := O.wr W6 g_b2
  have Sz := Nat.le_trans Sz (Keep.of_wr W6).1
  have X_b1 := X_b1.wr W6
  have V_b1 := V_b1.other W6 ne_b1_b2
  have X_b2 := X_b2.wr W6
  refine OwnW.dup C (pc' := 28) at_27 rfl rfl ?_
  refine OwnW.iconst C (pc' := 29) at_28 rfl (z := 4) rfl ?_
  refine OwnW.iloadN C (pc' := 30) at_29 rfl rfl ?_
  refine OwnW.iconst C (pc' := 31) at_30 rfl (z := -1) rfl ?_
  refine OwnW.ixor C (pc' := 32) at_31 rfl ?_
  refine OwnW.iastore C (pc' := 33) V_b2 g_b2 ⟨by decide, by decide⟩ (k := 4) rfl (Nat.le_of_ble_eq_true rfl) at_32 rfl (fun h7 W7 V_b2 => ?_)
  have V_b2 : Arv Z h7 b2 cA_b2 .int (6 : Int32) [(.int i0), (.int i1), (.int i2), (.int (i0 ^^^ (-1 : Int32))), (.int (i1 ^^^ (-1 : Int32))), (.int (0 : Int32))] (.int (0 : Int32)) := V_b2
  have O := O.wr W7 g_b2
  have Sz := Nat.le_trans Sz (Keep.of_wr W7).1
  have X_b1 := X_b1.wr W7
  have V_b1 := V_b1.other W7 ne_b1_b2
  have X_b2 := X_b2.wr W7
  refine OwnW.dup C (pc' := 34) at_33 rfl rfl ?_
  refine OwnW.iconst C (pc' := 35) at_34 rfl (z := 5) rfl ?_
  refine OwnW.iloadN C (pc' := 36) at_35 rfl rfl ?_
  refine OwnW.iconst C (pc' := 37) at_36 rfl (z := -1) rfl ?_
  refine OwnW.ixor C (pc' := 38) at_37 rfl ?_
  refine OwnW.iastore C (pc' := 39) V_b2 g_b2 ⟨by decide, by decide⟩ (k := 5) rfl (Nat.le_of_ble_eq_true rfl) at_38 rfl (fun h8 W8 V_b2 => ?_)
  have V_b2 : Arv Z h8 b2 cA_b2 .int (6 : Int32) [(.int i0), (.int i1), (.int i2), (.int (i0 ^^^ (-1 : Int32))), (.int (i1 ^^^ (-1 : Int32))), (.int (i2 ^^^ (-1 : Int32)))] (.int (0 : Int32)) := V_b2
  have O := O.wr W8 g_b2
  have Sz := Nat.le_trans Sz (Keep.of_wr W8).1
  have X_b1 := X_b1.wr W8
  have V_b1 := V_b1.other W8 ne_b1_b2
  have X_b2 := X_b2.wr W8
  refine OwnW.astore C (pc' := 41) at_39 rfl rfl (l' := #[.val (.int i0), .val (.int i1), .val (.int i2), .val (.int i3), .val (.int i4), .val (.int i5), .val (.ref b1), .val (.ref b2), .unset, .unset, .unset, .unset, .unset, .unset, .unset]) rfl ?_
  refine OwnW.iloadN C (pc' := 42) at_41 rfl rfl ?_
  refine OwnW.ldcI C (pc' := 44) at_42 rfl (v := 2147483647) (hw _ (List.mem_of_getElem? (i := 2) rfl)) ?_
  refine OwnW.iand C (pc' := 45) at_44 rfl ?_
  refine OwnW.iconst C (pc' := 46) at_45 rfl (z := 3) rfl ?_
  refine OwnW.irem C (pc' := 47) at_46 rfl (by first | decide | assumption) ?_
  refine OwnW.istore C (pc' := 49) at_47 rfl (l' := #[.val (.int i0), .val (.int i1), .val (.int i2), .val (.int i3), .val (.int i4), .val (.int i5), .val (.ref b1), .val (.ref b2), .val (.int ((i3 &&& (2147483647 : Int32)) % (3 : Int32))), .unset, .unset, .unset, .unset, .unset, .unset]) rfl ?_
  have hfb := own_c3 i3
  obtain ⟨fb, hk⟩ : ∃ k, k = ((i3 &&& (2147483647 : Int32)) % (3 : Int32)) := ⟨_, rfl⟩
  rw [← hk] at hfb ⊢
  have J : ∀ (h : Heap) (r : Addr) (va vb vl : Value) (fb j9 j10 j11 f0 s0 : Int32) (s13 s14 : Slot) (o13 : One s13) (o14 : One s14) (hfb : fb = 0 ∨ fb = 1 ∨ fb = 2) (X_r : Exa Z h r "com/example/kinegrid/kinegrid/server/Request") (F_array_r : Fld Z h r "com/example/kinegrid/kinegrid/server/Request" "array" "[B" va) (F_bounds_r : Fld Z h r "com/example/kinegrid/kinegrid/server/Request" "bounds" "[I" vb) (F_arrays_r : Fld Z h r "com/example/kinegrid/kinegrid/server/Request" "arrays" "Ljava/util/List;" vl) (F_firstBound_r : Fld Z h r "com/example/kinegrid/kinegrid/server/Request" "firstBound" "I" (.int f0)) (F_size_r : Fld Z h r "com/example/kinegrid/kinegrid/server/Request" "size" "I" (.int s0)) (g_r : n0 ≤ r) (ra : va.isRef = true) (rb : vb.isRef = true) (rl : vl.isRef = true) (V_b2 : Arv Z h b2 cA_b2 .int 6 [(.int i0), (.int i1), (.int i2), (.int (i0 ^^^ (-1 : Int32))), (.int (i1 ^^^ (-1 : Int32))), (.int (i2 ^^^ (-1 : Int32)))] (.int 0)) (ne_b2_r : b2 ≠ r), Go p l e room_1 s m #[(.int i0), (.int i1), (.int i2), (.int i3), (.int i4), (.int i5)] below meth c n0 (fun v _ => v = some (.int 1)) 10 48 h (mkF m 188 #[.val (.int i0), .val (.int i1), .val (.int i2), .val (.int i3), .val (.int i4), .val (.int i5), .val (.ref b1), .val (.ref b2), .val (.int fb), .val (.int j9), .val (.int j10), .val (.int j11), .val (.ref r), s13, s14] []) := by
    intro h r va vb vl fb j9 j10 j11 f0 s0 s13 s14 o13 o14 hfb X_r F_array_r F_bounds_r F_arrays_r F_firstBound_r F_size_r g_r ra rb rl V_b2 ne_b2_r
    rcases hfb with rfl | rfl | rfl
    · skip
      refine OwnW.aload C (pc' := 190) at_188 rfl rfl rfl ?_
      refine OwnW.aload C (pc' := 192) at_190 rfl rfl rfl ?_
      refine OwnW.aload C (pc' := 194) at_192 rfl rfl rfl ?_
      refine OwnW.iload C (pc' := 196) at_194 rfl rfl ?_
      refine OwnW.iload C (pc' := 198) at_196 rfl rfl ?_
      refine OwnW.callV C (pc' := 201) (y := (⟨"com/example/kinegrid/kinegrid/server/Request", "readInPlace", "([B[III)V"⟩ : MethodName)) (z := (⟨"com/example/kinegrid/kinegrid/server/Request", "readInPlace", "([B[III)V"⟩ : MethodName)) (W := 0) (argsL := [(.ref b1), (.ref b2), (.int (0 : Int32)), (.int i4)]) (rest := []) (hw _ (List.mem_of_getElem? (i := 136) rfl)) (hw _ (List.mem_of_getElem? (i := 137) rfl)) (notFace_of_selects (args := #[]) (mvT C.2.1 (hw _ (List.mem_of_getElem? (i := 139) rfl)))) (hw _ (List.mem_of_getElem? (i := 139) rfl)) (hw _ (List.mem_of_getElem? (i := 138) rfl)) (hw _ (List.mem_of_getElem? (i := 62) rfl)) (hw _ (List.mem_of_getElem? (i := 140) rfl)) X_r (by decide) (own_read l Z a0 hw r b1 b2 va vb vl f0 s0 0 i4 h n0 X_r F_array_r F_bounds_r F_arrays_r F_firstBound_r F_size_r g_r ra rb rl) (K' := 10) (S' := 48) (by decide) (by decide) rfl own_pd___B_III_V rfl (Nat.le_of_eq rfl) rfl rfl (by decide) (by decide) rfl at_198 rfl (fun v h9 hq => ?_)
      obtain ⟨rfl, KK, F_array_r', F_bounds_r', F_arrays_r', F_firstBound_r', F_size_r'⟩ := hq
      refine Go.at (st' := []) rfl ?_
      have X_r := X_r.keep KK
      have V_b2 := V_b2.keep KK (ninS ne_b2_r nin0)
      have F_array_r := F_array_r'
      have F_bounds_r := F_bounds_r'
      have F_arrays_r := F_arrays_r'
      have F_firstBound_r := F_firstBound_r'
      have F_size_r := F_size_r'
      refine OwnW.aload C (pc' := 203) at_201 rfl rfl rfl ?_
      refine OwnW.callV C (pc' := 206) (y := (⟨"com/example/kinegrid/kinegrid/server/Request", "size", "()I"⟩ : MethodName)) (z := (⟨"com/example/kinegrid/kinegrid/server/Request", "size", "()I"⟩ : MethodName)) (W := 0) (argsL := []) (rest := []) (hw _ (List.mem_of_getElem? (i := 147) rfl)) (hw _ (List.mem_of_getElem? (i := 148) rfl)) (notFace_of_selects (args := #[]) (mvT C.2.1 (hw _ (List.mem_of_getElem? (i := 150) rfl)))) (hw _ (List.mem_of_getElem? (i := 150) rfl)) (hw _ (List.mem_of_getElem? (i := 149) rfl)) (hw _ (List.mem_of_getElem? (i := 62) rfl)) (hw _ (List.mem_of_getElem? (i := 151) rfl)) X_r (by decide) (own_rsize l Z a0 hw r i4 h9 n0 F_size_r) (K' := 10) (S' := 48) (by decide) (by decide) rfl own_pd___I rfl (Nat.le_of_eq rfl) rfl rfl (by decide) (by decide) rfl at_203 rfl (fun v h' hq => ?_)
      obtain ⟨rfl, hh⟩ := hq
      refine Go.at (st' := [(.int i4)]) rfl ?_
      refine Go.heap hh ?_
      refine OwnW.iload C (pc' := 208) at_206 rfl rfl ?_
      refine OwnW.icNe C (pcY := 236) (pcN := 211) at_208 (by decide) rfl rfl (fun hc208 => absurd rfl hc208) (fun hc208 => ?_)
      refine OwnW.aload C (pc' := 213) at_211 rfl rfl rfl ?_
      refine OwnW.callV C (pc' := 216) (y := (⟨"com/example/kinegrid/kinegrid/server/Request", "copiedBytes", "()J"⟩ : MethodName)) (z := (⟨"com/example/kinegrid/kinegrid/server/Request", "copiedBytes", "()J"⟩ : MethodName)) (W := 0) (argsL := []) (rest := []) (hw _ (List.mem_of_getElem? (i := 152) rfl)) (hw _ (List.mem_of_getElem? (i := 153) rfl)) (notFace_of_selects (args := #[]) (mvT C.2.1 (hw _ (List.mem_of_getElem? (i := 155) rfl)))) (hw _ (List.mem_of_getElem? (i := 155) rfl)) (hw _ (List.mem_of_getElem? (i := 154) rfl)) (hw _ (List.mem_of_getElem? (i := 62) rfl)) (hw _ (List.mem_of_getElem? (i := 156) rfl)) X_r (by decide) (own_rcopied l Z a0 hw r h9 n0 F_arrays_r) (K' := 10) (S' := 48) (by decide) (by decide) rfl own_pd___J rfl (Nat.le_of_eq rfl) rfl rfl (by decide) (by decide) rfl at_213 rfl (fun v h' hq => ?_)
      obtain ⟨rfl, hh⟩ := hq
      refine Go.at (st' := [(.long (0 : Int64))]) rfl ?_
      refine Go.heap hh ?_
      refine OwnW.lconst C (pc' := 217) at_216 rfl (z := 0) rfl ?_
      refine OwnW.lcmp C (pc' := 218) at_217 rfl ?_
      refine OwnW.ifNe C (pcY := 236) (pcN := 221) at_218 (by decide) rfl rfl (fun hc218 => absurd ((lw_eq _ _).mpr rfl) hc218) (fun hc218 => ?_)
      refine OwnW.aload C (pc' := 223) at_221 rfl rfl rfl ?_
      refine OwnW.iconst C (pc' := 224) at_223 rfl (z := 0) rfl ?_
      refine OwnW.callV C (pc' := 227) (y := (⟨"com/example/kinegrid/kinegrid/server/Request", "array", "(I)[B"⟩ : MethodName)) (z := (⟨"com/example/kinegrid/kinegrid/server/Request", "array", "(I)[B"⟩ : MethodName)) (W := 0) (argsL := [(.int (0 : Int32))]) (rest := []) (hw _ (List.mem_of_getElem? (i := 157) rfl)) (hw _ (List.mem_of_getElem? (i := 158) rfl)) (notFace_of_selects (args := #[]) (mvT C.2.1 (hw _ (List.mem_of_getElem? (i := 160) rfl)))) (hw _ (List.mem_of_getElem? (i := 160) rfl)) (hw _ (List.mem_of_getElem? (i := 159) rfl)) (hw _ (List.mem_of_getElem? (i := 62) rfl)) (hw _ (List.mem_of_getElem? (i := 161) rfl)) X_r (by decide) (own_rarray l Z a0 hw r b1 0 h9 n0 F_arrays_r F_array_r) (K' := 10) (S' := 48) (by decide) (by decide) rfl own_pd__I__B rfl (Nat.le_of_eq rfl) rfl rfl (by decide) (by decide) rfl at_224 rfl (fun v h' hq => ?_)
      obtain ⟨rfl, hh⟩ := hq
      refine Go.at (st' := [(.ref b1)]) rfl ?_
      refine Go.heap hh ?_
      refine OwnW.aload C (pc' := 229) at_227 rfl rfl rfl ?_
      refine OwnW.acNe C (pcY := 236) (pcN := 232) rfl rfl at_229 (by decide) rfl rfl (fun hc229 => absurd rfl hc229) (fun hc229 => ?_)
      refine OwnW.iconst C (pc' := 233) at_232 rfl (z := 1) rfl ?_
      refine OwnW.goto C (pc' := 237) at_233 (by decide) rfl ?_
      refine OwnW.istoreS C (pc' := 239) at_237 rfl rfl o13 (l' := #[.val (.int i0), .val (.int i1), .val (.int i2), .val (.int i3), .val (.int i4), .val (.int i5), .val (.ref b1), .val (.ref b2), .val (.int (0 : Int32)), .val (.int j9), .val (.int j10), .val (.int j11), .val (.ref r), .val (.int (1 : Int32)), s14]) rfl ?_
      refine OwnW.iload C (pc' := 241) at_239 rfl rfl ?_
      refine OwnW.ifEq C (pcY := 287) (pcN := 244) at_241 (by decide) rfl rfl (fun hc241 => absurd hc241 (by decide)) (fun hc241 => ?_)
      refine OwnW.iload C (pc' := 246) at_244 rfl rfl ?_
      refine OwnW.iconst C (pc' := 247) at_246 rfl (z := 1) rfl ?_
      refine OwnW.icLt C (pcY := 287) (pcN := 250) at_247 (by decide) rfl rfl (fun hc247 => ?_) (fun hc247 => ?_)
      · refine OwnW.iload C (pc' := 289) at_287 rfl rfl ?_
        refine OwnW.ifEq C (pcY := 337) (pcN := 292) at_289 (by decide) rfl rfl (fun hc289 => absurd hc289 (by decide)) (fun hc289 => ?_)
        refine OwnW.iload C (pc' := 294) at_292 rfl rfl ?_
        refine OwnW.iconst C (pc' := 295) at_294 rfl (z := 2) rfl ?_
        refine OwnW.icLt C (pcY := 337) (pcN := 298) at_295 (by decide) rfl rfl (fun hc295 => ?_) (fun hc295 => ?_)
        · refine OwnW.iload C (pc' := 339) at_337 rfl rfl ?_
          exact OwnW.retN C (t := .boolean) (z := (1 : Int32)) rfl (by simp) rfl rfl (by decide) (by decide) at_339
        · refine OwnW.aload C (pc' := 300) at_298 rfl rfl rfl ?_
          refine OwnW.iconst C (pc' := 301) at_300 rfl (z := 1) rfl ?_
          refine OwnW.callV C (pc' := 304) (y := (⟨"com/example/kinegrid/kinegrid/server/Request", "offset", "(I)I"⟩ : MethodName)) (z := (⟨"com/example/kinegrid/kinegrid/server/Request", "offset", "(I)I"⟩ : MethodName)) (W := 0) (argsL := [(.int (1 : Int32))]) (rest := []) (hw _ (List.mem_of_getElem? (i := 164) rfl)) (hw _ (List.mem_of_getElem? (i := 165) rfl)) (notFace_of_selects (args := #[]) (mvT C.2.1 (hw _ (List.mem_of_getElem? (i := 167) rfl)))) (hw _ (List.mem_of_getElem? (i := 167) rfl)) (hw _ (List.mem_of_getElem? (i := 166) rfl)) (hw _ (List.mem_of_getElem? (i := 62) rfl)) (hw _ (List.mem_of_getElem? (i := 168) rfl)) X_r (by decide) (own_roffset l Z a0 hw r b2 1 i4 0 2 i2 _ _ _ h9 n0 F_arrays_r F_bounds_r F_firstBound_r F_size_r V_b2 (by decide) (own_ge1 i4 hc295) rfl ⟨by decide, by decide⟩ rfl) (K' := 10) (S' := 48) (by decide) (by decide) rfl own_pd__I_I rfl (Nat.le_of_eq rfl) rfl rfl (by decide) (by decide) rfl at_301 rfl (fun v h' hq => ?_)
          obtain ⟨rfl, hh⟩ := hq
          refine Go.at (st' := [(.int i2)]) rfl ?_
          refine Go.heap hh ?_
          refine OwnW.aload C (pc' := 306) at_304 rfl rfl rfl ?_
          refine OwnW.iload C (pc' := 308) at_306 rfl rfl ?_
          refine OwnW.iconst C (pc' := 309) at_308 rfl (z := 2) rfl ?_
          refine OwnW.iadd C (pc' := 310) at_309 rfl ?_
          rw [show (0 : Int32) + 2 = 2 from rfl]
          refine OwnW.iaload C (pc' := 311) V_b2 ⟨by decide, by decide⟩ (v := (.int i2)) rfl at_310 rfl ?_
          refine OwnW.icNe C (pcY := 334) (pcN := 314) at_311 (by decide) rfl rfl (fun hc311 => absurd rfl hc311) (fun hc311 => ?_)
          refine OwnW.aload C (pc' := 316) at_314 rfl rfl rfl ?_
          refine OwnW.iconst C (pc' := 317) at_316 rfl (z := 1) rfl ?_
          refine OwnW.callV C (pc' := 320) (y := (⟨"com/example/kinegrid/kinegrid/server/Request", "end", "(I)I"⟩ : MethodName)) (z := (⟨"com/example/kinegrid/kinegrid/server/Request", "end", "(I)I"⟩ : MethodName)) (W := 0) (argsL := [(.int (1 : Int32))]) (rest := []) (hw _ (List.mem_of_getElem? (i := 177) rfl)) (hw _ (List.mem_of_getElem? (i := 178) rfl)) (notFace_of_selects (args := #[]) (mvT C.2.1 (hw _ (List.mem_of_getElem? (i := 180) rfl)))) (hw _ (List.mem_of_getElem? (i := 180) rfl)) (hw _ (List.mem_of_getElem? (i := 179) rfl)) (hw _ (List.mem_of_getElem? (i := 62) rfl)) (hw _ (List.mem_of_getElem? (i := 181) rfl)) X_r (by decide) (own_rend l Z a0 hw r b2 1 i4 0 3 (i0 ^^^ (-1 : Int32)) _ _ _ h9 n0 F_arrays_r F_bounds_r F_firstBound_r F_size_r V_b2 (by decide) (own_ge1 i4 hc295) rfl ⟨by decide, by decide⟩ rfl) (K' := 10) (S' := 48) (by decide) (by decide) rfl own_pd__I_I rfl (Nat.le_of_eq rfl) rfl rfl (by decide) (by decide) rfl at_317 rfl (fun v h' hq => ?_)
          obtain ⟨rfl, hh⟩ := hq
          refine Go.at (st' := [(.int (i0 ^^^ (-1 : Int32)))]) rfl ?_
          refine Go.heap hh ?_
          refine OwnW.aload C (pc' := 322) at_320 rfl rfl rfl ?_
          refine OwnW.iload C (pc' := 324) at_322 rfl rfl ?_
          refine OwnW.iconst C (pc' := 325) at_324 rfl (z := 3) rfl ?_
          refine OwnW.iadd C (pc' := 326) at_325 rfl ?_
          rw [show (0 : Int32) + 3 = 3 from rfl]
          refine OwnW.iaload C (pc' := 327) V_b2 ⟨by decide, by decide⟩ (v := (.int (i0 ^^^ (-1 : Int32)))) rfl at_326 rfl ?_
          refine OwnW.icNe C (pcY := 334) (pcN := 330) at_327 (by decide) rfl rfl (fun hc327 => absurd rfl hc327) (fun hc327 => ?_)
          refine OwnW.iconst C (pc' := 331) at_330 rfl (z := 1) rfl ?_
          refine OwnW.goto C (pc' := 335) at_331 (by decide) rfl ?_
          refine OwnW.istore C (pc' := 337) at_335 rfl (l' := #[.val (.int i0), .val (.int i1), .val (.int i2), .val (.int i3), .val (.int i4), .val (.int i5), .val (.ref b1), .val (.ref b2), .val (.int (0 : Int32)), .val (.int j9), .val (.int j10), .val (.int j11), .val (.ref r), .val (.int (1 : Int32)), s14]) rfl ?_
          refine OwnW.iload C (pc' := 339) at_337 rfl rfl ?_
          exact OwnW.retN C (t := .boolean) (z := (1 : Int32)) rfl (by simp) rfl rfl (by decide) (by decide) at_339
      · refine OwnW.aload C (pc' := 252) at_250 rfl rfl rfl ?_
        refine OwnW.iconst C (pc' := 253) at_252 rfl (z := 0) rfl ?_
        refine OwnW.callV C (pc' := 256) (y := (⟨"com/example/kinegrid/kinegrid/server/Request", "offset", "(I)I"⟩ : MethodName)) (z := (⟨"com/example/kinegrid/kinegrid/server/Request", "offset", "(I)I"⟩ : MethodName)) (W := 0) (argsL := [(.int (0 : Int32))]) (rest := []) (hw _ (List.mem_of_getElem? (i := 164) rfl)) (hw _ (List.mem_of_getElem? (i := 165) rfl)) (notFace_of_selects (args := #[]) (mvT C.2.1 (hw _ (List.mem_of_getElem? (i := 167) rfl)))) (hw _ (List.mem_of_getElem? (i := 167) rfl)) (hw _ (List.mem_of_getElem? (i := 166) rfl)) (hw _ (List.mem_of_getElem? (i := 62) rfl)) (hw _ (List.mem_of_getElem? (i := 168) rfl)) X_r (by decide) (own_roffset l Z a0 hw r b2 0 i4 0 0 i0 _ _ _ h9 n0 F_arrays_r F_bounds_r F_firstBound_r F_size_r V_b2 (by decide) (own_ge0 i4 hc247) rfl ⟨by decide, by decide⟩ rfl) (K' := 10) (S' := 48) (by decide) (by decide) rfl own_pd__I_I rfl (Nat.le_of_eq rfl) rfl rfl (by decide) (by decide) rfl at_253 rfl (fun v h' hq => ?_)
        obtain ⟨rfl, hh⟩ := hq
        refine Go.at (st' := [(.int i0)]) rfl ?_
        refine Go.heap hh ?_
        refine OwnW.aload C (pc' := 258) at_256 rfl rfl rfl ?_
        refine OwnW.iload C (pc' := 260) at_258 rfl rfl ?_
        refine OwnW.iaload C (pc' := 261) V_b2 ⟨by decide, by decide⟩ (v := (.int i0)) rfl at_260 rfl ?_
        refine OwnW.icNe C (pcY := 284) (pcN := 264) at_261 (by decide) rfl rfl (fun hc261 => absurd rfl hc261) (fun hc261 => ?_)
        refine OwnW.aload C (pc' := 266) at_264 rfl rfl rfl ?_
        refine OwnW.iconst C (pc' := 267) at_266 rfl (z := 0) rfl ?_
        refine OwnW.callV C (pc' := 270) (y := (⟨"com/example/kinegrid/kinegrid/server/Request", "end", "(I)I"⟩ : MethodName)) (z := (⟨"com/example/kinegrid/kinegrid/server/Request", "end", "(I)I"⟩ : MethodName)) (W := 0) (argsL := [(.int (0 : Int32))]) (rest := []) (hw _ (List.mem_of_getElem? (i := 177) rfl)) (hw _ (List.mem_of_getElem? (i := 178) rfl)) (notFace_of_selects (args := #[]) (mvT C.2.1 (hw _ (List.mem_of_getElem? (i := 180) rfl)))) (hw _ (List.mem_of_getElem? (i := 180) rfl)) (hw _ (List.mem_of_getElem? (i := 179) rfl)) (hw _ (List.mem_of_getElem? (i := 62) rfl)) (hw _ (List.mem_of_getElem? (i := 181) rfl)) X_r (by decide) (own_rend l Z a0 hw r b2 0 i4 0 1 i1 _ _ _ h9 n0 F_arrays_r F_bounds_r F_firstBound_r F_size_r V_b2 (by decide) (own_ge0 i4 hc247) rfl ⟨by decide, by decide⟩ rfl) (K' := 10) (S' := 48) (by decide) (by decide) rfl own_pd__I_I rfl (Nat.le_of_eq rfl) rfl rfl (by decide) (by decide) rfl at_267 rfl (fun v h' hq => ?_)
        obtain ⟨rfl, hh⟩ := hq
        refine Go.at (st' := [(.int i1)]) rfl ?_
        refine Go.heap hh ?_
        refine OwnW.aload C (pc' := 272) at_270 rfl rfl rfl ?_
        refine OwnW.iload C (pc' := 274) at_272 rfl rfl ?_
        refine OwnW.iconst C (pc' := 275) at_274 rfl (z := 1) rfl ?_
        refine OwnW.iadd C (pc' := 276) at_275 rfl ?_
        rw [show (0 : Int32) + 1 = 1 from rfl]
        refine OwnW.iaload C (pc' := 277) V_b2 ⟨by decide, by decide⟩ (v := (.int i1)) rfl at_276 rfl ?_
        refine OwnW.icNe C (pcY := 284) (pcN := 280) at_277 (by decide) rfl rfl (fun hc277 => absurd rfl hc277) (fun hc277 => ?_)
        refine OwnW.iconst C (pc' := 281) at_280 rfl (z := 1) rfl ?_
        refine OwnW.goto C (pc' := 285) at_281 (by decide) rfl ?_
        refine OwnW.istore C (pc' := 287) at_285 rfl (l' := #[.val (.int i0), .val (.int i1), .val (.int i2), .val (.int i3), .val (.int i4), .val (.int i5), .val (.ref b1), .val (.ref b2), .val (.int (0 : Int32)), .val (.int j9), .val (.int j10), .val (.int j11), .val (.ref r), .val (.int (1 : Int32)), s14]) rfl ?_
        refine OwnW.iload C (pc' := 289) at_287 rfl rfl ?_
        refine OwnW.ifEq C (pcY := 337) (pcN := 292) at_289 (by decide) rfl rfl (fun hc289 => absurd hc289 (by decide)) (fun hc289 => ?_)
        refine OwnW.iload C (pc' := 294) at_292 rfl rfl ?_
        refine OwnW.iconst C (pc' := 295) at_294 rfl (z := 2) rfl ?_
        refine OwnW.icLt C (pcY := 337) (pcN := 298) at_295 (by decide) rfl rfl (fun hc295 => ?_) (fun hc295 => ?_)
        · refine OwnW.iload C (pc' := 339) at_337 rfl rfl ?_
          exact OwnW.retN C (t := .boolean) (z := (1 : Int32)) rfl (by simp) rfl rfl (by decide) (by decide) at_339
        · refine OwnW.aload C (pc' := 300) at_298 rfl rfl rfl ?_
          refine OwnW.iconst C (pc' := 301) at_300 rfl (z := 1) rfl ?_
          refine OwnW.callV C (pc' := 304) (y := (⟨"com/example/kinegrid/kinegrid/server/Request", "offset", "(I)I"⟩ : MethodName)) (z := (⟨"com/example/kinegrid/kinegrid/server/Request", "offset", "(I)I"⟩ : MethodName)) (W := 0) (argsL := [(.int (1 : Int32))]) (rest := []) (hw _ (List.mem_of_getElem? (i := 164) rfl)) (hw _ (List.mem_of_getElem? (i := 165) rfl)) (notFace_of_selects (args := #[]) (mvT C.2.1 (hw _ (List.mem_of_getElem? (i := 167) rfl)))) (hw _ (List.mem_of_getElem? (i := 167) rfl)) (hw _ (List.mem_of_getElem? (i := 166) rfl)) (hw _ (List.mem_of_getElem? (i := 62) rfl)) (hw _ (List.mem_of_getElem? (i := 168) rfl)) X_r (by decide) (own_roffset l Z a0 hw r b2 1 i4 0 2 i2 _ _ _ h9 n0 F_arrays_r F_bounds_r F_firstBound_r F_size_r V_b2 (by decide) (own_ge1 i4 hc295) rfl ⟨by decide, by decide⟩ rfl) (K' := 10) (S' := 48) (by decide) (by decide) rfl own_pd__I_I rfl (Nat.le_of_eq rfl) rfl rfl (by decide) (by decide) rfl at_301 rfl (fun v h' hq => ?_)
          obtain ⟨rfl, hh⟩ := hq
          refine Go.at (st' := [(.int i2)]) rfl ?_
          refine Go.heap hh ?_
          refine OwnW.aload C (pc' := 306) at_304 rfl rfl rfl ?_
          refine OwnW.iload C (pc' := 308) at_306 rfl rfl ?_
          refine OwnW.iconst C (pc' := 309) at_308 rfl (z := 2) rfl ?_
          refine OwnW.iadd C (pc' := 310) at_309 rfl ?_
          rw [show (0 : Int32) + 2 = 2 from rfl]
          refine OwnW.iaload C (pc' := 311) V_b2 ⟨by decide, by decide⟩ (v := (.int i2)) rfl at_310 rfl ?_
          refine OwnW.icNe C (pcY := 334) (pcN := 314) at_311 (by decide) rfl rfl (fun hc311 => absurd rfl hc311) (fun hc311 => ?_)
          refine OwnW.aload C (pc' := 316) at_314 rfl rfl rfl ?_
          refine OwnW.iconst C (pc' := 317) at_316 rfl (z := 1) rfl ?_
          refine OwnW.callV C (pc' := 320) (y := (⟨"com/example/kinegrid/kinegrid/server/Request", "end", "(I)I"⟩ : MethodName)) (z := (⟨"com/example/kinegrid/kinegrid/server/Request", "end", "(I)I"⟩ : MethodName)) (W := 0) (argsL := [(.int (1 : Int32))]) (rest := []) (hw _ (List.mem_of_getElem? (i := 177) rfl)) (hw _ (List.mem_of_getElem? (i := 178) rfl)) (notFace_of_selects (args := #[]) (mvT C.2.1 (hw _ (List.mem_of_getElem? (i := 180) rfl)))) (hw _ (List.mem_of_getElem? (i := 180) rfl)) (hw _ (List.mem_of_getElem? (i := 179) rfl)) (hw _ (List.mem_of_getElem? (i := 62) rfl)) (hw _ (List.mem_of_getElem? (i := 181) rfl)) X_r (by decide) (own_rend l Z a0 hw r b2 1 i4 0 3 (i0 ^^^ (-1 : Int32)) _ _ _ h9 n0 F_arrays_r F_bounds_r F_firstBound_r F_size_r V_b2 (by decide) (own_ge1 i4 hc295) rfl ⟨by decide, by decide⟩ rfl) (K' := 10) (S' := 48) (by decide) (by decide) rfl own_pd__I_I rfl (Nat.le_of_eq rfl) rfl rfl (by decide) (by decide) rfl at_317 rfl (fun v h' hq => ?_)
          obtain ⟨rfl, hh⟩ := hq
          refine Go.at (st' := [(.int (i0 ^^^ (-1 : Int32)))]) rfl ?_
          refine Go.heap hh ?_
          refine OwnW.aload C (pc' := 322) at_320 rfl rfl rfl ?_
          refine OwnW.iload C (pc' := 324) at_322 rfl rfl ?_
          refine OwnW.iconst C (pc' := 325) at_324 rfl (z := 3) rfl ?_
          refine OwnW.iadd C (pc' := 326) at_325 rfl ?_
          rw [show (0 : Int32) + 3 = 3 from rfl]
          refine OwnW.iaload C (pc' := 327) V_b2 ⟨by decide, by decide⟩ (v := (.int (i0 ^^^ (-1 : Int32)))) rfl at_326 rfl ?_
          refine OwnW.icNe C (pcY := 334) (pcN := 330) at_327 (by decide) rfl rfl (fun hc327 => absurd rfl hc327) (fun hc327 => ?_)
          refine OwnW.iconst C (pc' := 331) at_330 rfl (z := 1) rfl ?_
          refine OwnW.goto C (pc' := 335) at_331 (by decide) rfl ?_
          refine OwnW.istore C (pc' := 337) at_335 rfl (l' := #[.val (.int i0), .val (.int i1), .val (.int i2), .val (.int i3), .val (.int i4), .val (.int i5), .val (.ref b1), .val (.ref b2), .val (.int (0 : Int32)), .val (.int j9), .val (.int j10), .val (.int j11), .val (.ref r), .val (.int (1 : Int32)), s14]) rfl ?_
          refine OwnW.iload C (pc' := 339) at_337 rfl rfl ?_
          exact OwnW.retN C (t := .boolean) (z := (1 : Int32)) rfl (by simp) rfl rfl (by decide) (by decide) at_339
    · skip
      refine OwnW.aload C (pc' := 190) at_188 rfl rfl rfl ?_
      refine OwnW.aload C (pc' := 192) at_190 rfl rfl rfl ?_
      refine OwnW.aload C (pc' := 194) at_192 rfl rfl rfl ?_
      refine OwnW.iload C (pc' := 196) at_194 rfl rfl ?_
      refine OwnW.iload C (pc' := 198) at_196 rfl rfl ?_
      refine OwnW.callV C (pc' := 201) (y := (⟨"com/example/kinegrid/kinegrid/server/Request", "readInPlace", "([B[III)V"⟩ : MethodName)) (z := (⟨"com/example/kinegrid/kinegrid/server/Request", "readInPlace", "([B[III)V"⟩ : MethodName)) (W := 0) (argsL := [(.ref b1), (.ref b2), (.int (1 : Int32)), (.int i4)]) (rest := []) (hw _ (List.mem_of_getElem? (i := 136) rfl)) (hw _ (List.mem_of_getElem? (i := 137) rfl)) (notFace_of_selects (args := #[]) (mvT C.2.1 (hw _ (List.mem_of_getElem? (i := 139) rfl)))) (hw _ (List.mem_of_getElem? (i := 139) rfl)) (hw _ (List.mem_of_getElem? (i := 138) rfl)) (hw _ (List.mem_of_getElem? (i := 62) rfl)) (hw _ (List.mem_of_getElem? (i := 140) rfl)) X_r (by decide) (own_read l Z a0 hw r b1 b2 va vb vl f0 s0 1 i4 h n0 X_r F_array_r F_bounds_r F_arrays_r F_firstBound_r F_size_r g_r ra rb rl) (K' := 10) (S' := 48) (by decide) (by decide) rfl own_pd___B_III_V rfl (Nat.le_of_eq rfl) rfl rfl (by decide) (by decide) rfl at_198 rfl (fun v h9 hq => ?_)
      obtain ⟨rfl, KK, F_array_r', F_bounds_r', F_arrays_r', F_firstBound_r', F_size_r'⟩ := hq
      refine Go.at (st' := []) rfl ?_
      have X_r := X_r.keep KK
      have V_b2 := V_b2.keep KK (ninS ne_b2_r nin0)
      have F_array_r := F_array_r'
      have F_bounds_r := F_bounds_r'
      have F_arrays_r := F_arrays_r'
      have F_firstBound_r := F_firstBound_r'
      have F_size_r := F_size_r'
      refine OwnW.aload C (pc' := 203) at_201 rfl rfl rfl ?_
      refine OwnW.callV C (pc' := 206) (y := (⟨"com/example/kinegrid/kinegrid/server/Request", "size", "()I"⟩ : MethodName)) (z := (⟨"com/example/kinegrid/kinegrid/server/Request", "size", "()I"⟩ : MethodName)) (W := 0) (argsL := []) (rest := []) (hw _ (List.mem_of_getElem? (i := 147) rfl)) (hw _ (List.mem_of_getElem? (i := 148) rfl)) (notFace_of_selects (args := #[]) (mvT C.2.1 (hw _ (List.mem_of_getElem? (i := 150) rfl)))) (hw _ (List.mem_of_getElem? (i := 150) rfl)) (hw _ (List.mem_of_getElem? (i := 149) rfl)) (hw _ (List.mem_of_getElem? (i := 62) rfl)) (hw _ (List.mem_of_getElem? (i := 151) rfl)) X_r (by decide) (own_rsize l Z a0 hw r i4 h9 n0 F_size_r) (K' := 10) (S' := 48) (by decide) (by decide) rfl own_pd___I rfl (Nat.le_of_eq rfl) rfl rfl (by decide) (by decide) rfl at_203 rfl (fun v h' hq => ?_)
      obtain ⟨rfl, hh⟩ := hq
      refine Go.at (st' := [(.int i4)]) rfl ?_
      refine Go.heap hh ?_
      refine OwnW.iload C (pc' := 208) at_206 rfl rfl ?_
      refine OwnW.icNe C (pcY := 236) (pcN := 211) at_208 (by decide) rfl rfl (fun hc208 => absurd rfl hc208) (fun hc208 => ?_)
      refine OwnW.aload C (pc' := 213) at_211 rfl rfl rfl ?_
      refine OwnW.callV C (pc' := 216) (y := (⟨"com/example/kinegrid/kinegrid/server/Request", "copiedBytes", "()J"⟩ : MethodName)) (z := (⟨"com/example/kinegrid/kinegrid/server/Request", "copiedBytes", "()J"⟩ : MethodName)) (W := 0) (argsL := []) (rest := []) (hw _ (List.mem_of_getElem? (i := 152) rfl)) (hw _ (List.mem_of_getElem? (i := 153) rfl)) (notFace_of_selects (args := #[]) (mvT C.2.1 (hw _ (List.mem_of_getElem? (i := 155) rfl)))) (hw _ (List.mem_of_getElem? (i := 155) rfl)) (hw _ (List.mem_of_getElem? (i := 154) rfl)) (hw _ (List.mem_of_getElem? (i := 62) rfl)) (hw _ (List.mem_of_getElem? (i := 156) rfl)) X_r (by decide) (own_rcopied l Z a0 hw r h9 n0 F_arrays_r) (K' := 10) (S' := 48) (by decide) (by decide) rfl own_pd___J rfl (Nat.le_of_eq rfl) rfl rfl (by decide) (by decide) rfl at_213 rfl (fun v h' hq => ?_)
      obtain ⟨rfl, hh⟩ := hq
      refine Go.at (st' := [(.long (0 : Int64))]) rfl ?_
      refine Go.heap hh ?_
      refine OwnW.lconst C (pc' := 217) at_216 rfl (z := 0) rfl ?_
      refine OwnW.lcmp C (pc' := 218) at_217 rfl ?_
      refine OwnW.ifNe C (pcY := 236) (pcN := 221) at_218 (by decide) rfl rfl (fun hc218 => absurd ((lw_eq _ _).mpr rfl) hc218) (fun hc218 => ?_)
      refine OwnW.aload C (pc' := 223) at_221 rfl rfl rfl ?_
      refine OwnW.iconst C (pc' := 224) at_223 rfl (z := 0) rfl ?_
      refine OwnW.callV C (pc' := 227) (y := (⟨"com/example/kinegrid/kinegrid/server/Request", "array", "(I)[B"⟩ : MethodName)) (z := (⟨"com/example/kinegrid/kinegrid/server/Request", "array", "(I)[B"⟩ : MethodName)) (W := 0) (argsL := [(.int (0 : Int32))]) (rest := []) (hw _ (List.mem_of_getElem? (i := 157) rfl)) (hw _ (List.mem_of_getElem? (i := 158) rfl)) (notFace_of_selects (args := #[]) (mvT C.2.1 (hw _ (List.mem_of_getElem? (i := 160) rfl)))) (hw _ (List.mem_of_getElem? (i := 160) rfl)) (hw _ (List.mem_of_getElem? (i := 159) rfl)) (hw _ (List.mem_of_getElem? (i := 62) rfl)) (hw _ (List.mem_of_getElem? (i := 161) rfl)) X_r (by decide) (own_rarray l Z a0 hw r b1 0 h9 n0 F_arrays_r F_array_r) (K' := 10) (S' := 48) (by decide) (by decide) rfl own_pd__I__B rfl (Nat.le_of_eq rfl) rfl rfl (by decide) (by decide) rfl at_224 rfl (fun v h' hq => ?_)
      obtain ⟨rfl, hh⟩ := hq
      refine Go.at (st' := [(.ref b1)]) rfl ?_
      refine Go.heap hh ?_
      refine OwnW.aload C (pc' := 229) at_227 rfl rfl rfl ?_
      refine OwnW.acNe C (pcY := 236) (pcN := 232) rfl rfl at_229 (by decide) rfl rfl (fun hc229 => absurd rfl hc229) (fun hc229 => ?_)
      refine OwnW.iconst C (pc' := 233) at_232 rfl (z := 1) rfl ?_
      refine OwnW.goto C (pc' := 237) at_233 (by decide) rfl ?_
      refine OwnW.istoreS C (pc' := 239) at_237 rfl rfl o13 (l' := #[.val (.int i0), .val (.int i1), .val (.int i2), .val (.int i3), .val (.int i4), .val (.int i5), .val (.ref b1), .val (.ref b2), .val (.int (1 : Int32)), .val (.int j9), .val (.int j10), .val (.int j11), .val (.ref r), .val (.int (1 : Int32)), s14]) rfl ?_
      refine OwnW.iload C (pc' := 241) at_239 rfl rfl ?_
      refine OwnW.ifEq C (pcY := 287) (pcN := 244) at_241 (by decide) rfl rfl (fun hc241 => absurd hc241 (by decide)) (fun hc241 => ?_)
      refine OwnW.iload C (pc' := 246) at_244 rfl rfl ?_
      refine OwnW.iconst C (pc' := 247) at_246 rfl (z := 1) rfl ?_
      refine OwnW.icLt C (pcY := 287) (pcN := 250) at_247 (by decide) rfl rfl (fun hc247 => ?_) (fun hc247 => ?_)
      · refine OwnW.iload C (pc' := 289) at_287 rfl rfl ?_
        refine OwnW.ifEq C (pcY := 337) (pcN := 292) at_289 (by decide) rfl rfl (fun hc289 => absurd hc289 (by decide)) (fun hc289 => ?_)
        refine OwnW.iload C (pc' := 294) at_292 rfl rfl ?_
        refine OwnW.iconst C (pc' := 295) at_294 rfl (z := 2) rfl ?_
        refine OwnW.icLt C (pcY := 337) (pcN := 298) at_295 (by decide) rfl rfl (fun hc295 => ?_) (fun hc295 => ?_)
        · refine OwnW.iload C (pc' := 339) at_337 rfl rfl ?_
          exact OwnW.retN C (t := .boolean) (z := (1 : Int32)) rfl (by simp) rfl rfl (by decide) (by decide) at_339
        · refine OwnW.aload C (pc' := 300) at_298 rfl rfl rfl ?_
          refine OwnW.iconst C (pc' := 301) at_300 rfl (z := 1) rfl ?_
          refine OwnW.callV C (pc' := 304) (y := (⟨"com/example/kinegrid/kinegrid/server/Request", "offset", "(I)I"⟩ : MethodName)) (z := (⟨"com/example/kinegrid/kinegrid/server/Request", "offset", "(I)I"⟩ : MethodName)) (W := 0) (argsL := [(.int (1 : Int32))]) (rest := []) (hw _ (List.mem_of_getElem? (i := 164) rfl)) (hw _ (List.mem_of_getElem? (i := 165) rfl)) (notFace_of_selects (args := #[]) (mvT C.2.1 (hw _ (List.mem_of_getElem? (i := 167) rfl)))) (hw _ (List.mem_of_getElem? (i := 167) rfl)) (hw _ (List.mem_of_getElem? (i := 166) rfl)) (hw _ (List.mem_of_getElem? (i := 62) rfl)) (hw _ (List.mem_of_getElem? (i := 168) rfl)) X_r (by decide) (own_roffset l Z a0 hw r b2 1 i4 1 3 (i0 ^^^ (-1 : Int32)) _ _ _ h9 n0 F_arrays_r F_bounds_r F_firstBound_r F_size_r V_b2 (by decide) (own_ge1 i4 hc295) rfl ⟨by decide, by decide⟩ rfl) (K' := 10) (S' := 48) (by decide) (by decide) rfl own_pd__I_I rfl (Nat.le_of_eq rfl) rfl rfl (by decide) (by decide) rfl at_301 rfl (fun v h' hq => ?_)
          obtain ⟨rfl, hh⟩ := hq
          refine Go.at (st' := [(.int (i0 ^^^ (-1 : Int32)))]) rfl ?_
          refine Go.heap hh ?_
          refine OwnW.aload C (pc' := 306) at_304 rfl rfl rfl ?_
          refine OwnW.iload C (pc' := 308) at_306 rfl rfl ?_
          refine OwnW.iconst C (pc' := 309) at_308 rfl (z := 2) rfl ?_
          refine OwnW.iadd C (pc' := 310) at_309 rfl ?_
          rw [show (1 : Int32) + 2 = 3 from rfl]
          refine OwnW.iaload C (pc' := 311) V_b2 ⟨by decide, by decide⟩ (v := (.int (i0 ^^^ (-1 : Int32)))) rfl at_310 rfl ?_
          refine OwnW.icNe C (pcY := 334) (pcN := 314) at_311 (by decide) rfl rfl (fun hc311 => absurd rfl hc311) (fun hc311 => ?_)
          refine OwnW.aload C (pc' := 316) at_314 rfl rfl rfl ?_
          refine OwnW.iconst C (pc' := 317) at_316 rfl (z := 1) rfl ?_
          refine OwnW.callV C (pc' := 320) (y := (⟨"com/example/kinegrid/kinegrid/server/Request", "end", "(I)I"⟩ : MethodName)) (z := (⟨"com/example/kinegrid/kinegrid/server/Request", "end", "(I)I"⟩ : MethodName)) (W := 0) (argsL := [(.int (1 : Int32))]) (rest := []) (hw _ (List.mem_of_getElem? (i := 177) rfl)) (hw _ (List.mem_of_getElem? (i := 178) rfl)) (notFace_of_selects (args := #[]) (mvT C.2.1 (hw _ (List.mem_of_getElem? (i := 180) rfl)))) (hw _ (List.mem_of_getElem? (i := 180) rfl)) (hw _ (List.mem_of_getElem? (i := 179) rfl)) (hw _ (List.mem_of_getElem? (i := 62) rfl)) (hw _ (List.mem_of_getElem? (i := 181) rfl)) X_r (by decide) (own_rend l Z a0 hw r b2 1 i4 1 4 (i1 ^^^ (-1 : Int32)) _ _ _ h9 n0 F_arrays_r F_bounds_r F_firstBound_r F_size_r V_b2 (by decide) (own_ge1 i4 hc295) rfl ⟨by decide, by decide⟩ rfl) (K' := 10) (S' := 48) (by decide) (by decide) rfl own_pd__I_I rfl (Nat.le_of_eq rfl) rfl rfl (by decide) (by decide) rfl at_317 rfl (fun v h' hq => ?_)
          obtain ⟨rfl, hh⟩ := hq
          refine Go.at (st' := [(.int (i1 ^^^ (-1 : Int32)))]) rfl ?_
          refine Go.heap hh ?_
          refine OwnW.aload C (pc' := 322) at_320 rfl rfl rfl ?_
          refine OwnW.iload C (pc' := 324) at_322 rfl rfl ?_
          refine OwnW.iconst C (pc' := 325) at_324 rfl (z := 3) rfl ?_
          refine OwnW.iadd C (pc' := 326) at_325 rfl ?_
          rw [show (1 : Int32) + 3 = 4 from rfl]
          refine OwnW.iaload C (pc' := 327) V_b2 ⟨by decide, by decide⟩ (v := (.int (i1 ^^^ (-1 : Int32)))) rfl at_326 rfl ?_
          refine OwnW.icNe C (pcY := 334) (pcN := 330) at_327 (by decide) rfl rfl (fun hc327 => absurd rfl hc327) (fun hc327 => ?_)
          refine OwnW.iconst C (pc' := 331) at_330 rfl (z := 1) rfl ?_
          refine OwnW.goto C (pc' := 335) at_331 (by decide) rfl ?_
          refine OwnW.istore C (pc' := 337) at_335 rfl (l' := #[.val (.int i0), .val (.int i1), .val (.int i2), .val (.int i3), .val (.int i4), .val (.int i5), .val (.ref b1), .val (.ref b2), .val (.int (1 : Int32)), .val (.int j9), .val (.int j10), .val (.int j11), .val (.ref r), .val (.int (1 : Int32)), s14]) rfl ?_
          refine OwnW.iload C (pc' := 339) at_337 rfl rfl ?_
          exact OwnW.retN C (t := .boolean) (z := (1 : Int32)) rfl (by simp) rfl rfl (by decide) (by decide) at_339
      · refine OwnW.aload C (pc' := 252) at_250 rfl rfl rfl ?_
        refine OwnW.iconst C (pc' := 253) at_252 rfl (z := 0) rfl ?_
        refine OwnW.callV C (pc' := 256) (y := (⟨"com/example/kinegrid/kinegrid/server/Request", "offset", "(I)I"⟩ : MethodName)) (z := (⟨"com/example/kinegrid/kinegrid/server/Request", "offset", "(I)I"⟩ : MethodName)) (W := 0) (argsL := [(.int (0 : Int32))]) (rest := []) (hw _ (List.mem_of_getElem? (i := 164) rfl)) (hw _ (List.mem_of_getElem? (i := 165) rfl)) (notFace_of_selects (args := #[]) (mvT C.2.1 (hw _ (List.mem_of_getElem? (i := 167) rfl)))) (hw _ (List.mem_of_getElem? (i := 167) rfl)) (hw _ (List.mem_of_getElem? (i := 166) rfl)) (hw _ (List.mem_of_getElem? (i := 62) rfl)) (hw _ (List.mem_of_getElem? (i := 168) rfl)) X_r (by decide) (own_roffset l Z a0 hw r b2 0 i4 1 1 i1 _ _ _ h9 n0 F_arrays_r F_bounds_r F_firstBound_r F_size_r V_b2 (by decide) (own_ge0 i4 hc247) rfl ⟨by decide, by decide⟩ rfl) (K' := 10) (S' := 48) (by decide) (by decide) rfl own_pd__I_I rfl (Nat.le_of_eq rfl) rfl rfl (by decide) (by decide) rfl at_253 rfl (fun v h' hq => ?_)
        obtain ⟨rfl, hh⟩ := hq
        refine Go.at (st' := [(.int i1)]) rfl ?_
        refine Go.heap hh ?_
        refine OwnW.aload C (pc' := 258) at_256 rfl rfl rfl ?_
        refine OwnW.iload C (pc' := 260) at_258 rfl rfl ?_
        refine OwnW.iaload C (pc' := 261) V_b2 ⟨by decide, by decide⟩ (v := (.int i1)) rfl at_260 rfl ?_
        refine OwnW.icNe C (pcY := 284) (pcN := 264) at_261 (by decide) rfl rfl (fun hc261 => absurd rfl hc261) (fun hc261 => ?_)
        refine OwnW.aload C (pc' := 266) at_264 rfl rfl rfl ?_
        refine OwnW.iconst C (pc' := 267) at_266 rfl (z := 0) rfl ?_
        refine OwnW.callV C (pc' := 270) (y := (⟨"com/example/kinegrid/kinegrid/server/Request", "end", "(I)I"⟩ : MethodName)) (z := (⟨"com/example/kinegrid/kinegrid/server/Request", "end", "(I)I"⟩ : MethodName)) (W := 0) (argsL := [(.int (0 : Int32))]) (rest := []) (hw _ (List.mem_of_getElem? (i := 177) rfl)) (hw _ (List.mem_of_getElem? (i := 178) rfl)) (notFace_of_selects (args := #[]) (mvT C.2.1 (hw _ (List.mem_of_getElem? (i := 180) rfl)))) (hw _ (List.mem_of_getElem? (i := 180) rfl)) (hw _ (List.mem_of_getElem? (i := 179) rfl)) (hw _ (List.mem_of_getElem? (i := 62) rfl)) (hw _ (List.mem_of_getElem? (i := 181) rfl)) X_r (by decide) (own_rend l Z a0 hw r b2 0 i4 1 2 i2 _ _ _ h9 n0 F_arrays_r F_bounds_r F_firstBound_r F_size_r V_b2 (by decide) (own_ge0 i4 hc247) rfl ⟨by decide, by decide⟩ rfl) (K' := 10) (S' := 48) (by decide) (by decide) rfl own_pd__I_I rfl (Nat.le_of_eq rfl) rfl rfl (by decide) (by decide) rfl at_267 rfl (fun v h' hq => ?_)
        obtain ⟨rfl, hh⟩ := hq
        refine Go.at (st' := [(.int i2)]) rfl ?_
        refine Go.heap hh ?_
        refine OwnW.aload C (pc' := 272) at_270 rfl rfl rfl ?_
        refine OwnW.iload C (pc' := 274) at_272 rfl rfl ?_
        refine OwnW.iconst C (pc' := 275) at_274 rfl (z := 1) rfl ?_
        refine OwnW.iadd C (pc' := 276) at_275 rfl ?_
        rw [show (1 : Int32) + 1 = 2 from rfl]
        refine OwnW.iaload C (pc' := 277) V_b2 ⟨by decide, by decide⟩ (v := (.int i2)) rfl at_276 rfl ?_
        refine OwnW.icNe C (pcY := 284) (pcN := 280) at_277 (by decide) rfl rfl (fun hc277 => absurd rfl hc277) (fun hc277 => ?_)
        refine OwnW.iconst C (pc' := 281) at_280 rfl (z := 1) rfl ?_
        refine OwnW.goto C (pc' := 285) at_281 (by decide) rfl ?_
        refine OwnW.istore C (pc' := 287) at_285 rfl (l' := #[.val (.int i0), .val (.int i1), .val (.int i2), .val (.int i3), .val (.int i4), .val (.int i5), .val (.ref b1), .val (.ref b2), .val (.int (1 : Int32)), .val (.int j9), .val (.int j10), .val (.int j11), .val (.ref r), .val (.int (1 : Int32)), s14]) rfl ?_
        refine OwnW.iload C (pc' := 289) at_287 rfl rfl ?_
        refine OwnW.ifEq C (pcY := 337) (pcN := 292) at_289 (by decide) rfl rfl (fun hc289 => absurd hc289 (by decide)) (fun hc289 => ?_)
        refine OwnW.iload C (pc' := 294) at_292 rfl rfl ?_
        refine OwnW.iconst C (pc' := 295) at_294 rfl (z := 2) rfl ?_
        refine OwnW.icLt C (pcY := 337) (pcN := 298) at_295 (by decide) rfl rfl (fun hc295 => ?_) (fun hc295 => ?_)
        · refine OwnW.iload C (pc' := 339) at_337 rfl rfl ?_
          exact OwnW.retN C (t := .boolean) (z := (1 : Int32)) rfl (by simp) rfl rfl (by decide) (by decide) at_339
        · refine OwnW.aload C (pc' := 300) at_298 rfl rfl rfl ?_
          refine OwnW.iconst C (pc' := 301) at_300 rfl (z := 1) rfl ?_
          refine OwnW.callV C (pc' := 304) (y := (⟨"com/example/kinegrid/kinegrid/server/Request", "offset", "(I)I"⟩ : MethodName)) (z := (⟨"com/example/kinegrid/kinegrid/server/Request", "offset", "(I)I"⟩ : MethodName)) (W := 0) (argsL := [(.int (1 : Int32))]) (rest := []) (hw _ (List.mem_of_getElem? (i := 164) rfl)) (hw _ (List.mem_of_getElem? (i := 165) rfl)) (notFace_of_selects (args := #[]) (mvT C.2.1 (hw _ (List.mem_of_getElem? (i := 167) rfl)))) (hw _ (List.mem_of_getElem? (i := 167) rfl)) (hw _ (List.mem_of_getElem? (i := 166) rfl)) (hw _ (List.mem_of_getElem? (i := 62) rfl)) (hw _ (List.mem_of_getElem? (i := 168) rfl)) X_r (by decide) (own_roffset l Z a0 hw r b2 1 i4 1 3 (i0 ^^^ (-1 : Int32)) _ _ _ h9 n0 F_arrays_r F_bounds_r F_firstBound_r F_size_r V_b2 (by decide) (own_ge1 i4 hc295) rfl ⟨by decide, by decide⟩ rfl) (K' := 10) (S' := 48) (by decide) (by decide) rfl own_pd__I_I rfl (Nat.le_of_eq rfl) rfl rfl (by decide) (by decide) rfl at_301 rfl (fun v h' hq => ?_)
          obtain ⟨rfl, hh⟩ := hq
          refine Go.at (st' := [(.int (i0 ^^^ (-1 : Int32)))]) rfl ?_
          refine Go.heap hh ?_
          refine OwnW.aload C (pc' := 306) at_304 rfl rfl rfl ?_
          refine OwnW.iload C (pc' := 308) at_306 rfl rfl ?_
          refine OwnW.iconst C (pc' := 309) at_308 rfl (z := 2) rfl ?_
          refine OwnW.iadd C (pc' := 310) at_309 rfl ?_
          rw [show (1 : Int32) + 2 = 3 from rfl]
          refine OwnW.iaload C (pc' := 311) V_b2 ⟨by decide, by decide⟩ (v := (.int (i0 ^^^ (-1 : Int32)))) rfl at_310 rfl ?_
          refine OwnW.icNe C (pcY := 334) (pcN := 314) at_311 (by decide) rfl rfl (fun hc311 => absurd rfl hc311) (fun hc311 => ?_)
          refine OwnW.aload C (pc' := 316) at_314 rfl rfl rfl ?_
          refine OwnW.iconst C (pc' := 317) at_316 rfl (z := 1) rfl ?_
          refine OwnW.callV C (pc' := 320) (y := (⟨"com/example/kinegrid/kinegrid/server/Request", "end", "(I)I"⟩ : MethodName)) (z := (⟨"com/example/kinegrid/kinegrid/server/Request", "end", "(I)I"⟩ : MethodName)) (W := 0) (argsL := [(.int (1 : Int32))]) (rest := []) (hw _ (List.mem_of_getElem? (i := 177) rfl)) (hw _ (List.mem_of_getElem? (i := 178) rfl)) (notFace_of_selects (args := #[]) (mvT C.2.1 (hw _ (List.mem_of_getElem? (i := 180) rfl)))) (hw _ (List.mem_of_getElem? (i := 180) rfl)) (hw _ (List.mem_of_getElem? (i := 179) rfl)) (hw _ (List.mem_of_getElem? (i := 62) rfl)) (hw _ (List.mem_of_getElem? (i := 181) rfl)) X_r (by decide) (own_rend l Z a0 hw r b2 1 i4 1 4 (i1 ^^^ (-1 : Int32)) _ _ _ h9 n0 F_arrays_r F_bounds_r F_firstBound_r F_size_r V_b2 (by decide) (own_ge1 i4 hc295) rfl ⟨by decide, by decide⟩ rfl) (K' := 10) (S' := 48) (by decide) (by decide) rfl own_pd__I_I rfl (Nat.le_of_eq rfl) rfl rfl (by decide) (by decide) rfl at_317 rfl (fun v h' hq => ?_)
          obtain ⟨rfl, hh⟩ := hq
          refine Go.at (st' := [(.int (i1 ^^^ (-1 : Int32)))]) rfl ?_
          refine Go.heap hh ?_
          refine OwnW.aload C (pc' := 322) at_320 rfl rfl rfl ?_
          refine OwnW.iload C (pc' := 324) at_322 rfl rfl ?_
          refine OwnW.iconst C (pc' := 325) at_324 rfl (z := 3) rfl ?_
          refine OwnW.iadd C (pc' := 326) at_325 rfl ?_
          rw [show (1 : Int32) + 3 = 4 from rfl]
          refine OwnW.iaload C (pc' := 327) V_b2 ⟨by decide, by decide⟩ (v := (.int (i1 ^^^ (-1 : Int32)))) rfl at_326 rfl ?_
          refine OwnW.icNe C (pcY := 334) (pcN := 330) at_327 (by decide) rfl rfl (fun hc327 => absurd rfl hc327) (fun hc327 => ?_)
          refine OwnW.iconst C (pc' := 331) at_330 rfl (z := 1) rfl ?_
          refine OwnW.goto C (pc' := 335) at_331 (by decide) rfl ?_
          refine OwnW.istore C (pc' := 337) at_335 rfl (l' := #[.val (.int i0), .val (.int i1), .val (.int i2), .val (.int i3), .val (.int i4), .val (.int i5), .val (.ref b1), .val (.ref b2), .val (.int (1 : Int32)), .val (.int j9), .val (.int j10), .val (.int j11), .val (.ref r), .val (.int (1 : Int32)), s14]) rfl ?_
          refine OwnW.iload C (pc' := 339) at_337 rfl rfl ?_
          exact OwnW.retN C (t := .boolean) (z := (1 : Int32)) rfl (by simp) rfl rfl (by decide) (by decide) at_339
    · skip
      refine OwnW.aload C (pc' := 190) at_188 rfl rfl rfl ?_
      refine OwnW.aload C (pc' := 192) at_190 rfl rfl rfl ?_
      refine OwnW.aload C (pc' := 194) at_192 rfl rfl rfl ?_
      refine OwnW.iload C (pc' := 196) at_194 rfl rfl ?_
      refine OwnW.iload C (pc' := 198) at_196 rfl rfl ?_
      refine OwnW.callV C (pc' := 201) (y := (⟨"com/example/kinegrid/kinegrid/server/Request", "readInPlace", "([B[III)V"⟩ : MethodName)) (z := (⟨"com/example/kinegrid/kinegrid/server/Request", "readInPlace", "([B[III)V"⟩ : MethodName)) (W := 0) (argsL := [(.ref b1), (.ref b2), (.int (2 : Int32)), (.int i4)]) (rest := []) (hw _ (List.mem_of_getElem? (i := 136) rfl)) (hw _ (List.mem_of_getElem? (i := 137) rfl)) (notFace_of_selects (args := #[]) (mvT C.2.1 (hw _ (List.mem_of_getElem? (i := 139) rfl)))) (hw _ (List.mem_of_getElem? (i := 139) rfl)) (hw _ (List.mem_of_getElem? (i := 138) rfl)) (hw _ (List.mem_of_getElem? (i := 62) rfl)) (hw _ (List.mem_of_getElem? (i := 140) rfl)) X_r (by decide) (own_read l Z a0 hw r b1 b2 va vb vl f0 s0 2 i4 h n0 X_r F_array_r F_bounds_r F_arrays_r F_firstBound_r F_size_r g_r ra rb rl) (K' := 10) (S' := 48) (by decide) (by decide) rfl own_pd___B_III_V rfl (Nat.le_of_eq rfl) rfl rfl (by decide) (by decide) rfl at_198 rfl (fun v h9 hq => ?_)
      obtain ⟨rfl, KK, F_array_r', F_bounds_r', F_arrays_r', F_firstBound_r', F_size_r'⟩ := hq
      refine Go.at (st' := []) rfl ?_
      have X_r := X_r.keep KK
      have V_b2 := V_b2.keep KK (ninS ne_b2_r nin0)
      have F_array_r := F_array_r'
      have F_bounds_r := F_bounds_r'
      have F_arrays_r := F_arrays_r'
      have F_firstBound_r := F_firstBound_r'
      have F_size_r := F_size_r'
      refine OwnW.aload C (pc' := 203) at_201 rfl rfl rfl ?_
      refine OwnW.callV C (pc' := 206) (y := (⟨"com/example/kinegrid/kinegrid/server/Request", "size", "()I"⟩ : MethodName)) (z := (⟨"com/example/kinegrid/kinegrid/server/Request", "size", "()I"⟩ : MethodName)) (W := 0) (argsL := []) (rest := []) (hw _ (List.mem_of_getElem? (i := 147) rfl)) (hw _ (List.mem_of_getElem? (i := 148) rfl)) (notFace_of_selects (args := #[]) (mvT C.2.1 (hw _ (List.mem_of_getElem? (i := 150) rfl)))) (hw _ (List.mem_of_getElem? (i := 150) rfl)) (hw _ (List.mem_of_getElem? (i := 149) rfl)) (hw _ (List.mem_of_getElem? (i := 62) rfl)) (hw _ (List.mem_of_getElem? (i := 151) rfl)) X_r (by decide) (own_rsize l Z a0 hw r i4 h9 n0 F_size_r) (K' := 10) (S' := 48) (by decide) (by decide) rfl own_pd___I rfl (Nat.le_of_eq rfl) rfl rfl (by decide) (by decide) rfl at_203 rfl (fun v h' hq => ?_)
      obtain ⟨rfl, hh⟩ := hq
      refine Go.at (st' := [(.int i4)]) rfl ?_
      refine Go.heap hh ?_
      refine OwnW.iload C (pc' := 208) at_206 rfl rfl ?_
      refine OwnW.icNe C (pcY := 236) (pcN := 211) at_208 (by decide) rfl rfl (fun hc208 => absurd rfl hc208) (fun hc208 => ?_)
      refine OwnW.aload C (pc' := 213) at_211 rfl rfl rfl ?_
      refine OwnW.callV C (pc' := 216) (y := (⟨"com/example/kinegrid/kinegrid/server/Request", "copiedBytes", "()J"⟩ : MethodName)) (z := (⟨"com/example/kinegrid/kinegrid/server/Request", "copiedBytes", "()J"⟩ : MethodName)) (W := 0) (argsL := []) (rest := []) (hw _ (List.mem_of_getElem? (i := 152) rfl)) (hw _ (List.mem_of_getElem? (i := 153) rfl)) (notFace_of_selects (args := #[]) (mvT C.2.1 (hw _ (List.mem_of_getElem? (i := 155) rfl)))) (hw _ (List.mem_of_getElem? (i := 155) rfl)) (hw _ (List.mem_of_getElem? (i := 154) rfl)) (hw _ (List.mem_of_getElem? (i := 62) rfl)) (hw _ (List.mem_of_getElem? (i := 156) rfl)) X_r (by decide) (own_rcopied l Z a0 hw r h9 n0 F_arrays_r) (K' := 10) (S' := 48) (by decide) (by decide) rfl own_pd___J rfl (Nat.le_of_eq rfl) rfl rfl (by decide) (by decide) rfl at_213 rfl (fun v h' hq => ?_)
      obtain ⟨rfl, hh⟩ := hq
      refine Go.at (st' := [(.long (0 : Int64))]) rfl ?_
      refine Go.heap hh ?_
      refine OwnW.lconst C (pc' := 217) at_216 rfl (z := 0) rfl ?_
      refine OwnW.lcmp C (pc' := 218) at_217 rfl ?_
      refine OwnW.ifNe C (pcY := 236) (pcN := 221) at_218 (by decide) rfl rfl (fun hc218 => absurd ((lw_eq _ _).mpr rfl) hc218) (fun hc218 => ?_)
      refine OwnW.aload C (pc' := 223) at_221 rfl rfl rfl ?_
      refine OwnW.iconst C (pc' := 224) at_223 rfl (z := 0) rfl ?_
      refine OwnW.callV C (pc' := 227) (y := (⟨"com/example/kinegrid/kinegrid/server/Request", "array", "(I)[B"⟩ : MethodName)) (z := (⟨"com/example/kinegrid/kinegrid/server/Request", "array", "(I)[B"⟩ : MethodName)) (W := 0) (argsL := [(.int (0 : Int32))]) (rest := []) (hw _ (List.mem_of_getElem? (i := 157) rfl)) (hw _ (List.mem_of_getElem? (i := 158) rfl)) (notFace_of_selects (args := #[]) (mvT C.2.1 (hw _ (List.mem_of_getElem? (i := 160) rfl)))) (hw _ (List.mem_of_getElem? (i := 160) rfl)) (hw _ (List.mem_of_getElem? (i := 159) rfl)) (hw _ (List.mem_of_getElem? (i := 62) rfl)) (hw _ (List.mem_of_getElem? (i := 161) rfl)) X_r (by decide) (own_rarray l Z a0 hw r b1 0 h9 n0 F_arrays_r F_array_r) (K' := 10) (S' := 48) (by decide) (by decide) rfl own_pd__I__B rfl (Nat.le_of_eq rfl) rfl rfl (by decide) (by decide) rfl at_224 rfl (fun v h' hq => ?_)
      obtain ⟨rfl, hh⟩ := hq
      refine Go.at (st' := [(.ref b1)]) rfl ?_
      refine Go.heap hh ?_
      refine OwnW.aload C (pc' := 229) at_227 rfl rfl rfl ?_
      refine OwnW.acNe C (pcY := 236) (pcN := 232) rfl rfl at_229 (by decide) rfl rfl (fun hc229 => absurd rfl hc229) (fun hc229 => ?_)
      refine OwnW.iconst C (pc' := 233) at_232 rfl (z := 1) rfl ?_
      refine OwnW.goto C (pc' := 237) at_233 (by decide) rfl ?_
      refine OwnW.istoreS C (pc' := 239) at_237 rfl rfl o13 (l' := #[.val (.int i0), .val (.int i1), .val (.int i2), .val (.int i3), .val (.int i4), .val (.int i5), .val (.ref b1), .val (.ref b2), .val (.int (2 : Int32)), .val (.int j9), .val (.int j10), .val (.int j11), .val (.ref r), .val (.int (1 : Int32)), s14]) rfl ?_
      refine OwnW.iload C (pc' := 241) at_239 rfl rfl ?_
      refine OwnW.ifEq C (pcY := 287) (pcN := 244) at_241 (by decide) rfl rfl (fun hc241 => absurd hc241 (by decide)) (fun hc241 => ?_)
      refine OwnW.iload C (pc' := 246) at_244 rfl rfl ?_
      refine OwnW.iconst C (pc' := 247) at_246 rfl (z := 1) rfl ?_
      refine OwnW.icLt C (pcY := 287) (pcN := 250) at_247 (by decide) rfl rfl (fun hc247 => ?_) (fun hc247 => ?_)
      · refine OwnW.iload C (pc' := 289) at_287 rfl rfl ?_
        refine OwnW.ifEq C (pcY := 337) (pcN := 292) at_289 (by decide) rfl rfl (fun hc289 => absurd hc289 (by decide)) (fun hc289 => ?_)
        refine OwnW.iload C (pc' := 294) at_292 rfl rfl ?_
        refine OwnW.iconst C (pc' := 295) at_294 rfl (z := 2) rfl ?_
        refine OwnW.icLt C (pcY := 337) (pcN := 298) at_295 (by decide) rfl rfl (fun hc295 => ?_) (fun hc295 => ?_)
        · refine OwnW.iload C (pc' := 339) at_337 rfl rfl ?_
          exact OwnW.retN C (t := .boolean) (z := (1 : Int32)) rfl (by simp) rfl rfl (by decide) (by decide) at_339
        · refine OwnW.aload C (pc' := 300) at_298 rfl rfl rfl ?_
          refine OwnW.iconst C (pc' := 301) at_300 rfl (z := 1) rfl ?_
          refine OwnW.callV C (pc' := 304) (y := (⟨"com/example/kinegrid/kinegrid/server/Request", "offset", "(I)I"⟩ : MethodName)) (z := (⟨"com/example/kinegrid/kinegrid/server/Request", "offset", "(I)I"⟩ : MethodName)) (W := 0) (argsL := [(.int (1 : Int32))]) (rest := []) (hw _ (List.mem_of_getElem? (i := 164) rfl)) (hw _ (List.mem_of_getElem? (i := 165) rfl)) (notFace_of_selects (args := #[]) (mvT C.2.1 (hw _ (List.mem_of_getElem? (i := 167) rfl)))) (hw _ (List.mem_of_getElem? (i := 167) rfl)) (hw _ (List.mem_of_getElem? (i := 166) rfl)) (hw _ (List.mem_of_getElem? (i := 62) rfl)) (hw _ (List.mem_of_getElem? (i := 168) rfl)) X_r (by decide) (own_roffset l Z a0 hw r b2 1 i4 2 4 (i1 ^^^ (-1 : Int32)) _ _ _ h9 n0 F_arrays_r F_bounds_r F_firstBound_r F_size_r V_b2 (by decide) (own_ge1 i4 hc295) rfl ⟨by decide, by decide⟩ rfl) (K' := 10) (S' := 48) (by decide) (by decide) rfl own_pd__I_I rfl (Nat.le_of_eq rfl) rfl rfl (by decide) (by decide) rfl at_301 rfl (fun v h' hq => ?_)
          obtain ⟨rfl, hh⟩ := hq
          refine Go.at (st' := [(.int (i1 ^^^ (-1 : Int32)))]) rfl ?_
          refine Go.heap hh ?_
          refine OwnW.aload C (pc' := 306) at_304 rfl rfl rfl ?_
          refine OwnW.iload C (pc' := 308) at_306 rfl rfl ?_
          refine OwnW.iconst C (pc' := 309) at_308 rfl (z := 2) rfl ?_
          refine OwnW.iadd C (pc' := 310) at_309 rfl ?_
          rw [show (2 : Int32) + 2 = 4 from rfl]
          refine OwnW.iaload C (pc' := 311) V_b2 ⟨by decide, by decide⟩ (v := (.int (i1 ^^^ (-1 : Int32)))) rfl at_310 rfl ?_
          refine OwnW.icNe C (pcY := 334) (pcN := 314) at_311 (by decide) rfl rfl (fun hc311 => absurd rfl hc311) (fun hc311 => ?_)
          refine OwnW.aload C (pc' := 316) at_314 rfl rfl rfl ?_
          refine OwnW.iconst C (pc' := 317) at_316 rfl (z := 1) rfl ?_
          refine OwnW.callV C (pc' := 320) (y := (⟨"com/example/kinegrid/kinegrid/server/Request", "end", "(I)I"⟩ : MethodName)) (z := (⟨"com/example/kinegrid/kinegrid/server/Request", "end", "(I)I"⟩ : MethodName)) (W := 0) (argsL := [(.int (1 : Int32))]) (rest := []) (hw _ (List.mem_of_getElem? (i := 177) rfl)) (hw _ (List.mem_of_getElem? (i := 178) rfl)) (notFace_of_selects (args := #[]) (mvT C.2.1 (hw _ (List.mem_of_getElem? (i := 180) rfl)))) (hw _ (List.mem_of_getElem? (i := 180) rfl)) (hw _ (List.mem_of_getElem? (i := 179) rfl)) (hw _ (List.mem_of_getElem? (i := 62) rfl)) (hw _ (List.mem_of_getElem? (i := 181) rfl)) X_r (by decide) (own_rend l Z a0 hw r b2 1 i4 2 5 (i2 ^^^ (-1 : Int32)) _ _ _ h9 n0 F_arrays_r F_bounds_r F_firstBound_r F_size_r V_b2 (by decide) (own_ge1 i4 hc295) rfl ⟨by decide, by decide⟩ rfl) (K' := 10) (S' := 48) (by decide) (by decide) rfl own_pd__I_I rfl (Nat.le_of_eq rfl) rfl rfl (by decide) (by decide) rfl at_317 rfl (fun v h' hq => ?_)
          obtain ⟨rfl, hh⟩ := hq
          refine Go.at (st' := [(.int (i2 ^^^ (-1 : Int32)))]) rfl ?_
          refine Go.heap hh ?_
          refine OwnW.aload C (pc' := 322) at_320 rfl rfl rfl ?_
          refine OwnW.iload C (pc' := 324) at_322 rfl rfl ?_
          refine OwnW.iconst C (pc' := 325) at_324 rfl (z := 3) rfl ?_
          refine OwnW.iadd C (pc' := 326) at_325 rfl ?_
          rw [show (2 : Int32) + 3 = 5 from rfl]
          refine OwnW.iaload C (pc' := 327) V_b2 ⟨by decide, by decide⟩ (v := (.int (i2 ^^^ (-1 : Int32)))) rfl at_326 rfl ?_
          refine OwnW.icNe C (pcY := 334) (pcN := 330) at_327 (by decide) rfl rfl (fun hc327 => absurd rfl hc327) (fun hc327 => ?_)
          refine OwnW.iconst C (pc' := 331) at_330 rfl (z := 1) rfl ?_
          refine OwnW.goto C (pc' := 335) at_331 (by decide) rfl ?_
          refine OwnW.istore C (pc' := 337) at_335 rfl (l' := #[.val (.int i0), .val (.int i1), .val (.int i2), .val (.int i3), .val (.int i4), .val (.int i5), .val (.ref b1), .val (.ref b2), .val (.int (2 : Int32)), .val (.int j9), .val (.int j10), .val (.int j11), .val (.ref r), .val (.int (1 : Int32)), s14]) rfl ?_
          refine OwnW.iload C (pc' := 339) at_337 rfl rfl ?_
          exact OwnW.retN C (t := .boolean) (z := (1 : Int32)) rfl (by simp) rfl rfl (by decide) (by decide) at_339
      · refine OwnW.aload C (pc' := 252) at_250 rfl rfl rfl ?_
        refine OwnW.iconst C (pc' := 253) at_252 rfl (z := 0) rfl ?_
        refine OwnW.callV C (pc' := 256) (y := (⟨"com/example/kinegrid/kinegrid/server/Request", "offset", "(I)I"⟩ : MethodName)) (z := (⟨"com/example/kinegrid/kinegrid/server/Request", "offset", "(I)I"⟩ : MethodName)) (W := 0) (argsL := [(.int (0 : Int32))]) (rest := []) (hw _ (List.mem_of_getElem? (i := 164) rfl)) (hw _ (List.mem_of_getElem? (i := 165) rfl)) (notFace_of_selects (args := #[]) (mvT C.2.1 (hw _ (List.mem_of_getElem? (i := 167) rfl)))) (hw _ (List.mem_of_getElem? (i := 167) rfl)) (hw _ (List.mem_of_getElem? (i := 166) rfl)) (hw _ (List.mem_of_getElem? (i := 62) rfl)) (hw _ (List.mem_of_getElem? (i := 168) rfl)) X_r (by decide) (own_roffset l Z a0 hw r b2 0 i4 2 2 i2 _ _ _ h9 n0 F_arrays_r F_bounds_r F_firstBound_r F_size_r V_b2 (by decide) (own_ge0 i4 hc247) rfl ⟨by decide, by decide⟩ rfl) (K' := 10) (S' := 48) (by decide) (by decide) rfl own_pd__I_I rfl (Nat.le_of_eq rfl) rfl rfl (by decide) (by decide) rfl at_253 rfl (fun v h' hq => ?_)
        obtain ⟨rfl, hh⟩ := hq
        refine Go.at (st' := [(.int i2)]) rfl ?_
        refine Go.heap hh ?_
        refine OwnW.aload C (pc' := 258) at_256 rfl rfl rfl ?_
        refine OwnW.iload C (pc' := 260) at_258 rfl rfl ?_
        refine OwnW.iaload C (pc' := 261) V_b2 ⟨by decide, by decide⟩ (v := (.int i2)) rfl at_260 rfl ?_
        refine OwnW.icNe C (pcY := 284) (pcN := 264) at_261 (by decide) rfl rfl (fun hc261 => absurd rfl hc261) (fun hc261 => ?_)
        refine OwnW.aload C (pc' := 266) at_264 rfl rfl rfl ?_
        refine OwnW.iconst C (pc' := 267) at_266 rfl (z := 0) rfl ?_
        refine OwnW.callV C (pc' := 270) (y := (⟨"com/example/kinegrid/kinegrid/server/Request", "end", "(I)I"⟩ : MethodName)) (z := (⟨"com/example/kinegrid/kinegrid/server/Request", "end", "(I)I"⟩ : MethodName)) (W := 0) (argsL := [(.int (0 : Int32))]) (rest := []) (hw _ (List.mem_of_getElem? (i := 177) rfl)) (hw _ (List.mem_of_getElem? (i := 178) rfl)) (notFace_of_selects (args := #[]) (mvT C.2.1 (hw _ (List.mem_of_getElem? (i := 180) rfl)))) (hw _ (List.mem_of_getElem? (i := 180) rfl)) (hw _ (List.mem_of_getElem? (i := 179) rfl)) (hw _ (List.mem_of_getElem? (i := 62) rfl)) (hw _ (List.mem_of_getElem? (i := 181) rfl)) X_r (by decide) (own_rend l Z a0 hw r b2 0 i4 2 3 (i0 ^^^ (-1 : Int32)) _ _ _ h9 n0 F_arrays_r F_bounds_r F_firstBound_r F_size_r V_b2 (by decide) (own_ge0 i4 hc247) rfl ⟨by decide, by decide⟩ rfl) (K' := 10) (S' := 48) (by decide) (by decide) rfl own_pd__I_I rfl (Nat.le_of_eq rfl) rfl rfl (by decide) (by decide) rfl at_267 rfl (fun v h' hq => ?_)
        obtain ⟨rfl, hh⟩ := hq
        refine Go.at (st' := [(.int (i0 ^^^ (-1 : Int32)))]) rfl ?_
        refine Go.heap hh ?_
        refine OwnW.aload C (pc' := 272) at_270 rfl rfl rfl ?_
        refine OwnW.iload C (pc' := 274) at_272 rfl rfl ?_
        refine OwnW.iconst C (pc' := 275) at_274 rfl (z := 1) rfl ?_
        refine OwnW.iadd C (pc' := 276) at_275 rfl ?_
        rw [show (2 : Int32) + 1 = 3 from rfl]
        refine OwnW.iaload C (pc' := 277) V_b2 ⟨by decide, by decide⟩ (v := (.int (i0 ^^^ (-1 : Int32)))) rfl at_276 rfl ?_
        refine OwnW.icNe C (pcY := 284) (pcN := 280) at_277 (by decide) rfl rfl (fun hc277 => absurd rfl hc277) (fun hc277 => ?_)
        refine OwnW.iconst C (pc' := 281) at_280 rfl (z := 1) rfl ?_
        refine OwnW.goto C (pc' := 285) at_281 (by decide) rfl ?_
        refine OwnW.istore C (pc' := 287) at_285 rfl (l' := #[.val (.int i0), .val (.int i1), .val (.int i2), .val (.int i3), .val (.int i4), .val (.int i5), .val (.ref b1), .val (.ref b2), .val (.int (2 : Int32)), .val (.int j9), .val (.int j10), .val (.int j11), .val (.ref r), .val (.int (1 : Int32)), s14]) rfl ?_
        refine OwnW.iload C (pc' := 289) at_287 rfl rfl ?_
        refine OwnW.ifEq C (pcY := 337) (pcN := 292) at_289 (by decide) rfl rfl (fun hc289 => absurd hc289 (by decide)) (fun hc289 => ?_)
        refine OwnW.iload C (pc' := 294) at_292 rfl rfl ?_
        refine OwnW.iconst C (pc' := 295) at_294 rfl (z := 2) rfl ?_
        refine OwnW.icLt C (pcY := 337) (pcN := 298) at_295 (by decide) rfl rfl (fun hc295 => ?_) (fun hc295 => ?_)
        · refine OwnW.iload C (pc' := 339) at_337 rfl rfl ?_
          exact OwnW.retN C (t := .boolean) (z := (1 : Int32)) rfl (by simp) rfl rfl (by decide) (by decide) at_339
        · refine OwnW.aload C (pc' := 300) at_298 rfl rfl rfl ?_
          refine OwnW.iconst C (pc' := 301) at_300 rfl (z := 1) rfl ?_
          refine OwnW.callV C (pc' := 304) (y := (⟨"com/example/kinegrid/kinegrid/server/Request", "offset", "(I)I"⟩ : MethodName)) (z := (⟨"com/example/kinegrid/kinegrid/server/Request", "offset", "(I)I"⟩ : MethodName)) (W := 0) (argsL := [(.int (1 : Int32))]) (rest := []) (hw _ (List.mem_of_getElem? (i := 164) rfl)) (hw _ (List.mem_of_getElem? (i := 165) rfl)) (notFace_of_selects (args := #[]) (mvT C.2.1 (hw _ (List.mem_of_getElem? (i := 167) rfl)))) (hw _ (List.mem_of_getElem? (i := 167) rfl)) (hw _ (List.mem_of_getElem? (i := 166) rfl)) (hw _ (List.mem_of_getElem? (i := 62) rfl)) (hw _ (List.mem_of_getElem? (i := 168) rfl)) X_r (by decide) (own_roffset l Z a0 hw r b2 1 i4 2 4 (i1 ^^^ (-1 : Int32)) _ _ _ h9 n0 F_arrays_r F_bounds_r F_firstBound_r F_size_r V_b2 (by decide) (own_ge1 i4 hc295) rfl ⟨by decide, by decide⟩ rfl) (K' := 10) (S' := 48) (by decide) (by decide) rfl own_pd__I_I rfl (Nat.le_of_eq rfl) rfl rfl (by decide) (by decide) rfl at_301 rfl (fun v h' hq => ?_)
          obtain ⟨rfl, hh⟩ := hq
          refine Go.at (st' := [(.int (i1 ^^^ (-1 : Int32)))]) rfl ?_
          refine Go.heap hh ?_
          refine OwnW.aload C (pc' := 306) at_304 rfl rfl rfl ?_
          refine OwnW.iload C (pc' := 308) at_306 rfl rfl ?_
          refine OwnW.iconst C (pc' := 309) at_308 rfl (z := 2) rfl ?_
          refine OwnW.iadd C (pc' := 310) at_309 rfl ?_
          rw [show (2 : Int32) + 2 = 4 from rfl]
          refine OwnW.iaload C (pc' := 311) V_b2 ⟨by decide, by decide⟩ (v := (.int (i1 ^^^ (-1 : Int32)))) rfl at_310 rfl ?_
          refine OwnW.icNe C (pcY := 334) (pcN := 314) at_311 (by decide) rfl rfl (fun hc311 => absurd rfl hc311) (fun hc311 => ?_)
          refine OwnW.aload C (pc' := 316) at_314 rfl rfl rfl ?_
          refine OwnW.iconst C (pc' := 317) at_316 rfl (z := 1) rfl ?_
          refine OwnW.callV C (pc' := 320) (y := (⟨"com/example/kinegrid/kinegrid/server/Request", "end", "(I)I"⟩ : MethodName)) (z := (⟨"com/example/kinegrid/kinegrid/server/Request", "end", "(I)I"⟩ : MethodName)) (W := 0) (argsL := [(.int (1 : Int32))]) (rest := []) (hw _ (List.mem_of_getElem? (i := 177) rfl)) (hw _ (List.mem_of_getElem? (i := 178) rfl)) (notFace_of_selects (args := #[]) (mvT C.2.1 (hw _ (List.mem_of_getElem? (i := 180) rfl)))) (hw _ (List.mem_of_getElem? (i := 180) rfl)) (hw _ (List.mem_of_getElem? (i := 179) rfl)) (hw _ (List.mem_of_getElem? (i := 62) rfl)) (hw _ (List.mem_of_getElem? (i := 181) rfl)) X_r (by decide) (own_rend l Z a0 hw r b2 1 i4 2 5 (i2 ^^^ (-1 : Int32)) _ _ _ h9 n0 F_arrays_r F_bounds_r F_firstBound_r F_size_r V_b2 (by decide) (own_ge1 i4 hc295) rfl ⟨by decide, by decide⟩ rfl) (K' := 10) (S' := 48) (by decide) (by decide) rfl own_pd__I_I rfl (Nat.le_of_eq rfl) rfl rfl (by decide) (by decide) rfl at_317 rfl (fun v h' hq => ?_)
          obtain ⟨rfl, hh⟩ := hq
          refine Go.at (st' := [(.int (i2 ^^^ (-1 : Int32)))]) rfl ?_
          refine Go.heap hh ?_
          refine OwnW.aload C (pc' := 322) at_320 rfl rfl rfl ?_
          refine OwnW.iload C (pc' := 324) at_322 rfl rfl ?_
          refine OwnW.iconst C (pc' := 325) at_324 rfl (z := 3) rfl ?_
          refine OwnW.iadd C (pc' := 326) at_325 rfl ?_
          rw [show (2 : Int32) + 3 = 5 from rfl]
          refine OwnW.iaload C (pc' := 327) V_b2 ⟨by decide, by decide⟩ (v := (.int (i2 ^^^ (-1 : Int32)))) rfl at_326 rfl ?_
          refine OwnW.icNe C (pcY := 334) (pcN := 330) at_327 (by decide) rfl rfl (fun hc327 => absurd rfl hc327) (fun hc327 => ?_)
          refine OwnW.iconst C (pc' := 331) at_330 rfl (z := 1) rfl ?_
          refine OwnW.goto C (pc' := 335) at_331 (by decide) rfl ?_
          refine OwnW.istore C (pc' := 337) at_335 rfl (l' := #[.val (.int i0), .val (.int i1), .val (.int i2), .val (.int i3), .val (.int i4), .val (.int i5), .val (.ref b1), .val (.ref b2), .val (.int (2 : Int32)), .val (.int j9), .val (.int j10), .val (.int j11), .val (.ref r), .val (.int (1 : Int32)), s14]) rfl ?_
          refine OwnW.iload C (pc' := 339) at_337 rfl rfl ?_
          exact OwnW.retN C (t := .boolean) (z := (1 : Int32)) rfl (by simp) rfl rfl (by decide) (by decide) at_339
  refine OwnW.iload C (pc' := 51) at_49 rfl rfl ?_
  refine OwnW.iconst C (pc' := 52) at_51 rfl (z := 1) rfl ?_
  refine OwnW.iand C (pc' := 53) at_52 rfl ?_
  refine OwnW.ifEq C (pcY := 60) (pcN := 56) at_53 (by decide) rfl rfl (fun hc53 => ?_) (fun hc53 => ?_)
  · refine OwnW.iconst C (pc' := 61) at_60 rfl (z := 0) rfl ?_
    refine OwnW.istore C (pc' := 63) at_61 rfl (l' := #[.val (.int i0), .val (.int i1), .val (.int i2), .val (.int i3), .val (.int i4), .val (.int i5), .val (.ref b1), .val (.ref b2), .val (.int fb), .val (.int (0 : Int32)), .unset, .unset, .unset, .unset, .unset]) rfl ?_
    refine OwnW.iload C (pc' := 65) at_63 rfl rfl ?_
    refine OwnW.iconst C (pc' := 66) at_65 rfl (z := 2) rfl ?_
    refine OwnW.iand C (pc' := 67) at_66 rfl ?_
    refine OwnW.ifEq C (pcY := 74) (pcN := 70) at_67 (by decide) rfl rfl (fun hc67 => ?_) (fun hc67 => ?_)
    · refine OwnW.iconst C (pc' := 75) at_74 rfl (z := 0) rfl ?_
      refine OwnW.istore C (pc' := 77) at_75 rfl (l' := #[.val (.int i0), .val (.int i1), .val (.int i2), .val (.int i3), .val (.int i4), .val (.int i5), .val (.ref b1), .val (.ref b2), .val (.int fb), .val (.int (0 : Int32)), .val (.int (0 : Int32)), .unset, .unset, .unset, .unset]) rfl ?_
      refine OwnW.iload C (pc' := 79) at_77 rfl rfl ?_
      refine OwnW.iconst C (pc' := 80) at_79 rfl (z := 4) rfl ?_
      refine OwnW.iand C (pc' := 81) at_80 rfl ?_
      refine OwnW.ifEq C (pcY := 88) (pcN := 84) at_81 (by decide) rfl rfl (fun hc81 => ?_) (fun hc81 => ?_)
      · refine OwnW.iconst C (pc' := 89) at_88 rfl (z := 0) rfl ?_
        refine OwnW.istore C (pc' := 91) at_89 rfl (l' := #[.val (.int i0), .val (.int i1), .val (.int i2), .val (.int i3), .val (.int i4), .val (.int i5), .val (.ref b1), .val (.ref b2), .val (.int fb), .val (.int (0 : Int32)), .val (.int (0 : Int32)), .val (.int (0 : Int32)), .unset, .unset, .unset]) rfl ?_
        refine OwnW.iload C (pc' := 93) at_91 rfl rfl ?_
        refine OwnW.ifEq C (pcY := 124) (pcN := 96) at_93 (by decide) rfl rfl (fun hc93 => ?_) (fun hc93 => absurd rfl hc93)
        refine OwnW.newO C (pc' := 127) (K' := 3) (S' := 16) (hw _ (List.mem_of_getElem? (i := 162) rfl)) (hw _ (List.mem_of_getElem? (i := 65) rfl)) (hw _ (List.mem_of_getElem? (i := 62) rfl)) at_124 rfl rfl rfl (by decide) (by decide) (fun h9 b9 g9 E9 X_b9 D9 => ?_)
        have ne_b2_b9 : b2 ≠ b9 := Nat.ne_of_lt (Nat.lt_of_lt_of_eq V_b2.lt g9.symm)
        have g_b9 : n0 ≤ b9 := Nat.le_trans Sz (Nat.le_of_eq g9.symm)
        have O := O.ext E9
        have Sz := Nat.le_trans Sz E9.1
        have V_b2 := V_b2.ext E9
        have F_arrays_b9 : Fld Z h9 b9 "com/example/kinegrid/kinegrid/server/Request" "arrays" "Ljava/util/List;" .null := D9 (Or.inl (hw _ (List.mem_of_getElem? (i := 71) rfl))) (ty := (.object "java/util/List")) (by decide)
        have F_copiedBytes_b9 : Fld Z h9 b9 "com/example/kinegrid/kinegrid/server/Request" "copiedBytes" "J" (.long (0 : Int64)) := D9 (Or.inl (hw _ (List.mem_of_getElem? (i := 125) rfl))) (ty := .long) (by decide)
        have F_size_b9 : Fld Z h9 b9 "com/example/kinegrid/kinegrid/server/Request" "size" "I" (.int (0 : Int32)) := D9 (Or.inl (hw _ (List.mem_of_getElem? (i := 135) rfl))) (ty := .int) (by decide)
        have F_array_b9 : Fld Z h9 b9 "com/example/kinegrid/kinegrid/server/Request" "array" "[B" .null := D9 (Or.inl (hw _ (List.mem_of_getElem? (i := 142) rfl))) (ty := (.array .byte)) (by decide)
        have F_bounds_b9 : Fld Z h9 b9 "com/example/kinegrid/kinegrid/server/Request" "bounds" "[I" .null := D9 (Or.inl (hw _ (List.mem_of_getElem? (i := 144) rfl))) (ty := (.array .int)) (by decide)
        have F_firstBound_b9 : Fld Z h9 b9 "com/example/kinegrid/kinegrid/server/Request" "firstBound" "I" (.int (0 : Int32)) := D9 (Or.inl (hw _ (List.mem_of_getElem? (i := 146) rfl))) (ty := .int) (by decide)
        refine OwnW.dup C (pc' := 128) at_127 rfl rfl ?_
        refine OwnW.callX C (pc' := 131) (y := (⟨"com/example/kinegrid/kinegrid/server/Request", "<init>", "()V"⟩ : MethodName)) (W := 1) (argsL := []) (rest := [(.ref b9)]) rfl (hw _ (List.mem_of_getElem? (i := 163) rfl)) (hw _ (List.mem_of_getElem? (i := 67) rfl)) (hw _ (List.mem_of_getElem? (i := 62) rfl)) (hw _ (List.mem_of_getElem? (i := 68) rfl)) (by decide) (own_rqinit l Z a0 hw b9 h9 n0) (K' := 3) (S' := 16) (by decide) (by decide) rfl own_pd___V rfl (Nat.le_of_eq rfl) rfl rfl (by decide) (by decide) rfl at_128 rfl (fun v h' hq => ?_)
        obtain ⟨rfl, hh⟩ := hq
        refine Go.at (st' := [(.ref b9)]) rfl ?_
        refine Go.heap hh ?_
        refine OwnW.astore C (pc' := 133) at_131 rfl rfl (l' := #[.val (.int i0), .val (.int i1), .val (.int i2), .val (.int i3), .val (.int i4), .val (.int i5), .val (.ref b1), .val (.ref b2), .val (.int fb), .val (.int (0 : Int32)), .val (.int (0 : Int32)), .val (.int (0 : Int32)), .val (.ref b9), .unset, .unset]) rfl ?_
        refine OwnW.iload C (pc' := 135) at_133 rfl rfl ?_
        refine OwnW.ifEq C (pcY := 188) (pcN := 138) at_135 (by decide) rfl rfl (fun hc135 => ?_) (fun hc135 => absurd rfl hc135)
        exact Go.weak (by decide) (by decide) (J h9 b9 .null .null .null fb (0 : Int32) (0 : Int32) (0 : Int32) 0 0 (.unset) (.unset) One.u One.u hfb X_b9 F_array_b9 F_bounds_b9 F_arrays_b9 F_firstBound_b9 F_size_b9 g_b9 rfl rfl rfl V_b2 ne_b2_b9)
      · refine OwnW.iconst C (pc' := 85) at_84 rfl (z := 1) rfl ?_
        refine OwnW.goto C (pc' := 89) at_85 (by decide) rfl ?_
        refine OwnW.istore C (pc' := 91) at_89 rfl (l' := #[.val (.int i0), .val (.int i1), .val (.int i2), .val (.int i3), .val (.int i4), .val (.int i5), .val (.ref b1), .val (.ref b2), .val (.int fb), .val (.int (0 : Int32)), .val (.int (0 : Int32)), .val (.int (1 : Int32)), .unset, .unset, .unset]) rfl ?_
        refine OwnW.iload C (pc' := 93) at_91 rfl rfl ?_
        refine OwnW.ifEq C (pcY := 124) (pcN := 96) at_93 (by decide) rfl rfl (fun hc93 => ?_) (fun hc93 => absurd rfl hc93)
        refine OwnW.newO C (pc' := 127) (K' := 3) (S' := 16) (hw _ (List.mem_of_getElem? (i := 162) rfl)) (hw _ (List.mem_of_getElem? (i := 65) rfl)) (hw _ (List.mem_of_getElem? (i := 62) rfl)) at_124 rfl rfl rfl (by decide) (by decide) (fun h9 b9 g9 E9 X_b9 D9 => ?_)
        have ne_b2_b9 : b2 ≠ b9 := Nat.ne_of_lt (Nat.lt_of_lt_of_eq V_b2.lt g9.symm)
        have g_b9 : n0 ≤ b9 := Nat.le_trans Sz (Nat.le_of_eq g9.symm)
        have O := O.ext E9
        have Sz := Nat.le_trans Sz E9.1
        have V_b2 := V_b2.ext E9
        have F_arrays_b9 : Fld Z h9 b9 "com/example/kinegrid/kinegrid/server/Request" "arrays" "Ljava/util/List;" .null := D9 (Or.inl (hw _ (List.mem_of_getElem? (i := 71) rfl))) (ty := (.object "java/util/List")) (by decide)
        have F_copiedBytes_b9 : Fld Z h9 b9 "com/example/kinegrid/kinegrid/server/Request" "copiedBytes" "J" (.long (0 : Int64)) := D9 (Or.inl (hw _ (List.mem_of_getElem? (i := 125) rfl))) (ty := .long) (by decide)
        have F_size_b9 : Fld Z h9 b9 "com/example/kinegrid/kinegrid/server/Request" "size" "I" (.int (0 : Int32)) := D9 (Or.inl (hw _ (List.mem_of_getElem? (i := 135) rfl))) (ty := .int) (by decide)
        have F_array_b9 : Fld Z h9 b9 "com/example/kinegrid/kinegrid/server/Request" "array" "[B" .null := D9 (Or.inl (hw _ (List.mem_of_getElem? (i := 142) rfl))) (ty := (.array .byte)) (by decide)
        have F_bounds_b9 : Fld Z h9 b9 "com/example/kinegrid/kinegrid/server/Request" "bounds" "[I" .null := D9 (Or.inl (hw _ (List.mem_of_getElem? (i := 144) rfl))) (ty := (.array .int)) (by decide)
        have F_firstBound_b9 : Fld Z h9 b9 "com/example/kinegrid/kinegrid/server/Request" "firstBound" "I" (.int (0 : Int32)) := D9 (Or.inl (hw _ (List.mem_of_getElem? (i := 146) rfl))) (ty := .int) (by decide)
        refine OwnW.dup C (pc' := 128) at_127 rfl rfl ?_
        refine OwnW.callX C (pc' := 131) (y := (⟨"com/example/kinegrid/kinegrid/server/Request", "<init>", "()V"⟩ : MethodName)) (W := 1) (argsL := []) (rest := [(.ref b9)]) rfl (hw _ (List.mem_of_getElem? (i := 163) rfl)) (hw _ (List.mem_of_getElem? (i := 67) rfl)) (hw _ (List.mem_of_getElem? (i := 62) rfl)) (hw _ (List.mem_of_getElem? (i := 68) rfl)) (by decide) (own_rqinit l Z a0 hw b9 h9 n0) (K' := 3) (S' := 16) (by decide) (by decide) rfl own_pd___V rfl (Nat.le_of_eq rfl) rfl rfl (by decide) (by decide) rfl at_128 rfl (fun v h' hq => ?_)
        obtain ⟨rfl, hh⟩ := hq
        refine Go.at (st' := [(.ref b9)]) rfl ?_
        refine Go.heap hh ?_
        refine OwnW.astore C (pc' := 133) at_131 rfl rfl (l' := #[.val (.int i0), .val (.int i1), .val (.int i2), .val (.int i3), .val (.int i4), .val (.int i5), .val (.ref b1), .val (.ref b2), .val (.int fb), .val (.int (0 : Int32)), .val (.int (0 : Int32)), .val (.int (1 : Int32)), .val (.ref b9), .unset, .unset]) rfl ?_
        refine OwnW.iload C (pc' := 135) at_133 rfl rfl ?_
        refine OwnW.ifEq C (pcY := 188) (pcN := 138) at_135 (by decide) rfl rfl (fun hc135 => ?_) (fun hc135 => absurd rfl hc135)
        exact Go.weak (by decide) (by decide) (J h9 b9 .null .null .null fb (0 : Int32) (0 : Int32) (1 : Int32) 0 0 (.unset) (.unset) One.u One.u hfb X_b9 F_array_b9 F_bounds_b9 F_arrays_b9 F_firstBound_b9 F_size_b9 g_b9 rfl rfl rfl V_b2 ne_b2_b9)
    · refine OwnW.iconst C (pc' := 71) at_70 rfl (z := 1) rfl ?_
      refine OwnW.goto C (pc' := 75) at_71 (by decide) rfl ?_
      refine OwnW.istore C (pc' := 77) at_75 rfl (l' := #[.val (.int i0), .val (.int i1), .val (.int i2), .val (.int i3), .val (.int i4), .val (.int i5), .val (.ref b1), .val (.ref b2), .val (.int fb), .val (.int (0 : Int32)), .val (.int (1 : Int32)), .unset, .unset, .unset, .unset]) rfl ?_
      refine OwnW.iload C (pc' := 79) at_77 rfl rfl ?_
      refine OwnW.iconst C (pc' := 80) at_79 rfl (z := 4) rfl ?_
      refine OwnW.iand C (pc' := 81) at_80 rfl ?_
      refine OwnW.ifEq C (pcY := 88) (pcN := 84) at_81 (by decide) rfl rfl (fun hc81 => ?_) (fun hc81 => ?_)
      · refine OwnW.iconst C (pc' := 89) at_88 rfl (z := 0) rfl ?_
        refine OwnW.istore C (pc' := 91) at_89 rfl (l' := #[.val (.int i0), .val (.int i1), .val (.int i2), .val (.int i3), .val (.int i4), .val (.int i5), .val (.ref b1), .val (.ref b2), .val (.int fb), .val (.int (0 : Int32)), .val (.int (1 : Int32)), .val (.int (0 : Int32)), .unset, .unset, .unset]) rfl ?_
        refine OwnW.iload C (pc' := 93) at_91 rfl rfl ?_
        refine OwnW.ifEq C (pcY := 124) (pcN := 96) at_93 (by decide) rfl rfl (fun hc93 => ?_) (fun hc93 => absurd rfl hc93)
        refine OwnW.newO C (pc' := 127) (K' := 3) (S' := 16) (hw _ (List.mem_of_getElem? (i := 162) rfl)) (hw _ (List.mem_of_getElem? (i := 65) rfl)) (hw _ (List.mem_of_getElem? (i := 62) rfl)) at_124 rfl rfl rfl (by decide) (by decide) (fun h9 b9 g9 E9 X_b9 D9 => ?_)
        have ne_b2_b9 : b2 ≠ b9 := Nat.ne_of_lt (Nat.lt_of_lt_of_eq V_b2.lt g9.symm)
        have g_b9 : n0 ≤ b9 := Nat.le_trans Sz (Nat.le_of_eq g9.symm)
        have O := O.ext E9
        have Sz := Nat.le_trans Sz E9.1
        have V_b2 := V_b2.ext E9
        have F_arrays_b9 : Fld Z h9 b9 "com/example/kinegrid/kinegrid/server/Request" "arrays" "Ljava/util/List;" .null := D9 (Or.inl (hw _ (List.mem_of_getElem? (i := 71) rfl))) (ty := (.object "java/util/List")) (by decide)
        have F_copiedBytes_b9 : Fld Z h9 b9 "com/example/kinegrid/kinegrid/server/Request" "copiedBytes" "J" (.long (0 : Int64)) := D9 (Or.inl (hw _ (List.mem_of_getElem? (i := 125) rfl))) (ty := .long) (by decide)
        have F_size_b9 : Fld Z h9 b9 "com/example/kinegrid/kinegrid/server/Request" "size" "I" (.int (0 : Int32)) := D9 (Or.inl (hw _ (List.mem_of_getElem? (i := 135) rfl))) (ty := .int) (by decide)
        have F_array_b9 : Fld Z h9 b9 "com/example/kinegrid/kinegrid/server/Request" "array" "[B" .null := D9 (Or.inl (hw _ (List.mem_of_getElem? (i := 142) rfl))) (ty := (.array .byte)) (by decide)
        have F_bounds_b9 : Fld Z h9 b9 "com/example/kinegrid/kinegrid/server/Request" "bounds" "[I" .null := D9 (Or.inl (hw _ (List.mem_of_getElem? (i := 144) rfl))) (ty := (.array .int)) (by decide)
        have F_firstBound_b9 : Fld Z h9 b9 "com/example/kinegrid/kinegrid/server/Request" "firstBound" "I" (.int (0 : Int32)) := D9 (Or.inl (hw _ (List.mem_of_getElem? (i := 146) rfl))) (ty := .int) (by decide)
        refine OwnW.dup C (pc' := 128) at_127 rfl rfl ?_
        refine OwnW.callX C (pc' := 131) (y := (⟨"com/example/kinegrid/kinegrid/server/Request", "<init>", "()V"⟩ : MethodName)) (W := 1) (argsL := []) (rest := [(.ref b9)]) rfl (hw _ (List.mem_of_getElem? (i := 163) rfl)) (hw _ (List.mem_of_getElem? (i := 67) rfl)) (hw _ (List.mem_of_getElem? (i := 62) rfl)) (hw _ (List.mem_of_getElem? (i := 68) rfl)) (by decide) (own_rqinit l Z a0 hw b9 h9 n0) (K' := 3) (S' := 16) (by decide) (by decide) rfl own_pd___V rfl (Nat.le_of_eq rfl) rfl rfl (by decide) (by decide) rfl at_128 rfl (fun v h' hq => ?_)
        obtain ⟨rfl, hh⟩ := hq
        refine Go.at (st' := [(.ref b9)]) rfl ?_
        refine Go.heap hh ?_
        refine OwnW.astore C (pc' := 133) at_131 rfl rfl (l' := #[.val (.int i0), .val (.int i1), .val (.int i2), .val (.int i3), .val (.int i4), .val (.int i5), .val (.ref b1), .val (.ref b2), .val (.int fb), .val (.int (0 : Int32)), .val (.int (1 : Int32)), .val (.int (0 : Int32)), .val (.ref b9), .unset, .unset]) rfl ?_
        refine OwnW.iload C (pc' := 135) at_133 rfl rfl ?_
        refine OwnW.ifEq C (pcY := 188) (pcN := 138) at_135 (by decide) rfl rfl (fun hc135 => absurd hc135 (by decide)) (fun hc135 => ?_)
        refine OwnW.iload C (pc' := 140) at_138 rfl rfl ?_
        refine OwnW.ifEq C (pcY := 148) (pcN := 143) at_140 (by decide) rfl rfl (fun hc140 => ?_) (fun hc140 => absurd rfl hc140)
        refine OwnW.iconst C (pc' := 149) at_148 rfl (z := 1) rfl ?_
        refine OwnW.newPE C (pc' := 151) (K' := 4) (S' := 17) (ad := "[B") (by decide +kernel) (hw _ (List.mem_of_getElem? (i := 0) rfl)) (cap := 1) (by decide) (by decide) (by decide) at_149 rfl rfl rfl (by decide) (by decide) (fun h10 b10 cA_b10 g10 E10 V_b10 X_b10 => ?_)
        have ne_b2_b10 : b2 ≠ b10 := Nat.ne_of_lt (Nat.lt_of_lt_of_eq V_b2.lt g10.symm)
        have ne_b9_b10 : b9 ≠ b10 := Nat.ne_of_lt (Nat.lt_of_lt_of_eq X_b9.lt g10.symm)
        have g_b10 : n0 ≤ b10 := Nat.le_trans Sz (Nat.le_of_eq g10.symm)
        have O := O.ext E10
        have Sz := Nat.le_trans Sz E10.1
        have V_b2 := V_b2.ext E10
        have X_b9 := X_b9.ext E10
        have F_arrays_b9 := F_arrays_b9.ext E10
        have F_copiedBytes_b9 := F_copiedBytes_b9.ext E10
        have F_size_b9 := F_size_b9.ext E10
        have F_array_b9 := F_array_b9.ext E10
        have F_bounds_b9 := F_bounds_b9.ext E10
        have F_firstBound_b9 := F_firstBound_b9.ext E10
        have V_b10 : Arv Z h10 b10 cA_b10 .byte (1 : Int32) [(.int (0 : Int32))] (.int (0 : Int32)) := V_b10.pad (pad_rep [] (.int (0 : Int32)) 1)
        refine OwnW.astore C (pc' := 153) at_151 rfl rfl (l' := #[.val (.int i0), .val (.int i1), .val (.int i2), .val (.int i3), .val (.int i4), .val (.int i5), .val (.ref b1), .val (.ref b2), .val (.int fb), .val (.int (0 : Int32)), .val (.int (1 : Int32)), .val (.int (0 : Int32)), .val (.ref b9), .val (.ref b10), .unset]) rfl ?_
        refine OwnW.iload C (pc' := 155) at_153 rfl rfl ?_
        refine OwnW.ifEq C (pcY := 163) (pcN := 158) at_155 (by decide) rfl rfl (fun hc155 => ?_) (fun hc155 => absurd rfl hc155)
        refine OwnW.bipush C (pc' := 165) at_163 rfl (z := 6) rfl ?_
        refine OwnW.newPE C (pc' := 167) (K' := 5) (S' := 23) (ad := "[I") (by decide +kernel) (hw _ (List.mem_of_getElem? (i := 1) rfl)) (cap := 6) (by decide) (by decide) (by decide) at_165 rfl rfl rfl (by decide) (by decide) (fun h11 b11 cA_b11 g11 E11 V_b11 X_b11 => ?_)
        have ne_b2_b11 : b2 ≠ b11 := Nat.ne_of_lt (Nat.lt_of_lt_of_eq V_b2.lt g11.symm)
        have ne_b9_b11 : b9 ≠ b11 := Nat.ne_of_lt (Nat.lt_of_lt_of_eq X_b9.lt g11.symm)
        have ne_b10_b11 : b10 ≠ b11 := Nat.ne_of_lt (Nat.lt_of_lt_of_eq X_b10.lt g11.symm)
        have g_b11 : n0 ≤ b11 := Nat.le_trans Sz (Nat.le_of_eq g11.symm)
        have O := O.ext E11
        have Sz := Nat.le_trans Sz E11.1
        have V_b2 := V_b2.ext E11
        have X_b9 := X_b9.ext E11
        have F_arrays_b9 := F_arrays_b9.ext E11
        have F_copiedBytes_b9 := F_copiedBytes_b9.ext E11
        have F_size_b9 := F_size_b9.ext E11
        have F_array_b9 := F_array_b9.ext E11
        have F_bounds_b9 := F_bounds_b9.ext E11
        have F_firstBound_b9 := F_firstBound_b9.ext E11
        have X_b10 := X_b10.ext E11
        have V_b10 := V_b10.ext E11
        have V_b11 : Arv Z h11 b11 cA_b11 .int (6 : Int32) [(.int (0 : Int32)), (.int (0 : Int32)), (.int (0 : Int32)), (.int (0 : Int32)), (.int (0 : Int32)), (.int (0 : Int32))] (.int (0 : Int32)) := V_b11.pad (pad_rep [] (.int (0 : Int32)) 6)
        refine OwnW.astore C (pc' := 169) at_167 rfl rfl (l' := #[.val (.int i0), .val (.int i1), .val (.int i2), .val (.int i3), .val (.int i4), .val (.int i5), .val (.ref b1), .val (.ref b2), .val (.int fb), .val (.int (0 : Int32)), .val (.int (1 : Int32)), .val (.int (0 : Int32)), .val (.ref b9), .val (.ref b10), .val (.ref b11)]) rfl ?_
        refine OwnW.aload C (pc' := 171) at_169 rfl rfl rfl ?_
        refine OwnW.aload C (pc' := 173) at_171 rfl rfl rfl ?_
        refine OwnW.aload C (pc' := 175) at_173 rfl rfl rfl ?_
        refine OwnW.iload C (pc' := 177) at_175 rfl rfl ?_
        refine OwnW.iconst C (pc' := 178) at_177 rfl (z := 1) rfl ?_
        refine OwnW.iadd C (pc' := 179) at_178 rfl ?_
        refine OwnW.iconst C (pc' := 180) at_179 rfl (z := 3) rfl ?_
        refine OwnW.irem C (pc' := 181) at_180 rfl (by first | decide | assumption) ?_
        refine OwnW.iload C (pc' := 183) at_181 rfl rfl ?_
        refine OwnW.iconst C (pc' := 184) at_183 rfl (z := -1) rfl ?_
        refine OwnW.ixor C (pc' := 185) at_184 rfl ?_
        refine OwnW.callV C (pc' := 188) (y := (⟨"com/example/kinegrid/kinegrid/server/Request", "readInPlace", "([B[III)V"⟩ : MethodName)) (z := (⟨"com/example/kinegrid/kinegrid/server/Request", "readInPlace", "([B[III)V"⟩ : MethodName)) (W := 0) (argsL := [(.ref b10), (.ref b11), (.int ((fb + (1 : Int32)) % (3 : Int32))), (.int (i4 ^^^ (-1 : Int32)))]) (rest := []) (hw _ (List.mem_of_getElem? (i := 136) rfl)) (hw _ (List.mem_of_getElem? (i := 137) rfl)) (notFace_of_selects (args := #[]) (mvT C.2.1 (hw _ (List.mem_of_getElem? (i := 139) rfl)))) (hw _ (List.mem_of_getElem? (i := 139) rfl)) (hw _ (List.mem_of_getElem? (i := 138) rfl)) (hw _ (List.mem_of_getElem? (i := 62) rfl)) (hw _ (List.mem_of_getElem? (i := 140) rfl)) X_b9 (by decide) (own_read l Z a0 hw b9 b10 b11 .null .null .null 0 0 _ _ h11 n0 X_b9 F_array_b9 F_bounds_b9 F_arrays_b9 F_firstBound_b9 F_size_b9 g_b9 rfl rfl rfl) (K' := 5) (S' := 23) (by decide) (by decide) rfl own_pd___B_III_V rfl (Nat.le_of_eq rfl) rfl rfl (by decide) (by decide) rfl at_185 rfl (fun v h12 hq => ?_)
        obtain ⟨rfl, KK, Q1, Q2, Q3, Q4, Q5⟩ := hq
        refine Go.at (st' := []) rfl ?_
        have O := O.keep KK (allS (g_b9) all0)
        have Sz := Nat.le_trans Sz KK.1
        have V_b2 := V_b2.keep KK (ninS ne_b2_b9 nin0)
        have X_b9 := X_b9.keep KK
        have X_b10 := X_b10.keep KK
        have V_b10 := V_b10.keep KK (ninS (Ne.symm ne_b9_b10) nin0)
        have X_b11 := X_b11.keep KK
        have V_b11 := V_b11.keep KK (ninS (Ne.symm ne_b9_b11) nin0)
        have F_array_b9 := Q1
        have F_bounds_b9 := Q2
        have F_arrays_b9 := Q3
        have F_firstBound_b9 := Q4
        have F_size_b9 := Q5
        exact Go.weak (by decide) (by decide) (J h12 b9 (.ref b10) (.ref b11) .null fb (0 : Int32) (1 : Int32) (0 : Int32) ((fb + (1 : Int32)) % (3 : Int32)) (i4 ^^^ (-1 : Int32)) (.val (.ref b10)) (.val (.ref b11)) (One.val rfl) (One.val rfl) hfb X_b9 F_array_b9 F_bounds_b9 F_arrays_b9 F_firstBound_b9 F_size_b9 g_b9 rfl rfl rfl V_b2 ne_b2_b9)
      · refine OwnW.iconst C (pc' := 85) at_84 rfl (z := 1) rfl ?_
        refine OwnW.goto C (pc' := 89) at_85 (by decide) rfl ?_
        refine OwnW.istore C (pc' := 91) at_89 rfl (l' := #[.val (.int i0), .val (.int i1), .val (.int i2), .val (.int i3), .val (.int i4), .val (.int i5), .val (.ref b1), .val (.ref b2), .val (.int fb), .val (.int (0 : Int32)), .val (.int (1 : Int32)), .val (.int (1 : Int32)), .unset, .unset, .unset]) rfl ?_
        refine OwnW.iload C (pc' := 93) at_91 rfl rfl ?_
        refine OwnW.ifEq C (pcY := 124) (pcN := 96) at_93 (by decide) rfl rfl (fun hc93 => ?_) (fun hc93 => absurd rfl hc93)
        refine OwnW.newO C (pc' := 127) (K' := 3) (S' := 16) (hw _ (List.mem_of_getElem? (i := 162) rfl)) (hw _ (List.mem_of_getElem? (i := 65) rfl)) (hw _ (List.mem_of_getElem? (i := 62) rfl)) at_124 rfl rfl rfl (by decide) (by decide) (fun h9 b9 g9 E9 X_b9 D9 => ?_)
        have ne_b2_b9 : b2 ≠ b9 := Nat.ne_of_lt (Nat.lt_of_lt_of_eq V_b2.lt g9.symm)
        have g_b9 : n0 ≤ b9 := Nat.le_trans Sz (Nat.le_of_eq g9.symm)
        have O := O.ext E9
        have Sz := Nat.le_trans Sz E9.1
        have V_b2 := V_b2.ext E9
        have F_arrays_b9 : Fld Z h9 b9 "com/example/kinegrid/kinegrid/server/Request" "arrays" "Ljava/util/List;" .null := D9 (Or.inl (hw _ (List.mem_of_getElem? (i := 71) rfl))) (ty := (.object "java/util/List")) (by decide)
        have F_copiedBytes_b9 : Fld Z h9 b9 "com/example/kinegrid/kinegrid/server/Request" "copiedBytes" "J" (.long (0 : Int64)) := D9 (Or.inl (hw _ (List.mem_of_getElem? (i := 125) rfl))) (ty := .long) (by decide)
        have F_size_b9 : Fld Z h9 b9 "com/example/kinegrid/kinegrid/server/Request" "size" "I" (.int (0 : Int32)) := D9 (Or.inl (hw _ (List.mem_of_getElem? (i := 135) rfl))) (ty := .int) (by decide)
        have F_array_b9 : Fld Z h9 b9 "com/example/kinegrid/kinegrid/server/Request" "array" "[B" .null := D9 (Or.inl (hw _ (List.mem_of_getElem? (i := 142) rfl))) (ty := (.array .byte)) (by decide)
        have F_bounds_b9 : Fld Z h9 b9 "com/example/kinegrid/kinegrid/server/Request" "bounds" "[I" .null := D9 (Or.inl (hw _ (List.mem_of_getElem? (i := 144) rfl))) (ty := (.array .int)) (by decide)
        have F_firstBound_b9 : Fld Z h9 b9 "com/example/kinegrid/kinegrid/server/Request" "firstBound" "I" (.int (0 : Int32)) := D9 (Or.inl (hw _ (List.mem_of_getElem? (i := 146) rfl))) (ty := .int) (by decide)
        refine OwnW.dup C (pc' := 128) at_127 rfl rfl ?_
        refine OwnW.callX C (pc' := 131) (y := (⟨"com/example/kinegrid/kinegrid/server/Request", "<init>", "()V"⟩ : MethodName)) (W := 1) (argsL := []) (rest := [(.ref b9)]) rfl (hw _ (List.mem_of_getElem? (i := 163) rfl)) (hw _ (List.mem_of_getElem? (i := 67) rfl)) (hw _ (List.mem_of_getElem? (i := 62) rfl)) (hw _ (List.mem_of_getElem? (i := 68) rfl)) (by decide) (own_rqinit l Z a0 hw b9 h9 n0) (K' := 3) (S' := 16) (by decide) (by decide) rfl own_pd___V rfl (Nat.le_of_eq rfl) rfl rfl (by decide) (by decide) rfl at_128 rfl (fun v h' hq => ?_)
        obtain ⟨rfl, hh⟩ := hq
        refine Go.at (st' := [(.ref b9)]) rfl ?_
        refine Go.heap hh ?_
        refine OwnW.astore C (pc' := 133) at_131 rfl rfl (l' := #[.val (.int i0), .val (.int i1), .val (.int i2), .val (.int i3), .val (.int i4), .val (.int i5), .val (.ref b1), .val (.ref b2), .val (.int fb), .val (.int (0 : Int32)), .val (.int (1 : Int32)), .val (.int (1 : Int32)), .val (.ref b9), .unset, .unset]) rfl ?_
        refine OwnW.iload C (pc' := 135) at_133 rfl rfl ?_
        refine OwnW.ifEq C (pcY := 188) (pcN := 138) at_135 (by decide) rfl rfl (fun hc135 => absurd hc135 (by decide)) (fun hc135 => ?_)
        refine OwnW.iload C (pc' := 140) at_138 rfl rfl ?_
        refine OwnW.ifEq C (pcY := 148) (pcN := 143) at_140 (by decide) rfl rfl (fun hc140 => absurd hc140 (by decide)) (fun hc140 => ?_)
        refine OwnW.aload C (pc' := 145) at_143 rfl rfl rfl ?_
        refine OwnW.goto C (pc' := 151) at_145 (by decide) rfl ?_
        refine OwnW.astore C (pc' := 153) at_151 rfl rfl (l' := #[.val (.int i0), .val (.int i1), .val (.int i2), .val (.int i3), .val (.int i4), .val (.int i5), .val (.ref b1), .val (.ref b2), .val (.int fb), .val (.int (0 : Int32)), .val (.int (1 : Int32)), .val (.int (1 : Int32)), .val (.ref b9), .val (.ref b1), .unset]) rfl ?_
        refine OwnW.iload C (pc' := 155) at_153 rfl rfl ?_
        refine OwnW.ifEq C (pcY := 163) (pcN := 158) at_155 (by decide) rfl rfl (fun hc155 => absurd hc155 (by decide)) (fun hc155 => ?_)
        refine OwnW.aload C (pc' := 160) at_158 rfl rfl rfl ?_
        refine OwnW.goto C (pc' := 167) at_160 (by decide) rfl ?_
        refine OwnW.astore C (pc' := 169) at_167 rfl rfl (l' := #[.val (.int i0), .val (.int i1), .val (.int i2), .val (.int i3), .val (.int i4), .val (.int i5), .val (.ref b1), .val (.ref b2), .val (.int fb), .val (.int (0 : Int32)), .val (.int (1 : Int32)), .val (.int (1 : Int32)), .val (.ref b9), .val (.ref b1), .val (.ref b2)]) rfl ?_
        refine OwnW.aload C (pc' := 171) at_169 rfl rfl rfl ?_
        refine OwnW.aload C (pc' := 173) at_171 rfl rfl rfl ?_
        refine OwnW.aload C (pc' := 175) at_173 rfl rfl rfl ?_
        refine OwnW.iload C (pc' := 177) at_175 rfl rfl ?_
        refine OwnW.iconst C (pc' := 178) at_177 rfl (z := 1) rfl ?_
        refine OwnW.iadd C (pc' := 179) at_178 rfl ?_
        refine OwnW.iconst C (pc' := 180) at_179 rfl (z := 3) rfl ?_
        refine OwnW.irem C (pc' := 181) at_180 rfl (by first | decide | assumption) ?_
        refine OwnW.iload C (pc' := 183) at_181 rfl rfl ?_
        refine OwnW.iconst C (pc' := 184) at_183 rfl (z := -1) rfl ?_
        refine OwnW.ixor C (pc' := 185) at_184 rfl ?_
        refine OwnW.callV C (pc' := 188) (y := (⟨"com/example/kinegrid/kinegrid/server/Request", "readInPlace", "([B[III)V"⟩ : MethodName)) (z := (⟨"com/example/kinegrid/kinegrid/server/Request", "readInPlace", "([B[III)V"⟩ : MethodName)) (W := 0) (argsL := [(.ref b1), (.ref b2), (.int ((fb + (1 : Int32)) % (3 : Int32))), (.int (i4 ^^^ (-1 : Int32)))]) (rest := []) (hw _ (List.mem_of_getElem? (i := 136) rfl)) (hw _ (List.mem_of_getElem? (i := 137) rfl)) (notFace_of_selects (args := #[]) (mvT C.2.1 (hw _ (List.mem_of_getElem? (i := 139) rfl)))) (hw _ (List.mem_of_getElem? (i := 139) rfl)) (hw _ (List.mem_of_getElem? (i := 138) rfl)) (hw _ (List.mem_of_getElem? (i := 62) rfl)) (hw _ (List.mem_of_getElem? (i := 140) rfl)) X_b9 (by decide) (own_read l Z a0 hw b9 b1 b2 .null .null .null 0 0 _ _ h9 n0 X_b9 F_array_b9 F_bounds_b9 F_arrays_b9 F_firstBound_b9 F_size_b9 g_b9 rfl rfl rfl) (K' := 3) (S' := 16) (by decide) (by decide) rfl own_pd___B_III_V rfl (Nat.le_of_eq rfl) rfl rfl (by decide) (by decide) rfl at_185 rfl (fun v h10 hq => ?_)
        obtain ⟨rfl, KK, Q1, Q2, Q3, Q4, Q5⟩ := hq
        refine Go.at (st' := []) rfl ?_
        have O := O.keep KK (allS (g_b9) all0)
        have Sz := Nat.le_trans Sz KK.1
        have V_b2 := V_b2.keep KK (ninS ne_b2_b9 nin0)
        have X_b9 := X_b9.keep KK
        have F_array_b9 := Q1
        have F_bounds_b9 := Q2
        have F_arrays_b9 := Q3
        have F_firstBound_b9 := Q4
        have F_size_b9 := Q5
        exact Go.weak (by decide) (by decide) (J h10 b9 (.ref b1) (.ref b2) .null fb (0 : Int32) (1 : Int32) (1 : Int32) ((fb + (1 : Int32)) % (3 : Int32)) (i4 ^^^ (-1 : Int32)) (.val (.ref b1)) (.val (.ref b2)) (One.val rfl) (One.val rfl) hfb X_b9 F_array_b9 F_bounds_b9 F_arrays_b9 F_firstBound_b9 F_size_b9 g_b9 rfl rfl rfl V_b2 ne_b2_b9)
  · refine OwnW.iconst C (pc' := 57) at_56 rfl (z := 1) rfl ?_
    refine OwnW.goto C (pc' := 61) at_57 (by decide) rfl ?_
    refine OwnW.istore C (pc' := 63) at_61 rfl (l' := #[.val (.int i0), .val (.int i1), .val (.int i2), .val (.int i3), .val (.int i4), .val (.int i5), .val (.ref b1), .val (.ref b2), .val (.int fb), .val (.int (1 : Int32)), .unset, .unset, .unset, .unset, .unset]) rfl ?_
    refine OwnW.iload C (pc' := 65) at_63 rfl rfl ?_
    refine OwnW.iconst C (pc' := 66) at_65 rfl (z := 2) rfl ?_
    refine OwnW.iand C (pc' := 67) at_66 rfl ?_
    refine OwnW.ifEq C (pcY := 74) (pcN := 70) at_67 (by decide) rfl rfl (fun hc67 => ?_) (fun hc67 => ?_)
    · refine OwnW.iconst C (pc' := 75) at_74 rfl (z := 0) rfl ?_
      refine OwnW.istore C (pc' := 77) at_75 rfl (l' := #[.val (.int i0), .val (.int i1), .val (.int i2), .val (.int i3), .val (.int i4), .val (.int i5), .val (.ref b1), .val (.ref b2), .val (.int fb), .val (.int (1 : Int32)), .val (.int (0 : Int32)), .unset, .unset, .unset, .unset]) rfl ?_
      refine OwnW.iload C (pc' := 79) at_77 rfl rfl ?_
      refine OwnW.iconst C (pc' := 80) at_79 rfl (z := 4) rfl ?_
      refine OwnW.iand C (pc' := 81) at_80 rfl ?_
      refine OwnW.ifEq C (pcY := 88) (pcN := 84) at_81 (by decide) rfl rfl (fun hc81 => ?_) (fun hc81 => ?_)
      · refine OwnW.iconst C (pc' := 89) at_88 rfl (z := 0) rfl ?_
        refine OwnW.istore C (pc' := 91) at_89 rfl (l' := #[.val (.int i0), .val (.int i1), .val (.int i2), .val (.int i3), .val (.int i4), .val (.int i5), .val (.ref b1), .val (.ref b2), .val (.int fb), .val (.int (1 : Int32)), .val (.int (0 : Int32)), .val (.int (0 : Int32)), .unset, .unset, .unset]) rfl ?_
        refine OwnW.iload C (pc' := 93) at_91 rfl rfl ?_
        refine OwnW.ifEq C (pcY := 124) (pcN := 96) at_93 (by decide) rfl rfl (fun hc93 => absurd hc93 (by decide)) (fun hc93 => ?_)
        refine OwnW.newO C (pc' := 99) (K' := 3) (S' := 13) (hw _ (List.mem_of_getElem? (i := 3) rfl)) (hw _ (List.mem_of_getElem? (i := 4) rfl)) (hw _ (List.mem_of_getElem? (i := 5) rfl)) at_96 rfl rfl rfl (by decide) (by decide) (fun h9 b9 g9 E9 X_b9 D9 => ?_)
        have ne_b2_b9 : b2 ≠ b9 := Nat.ne_of_lt (Nat.lt_of_lt_of_eq V_b2.lt g9.symm)
        have g_b9 : n0 ≤ b9 := Nat.le_trans Sz (Nat.le_of_eq g9.symm)
        have O := O.ext E9
        have Sz := Nat.le_trans Sz E9.1
        have V_b2 := V_b2.ext E9
        have F_modCount_b9 : Fld Z h9 b9 "java/util/AbstractList" "modCount" "I" (.int (0 : Int32)) := D9 (Or.inl (hw _ (List.mem_of_getElem? (i := 25) rfl))) (ty := .int) (by decide)
        have F_elementData_b9 : Fld Z h9 b9 "java/util/ArrayList" "elementData" "[Ljava/lang/Object;" .null := D9 (Or.inl (hw _ (List.mem_of_getElem? (i := 28) rfl))) (ty := (.array (.object "java/lang/Object"))) (by decide)
        have F_size_b9 : Fld Z h9 b9 "java/util/ArrayList" "size" "I" (.int (0 : Int32)) := D9 (Or.inl (hw _ (List.mem_of_getElem? (i := 37) rfl))) (ty := .int) (by decide)
        refine OwnW.dup C (pc' := 100) at_99 rfl rfl ?_
        refine OwnW.callX C (pc' := 103) (y := (⟨"java/util/ArrayList", "<init>", "()V"⟩ : MethodName)) (W := 1) (argsL := []) (rest := [(.ref b9)]) rfl (hw _ (List.mem_of_getElem? (i := 6) rfl)) (hw _ (List.mem_of_getElem? (i := 7) rfl)) (hw _ (List.mem_of_getElem? (i := 5) rfl)) (hw _ (List.mem_of_getElem? (i := 8) rfl)) (by decide) (own_lstinit l Z a0 hw b9 d1 h9 n0 X_b9 F_modCount_b9 F_elementData_b9 F_size_b9 g_b9 (S_D.ext O.2)) (K' := 3) (S' := 13) (by decide) (by decide) rfl own_pd___V rfl (Nat.le_of_eq rfl) rfl rfl (by decide) (by decide) rfl at_100 rfl (fun v h10 hq => ?_)
        obtain ⟨rfl, KK, F1, F2, F3⟩ := hq
        refine Go.at (st' := [(.ref b9)]) rfl ?_
        have O := O.keep KK (allS (g_b9) all0)
        have Sz := Nat.le_trans Sz KK.1
        have V_b2 := V_b2.keep KK (ninS ne_b2_b9 nin0)
        have X_b9 := X_b9.keep KK
        have F_modCount_b9 := F1
        have F_elementData_b9 := F2
        have F_size_b9 := F3
        refine OwnW.astore C (pc' := 105) at_103 rfl rfl (l' := #[.val (.int i0), .val (.int i1), .val (.int i2), .val (.int i3), .val (.int i4), .val (.int i5), .val (.ref b1), .val (.ref b2), .val (.int fb), .val (.int (1 : Int32)), .val (.int (0 : Int32)), .val (.int (0 : Int32)), .unset, .val (.ref b9), .unset]) rfl ?_
        refine OwnW.aload C (pc' := 107) at_105 rfl rfl rfl ?_
        refine OwnW.iconst C (pc' := 108) at_107 rfl (z := 2) rfl ?_
        refine OwnW.newPE C (pc' := 110) (K' := 4) (S' := 15) (ad := "[B") (by decide +kernel) (hw _ (List.mem_of_getElem? (i := 0) rfl)) (cap := 2) (by decide) (by decide) (by decide) at_108 rfl rfl rfl (by decide) (by decide) (fun h11 b11 cA_b11 g11 E11 V_b11 X_b11 => ?_)
        have ne_b2_b11 : b2 ≠ b11 := Nat.ne_of_lt (Nat.lt_of_lt_of_eq V_b2.lt g11.symm)
        have ne_b9_b11 : b9 ≠ b11 := Nat.ne_of_lt (Nat.lt_of_lt_of_eq X_b9.lt g11.symm)
        have g_b11 : n0 ≤ b11 := Nat.le_trans Sz (Nat.le_of_eq g11.symm)
        have O := O.ext E11
        have Sz := Nat.le_trans Sz E11.1
        have V_b2 := V_b2.ext E11
        have X_b9 := X_b9.ext E11
        have F_modCount_b9 := F_modCount_b9.ext E11
        have F_elementData_b9 := F_elementData_b9.ext E11
        have F_size_b9 := F_size_b9.ext E11
        have V_b11 : Arv Z h11 b11 cA_b11 .byte (2 : Int32) [(.int (0 : Int32)), (.int (0 : Int32))] (.int (0 : Int32)) := V_b11.pad (pad_rep [] (.int (0 : Int32)) 2)
        have ne_d : d1 ≠ b9 := O.ne X_d1.lt g_b9
        refine OwnW.callV C (pc' := 113) (y := (⟨"java/util/ArrayList", "add", "(Ljava/lang/Object;)Z"⟩ : MethodName)) (z := (⟨"java/util/ArrayList", "add", "(Ljava/lang/Object;)Z"⟩ : MethodName)) (W := 0) (argsL := [(.ref b11)]) (rest := []) (hw _ (List.mem_of_getElem? (i := 29) rfl)) (hw _ (List.mem_of_getElem? (i := 30) rfl)) (notFace_of_selects (args := #[]) (mvT C.2.1 (hw _ (List.mem_of_getElem? (i := 32) rfl)))) (hw _ (List.mem_of_getElem? (i := 32) rfl)) (hw _ (List.mem_of_getElem? (i := 31) rfl)) (hw _ (List.mem_of_getElem? (i := 5) rfl)) (hw _ (List.mem_of_getElem? (i := 33) rfl)) X_b9 (by decide) (own_add_0 l Z a0 hw b9 b11 d1 0 cD h11 n0 Sz X_b9 F_modCount_b9 F_elementData_b9 F_size_b9 g_b9 (V_d1.ext O.2) (S_D.ext O.2) (Ins.of_exa X_b11 (hw _ (List.mem_of_getElem? (i := 59) rfl))) ne_d) (K' := 5) (S' := 25) (by decide) (by decide) rfl own_pd__Ljava_lang_Object__Z rfl (Nat.le_of_eq rfl) rfl rfl (by decide) (by decide) rfl at_110 rfl (fun v h12 hq => ?_)
        obtain ⟨rfl, KK, bb, cO, hb, F1, F2, F3, V_bb', X_bb, O_bb⟩ := hq
        refine Go.at (st' := [(.int (1 : Int32))]) rfl ?_
        have ne_b9_bb : b9 ≠ bb := Nat.ne_of_lt (Nat.lt_of_lt_of_le X_b9.lt hb)
        have ne_b11_bb : b11 ≠ bb := Nat.ne_of_lt (Nat.lt_of_lt_of_le X_b11.lt hb)
        have g_bb : n0 ≤ bb := Nat.le_trans Sz hb
        have O := O.keep KK (allS (g_b9) all0)
        have Sz := Nat.le_trans Sz KK.1
        have V_b2 := V_b2.keep KK (ninS ne_b2_b9 nin0)
        have X_b9 := X_b9.keep KK
        have X_b11 := X_b11.keep KK
        have V_b11 := V_b11.keep KK (ninS (Ne.symm ne_b9_b11) nin0)
        have F_modCount_b9 := F1
        have F_elementData_b9 := F2
        have F_size_b9 := F3
        have V_bb := V_bb'
        refine OwnW.pop C (pc' := 114) at_113 rfl rfl ?_
        refine OwnW.aload C (pc' := 116) at_114 rfl rfl rfl ?_
        refine OwnW.callS C (pc' := 119) (y := (⟨"com/example/kinegrid/kinegrid/server/Request", "of", "(Ljava/util/List;)Lcom/example/kinegrid/kinegrid/server/Request;"⟩ : MethodName)) (W := 0) (argsL := [(.ref b9)]) (rest := []) (hw _ (List.mem_of_getElem? (i := 60) rfl)) (hw _ (List.mem_of_getElem? (i := 61) rfl)) (hw _ (List.mem_of_getElem? (i := 62) rfl)) (hw _ (List.mem_of_getElem? (i := 63) rfl)) (by decide) (own_of l Z a0 hw b9 bb b11 (0 + 1) _ _ _ cO cA_b11 h12 n0 Sz X_b9 F_modCount_b9 F_elementData_b9 F_size_b9 V_bb rfl X_b11 V_b11) (K' := 7) (S' := 35) (by decide) (by decide) rfl own_pd__Ljava_util_List__Lcom_example_kinegrid_kinegrid_server_Request_ rfl (Nat.le_of_eq rfl) rfl rfl (by decide) (by decide) rfl at_116 rfl (fun v h13 hq => ?_)
        obtain ⟨r, rfl, hr, KK, X_r, F_array_r, F_bounds_r, F_arrays_r, F_firstBound_r, F_size_r⟩ := hq
        refine Go.at (st' := [(.ref r)]) rfl ?_
        have ne_b2_r : b2 ≠ r := Nat.ne_of_lt (Nat.lt_of_lt_of_le V_b2.lt hr)
        have g_r : n0 ≤ r := Nat.le_trans Sz hr
        have O := O.keep KK all0
        have Sz := Nat.le_trans Sz KK.1
        have V_b2 := V_b2.keep KK nin0
        refine OwnW.astore C (pc' := 121) at_119 rfl rfl (l' := #[.val (.int i0), .val (.int i1), .val (.int i2), .val (.int i3), .val (.int i4), .val (.int i5), .val (.ref b1), .val (.ref b2), .val (.int fb), .val (.int (1 : Int32)), .val (.int (0 : Int32)), .val (.int (0 : Int32)), .val (.ref r), .val (.ref b9), .unset]) rfl ?_
        refine OwnW.goto C (pc' := 133) at_121 (by decide) rfl ?_
        refine OwnW.iload C (pc' := 135) at_133 rfl rfl ?_
        refine OwnW.ifEq C (pcY := 188) (pcN := 138) at_135 (by decide) rfl rfl (fun hc135 => ?_) (fun hc135 => absurd rfl hc135)
        exact Go.weak (by decide) (by decide) (J h13 r .null .null (.ref b9) fb (1 : Int32) (0 : Int32) (0 : Int32) 0 1 (.val (.ref b9)) (.unset) (One.val rfl) One.u hfb X_r F_array_r F_bounds_r F_arrays_r F_firstBound_r F_size_r g_r rfl rfl rfl V_b2 ne_b2_r)
      · refine OwnW.iconst C (pc' := 85) at_84 rfl (z := 1) rfl ?_
        refine OwnW.goto C (pc' := 89) at_85 (by decide) rfl ?_
        refine OwnW.istore C (pc' := 91) at_89 rfl (l' := #[.val (.int i0), .val (.int i1), .val (.int i2), .val (.int i3), .val (.int i4), .val (.int i5), .val (.ref b1), .val (.ref b2), .val (.int fb), .val (.int (1 : Int32)), .val (.int (0 : Int32)), .val (.int (1 : Int32)), .unset, .unset, .unset]) rfl ?_
        refine OwnW.iload C (pc' := 93) at_91 rfl rfl ?_
        refine OwnW.ifEq C (pcY := 124) (pcN := 96) at_93 (by decide) rfl rfl (fun hc93 => absurd hc93 (by decide)) (fun hc93 => ?_)
        refine OwnW.newO C (pc' := 99) (K' := 3) (S' := 13) (hw _ (List.mem_of_getElem? (i := 3) rfl)) (hw _ (List.mem_of_getElem? (i := 4) rfl)) (hw _ (List.mem_of_getElem? (i := 5) rfl)) at_96 rfl rfl rfl (by decide) (by decide) (fun h9 b9 g9 E9 X_b9 D9 => ?_)
        have ne_b2_b9 : b2 ≠ b9 := Nat.ne_of_lt (Nat.lt_of_lt_of_eq V_b2.lt g9.symm)
        have g_b9 : n0 ≤ b9 := Nat.le_trans Sz (Nat.le_of_eq g9.symm)
        have O := O.ext E9
        have Sz := Nat.le_trans Sz E9.1
        have V_b2 := V_b2.ext E9
        have F_modCount_b9 : Fld Z h9 b9 "java/util/AbstractList" "modCount" "I" (.int (0 : Int32)) := D9 (Or.inl (hw _ (List.mem_of_getElem? (i := 25) rfl))) (ty := .int) (by decide)
        have F_elementData_b9 : Fld Z h9 b9 "java/util/ArrayList" "elementData" "[Ljava/lang/Object;" .null := D9 (Or.inl (hw _ (List.mem_of_getElem? (i := 28) rfl))) (ty := (.array (.object "java/lang/Object"))) (by decide)
        have F_size_b9 : Fld Z h9 b9 "java/util/ArrayList" "size" "I" (.int (0 : Int32)) := D9 (Or.inl (hw _ (List.mem_of_getElem? (i := 37) rfl))) (ty := .int) (by decide)
        refine OwnW.dup C (pc' := 100) at_99 rfl rfl ?_
        refine OwnW.callX C (pc' := 103) (y := (⟨"java/util/ArrayList", "<init>", "()V"⟩ : MethodName)) (W := 1) (argsL := []) (rest := [(.ref b9)]) rfl (hw _ (List.mem_of_getElem? (i := 6) rfl)) (hw _ (List.mem_of_getElem? (i := 7) rfl)) (hw _ (List.mem_of_getElem? (i := 5) rfl)) (hw _ (List.mem_of_getElem? (i := 8) rfl)) (by decide) (own_lstinit l Z a0 hw b9 d1 h9 n0 X_b9 F_modCount_b9 F_elementData_b9 F_size_b9 g_b9 (S_D.ext O.2)) (K' := 3) (S' := 13) (by decide) (by decide) rfl own_pd___V rfl (Nat.le_of_eq rfl) rfl rfl (by decide) (by decide) rfl at_100 rfl (fun v h10 hq => ?_)
        obtain ⟨rfl, KK, F1, F2, F3⟩ := hq
        refine Go.at (st' := [(.ref b9)]) rfl ?_
        have O := O.keep KK (allS (g_b9) all0)
        have Sz := Nat.le_trans Sz KK.1
        have V_b2 := V_b2.keep KK (ninS ne_b2_b9 nin0)
        have X_b9 := X_b9.keep KK
        have F_modCount_b9 := F1
        have F_elementData_b9 := F2
        have F_size_b9 := F3
        refine OwnW.astore C (pc' := 105) at_103 rfl rfl (l' := #[.val (.int i0), .val (.int i1), .val (.int i2), .val (.int i3), .val (.int i4), .val (.int i5), .val (.ref b1), .val (.ref b2), .val (.int fb), .val (.int (1 : Int32)), .val (.int (0 : Int32)), .val (.int (1 : Int32)), .unset, .val (.ref b9), .unset]) rfl ?_
        refine OwnW.aload C (pc' := 107) at_105 rfl rfl rfl ?_
        refine OwnW.iconst C (pc' := 108) at_107 rfl (z := 2) rfl ?_
        refine OwnW.newPE C (pc' := 110) (K' := 4) (S' := 15) (ad := "[B") (by decide +kernel) (hw _ (List.mem_of_getElem? (i := 0) rfl)) (cap := 2) (by decide) (by decide) (by decide) at_108 rfl rfl rfl (by decide) (by decide) (fun h11 b11 cA_b11 g11 E11 V_b11 X_b11 => ?_)
        have ne_b2_b11 : b2 ≠ b11 := Nat.ne_of_lt (Nat.lt_of_lt_of_eq V_b2.lt g11.symm)
        have ne_b9_b11 : b9 ≠ b11 := Nat.ne_of_lt (Nat.lt_of_lt_of_eq X_b9.lt g11.symm)
        have g_b11 : n0 ≤ b11 := Nat.le_trans Sz (Nat.le_of_eq g11.symm)
        have O := O.ext E11
        have Sz := Nat.le_trans Sz E11.1
        have V_b2 := V_b2.ext E11
        have X_b9 := X_b9.ext E11
        have F_modCount_b9 := F_modCount_b9.ext E11
        have F_elementData_b9 := F_elementData_b9.ext E11
        have F_size_b9 := F_size_b9.ext E11
        have V_b11 : Arv Z h11 b11 cA_b11 .byte (2 : Int32) [(.int (0 : Int32)), (.int (0 : Int32))] (.int (0 : Int32)) := V_b11.pad (pad_rep [] (.int (0 : Int32)) 2)
        have ne_d : d1 ≠ b9 := O.ne X_d1.lt g_b9
        refine OwnW.callV C (pc' := 113) (y := (⟨"java/util/ArrayList", "add", "(Ljava/lang/Object;)Z"⟩ : MethodName)) (z := (⟨"java/util/ArrayList", "add", "(Ljava/lang/Object;)Z"⟩ : MethodName)) (W := 0) (argsL := [(.ref b11)]) (rest := []) (hw _ (List.mem_of_getElem? (i := 29) rfl)) (hw _ (List.mem_of_getElem? (i := 30) rfl)) (notFace_of_selects (args := #[]) (mvT C.2.1 (hw _ (List.mem_of_getElem? (i := 32) rfl)))) (hw _ (List.mem_of_getElem? (i := 32) rfl)) (hw _ (List.mem_of_getElem? (i := 31) rfl)) (hw _ (List.mem_of_getElem? (i := 5) rfl)) (hw _ (List.mem_of_getElem? (i := 33) rfl)) X_b9 (by decide) (own_add_0 l Z a0 hw b9 b11 d1 0 cD h11 n0 Sz X_b9 F_modCount_b9 F_elementData_b9 F_size_b9 g_b9 (V_d1.ext O.2) (S_D.ext O.2) (Ins.of_exa X_b11 (hw _ (List.mem_of_getElem? (i := 59) rfl))) ne_d) (K' := 5) (S' := 25) (by decide) (by decide) rfl own_pd__Ljava_lang_Object__Z rfl (Nat.le_of_eq rfl) rfl rfl (by decide) (by decide) rfl at_110 rfl (fun v h12 hq => ?_)
        obtain ⟨rfl, KK, bb, cO, hb, F1, F2, F3, V_bb', X_bb, O_bb⟩ := hq
        refine Go.at (st' := [(.int (1 : Int32))]) rfl ?_
        have ne_b9_bb : b9 ≠ bb := Nat.ne_of_lt (Nat.lt_of_lt_of_le X_b9.lt hb)
        have ne_b11_bb : b11 ≠ bb := Nat.ne_of_lt (Nat.lt_of_lt_of_le X_b11.lt hb)
        have g_bb : n0 ≤ bb := Nat.le_trans Sz hb
        have O := O.keep KK (allS (g_b9) all0)
        have Sz := Nat.le_trans Sz KK.1
        have V_b2 := V_b2.keep KK (ninS ne_b2_b9 nin0)
        have X_b9 := X_b9.keep KK
        have X_b11 := X_b11.keep KK
        have V_b11 := V_b11.keep KK (ninS (Ne.symm ne_b9_b11) nin0)
        have F_modCount_b9 := F1
        have F_elementData_b9 := F2
        have F_size_b9 := F3
        have V_bb := V_bb'
        refine OwnW.pop C (pc' := 114) at_113 rfl rfl ?_
        refine OwnW.aload C (pc' := 116) at_114 rfl rfl rfl ?_
        refine OwnW.callS C (pc' := 119) (y := (⟨"com/example/kinegrid/kinegrid/server/Request", "of", "(Ljava/util/List;)Lcom/example/kinegrid/kinegrid/server/Request;"⟩ : MethodName)) (W := 0) (argsL := [(.ref b9)]) (rest := []) (hw _ (List.mem_of_getElem? (i := 60) rfl)) (hw _ (List.mem_of_getElem? (i := 61) rfl)) (hw _ (List.mem_of_getElem? (i := 62) rfl)) (hw _ (List.mem_of_getElem? (i := 63) rfl)) (by decide) (own_of l Z a0 hw b9 bb b11 (0 + 1) _ _ _ cO cA_b11 h12 n0 Sz X_b9 F_modCount_b9 F_elementData_b9 F_size_b9 V_bb rfl X_b11 V_b11) (K' := 7) (S' := 35) (by decide) (by decide) rfl own_pd__Ljava_util_List__Lcom_example_kinegrid_kinegrid_server_Request_ rfl (Nat.le_of_eq rfl) rfl rfl (by decide) (by decide) rfl at_116 rfl (fun v h13 hq => ?_)
        obtain ⟨r, rfl, hr, KK, X_r, F_array_r, F_bounds_r, F_arrays_r, F_firstBound_r, F_size_r⟩ := hq
        refine Go.at (st' := [(.ref r)]) rfl ?_
        have ne_b2_r : b2 ≠ r := Nat.ne_of_lt (Nat.lt_of_lt_of_le V_b2.lt hr)
        have g_r : n0 ≤ r := Nat.le_trans Sz hr
        have O := O.keep KK all0
        have Sz := Nat.le_trans Sz KK.1
        have V_b2 := V_b2.keep KK nin0
        refine OwnW.astore C (pc' := 121) at_119 rfl rfl (l' := #[.val (.int i0), .val (.int i1), .val (.int i2), .val (.int i3), .val (.int i4), .val (.int i5), .val (.ref b1), .val (.ref b2), .val (.int fb), .val (.int (1 : Int32)), .val (.int (0 : Int32)), .val (.int (1 : Int32)), .val (.ref r), .val (.ref b9), .unset]) rfl ?_
        refine OwnW.goto C (pc' := 133) at_121 (by decide) rfl ?_
        refine OwnW.iload C (pc' := 135) at_133 rfl rfl ?_
        refine OwnW.ifEq C (pcY := 188) (pcN := 138) at_135 (by decide) rfl rfl (fun hc135 => ?_) (fun hc135 => absurd rfl hc135)
        exact Go.weak (by decide) (by decide) (J h13 r .null .null (.ref b9) fb (1 : Int32) (0 : Int32) (1 : Int32) 0 1 (.val (.ref b9)) (.unset) (One.val rfl) One.u hfb X_r F_array_r F_bounds_r F_arrays_r F_firstBound_r F_size_r g_r rfl rfl rfl V_b2 ne_b2_r)
    · refine OwnW.iconst C (pc' := 71) at_70 rfl (z := 1) rfl ?_
      refine OwnW.goto C (pc' := 75) at_71 (by decide) rfl ?_
      refine OwnW.istore C (pc' := 77) at_75 rfl (l' := #[.val (.int i0), .val (.int i1), .val (.int i2), .val (.int i3), .val (.int i4), .val (.int i5), .val (.ref b1), .val (.ref b2), .val (.int fb), .val (.int (1 : Int32)), .val (.int (1 : Int32)), .unset, .unset, .unset, .unset]) rfl ?_
      refine OwnW.iload C (pc' := 79) at_77 rfl rfl ?_
      refine OwnW.iconst C (pc' := 80) at_79 rfl (z := 4) rfl ?_
      refine OwnW.iand C (pc' := 81) at_80 rfl ?_
      refine OwnW.ifEq C (pcY := 88) (pcN := 84) at_81 (by decide) rfl rfl (fun hc81 => ?_) (fun hc81 => ?_)
      · refine OwnW.iconst C (pc' := 89) at_88 rfl (z := 0) rfl ?_
        refine OwnW.istore C (pc' := 91) at_89 rfl (l' := #[.val (.int i0), .val (.int i1), .val (.int i2), .val (.int i3), .val (.int i4), .val (.int i5), .val (.ref b1), .val (.ref b2), .val (.int fb), .val (.int (1 : Int32)), .val (.int (1 : Int32)), .val (.int (0 : Int32)), .unset, .unset, .unset]) rfl ?_
        refine OwnW.iload C (pc' := 93) at_91 rfl rfl ?_
        refine OwnW.ifEq C (pcY := 124) (pcN := 96) at_93 (by decide) rfl rfl (fun hc93 => absurd hc93 (by decide)) (fun hc93 => ?_)
        refine OwnW.newO C (pc' := 99) (K' := 3) (S' := 13) (hw _ (List.mem_of_getElem? (i := 3) rfl)) (hw _ (List.mem_of_getElem? (i := 4) rfl)) (hw _ (List.mem_of_getElem? (i := 5) rfl)) at_96 rfl rfl rfl (by decide) (by decide) (fun h9 b9 g9 E9 X_b9 D9 => ?_)
        have ne_b2_b9 : b2 ≠ b9 := Nat.ne_of_lt (Nat.lt_of_lt_of_eq V_b2.lt g9.symm)
        have g_b9 : n0 ≤ b9 := Nat.le_trans Sz (Nat.le_of_eq g9.symm)
        have O := O.ext E9
        have Sz := Nat.le_trans Sz E9.1
        have V_b2 := V_b2.ext E9
        have F_modCount_b9 : Fld Z h9 b9 "java/util/AbstractList" "modCount" "I" (.int (0 : Int32)) := D9 (Or.inl (hw _ (List.mem_of_getElem? (i := 25) rfl))) (ty := .int) (by decide)
        have F_elementData_b9 : Fld Z h9 b9 "java/util/ArrayList" "elementData" "[Ljava/lang/Object;" .null := D9 (Or.inl (hw _ (List.mem_of_getElem? (i := 28) rfl))) (ty := (.array (.object "java/lang/Object"))) (by decide)
        have F_size_b9 : Fld Z h9 b9 "java/util/ArrayList" "size" "I" (.int (0 : Int32)) := D9 (Or.inl (hw _ (List.mem_of_getElem? (i := 37) rfl))) (ty := .int) (by decide)
        refine OwnW.dup C (pc' := 100) at_99 rfl rfl ?_
        refine OwnW.callX C (pc' := 103) (y := (⟨"java/util/ArrayList", "<init>", "()V"⟩ : MethodName)) (W := 1) (argsL := []) (rest := [(.ref b9)]) rfl (hw _ (List.mem_of_getElem? (i := 6) rfl)) (hw _ (List.mem_of_getElem? (i := 7) rfl)) (hw _ (List.mem_of_getElem? (i := 5) rfl)) (hw _ (List.mem_of_getElem? (i := 8) rfl)) (by decide) (own_lstinit l Z a0 hw b9 d1 h9 n0 X_b9 F_modCount_b9 F_elementData_b9 F_size_b9 g_b9 (S_D.ext O.2)) (K' := 3) (S' := 13) (by decide) (by decide) rfl own_pd___V rfl (Nat.le_of_eq rfl) rfl rfl (by decide) (by decide) rfl at_100 rfl (fun v h10 hq => ?_)
        obtain ⟨rfl, KK, F1, F2, F3⟩ := hq
        refine Go.at (st' := [(.ref b9)]) rfl ?_
        have O := O.keep KK (allS (g_b9) all0)
        have Sz := Nat.le_trans Sz KK.1
        have V_b2 := V_b2.keep KK (ninS ne_b2_b9 nin0)
        have X_b9 := X_b9.keep KK
        have F_modCount_b9 := F1
        have F_elementData_b9 := F2
        have F_size_b9 := F3
        refine OwnW.astore C (pc' := 105) at_103 rfl rfl (l' := #[.val (.int i0), .val (.int i1), .val (.int i2), .val (.int i3), .val (.int i4), .val (.int i5), .val (.ref b1), .val (.ref b2), .val (.int fb), .val (.int (1 : Int32)), .val (.int (1 : Int32)), .val (.int (0 : Int32)), .unset, .val (.ref b9), .unset]) rfl ?_
        refine OwnW.aload C (pc' := 107) at_105 rfl rfl rfl ?_
        refine OwnW.iconst C (pc' := 108) at_107 rfl (z := 2) rfl ?_
        refine OwnW.newPE C (pc' := 110) (K' := 4) (S' := 15) (ad := "[B") (by decide +kernel) (hw _ (List.mem_of_getElem? (i := 0) rfl)) (cap := 2) (by decide) (by decide) (by decide) at_108 rfl rfl rfl (by decide) (by decide) (fun h11 b11 cA_b11 g11 E11 V_b11 X_b11 => ?_)
        have ne_b2_b11 : b2 ≠ b11 := Nat.ne_of_lt (Nat.lt_of_lt_of_eq V_b2.lt g11.symm)
        have ne_b9_b11 : b9 ≠ b11 := Nat.ne_of_lt (Nat.lt_of_lt_of_eq X_b9.lt g11.symm)
        have g_b11 : n0 ≤ b11 := Nat.le_trans Sz (Nat.le_of_eq g11.symm)
        have O := O.ext E11
        have Sz := Nat.le_trans Sz E11.1
        have V_b2 := V_b2.ext E11
        have X_b9 := X_b9.ext E11
        have F_modCount_b9 := F_modCount_b9.ext E11
        have F_elementData_b9 := F_elementData_b9.ext E11
        have F_size_b9 := F_size_b9.ext E11
        have V_b11 : Arv Z h11 b11 cA_b11 .byte (2 : Int32) [(.int (0 : Int32)), (.int (0 : Int32))] (.int (0 : Int32)) := V_b11.pad (pad_rep [] (.int (0 : Int32)) 2)
        have ne_d : d1 ≠ b9 := O.ne X_d1.lt g_b9
        refine OwnW.callV C (pc' := 113) (y := (⟨"java/util/ArrayList", "add", "(Ljava/lang/Object;)Z"⟩ : MethodName)) (z := (⟨"java/util/ArrayList", "add", "(Ljava/lang/Object;)Z"⟩ : MethodName)) (W := 0) (argsL := [(.ref b11)]) (rest := []) (hw _ (List.mem_of_getElem? (i := 29) rfl)) (hw _ (List.mem_of_getElem? (i := 30) rfl)) (notFace_of_selects (args := #[]) (mvT C.2.1 (hw _ (List.mem_of_getElem? (i := 32) rfl)))) (hw _ (List.mem_of_getElem? (i := 32) rfl)) (hw _ (List.mem_of_getElem? (i := 31) rfl)) (hw _ (List.mem_of_getElem? (i := 5) rfl)) (hw _ (List.mem_of_getElem? (i := 33) rfl)) X_b9 (by decide) (own_add_0 l Z a0 hw b9 b11 d1 0 cD h11 n0 Sz X_b9 F_modCount_b9 F_elementData_b9 F_size_b9 g_b9 (V_d1.ext O.2) (S_D.ext O.2) (Ins.of_exa X_b11 (hw _ (List.mem_of_getElem? (i := 59) rfl))) ne_d) (K' := 5) (S' := 25) (by decide) (by decide) rfl own_pd__Ljava_lang_Object__Z rfl (Nat.le_of_eq rfl) rfl rfl (by decide) (by decide) rfl at_110 rfl (fun v h12 hq => ?_)
        obtain ⟨rfl, KK, bb, cO, hb, F1, F2, F3, V_bb', X_bb, O_bb⟩ := hq
        refine Go.at (st' := [(.int (1 : Int32))]) rfl ?_
        have ne_b9_bb : b9 ≠ bb := Nat.ne_of_lt (Nat.lt_of_lt_of_le X_b9.lt hb)
        have ne_b11_bb : b11 ≠ bb := Nat.ne_of_lt (Nat.lt_of_lt_of_le X_b11.lt hb)
        have g_bb : n0 ≤ bb := Nat.le_trans Sz hb
        have O := O.keep KK (allS (g_b9) all0)
        have Sz := Nat.le_trans Sz KK.1
        have V_b2 := V_b2.keep KK (ninS ne_b2_b9 nin0)
        have X_b9 := X_b9.keep KK
        have X_b11 := X_b11.keep KK
        have V_b11 := V_b11.keep KK (ninS (Ne.symm ne_b9_b11) nin0)
        have F_modCount_b9 := F1
        have F_elementData_b9 := F2
        have F_size_b9 := F3
        have V_bb := V_bb'
        refine OwnW.pop C (pc' := 114) at_113 rfl rfl ?_
        refine OwnW.aload C (pc' := 116) at_114 rfl rfl rfl ?_
        refine OwnW.callS C (pc' := 119) (y := (⟨"com/example/kinegrid/kinegrid/server/Request", "of", "(Ljava/util/List;)Lcom/example/kinegrid/kinegrid/server/Request;"⟩ : MethodName)) (W := 0) (argsL := [(.ref b9)]) (rest := []) (hw _ (List.mem_of_getElem? (i := 60) rfl)) (hw _ (List.mem_of_getElem? (i := 61) rfl)) (hw _ (List.mem_of_getElem? (i := 62) rfl)) (hw _ (List.mem_of_getElem? (i := 63) rfl)) (by decide) (own_of l Z a0 hw b9 bb b11 (0 + 1) _ _ _ cO cA_b11 h12 n0 Sz X_b9 F_modCount_b9 F_elementData_b9 F_size_b9 V_bb rfl X_b11 V_b11) (K' := 7) (S' := 35) (by decide) (by decide) rfl own_pd__Ljava_util_List__Lcom_example_kinegrid_kinegrid_server_Request_ rfl (Nat.le_of_eq rfl) rfl rfl (by decide) (by decide) rfl at_116 rfl (fun v h13 hq => ?_)
        obtain ⟨r, rfl, hr, KK, X_r, F_array_r, F_bounds_r, F_arrays_r, F_firstBound_r, F_size_r⟩ := hq
        refine Go.at (st' := [(.ref r)]) rfl ?_
        have ne_b2_r : b2 ≠ r := Nat.ne_of_lt (Nat.lt_of_lt_of_le V_b2.lt hr)
        have g_r : n0 ≤ r := Nat.le_trans Sz hr
        have O := O.keep KK all0
        have Sz := Nat.le_trans Sz KK.1
        have V_b2 := V_b2.keep KK nin0
        refine OwnW.astore C (pc' := 121) at_119 rfl rfl (l' := #[.val (.int i0), .val (.int i1), .val (.int i2), .val (.int i3), .val (.int i4), .val (.int i5), .val (.ref b1), .val (.ref b2), .val (.int fb), .val (.int (1 : Int32)), .val (.int (1 : Int32)), .val (.int (0 : Int32)), .val (.ref r), .val (.ref b9), .unset]) rfl ?_
        refine OwnW.goto C (pc' := 133) at_121 (by decide) rfl ?_
        refine OwnW.iload C (pc' := 135) at_133 rfl rfl ?_
        refine OwnW.ifEq C (pcY := 188) (pcN := 138) at_135 (by decide) rfl rfl (fun hc135 => absurd hc135 (by decide)) (fun hc135 => ?_)
        refine OwnW.iload C (pc' := 140) at_138 rfl rfl ?_
        refine OwnW.ifEq C (pcY := 148) (pcN := 143) at_140 (by decide) rfl rfl (fun hc140 => ?_) (fun hc140 => absurd rfl hc140)
        refine OwnW.iconst C (pc' := 149) at_148 rfl (z := 1) rfl ?_
        refine OwnW.newPE C (pc' := 151) (K' := 8) (S' := 36) (ad := "[B") (by decide +kernel) (hw _ (List.mem_of_getElem? (i := 0) rfl)) (cap := 1) (by decide) (by decide) (by decide) at_149 rfl rfl rfl (by decide) (by decide) (fun h14 b14 cA_b14 g14 E14 V_b14 X_b14 => ?_)
        have ne_b2_b14 : b2 ≠ b14 := Nat.ne_of_lt (Nat.lt_of_lt_of_eq V_b2.lt g14.symm)
        have ne_r_b14 : r ≠ b14 := Nat.ne_of_lt (Nat.lt_of_lt_of_eq X_r.lt g14.symm)
        have g_b14 : n0 ≤ b14 := Nat.le_trans Sz (Nat.le_of_eq g14.symm)
        have O := O.ext E14
        have Sz := Nat.le_trans Sz E14.1
        have V_b2 := V_b2.ext E14
        have X_r := X_r.ext E14
        have F_array_r := F_array_r.ext E14
        have F_bounds_r := F_bounds_r.ext E14
        have F_arrays_r := F_arrays_r.ext E14
        have F_firstBound_r := F_firstBound_r.ext E14
        have F_size_r := F_size_r.ext E14
        have V_b14 : Arv Z h14 b14 cA_b14 .byte (1 : Int32) [(.int (0 : Int32))] (.int (0 : Int32)) := V_b14.pad (pad_rep [] (.int (0 : Int32)) 1)
        refine OwnW.astore C (pc' := 153) at_151 rfl rfl (l' := #[.val (.int i0), .val (.int i1), .val (.int i2), .val (.int i3), .val (.int i4), .val (.int i5), .val (.ref b1), .val (.ref b2), .val (.int fb), .val (.int (1 : Int32)), .val (.int (1 : Int32)), .val (.int (0 : Int32)), .val (.ref r), .val (.ref b14), .unset]) rfl ?_
        refine OwnW.iload C (pc' := 155) at_153 rfl rfl ?_
        refine OwnW.ifEq C (pcY := 163) (pcN := 158) at_155 (by decide) rfl rfl (fun hc155 => ?_) (fun hc155 => absurd rfl hc155)
        refine OwnW.bipush C (pc' := 165) at_163 rfl (z := 6) rfl ?_
        refine OwnW.newPE C (pc' := 167) (K' := 9) (S' := 42) (ad := "[I") (by decide +kernel) (hw _ (List.mem_of_getElem? (i := 1) rfl)) (cap := 6) (by decide) (by decide) (by decide) at_165 rfl rfl rfl (by decide) (by decide) (fun h15 b15 cA_b15 g15 E15 V_b15 X_b15 => ?_)
        have ne_b2_b15 : b2 ≠ b15 := Nat.ne_of_lt (Nat.lt_of_lt_of_eq V_b2.lt g15.symm)
        have ne_r_b15 : r ≠ b15 := Nat.ne_of_lt (Nat.lt_of_lt_of_eq X_r.lt g15.symm)
        have ne_b14_b15 : b14 ≠ b15 := Nat.ne_of_lt (Nat.lt_of_lt_of_eq X_b14.lt g15.symm)
        have g_b15 : n0 ≤ b15 := Nat.le_trans Sz (Nat.le_of_eq g15.symm)
        have O := O.ext E15
        have Sz := Nat.le_trans Sz E15.1
        have V_b2 := V_b2.ext E15
        have X_r := X_r.ext E15
        have F_array_r := F_array_r.ext E15
        have F_bounds_r := F_bounds_r.ext E15
        have F_arrays_r := F_arrays_r.ext E15
        have F_firstBound_r := F_firstBound_r.ext E15
        have F_size_r := F_size_r.ext E15
        have X_b14 := X_b14.ext E15
        have V_b14 := V_b14.ext E15
        have V_b15 : Arv Z h15 b15 cA_b15 .int (6 : Int32) [(.int (0 : Int32)), (.int (0 : Int32)), (.int (0 : Int32)), (.int (0 : Int32)), (.int (0 : Int32)), (.int (0 : Int32))] (.int (0 : Int32)) := V_b15.pad (pad_rep [] (.int (0 : Int32)) 6)
        refine OwnW.astore C (pc' := 169) at_167 rfl rfl (l' := #[.val (.int i0), .val (.int i1), .val (.int i2), .val (.int i3), .val (.int i4), .val (.int i5), .val (.ref b1), .val (.ref b2), .val (.int fb), .val (.int (1 : Int32)), .val (.int (1 : Int32)), .val (.int (0 : Int32)), .val (.ref r), .val (.ref b14), .val (.ref b15)]) rfl ?_
        refine OwnW.aload C (pc' := 171) at_169 rfl rfl rfl ?_
        refine OwnW.aload C (pc' := 173) at_171 rfl rfl rfl ?_
        refine OwnW.aload C (pc' := 175) at_173 rfl rfl rfl ?_
        refine OwnW.iload C (pc' := 177) at_175 rfl rfl ?_
        refine OwnW.iconst C (pc' := 178) at_177 rfl (z := 1) rfl ?_
        refine OwnW.iadd C (pc' := 179) at_178 rfl ?_
        refine OwnW.iconst C (pc' := 180) at_179 rfl (z := 3) rfl ?_
        refine OwnW.irem C (pc' := 181) at_180 rfl (by first | decide | assumption) ?_
        refine OwnW.iload C (pc' := 183) at_181 rfl rfl ?_
        refine OwnW.iconst C (pc' := 184) at_183 rfl (z := -1) rfl ?_
        refine OwnW.ixor C (pc' := 185) at_184 rfl ?_
        refine OwnW.callV C (pc' := 188) (y := (⟨"com/example/kinegrid/kinegrid/server/Request", "readInPlace", "([B[III)V"⟩ : MethodName)) (z := (⟨"com/example/kinegrid/kinegrid/server/Request", "readInPlace", "([B[III)V"⟩ : MethodName)) (W := 0) (argsL := [(.ref b14), (.ref b15), (.int ((fb + (1 : Int32)) % (3 : Int32))), (.int (i4 ^^^ (-1 : Int32)))]) (rest := []) (hw _ (List.mem_of_getElem? (i := 136) rfl)) (hw _ (List.mem_of_getElem? (i := 137) rfl)) (notFace_of_selects (args := #[]) (mvT C.2.1 (hw _ (List.mem_of_getElem? (i := 139) rfl)))) (hw _ (List.mem_of_getElem? (i := 139) rfl)) (hw _ (List.mem_of_getElem? (i := 138) rfl)) (hw _ (List.mem_of_getElem? (i := 62) rfl)) (hw _ (List.mem_of_getElem? (i := 140) rfl)) X_r (by decide) (own_read l Z a0 hw r b14 b15 .null .null (.ref b9) 0 1 _ _ h15 n0 X_r F_array_r F_bounds_r F_arrays_r F_firstBound_r F_size_r g_r rfl rfl rfl) (K' := 9) (S' := 42) (by decide) (by decide) rfl own_pd___B_III_V rfl (Nat.le_of_eq rfl) rfl rfl (by decide) (by decide) rfl at_185 rfl (fun v h16 hq => ?_)
        obtain ⟨rfl, KK, Q1, Q2, Q3, Q4, Q5⟩ := hq
        refine Go.at (st' := []) rfl ?_
        have O := O.keep KK (allS (g_r) all0)
        have Sz := Nat.le_trans Sz KK.1
        have V_b2 := V_b2.keep KK (ninS ne_b2_r nin0)
        have X_r := X_r.keep KK
        have X_b14 := X_b14.keep KK
        have V_b14 := V_b14.keep KK (ninS (Ne.symm ne_r_b14) nin0)
        have X_b15 := X_b15.keep KK
        have V_b15 := V_b15.keep KK (ninS (Ne.symm ne_r_b15) nin0)
        have F_array_r := Q1
        have F_bounds_r := Q2
        have F_arrays_r := Q3
        have F_firstBound_r := Q4
        have F_size_r := Q5
        exact Go.weak (by decide) (by decide) (J h16 r (.ref b14) (.ref b15) .null fb (1 : Int32) (1 : Int32) (0 : Int32) ((fb + (1 : Int32)) % (3 : Int32)) (i4 ^^^ (-1 : Int32)) (.val (.ref b14)) (.val (.ref b15)) (One.val rfl) (One.val rfl) hfb X_r F_array_r F_bounds_r F_arrays_r F_firstBound_r F_size_r g_r rfl rfl rfl V_b2 ne_b2_r)
      · refine OwnW.iconst C (pc' := 85) at_84 rfl (z := 1) rfl ?_
        refine OwnW.goto C (pc' := 89) at_85 (by decide) rfl ?_
        refine OwnW.istore C (pc' := 91) at_89 rfl (l' := #[.val (.int i0), .val (.int i1), .val (.int i2), .val (.int i3), .val (.int i4), .val (.int i5), .val (.ref b1), .val (.ref b2), .val (.int fb), .val (.int (1 : Int32)), .val (.int (1 : Int32)), .val (.int (1 : Int32)), .unset, .unset, .unset]) rfl ?_
        refine OwnW.iload C (pc' := 93) at_91 rfl rfl ?_
        refine OwnW.ifEq C (pcY := 124) (pcN := 96) at_93 (by decide) rfl rfl (fun hc93 => absurd hc93 (by decide)) (fun hc93 => ?_)
        refine OwnW.newO C (pc' := 99) (K' := 3) (S' := 13) (hw _ (List.mem_of_getElem? (i := 3) rfl)) (hw _ (List.mem_of_getElem? (i := 4) rfl)) (hw _ (List.mem_of_getElem? (i := 5) rfl)) at_96 rfl rfl rfl (by decide) (by decide) (fun h9 b9 g9 E9 X_b9 D9 => ?_)
        have ne_b2_b9 : b2 ≠ b9 := Nat.ne_of_lt (Nat.lt_of_lt_of_eq V_b2.lt g9.symm)
        have g_b9 : n0 ≤ b9 := Nat.le_trans Sz (Nat.le_of_eq g9.symm)
        have O := O.ext E9
        have Sz := Nat.le_trans Sz E9.1
        have V_b2 := V_b2.ext E9
        have F_modCount_b9 : Fld Z h9 b9 "java/util/AbstractList" "modCount" "I" (.int (0 : Int32)) := D9 (Or.inl (hw _ (List.mem_of_getElem? (i := 25) rfl))) (ty := .int) (by decide)
        have F_elementData_b9 : Fld Z h9 b9 "java/util/ArrayList" "elementData" "[Ljava/lang/Object;" .null := D9 (Or.inl (hw _ (List.mem_of_getElem? (i := 28) rfl))) (ty := (.array (.object "java/lang/Object"))) (by decide)
        have F_size_b9 : Fld Z h9 b9 "java/util/ArrayList" "size" "I" (.int (0 : Int32)) := D9 (Or.inl (hw _ (List.mem_of_getElem? (i := 37) rfl))) (ty := .int) (by decide)
        refine OwnW.dup C (pc' := 100) at_99 rfl rfl ?_
        refine OwnW.callX C (pc' := 103) (y := (⟨"java/util/ArrayList", "<init>", "()V"⟩ : MethodName)) (W := 1) (argsL := []) (rest := [(.ref b9)]) rfl (hw _ (List.mem_of_getElem? (i := 6) rfl)) (hw _ (List.mem_of_getElem? (i := 7) rfl)) (hw _ (List.mem_of_getElem? (i := 5) rfl)) (hw _ (List.mem_of_getElem? (i := 8) rfl)) (by decide) (own_lstinit l Z a0 hw b9 d1 h9 n0 X_b9 F_modCount_b9 F_elementData_b9 F_size_b9 g_b9 (S_D.ext O.2)) (K' := 3) (S' := 13) (by decide) (by decide) rfl own_pd___V rfl (Nat.le_of_eq rfl) rfl rfl (by decide) (by decide) rfl at_100 rfl (fun v h10 hq => ?_)
        obtain ⟨rfl, KK, F1, F2, F3⟩ := hq
        refine Go.at (st' := [(.ref b9)]) rfl ?_
        have O := O.keep KK (allS (g_b9) all0)
        have Sz := Nat.le_trans Sz KK.1
        have V_b2 := V_b2.keep KK (ninS ne_b2_b9 nin0)
        have X_b9 := X_b9.keep KK
        have F_modCount_b9 := F1
        have F_elementData_b9 := F2
        have F_size_b9 := F3
        refine OwnW.astore C (pc' := 105) at_103 rfl rfl (l' := #[.val (.int i0), .val (.int i1), .val (.int i2), .val (.int i3), .val (.int i4), .val (.int i5), .val (.ref b1), .val (.ref b2), .val (.int fb), .val (.int (1 : Int32)), .val (.int (1 : Int32)), .val (.int (1 : Int32)), .unset, .val (.ref b9), .unset]) rfl ?_
        refine OwnW.aload C (pc' := 107) at_105 rfl rfl rfl ?_
        refine OwnW.iconst C (pc' := 108) at_107 rfl (z := 2) rfl ?_
        refine OwnW.newPE C (pc' := 110) (K' := 4) (S' := 15) (ad := "[B") (by decide +kernel) (hw _ (List.mem_of_getElem? (i := 0) rfl)) (cap := 2) (by decide) (by decide) (by decide) at_108 rfl rfl rfl (by decide) (by decide) (fun h11 b11 cA_b11 g11 E11 V_b11 X_b11 => ?_)
        have ne_b2_b11 : b2 ≠ b11 := Nat.ne_of_lt (Nat.lt_of_lt_of_eq V_b2.lt g11.symm)
        have ne_b9_b11 : b9 ≠ b11 := Nat.ne_of_lt (Nat.lt_of_lt_of_eq X_b9.lt g11.symm)
        have g_b11 : n0 ≤ b11 := Nat.le_trans Sz (Nat.le_of_eq g11.symm)
        have O := O.ext E11
        have Sz := Nat.le_trans Sz E11.1
        have V_b2 := V_b2.ext E11
        have X_b9 := X_b9.ext E11
        have F_modCount_b9 := F_modCount_b9.ext E11
        have F_elementData_b9 := F_elementData_b9.ext E11
        have F_size_b9 := F_size_b9.ext E11
        have V_b11 : Arv Z h11 b11 cA_b11 .byte (2 : Int32) [(.int (0 : Int32)), (.int (0 : Int32))] (.int (0 : Int32)) := V_b11.pad (pad_rep [] (.int (0 : Int32)) 2)
        have ne_d : d1 ≠ b9 := O.ne X_d1.lt g_b9
        refine OwnW.callV C (pc' := 113) (y := (⟨"java/util/ArrayList", "add", "(Ljava/lang/Object;)Z"⟩ : MethodName)) (z := (⟨"java/util/ArrayList", "add", "(Ljava/lang/Object;)Z"⟩ : MethodName)) (W := 0) (argsL := [(.ref b11)]) (rest := []) (hw _ (List.mem_of_getElem? (i := 29) rfl)) (hw _ (List.mem_of_getElem? (i := 30) rfl)) (notFace_of_selects (args := #[]) (mvT C.2.1 (hw _ (List.mem_of_getElem? (i := 32) rfl)))) (hw _ (List.mem_of_getElem? (i := 32) rfl)) (hw _ (List.mem_of_getElem? (i := 31) rfl)) (hw _ (List.mem_of_getElem? (i := 5) rfl)) (hw _ (List.mem_of_getElem? (i := 33) rfl)) X_b9 (by decide) (own_add_0 l Z a0 hw b9 b11 d1 0 cD h11 n0 Sz X_b9 F_modCount_b9 F_elementData_b9 F_size_b9 g_b9 (V_d1.ext O.2) (S_D.ext O.2) (Ins.of_exa X_b11 (hw _ (List.mem_of_getElem? (i := 59) rfl))) ne_d) (K' := 5) (S' := 25) (by decide) (by decide) rfl own_pd__Ljava_lang_Object__Z rfl (Nat.le_of_eq rfl) rfl rfl (by decide) (by decide) rfl at_110 rfl (fun v h12 hq => ?_)
        obtain ⟨rfl, KK, bb, cO, hb, F1, F2, F3, V_bb', X_bb, O_bb⟩ := hq
        refine Go.at (st' := [(.int (1 : Int32))]) rfl ?_
        have ne_b9_bb : b9 ≠ bb := Nat.ne_of_lt (Nat.lt_of_lt_of_le X_b9.lt hb)
        have ne_b11_bb : b11 ≠ bb := Nat.ne_of_lt (Nat.lt_of_lt_of_le X_b11.lt hb)
        have g_bb : n0 ≤ bb := Nat.le_trans Sz hb
        have O := O.keep KK (allS (g_b9) all0)
        have Sz := Nat.le_trans Sz KK.1
        have V_b2 := V_b2.keep KK (ninS ne_b2_b9 nin0)
        have X_b9 := X_b9.keep KK
        have X_b11 := X_b11.keep KK
        have V_b11 := V_b11.keep KK (ninS (Ne.symm ne_b9_b11) nin0)
        have F_modCount_b9 := F1
        have F_elementData_b9 := F2
        have F_size_b9 := F3
        have V_bb := V_bb'
        refine OwnW.pop C (pc' := 114) at_113 rfl rfl ?_
        refine OwnW.aload C (pc' := 116) at_114 rfl rfl rfl ?_
        refine OwnW.callS C (pc' := 119) (y := (⟨"com/example/kinegrid/kinegrid/server/Request", "of", "(Ljava/util/List;)Lcom/example/kinegrid/kinegrid/server/Request;"⟩ : MethodName)) (W := 0) (argsL := [(.ref b9)]) (rest := []) (hw _ (List.mem_of_getElem? (i := 60) rfl)) (hw _ (List.mem_of_getElem? (i := 61) rfl)) (hw _ (List.mem_of_getElem? (i := 62) rfl)) (hw _ (List.mem_of_getElem? (i := 63) rfl)) (by decide) (own_of l Z a0 hw b9 bb b11 (0 + 1) _ _ _ cO cA_b11 h12 n0 Sz X_b9 F_modCount_b9 F_elementData_b9 F_size_b9 V_bb rfl X_b11 V_b11) (K' := 7) (S' := 35) (by decide) (by decide) rfl own_pd__Ljava_util_List__Lcom_example_kinegrid_kinegrid_server_Request_ rfl (Nat.le_of_eq rfl) rfl rfl (by decide) (by decide) rfl at_116 rfl (fun v h13 hq => ?_)
        obtain ⟨r, rfl, hr, KK, X_r, F_array_r, F_bounds_r, F_arrays_r, F_firstBound_r, F_size_r⟩ := hq
        refine Go.at (st' := [(.ref r)]) rfl ?_
        have ne_b2_r : b2 ≠ r := Nat.ne_of_lt (Nat.lt_of_lt_of_le V_b2.lt hr)
        have g_r : n0 ≤ r := Nat.le_trans Sz hr
        have O := O.keep KK all0
        have Sz := Nat.le_trans Sz KK.1
        have V_b2 := V_b2.keep KK nin0
        refine OwnW.astore C (pc' := 121) at_119 rfl rfl (l' := #[.val (.int i0), .val (.int i1), .val (.int i2), .val (.int i3), .val (.int i4), .val (.int i5), .val (.ref b1), .val (.ref b2), .val (.int fb), .val (.int (1 : Int32)), .val (.int (1 : Int32)), .val (.int (1 : Int32)), .val (.ref r), .val (.ref b9), .unset]) rfl ?_
        refine OwnW.goto C (pc' := 133) at_121 (by decide) rfl ?_
        refine OwnW.iload C (pc' := 135) at_133 rfl rfl ?_
        refine OwnW.ifEq C (pcY := 188) (pcN := 138) at_135 (by decide) rfl rfl (fun hc135 => absurd hc135 (by decide)) (fun hc135 => ?_)
        refine OwnW.iload C (pc' := 140) at_138 rfl rfl ?_
        refine OwnW.ifEq C (pcY := 148) (pcN := 143) at_140 (by decide) rfl rfl (fun hc140 => absurd hc140 (by decide)) (fun hc140 => ?_)
        refine OwnW.aload C (pc' := 145) at_143 rfl rfl rfl ?_
        refine OwnW.goto C (pc' := 151) at_145 (by decide) rfl ?_
        refine OwnW.astore C (pc' := 153) at_151 rfl rfl (l' := #[.val (.int i0), .val (.int i1), .val (.int i2), .val (.int i3), .val (.int i4), .val (.int i5), .val (.ref b1), .val (.ref b2), .val (.int fb), .val (.int (1 : Int32)), .val (.int (1 : Int32)), .val (.int (1 : Int32)), .val (.ref r), .val (.ref b1), .unset]) rfl ?_
        refine OwnW.iload C (pc' := 155) at_153 rfl rfl ?_
        refine OwnW.ifEq C (pcY := 163) (pcN := 158) at_155 (by decide) rfl rfl (fun hc155 => absurd hc155 (by decide)) (fun hc155 => ?_)
        refine OwnW.aload C (pc' := 160) at_158 rfl rfl rfl ?_
        refine OwnW.goto C (pc' := 167) at_160 (by decide) rfl ?_
        refine OwnW.astore C (pc' := 169) at_167 rfl rfl (l' := #[.val (.int i0), .val (.int i1), .val (.int i2), .val (.int i3), .val (.int i4), .val (.int i5), .val (.ref b1), .val (.ref b2), .val (.int fb), .val (.int (1 : Int32)), .val (.int (1 : Int32)), .val (.int (1 : Int32)), .val (.ref r), .val (.ref b1), .val (.ref b2)]) rfl ?_
        refine OwnW.aload C (pc' := 171) at_169 rfl rfl rfl ?_
        refine OwnW.aload C (pc' := 173) at_171 rfl rfl rfl ?_
        refine OwnW.aload C (pc' := 175) at_173 rfl rfl rfl ?_
        refine OwnW.iload C (pc' := 177) at_175 rfl rfl ?_
        refine OwnW.iconst C (pc' := 178) at_177 rfl (z := 1) rfl ?_
        refine OwnW.iadd C (pc' := 179) at_178 rfl ?_
        refine OwnW.iconst C (pc' := 180) at_179 rfl (z := 3) rfl ?_
        refine OwnW.irem C (pc' := 181) at_180 rfl (by first | decide | assumption) ?_
        refine OwnW.iload C (pc' := 183) at_181 rfl rfl ?_
        refine OwnW.iconst C (pc' := 184) at_183 rfl (z := -1) rfl ?_
        refine OwnW.ixor C (pc' := 185) at_184 rfl ?_
        refine OwnW.callV C (pc' := 188) (y := (⟨"com/example/kinegrid/kinegrid/server/Request", "readInPlace", "([B[III)V"⟩ : MethodName)) (z := (⟨"com/example/kinegrid/kinegrid/server/Request", "readInPlace", "([B[III)V"⟩ : MethodName)) (W := 0) (argsL := [(.ref b1), (.ref b2), (.int ((fb + (1 : Int32)) % (3 : Int32))), (.int (i4 ^^^ (-1 : Int32)))]) (rest := []) (hw _ (List.mem_of_getElem? (i := 136) rfl)) (hw _ (List.mem_of_getElem? (i := 137) rfl)) (notFace_of_selects (args := #[]) (mvT C.2.1 (hw _ (List.mem_of_getElem? (i := 139) rfl)))) (hw _ (List.mem_of_getElem? (i := 139) rfl)) (hw _ (List.mem_of_getElem? (i := 138) rfl)) (hw _ (List.mem_of_getElem? (i := 62) rfl)) (hw _ (List.mem_of_getElem? (i := 140) rfl)) X_r (by decide) (own_read l Z a0 hw r b1 b2 .null .null (.ref b9) 0 1 _ _ h13 n0 X_r F_array_r F_bounds_r F_arrays_r F_firstBound_r F_size_r g_r rfl rfl rfl) (K' := 7) (S' := 35) (by decide) (by decide) rfl own_pd___B_III_V rfl (Nat.le_of_eq rfl) rfl rfl (by decide) (by decide) rfl at_185 rfl (fun v h14 hq => ?_)
        obtain ⟨rfl, KK, Q1, Q2, Q3, Q4, Q5⟩ := hq
        refine Go.at (st' := []) rfl ?_
        have O := O.keep KK (allS (g_r) all0)
        have Sz := Nat.le_trans Sz KK.1
        have V_b2 := V_b2.keep KK (ninS ne_b2_r nin0)
        have X_r := X_r.keep KK
        have F_array_r := Q1
        have F_bounds_r := Q2
        have F_arrays_r := Q3
        have F_firstBound_r := Q4
        have F_size_r := Q5
        exact Go.weak (by decide) (by decide) (J h14 r (.ref b1) (.ref b2) .null fb (1 : Int32) (1 : Int32) (1 : Int32) ((fb + (1 : Int32)) % (3 : Int32)) (i4 ^^^ (-1 : Int32)) (.val (.ref b1)) (.val (.ref b2)) (One.val rfl) (One.val rfl) hfb X_r F_array_r F_bounds_r F_arrays_r F_firstBound_r F_size_r g_r rfl rfl rfl V_b2 ne_b2_r)
set_option maxRecDepth 65536 in
set_option maxHeartbeats 40000000 in
theorem own_comes {Post : Tables → Env → Array Value → State → Outcome → State → Prop} (hpost : ∀ tb e args s v u, (limb_1_1.after args s (.returned v) u = true ∧ limb_1_2.after args s (.returned v) u = true) → FrameEnd s (.returned v) u (Jvm.fieldLocs frame_1_writes args s ++ Jvm.arrayLocs frame_1_arrays args s ++ Jvm.staticLocs frame_1_statics s) 32 192 → Post tb e args s (.returned v) u) :
    ArmFor flags0 classFile x code maxLocals ret World_1 tables_1 room_1 Calls_1 rest_1 Pre_1 Post := by
  intro l hfl _ _ p e ha hc hk s m args below hf hA hF happ hP
  obtain ⟨hcalls, hrest, hpre⟩ := hP
  obtain ⟨-, -, -, hnamed, -, -, -, hat⟩ := (Spec.applies_iff hf).mp happ
  obtain ⟨hg, hn⟩ := and_e (Cond.before_iff.mp (show (Jvm.Cond.and given_1 narrow_1).before args s = true from hpre))
  obtain ⟨gl1, gr1⟩ := and_e hg
  obtain ⟨gl2, gr2⟩ := and_e gr1
  obtain ⟨gl3, gr3⟩ := and_e gr2
  obtain ⟨gl4, gr4⟩ := and_e gr3
  obtain ⟨gl5, gr5⟩ := and_e gr4
  obtain ⟨gl6, gr6⟩ := and_e gr5
  obtain ⟨w0, w1, w2, w3, w4, w5, rfl⟩ : ∃ w0 w1 w2 w3 w4 w5 : Value, args = #[w0, w1, w2, w3, w4, w5] := by
    have hs : args.size = 6 := by simpa [Cond.value, given_1] using gl1
    obtain ⟨L⟩ := args
    match L, hs with
    | [w0, w1, w2, w3, w4, w5], _ => exact ⟨w0, w1, w2, w3, w4, w5, rfl⟩
  have hw := fun d (hd : d ∈ tables_1) => atoms_spec (ws := Jvm.Cond.code x code maxLocals ret :: tables_1) hat d (List.mem_cons_of_mem _ hd)
  obtain ⟨i0, ei0⟩ := is_v gl2
  obtain rfl : w0 = (.int i0) := Option.some.inj ei0
  obtain ⟨i1, ei1⟩ := is_v gl3
  obtain rfl : w1 = (.int i1) := Option.some.inj ei1
  obtain ⟨i2, ei2⟩ := is_v gl4
  obtain rfl : w2 = (.int i2) := Option.some.inj ei2
  obtain ⟨i3, ei3⟩ := is_v gl5
  obtain rfl : w3 = (.int i3) := Option.some.inj ei3
  obtain ⟨i4, ei4⟩ := is_v gl6
  obtain rfl : w4 = (.int i4) := Option.some.inj ei4
  obtain ⟨i5, ei5⟩ := is_v gr6
  obtain rfl : w5 = (.int i5) := Option.some.inj ei5
  have hfit : Fit s := fun {y c} hc i hi => by
    obtain ⟨ha, rfl⟩ := Array.getElem?_eq_some_iff.mp hc
    have q := List.all_eq_true.mp ((Array.all_eq_true_iff_forall_mem.mp hF) _ (Array.getElem_mem ha)) i (List.mem_range.mpr hi)
    simpa [Array.getElem?_eq_getElem hi] using q
  obtain ⟨hsets, hown0⟩ := atoms_of _ (rest_1_c_eq ▸ (show rest_1_c.before _ s = true from hrest))
  obtain ⟨d1, ev⟩ := exa_v (Cond.before_iff.mp (hsets _ (List.mem_of_getElem? (i := 7) rfl)))
  have X_d1 := Exa.start ev (Cond.before_iff.mp (hsets _ (List.mem_of_getElem? (i := 7) rfl)))
  obtain ⟨cl, AV⟩ := Arr.start ev (Cond.before_iff.mp (hsets _ (List.mem_of_getElem? (i := 6) rfl)))
  obtain ⟨hl1, hl2⟩ := len_start ev AV (Cond.before_iff.mp (hsets _ (List.mem_of_getElem? (i := 8) rfl)))
  have VV : Arv s s.heap d1 cl.cls (.object "java/lang/Object") 0 [] .null := Arv.start hfit AV hl1 hl2 (by decide) rfl trivial
  have S_D := Sta.start ev (Or.inr ⟨(hw _ (List.mem_of_getElem? (i := 5) rfl)), (hsets _ (List.mem_of_getElem? (i := 2) rfl))⟩)
  obtain ⟨n, o, h1, h2, h3, v, L, rfl, ⟨rfl, N⟩, hq⟩ := (own_law l s _ hw i0 i1 i2 i3 i4 i5 d1 cl.cls s.heap s.heap.size (Old.start s) (Nat.le_refl _) S_D X_d1 VV) tables_1 p e ha hc hk s m _ below hf ((Spec.applies_iff_loose hf).mp happ).1 ⟨rfl, State.Warmed39.refl s, rfl⟩ trivial
  refine ⟨n, _, h1, h2, h3, hpost _ _ _ _ _ _ ⟨Cond.after_iff.mpr rfl, Cond.after_iff.mpr (eq_i res_at (Term.int_eval (1)) rfl)⟩ ⟨hq.1, hq.2.1, (hq.2.2.sift fun y hy => Or.inr (N y hy)).mono (by decide) (by decide)⟩⟩
theorem main_1_1 : Claimed_1_1 := own_comes fun _ _ _ _ _ _ h hF => ⟨h.1, hF⟩
theorem main_1_2 : Claimed_1_2 := own_comes fun _ _ _ _ _ _ h hF => ⟨h.2, hF⟩
end Jvm.Pilot.@@N@@
namespace Jvm.Pilot.@@N@@
open Jvm Jvm.ClassFile Sem Op Lib Jvm.Free Jvm.Stand Jvm.Pilot.@@N@@.Jvm.D
/-! MADE BY PROGRAM (witnessworld.py) out of the Statement's table words and the real class files: 23 classes; the members and pool entries that the words name. The judged class is class 1, her method 1. -/
namespace start1
open Jvm.ClassFile
def u (s : String) : CpInfo := .utf8 (stringToUtf16 s)
/-- a pool by its gaps: so many unusable entries, then the entry; so many at the end -/
def gap : Nat → List CpInfo → List CpInfo
  | 0, r => r
  | n + 1, r => .unusable :: gap n r
def poolList (es : List (Nat × CpInfo)) (last : Nat) : List CpInfo := es.foldr (fun e r => gap e.1 (e.2 :: r)) (gap last [])
def pool (es : List (Nat × CpInfo)) (last : Nat) : Array CpInfo := ⟨poolList es last⟩
def fileOf (pool : Array CpInfo) (this : Nat) (attrs : Array Attribute := #[]) (ms : Array MethodInfo := #[]) (fl : Nat := 33) (sup : Nat := 0) (ifs : Array Nat := #[]) (fds : Array FieldInfo := #[]) : ClassFile where
  minorVersion := 0
  majorVersion := 65
  constantPool := pool
  accessFlags := fl
  thisClass := this
  superClass := sup
  interfaces := ifs
  fields := fds
  methods := ms
  attributes := attrs
def plain (name : String) (sup : Option ClassId) : Class where
  name := name
  kind := .ordinary
  loader := none
  accessFlags := 33
  super := sup
  interfaces := #[]
  cf := none
  fields := #[]
  methods := #[]
  instanceTypes := #[]
  staticTypes := #[]
  resolved := #[]
  callSites := []
  init := .initialized
  statics := none
  mirror := none

def pool0 : Array CpInfo := pool [(5, u "<init>"), (0, u "()V"), (1, .class_ 10), (1, u "java/lang/Object")] 113

def k0c0 : Code := { maxStack := 0, maxLocals := 1, code := object_method_1_code, exceptionTable := #[], attributes := #[] }
def k0m0 : Method := { name := "<init>", desc := "()V", sig := { parameters := [], returnType := none }, accessFlags := 1, code := some k0c0 }
/-- java/lang/Object -/
def k0 : Class := { plain "java/lang/Object" none with
  accessFlags := 33
  interfaces := #[]
  cf := some (fileOf pool0 8 #[] #[{ accessFlags := 1, nameIndex := 5, descriptorIndex := 6, attributes := #[] }] 33 0 #[] #[])
  fields := #[]
  methods := #[k0m0]
  instanceTypes := #[]
  staticTypes := #[]
  resolved := Array.replicate 124 none
  statics := none }

def pool1 : Array CpInfo := pool [(2, .class_ 4), (0, .nameAndType 5 6), (0, u "java/lang/Object"), (0, u "<init>"), (0, u "()V"), (0, .integer 2147483647), (0, .class_ 9), (0, u "java/util/ArrayList"), (0, .methodref 8 3), (0, .methodref 8 12), (0, .nameAndType 13 14), (0, u "add"), (0, u "(Ljava/lang/Object;)Z"), (0, .methodref 16 17), (0, .class_ 18), (0, .nameAndType 19 20), (0, u "com/example/kinegrid/kinegrid/server/Request"), (0, u "of"), (0, u "(Ljava/util/List;)Lcom/example/kinegrid/kinegrid/server/Request;"), (0, .methodref 16 3), (0, .methodref 16 23), (0, .nameAndType 24 25), (0, u "readInPlace"), (0, u "([B[III)V"), (0, .methodref 16 27), (0, .nameAndType 28 29), (0, u "size"), (0, u "()I"), (0, .methodref 16 31), (0, .nameAndType 32 33), (0, u "copiedBytes"), (0, u "()J"), (0, .methodref 16 35), (0, .nameAndType 36 37), (0, u "array"), (0, u "(I)[B"), (0, .methodref 16 39), (0, .nameAndType 40 41), (0, u "offset"), (0, u "(I)I"), (0, .methodref 16 43), (0, .nameAndType 44 41), (0, u "end"), (0, .class_ 46), (0, u "com/example/kinegrid/kinegrid/server/RequestReadInPlacePinLaw"), (2, u "law"), (0, u "(IIIIII)Z")] 7

def k1m0 : Method := { name := "<init>", desc := "()V", sig := { parameters := [], returnType := none }, accessFlags := 1, code := none }
def k1c1 : Code := { maxStack := 6, maxLocals := 15, code := code, exceptionTable := #[], attributes := #[] }
def k1m1 : Method := { name := "law", desc := "(IIIIII)Z", sig := { parameters := [.int, .int, .int, .int, .int, .int], returnType := some .boolean }, accessFlags := 9, code := some k1c1 }
/-- com/example/kinegrid/kinegrid/server/RequestReadInPlacePinLaw -/
def k1 : Class := { plain "com/example/kinegrid/kinegrid/server/RequestReadInPlacePinLaw" (some 0) with
  accessFlags := 49
  interfaces := #[]
  cf := some (fileOf pool1 45 #[] #[{ accessFlags := 1, nameIndex := 5, descriptorIndex := 6, attributes := #[] }, { accessFlags := 9, nameIndex := 49, descriptorIndex := 50, attributes := #[] }] 49 2 #[] #[])
  fields := #[]
  methods := #[k1m0, k1m1]
  instanceTypes := #[]
  staticTypes := #[]
  resolved := Array.replicate 58 none
  statics := none }

def pool2 : Array CpInfo := pool [(8, .class_ 10), (1, u "java/lang/Iterable"), (24, .class_ 36), (0, u "java/lang/Object")] 25

/-- java/lang/Iterable -/
def k2 : Class := { plain "java/lang/Iterable" (some 0) with
  accessFlags := 1537
  interfaces := #[]
  cf := some (fileOf pool2 8 #[] #[] 1537 35 #[] #[])
  fields := #[]
  methods := #[]
  instanceTypes := #[]
  staticTypes := #[]
  resolved := Array.replicate 62 none
  statics := none }

def pool3 : Array CpInfo := pool [(10, .class_ 12), (1, u "java/util/Collection"), (47, .class_ 61), (0, u "java/lang/Object"), (0, .class_ 63), (0, u "java/lang/Iterable")] 51

/-- java/util/Collection -/
def k3 : Class := { plain "java/util/Collection" (some 0) with
  accessFlags := 1537
  interfaces := #[2]
  cf := some (fileOf pool3 10 #[] #[] 1537 60 #[62] #[])
  fields := #[]
  methods := #[]
  instanceTypes := #[]
  staticTypes := #[]
  resolved := Array.replicate 115 none
  statics := none }

def pool4 : Array CpInfo := pool [(1, .methodref 2 3), (0, .class_ 4), (0, .nameAndType 5 6), (0, u "java/lang/Object"), (0, u "<init>"), (0, u "()V"), (1, .class_ 10), (1, u "java/util/AbstractCollection"), (66, .class_ 78), (0, u "java/util/Collection")] 81

def k4c0 : Code := { maxStack := 1, maxLocals := 1, code := jdk_22_method_1_code, exceptionTable := #[], attributes := #[] }
def k4m0 : Method := { name := "<init>", desc := "()V", sig := { parameters := [], returnType := none }, accessFlags := 4, code := some k4c0 }
/-- java/util/AbstractCollection -/
def k4 : Class := { plain "java/util/AbstractCollection" (some 0) with
  accessFlags := 1057
  interfaces := #[3]
  cf := some (fileOf pool4 8 #[] #[{ accessFlags := 4, nameIndex := 5, descriptorIndex := 6, attributes := #[] }] 1057 2 #[77] #[])
  fields := #[]
  methods := #[k4m0]
  instanceTypes := #[]
  staticTypes := #[]
  resolved := Array.replicate 160 none
  statics := none }

def pool5 : Array CpInfo := pool [(8, .class_ 10), (1, u "java/util/SequencedCollection"), (15, .class_ 27), (0, u "java/lang/Object"), (0, .class_ 29), (0, u "java/util/Collection")] 27

/-- java/util/SequencedCollection -/
def k5 : Class := { plain "java/util/SequencedCollection" (some 0) with
  accessFlags := 1537
  interfaces := #[3]
  cf := some (fileOf pool5 8 #[] #[] 1537 26 #[28] #[])
  fields := #[]
  methods := #[]
  instanceTypes := #[]
  staticTypes := #[]
  resolved := Array.replicate 57 none
  statics := none }

def pool6 : Array CpInfo := pool [(8, .class_ 10), (1, u "java/util/List"), (68, u "size"), (0, u "()I"), (22, .class_ 104), (0, u "java/lang/Object"), (15, .class_ 121), (0, u "java/util/SequencedCollection"), (1, u "iterator"), (0, u "()Ljava/util/Iterator;")] 126

def k6m0 : Method := { name := "size", desc := "()I", sig := { parameters := [], returnType := some .int }, accessFlags := 1025, code := none }
def k6m1 : Method := { name := "iterator", desc := "()Ljava/util/Iterator;", sig := { parameters := [], returnType := some (.object "java/util/Iterator") }, accessFlags := 1025, code := none }
/-- java/util/List -/
def k6 : Class := { plain "java/util/List" (some 0) with
  accessFlags := 1537
  interfaces := #[5]
  cf := some (fileOf pool6 8 #[] #[{ accessFlags := 1025, nameIndex := 79, descriptorIndex := 80, attributes := #[] }, { accessFlags := 1025, nameIndex := 123, descriptorIndex := 124, attributes := #[] }] 1537 103 #[120] #[])
  fields := #[]
  methods := #[k6m0, k6m1]
  instanceTypes := #[]
  staticTypes := #[]
  resolved := Array.replicate 251 none
  statics := none }

def pool7 : Array CpInfo := pool [(1, .methodref 2 3), (0, .class_ 4), (0, .nameAndType 5 6), (0, u "java/util/AbstractCollection"), (0, u "<init>"), (0, u "()V"), (0, .fieldref 8 9), (0, .class_ 10), (0, .nameAndType 11 12), (0, u "java/util/AbstractList"), (0, u "modCount"), (0, u "I"), (64, .class_ 78), (0, u "java/util/AbstractList$Itr"), (3, .class_ 83), (0, u "java/util/AbstractList$ListItr"), (9, .class_ 94), (0, u "java/util/AbstractList$RandomAccessSubList"), (3, .class_ 99), (0, u "java/util/AbstractList$SubList"), (33, .class_ 134), (0, u "java/util/List"), (73, .class_ 209), (0, u "java/util/AbstractList$SubList$1"), (0, .class_ 211), (0, u "java/util/AbstractList$RandomAccessSpliterator")] 6

def k7c0 : Code := { maxStack := 2, maxLocals := 1, code := jdk_39_method_1_code, exceptionTable := #[], attributes := #[] }
def k7m0 : Method := { name := "<init>", desc := "()V", sig := { parameters := [], returnType := none }, accessFlags := 4, code := some k7c0 }
/-- java/util/AbstractList -/
def k7 : Class := { plain "java/util/AbstractList" (some 4) with
  accessFlags := 1057
  interfaces := #[6]
  cf := some (fileOf pool7 8 #[.nestMembers #[93, 98, 208, 210, 82, 77]] #[{ accessFlags := 4, nameIndex := 5, descriptorIndex := 6, attributes := #[] }] 1057 2 #[133] #[{ accessFlags := 132, nameIndex := 11, descriptorIndex := 12, attributes := #[] }])
  fields := #[{ name := "modCount", type := .int, accessFlags := 132, slot := 0, constantValue := 0 }]
  methods := #[k7m0]
  instanceTypes := #[.int]
  staticTypes := #[]
  resolved := Array.replicate 218 none
  statics := none }

def pool8 : Array CpInfo := pool [(1, .class_ 2), (0, u "java/util/RandomAccess"), (0, .class_ 4), (0, u "java/lang/Object")] 2

/-- java/util/RandomAccess -/
def k8 : Class := { plain "java/util/RandomAccess" (some 0) with
  accessFlags := 1537
  interfaces := #[]
  cf := some (fileOf pool8 1 #[] #[] 1537 3 #[] #[])
  fields := #[]
  methods := #[]
  instanceTypes := #[]
  staticTypes := #[]
  resolved := Array.replicate 7 none
  statics := none }

def pool9 : Array CpInfo := pool [(1, .class_ 2), (0, u "java/lang/Cloneable"), (0, .class_ 4), (0, u "java/lang/Object")] 2

/-- java/lang/Cloneable -/
def k9 : Class := { plain "java/lang/Cloneable" (some 0) with
  accessFlags := 1537
  interfaces := #[]
  cf := some (fileOf pool9 1 #[] #[] 1537 3 #[] #[])
  fields := #[]
  methods := #[]
  instanceTypes := #[]
  staticTypes := #[]
  resolved := Array.replicate 7 none
  statics := none }

def pool10 : Array CpInfo := pool [(1, .class_ 2), (0, u "java/io/Serializable"), (0, .class_ 4), (0, u "java/lang/Object")] 2

/-- java/io/Serializable -/
def k10 : Class := { plain "java/io/Serializable" (some 0) with
  accessFlags := 1537
  interfaces := #[]
  cf := some (fileOf pool10 1 #[] #[] 1537 3 #[] #[])
  fields := #[]
  methods := #[]
  instanceTypes := #[]
  staticTypes := #[]
  resolved := Array.replicate 7 none
  statics := none }

def pool11 : Array CpInfo := pool [(1, .methodref 2 3), (0, .class_ 4), (0, .nameAndType 5 6), (0, u "java/util/AbstractList"), (0, u "<init>"), (0, u "()V"), (0, .class_ 8), (0, u "java/lang/Object"), (0, .fieldref 10 11), (0, .class_ 12), (0, .nameAndType 13 14), (0, u "java/util/ArrayList"), (0, u "elementData"), (0, u "[Ljava/lang/Object;"), (2, u "EMPTY_ELEMENTDATA"), (21, .fieldref 10 40), (0, .nameAndType 41 14), (0, u "DEFAULTCAPACITY_EMPTY_ELEMENTDATA"), (5, u "()[Ljava/lang/Object;"), (0, .fieldref 10 49), (0, .nameAndType 50 51), (0, u "size"), (0, u "I"), (11, .fieldref 10 64), (0, .nameAndType 65 51), (0, u "modCount"), (3, .methodref 10 70), (0, .nameAndType 71 72), (0, u "grow"), (0, u "(I)[Ljava/lang/Object;"), (6, .methodref 80 81), (0, .class_ 82), (0, .nameAndType 83 84), (0, u "java/lang/Math"), (0, u "max"), (0, u "(II)I"), (11, u "(Ljava/lang/Object;)Z"), (32, .methodref 10 130), (0, .nameAndType 71 47), (0, .methodref 10 132), (0, .nameAndType 133 134), (0, u "add"), (0, u "(Ljava/lang/Object;[Ljava/lang/Object;I)V"), (13, .class_ 149), (0, u "java/util/List"), (16, u "iterator"), (0, u "()Ljava/util/Iterator;"), (18, u "()I"), (75, .class_ 263), (0, u "java/util/ArrayList$ListItr"), (3, .class_ 268), (0, u "java/util/ArrayList$Itr"), (0, .methodref 267 270), (0, .nameAndType 5 271), (0, u "(Ljava/util/ArrayList;)V"), (4, .class_ 277), (0, u "java/util/ArrayList$SubList"), (12, .class_ 291), (0, u "java/util/ArrayList$ArrayListSpliterator"), (37, .class_ 330), (0, u "java/util/RandomAccess"), (0, .class_ 332), (0, u "java/lang/Cloneable"), (0, .class_ 334), (0, u "java/io/Serializable"), (0, u "serialVersionUID"), (0, u "J"), (3, u "DEFAULT_CAPACITY"), (159, .class_ 501), (0, u "java/util/ArrayList$SubList$2"), (0, .class_ 503), (0, u "java/util/ArrayList$SubList$1")] 5

def k11c0 : Code := { maxStack := 2, maxLocals := 1, code := jdk_38_method_2_code, exceptionTable := #[], attributes := #[] }
def k11m0 : Method := { name := "<init>", desc := "()V", sig := { parameters := [], returnType := none }, accessFlags := 1, code := some k11c0 }
def k11c1 : Code := { maxStack := 4, maxLocals := 4, code := jdk_38_method_6_code, exceptionTable := #[], attributes := #[] }
def k11m1 : Method := { name := "grow", desc := "(I)[Ljava/lang/Object;", sig := { parameters := [.int], returnType := some (.array (.object "java/lang/Object")) }, accessFlags := 2, code := some k11c1 }
def k11c2 : Code := { maxStack := 3, maxLocals := 1, code := jdk_38_method_7_code, exceptionTable := #[], attributes := #[] }
def k11m2 : Method := { name := "grow", desc := "()[Ljava/lang/Object;", sig := { parameters := [], returnType := some (.array (.object "java/lang/Object")) }, accessFlags := 2, code := some k11c2 }
def k11c3 : Code := { maxStack := 1, maxLocals := 1, code := jdk_38_method_8_code, exceptionTable := #[], attributes := #[] }
def k11m3 : Method := { name := "size", desc := "()I", sig := { parameters := [], returnType := some .int }, accessFlags := 1, code := some k11c3 }
def k11c4 : Code := { maxStack := 3, maxLocals := 4, code := jdk_38_method_24_code, exceptionTable := #[], attributes := #[] }
def k11m4 : Method := { name := "add", desc := "(Ljava/lang/Object;[Ljava/lang/Object;I)V", sig := { parameters := [(.object "java/lang/Object"), (.array (.object "java/lang/Object")), .int], returnType := none }, accessFlags := 2, code := some k11c4 }
def k11c5 : Code := { maxStack := 4, maxLocals := 2, code := jdk_38_method_25_code, exceptionTable := #[], attributes := #[] }
def k11m5 : Method := { name := "add", desc := "(Ljava/lang/Object;)Z", sig := { parameters := [(.object "java/lang/Object")], returnType := some .boolean }, accessFlags := 1, code := some k11c5 }
def k11c6 : Code := { maxStack := 3, maxLocals := 1, code := jdk_38_method_55_code, exceptionTable := #[], attributes := #[] }
def k11m6 : Method := { name := "iterator", desc := "()Ljava/util/Iterator;", sig := { parameters := [], returnType := some (.object "java/util/Iterator") }, accessFlags := 1, code := some k11c6 }
/-- java/util/ArrayList -/
def k11 : Class := { plain "java/util/ArrayList" (some 7) with
  accessFlags := 33
  interfaces := #[6, 8, 9, 10]
  cf := some (fileOf pool11 10 #[.nestMembers #[290, 276, 500, 502, 262, 267]] #[{ accessFlags := 1, nameIndex := 5, descriptorIndex := 6, attributes := #[] }, { accessFlags := 2, nameIndex := 71, descriptorIndex := 72, attributes := #[] }, { accessFlags := 2, nameIndex := 71, descriptorIndex := 47, attributes := #[] }, { accessFlags := 1, nameIndex := 50, descriptorIndex := 186, attributes := #[] }, { accessFlags := 2, nameIndex := 133, descriptorIndex := 134, attributes := #[] }, { accessFlags := 1, nameIndex := 133, descriptorIndex := 96, attributes := #[] }, { accessFlags := 1, nameIndex := 166, descriptorIndex := 167, attributes := #[] }] 33 2 #[148, 329, 331, 333] #[{ accessFlags := 26, nameIndex := 335, descriptorIndex := 336, attributes := #[] }, { accessFlags := 26, nameIndex := 340, descriptorIndex := 51, attributes := #[] }, { accessFlags := 26, nameIndex := 17, descriptorIndex := 14, attributes := #[] }, { accessFlags := 26, nameIndex := 41, descriptorIndex := 14, attributes := #[] }, { accessFlags := 128, nameIndex := 13, descriptorIndex := 14, attributes := #[] }, { accessFlags := 2, nameIndex := 50, descriptorIndex := 51, attributes := #[] }])
  fields := #[{ name := "serialVersionUID", type := .long, accessFlags := 26, slot := 0, constantValue := 0 }, { name := "DEFAULT_CAPACITY", type := .int, accessFlags := 26, slot := 1, constantValue := 0 }, { name := "EMPTY_ELEMENTDATA", type := (.array (.object "java/lang/Object")), accessFlags := 26, slot := 2, constantValue := 0 }, { name := "DEFAULTCAPACITY_EMPTY_ELEMENTDATA", type := (.array (.object "java/lang/Object")), accessFlags := 26, slot := 3, constantValue := 0 }, { name := "elementData", type := (.array (.object "java/lang/Object")), accessFlags := 128, slot := 1, constantValue := 0 }, { name := "size", type := .int, accessFlags := 2, slot := 2, constantValue := 0 }]
  methods := #[k11m0, k11m1, k11m2, k11m3, k11m4, k11m5, k11m6]
  instanceTypes := #[.int, (.array (.object "java/lang/Object")), .int]
  staticTypes := #[.long, .int, (.array (.object "java/lang/Object")), (.array (.object "java/lang/Object"))]
  resolved := Array.replicate 509 none
  statics := some 0 }

def pool12 : Array CpInfo := pool [(1, .class_ 2), (0, u "java/lang/Math"), (1, .class_ 6), (1, u "java/lang/Object"), (0, u "<init>"), (0, u "()V"), (89, .class_ 100), (1, u "java/lang/Math$RandomNumberGeneratorHolder"), (71, u "negativeZeroFloatBits"), (0, u "J"), (2, u "negativeZeroDoubleBits"), (21, u "max"), (46, u "$assertionsDisabled"), (0, u "Z"), (88, u "(II)I"), (2, u "twoToTheDoubleScaleDown"), (0, u "D"), (4, u "twoToTheDoubleScaleUp"), (9, u "E"), (3, u "PI"), (2, u "TAU"), (2, u "DEGREES_TO_RADIANS"), (0, u "RADIANS_TO_DEGREES")] 94

def k12m0 : Method := { name := "<init>", desc := "()V", sig := { parameters := [], returnType := none }, accessFlags := 2, code := none }
def k12c1 : Code := { maxStack := 2, maxLocals := 2, code := jdk_29_method_65_code, exceptionTable := #[], attributes := #[] }
def k12m1 : Method := { name := "max", desc := "(II)I", sig := { parameters := [.int, .int], returnType := some .int }, accessFlags := 9, code := some k12c1 }
/-- java/lang/Math -/
def k12 : Class := { plain "java/lang/Math" (some 0) with
  accessFlags := 49
  interfaces := #[]
  cf := some (fileOf pool12 1 #[.nestMembers #[98]] #[{ accessFlags := 2, nameIndex := 7, descriptorIndex := 8, attributes := #[] }, { accessFlags := 9, nameIndex := 198, descriptorIndex := 335, attributes := #[] }] 49 4 #[] #[{ accessFlags := 25, nameIndex := 354, descriptorIndex := 339, attributes := #[] }, { accessFlags := 25, nameIndex := 358, descriptorIndex := 339, attributes := #[] }, { accessFlags := 25, nameIndex := 361, descriptorIndex := 339, attributes := #[] }, { accessFlags := 26, nameIndex := 364, descriptorIndex := 339, attributes := #[] }, { accessFlags := 26, nameIndex := 365, descriptorIndex := 339, attributes := #[] }, { accessFlags := 26, nameIndex := 172, descriptorIndex := 173, attributes := #[] }, { accessFlags := 26, nameIndex := 176, descriptorIndex := 173, attributes := #[] }, { accessFlags := 8, nameIndex := 344, descriptorIndex := 339, attributes := #[] }, { accessFlags := 8, nameIndex := 338, descriptorIndex := 339, attributes := #[] }, { accessFlags := 4120, nameIndex := 245, descriptorIndex := 246, attributes := #[] }])
  fields := #[{ name := "E", type := .double, accessFlags := 25, slot := 0, constantValue := 0 }, { name := "PI", type := .double, accessFlags := 25, slot := 1, constantValue := 0 }, { name := "TAU", type := .double, accessFlags := 25, slot := 2, constantValue := 0 }, { name := "DEGREES_TO_RADIANS", type := .double, accessFlags := 26, slot := 3, constantValue := 0 }, { name := "RADIANS_TO_DEGREES", type := .double, accessFlags := 26, slot := 4, constantValue := 0 }, { name := "negativeZeroFloatBits", type := .long, accessFlags := 26, slot := 5, constantValue := 0 }, { name := "negativeZeroDoubleBits", type := .long, accessFlags := 26, slot := 6, constantValue := 0 }, { name := "twoToTheDoubleScaleUp", type := .double, accessFlags := 8, slot := 7, constantValue := 0 }, { name := "twoToTheDoubleScaleDown", type := .double, accessFlags := 8, slot := 8, constantValue := 0 }, { name := "$assertionsDisabled", type := .boolean, accessFlags := 4120, slot := 9, constantValue := 0 }]
  methods := #[k12m0, k12m1]
  instanceTypes := #[]
  staticTypes := #[.double, .double, .double, .double, .double, .long, .long, .double, .double, .boolean]
  resolved := Array.replicate 460 none
  statics := none }

def pool13 : Array CpInfo := pool [(1, .methodref 2 3), (0, .class_ 4), (0, .nameAndType 5 6), (0, u "java/lang/Object"), (0, u "<init>"), (0, u "()V"), (0, .class_ 8), (0, u "com/example/kinegrid/kinegrid/server/Request"), (0, .methodref 7 3), (0, .fieldref 7 11), (0, .nameAndType 12 13), (0, u "arrays"), (0, u "Ljava/util/List;"), (0, .interfaceMethodref 15 16), (0, .class_ 17), (0, .nameAndType 18 19), (0, u "java/util/List"), (0, u "iterator"), (0, u "()Ljava/util/Iterator;"), (0, .interfaceMethodref 21 22), (0, .class_ 23), (0, .nameAndType 24 25), (0, u "java/util/Iterator"), (0, u "hasNext"), (0, u "()Z"), (0, .interfaceMethodref 21 27), (0, .nameAndType 28 29), (0, u "next"), (0, u "()Ljava/lang/Object;"), (0, .class_ 31), (0, u "[B"), (0, .fieldref 7 33), (0, .nameAndType 34 35), (0, u "copiedBytes"), (0, u "J"), (0, .interfaceMethodref 15 37), (0, .nameAndType 38 39), (0, u "size"), (0, u "()I"), (0, .fieldref 7 41), (0, .nameAndType 38 42), (0, u "I"), (0, .fieldref 7 44), (0, .nameAndType 45 31), (0, u "array"), (0, .fieldref 7 47), (0, .nameAndType 48 49), (0, u "bounds"), (0, u "[I"), (0, .fieldref 7 51), (0, .nameAndType 52 42), (0, u "firstBound"), (6, u "offset"), (0, u "(I)I"), (2, u "end"), (10, .methodref 75 76), (0, .class_ 77), (0, .nameAndType 78 79), (0, u "java/util/Objects"), (0, u "checkIndex"), (0, u "(II)I"), (0, u "COPIED_ELEMENT_OVERHEAD_BYTES"), (6, u "of"), (0, u "(Ljava/util/List;)Lcom/example/kinegrid/kinegrid/server/Request;"), (2, u "readInPlace"), (0, u "([B[III)V"), (5, u "()J"), (0, u "(I)[B")] 5

def k13c0 : Code := { maxStack := 1, maxLocals := 1, code := prog_81_method_1_code, exceptionTable := #[], attributes := #[] }
def k13m0 : Method := { name := "<init>", desc := "()V", sig := { parameters := [], returnType := none }, accessFlags := 0, code := some k13c0 }
def k13c1 : Code := { maxStack := 5, maxLocals := 4, code := prog_81_method_2_code, exceptionTable := #[], attributes := #[] }
def k13m1 : Method := { name := "of", desc := "(Ljava/util/List;)Lcom/example/kinegrid/kinegrid/server/Request;", sig := { parameters := [(.object "java/util/List")], returnType := some (.object "com/example/kinegrid/kinegrid/server/Request") }, accessFlags := 8, code := some k13c1 }
def k13c2 : Code := { maxStack := 2, maxLocals := 5, code := prog_81_method_3_code, exceptionTable := #[], attributes := #[] }
def k13m2 : Method := { name := "readInPlace", desc := "([B[III)V", sig := { parameters := [(.array .byte), (.array .int), .int, .int], returnType := none }, accessFlags := 0, code := some k13c2 }
def k13c3 : Code := { maxStack := 2, maxLocals := 1, code := prog_81_method_7_code, exceptionTable := #[], attributes := #[] }
def k13m3 : Method := { name := "copiedBytes", desc := "()J", sig := { parameters := [], returnType := some .long }, accessFlags := 0, code := some k13c3 }
def k13c4 : Code := { maxStack := 1, maxLocals := 1, code := prog_81_method_8_code, exceptionTable := #[], attributes := #[] }
def k13m4 : Method := { name := "size", desc := "()I", sig := { parameters := [], returnType := some .int }, accessFlags := 0, code := some k13c4 }
def k13c5 : Code := { maxStack := 2, maxLocals := 2, code := prog_81_method_11_code, exceptionTable := #[], attributes := #[] }
def k13m5 : Method := { name := "array", desc := "(I)[B", sig := { parameters := [.int], returnType := some (.array .byte) }, accessFlags := 0, code := some k13c5 }
def k13c6 : Code := { maxStack := 4, maxLocals := 3, code := prog_81_method_12_code, exceptionTable := #[], attributes := #[] }
def k13m6 : Method := { name := "offset", desc := "(I)I", sig := { parameters := [.int], returnType := some .int }, accessFlags := 0, code := some k13c6 }
def k13c7 : Code := { maxStack := 4, maxLocals := 3, code := prog_81_method_13_code, exceptionTable := #[], attributes := #[] }
def k13m7 : Method := { name := "end", desc := "(I)I", sig := { parameters := [.int], returnType := some .int }, accessFlags := 0, code := some k13c7 }
/-- com/example/kinegrid/kinegrid/server/Request -/
def k13 : Class := { plain "com/example/kinegrid/kinegrid/server/Request" (some 0) with
  accessFlags := 48
  interfaces := #[]
  cf := some (fileOf pool13 7 #[] #[{ accessFlags := 0, nameIndex := 5, descriptorIndex := 6, attributes := #[] }, { accessFlags := 8, nameIndex := 87, descriptorIndex := 88, attributes := #[] }, { accessFlags := 0, nameIndex := 91, descriptorIndex := 92, attributes := #[] }, { accessFlags := 0, nameIndex := 34, descriptorIndex := 98, attributes := #[] }, { accessFlags := 0, nameIndex := 38, descriptorIndex := 39, attributes := #[] }, { accessFlags := 0, nameIndex := 45, descriptorIndex := 99, attributes := #[] }, { accessFlags := 0, nameIndex := 59, descriptorIndex := 60, attributes := #[] }, { accessFlags := 0, nameIndex := 63, descriptorIndex := 60, attributes := #[] }] 48 2 #[] #[{ accessFlags := 24, nameIndex := 80, descriptorIndex := 42, attributes := #[] }, { accessFlags := 2, nameIndex := 45, descriptorIndex := 31, attributes := #[] }, { accessFlags := 2, nameIndex := 12, descriptorIndex := 13, attributes := #[] }, { accessFlags := 2, nameIndex := 48, descriptorIndex := 49, attributes := #[] }, { accessFlags := 2, nameIndex := 52, descriptorIndex := 42, attributes := #[] }, { accessFlags := 2, nameIndex := 38, descriptorIndex := 42, attributes := #[] }, { accessFlags := 2, nameIndex := 34, descriptorIndex := 35, attributes := #[] }])
  fields := #[{ name := "COPIED_ELEMENT_OVERHEAD_BYTES", type := .int, accessFlags := 24, slot := 0, constantValue := 0 }, { name := "array", type := (.array .byte), accessFlags := 2, slot := 0, constantValue := 0 }, { name := "arrays", type := (.object "java/util/List"), accessFlags := 2, slot := 1, constantValue := 0 }, { name := "bounds", type := (.array .int), accessFlags := 2, slot := 2, constantValue := 0 }, { name := "firstBound", type := .int, accessFlags := 2, slot := 3, constantValue := 0 }, { name := "size", type := .int, accessFlags := 2, slot := 4, constantValue := 0 }, { name := "copiedBytes", type := .long, accessFlags := 2, slot := 5, constantValue := 0 }]
  methods := #[k13m0, k13m1, k13m2, k13m3, k13m4, k13m5, k13m6, k13m7]
  instanceTypes := #[(.array .byte), (.object "java/util/List"), (.array .int), .int, .int, .long]
  staticTypes := #[.int]
  resolved := Array.replicate 105 none
  statics := none }

def pool14 : Array CpInfo := pool [(16, .class_ 18), (1, u "java/util/Iterator"), (0, u "hasNext"), (0, u "()Z"), (2, u "next"), (0, u "()Ljava/lang/Object;"), (6, .class_ 32), (0, u "java/lang/Object")] 20

def k14m0 : Method := { name := "hasNext", desc := "()Z", sig := { parameters := [], returnType := some .boolean }, accessFlags := 1025, code := none }
def k14m1 : Method := { name := "next", desc := "()Ljava/lang/Object;", sig := { parameters := [], returnType := some (.object "java/lang/Object") }, accessFlags := 1025, code := none }
/-- java/util/Iterator -/
def k14 : Class := { plain "java/util/Iterator" (some 0) with
  accessFlags := 1537
  interfaces := #[]
  cf := some (fileOf pool14 16 #[] #[{ accessFlags := 1025, nameIndex := 19, descriptorIndex := 20, attributes := #[] }, { accessFlags := 1025, nameIndex := 23, descriptorIndex := 24, attributes := #[] }] 1537 31 #[] #[])
  fields := #[]
  methods := #[k14m0, k14m1]
  instanceTypes := #[]
  staticTypes := #[]
  resolved := Array.replicate 53 none
  statics := none }

def pool15 : Array CpInfo := pool [(1, .fieldref 2 3), (0, .class_ 4), (0, .nameAndType 5 6), (0, u "java/util/ArrayList$Itr"), (0, u "this$0"), (0, u "Ljava/util/ArrayList;"), (0, .methodref 8 9), (0, .class_ 10), (0, .nameAndType 11 12), (0, u "java/lang/Object"), (0, u "<init>"), (0, u "()V"), (0, .fieldref 2 14), (0, .nameAndType 15 16), (0, u "lastRet"), (0, u "I"), (0, .fieldref 18 19), (0, .class_ 20), (0, .nameAndType 21 16), (0, u "java/util/ArrayList"), (0, u "modCount"), (0, .fieldref 2 23), (0, .nameAndType 24 16), (0, u "expectedModCount"), (0, .fieldref 2 26), (0, .nameAndType 27 16), (0, u "cursor"), (0, .fieldref 18 29), (0, .nameAndType 30 16), (0, u "size"), (0, .methodref 2 32), (0, .nameAndType 33 12), (0, u "checkForComodification"), (3, .fieldref 18 38), (0, .nameAndType 39 40), (0, u "elementData"), (0, u "[Ljava/lang/Object;"), (28, .class_ 70), (0, u "java/util/Iterator"), (0, u "(Ljava/util/ArrayList;)V"), (8, u "hasNext"), (0, u "()Z"), (1, u "next"), (0, u "()Ljava/lang/Object;")] 19

def k15c0 : Code := { maxStack := 2, maxLocals := 2, code := jdk_49_method_1_code, exceptionTable := #[], attributes := #[] }
def k15m0 : Method := { name := "<init>", desc := "(Ljava/util/ArrayList;)V", sig := { parameters := [(.object "java/util/ArrayList")], returnType := none }, accessFlags := 0, code := some k15c0 }
def k15c1 : Code := { maxStack := 2, maxLocals := 1, code := jdk_49_method_2_code, exceptionTable := #[], attributes := #[] }
def k15m1 : Method := { name := "hasNext", desc := "()Z", sig := { parameters := [], returnType := some .boolean }, accessFlags := 1, code := some k15c1 }
def k15c2 : Code := { maxStack := 4, maxLocals := 3, code := jdk_49_method_3_code, exceptionTable := #[], attributes := #[] }
def k15m2 : Method := { name := "next", desc := "()Ljava/lang/Object;", sig := { parameters := [], returnType := some (.object "java/lang/Object") }, accessFlags := 1, code := some k15c2 }
def k15c3 : Code := { maxStack := 2, maxLocals := 1, code := jdk_49_method_6_code, exceptionTable := #[], attributes := #[] }
def k15m3 : Method := { name := "checkForComodification", desc := "()V", sig := { parameters := [], returnType := none }, accessFlags := 16, code := some k15c3 }
/-- java/util/ArrayList$Itr -/
def k15 : Class := { plain "java/util/ArrayList$Itr" (some 0) with
  accessFlags := 32
  interfaces := #[14]
  cf := some (fileOf pool15 2 #[.nestHost 18] #[{ accessFlags := 0, nameIndex := 11, descriptorIndex := 71, attributes := #[] }, { accessFlags := 1, nameIndex := 80, descriptorIndex := 81, attributes := #[] }, { accessFlags := 1, nameIndex := 83, descriptorIndex := 84, attributes := #[] }, { accessFlags := 16, nameIndex := 33, descriptorIndex := 12, attributes := #[] }] 32 8 #[69] #[{ accessFlags := 0, nameIndex := 27, descriptorIndex := 16, attributes := #[] }, { accessFlags := 0, nameIndex := 15, descriptorIndex := 16, attributes := #[] }, { accessFlags := 0, nameIndex := 24, descriptorIndex := 16, attributes := #[] }, { accessFlags := 4112, nameIndex := 5, descriptorIndex := 6, attributes := #[] }])
  fields := #[{ name := "cursor", type := .int, accessFlags := 0, slot := 0, constantValue := 0 }, { name := "lastRet", type := .int, accessFlags := 0, slot := 1, constantValue := 0 }, { name := "expectedModCount", type := .int, accessFlags := 0, slot := 2, constantValue := 0 }, { name := "this$0", type := (.object "java/util/ArrayList"), accessFlags := 4112, slot := 3, constantValue := 0 }]
  methods := #[k15m0, k15m1, k15m2, k15m3]
  instanceTypes := #[.int, .int, .int, (.object "java/util/ArrayList")]
  staticTypes := #[]
  resolved := Array.replicate 104 none
  statics := none }

def pool16 : Array CpInfo := pool [(2, .class_ 4), (1, u "java/lang/Object"), (0, u "<init>"), (0, u "()V"), (35, .class_ 44), (1, u "java/util/Objects"), (60, .methodref 106 107), (0, .class_ 108), (0, .nameAndType 109 110), (0, u "jdk/internal/util/Preconditions"), (0, u "checkIndex"), (0, u "(IILjava/util/function/BiFunction;)I"), (60, u "(II)I")] 12

def k16m0 : Method := { name := "<init>", desc := "()V", sig := { parameters := [], returnType := none }, accessFlags := 2, code := none }
def k16c1 : Code := { maxStack := 3, maxLocals := 2, code := jdk_31_method_17_code, exceptionTable := #[], attributes := #[] }
def k16m1 : Method := { name := "checkIndex", desc := "(II)I", sig := { parameters := [.int, .int], returnType := some .int }, accessFlags := 9, code := some k16c1 }
/-- java/util/Objects -/
def k16 : Class := { plain "java/util/Objects" (some 0) with
  accessFlags := 49
  interfaces := #[]
  cf := some (fileOf pool16 42 #[] #[{ accessFlags := 2, nameIndex := 5, descriptorIndex := 6, attributes := #[] }, { accessFlags := 9, nameIndex := 109, descriptorIndex := 171, attributes := #[] }] 49 2 #[] #[])
  fields := #[]
  methods := #[k16m0, k16m1]
  instanceTypes := #[]
  staticTypes := #[]
  resolved := Array.replicate 184 none
  statics := none }

def pool17 : Array CpInfo := pool [(2, .class_ 4), (1, u "java/lang/Object"), (0, u "<init>"), (0, u "()V"), (17, .class_ 26), (1, u "jdk/internal/util/Preconditions"), (6, u "checkIndex"), (21, .class_ 56), (0, u "jdk/internal/util/Preconditions$4"), (57, .class_ 115), (0, u "jdk/internal/util/Preconditions$1"), (7, u "SIOOBE_FORMATTER"), (0, u "Ljava/util/function/BiFunction;"), (0, .class_ 126), (0, u "jdk/internal/util/Preconditions$2"), (3, u "AIOOBE_FORMATTER"), (0, .class_ 132), (0, u "jdk/internal/util/Preconditions$3"), (3, u "IOOBE_FORMATTER"), (41, u "(IILjava/util/function/BiFunction;)I")] 15

def k17m0 : Method := { name := "<init>", desc := "()V", sig := { parameters := [], returnType := none }, accessFlags := 1, code := none }
def k17c1 : Code := { maxStack := 3, maxLocals := 3, code := jdk_41_method_11_code, exceptionTable := #[], attributes := #[] }
def k17m1 : Method := { name := "checkIndex", desc := "(IILjava/util/function/BiFunction;)I", sig := { parameters := [.int, .int, (.object "java/util/function/BiFunction")], returnType := some .int }, accessFlags := 9, code := some k17c1 }
/-- jdk/internal/util/Preconditions -/
def k17 : Class := { plain "jdk/internal/util/Preconditions" (some 0) with
  accessFlags := 33
  interfaces := #[]
  cf := some (fileOf pool17 24 #[.nestMembers #[55, 131, 125, 114]] #[{ accessFlags := 1, nameIndex := 5, descriptorIndex := 6, attributes := #[] }, { accessFlags := 9, nameIndex := 33, descriptorIndex := 178, attributes := #[] }] 33 2 #[] #[{ accessFlags := 25, nameIndex := 123, descriptorIndex := 124, attributes := #[] }, { accessFlags := 25, nameIndex := 130, descriptorIndex := 124, attributes := #[] }, { accessFlags := 25, nameIndex := 136, descriptorIndex := 124, attributes := #[] }])
  fields := #[{ name := "SIOOBE_FORMATTER", type := (.object "java/util/function/BiFunction"), accessFlags := 25, slot := 0, constantValue := 0 }, { name := "AIOOBE_FORMATTER", type := (.object "java/util/function/BiFunction"), accessFlags := 25, slot := 1, constantValue := 0 }, { name := "IOOBE_FORMATTER", type := (.object "java/util/function/BiFunction"), accessFlags := 25, slot := 2, constantValue := 0 }]
  methods := #[k17m0, k17m1]
  instanceTypes := #[]
  staticTypes := #[(.object "java/util/function/BiFunction"), (.object "java/util/function/BiFunction"), (.object "java/util/function/BiFunction")]
  resolved := Array.replicate 194 none
  statics := none }

/-- the primitive byte -/
def k18 : Class := { plain "byte" none with kind := .primitive 'B', accessFlags := 0x411 }
/-- [B -/
def k19 : Class := { plain "[B" (some 0) with kind := .array 18 .byte, interfaces := #[9, 10], accessFlags := 1041 }

/-- the primitive int -/
def k20 : Class := { plain "int" none with kind := .primitive 'I', accessFlags := 0x411 }
/-- [I -/
def k21 : Class := { plain "[I" (some 0) with kind := .array 20 .int, interfaces := #[9, 10], accessFlags := 1041 }

/-- [Ljava/lang/Object; -/
def k22 : Class := { plain "[Ljava/lang/Object;" (some 0) with kind := .array 0 (.object "java/lang/Object"), interfaces := #[9, 10], accessFlags := 1041 }

def heap : Heap := #[{ cls := 11, slots := #[.long 0, .int 0, .ref 1, .ref 2], vm := .statics 11 },
  { cls := 22, slots := #[], vm := .none },
  { cls := 22, slots := #[], vm := .none }]
def classes : Array Class := #[k0, k1, k2, k3, k4, k5, k6, k7, k8, k9, k10, k11, k12, k13, k14, k15, k16, k17, k18, k19, k20, k21, k22]
def interned : List (Array UInt16 × Addr) := []
def slotsUsed : Nat := 4
def theMethod : MethodId := ⟨1, 1⟩
def args0 : Array Value := #[.int 1, .int 2, .int 3, .int 4, .int 5, .int 6]
def aboutOver (below : List Frame) : State where
  vm := { classes := classes, interned := interned.toArray }
  heap := heap
  slotsUsed := slotsUsed
  threads := #[{ frames := .invoking theMethod args0 :: below }]
def below0 : List Frame := [.native { method := ⟨0, 0⟩, args := #[] }]
def about1 : State := aboutOver below0
def p0 : Program := .bare "" "" ""
def e0 : Env := launch0.env 0 0 0
theorem w_frames : about1.frames = Frame.invoking theMethod args0 :: below0 := rfl
set_option maxRecDepth 65536 in
theorem w_args : argsFit about1.vm theMethod args0 = true := by decide +kernel
set_option maxRecDepth 65536 in
theorem w_heap : heapFits about1 = true := by decide +kernel
set_option maxRecDepth 65536 in
theorem w_runnable : about1.curStatus? = some .runnable := by decide +kernel
set_option maxRecDepth 65536 in
theorem w_alone : about1.alone = true := by decide +kernel
set_option maxRecDepth 65536 in
theorem w_named : about1.methodNamed? x = some theMethod := by decide +kernel
set_option maxRecDepth 65536 in
theorem w_hears : about1.hears theMethod below0 = true := by decide +kernel
set_option maxRecDepth 65536 in
theorem w_ripe : about1.ripe theMethod args0 below0 = true := by decide +kernel
theorem w_running : about1.status = .running := rfl
set_option maxRecDepth 65536 in
theorem w_room : about1.hasRoom e0.platform room_1 = true :=
  launch0.hasRoom_least _ room_1 (by decide +kernel) (by decide +kernel) (by decide +kernel) (by decide +kernel) (by decide +kernel) (by decide +kernel)
theorem allAtoms_all (ts : List Jvm.Cond) (a : Array Jvm.Value) (st : Jvm.State) : (allAtoms ts).before a st = ts.all (fun c => c.before a st) := by
  induction ts with
  | nil => rfl
  | cons c t ih =>
    show (Jvm.Cond.and c (allAtoms t)).before a st = _
    rw [Jvm.Cond.before_and, ih, List.all_cons]
def words1 : List Jvm.Cond := Jvm.Cond.code x code maxLocals ret :: tables_1
/-- a 'code' word, met by the world's own term for the bytes: nothing is compared byte by byte -/
theorem code_word {y : MethodName} {bytes : ByteArray} {mx : Nat} {rt : Option FieldType} {a : Array Value} {s : State} {m : MethodId} {meth : Method} {c : Code} (h1 : s.methodNamed? y = some m) (h2 : s.vm.method? m = some meth) (h3 : meth.code = some c) (h4 : c.code = bytes)
    (h5 : (c.maxLocals == mx && c.exceptionTable.isEmpty && decide (c.maxStack ≤ mostOperands) && decide (meth.sig.returnType = rt) && !meth.locks && decide (parseMethodDescriptor y.desc = some meth.sig)) = true) : (Jvm.Cond.code y bytes mx rt).before a s = true := by
  simp only [Bool.and_eq_true, beq_iff_eq, Bool.not_eq_true', decide_eq_true_eq] at h5
  obtain ⟨⟨⟨⟨⟨g1, g2⟩, g3⟩, g4⟩, g5⟩, g6⟩ := h5
  simp [Cond.before, Cond.holds, Cond.value, h1, h2, h3, h4, g1, g2, g3, g4, g5, g6]
def isCode : Jvm.Cond → Bool
  | .code _ _ _ _ => true
  | _ => false
theorem all_split {L : List Jvm.Cond} {P : Jvm.Cond → Bool} (h1 : L.all (fun c => isCode c || P c) = true) (h2 : ∀ c ∈ L.filter isCode, P c = true) : L.all P = true := by
  refine List.all_eq_true.mpr fun c hc => ?_
  have h := List.all_eq_true.mp h1 c hc
  rcases Bool.eq_false_or_eq_true (isCode c) with hi | hi
  · exact h2 c (List.mem_filter.mpr ⟨hc, hi⟩)
  · simpa [hi] using h
set_option maxRecDepth 65536 in
theorem w_c0 : (Jvm.Cond.code x code maxLocals ret).before args0 about1 = true := code_word (m := ⟨1, 1⟩) (meth := k1m1) (c := k1c1) (by decide +kernel) rfl rfl rfl (by decide +kernel)
set_option maxRecDepth 65536 in
theorem w_c1 : (Jvm.Cond.code ({ cls := "java/util/ArrayList", name := "<init>", desc := "()V" } : Jvm.MethodName) jdk_38_method_2_code (1 : Nat) (Option.none : Option Jvm.ClassFile.FieldType)).before args0 about1 = true := code_word (m := ⟨11, 0⟩) (meth := k11m0) (c := k11c0) (by decide +kernel) rfl rfl rfl (by decide +kernel)
set_option maxRecDepth 65536 in
theorem w_c2 : (Jvm.Cond.code ({ cls := "java/util/AbstractList", name := "<init>", desc := "()V" } : Jvm.MethodName) jdk_39_method_1_code (1 : Nat) (Option.none : Option Jvm.ClassFile.FieldType)).before args0 about1 = true := code_word (m := ⟨7, 0⟩) (meth := k7m0) (c := k7c0) (by decide +kernel) rfl rfl rfl (by decide +kernel)
set_option maxRecDepth 65536 in
theorem w_c3 : (Jvm.Cond.code ({ cls := "java/util/AbstractCollection", name := "<init>", desc := "()V" } : Jvm.MethodName) jdk_22_method_1_code (1 : Nat) (Option.none : Option Jvm.ClassFile.FieldType)).before args0 about1 = true := code_word (m := ⟨4, 0⟩) (meth := k4m0) (c := k4c0) (by decide +kernel) rfl rfl rfl (by decide +kernel)
set_option maxRecDepth 65536 in
theorem w_c4 : (Jvm.Cond.code ({ cls := "java/lang/Object", name := "<init>", desc := "()V" } : Jvm.MethodName) object_method_1_code (1 : Nat) (Option.none : Option Jvm.ClassFile.FieldType)).before args0 about1 = true := code_word (m := ⟨0, 0⟩) (meth := k0m0) (c := k0c0) (by decide +kernel) rfl rfl rfl (by decide +kernel)
set_option maxRecDepth 65536 in
theorem w_c5 : (Jvm.Cond.code ({ cls := "java/util/ArrayList", name := "add", desc := "(Ljava/lang/Object;)Z" } : Jvm.MethodName) jdk_38_method_25_code (2 : Nat) (Option.some Jvm.ClassFile.FieldType.boolean)).before args0 about1 = true := code_word (m := ⟨11, 5⟩) (meth := k11m5) (c := k11c5) (by decide +kernel) rfl rfl rfl (by decide +kernel)
set_option maxRecDepth 65536 in
theorem w_c6 : (Jvm.Cond.code ({ cls := "java/util/ArrayList", name := "add", desc := "(Ljava/lang/Object;[Ljava/lang/Object;I)V" } : Jvm.MethodName) jdk_38_method_24_code (4 : Nat) (Option.none : Option Jvm.ClassFile.FieldType)).before args0 about1 = true := code_word (m := ⟨11, 4⟩) (meth := k11m4) (c := k11c4) (by decide +kernel) rfl rfl rfl (by decide +kernel)
set_option maxRecDepth 65536 in
theorem w_c7 : (Jvm.Cond.code ({ cls := "java/util/ArrayList", name := "grow", desc := "()[Ljava/lang/Object;" } : Jvm.MethodName) jdk_38_method_7_code (1 : Nat) (Option.some (Jvm.ClassFile.FieldType.array (Jvm.ClassFile.FieldType.object "java/lang/Object")))).before args0 about1 = true := code_word (m := ⟨11, 2⟩) (meth := k11m2) (c := k11c2) (by decide +kernel) rfl rfl rfl (by decide +kernel)
set_option maxRecDepth 65536 in
theorem w_c8 : (Jvm.Cond.code ({ cls := "java/util/ArrayList", name := "grow", desc := "(I)[Ljava/lang/Object;" } : Jvm.MethodName) jdk_38_method_6_code (4 : Nat) (Option.some (Jvm.ClassFile.FieldType.array (Jvm.ClassFile.FieldType.object "java/lang/Object")))).before args0 about1 = true := code_word (m := ⟨11, 1⟩) (meth := k11m1) (c := k11c1) (by decide +kernel) rfl rfl rfl (by decide +kernel)
set_option maxRecDepth 65536 in
theorem w_c9 : (Jvm.Cond.code ({ cls := "java/lang/Math", name := "max", desc := "(II)I" } : Jvm.MethodName) jdk_29_method_65_code (2 : Nat) (Option.some Jvm.ClassFile.FieldType.int)).before args0 about1 = true := code_word (m := ⟨12, 1⟩) (meth := k12m1) (c := k12c1) (by decide +kernel) rfl rfl rfl (by decide +kernel)
set_option maxRecDepth 65536 in
theorem w_c10 : (Jvm.Cond.code ({ cls := "com/example/kinegrid/kinegrid/server/Request", name := "of", desc := "(Ljava/util/List;)Lcom/example/kinegrid/kinegrid/server/Request;" } : Jvm.MethodName) prog_81_method_2_code (4 : Nat) (Option.some (Jvm.ClassFile.FieldType.object "com/example/kinegrid/kinegrid/server/Request"))).before args0 about1 = true := code_word (m := ⟨13, 1⟩) (meth := k13m1) (c := k13c1) (by decide +kernel) rfl rfl rfl (by decide +kernel)
set_option maxRecDepth 65536 in
theorem w_c11 : (Jvm.Cond.code ({ cls := "com/example/kinegrid/kinegrid/server/Request", name := "<init>", desc := "()V" } : Jvm.MethodName) prog_81_method_1_code (1 : Nat) (Option.none : Option Jvm.ClassFile.FieldType)).before args0 about1 = true := code_word (m := ⟨13, 0⟩) (meth := k13m0) (c := k13c0) (by decide +kernel) rfl rfl rfl (by decide +kernel)
set_option maxRecDepth 65536 in
theorem w_c12 : (Jvm.Cond.code ({ cls := "java/util/ArrayList", name := "iterator", desc := "()Ljava/util/Iterator;" } : Jvm.MethodName) jdk_38_method_55_code (1 : Nat) (Option.some (Jvm.ClassFile.FieldType.object "java/util/Iterator"))).before args0 about1 = true := code_word (m := ⟨11, 6⟩) (meth := k11m6) (c := k11c6) (by decide +kernel) rfl rfl rfl (by decide +kernel)
set_option maxRecDepth 65536 in
theorem w_c13 : (Jvm.Cond.code ({ cls := "java/util/ArrayList$Itr", name := "<init>", desc := "(Ljava/util/ArrayList;)V" } : Jvm.MethodName) jdk_49_method_1_code (2 : Nat) (Option.none : Option Jvm.ClassFile.FieldType)).before args0 about1 = true := code_word (m := ⟨15, 0⟩) (meth := k15m0) (c := k15c0) (by decide +kernel) rfl rfl rfl (by decide +kernel)
set_option maxRecDepth 65536 in
theorem w_c14 : (Jvm.Cond.code ({ cls := "java/util/ArrayList$Itr", name := "hasNext", desc := "()Z" } : Jvm.MethodName) jdk_49_method_2_code (1 : Nat) (Option.some Jvm.ClassFile.FieldType.boolean)).before args0 about1 = true := code_word (m := ⟨15, 1⟩) (meth := k15m1) (c := k15c1) (by decide +kernel) rfl rfl rfl (by decide +kernel)
set_option maxRecDepth 65536 in
theorem w_c15 : (Jvm.Cond.code ({ cls := "java/util/ArrayList$Itr", name := "next", desc := "()Ljava/lang/Object;" } : Jvm.MethodName) jdk_49_method_3_code (3 : Nat) (Option.some (Jvm.ClassFile.FieldType.object "java/lang/Object"))).before args0 about1 = true := code_word (m := ⟨15, 2⟩) (meth := k15m2) (c := k15c2) (by decide +kernel) rfl rfl rfl (by decide +kernel)
set_option maxRecDepth 65536 in
theorem w_c16 : (Jvm.Cond.code ({ cls := "java/util/ArrayList$Itr", name := "checkForComodification", desc := "()V" } : Jvm.MethodName) jdk_49_method_6_code (1 : Nat) (Option.none : Option Jvm.ClassFile.FieldType)).before args0 about1 = true := code_word (m := ⟨15, 3⟩) (meth := k15m3) (c := k15c3) (by decide +kernel) rfl rfl rfl (by decide +kernel)
set_option maxRecDepth 65536 in
theorem w_c17 : (Jvm.Cond.code ({ cls := "java/util/ArrayList", name := "size", desc := "()I" } : Jvm.MethodName) jdk_38_method_8_code (1 : Nat) (Option.some Jvm.ClassFile.FieldType.int)).before args0 about1 = true := code_word (m := ⟨11, 3⟩) (meth := k11m3) (c := k11c3) (by decide +kernel) rfl rfl rfl (by decide +kernel)
set_option maxRecDepth 65536 in
theorem w_c18 : (Jvm.Cond.code ({ cls := "com/example/kinegrid/kinegrid/server/Request", name := "readInPlace", desc := "([B[III)V" } : Jvm.MethodName) prog_81_method_3_code (5 : Nat) (Option.none : Option Jvm.ClassFile.FieldType)).before args0 about1 = true := code_word (m := ⟨13, 2⟩) (meth := k13m2) (c := k13c2) (by decide +kernel) rfl rfl rfl (by decide +kernel)
set_option maxRecDepth 65536 in
theorem w_c19 : (Jvm.Cond.code ({ cls := "com/example/kinegrid/kinegrid/server/Request", name := "size", desc := "()I" } : Jvm.MethodName) prog_81_method_8_code (1 : Nat) (Option.some Jvm.ClassFile.FieldType.int)).before args0 about1 = true := code_word (m := ⟨13, 4⟩) (meth := k13m4) (c := k13c4) (by decide +kernel) rfl rfl rfl (by decide +kernel)
set_option maxRecDepth 65536 in
theorem w_c20 : (Jvm.Cond.code ({ cls := "com/example/kinegrid/kinegrid/server/Request", name := "copiedBytes", desc := "()J" } : Jvm.MethodName) prog_81_method_7_code (1 : Nat) (Option.some Jvm.ClassFile.FieldType.long)).before args0 about1 = true := code_word (m := ⟨13, 3⟩) (meth := k13m3) (c := k13c3) (by decide +kernel) rfl rfl rfl (by decide +kernel)
set_option maxRecDepth 65536 in
theorem w_c21 : (Jvm.Cond.code ({ cls := "com/example/kinegrid/kinegrid/server/Request", name := "array", desc := "(I)[B" } : Jvm.MethodName) prog_81_method_11_code (2 : Nat) (Option.some (Jvm.ClassFile.FieldType.array Jvm.ClassFile.FieldType.byte))).before args0 about1 = true := code_word (m := ⟨13, 5⟩) (meth := k13m5) (c := k13c5) (by decide +kernel) rfl rfl rfl (by decide +kernel)
set_option maxRecDepth 65536 in
theorem w_c22 : (Jvm.Cond.code ({ cls := "com/example/kinegrid/kinegrid/server/Request", name := "offset", desc := "(I)I" } : Jvm.MethodName) prog_81_method_12_code (3 : Nat) (Option.some Jvm.ClassFile.FieldType.int)).before args0 about1 = true := code_word (m := ⟨13, 6⟩) (meth := k13m6) (c := k13c6) (by decide +kernel) rfl rfl rfl (by decide +kernel)
set_option maxRecDepth 65536 in
theorem w_c23 : (Jvm.Cond.code ({ cls := "java/util/Objects", name := "checkIndex", desc := "(II)I" } : Jvm.MethodName) jdk_31_method_17_code (2 : Nat) (Option.some Jvm.ClassFile.FieldType.int)).before args0 about1 = true := code_word (m := ⟨16, 1⟩) (meth := k16m1) (c := k16c1) (by decide +kernel) rfl rfl rfl (by decide +kernel)
set_option maxRecDepth 65536 in
theorem w_c24 : (Jvm.Cond.code ({ cls := "jdk/internal/util/Preconditions", name := "checkIndex", desc := "(IILjava/util/function/BiFunction;)I" } : Jvm.MethodName) jdk_41_method_11_code (3 : Nat) (Option.some Jvm.ClassFile.FieldType.int)).before args0 about1 = true := code_word (m := ⟨17, 1⟩) (meth := k17m1) (c := k17c1) (by decide +kernel) rfl rfl rfl (by decide +kernel)
set_option maxRecDepth 65536 in
theorem w_c25 : (Jvm.Cond.code ({ cls := "com/example/kinegrid/kinegrid/server/Request", name := "end", desc := "(I)I" } : Jvm.MethodName) prog_81_method_13_code (3 : Nat) (Option.some Jvm.ClassFile.FieldType.int)).before args0 about1 = true := code_word (m := ⟨13, 7⟩) (meth := k13m7) (c := k13c7) (by decide +kernel) rfl rfl rfl (by decide +kernel)
def codes1 : List Jvm.Cond := [Jvm.Cond.code x code maxLocals ret, Jvm.Cond.code ({ cls := "java/util/ArrayList", name := "<init>", desc := "()V" } : Jvm.MethodName) jdk_38_method_2_code (1 : Nat) (Option.none : Option Jvm.ClassFile.FieldType), Jvm.Cond.code ({ cls := "java/util/AbstractList", name := "<init>", desc := "()V" } : Jvm.MethodName) jdk_39_method_1_code (1 : Nat) (Option.none : Option Jvm.ClassFile.FieldType), Jvm.Cond.code ({ cls := "java/util/AbstractCollection", name := "<init>", desc := "()V" } : Jvm.MethodName) jdk_22_method_1_code (1 : Nat) (Option.none : Option Jvm.ClassFile.FieldType), Jvm.Cond.code ({ cls := "java/lang/Object", name := "<init>", desc := "()V" } : Jvm.MethodName) object_method_1_code (1 : Nat) (Option.none : Option Jvm.ClassFile.FieldType), Jvm.Cond.code ({ cls := "java/util/ArrayList", name := "add", desc := "(Ljava/lang/Object;)Z" } : Jvm.MethodName) jdk_38_method_25_code (2 : Nat) (Option.some Jvm.ClassFile.FieldType.boolean), Jvm.Cond.code ({ cls := "java/util/ArrayList", name := "add", desc := "(Ljava/lang/Object;[Ljava/lang/Object;I)V" } : Jvm.MethodName) jdk_38_method_24_code (4 : Nat) (Option.none : Option Jvm.ClassFile.FieldType), Jvm.Cond.code ({ cls := "java/util/ArrayList", name := "grow", desc := "()[Ljava/lang/Object;" } : Jvm.MethodName) jdk_38_method_7_code (1 : Nat) (Option.some (Jvm.ClassFile.FieldType.array (Jvm.ClassFile.FieldType.object "java/lang/Object"))), Jvm.Cond.code ({ cls := "java/util/ArrayList", name := "grow", desc := "(I)[Ljava/lang/Object;" } : Jvm.MethodName) jdk_38_method_6_code (4 : Nat) (Option.some (Jvm.ClassFile.FieldType.array (Jvm.ClassFile.FieldType.object "java/lang/Object"))), Jvm.Cond.code ({ cls := "java/lang/Math", name := "max", desc := "(II)I" } : Jvm.MethodName) jdk_29_method_65_code (2 : Nat) (Option.some Jvm.ClassFile.FieldType.int), Jvm.Cond.code ({ cls := "com/example/kinegrid/kinegrid/server/Request", name := "of", desc := "(Ljava/util/List;)Lcom/example/kinegrid/kinegrid/server/Request;" } : Jvm.MethodName) prog_81_method_2_code (4 : Nat) (Option.some (Jvm.ClassFile.FieldType.object "com/example/kinegrid/kinegrid/server/Request")), Jvm.Cond.code ({ cls := "com/example/kinegrid/kinegrid/server/Request", name := "<init>", desc := "()V" } : Jvm.MethodName) prog_81_method_1_code (1 : Nat) (Option.none : Option Jvm.ClassFile.FieldType), Jvm.Cond.code ({ cls := "java/util/ArrayList", name := "iterator", desc := "()Ljava/util/Iterator;" } : Jvm.MethodName) jdk_38_method_55_code (1 : Nat) (Option.some (Jvm.ClassFile.FieldType.object "java/util/Iterator")), Jvm.Cond.code ({ cls := "java/util/ArrayList$Itr", name := "<init>", desc := "(Ljava/util/ArrayList;)V" } : Jvm.MethodName) jdk_49_method_1_code (2 : Nat) (Option.none : Option Jvm.ClassFile.FieldType), Jvm.Cond.code ({ cls := "java/util/ArrayList$Itr", name := "hasNext", desc := "()Z" } : Jvm.MethodName) jdk_49_method_2_code (1 : Nat) (Option.some Jvm.ClassFile.FieldType.boolean), Jvm.Cond.code ({ cls := "java/util/ArrayList$Itr", name := "next", desc := "()Ljava/lang/Object;" } : Jvm.MethodName) jdk_49_method_3_code (3 : Nat) (Option.some (Jvm.ClassFile.FieldType.object "java/lang/Object")), Jvm.Cond.code ({ cls := "java/util/ArrayList$Itr", name := "checkForComodification", desc := "()V" } : Jvm.MethodName) jdk_49_method_6_code (1 : Nat) (Option.none : Option Jvm.ClassFile.FieldType), Jvm.Cond.code ({ cls := "java/util/ArrayList", name := "size", desc := "()I" } : Jvm.MethodName) jdk_38_method_8_code (1 : Nat) (Option.some Jvm.ClassFile.FieldType.int), Jvm.Cond.code ({ cls := "com/example/kinegrid/kinegrid/server/Request", name := "readInPlace", desc := "([B[III)V" } : Jvm.MethodName) prog_81_method_3_code (5 : Nat) (Option.none : Option Jvm.ClassFile.FieldType), Jvm.Cond.code ({ cls := "com/example/kinegrid/kinegrid/server/Request", name := "size", desc := "()I" } : Jvm.MethodName) prog_81_method_8_code (1 : Nat) (Option.some Jvm.ClassFile.FieldType.int), Jvm.Cond.code ({ cls := "com/example/kinegrid/kinegrid/server/Request", name := "copiedBytes", desc := "()J" } : Jvm.MethodName) prog_81_method_7_code (1 : Nat) (Option.some Jvm.ClassFile.FieldType.long), Jvm.Cond.code ({ cls := "com/example/kinegrid/kinegrid/server/Request", name := "array", desc := "(I)[B" } : Jvm.MethodName) prog_81_method_11_code (2 : Nat) (Option.some (Jvm.ClassFile.FieldType.array Jvm.ClassFile.FieldType.byte)), Jvm.Cond.code ({ cls := "com/example/kinegrid/kinegrid/server/Request", name := "offset", desc := "(I)I" } : Jvm.MethodName) prog_81_method_12_code (3 : Nat) (Option.some Jvm.ClassFile.FieldType.int), Jvm.Cond.code ({ cls := "java/util/Objects", name := "checkIndex", desc := "(II)I" } : Jvm.MethodName) jdk_31_method_17_code (2 : Nat) (Option.some Jvm.ClassFile.FieldType.int), Jvm.Cond.code ({ cls := "jdk/internal/util/Preconditions", name := "checkIndex", desc := "(IILjava/util/function/BiFunction;)I" } : Jvm.MethodName) jdk_41_method_11_code (3 : Nat) (Option.some Jvm.ClassFile.FieldType.int), Jvm.Cond.code ({ cls := "com/example/kinegrid/kinegrid/server/Request", name := "end", desc := "(I)I" } : Jvm.MethodName) prog_81_method_13_code (3 : Nat) (Option.some Jvm.ClassFile.FieldType.int)]
set_option maxRecDepth 65536 in
theorem codes_eq : words1.filter isCode = codes1 := rfl
theorem w_codes : ∀ c ∈ words1.filter isCode, c.before args0 about1 = true := by
  rw [codes_eq]
  intro c hc
  simp only [codes1, List.mem_cons, List.not_mem_nil, or_false] at hc
  rcases hc with rfl | rfl | rfl | rfl | rfl | rfl | rfl | rfl | rfl | rfl | rfl | rfl | rfl | rfl | rfl | rfl | rfl | rfl | rfl | rfl | rfl | rfl | rfl | rfl | rfl | rfl
  · exact w_c0
  · exact w_c1
  · exact w_c2
  · exact w_c3
  · exact w_c4
  · exact w_c5
  · exact w_c6
  · exact w_c7
  · exact w_c8
  · exact w_c9
  · exact w_c10
  · exact w_c11
  · exact w_c12
  · exact w_c13
  · exact w_c14
  · exact w_c15
  · exact w_c16
  · exact w_c17
  · exact w_c18
  · exact w_c19
  · exact w_c20
  · exact w_c21
  · exact w_c22
  · exact w_c23
  · exact w_c24
  · exact w_c25
set_option maxRecDepth 65536 in
theorem w_t1 : (words1.take 24).all (fun c => isCode c || c.before args0 about1) = true := by decide +kernel
set_option maxRecDepth 65536 in
theorem w_t2 : ((words1.drop 24).take 24).all (fun c => isCode c || c.before args0 about1) = true := by decide +kernel
set_option maxRecDepth 65536 in
theorem w_t3 : (((words1.drop 24).drop 24).take 24).all (fun c => isCode c || c.before args0 about1) = true := by decide +kernel
set_option maxRecDepth 65536 in
theorem w_t4 : ((((words1.drop 24).drop 24).drop 24).take 24).all (fun c => isCode c || c.before args0 about1) = true := by decide +kernel
set_option maxRecDepth 65536 in
theorem w_t5 : (((((words1.drop 24).drop 24).drop 24).drop 24).take 24).all (fun c => isCode c || c.before args0 about1) = true := by decide +kernel
set_option maxRecDepth 65536 in
theorem w_t6 : ((((((words1.drop 24).drop 24).drop 24).drop 24).drop 24).take 24).all (fun c => isCode c || c.before args0 about1) = true := by decide +kernel
set_option maxRecDepth 65536 in
theorem w_t7 : (((((((words1.drop 24).drop 24).drop 24).drop 24).drop 24).drop 24).take 24).all (fun c => isCode c || c.before args0 about1) = true := by decide +kernel
set_option maxRecDepth 65536 in
theorem w_t8 : (((((((words1.drop 24).drop 24).drop 24).drop 24).drop 24).drop 24).drop 24).all (fun c => isCode c || c.before args0 about1) = true := by decide +kernel
theorem w_tables : (allAtoms (Jvm.Cond.code x code maxLocals ret :: tables_1)).before args0 about1 = true := by
  rw [allAtoms_all]
  show words1.all (fun c => c.before args0 about1) = true
  refine all_split ?_ w_codes
  rw [← List.take_append_drop 24 words1, List.all_append, w_t1, ← List.take_append_drop 24 (words1.drop 24), List.all_append, w_t2, ← List.take_append_drop 24 ((words1.drop 24).drop 24), List.all_append, w_t3, ← List.take_append_drop 24 (((words1.drop 24).drop 24).drop 24), List.all_append, w_t4, ← List.take_append_drop 24 ((((words1.drop 24).drop 24).drop 24).drop 24), List.all_append, w_t5, ← List.take_append_drop 24 (((((words1.drop 24).drop 24).drop 24).drop 24).drop 24), List.all_append, w_t6, ← List.take_append_drop 24 ((((((words1.drop 24).drop 24).drop 24).drop 24).drop 24).drop 24), List.all_append, w_t7, w_t8]
  rfl
set_option maxRecDepth 65536 in
theorem w_rest : rest_1_c.before args0 about1 = true := by decide +kernel
set_option maxRecDepth 65536 in
theorem w_case : (Jvm.Cond.and given_1 narrow_1).before args0 about1 = true := by decide +kernel
theorem w_applies : (headSpec (Jvm.Cond.code x code maxLocals ret :: tables_1) room_1).applies x e0.platform about1 = true :=
  (Spec.applies_iff w_frames).mpr ⟨w_running, w_runnable, w_alone, w_named, w_hears, w_ripe, w_room, w_tables⟩
theorem atStart : AtStart classFile x code maxLocals ret World_1 tables_1 room_1 Calls_1 rest_1 Pre_1 launch0 p0 e0 about1 theMethod args0 below0 :=
  ⟨lists_1, trivial, launch0.admits_env _ _ _, launch0.least_env, fairChoices_fair.cas, fairChoices_fair.clock, w_frames, w_args, w_heap, w_applies, trivial, w_rest, w_case⟩
end start1
theorem witness_1 : WitnessClaimed_1 := ⟨start1.p0, start1.e0, start1.about1, start1.theMethod, start1.args0, start1.below0, start1.atStart⟩
end Jvm.Pilot.@@N@@
