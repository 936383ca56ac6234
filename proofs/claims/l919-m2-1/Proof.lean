import JvmDerived
import JvmDerived.Pilot.@@N@@Statement
import JvmDerived.Pilot.@@N@@Code
set_option linter.unusedVariables false
set_option linter.unusedSimpArgs false
namespace Jvm.OwnW
open Sem ClassFile Op Lib Jvm.Stand Jvm.Free Jvm.LawKit Jvm.RoadKit
section K
variable {p : Program} {l : Launch} {e : Env} {R : Room} {s : State} {m : MethodId} {args : Array Value} {below : List Frame} {meth : Method} {c : Code} {Z : State} {bytes : ByteArray} {ml : Nat} {own nm : String} {ret : Option FieldType} {n0 K S K' S' : Nat} {Q : Option Value → Heap → Prop} {h : Heap} {a0 : Array Value}
/-- what is fixed in the walk of one body -/
def Cx (p : Program) (l : Launch) (e : Env) (R : Room) (s : State) (m : MethodId) (args : Array Value) (below : List Frame) (meth : Method) (c : Code) (Z : State) (bytes : ByteArray) (ml : Nat) (own : String) (ret : Option FieldType) (nm : String) : Prop :=
  p.tables.exec = Jvm.exec ∧ Z.Warmed39 s.vm ∧ c.code = bytes ∧ c.maxLocals = ml ∧ s.vm.findClass own = some m.cls ∧ meth.locks = false ∧ meth.sig.returnType = ret ∧ meth.name = nm
/-- the walk stands in T: the heap is h, only new places have been written, at most K cells and S slots are made -/
def Sd (p : Program) (l : Launch) (e : Env) (R : Room) (s : State) (m : MethodId) (args : Array Value) (below : List Frame) (meth : Method) (c : Code) (n0 K S : Nat) (h : Heap) (T : State) : Prop :=
  ∃ locs cells slots, Stand p l e R s m args below meth c T locs cells slots ∧ Fr n0 locs ∧ cells ≤ K ∧ slots ≤ S ∧ T.heap = h
/-- from the frame g in T the body runs to its return, and Q holds of what it returns and of the heap -/
def Done (p : Program) (e : Env) (R : Room) (s : State) (below : List Frame) (n0 : Nat) (Q : Option Value → Heap → Prop) (T : State) (g : JFrame) : Prop :=
  ∃ s₂ v L, Steps p.tables e below (T.setTop g) s₂ ∧ s₂.status = .running ∧ Ended s₂ below (.returned v) ∧ Q v s₂.heap ∧ Fr n0 L ∧ FrameEnd s (.returned v) s₂ L R.cells R.slots
def Go (p : Program) (l : Launch) (e : Env) (R : Room) (s : State) (m : MethodId) (args : Array Value) (below : List Frame) (meth : Method) (c : Code) (n0 : Nat) (Q : Option Value → Heap → Prop) (K S : Nat) (h : Heap) (g : JFrame) : Prop :=
  ∀ T, Sd p l e R s m args below meth c n0 K S h T → Done p e R s below n0 Q T g
/-- the contract of a body at the arguments as and the heap h -/
def Ctr (l : Launch) (Z : State) (y : MethodName) (bytes : ByteArray) (ml : Nat) (ret : Option FieldType) (rm : Room) (as : Array Value) (h : Heap) (n0 : Nat) (Q : Option Value → Heap → Prop) : Prop :=
  ∀ ws : List Jvm.Cond, MetFree l y (head1 (Jvm.Cond.code y bytes ml ret :: ws) rm) (fun a U => a = as ∧ Z.Warmed39 U.vm ∧ U.heap = h) (fun _ _ _ _ _ => True) (fun _ U o U' => ∃ v L, o = .returned v ∧ (Q v U'.heap ∧ Fr n0 L) ∧ FrameEnd U o U' L rm.cells rm.slots)
theorem Ctr.of {y : MethodName} {rm : Room} {as : Array Value} (hn : plainFor y = true)
    (body : ∀ (p : Program) (e : Env) (s : State) (m : MethodId) (below : List Frame) (meth : Method) (c : Code), Cx p l e rm s m as below meth c Z bytes ml y.cls ret y.name → Go p l e rm s m as below meth c n0 Q 0 0 h (entryFrame m as ml)) :
    Ctr l Z y bytes ml ret rm as h n0 Q := by
  intro ws
  refine MetFree.of_bodySF hn hisR ?_
  intro p e s m args below meth c s₁ Bd hml hP hK
  obtain ⟨rfl, hZ, hh⟩ := hP
  have X0 : Stand p l e rm s m args below meth c s₁ [] 0 0 := Stand.of_body Bd
  obtain ⟨s₂, v, L, h1, h2, h3, h4, h5, h6⟩ := body p e s m below meth c ⟨Bd.exec, hZ, Bd.bytes, hml, findClass_of_methodNamed Bd.named, Bd.notSynchronized, Bd.returns, (name_of_methodNamed Bd.named Bd.method).1⟩ s₁ ⟨[], 0, 0, X0, Fr.nil _, Nat.le_refl _, Nat.le_refl _, by rw [← hh, Bd.state]; rfl⟩
  exact ⟨s₂, .returned v, h1, h2, h3, v, L, rfl, ⟨h4, h5⟩, h6⟩
theorem Ctr.mono {y : MethodName} {rm : Room} {as : Array Value} {Q' : Option Value → Heap → Prop} (hC : Ctr l Z y bytes ml ret rm as h n0 Q) (hq : ∀ v h', Q v h' → Q' v h') : Ctr l Z y bytes ml ret rm as h n0 Q' := by
  intro ws p e ha hc hk s m args below hf happ hP hK
  obtain ⟨n, o, h1, h2, h3, v, L, h4, ⟨h5, h6⟩, h7⟩ := hC ws p e ha hc hk s m args below hf happ hP hK
  exact ⟨n, o, h1, h2, h3, v, L, h4, ⟨hq _ _ h5, h6⟩, h7⟩
theorem Go.at {pc : Nat} {Ls : Array Slot} {st st' : List Value} (hst : st = st') (n : Go p l e R s m args below meth c n0 Q K S h (mkF m pc Ls st')) : Go p l e R s m args below meth c n0 Q K S h (mkF m pc Ls st) := hst ▸ n
theorem Go.frame {g g' : JFrame} (hg : g = g') (n : Go p l e R s m args below meth c n0 Q K S h g') : Go p l e R s m args below meth c n0 Q K S h g := hg ▸ n
theorem Go.heap {g : JFrame} {h' : Heap} (hh : h = h') (n : Go p l e R s m args below meth c n0 Q K S h' g) : Go p l e R s m args below meth c n0 Q K S h g := hh ▸ n
theorem Go.by {g g' : JFrame} (hst : ∀ T locs cells slots, Stand p l e R s m args below meth c T locs cells slots → T.heap = h → ∀ target, Steps p.tables e below (T.setTop g') target → Steps p.tables e below (T.setTop g) target) (n : Go p l e R s m args below meth c n0 Q K S h g') : Go p l e R s m args below meth c n0 Q K S h g :=
  fun T ⟨ls, cs, ss, X, r⟩ => by
    obtain ⟨s₂, v, L, h1, h2⟩ := n T ⟨ls, cs, ss, X, r⟩
    exact ⟨s₂, v, L, hst T ls cs ss X r.2.2.2 _ h1, h2⟩
theorem Go.weak {g : JFrame} (hK : K ≤ K') (hS : S ≤ S') (n : Go p l e R s m args below meth c n0 Q K' S' h g) : Go p l e R s m args below meth c n0 Q K S h g := fun T ⟨ls, cs, ss, X, N, a, b, e'⟩ => n T ⟨ls, cs, ss, X, N, Nat.le_trans a hK, Nat.le_trans b hS, e'⟩
/-- a law that hands back a new state over the same heap -/
theorem Go.law {g g' : JFrame} (hst : ∀ T locs cells slots, Stand p l e R s m args below meth c T locs cells slots → T.heap = h → ∃ T', Stand p l e R s m args below meth c T' locs cells slots ∧ T'.heap = h ∧ ∀ target, Steps p.tables e below (T'.setTop g') target → Steps p.tables e below (T.setTop g) target) (n : Go p l e R s m args below meth c n0 Q K S h g') : Go p l e R s m args below meth c n0 Q K S h g :=
  fun T ⟨ls, cs, ss, X, r⟩ => by
    obtain ⟨T', X', e', st⟩ := hst T ls cs ss X r.2.2.2
    obtain ⟨s₂, v, L, h1, h2⟩ := n T' ⟨ls, cs, ss, X', r.1, r.2.1, r.2.2.1, e'⟩
    exact ⟨s₂, v, L, st _ h1, h2⟩
/-- a law that writes one place of a new cell -/
theorem Go.write {g g' : JFrame} {a : Addr} {sl : Nat} {v : Value} (ha : n0 ≤ a) (hst : ∀ T locs cells slots, Stand p l e R s m args below meth c T locs cells slots → T.heap = h → ∃ T' h', Stand p l e R s m args below meth c T' (locs ++ [⟨a, sl⟩]) cells slots ∧ T'.heap = h' ∧ Wr h h' a sl v ∧ ∀ target, Steps p.tables e below (T'.setTop g') target → Steps p.tables e below (T.setTop g) target)
    (n : ∀ h', Wr h h' a sl v → Go p l e R s m args below meth c n0 Q K S h' g') : Go p l e R s m args below meth c n0 Q K S h g :=
  fun T ⟨ls, cs, ss, X, r⟩ => by
    obtain ⟨T', h', X', e', W, st⟩ := hst T ls cs ss X r.2.2.2
    obtain ⟨s₂, v, L, h1, h2⟩ := n h' W T' ⟨_, cs, ss, X', Fr.snoc X' r.1 ha, r.2.1, r.2.2.1, e'⟩
    exact ⟨s₂, v, L, st _ h1, h2⟩
theorem iloadN (C : Cx p l e R s m args below meth c Z bytes ml own ret nm) {pc pc' : Nat} {Ls : Array Slot} {st : List Value} {k : Fin 4} {v : Int32}  (hd : decode bytes pc = .ok (.iload_n k, 1)) (hp : pc + 1 = pc') (hl : Ls[k.val]? = some (.val (.int v))) (n : Go p l e R s m args below meth c n0 Q K S h (mkF m pc' Ls (.int v :: st))) : Go p l e R s m args below meth c n0 Q K S h (mkF m pc Ls st) := by
  subst hp; exact Go.by (g' := (mkF m (pc + 1) Ls (.int v :: st))) (fun T ls cs ss X eT t kt => XS.iloadN X.here C.1 rfl (hb C.2.2.1 hd) hl kt) n
theorem iload (C : Cx p l e R s m args below meth c Z bytes ml own ret nm) {pc pc' : Nat} {Ls : Array Slot} {st : List Value} {k : Nat} {v : Int32}  (hd : decode bytes pc = .ok (.iload k, 2)) (hp : pc + 2 = pc') (hl : Ls[k]? = some (.val (.int v))) (n : Go p l e R s m args below meth c n0 Q K S h (mkF m pc' Ls (.int v :: st))) : Go p l e R s m args below meth c n0 Q K S h (mkF m pc Ls st) := by
  subst hp; exact Go.by (g' := (mkF m (pc + 2) Ls (.int v :: st))) (fun T ls cs ss X eT t kt => XS.iload X.here C.1 rfl (hb C.2.2.1 hd) hl kt) n
theorem istoreN (C : Cx p l e R s m args below meth c Z bytes ml own ret nm) {pc pc' : Nat} {Ls : Array Slot} {st : List Value} {k : Fin 4} {v : Int32} {l' : Array Slot}  (hd : decode bytes pc = .ok (.istore_n k, 1)) (hp : pc + 1 = pc') (hl : storeLocals Ls k.val (.int v) = some l') (n : Go p l e R s m args below meth c n0 Q K S h (mkF m pc' l' st)) : Go p l e R s m args below meth c n0 Q K S h (mkF m pc Ls (.int v :: st)) := by
  subst hp; exact Go.by (g' := (mkF m (pc + 1) l' st)) (fun T ls cs ss X eT t kt => XS.istoreN X.here C.1 rfl (hb C.2.2.1 hd) rfl hl kt) n
theorem istore (C : Cx p l e R s m args below meth c Z bytes ml own ret nm) {pc pc' : Nat} {Ls : Array Slot} {st : List Value} {k : Nat} {v : Int32} {l' : Array Slot}  (hd : decode bytes pc = .ok (.istore k, 2)) (hp : pc + 2 = pc') (hl : storeLocals Ls k (.int v) = some l') (n : Go p l e R s m args below meth c n0 Q K S h (mkF m pc' l' st)) : Go p l e R s m args below meth c n0 Q K S h (mkF m pc Ls (.int v :: st)) := by
  subst hp; exact Go.by (g' := (mkF m (pc + 2) l' st)) (fun T ls cs ss X eT t kt => XS.istore X.here C.1 rfl (hb C.2.2.1 hd) rfl hl kt) n
theorem lloadN (C : Cx p l e R s m args below meth c Z bytes ml own ret nm) {pc pc' : Nat} {Ls : Array Slot} {st : List Value} {k : Fin 4} {v : Int64}  (hd : decode bytes pc = .ok (.lload_n k, 1)) (hp : pc + 1 = pc') (hl : Ls[k.val]? = some (.val (.long v))) (n : Go p l e R s m args below meth c n0 Q K S h (mkF m pc' Ls (.long v :: st))) : Go p l e R s m args below meth c n0 Q K S h (mkF m pc Ls st) := by
  subst hp; exact Go.by (g' := (mkF m (pc + 1) Ls (.long v :: st))) (fun T ls cs ss X eT t kt => XS.lloadN X.here C.1 rfl (hb C.2.2.1 hd) hl kt) n
theorem lload (C : Cx p l e R s m args below meth c Z bytes ml own ret nm) {pc pc' : Nat} {Ls : Array Slot} {st : List Value} {k : Nat} {v : Int64}  (hd : decode bytes pc = .ok (.lload k, 2)) (hp : pc + 2 = pc') (hl : Ls[k]? = some (.val (.long v))) (n : Go p l e R s m args below meth c n0 Q K S h (mkF m pc' Ls (.long v :: st))) : Go p l e R s m args below meth c n0 Q K S h (mkF m pc Ls st) := by
  subst hp; exact Go.by (g' := (mkF m (pc + 2) Ls (.long v :: st))) (fun T ls cs ss X eT t kt => XS.lload X.here C.1 rfl (hb C.2.2.1 hd) hl kt) n
theorem lstoreN (C : Cx p l e R s m args below meth c Z bytes ml own ret nm) {pc pc' : Nat} {Ls : Array Slot} {st : List Value} {k : Fin 4} {v : Int64} {l' : Array Slot}  (hd : decode bytes pc = .ok (.lstore_n k, 1)) (hp : pc + 1 = pc') (hl : storeLocals Ls k.val (.long v) = some l') (n : Go p l e R s m args below meth c n0 Q K S h (mkF m pc' l' st)) : Go p l e R s m args below meth c n0 Q K S h (mkF m pc Ls (.long v :: st)) := by
  subst hp; exact Go.by (g' := (mkF m (pc + 1) l' st)) (fun T ls cs ss X eT t kt => XS.lstoreN X.here C.1 rfl (hb C.2.2.1 hd) rfl hl kt) n
theorem lstore (C : Cx p l e R s m args below meth c Z bytes ml own ret nm) {pc pc' : Nat} {Ls : Array Slot} {st : List Value} {k : Nat} {v : Int64} {l' : Array Slot}  (hd : decode bytes pc = .ok (.lstore k, 2)) (hp : pc + 2 = pc') (hl : storeLocals Ls k (.long v) = some l') (n : Go p l e R s m args below meth c n0 Q K S h (mkF m pc' l' st)) : Go p l e R s m args below meth c n0 Q K S h (mkF m pc Ls (.long v :: st)) := by
  subst hp; exact Go.by (g' := (mkF m (pc + 2) l' st)) (fun T ls cs ss X eT t kt => XS.lstore X.here C.1 rfl (hb C.2.2.1 hd) rfl hl kt) n
theorem aloadN (C : Cx p l e R s m args below meth c Z bytes ml own ret nm) {pc pc' : Nat} {Ls : Array Slot} {st : List Value} {k : Fin 4} {v : Value}  (hd : decode bytes pc = .ok (.aload_n k, 1)) (hp : pc + 1 = pc') (hl : Ls[k.val]? = some (.val v)) (hv : v.isRef = true) (n : Go p l e R s m args below meth c n0 Q K S h (mkF m pc' Ls (v :: st))) : Go p l e R s m args below meth c n0 Q K S h (mkF m pc Ls st) := by
  subst hp; exact Go.by (g' := (mkF m (pc + 1) Ls (v :: st))) (fun T ls cs ss X eT t kt => XS.aloadN X.here C.1 rfl (hb C.2.2.1 hd) hl hv kt) n
theorem aload (C : Cx p l e R s m args below meth c Z bytes ml own ret nm) {pc pc' : Nat} {Ls : Array Slot} {st : List Value} {k : Nat} {v : Value}  (hd : decode bytes pc = .ok (.aload k, 2)) (hp : pc + 2 = pc') (hl : Ls[k]? = some (.val v)) (hv : v.isRef = true) (n : Go p l e R s m args below meth c n0 Q K S h (mkF m pc' Ls (v :: st))) : Go p l e R s m args below meth c n0 Q K S h (mkF m pc Ls st) := by
  subst hp; exact Go.by (g' := (mkF m (pc + 2) Ls (v :: st))) (fun T ls cs ss X eT t kt => XS.aload X.here C.1 rfl (hb C.2.2.1 hd) hl hv kt) n
theorem astoreN (C : Cx p l e R s m args below meth c Z bytes ml own ret nm) {pc pc' : Nat} {Ls : Array Slot} {st : List Value} {k : Fin 4} {v : Value} {l' : Array Slot}  (hd : decode bytes pc = .ok (.astore_n k, 1)) (hp : pc + 1 = pc') (hv : v.isRef = true) (hl : storeLocals Ls k.val v = some l') (n : Go p l e R s m args below meth c n0 Q K S h (mkF m pc' l' st)) : Go p l e R s m args below meth c n0 Q K S h (mkF m pc Ls (v :: st)) := by
  subst hp; exact Go.by (g' := (mkF m (pc + 1) l' st)) (fun T ls cs ss X eT t kt => XS.astoreN X.here C.1 rfl (hb C.2.2.1 hd) rfl hv hl kt) n
theorem astore (C : Cx p l e R s m args below meth c Z bytes ml own ret nm) {pc pc' : Nat} {Ls : Array Slot} {st : List Value} {k : Nat} {v : Value} {l' : Array Slot}  (hd : decode bytes pc = .ok (.astore k, 2)) (hp : pc + 2 = pc') (hv : v.isRef = true) (hl : storeLocals Ls k v = some l') (n : Go p l e R s m args below meth c n0 Q K S h (mkF m pc' l' st)) : Go p l e R s m args below meth c n0 Q K S h (mkF m pc Ls (v :: st)) := by
  subst hp; exact Go.by (g' := (mkF m (pc + 2) l' st)) (fun T ls cs ss X eT t kt => XS.astore X.here C.1 rfl (hb C.2.2.1 hd) rfl hv hl kt) n
theorem istoreS (C : Cx p l e R s m args below meth c Z bytes ml own ret nm) {pc pc' : Nat} {Ls : Array Slot} {st : List Value} {k : Nat} {v : Int32} {o : Slot} {l' : Array Slot}  (hd : decode bytes pc = .ok (.istore k, 2)) (hp : pc + 2 = pc') (ho : Ls[k]? = some o) (h1 : One o) (hl : Ls.setIfInBounds k (.val (.int v)) = l') (n : Go p l e R s m args below meth c n0 Q K S h (mkF m pc' l' st)) : Go p l e R s m args below meth c n0 Q K S h (mkF m pc Ls (.int v :: st)) := by
  subst hp; exact Go.by (g' := (mkF m (pc + 2) l' st)) (fun T ls cs ss X eT t kt => XS.istoreS X.here C.1 rfl (hb C.2.2.1 hd) rfl ho h1 (hl ▸ kt)) n
theorem astoreS (C : Cx p l e R s m args below meth c Z bytes ml own ret nm) {pc pc' : Nat} {Ls : Array Slot} {st : List Value} {k : Nat} {v : Value} {o : Slot} {l' : Array Slot}  (hd : decode bytes pc = .ok (.astore k, 2)) (hp : pc + 2 = pc') (hv : v.isRef = true) (hc : v.category = 1) (ho : Ls[k]? = some o) (h1 : One o) (hl : Ls.setIfInBounds k (.val v) = l') (n : Go p l e R s m args below meth c n0 Q K S h (mkF m pc' l' st)) : Go p l e R s m args below meth c n0 Q K S h (mkF m pc Ls (v :: st)) := by
  subst hp; exact Go.by (g' := (mkF m (pc + 2) l' st)) (fun T ls cs ss X eT t kt => XS.astoreS X.here C.1 rfl (hb C.2.2.1 hd) rfl hv hc ho h1 (hl ▸ kt)) n
theorem iconst (C : Cx p l e R s m args below meth c Z bytes ml own ret nm) {pc pc' : Nat} {Ls : Array Slot} {st : List Value} {i : Int} {z : Int32}  (hd : decode bytes pc = .ok (.iconst i, 1)) (hp : pc + 1 = pc') (hz : Int32.ofInt i = z) (n : Go p l e R s m args below meth c n0 Q K S h (mkF m pc' Ls (.int z :: st))) : Go p l e R s m args below meth c n0 Q K S h (mkF m pc Ls st) := by
  subst hp; exact Go.by (g' := (mkF m (pc + 1) Ls (.int z :: st))) (fun T ls cs ss X eT t kt => XS.iconst X.here C.1 rfl (hb C.2.2.1 hd) (hz ▸ kt)) n
theorem bipush (C : Cx p l e R s m args below meth c Z bytes ml own ret nm) {pc pc' : Nat} {Ls : Array Slot} {st : List Value} {i : Int} {z : Int32}  (hd : decode bytes pc = .ok (.bipush i, 2)) (hp : pc + 2 = pc') (hz : (Int8.ofInt i).toInt32 = z) (n : Go p l e R s m args below meth c n0 Q K S h (mkF m pc' Ls (.int z :: st))) : Go p l e R s m args below meth c n0 Q K S h (mkF m pc Ls st) := by
  subst hp; exact Go.by (g' := (mkF m (pc + 2) Ls (.int z :: st))) (fun T ls cs ss X eT t kt => XS.bipush X.here C.1 rfl (hb C.2.2.1 hd) (hz ▸ kt)) n
theorem sipush (C : Cx p l e R s m args below meth c Z bytes ml own ret nm) {pc pc' : Nat} {Ls : Array Slot} {st : List Value} {i : Int} {z : Int32}  (hd : decode bytes pc = .ok (.sipush i, 3)) (hp : pc + 3 = pc') (hz : (Int16.ofInt i).toInt32 = z) (n : Go p l e R s m args below meth c n0 Q K S h (mkF m pc' Ls (.int z :: st))) : Go p l e R s m args below meth c n0 Q K S h (mkF m pc Ls st) := by
  subst hp; exact Go.by (g' := (mkF m (pc + 3) Ls (.int z :: st))) (fun T ls cs ss X eT t kt => XS.sipush X.here C.1 rfl (hb C.2.2.1 hd) (hz ▸ kt)) n
theorem lconst (C : Cx p l e R s m args below meth c Z bytes ml own ret nm) {pc pc' : Nat} {Ls : Array Slot} {st : List Value} {i : Fin 2} {z : Int64}  (hd : decode bytes pc = .ok (.lconst i, 1)) (hp : pc + 1 = pc') (hz : Int64.ofNat i.val = z) (n : Go p l e R s m args below meth c n0 Q K S h (mkF m pc' Ls (.long z :: st))) : Go p l e R s m args below meth c n0 Q K S h (mkF m pc Ls st) := by
  subst hp; exact Go.by (g' := (mkF m (pc + 1) Ls (.long z :: st))) (fun T ls cs ss X eT t kt => XS.lconst X.here C.1 rfl (hb C.2.2.1 hd) (hz ▸ kt)) n
theorem aconstNull (C : Cx p l e R s m args below meth c Z bytes ml own ret nm) {pc pc' : Nat} {Ls : Array Slot} {st : List Value}  (hd : decode bytes pc = .ok (.aconst_null, 1)) (hp : pc + 1 = pc')  (n : Go p l e R s m args below meth c n0 Q K S h (mkF m pc' Ls (.null :: st))) : Go p l e R s m args below meth c n0 Q K S h (mkF m pc Ls st) := by
  subst hp; exact Go.by (g' := (mkF m (pc + 1) Ls (.null :: st))) (fun T ls cs ss X eT t kt => XS.aconstNull X.here C.1 rfl (hb C.2.2.1 hd) kt) n
theorem iadd (C : Cx p l e R s m args below meth c Z bytes ml own ret nm) {pc pc' : Nat} {Ls : Array Slot} {st : List Value} {x y : Int32} (hd : decode bytes pc = .ok (.iadd, 1)) (hp : pc + 1 = pc')  (n : Go p l e R s m args below meth c n0 Q K S h (mkF m pc' Ls (.int (x + y) :: st))) : Go p l e R s m args below meth c n0 Q K S h (mkF m pc Ls (.int y :: .int x :: st)) := by
  subst hp; exact Go.by (g' := (mkF m (pc + 1) Ls (.int (x + y) :: st))) (fun T ls cs ss X eT t kt => XS.iadd X.here C.1 rfl (hb C.2.2.1 hd) rfl kt) n
theorem isub (C : Cx p l e R s m args below meth c Z bytes ml own ret nm) {pc pc' : Nat} {Ls : Array Slot} {st : List Value} {x y : Int32} (hd : decode bytes pc = .ok (.isub, 1)) (hp : pc + 1 = pc')  (n : Go p l e R s m args below meth c n0 Q K S h (mkF m pc' Ls (.int (x - y) :: st))) : Go p l e R s m args below meth c n0 Q K S h (mkF m pc Ls (.int y :: .int x :: st)) := by
  subst hp; exact Go.by (g' := (mkF m (pc + 1) Ls (.int (x - y) :: st))) (fun T ls cs ss X eT t kt => XS.isub X.here C.1 rfl (hb C.2.2.1 hd) rfl kt) n
theorem imul (C : Cx p l e R s m args below meth c Z bytes ml own ret nm) {pc pc' : Nat} {Ls : Array Slot} {st : List Value} {x y : Int32} (hd : decode bytes pc = .ok (.imul, 1)) (hp : pc + 1 = pc')  (n : Go p l e R s m args below meth c n0 Q K S h (mkF m pc' Ls (.int (x * y) :: st))) : Go p l e R s m args below meth c n0 Q K S h (mkF m pc Ls (.int y :: .int x :: st)) := by
  subst hp; exact Go.by (g' := (mkF m (pc + 1) Ls (.int (x * y) :: st))) (fun T ls cs ss X eT t kt => XS.imul X.here C.1 rfl (hb C.2.2.1 hd) rfl kt) n
theorem iand (C : Cx p l e R s m args below meth c Z bytes ml own ret nm) {pc pc' : Nat} {Ls : Array Slot} {st : List Value} {x y : Int32} (hd : decode bytes pc = .ok (.iand, 1)) (hp : pc + 1 = pc')  (n : Go p l e R s m args below meth c n0 Q K S h (mkF m pc' Ls (.int (x &&& y) :: st))) : Go p l e R s m args below meth c n0 Q K S h (mkF m pc Ls (.int y :: .int x :: st)) := by
  subst hp; exact Go.by (g' := (mkF m (pc + 1) Ls (.int (x &&& y) :: st))) (fun T ls cs ss X eT t kt => XS.iand X.here C.1 rfl (hb C.2.2.1 hd) rfl kt) n
theorem ior (C : Cx p l e R s m args below meth c Z bytes ml own ret nm) {pc pc' : Nat} {Ls : Array Slot} {st : List Value} {x y : Int32} (hd : decode bytes pc = .ok (.ior, 1)) (hp : pc + 1 = pc')  (n : Go p l e R s m args below meth c n0 Q K S h (mkF m pc' Ls (.int (x ||| y) :: st))) : Go p l e R s m args below meth c n0 Q K S h (mkF m pc Ls (.int y :: .int x :: st)) := by
  subst hp; exact Go.by (g' := (mkF m (pc + 1) Ls (.int (x ||| y) :: st))) (fun T ls cs ss X eT t kt => XS.ior X.here C.1 rfl (hb C.2.2.1 hd) rfl kt) n
theorem ixor (C : Cx p l e R s m args below meth c Z bytes ml own ret nm) {pc pc' : Nat} {Ls : Array Slot} {st : List Value} {x y : Int32} (hd : decode bytes pc = .ok (.ixor, 1)) (hp : pc + 1 = pc')  (n : Go p l e R s m args below meth c n0 Q K S h (mkF m pc' Ls (.int (x ^^^ y) :: st))) : Go p l e R s m args below meth c n0 Q K S h (mkF m pc Ls (.int y :: .int x :: st)) := by
  subst hp; exact Go.by (g' := (mkF m (pc + 1) Ls (.int (x ^^^ y) :: st))) (fun T ls cs ss X eT t kt => XS.ixor X.here C.1 rfl (hb C.2.2.1 hd) rfl kt) n
theorem ladd (C : Cx p l e R s m args below meth c Z bytes ml own ret nm) {pc pc' : Nat} {Ls : Array Slot} {st : List Value} {x y : Int64} (hd : decode bytes pc = .ok (.ladd, 1)) (hp : pc + 1 = pc')  (n : Go p l e R s m args below meth c n0 Q K S h (mkF m pc' Ls (.long (x + y) :: st))) : Go p l e R s m args below meth c n0 Q K S h (mkF m pc Ls (.long y :: .long x :: st)) := by
  subst hp; exact Go.by (g' := (mkF m (pc + 1) Ls (.long (x + y) :: st))) (fun T ls cs ss X eT t kt => XS.ladd X.here C.1 rfl (hb C.2.2.1 hd) rfl kt) n
theorem lsub (C : Cx p l e R s m args below meth c Z bytes ml own ret nm) {pc pc' : Nat} {Ls : Array Slot} {st : List Value} {x y : Int64} (hd : decode bytes pc = .ok (.lsub, 1)) (hp : pc + 1 = pc')  (n : Go p l e R s m args below meth c n0 Q K S h (mkF m pc' Ls (.long (x - y) :: st))) : Go p l e R s m args below meth c n0 Q K S h (mkF m pc Ls (.long y :: .long x :: st)) := by
  subst hp; exact Go.by (g' := (mkF m (pc + 1) Ls (.long (x - y) :: st))) (fun T ls cs ss X eT t kt => XS.lsub X.here C.1 rfl (hb C.2.2.1 hd) rfl kt) n
theorem lmul (C : Cx p l e R s m args below meth c Z bytes ml own ret nm) {pc pc' : Nat} {Ls : Array Slot} {st : List Value} {x y : Int64} (hd : decode bytes pc = .ok (.lmul, 1)) (hp : pc + 1 = pc')  (n : Go p l e R s m args below meth c n0 Q K S h (mkF m pc' Ls (.long (x * y) :: st))) : Go p l e R s m args below meth c n0 Q K S h (mkF m pc Ls (.long y :: .long x :: st)) := by
  subst hp; exact Go.by (g' := (mkF m (pc + 1) Ls (.long (x * y) :: st))) (fun T ls cs ss X eT t kt => XS.lmul X.here C.1 rfl (hb C.2.2.1 hd) rfl kt) n
theorem land (C : Cx p l e R s m args below meth c Z bytes ml own ret nm) {pc pc' : Nat} {Ls : Array Slot} {st : List Value} {x y : Int64} (hd : decode bytes pc = .ok (.land, 1)) (hp : pc + 1 = pc')  (n : Go p l e R s m args below meth c n0 Q K S h (mkF m pc' Ls (.long (x &&& y) :: st))) : Go p l e R s m args below meth c n0 Q K S h (mkF m pc Ls (.long y :: .long x :: st)) := by
  subst hp; exact Go.by (g' := (mkF m (pc + 1) Ls (.long (x &&& y) :: st))) (fun T ls cs ss X eT t kt => XS.land X.here C.1 rfl (hb C.2.2.1 hd) rfl kt) n
theorem lor (C : Cx p l e R s m args below meth c Z bytes ml own ret nm) {pc pc' : Nat} {Ls : Array Slot} {st : List Value} {x y : Int64} (hd : decode bytes pc = .ok (.lor, 1)) (hp : pc + 1 = pc')  (n : Go p l e R s m args below meth c n0 Q K S h (mkF m pc' Ls (.long (x ||| y) :: st))) : Go p l e R s m args below meth c n0 Q K S h (mkF m pc Ls (.long y :: .long x :: st)) := by
  subst hp; exact Go.by (g' := (mkF m (pc + 1) Ls (.long (x ||| y) :: st))) (fun T ls cs ss X eT t kt => XS.lor X.here C.1 rfl (hb C.2.2.1 hd) rfl kt) n
theorem lxor (C : Cx p l e R s m args below meth c Z bytes ml own ret nm) {pc pc' : Nat} {Ls : Array Slot} {st : List Value} {x y : Int64} (hd : decode bytes pc = .ok (.lxor, 1)) (hp : pc + 1 = pc')  (n : Go p l e R s m args below meth c n0 Q K S h (mkF m pc' Ls (.long (x ^^^ y) :: st))) : Go p l e R s m args below meth c n0 Q K S h (mkF m pc Ls (.long y :: .long x :: st)) := by
  subst hp; exact Go.by (g' := (mkF m (pc + 1) Ls (.long (x ^^^ y) :: st))) (fun T ls cs ss X eT t kt => XS.lxor X.here C.1 rfl (hb C.2.2.1 hd) rfl kt) n
theorem ishl (C : Cx p l e R s m args below meth c Z bytes ml own ret nm) {pc pc' : Nat} {Ls : Array Slot} {st : List Value} {x y : Int32} (hd : decode bytes pc = .ok (.ishl, 1)) (hp : pc + 1 = pc')  (n : Go p l e R s m args below meth c n0 Q K S h (mkF m pc' Ls (.int (x <<< (y &&& 31)) :: st))) : Go p l e R s m args below meth c n0 Q K S h (mkF m pc Ls (.int y :: .int x :: st)) := by
  subst hp; exact Go.by (g' := (mkF m (pc + 1) Ls (.int (x <<< (y &&& 31)) :: st))) (fun T ls cs ss X eT t kt => XS.ishl X.here C.1 rfl (hb C.2.2.1 hd) rfl kt) n
theorem ishr (C : Cx p l e R s m args below meth c Z bytes ml own ret nm) {pc pc' : Nat} {Ls : Array Slot} {st : List Value} {x y : Int32} (hd : decode bytes pc = .ok (.ishr, 1)) (hp : pc + 1 = pc')  (n : Go p l e R s m args below meth c n0 Q K S h (mkF m pc' Ls (.int (x >>> (y &&& 31)) :: st))) : Go p l e R s m args below meth c n0 Q K S h (mkF m pc Ls (.int y :: .int x :: st)) := by
  subst hp; exact Go.by (g' := (mkF m (pc + 1) Ls (.int (x >>> (y &&& 31)) :: st))) (fun T ls cs ss X eT t kt => XS.ishr X.here C.1 rfl (hb C.2.2.1 hd) rfl kt) n
theorem iushr (C : Cx p l e R s m args below meth c Z bytes ml own ret nm) {pc pc' : Nat} {Ls : Array Slot} {st : List Value} {x y : Int32} (hd : decode bytes pc = .ok (.iushr, 1)) (hp : pc + 1 = pc')  (n : Go p l e R s m args below meth c n0 Q K S h (mkF m pc' Ls (.int ((x.toUInt32 >>> (y &&& 31).toUInt32).toInt32) :: st))) : Go p l e R s m args below meth c n0 Q K S h (mkF m pc Ls (.int y :: .int x :: st)) := by
  subst hp; exact Go.by (g' := (mkF m (pc + 1) Ls (.int ((x.toUInt32 >>> (y &&& 31).toUInt32).toInt32) :: st))) (fun T ls cs ss X eT t kt => XS.iushr X.here C.1 rfl (hb C.2.2.1 hd) rfl kt) n
theorem lshl (C : Cx p l e R s m args below meth c Z bytes ml own ret nm) {pc pc' : Nat} {Ls : Array Slot} {st : List Value} {x : Int64} {y : Int32} (hd : decode bytes pc = .ok (.lshl, 1)) (hp : pc + 1 = pc')  (n : Go p l e R s m args below meth c n0 Q K S h (mkF m pc' Ls (.long (x <<< (y &&& 0x3f).toInt64) :: st))) : Go p l e R s m args below meth c n0 Q K S h (mkF m pc Ls (.int y :: .long x :: st)) := by
  subst hp; exact Go.by (g' := (mkF m (pc + 1) Ls (.long (x <<< (y &&& 0x3f).toInt64) :: st))) (fun T ls cs ss X eT t kt => XS.lshl X.here C.1 rfl (hb C.2.2.1 hd) rfl kt) n
theorem lshr (C : Cx p l e R s m args below meth c Z bytes ml own ret nm) {pc pc' : Nat} {Ls : Array Slot} {st : List Value} {x : Int64} {y : Int32} (hd : decode bytes pc = .ok (.lshr, 1)) (hp : pc + 1 = pc')  (n : Go p l e R s m args below meth c n0 Q K S h (mkF m pc' Ls (.long (x >>> (y &&& 0x3f).toInt64) :: st))) : Go p l e R s m args below meth c n0 Q K S h (mkF m pc Ls (.int y :: .long x :: st)) := by
  subst hp; exact Go.by (g' := (mkF m (pc + 1) Ls (.long (x >>> (y &&& 0x3f).toInt64) :: st))) (fun T ls cs ss X eT t kt => XS.lshr X.here C.1 rfl (hb C.2.2.1 hd) rfl kt) n
theorem lushr (C : Cx p l e R s m args below meth c Z bytes ml own ret nm) {pc pc' : Nat} {Ls : Array Slot} {st : List Value} {x : Int64} {y : Int32} (hd : decode bytes pc = .ok (.lushr, 1)) (hp : pc + 1 = pc')  (n : Go p l e R s m args below meth c n0 Q K S h (mkF m pc' Ls (.long ((x.toUInt64 >>> (y &&& 0x3f).toInt64.toUInt64).toInt64) :: st))) : Go p l e R s m args below meth c n0 Q K S h (mkF m pc Ls (.int y :: .long x :: st)) := by
  subst hp; exact Go.by (g' := (mkF m (pc + 1) Ls (.long ((x.toUInt64 >>> (y &&& 0x3f).toInt64.toUInt64).toInt64) :: st))) (fun T ls cs ss X eT t kt => XS.lushr X.here C.1 rfl (hb C.2.2.1 hd) rfl kt) n
theorem idiv (C : Cx p l e R s m args below meth c Z bytes ml own ret nm) {pc pc' : Nat} {Ls : Array Slot} {st : List Value} {x y : Int32}  (hd : decode bytes pc = .ok (.idiv, 1)) (hp : pc + 1 = pc') (hy : y ≠ 0) (n : Go p l e R s m args below meth c n0 Q K S h (mkF m pc' Ls (.int (x / y) :: st))) : Go p l e R s m args below meth c n0 Q K S h (mkF m pc Ls (.int y :: .int x :: st)) := by
  subst hp; exact Go.by (g' := (mkF m (pc + 1) Ls (.int (x / y) :: st))) (fun T ls cs ss X eT t kt => XS.idiv X.here C.1 rfl (hb C.2.2.1 hd) rfl hy kt) n
theorem irem (C : Cx p l e R s m args below meth c Z bytes ml own ret nm) {pc pc' : Nat} {Ls : Array Slot} {st : List Value} {x y : Int32}  (hd : decode bytes pc = .ok (.irem, 1)) (hp : pc + 1 = pc') (hy : y ≠ 0) (n : Go p l e R s m args below meth c n0 Q K S h (mkF m pc' Ls (.int (x % y) :: st))) : Go p l e R s m args below meth c n0 Q K S h (mkF m pc Ls (.int y :: .int x :: st)) := by
  subst hp; exact Go.by (g' := (mkF m (pc + 1) Ls (.int (x % y) :: st))) (fun T ls cs ss X eT t kt => iremM X C.1 rfl (hb C.2.2.1 hd) rfl hy kt) n
theorem ldiv (C : Cx p l e R s m args below meth c Z bytes ml own ret nm) {pc pc' : Nat} {Ls : Array Slot} {st : List Value} {x y : Int64}  (hd : decode bytes pc = .ok (.ldiv, 1)) (hp : pc + 1 = pc') (hy : y ≠ 0) (n : Go p l e R s m args below meth c n0 Q K S h (mkF m pc' Ls (.long (x / y) :: st))) : Go p l e R s m args below meth c n0 Q K S h (mkF m pc Ls (.long y :: .long x :: st)) := by
  subst hp; exact Go.by (g' := (mkF m (pc + 1) Ls (.long (x / y) :: st))) (fun T ls cs ss X eT t kt => XS.ldiv X.here C.1 rfl (hb C.2.2.1 hd) rfl hy kt) n
theorem ineg (C : Cx p l e R s m args below meth c Z bytes ml own ret nm) {pc pc' : Nat} {Ls : Array Slot} {st : List Value} {x : Int32} (hd : decode bytes pc = .ok (.ineg, 1)) (hp : pc + 1 = pc')  (n : Go p l e R s m args below meth c n0 Q K S h (mkF m pc' Ls (.int (-x) :: st))) : Go p l e R s m args below meth c n0 Q K S h (mkF m pc Ls (.int x :: st)) := by
  subst hp; exact Go.by (g' := (mkF m (pc + 1) Ls (.int (-x) :: st))) (fun T ls cs ss X eT t kt => XS.ineg X.here C.1 rfl (hb C.2.2.1 hd) rfl kt) n
theorem lneg (C : Cx p l e R s m args below meth c Z bytes ml own ret nm) {pc pc' : Nat} {Ls : Array Slot} {st : List Value} {x : Int64} (hd : decode bytes pc = .ok (.lneg, 1)) (hp : pc + 1 = pc')  (n : Go p l e R s m args below meth c n0 Q K S h (mkF m pc' Ls (.long (-x) :: st))) : Go p l e R s m args below meth c n0 Q K S h (mkF m pc Ls (.long x :: st)) := by
  subst hp; exact Go.by (g' := (mkF m (pc + 1) Ls (.long (-x) :: st))) (fun T ls cs ss X eT t kt => XS.lneg X.here C.1 rfl (hb C.2.2.1 hd) rfl kt) n
theorem i2l (C : Cx p l e R s m args below meth c Z bytes ml own ret nm) {pc pc' : Nat} {Ls : Array Slot} {st : List Value} {x : Int32} (hd : decode bytes pc = .ok (.i2l, 1)) (hp : pc + 1 = pc')  (n : Go p l e R s m args below meth c n0 Q K S h (mkF m pc' Ls (.long (x.toInt64) :: st))) : Go p l e R s m args below meth c n0 Q K S h (mkF m pc Ls (.int x :: st)) := by
  subst hp; exact Go.by (g' := (mkF m (pc + 1) Ls (.long (x.toInt64) :: st))) (fun T ls cs ss X eT t kt => XS.i2l X.here C.1 rfl (hb C.2.2.1 hd) rfl kt) n
theorem i2b (C : Cx p l e R s m args below meth c Z bytes ml own ret nm) {pc pc' : Nat} {Ls : Array Slot} {st : List Value} {x : Int32} (hd : decode bytes pc = .ok (.i2b, 1)) (hp : pc + 1 = pc')  (n : Go p l e R s m args below meth c n0 Q K S h (mkF m pc' Ls (.int (x.toInt8.toInt32) :: st))) : Go p l e R s m args below meth c n0 Q K S h (mkF m pc Ls (.int x :: st)) := by
  subst hp; exact Go.by (g' := (mkF m (pc + 1) Ls (.int (x.toInt8.toInt32) :: st))) (fun T ls cs ss X eT t kt => XS.i2b X.here C.1 rfl (hb C.2.2.1 hd) rfl kt) n
theorem i2s (C : Cx p l e R s m args below meth c Z bytes ml own ret nm) {pc pc' : Nat} {Ls : Array Slot} {st : List Value} {x : Int32} (hd : decode bytes pc = .ok (.i2s, 1)) (hp : pc + 1 = pc')  (n : Go p l e R s m args below meth c n0 Q K S h (mkF m pc' Ls (.int (x.toInt16.toInt32) :: st))) : Go p l e R s m args below meth c n0 Q K S h (mkF m pc Ls (.int x :: st)) := by
  subst hp; exact Go.by (g' := (mkF m (pc + 1) Ls (.int (x.toInt16.toInt32) :: st))) (fun T ls cs ss X eT t kt => XS.i2s X.here C.1 rfl (hb C.2.2.1 hd) rfl kt) n
theorem i2c (C : Cx p l e R s m args below meth c Z bytes ml own ret nm) {pc pc' : Nat} {Ls : Array Slot} {st : List Value} {x : Int32} (hd : decode bytes pc = .ok (.i2c, 1)) (hp : pc + 1 = pc')  (n : Go p l e R s m args below meth c n0 Q K S h (mkF m pc' Ls (.int (x.toUInt32.toUInt16.toUInt32.toInt32) :: st))) : Go p l e R s m args below meth c n0 Q K S h (mkF m pc Ls (.int x :: st)) := by
  subst hp; exact Go.by (g' := (mkF m (pc + 1) Ls (.int (x.toUInt32.toUInt16.toUInt32.toInt32) :: st))) (fun T ls cs ss X eT t kt => XS.i2c X.here C.1 rfl (hb C.2.2.1 hd) rfl kt) n
theorem l2i (C : Cx p l e R s m args below meth c Z bytes ml own ret nm) {pc pc' : Nat} {Ls : Array Slot} {st : List Value} {x : Int64} (hd : decode bytes pc = .ok (.l2i, 1)) (hp : pc + 1 = pc')  (n : Go p l e R s m args below meth c n0 Q K S h (mkF m pc' Ls (.int x.toInt32 :: st))) : Go p l e R s m args below meth c n0 Q K S h (mkF m pc Ls (.long x :: st)) := by
  subst hp; exact Go.by (g' := (mkF m (pc + 1) Ls (.int x.toInt32 :: st))) (fun T ls cs ss X eT t kt => XS.l2i X.here C.1 rfl (hb C.2.2.1 hd) rfl kt) n
theorem lcmp (C : Cx p l e R s m args below meth c Z bytes ml own ret nm) {pc pc' : Nat} {Ls : Array Slot} {st : List Value} {x y : Int64} (hd : decode bytes pc = .ok (.lcmp, 1)) (hp : pc + 1 = pc')  (n : Go p l e R s m args below meth c n0 Q K S h (mkF m pc' Ls (.int (lcmpW x y) :: st))) : Go p l e R s m args below meth c n0 Q K S h (mkF m pc Ls (.long y :: .long x :: st)) := by
  subst hp; exact Go.by (g' := (mkF m (pc + 1) Ls (.int (lcmpW x y) :: st))) (fun T ls cs ss X eT t kt => XS.lcmp X.here C.1 rfl (hb C.2.2.1 hd) rfl kt) n
theorem iinc (C : Cx p l e R s m args below meth c Z bytes ml own ret nm) {pc pc' : Nat} {Ls : Array Slot} {st : List Value} {k : Nat} {i : Int} {x : Int32} {l' : Array Slot}  (hd : decode bytes pc = .ok (.iinc k i, 3)) (hp : pc + 3 = pc') (hl : Ls[k]? = some (.val (.int x))) (hl' : storeLocals Ls k (.int (x + Int32.ofInt i)) = some l') (n : Go p l e R s m args below meth c n0 Q K S h (mkF m pc' l' st)) : Go p l e R s m args below meth c n0 Q K S h (mkF m pc Ls st) := by
  subst hp; exact Go.by (g' := (mkF m (pc + 3) l' st)) (fun T ls cs ss X eT t kt => XS.iinc X.here C.1 rfl (hb C.2.2.1 hd) hl hl' kt) n
theorem dup (C : Cx p l e R s m args below meth c Z bytes ml own ret nm) {pc pc' : Nat} {Ls : Array Slot} {st : List Value} {x : Value}  (hd : decode bytes pc = .ok (.dup, 1)) (hp : pc + 1 = pc') (hc : x.category = 1) (n : Go p l e R s m args below meth c n0 Q K S h (mkF m pc' Ls (x :: x :: st))) : Go p l e R s m args below meth c n0 Q K S h (mkF m pc Ls (x :: st)) := by
  subst hp; exact Go.by (g' := (mkF m (pc + 1) Ls (x :: x :: st))) (fun T ls cs ss X eT t kt => XS.dup X.here C.1 rfl (hb C.2.2.1 hd) rfl hc kt) n
theorem pop (C : Cx p l e R s m args below meth c Z bytes ml own ret nm) {pc pc' : Nat} {Ls : Array Slot} {st : List Value} {x : Value}  (hd : decode bytes pc = .ok (.pop, 1)) (hp : pc + 1 = pc') (hc : x.category = 1) (n : Go p l e R s m args below meth c n0 Q K S h (mkF m pc' Ls st)) : Go p l e R s m args below meth c n0 Q K S h (mkF m pc Ls (x :: st)) := by
  subst hp; exact Go.by (g' := (mkF m (pc + 1) Ls st)) (fun T ls cs ss X eT t kt => XS.pop X.here C.1 rfl (hb C.2.2.1 hd) rfl hc kt) n
theorem dupX1 (C : Cx p l e R s m args below meth c Z bytes ml own ret nm) {pc pc' : Nat} {Ls : Array Slot} {st : List Value} {x y : Value}  (hd : decode bytes pc = .ok (.dup_x1, 1)) (hp : pc + 1 = pc') (hc : x.category = 1) (hc' : y.category = 1) (n : Go p l e R s m args below meth c n0 Q K S h (mkF m pc' Ls (x :: y :: x :: st))) : Go p l e R s m args below meth c n0 Q K S h (mkF m pc Ls (x :: y :: st)) := by
  subst hp; exact Go.by (g' := (mkF m (pc + 1) Ls (x :: y :: x :: st))) (fun T ls cs ss X eT t kt => XS.dupX1 X.here C.1 rfl (hb C.2.2.1 hd) rfl hc hc' kt) n
theorem dloadN (C : Cx p l e R s m args below meth c Z bytes ml own ret nm) {pc pc' : Nat} {Ls : Array Slot} {st : List Value} {k : Fin 4} {v : UInt64}  (hd : decode bytes pc = .ok (.dload_n k, 1)) (hp : pc + 1 = pc') (hl : Ls[k.val]? = some (.val (.double v))) (n : Go p l e R s m args below meth c n0 Q K S h (mkF m pc' Ls (.double v :: st))) : Go p l e R s m args below meth c n0 Q K S h (mkF m pc Ls st) := by
  subst hp; exact Go.by (g' := (mkF m (pc + 1) Ls (.double v :: st))) (fun T ls cs ss X eT t kt => XS.dloadN X.here C.1 rfl (hb C.2.2.1 hd) hl kt) n
theorem dload (C : Cx p l e R s m args below meth c Z bytes ml own ret nm) {pc pc' : Nat} {Ls : Array Slot} {st : List Value} {k : Nat} {v : UInt64}  (hd : decode bytes pc = .ok (.dload k, 2)) (hp : pc + 2 = pc') (hl : Ls[k]? = some (.val (.double v))) (n : Go p l e R s m args below meth c n0 Q K S h (mkF m pc' Ls (.double v :: st))) : Go p l e R s m args below meth c n0 Q K S h (mkF m pc Ls st) := by
  subst hp; exact Go.by (g' := (mkF m (pc + 2) Ls (.double v :: st))) (fun T ls cs ss X eT t kt => XS.dload X.here C.1 rfl (hb C.2.2.1 hd) hl kt) n
theorem i2d (C : Cx p l e R s m args below meth c Z bytes ml own ret nm) {pc pc' : Nat} {Ls : Array Slot} {st : List Value} {x : Int32} (hd : decode bytes pc = .ok (.i2d, 1)) (hp : pc + 1 = pc')  (n : Go p l e R s m args below meth c n0 Q K S h (mkF m pc' Ls (.double (FP.i2d x) :: st))) : Go p l e R s m args below meth c n0 Q K S h (mkF m pc Ls (.int x :: st)) := by
  subst hp; exact Go.by (g' := (mkF m (pc + 1) Ls (.double (FP.i2d x) :: st))) (fun T ls cs ss X eT t kt => XS.i2dS X.here C.1 rfl (hb C.2.2.1 hd) rfl rfl kt) n
theorem ddiv (C : Cx p l e R s m args below meth c Z bytes ml own ret nm) {pc pc' : Nat} {Ls : Array Slot} {st : List Value} {x y v : UInt64}  (hd : decode bytes pc = .ok (.ddiv, 1)) (hp : pc + 1 = pc') (hn : Jvm.Free.Fl.NoNaN64 (FP.ddiv x y)) (hv : FP.ddiv x y = v) (n : Go p l e R s m args below meth c n0 Q K S h (mkF m pc' Ls (.double v :: st))) : Go p l e R s m args below meth c n0 Q K S h (mkF m pc Ls (.double y :: .double x :: st)) := by
  subst hp; exact Go.by (g' := (mkF m (pc + 1) Ls (.double v :: st))) (fun T ls cs ss X eT t kt => XS.ddivS X.here C.1 rfl (hb C.2.2.1 hd) rfl hn hv kt) n
theorem dcmp (C : Cx p l e R s m args below meth c Z bytes ml own ret nm) {pc pc' : Nat} {Ls : Array Slot} {st : List Value} {x y : UInt64} {o : CmpOp} {v : Int32}  (hd : decode bytes pc = .ok (.dcmp o, 1)) (hp : pc + 1 = pc') (hv : cmpValue (FP.dcmp x y) o = v) (n : Go p l e R s m args below meth c n0 Q K S h (mkF m pc' Ls (.int v :: st))) : Go p l e R s m args below meth c n0 Q K S h (mkF m pc Ls (.double y :: .double x :: st)) := by
  subst hp; exact Go.by (g' := (mkF m (pc + 1) Ls (.int v :: st))) (fun T ls cs ss X eT t kt => XS.dcmpS X.here C.1 rfl (hb C.2.2.1 hd) rfl hv kt) n
theorem goto (C : Cx p l e R s m args below meth c Z bytes ml own ret nm) {pc pc' : Nat} {Ls : Array Slot} {st : List Value} {o : Int} (hd : decode bytes pc = .ok (.goto o, 3)) (ho : 0 ≤ (pc : Int) + o) (hp : ((pc : Int) + o).toNat = pc') (n : Go p l e R s m args below meth c n0 Q K S h (mkF m pc' Ls st)) : Go p l e R s m args below meth c n0 Q K S h (mkF m pc Ls st) :=
  Go.by (fun T ls cs ss X eT t kt => XS.goto X.here C.1 rfl rfl (hb C.2.2.1 hd) ho hp kt) n
theorem ifG (C : Cx p l e R s m args below meth c Z bytes ml own ret nm) {pc pcY pcN : Nat} {Ls : Array Slot} {st : List Value} {cd : ClassFile.Cond} {o : Int} {x : Int32} (hd : decode bytes pc = .ok (.ifCond cd o, 3)) (ho : 0 ≤ (pc : Int) + o) (hp : ((pc : Int) + o).toNat = pcY) (hp' : pc + 3 = pcN) (ny : ifCond.holds cd x = true → Go p l e R s m args below meth c n0 Q K S h (mkF m pcY Ls st)) (nn : ifCond.holds cd x = false → Go p l e R s m args below meth c n0 Q K S h (mkF m pcN Ls st)) : Go p l e R s m args below meth c n0 Q K S h (mkF m pc Ls (.int x :: st)) := by
  subst hp'
  cases hc : ifCond.holds cd x
  · exact Go.by (g' := (mkF m (pc + 3) Ls st)) (fun T ls cs ss X eT t kt => XS.ifNo X.here C.1 rfl (hb C.2.2.1 hd) rfl hc kt) (nn hc)
  · exact Go.by (fun T ls cs ss X eT t kt => XS.ifYes X.here C.1 rfl rfl (hb C.2.2.1 hd) rfl hc ho hp kt) (ny hc)
theorem icmpG (C : Cx p l e R s m args below meth c Z bytes ml own ret nm) {pc pcY pcN : Nat} {Ls : Array Slot} {st : List Value} {cd : ClassFile.Cond} {o : Int} {x y : Int32} (hd : decode bytes pc = .ok (.if_icmp cd o, 3)) (ho : 0 ≤ (pc : Int) + o) (hp : ((pc : Int) + o).toNat = pcY) (hp' : pc + 3 = pcN) (ny : if_icmp.holds cd x y = true → Go p l e R s m args below meth c n0 Q K S h (mkF m pcY Ls st)) (nn : if_icmp.holds cd x y = false → Go p l e R s m args below meth c n0 Q K S h (mkF m pcN Ls st)) : Go p l e R s m args below meth c n0 Q K S h (mkF m pc Ls (.int y :: .int x :: st)) := by
  subst hp'
  cases hc : if_icmp.holds cd x y
  · exact Go.by (g' := (mkF m (pc + 3) Ls st)) (fun T ls cs ss X eT t kt => XS.icmpNo X.here C.1 rfl (hb C.2.2.1 hd) rfl hc kt) (nn hc)
  · exact Go.by (fun T ls cs ss X eT t kt => XS.icmpYes X.here C.1 rfl rfl (hb C.2.2.1 hd) rfl hc ho hp kt) (ny hc)
theorem ifEq (C : Cx p l e R s m args below meth c Z bytes ml own ret nm) {pc pcY pcN : Nat} {Ls : Array Slot} {st : List Value} {o : Int} {x : Int32} (hd : decode bytes pc = .ok (.ifCond .eq o, 3)) (ho : 0 ≤ (pc : Int) + o) (hp : ((pc : Int) + o).toNat = pcY) (hp' : pc + 3 = pcN) (ny : x = 0 → Go p l e R s m args below meth c n0 Q K S h (mkF m pcY Ls st)) (nn : ¬ x = 0 → Go p l e R s m args below meth c n0 Q K S h (mkF m pcN Ls st)) : Go p l e R s m args below meth c n0 Q K S h (mkF m pc Ls (.int x :: st)) := by
  by_cases hq : x = 0
  · exact ifG C hd ho hp hp' (fun hc => ny hq) (fun hc => absurd (hc.symm.trans ((if0 _ _).trans (teq hq).1)) (by decide))
  · exact ifG C hd ho hp hp' (fun hc => absurd (hc.symm.trans ((if0 _ _).trans (feq hq).1)) (by decide)) (fun hc => nn hq)
theorem icEq (C : Cx p l e R s m args below meth c Z bytes ml own ret nm) {pc pcY pcN : Nat} {Ls : Array Slot} {st : List Value} {o : Int} {x y : Int32} (hd : decode bytes pc = .ok (.if_icmp .eq o, 3)) (ho : 0 ≤ (pc : Int) + o) (hp : ((pc : Int) + o).toNat = pcY) (hp' : pc + 3 = pcN) (ny : x = y → Go p l e R s m args below meth c n0 Q K S h (mkF m pcY Ls st)) (nn : ¬ x = y → Go p l e R s m args below meth c n0 Q K S h (mkF m pcN Ls st)) : Go p l e R s m args below meth c n0 Q K S h (mkF m pc Ls (.int y :: .int x :: st)) := by
  by_cases hq : x = y
  · exact icmpG C hd ho hp hp' (fun hc => ny hq) (fun hc => absurd (hc.symm.trans ((teq hq).1)) (by decide))
  · exact icmpG C hd ho hp hp' (fun hc => absurd (hc.symm.trans ((feq hq).1)) (by decide)) (fun hc => nn hq)
theorem ifNe (C : Cx p l e R s m args below meth c Z bytes ml own ret nm) {pc pcY pcN : Nat} {Ls : Array Slot} {st : List Value} {o : Int} {x : Int32} (hd : decode bytes pc = .ok (.ifCond .ne o, 3)) (ho : 0 ≤ (pc : Int) + o) (hp : ((pc : Int) + o).toNat = pcY) (hp' : pc + 3 = pcN) (ny : ¬ x = 0 → Go p l e R s m args below meth c n0 Q K S h (mkF m pcY Ls st)) (nn : x = 0 → Go p l e R s m args below meth c n0 Q K S h (mkF m pcN Ls st)) : Go p l e R s m args below meth c n0 Q K S h (mkF m pc Ls (.int x :: st)) := by
  by_cases hq : x = 0
  · exact ifG C hd ho hp hp' (fun hc => absurd (hc.symm.trans ((if0 _ _).trans (teq hq).2)) (by decide)) (fun hc => nn hq)
  · exact ifG C hd ho hp hp' (fun hc => ny hq) (fun hc => absurd (hc.symm.trans ((if0 _ _).trans (feq hq).2)) (by decide))
theorem icNe (C : Cx p l e R s m args below meth c Z bytes ml own ret nm) {pc pcY pcN : Nat} {Ls : Array Slot} {st : List Value} {o : Int} {x y : Int32} (hd : decode bytes pc = .ok (.if_icmp .ne o, 3)) (ho : 0 ≤ (pc : Int) + o) (hp : ((pc : Int) + o).toNat = pcY) (hp' : pc + 3 = pcN) (ny : ¬ x = y → Go p l e R s m args below meth c n0 Q K S h (mkF m pcY Ls st)) (nn : x = y → Go p l e R s m args below meth c n0 Q K S h (mkF m pcN Ls st)) : Go p l e R s m args below meth c n0 Q K S h (mkF m pc Ls (.int y :: .int x :: st)) := by
  by_cases hq : x = y
  · exact icmpG C hd ho hp hp' (fun hc => absurd (hc.symm.trans ((teq hq).2)) (by decide)) (fun hc => nn hq)
  · exact icmpG C hd ho hp hp' (fun hc => ny hq) (fun hc => absurd (hc.symm.trans ((feq hq).2)) (by decide))
theorem ifLt (C : Cx p l e R s m args below meth c Z bytes ml own ret nm) {pc pcY pcN : Nat} {Ls : Array Slot} {st : List Value} {o : Int} {x : Int32} (hd : decode bytes pc = .ok (.ifCond .lt o, 3)) (ho : 0 ≤ (pc : Int) + o) (hp : ((pc : Int) + o).toNat = pcY) (hp' : pc + 3 = pcN) (ny : x < 0 → Go p l e R s m args below meth c n0 Q K S h (mkF m pcY Ls st)) (nn : ¬ x < 0 → Go p l e R s m args below meth c n0 Q K S h (mkF m pcN Ls st)) : Go p l e R s m args below meth c n0 Q K S h (mkF m pc Ls (.int x :: st)) := by
  by_cases hq : x < 0
  · exact ifG C hd ho hp hp' (fun hc => ny hq) (fun hc => absurd (hc.symm.trans ((if0 _ _).trans (tlt hq).1)) (by decide))
  · exact ifG C hd ho hp hp' (fun hc => absurd (hc.symm.trans ((if0 _ _).trans (flt hq).1)) (by decide)) (fun hc => nn hq)
theorem icLt (C : Cx p l e R s m args below meth c Z bytes ml own ret nm) {pc pcY pcN : Nat} {Ls : Array Slot} {st : List Value} {o : Int} {x y : Int32} (hd : decode bytes pc = .ok (.if_icmp .lt o, 3)) (ho : 0 ≤ (pc : Int) + o) (hp : ((pc : Int) + o).toNat = pcY) (hp' : pc + 3 = pcN) (ny : x < y → Go p l e R s m args below meth c n0 Q K S h (mkF m pcY Ls st)) (nn : ¬ x < y → Go p l e R s m args below meth c n0 Q K S h (mkF m pcN Ls st)) : Go p l e R s m args below meth c n0 Q K S h (mkF m pc Ls (.int y :: .int x :: st)) := by
  by_cases hq : x < y
  · exact icmpG C hd ho hp hp' (fun hc => ny hq) (fun hc => absurd (hc.symm.trans ((tlt hq).1)) (by decide))
  · exact icmpG C hd ho hp hp' (fun hc => absurd (hc.symm.trans ((flt hq).1)) (by decide)) (fun hc => nn hq)
theorem ifGe (C : Cx p l e R s m args below meth c Z bytes ml own ret nm) {pc pcY pcN : Nat} {Ls : Array Slot} {st : List Value} {o : Int} {x : Int32} (hd : decode bytes pc = .ok (.ifCond .ge o, 3)) (ho : 0 ≤ (pc : Int) + o) (hp : ((pc : Int) + o).toNat = pcY) (hp' : pc + 3 = pcN) (ny : ¬ x < 0 → Go p l e R s m args below meth c n0 Q K S h (mkF m pcY Ls st)) (nn : x < 0 → Go p l e R s m args below meth c n0 Q K S h (mkF m pcN Ls st)) : Go p l e R s m args below meth c n0 Q K S h (mkF m pc Ls (.int x :: st)) := by
  by_cases hq : x < 0
  · exact ifG C hd ho hp hp' (fun hc => absurd (hc.symm.trans ((if0 _ _).trans (tlt hq).2.1)) (by decide)) (fun hc => nn hq)
  · exact ifG C hd ho hp hp' (fun hc => ny hq) (fun hc => absurd (hc.symm.trans ((if0 _ _).trans (flt hq).2.1)) (by decide))
theorem icGe (C : Cx p l e R s m args below meth c Z bytes ml own ret nm) {pc pcY pcN : Nat} {Ls : Array Slot} {st : List Value} {o : Int} {x y : Int32} (hd : decode bytes pc = .ok (.if_icmp .ge o, 3)) (ho : 0 ≤ (pc : Int) + o) (hp : ((pc : Int) + o).toNat = pcY) (hp' : pc + 3 = pcN) (ny : ¬ x < y → Go p l e R s m args below meth c n0 Q K S h (mkF m pcY Ls st)) (nn : x < y → Go p l e R s m args below meth c n0 Q K S h (mkF m pcN Ls st)) : Go p l e R s m args below meth c n0 Q K S h (mkF m pc Ls (.int y :: .int x :: st)) := by
  by_cases hq : x < y
  · exact icmpG C hd ho hp hp' (fun hc => absurd (hc.symm.trans ((tlt hq).2.1)) (by decide)) (fun hc => nn hq)
  · exact icmpG C hd ho hp hp' (fun hc => ny hq) (fun hc => absurd (hc.symm.trans ((flt hq).2.1)) (by decide))
theorem ifGt (C : Cx p l e R s m args below meth c Z bytes ml own ret nm) {pc pcY pcN : Nat} {Ls : Array Slot} {st : List Value} {o : Int} {x : Int32} (hd : decode bytes pc = .ok (.ifCond .gt o, 3)) (ho : 0 ≤ (pc : Int) + o) (hp : ((pc : Int) + o).toNat = pcY) (hp' : pc + 3 = pcN) (ny : 0 < x → Go p l e R s m args below meth c n0 Q K S h (mkF m pcY Ls st)) (nn : ¬ 0 < x → Go p l e R s m args below meth c n0 Q K S h (mkF m pcN Ls st)) : Go p l e R s m args below meth c n0 Q K S h (mkF m pc Ls (.int x :: st)) := by
  by_cases hq : 0 < x
  · exact ifG C hd ho hp hp' (fun hc => ny hq) (fun hc => absurd (hc.symm.trans ((if0 _ _).trans (tlt hq).2.2.1)) (by decide))
  · exact ifG C hd ho hp hp' (fun hc => absurd (hc.symm.trans ((if0 _ _).trans (flt hq).2.2.1)) (by decide)) (fun hc => nn hq)
theorem icGt (C : Cx p l e R s m args below meth c Z bytes ml own ret nm) {pc pcY pcN : Nat} {Ls : Array Slot} {st : List Value} {o : Int} {x y : Int32} (hd : decode bytes pc = .ok (.if_icmp .gt o, 3)) (ho : 0 ≤ (pc : Int) + o) (hp : ((pc : Int) + o).toNat = pcY) (hp' : pc + 3 = pcN) (ny : y < x → Go p l e R s m args below meth c n0 Q K S h (mkF m pcY Ls st)) (nn : ¬ y < x → Go p l e R s m args below meth c n0 Q K S h (mkF m pcN Ls st)) : Go p l e R s m args below meth c n0 Q K S h (mkF m pc Ls (.int y :: .int x :: st)) := by
  by_cases hq : y < x
  · exact icmpG C hd ho hp hp' (fun hc => ny hq) (fun hc => absurd (hc.symm.trans ((tlt hq).2.2.1)) (by decide))
  · exact icmpG C hd ho hp hp' (fun hc => absurd (hc.symm.trans ((flt hq).2.2.1)) (by decide)) (fun hc => nn hq)
theorem ifLe (C : Cx p l e R s m args below meth c Z bytes ml own ret nm) {pc pcY pcN : Nat} {Ls : Array Slot} {st : List Value} {o : Int} {x : Int32} (hd : decode bytes pc = .ok (.ifCond .le o, 3)) (ho : 0 ≤ (pc : Int) + o) (hp : ((pc : Int) + o).toNat = pcY) (hp' : pc + 3 = pcN) (ny : ¬ 0 < x → Go p l e R s m args below meth c n0 Q K S h (mkF m pcY Ls st)) (nn : 0 < x → Go p l e R s m args below meth c n0 Q K S h (mkF m pcN Ls st)) : Go p l e R s m args below meth c n0 Q K S h (mkF m pc Ls (.int x :: st)) := by
  by_cases hq : 0 < x
  · exact ifG C hd ho hp hp' (fun hc => absurd (hc.symm.trans ((if0 _ _).trans (tlt hq).2.2.2)) (by decide)) (fun hc => nn hq)
  · exact ifG C hd ho hp hp' (fun hc => ny hq) (fun hc => absurd (hc.symm.trans ((if0 _ _).trans (flt hq).2.2.2)) (by decide))
theorem icLe (C : Cx p l e R s m args below meth c Z bytes ml own ret nm) {pc pcY pcN : Nat} {Ls : Array Slot} {st : List Value} {o : Int} {x y : Int32} (hd : decode bytes pc = .ok (.if_icmp .le o, 3)) (ho : 0 ≤ (pc : Int) + o) (hp : ((pc : Int) + o).toNat = pcY) (hp' : pc + 3 = pcN) (ny : ¬ y < x → Go p l e R s m args below meth c n0 Q K S h (mkF m pcY Ls st)) (nn : y < x → Go p l e R s m args below meth c n0 Q K S h (mkF m pcN Ls st)) : Go p l e R s m args below meth c n0 Q K S h (mkF m pc Ls (.int y :: .int x :: st)) := by
  by_cases hq : y < x
  · exact icmpG C hd ho hp hp' (fun hc => absurd (hc.symm.trans ((tlt hq).2.2.2)) (by decide)) (fun hc => nn hq)
  · exact icmpG C hd ho hp hp' (fun hc => ny hq) (fun hc => absurd (hc.symm.trans ((flt hq).2.2.2)) (by decide))
theorem acEq (C : Cx p l e R s m args below meth c Z bytes ml own ret nm) {pc pcY pcN : Nat} {Ls : Array Slot} {st : List Value} {o : Int} {x y : Value} (hx : x.isRef = true) (hy : y.isRef = true) (hd : decode bytes pc = .ok (.if_acmp .eq o, 3)) (ho : 0 ≤ (pc : Int) + o) (hp : ((pc : Int) + o).toNat = pcY) (hp' : pc + 3 = pcN) (ny : x = y → Go p l e R s m args below meth c n0 Q K S h (mkF m pcY Ls st)) (nn : ¬ x = y → Go p l e R s m args below meth c n0 Q K S h (mkF m pcN Ls st)) : Go p l e R s m args below meth c n0 Q K S h (mkF m pc Ls (y :: x :: st)) := by
  by_cases hq : x = y
  · exact Go.by (fun T ls cs ss X eT t kt => Jvm.RoadKit.acmp (g := mkF m pc Ls (y :: x :: st)) X C.1 rfl hx hy (same := true) rfl (hb C.2.2.1 hd) rfl (decide_eq_true hq) ho (by first | (simp [acV]; omega) | (simp [acV, ← hp'])) kt) (ny hq)
  · exact Go.by (fun T ls cs ss X eT t kt => Jvm.RoadKit.acmp (g := mkF m pc Ls (y :: x :: st)) X C.1 rfl hx hy (same := false) rfl (hb C.2.2.1 hd) rfl (decide_eq_false hq) ho (by first | (simp [acV]; omega) | (simp [acV, ← hp'])) kt) (nn hq)
theorem acNe (C : Cx p l e R s m args below meth c Z bytes ml own ret nm) {pc pcY pcN : Nat} {Ls : Array Slot} {st : List Value} {o : Int} {x y : Value} (hx : x.isRef = true) (hy : y.isRef = true) (hd : decode bytes pc = .ok (.if_acmp .ne o, 3)) (ho : 0 ≤ (pc : Int) + o) (hp : ((pc : Int) + o).toNat = pcY) (hp' : pc + 3 = pcN) (ny : ¬ x = y → Go p l e R s m args below meth c n0 Q K S h (mkF m pcY Ls st)) (nn : x = y → Go p l e R s m args below meth c n0 Q K S h (mkF m pcN Ls st)) : Go p l e R s m args below meth c n0 Q K S h (mkF m pc Ls (y :: x :: st)) := by
  by_cases hq : x = y
  · exact Go.by (fun T ls cs ss X eT t kt => Jvm.RoadKit.acmp (g := mkF m pc Ls (y :: x :: st)) X C.1 rfl hx hy (same := true) rfl (hb C.2.2.1 hd) rfl (decide_eq_true hq) ho (by first | (simp [acV]; omega) | (simp [acV, ← hp'])) kt) (nn hq)
  · exact Go.by (fun T ls cs ss X eT t kt => Jvm.RoadKit.acmp (g := mkF m pc Ls (y :: x :: st)) X C.1 rfl hx hy (same := false) rfl (hb C.2.2.1 hd) rfl (decide_eq_false hq) ho (by first | (simp [acV]; omega) | (simp [acV, ← hp'])) kt) (ny hq)
theorem ifnull (C : Cx p l e R s m args below meth c Z bytes ml own ret nm) {pc pcY pcN : Nat} {Ls : Array Slot} {st : List Value} {o : Int} {x : Value} (hx : x.isRef = true) (hd : decode bytes pc = .ok (.ifnull o, 3)) (ho : 0 ≤ (pc : Int) + o) (hp : ((pc : Int) + o).toNat = pcY) (hp' : pc + 3 = pcN) (ny : x = .null → Go p l e R s m args below meth c n0 Q K S h (mkF m pcY Ls st)) (nn : (∃ a, x = .ref a) → Go p l e R s m args below meth c n0 Q K S h (mkF m pcN Ls st)) : Go p l e R s m args below meth c n0 Q K S h (mkF m pc Ls (x :: st)) := by
  subst hp'
  rcases ref_cases hx with rfl | ⟨a, rfl⟩
  · exact Go.by (fun T ls cs ss X eT t kt => XS.ifnullYes X.here C.1 rfl rfl (hb C.2.2.1 hd) rfl ho hp kt) (ny rfl)
  · exact Go.by (g' := (mkF m (pc + 3) Ls st)) (fun T ls cs ss X eT t kt => XS.ifnullNo X.here C.1 rfl (hb C.2.2.1 hd) rfl kt) (nn ⟨a, rfl⟩)
theorem ifnonnull (C : Cx p l e R s m args below meth c Z bytes ml own ret nm) {pc pcY pcN : Nat} {Ls : Array Slot} {st : List Value} {o : Int} {x : Value} (hx : x.isRef = true) (hd : decode bytes pc = .ok (.ifnonnull o, 3)) (ho : 0 ≤ (pc : Int) + o) (hp : ((pc : Int) + o).toNat = pcY) (hp' : pc + 3 = pcN) (ny : (∃ a, x = .ref a) → Go p l e R s m args below meth c n0 Q K S h (mkF m pcY Ls st)) (nn : x = .null → Go p l e R s m args below meth c n0 Q K S h (mkF m pcN Ls st)) : Go p l e R s m args below meth c n0 Q K S h (mkF m pc Ls (x :: st)) := by
  subst hp'
  rcases ref_cases hx with rfl | ⟨a, rfl⟩
  · exact Go.by (g' := (mkF m (pc + 3) Ls st)) (fun T ls cs ss X eT t kt => XS.ifnonnullNo X.here C.1 rfl (hb C.2.2.1 hd) rfl kt) (nn rfl)
  · exact Go.by (fun T ls cs ss X eT t kt => XS.ifnonnullYes X.here C.1 rfl rfl (hb C.2.2.1 hd) rfl ho hp kt) (ny ⟨a, rfl⟩)
theorem tsw (C : Cx p l e R s m args below meth c Z bytes ml own ret nm) {pc pc' : Nat} {Ls : Array Slot} {st : List Value} {dflt low high : Int} {offs : Array Int} {len : Nat} {o : Int} {i : Int32} (hd : decode bytes pc = .ok (.tableswitch dflt low high offs, len)) (hin : ¬ (i.toInt < low ∨ i.toInt > high)) (hoff : offs[(i.toInt - low).toNat]? = some o) (ho : 0 ≤ (pc : Int) + o) (hp : ((pc : Int) + o).toNat = pc') (n : Go p l e R s m args below meth c n0 Q K S h (mkF m pc' Ls st)) : Go p l e R s m args below meth c n0 Q K S h (mkF m pc Ls (.int i :: st)) :=
  Go.by (fun T ls cs ss X eT t kt => XS.tswIn X.here C.1 rfl rfl (hb C.2.2.1 hd) rfl hin hoff ho hp kt) n
theorem tswD (C : Cx p l e R s m args below meth c Z bytes ml own ret nm) {pc pc' : Nat} {Ls : Array Slot} {st : List Value} {dflt low high : Int} {offs : Array Int} {len : Nat} {i : Int32} (hd : decode bytes pc = .ok (.tableswitch dflt low high offs, len)) (hin : i.toInt < low ∨ i.toInt > high) (ho : 0 ≤ (pc : Int) + dflt) (hp : ((pc : Int) + dflt).toNat = pc') (n : Go p l e R s m args below meth c n0 Q K S h (mkF m pc' Ls st)) : Go p l e R s m args below meth c n0 Q K S h (mkF m pc Ls (.int i :: st)) :=
  Go.by (fun T ls cs ss X eT t kt => XS.tswOut X.here C.1 rfl rfl (hb C.2.2.1 hd) rfl hin ho hp kt) n
theorem ldcI (C : Cx p l e R s m args below meth c Z bytes ml own ret nm) {pc pc' : Nat} {Ls : Array Slot} {st : List Value} {index : Nat} {v : Int32}  (hd : decode bytes pc = .ok (.ldc index, 2)) (hp : pc + 2 = pc') (w : (Jvm.Cond.constant own index v).before a0 Z = true) (n : Go p l e R s m args below meth c n0 Q K S h (mkF m pc' Ls (.int v :: st))) : Go p l e R s m args below meth c n0 Q K S h (mkF m pc Ls st) := by
  subst hp; exact Go.by (g' := (mkF m (pc + 2) Ls (.int v :: st))) (fun T ls cs ss X eT t kt => X.ldcInt C.1 C.2.2.2.2.1 (mvT C.2.1 w) (g := (mkF m pc Ls st)) rfl (hb C.2.2.1 hd) t kt) n
theorem ldcwI (C : Cx p l e R s m args below meth c Z bytes ml own ret nm) {pc pc' : Nat} {Ls : Array Slot} {st : List Value} {index : Nat} {v : Int32}  (hd : decode bytes pc = .ok (.ldc_w index, 3)) (hp : pc + 3 = pc') (w : (Jvm.Cond.constant own index v).before a0 Z = true) (n : Go p l e R s m args below meth c n0 Q K S h (mkF m pc' Ls (.int v :: st))) : Go p l e R s m args below meth c n0 Q K S h (mkF m pc Ls st) := by
  subst hp; exact Go.by (g' := (mkF m (pc + 3) Ls (.int v :: st))) (fun T ls cs ss X eT t kt => X.ldcwInt C.1 C.2.2.2.2.1 (mvT C.2.1 w) (g := (mkF m pc Ls st)) rfl (hb C.2.2.1 hd) t kt) n
theorem ldc2L (C : Cx p l e R s m args below meth c Z bytes ml own ret nm) {pc pc' : Nat} {Ls : Array Slot} {st : List Value} {index : Nat} {v : Int64}  (hd : decode bytes pc = .ok (.ldc2_w index, 3)) (hp : pc + 3 = pc') (w : (Jvm.Cond.constantLong own index v).before a0 Z = true) (n : Go p l e R s m args below meth c n0 Q K S h (mkF m pc' Ls (.long v :: st))) : Go p l e R s m args below meth c n0 Q K S h (mkF m pc Ls st) := by
  subst hp; exact Go.by (g' := (mkF m (pc + 3) Ls (.long v :: st))) (fun T ls cs ss X eT t kt => X.ldc2Long C.1 C.2.2.2.2.1 (mvT C.2.1 w) (g := (mkF m pc Ls st)) rfl (hb C.2.2.1 hd) t kt) n
theorem ldc2D (C : Cx p l e R s m args below meth c Z bytes ml own ret nm) {pc pc' : Nat} {Ls : Array Slot} {st : List Value} {index : Nat} {v : UInt64}  (hd : decode bytes pc = .ok (.ldc2_w index, 3)) (hp : pc + 3 = pc') (w : (Jvm.Cond.constantDouble own index v).before a0 Z = true) (n : Go p l e R s m args below meth c n0 Q K S h (mkF m pc' Ls (.double v :: st))) : Go p l e R s m args below meth c n0 Q K S h (mkF m pc Ls st) := by
  subst hp; exact Go.by (g' := (mkF m (pc + 3) Ls (.double v :: st))) (fun T ls cs ss X eT t kt => X.ldc2DoubleC C.1 C.2.2.2.2.1 (mvT C.2.1 w) (g := (mkF m pc Ls st)) rfl (hb C.2.2.1 hd) t kt) n
theorem getS (C : Cx p l e R s m args below meth c Z bytes ml own ret nm) {pc pc' : Nat} {Ls : Array Slot} {st : List Value} {R0 O n d host : String} {index : Nat} (w : (Jvm.Cond.fieldLink own index R0 n d).before a0 Z = true ∨ (Jvm.Cond.fieldLinkNest own index R0 n d host).before a0 Z = true) (via : Via Z R0 O n d) {v : Value} (F : Sta Z h O n d v) (hd : decode bytes pc = .ok (.getstatic index, 3)) (hp : pc + 3 = pc') (k : Go p l e R s m args below meth c n0 Q K S h (mkF m pc' Ls (v :: st))) : Go p l e R s m args below meth c n0 Q K S h (mkF m pc Ls st) := by
  subst hp; exact Go.law (fun T ls cs ss X eT => getS2 X C.1 C.2.1 C.2.2.2.2.1 w via eT F (g := (mkF m pc Ls st)) rfl (hb C.2.2.1 hd)) k
theorem getF (C : Cx p l e R s m args below meth c Z bytes ml own ret nm) {pc pc' : Nat} {Ls : Array Slot} {st : List Value} {R0 O n d host : String} {index : Nat} (w : (Jvm.Cond.fieldLink own index R0 n d).before a0 Z = true ∨ (Jvm.Cond.fieldLinkNest own index R0 n d host).before a0 Z = true) (via : Via Z R0 O n d) {a : Addr} {v : Value} (F : Fld Z h a O n d v) (hd : decode bytes pc = .ok (.getfield index, 3)) (hp : pc + 3 = pc') (k : Go p l e R s m args below meth c n0 Q K S h (mkF m pc' Ls (v :: st))) : Go p l e R s m args below meth c n0 Q K S h (mkF m pc Ls (.ref a :: st)) := by
  subst hp; exact Go.law (fun T ls cs ss X eT => Jvm.RoadKit.getF X C.1 C.2.1 C.2.2.2.2.1 w via eT F (g := (mkF m pc Ls (.ref a :: st))) rfl rfl (hb C.2.2.1 hd)) k
theorem putF (C : Cx p l e R s m args below meth c Z bytes ml own ret nm) {pc pc' : Nat} {Ls : Array Slot} {st : List Value} {R0 O n d host : String} {index : Nat} (w : (Jvm.Cond.fieldLink own index R0 n d).before a0 Z = true ∨ (Jvm.Cond.fieldLinkNest own index R0 n d host).before a0 Z = true) (via : Via Z R0 O n d) {Cn : String} {kk : Nat} {ty : FieldType} {a : Addr} {v old : Value} (F : Fld Z h a O n d old) (E : Exa Z h a Cn) (L : (Jvm.Cond.lays Cn O n d).before a0 Z = true ∨ ((Jvm.Cond.laysFinal Cn O n d).before a0 Z = true ∧ own = O ∧ nm = "<init>")) (wi : (Jvm.Cond.instantiable Cn kk).before a0 Z = true) (hty : parseFieldDescriptor d = some ty) (hn : narrow ty v = v) (hf : fits ty v = true) (ha : n0 ≤ a) (hd : decode bytes pc = .ok (.putfield index, 3)) (hp : pc + 3 = pc') (k : ∀ h', Wr h h' a (Jvm.RoadKit.slotOf Z O n d) v → Go p l e R s m args below meth c n0 Q K S h' (mkF m pc' Ls st)) : Go p l e R s m args below meth c n0 Q K S h (mkF m pc Ls (v :: .ref a :: st)) := by
  subst hp; exact Go.write ha (fun T ls cs ss X eT => Jvm.RoadKit.putF X C.1 C.2.1 C.2.2.2.2.1 w via eT F E (L.imp id fun q => ⟨q.1, q.2.1, C.2.2.2.2.2.2.2.trans q.2.2⟩) wi hty hn hf (g := (mkF m pc Ls (v :: .ref a :: st))) rfl rfl (hb C.2.2.1 hd)) k
theorem castY (C : Cx p l e R s m args below meth c Z bytes ml own ret nm) {pc pc' : Nat} {Ls : Array Slot} {st : List Value} {Kn : String} {index : Nat} (w : (Jvm.Cond.classLink own index Kn).before a0 Z = true) {a : Addr} (F : Ins Z h a Kn true) (hd : decode bytes pc = .ok (.checkcast index, 3)) (hp : pc + 3 = pc') (k : Go p l e R s m args below meth c n0 Q K S h (mkF m pc' Ls (.ref a :: st))) : Go p l e R s m args below meth c n0 Q K S h (mkF m pc Ls (.ref a :: st)) := by
  subst hp; exact Go.law (fun T ls cs ss X eT => Jvm.RoadKit.castY X C.1 C.2.1 C.2.2.2.2.1 w eT F (g := (mkF m pc Ls (.ref a :: st))) rfl rfl (hb C.2.2.1 hd)) k
theorem castNull (C : Cx p l e R s m args below meth c Z bytes ml own ret nm) {pc pc' : Nat} {Ls : Array Slot} {st : List Value} {index : Nat} (hd : decode bytes pc = .ok (.checkcast index, 3)) (hp : pc + 3 = pc') (k : Go p l e R s m args below meth c n0 Q K S h (mkF m pc' Ls (.null :: st))) : Go p l e R s m args below meth c n0 Q K S h (mkF m pc Ls (.null :: st)) := by
  subst hp; exact Go.by (g' := (mkF m (pc + 3) Ls (.null :: st))) (fun T ls cs ss X eT t kt => X.checkcastNull C.1 (g := (mkF m pc Ls (.null :: st))) rfl rfl (hb C.2.2.1 hd) t kt) k
theorem newO (C : Cx p l e R s m args below meth c Z bytes ml own ret nm) {pc pc' : Nat} {Ls : Array Slot} {st : List Value} {Cn : String} {index k : Nat} (w : (Jvm.Cond.classLink own index Cn).before a0 Z = true) (wi : (Jvm.Cond.instantiable Cn k).before a0 Z = true) (wz : (Jvm.Cond.initialized Cn).before a0 Z = true) (hd : decode bytes pc = .ok (.new index, 3)) (hp : pc + 3 = pc') (hK : K + 1 = K') (hS : S + k = S') (hK' : K' ≤ R.cells) (hS' : S' ≤ R.slots)
    (n : ∀ (h' : Heap) (a : Addr), a = h.size → Ext h h' → Exa Z h' a Cn → (∀ {O nm d : String} {ty : FieldType}, Laid Z a0 Cn O nm d → parseFieldDescriptor d = some ty → Fld Z h' a O nm d (defaultValue ty)) → Go p l e R s m args below meth c n0 Q K' S' h' (mkF m pc' Ls (.ref a :: st))) : Go p l e R s m args below meth c n0 Q K S h (mkF m pc Ls st) :=
  fun T ⟨ls, cs, ss, X, N, hc, hs, eT⟩ => by
    subst hp hK hS
    obtain ⟨T', h', X', e', E', A', D', -, st⟩ := Jvm.RoadKit.newO X C.1 C.2.1 C.2.2.2.2.1 w wi wz eT (g := (mkF m pc Ls st)) rfl (hb C.2.2.1 hd) (by omega) (by omega)
    obtain ⟨s₂, v, L, h1, h2⟩ := n h' _ rfl E' A' D' T' ⟨ls, _, _, X', N, by omega, by omega, e'⟩
    exact ⟨s₂, v, L, st _ h1, h2⟩
theorem newP (C : Cx p l e R s m args below meth c Z bytes ml own ret nm) {pc pc' : Nat} {Ls : Array Slot} {st : List Value} {aty : ArrayType} (w : (Jvm.Cond.arrayClass (newarray.typeOf aty)).before a0 Z = true) {i : Int32} {cap : Nat} (hn : ¬ i < 0) (hcap : i.toNatClampNeg ≤ cap) (hb8 : cap * 8 ≤ 536870912) (hd : decode bytes pc = .ok (.newarray aty, 2)) (hp : pc + 2 = pc') (hK : K + 1 = K') (hS : S + cap = S') (hK' : K' ≤ R.cells) (hS' : S' ≤ R.slots)
    (n : ∀ (h' : Heap) (a : Addr) (cA : ClassId), a = h.size → Ext h h' → Arv Z h' a cA (newarray.typeOf aty) i [] (defaultValue (newarray.typeOf aty)) → Go p l e R s m args below meth c n0 Q K' S' h' (mkF m pc' Ls (.ref a :: st))) : Go p l e R s m args below meth c n0 Q K S h (mkF m pc Ls (.int i :: st)) :=
  fun T ⟨ls, cs, ss, X, N, hc, hs, eT⟩ => by
    subst hp hK hS
    obtain ⟨T', h', cA, X', e', E', A', st⟩ := Jvm.RoadKit.newP X C.1 C.2.1 w eT (g := (mkF m pc Ls (.int i :: st))) rfl (hb C.2.2.1 hd) rfl hn hcap hb8 (by omega) (by omega)
    obtain ⟨s₂, v, L, h1, h2⟩ := n h' _ cA rfl E' (Arv.new A' hn) T' ⟨ls, _, _, X', N, by omega, by omega, e'⟩
    exact ⟨s₂, v, L, st _ h1, h2⟩
theorem newR (C : Cx p l e R s m args below meth c Z bytes ml own ret nm) {pc pc' : Nat} {Ls : Array Slot} {st : List Value} {Cn ad : String} {index : Nat} (had : "[" ++ (FieldType.object Cn).toString = ad) (w1 : (Jvm.Cond.classLink own index Cn).before a0 Z = true) (w2 : (Jvm.Cond.arrayOver (.object Cn)).before a0 Z = true) {i : Int32} {cap : Nat} (hn : ¬ i < 0) (hcap : i.toNatClampNeg ≤ cap) (hb8 : cap * 8 ≤ 536870912) (hd : decode bytes pc = .ok (.anewarray index, 3)) (hp : pc + 3 = pc') (hK : K + 1 = K') (hS : S + cap = S') (hK' : K' ≤ R.cells) (hS' : S' ≤ R.slots)
    (n : ∀ (h' : Heap) (a : Addr) (cA : ClassId), a = h.size → Ext h h' → Arv Z h' a cA (.object Cn) i [] .null → Exa Z h' a ad → Ovr Z cA Cn → Go p l e R s m args below meth c n0 Q K' S' h' (mkF m pc' Ls (.ref a :: st))) : Go p l e R s m args below meth c n0 Q K S h (mkF m pc Ls (.int i :: st)) :=
  fun T ⟨ls, cs, ss, X, N, hc, hs, eT⟩ => by
    subst hp hK hS
    obtain ⟨T', h', cA, X', e', E', A', X2, O', st⟩ := Jvm.RoadKit.newRE X C.1 C.2.1 C.2.2.2.2.1 w1 w2 eT (g := (mkF m pc Ls (.int i :: st))) rfl (hb C.2.2.1 hd) rfl hn hcap hb8 (by omega) (by omega) had
    obtain ⟨s₂, v, L, h1, h2⟩ := n h' _ cA rfl E' (Arv.new A' hn) X2 O' T' ⟨ls, _, _, X', N, by omega, by omega, e'⟩
    exact ⟨s₂, v, L, st _ h1, h2⟩
theorem newPE (C : Cx p l e R s m args below meth c Z bytes ml own ret nm) {pc pc' : Nat} {Ls : Array Slot} {st : List Value} {aty : ArrayType} {ad : String} (had : "[" ++ (newarray.typeOf aty).toString = ad) (w : (Jvm.Cond.arrayClass (newarray.typeOf aty)).before a0 Z = true) {i : Int32} {cap : Nat} (hn : ¬ i < 0) (hcap : i.toNatClampNeg ≤ cap) (hb8 : cap * 8 ≤ 536870912) (hd : decode bytes pc = .ok (.newarray aty, 2)) (hp : pc + 2 = pc') (hK : K + 1 = K') (hS : S + cap = S') (hK' : K' ≤ R.cells) (hS' : S' ≤ R.slots)
    (n : ∀ (h' : Heap) (a : Addr) (cA : ClassId), a = h.size → Ext h h' → Arv Z h' a cA (newarray.typeOf aty) i [] (defaultValue (newarray.typeOf aty)) → Exa Z h' a ad → Go p l e R s m args below meth c n0 Q K' S' h' (mkF m pc' Ls (.ref a :: st))) : Go p l e R s m args below meth c n0 Q K S h (mkF m pc Ls (.int i :: st)) :=
  fun T ⟨ls, cs, ss, X, N, hc, hs, eT⟩ => by
    subst hp hK hS
    obtain ⟨T', h', cA, X', e', E', A', X2, st⟩ := Jvm.RoadKit.newPE X C.1 C.2.1 w eT (g := (mkF m pc Ls (.int i :: st))) rfl (hb C.2.2.1 hd) rfl hn hcap hb8 (by omega) (by omega) had
    obtain ⟨s₂, v, L, h1, h2⟩ := n h' _ cA rfl E' (Arv.new A' hn) X2 T' ⟨ls, _, _, X', N, by omega, by omega, e'⟩
    exact ⟨s₂, v, L, st _ h1, h2⟩
theorem newRA (C : Cx p l e R s m args below meth c Z bytes ml own ret nm) {pc pc' : Nat} {Ls : Array Slot} {st : List Value} {Cn ad : String} {ty : FieldType} {index : Nat} (hC : (FieldType.array ty).toString = Cn) (had : "[" ++ Cn = ad) (w1 : (Jvm.Cond.classLink own index Cn).before a0 Z = true) (w2 : (Jvm.Cond.arrayOver (.array ty)).before a0 Z = true) {i : Int32} {cap : Nat} (hn : ¬ i < 0) (hcap : i.toNatClampNeg ≤ cap) (hb8 : cap * 8 ≤ 536870912) (hd : decode bytes pc = .ok (.anewarray index, 3)) (hp : pc + 3 = pc') (hK : K + 1 = K') (hS : S + cap = S') (hK' : K' ≤ R.cells) (hS' : S' ≤ R.slots)
    (n : ∀ (h' : Heap) (a : Addr) (cA : ClassId), a = h.size → Ext h h' → Arv Z h' a cA (.array ty) i [] .null → Exa Z h' a ad → OvrA Z cA ty Cn → Go p l e R s m args below meth c n0 Q K' S' h' (mkF m pc' Ls (.ref a :: st))) : Go p l e R s m args below meth c n0 Q K S h (mkF m pc Ls (.int i :: st)) :=
  fun T ⟨ls, cs, ss, X, N, hc, hs, eT⟩ => by
    subst hp hK hS
    obtain ⟨T', h', cA, X', e', E', A', X2, O', st⟩ := Jvm.RoadKit.newRA X C.1 C.2.1 C.2.2.2.2.1 hC w1 w2 eT (g := (mkF m pc Ls (.int i :: st))) rfl (hb C.2.2.1 hd) rfl hn hcap hb8 (by omega) (by omega) had
    obtain ⟨s₂, v, L, h1, h2⟩ := n h' _ cA rfl E' (Arv.new A' hn) X2 O' T' ⟨ls, _, _, X', N, by omega, by omega, e'⟩
    exact ⟨s₂, v, L, st _ h1, h2⟩
theorem iaload (C : Cx p l e R s m args below meth c Z bytes ml own ret nm) {pc pc' : Nat} {Ls : Array Slot} {st : List Value} {a : Addr} {cA : ClassId} {i j : Int32} {vs : List Value} {dv v : Value} (F : Arv Z h a cA .int i vs dv) (hj : ¬ j < 0 ∧ j < i) (hv : vs.getD j.toNatClampNeg dv = v) (hd : decode bytes pc = .ok (.iaload, 1)) (hp : pc + 1 = pc') (n : Go p l e R s m args below meth c n0 Q K S h (mkF m pc' Ls (v :: st))) : Go p l e R s m args below meth c n0 Q K S h (mkF m pc Ls (.int j :: .ref a :: st)) := by
  subst hp; obtain ⟨cl, A, q1, Sz, q3, H, G⟩ := F
  exact Go.by (g' := (mkF m (pc + 1) Ls (v :: st))) (fun T ls cs ss X eT t kt => X.iaload C.1 (j := j) (v := v) (by rw [eT]; exact A.1) (State.isArrayOf_alike C.2.1.alike A.2.1) A.2.2 (inb_of Sz hj) (H.at (inb_of Sz hj) hv) (g := (mkF m pc Ls (.int j :: .ref a :: st))) rfl rfl (hb C.2.2.1 hd) t kt) n
theorem caload (C : Cx p l e R s m args below meth c Z bytes ml own ret nm) {pc pc' : Nat} {Ls : Array Slot} {st : List Value} {a : Addr} {cA : ClassId} {i j : Int32} {vs : List Value} {dv v : Value} (F : Arv Z h a cA .char i vs dv) (hj : ¬ j < 0 ∧ j < i) (hv : vs.getD j.toNatClampNeg dv = v) (hd : decode bytes pc = .ok (.caload, 1)) (hp : pc + 1 = pc') (n : Go p l e R s m args below meth c n0 Q K S h (mkF m pc' Ls (v :: st))) : Go p l e R s m args below meth c n0 Q K S h (mkF m pc Ls (.int j :: .ref a :: st)) := by
  subst hp; obtain ⟨cl, A, q1, Sz, q3, H, G⟩ := F
  exact Go.by (g' := (mkF m (pc + 1) Ls (v :: st))) (fun T ls cs ss X eT t kt => X.caload C.1 (j := j) (v := v) (by rw [eT]; exact A.1) (State.isArrayOf_alike C.2.1.alike A.2.1) A.2.2 (inb_of Sz hj) (H.at (inb_of Sz hj) hv) (g := (mkF m pc Ls (.int j :: .ref a :: st))) rfl rfl (hb C.2.2.1 hd) t kt) n
theorem baload (C : Cx p l e R s m args below meth c Z bytes ml own ret nm) {pc pc' : Nat} {Ls : Array Slot} {st : List Value} {a : Addr} {cA : ClassId} {i j : Int32} {vs : List Value} {dv v : Value} (F : Arv Z h a cA .byte i vs dv) (hj : ¬ j < 0 ∧ j < i) (hv : vs.getD j.toNatClampNeg dv = v) (hd : decode bytes pc = .ok (.baload, 1)) (hp : pc + 1 = pc') (n : Go p l e R s m args below meth c n0 Q K S h (mkF m pc' Ls (v :: st))) : Go p l e R s m args below meth c n0 Q K S h (mkF m pc Ls (.int j :: .ref a :: st)) := by
  subst hp; obtain ⟨cl, A, q1, Sz, q3, H, G⟩ := F
  exact Go.by (g' := (mkF m (pc + 1) Ls (v :: st))) (fun T ls cs ss X eT t kt => X.baloadBytes C.1 (j := j) (v := v) (by rw [eT]; exact A.1) (State.isArrayOf_alike C.2.1.alike A.2.1) A.2.2 (inb_of Sz hj) (H.at (inb_of Sz hj) hv) (g := (mkF m pc Ls (.int j :: .ref a :: st))) rfl rfl (hb C.2.2.1 hd) t kt) n
theorem laload (C : Cx p l e R s m args below meth c Z bytes ml own ret nm) {pc pc' : Nat} {Ls : Array Slot} {st : List Value} {a : Addr} {cA : ClassId} {i j : Int32} {vs : List Value} {dv v : Value} (F : Arv Z h a cA .long i vs dv) (hj : ¬ j < 0 ∧ j < i) (hv : vs.getD j.toNatClampNeg dv = v) (hd : decode bytes pc = .ok (.laload, 1)) (hp : pc + 1 = pc') (n : Go p l e R s m args below meth c n0 Q K S h (mkF m pc' Ls (v :: st))) : Go p l e R s m args below meth c n0 Q K S h (mkF m pc Ls (.int j :: .ref a :: st)) := by
  subst hp; obtain ⟨cl, A, q1, Sz, q3, H, G⟩ := F
  exact Go.by (g' := (mkF m (pc + 1) Ls (v :: st))) (fun T ls cs ss X eT t kt => X.laload C.1 (j := j) (v := v) (by rw [eT]; exact A.1) (State.isArrayOf_alike C.2.1.alike A.2.1) A.2.2 (inb_of Sz hj) (H.at (inb_of Sz hj) hv) (g := (mkF m pc Ls (.int j :: .ref a :: st))) rfl rfl (hb C.2.2.1 hd) t kt) n
theorem aaload (C : Cx p l e R s m args below meth c Z bytes ml own ret nm) {pc pc' : Nat} {Ls : Array Slot} {st : List Value} {a : Addr} {cA : ClassId} {ty : FieldType} {i j : Int32} {vs : List Value} {dv v : Value} (F : Arv Z h a cA ty i vs dv) (ht : ty.isReference = true) (hj : ¬ j < 0 ∧ j < i) (hv : vs.getD j.toNatClampNeg dv = v) (hd : decode bytes pc = .ok (.aaload, 1)) (hp : pc + 1 = pc') (n : Go p l e R s m args below meth c n0 Q K S h (mkF m pc' Ls (v :: st))) : Go p l e R s m args below meth c n0 Q K S h (mkF m pc Ls (.int j :: .ref a :: st)) := by
  subst hp; obtain ⟨cl, A, q1, Sz, q3, H, G⟩ := F
  exact Go.by (g' := (mkF m (pc + 1) Ls (v :: st))) (fun T ls cs ss X eT t kt => X.aaload C.1 (j := j) (v := v) (by rw [eT]; exact A.1) (State.isArrayOf_alike C.2.1.alike A.2.1) ht A.2.2 (inb_of Sz hj) (H.at (inb_of Sz hj) hv) (g := (mkF m pc Ls (.int j :: .ref a :: st))) rfl rfl (hb C.2.2.1 hd) t kt) n
theorem aaloadA (C : Cx p l e R s m args below meth c Z bytes ml own ret nm) {pc pc' : Nat} {Ls : Array Slot} {st : List Value} {a : Addr} {cl : Cell} {ty : FieldType} {j : Int32} {v : Value} (A : Arr Z h a cl ty) (ht : ty.isReference = true) (hj : ¬ (j < 0 ∨ cl.slots.size ≤ j.toNatClampNeg)) (hv : cl.slots[j.toNatClampNeg]? = some v) (hd : decode bytes pc = .ok (.aaload, 1)) (hp : pc + 1 = pc') (n : Go p l e R s m args below meth c n0 Q K S h (mkF m pc' Ls (v :: st))) : Go p l e R s m args below meth c n0 Q K S h (mkF m pc Ls (.int j :: .ref a :: st)) := by
  subst hp
  exact Go.by (g' := (mkF m (pc + 1) Ls (v :: st))) (fun T ls cs ss X eT t kt => X.aaload C.1 (j := j) (v := v) (by rw [eT]; exact A.1) (State.isArrayOf_alike C.2.1.alike A.2.1) ht A.2.2 hj hv (g := (mkF m pc Ls (.int j :: .ref a :: st))) rfl rfl (hb C.2.2.1 hd) t kt) n
theorem alen (C : Cx p l e R s m args below meth c Z bytes ml own ret nm) {pc pc' : Nat} {Ls : Array Slot} {st : List Value} {a : Addr} {cA : ClassId} {ty : FieldType} {i : Int32} {vs : List Value} {dv : Value} (F : Arv Z h a cA ty i vs dv) (hd : decode bytes pc = .ok (.arraylength, 1)) (hp : pc + 1 = pc') (n : Go p l e R s m args below meth c n0 Q K S h (mkF m pc' Ls (.int i :: st))) : Go p l e R s m args below meth c n0 Q K S h (mkF m pc Ls (.ref a :: st)) := by
  subst hp; obtain ⟨cl, A, q1, Sz, q3, H, G⟩ := F
  exact Go.by (g' := (mkF m (pc + 1) Ls (.int i :: st))) (fun T ls cs ss X eT t kt => X.arraylength C.1 (by rw [eT]; exact A.1) (State.isArrayOf_alike C.2.1.alike A.2.1) (g := (mkF m pc Ls (.ref a :: st))) rfl rfl (hb C.2.2.1 hd) t (by rw [len_of Sz q3]; exact kt)) n
theorem iastore (C : Cx p l e R s m args below meth c Z bytes ml own ret nm) {pc pc' : Nat} {Ls : Array Slot} {st : List Value} {a : Addr} {cA : ClassId} {i j : Int32} {k : Nat} {x : Int32} {vs : List Value} {dv : Value} (F : Arv Z h a cA .int i vs dv) (ha : n0 ≤ a) (hj : ¬ j < 0 ∧ j < i) (hk : j.toNatClampNeg = k) (hlen : k < vs.length) (hd : decode bytes pc = .ok (.iastore, 1)) (hp : pc + 1 = pc') (n : ∀ h', Wr h h' a j.toNatClampNeg (.int x) → Arv Z h' a cA .int i (vs.set k (.int x)) dv → Go p l e R s m args below meth c n0 Q K S h' (mkF m pc' Ls st)) : Go p l e R s m args below meth c n0 Q K S h (mkF m pc Ls (.int x :: .int j :: .ref a :: st)) := by
  subst hp; obtain ⟨cl, A, q1, Sz, q3, H, G⟩ := F
  exact Go.write ha (fun T ls cs ss X eT => stI X C.1 C.2.1 eT A (inb_of Sz hj) (g := (mkF m pc Ls (.int x :: .int j :: .ref a :: st))) rfl rfl (hb C.2.2.1 hd)) (fun h' W => n h' W (Arv.set A q1 Sz q3 H G rfl W k hk hlen))
theorem castore (C : Cx p l e R s m args below meth c Z bytes ml own ret nm) {pc pc' : Nat} {Ls : Array Slot} {st : List Value} {a : Addr} {cA : ClassId} {i j : Int32} {k : Nat} {x : Int32} {vs : List Value} {dv : Value} (F : Arv Z h a cA .char i vs dv) (ha : n0 ≤ a) (hj : ¬ j < 0 ∧ j < i) (hk : j.toNatClampNeg = k) (hlen : k < vs.length) (hd : decode bytes pc = .ok (.castore, 1)) (hp : pc + 1 = pc') (n : ∀ h', Wr h h' a j.toNatClampNeg (.int (nar .char x)) → Arv Z h' a cA .char i (vs.set k (.int (nar .char x))) dv → Go p l e R s m args below meth c n0 Q K S h' (mkF m pc' Ls st)) : Go p l e R s m args below meth c n0 Q K S h (mkF m pc Ls (.int x :: .int j :: .ref a :: st)) := by
  subst hp; obtain ⟨cl, A, q1, Sz, q3, H, G⟩ := F
  exact Go.write ha (fun T ls cs ss X eT => stC X C.1 C.2.1 eT A (inb_of Sz hj) (g := (mkF m pc Ls (.int x :: .int j :: .ref a :: st))) rfl rfl (hb C.2.2.1 hd)) (fun h' W => n h' W (Arv.set A q1 Sz q3 H G (fits_nar_char _) W k hk hlen))
theorem bastore (C : Cx p l e R s m args below meth c Z bytes ml own ret nm) {pc pc' : Nat} {Ls : Array Slot} {st : List Value} {a : Addr} {cA : ClassId} {i j : Int32} {k : Nat} {x : Int32} {vs : List Value} {dv : Value} (F : Arv Z h a cA .byte i vs dv) (ha : n0 ≤ a) (hj : ¬ j < 0 ∧ j < i) (hk : j.toNatClampNeg = k) (hlen : k < vs.length) (hd : decode bytes pc = .ok (.bastore, 1)) (hp : pc + 1 = pc') (n : ∀ h', Wr h h' a j.toNatClampNeg (.int (nar .byte x)) → Arv Z h' a cA .byte i (vs.set k (.int (nar .byte x))) dv → Go p l e R s m args below meth c n0 Q K S h' (mkF m pc' Ls st)) : Go p l e R s m args below meth c n0 Q K S h (mkF m pc Ls (.int x :: .int j :: .ref a :: st)) := by
  subst hp; obtain ⟨cl, A, q1, Sz, q3, H, G⟩ := F
  exact Go.write ha (fun T ls cs ss X eT => stB X C.1 C.2.1 eT A (inb_of Sz hj) (g := (mkF m pc Ls (.int x :: .int j :: .ref a :: st))) rfl rfl (hb C.2.2.1 hd)) (fun h' W => n h' W (Arv.set A q1 Sz q3 H G (fits_nar_byte _) W k hk hlen))
theorem lastore (C : Cx p l e R s m args below meth c Z bytes ml own ret nm) {pc pc' : Nat} {Ls : Array Slot} {st : List Value} {a : Addr} {cA : ClassId} {i j : Int32} {k : Nat} {x : Int64} {vs : List Value} {dv : Value} (F : Arv Z h a cA .long i vs dv) (ha : n0 ≤ a) (hj : ¬ j < 0 ∧ j < i) (hk : j.toNatClampNeg = k) (hlen : k < vs.length) (hd : decode bytes pc = .ok (.lastore, 1)) (hp : pc + 1 = pc') (n : ∀ h', Wr h h' a j.toNatClampNeg (.long x) → Arv Z h' a cA .long i (vs.set k (.long x)) dv → Go p l e R s m args below meth c n0 Q K S h' (mkF m pc' Ls st)) : Go p l e R s m args below meth c n0 Q K S h (mkF m pc Ls (.long x :: .int j :: .ref a :: st)) := by
  subst hp; obtain ⟨cl, A, q1, Sz, q3, H, G⟩ := F
  exact Go.write ha (fun T ls cs ss X eT => stJ X C.1 C.2.1 eT A (inb_of Sz hj) (g := (mkF m pc Ls (.long x :: .int j :: .ref a :: st))) rfl rfl (hb C.2.2.1 hd)) (fun h' W => n h' W (Arv.set A q1 Sz q3 H G rfl W k hk hlen))
theorem aastore (C : Cx p l e R s m args below meth c Z bytes ml own ret nm) {pc pc' : Nat} {Ls : Array Slot} {st : List Value} {a : Addr} {cA : ClassId} {ty : FieldType} {i j : Int32} {k : Nat} {x : Value} {vs : List Value} {dv : Value} (F : Arv Z h a cA ty i vs dv) (ht : ty.isReference = true) (ha : n0 ≤ a) (hj : ¬ j < 0 ∧ j < i) (hk : j.toNatClampNeg = k) (hlen : k < vs.length) (hx : Sto Z h a x) (hf : fits ty x = true) (hd : decode bytes pc = .ok (.aastore, 1)) (hp : pc + 1 = pc') (n : ∀ h', Wr h h' a j.toNatClampNeg x → Arv Z h' a cA ty i (vs.set k x) dv → Go p l e R s m args below meth c n0 Q K S h' (mkF m pc' Ls st)) : Go p l e R s m args below meth c n0 Q K S h (mkF m pc Ls (x :: .int j :: .ref a :: st)) := by
  subst hp; obtain ⟨cl, A, q1, Sz, q3, H, G⟩ := F
  exact Go.write ha (fun T ls cs ss X eT => stR X C.1 C.2.1 eT A (inb_of Sz hj) ht hx (g := (mkF m pc Ls (x :: .int j :: .ref a :: st))) rfl rfl (hb C.2.2.1 hd)) (fun h' W => n h' W (Arv.set A q1 Sz q3 H G hf W k hk hlen))
theorem initO (C : Cx p l e R s m args below meth c Z bytes ml own ret nm) {pc pc' : Nat} {Ls : Array Slot} {st : List Value} {idx : Nat} (w1 : (Jvm.Cond.methodLink own idx Lib.objectInit).before a0 Z = true) (w2 : (Jvm.Cond.instanceMethod Lib.objectInit).before a0 Z = true) (w3 : (Jvm.Cond.code Lib.objectInit ⟨#[0xb1]⟩ 1 none).before a0 Z = true) {a : Addr} (hsz : Ls.size = ml) (hf : 1 ≤ R.frames) {W : Nat} (hW : 2 * 0 + (st.map fun v => v.category).sum ≤ W) (hl : W + 12 ≤ R.locals) (hd : decode bytes pc = .ok (.invokespecial idx, 3)) (hp : pc + 3 = pc') (n : Go p l e R s m args below meth c n0 Q K S h (mkF m pc' Ls st)) : Go p l e R s m args below meth c n0 Q K S h (mkF m pc Ls (.ref a :: st)) := by
  subst hp; exact Go.law (fun T ls cs ss X eT => Jvm.RoadKit.initO X C.1 C.2.1 C.2.2.2.2.1 w1 w2 w3 eT (g := (mkF m pc Ls (.ref a :: st))) rfl (hsz.trans C.2.2.2.1.symm) rfl (hb C.2.2.1 hd) hf hW hl) n
theorem cloneV (C : Cx p l e R s m args below meth c Z bytes ml own ret nm) {pc pc' : Nat} {Ls : Array Slot} {st : List Value} {ad : String} {idx : Nat} (w1 : (Jvm.Cond.methodLink own idx ⟨ad, "clone", "()Ljava/lang/Object;"⟩).before a0 Z = true) (w2 : (Jvm.Cond.sameMethod ad "java/lang/Object" "clone" "()Ljava/lang/Object;").before a0 Z = true) (w3 : (Jvm.Cond.native ⟨"java/lang/Object", "clone", "()Ljava/lang/Object;"⟩).before a0 Z = true)
    (w4 : (Jvm.Cond.instanceMethod ⟨"java/lang/Object", "clone", "()Ljava/lang/Object;"⟩).before a0 Z = true) (w5 : (Jvm.Cond.selects ad ⟨ad, "clone", "()Ljava/lang/Object;"⟩ ⟨"java/lang/Object", "clone", "()Ljava/lang/Object;"⟩).before a0 Z = true) (w6 : (Jvm.Cond.castable ad "java/lang/Cloneable").before a0 Z = true)
    {a : Addr} {cA : ClassId} {ty : FieldType} {i : Int32} {vs : List Value} {dv : Value} (F : Arv Z h a cA ty i vs dv) (E : Exa Z h a ad) (hsz : Ls.size = ml) (hf : 1 ≤ R.frames) {W cap : Nat} (hW : 2 * 0 + (st.map fun v => v.category).sum ≤ W) (hl : W + 14 ≤ R.locals) (hcap : i.toNatClampNeg ≤ cap) (hd : decode bytes pc = .ok (.invokevirtual idx, 3)) (hp : pc + 3 = pc') (hK : K + 1 = K') (hS : S + cap = S') (hK' : K' ≤ R.cells) (hS' : S' ≤ R.slots)
    (n : ∀ (h' : Heap) (b : Addr), b = h.size → Ext h h' → Arv Z h' b cA ty i vs dv → Exa Z h' b ad → Go p l e R s m args below meth c n0 Q K' S' h' (mkF m pc' Ls (.ref b :: st))) : Go p l e R s m args below meth c n0 Q K S h (mkF m pc Ls (.ref a :: st)) :=
  fun T ⟨ls, cs, ss, X, N, hc, hs, eT⟩ => by
    subst hp hK hS
    obtain ⟨T', h', X', e', E', A', X2, st'⟩ := cloneH X C.1 C.2.1 C.2.2.2.2.1 w1 w2 w3 w4 w5 w6 eT F.arh E (g := (mkF m pc Ls (.ref a :: st))) rfl (hsz.trans C.2.2.2.1.symm) rfl (hb C.2.2.1 hd) hf hW hl hcap (by omega) (by omega)
    obtain ⟨s₂, v, L, h1, h2⟩ := n h' _ rfl E' A' X2 T' ⟨ls, _, _, X', N, by omega, by omega, e'⟩
    exact ⟨s₂, v, L, st' _ h1, h2⟩
def Mi (Z : State) (Cn : String) (a : Addr) : Prop := ∃ (c : ClassId) (k : Class), Z.vm.findClass Cn = some c ∧ Z.vm.classes[c]? = some k ∧ k.mirror = some a
theorem ldcMi (C : Cx p l e R s m args below meth c Z bytes ml own ret nm) {pc pc' : Nat} {Ls : Array Slot} {st : List Value} {Cn : String} {index : Nat} {a : Addr} (w : (Jvm.Cond.classLink own index Cn).before a0 Z = true) (M : Mi Z Cn a) (hd : decode bytes pc = .ok (.ldc index, 2)) (hp : pc + 2 = pc') (n : Go p l e R s m args below meth c n0 Q K S h (mkF m pc' Ls (.ref a :: st))) : Go p l e R s m args below meth c n0 Q K S h (mkF m pc Ls st) := by
  subst hp
  have hev : (Term.mirror Cn).eval args s none [] s = some (.ref a) := by
    obtain ⟨c', k, m1, m2, m3⟩ := M
    obtain ⟨k', q, ek⟩ := C.2.1.alike.2.2 _ _ m2
    have m3' : k'.mirror = some a := by rw [ek]; exact m3
    simp [Term.eval, C.2.1.alike.findClass, m1, q, m3']
  exact Go.law (fun T ls cs ss X eT => by
    obtain ⟨vm', X', st'⟩ := X.ldcMirror C.1 C.2.2.2.2.1 (mvT C.2.1 w) hev (g := (mkF m pc Ls st)) rfl (hb C.2.2.1 hd)
    exact ⟨_, X', eT, st'⟩) n
theorem getCls (C : Cx p l e R s m args below meth c Z bytes ml own ret nm) {pc pc' : Nat} {Ls : Array Slot} {st : List Value} {Cn : String} {index : Nat} {a mr : Addr} (w1 : (Jvm.Cond.methodLink own index ⟨"java/lang/Object", "getClass", "()Ljava/lang/Class;"⟩).before a0 Z = true) (w2 : (Jvm.Cond.declares ⟨"java/lang/Object", "getClass", "()Ljava/lang/Class;"⟩).before a0 Z = true) (w3 : (Jvm.Cond.noSuperclass "java/lang/Object").before a0 Z = true) (w4 : (Jvm.Cond.selects Cn ⟨"java/lang/Object", "getClass", "()Ljava/lang/Class;"⟩ ⟨"java/lang/Object", "getClass", "()Ljava/lang/Class;"⟩).before a0 Z = true) (w5 : (Jvm.Cond.instanceMethod ⟨"java/lang/Object", "getClass", "()Ljava/lang/Class;"⟩).before a0 Z = true) (w6 : (Jvm.Cond.native ⟨"java/lang/Object", "getClass", "()Ljava/lang/Class;"⟩).before a0 Z = true) (E : Exa Z h a Cn) (M : Mi Z Cn mr) (hsz : Ls.size = ml) (hf : 1 ≤ R.frames) {W : Nat} (hW : 2 * 0 + (st.map fun v => v.category).sum ≤ W) (hl : W + (nativeFrameWords "java/lang/Object" "getClass" 1 + 11) ≤ R.locals) (hd : decode bytes pc = .ok (.invokevirtual index, 3)) (hp : pc + 3 = pc') (n : Go p l e R s m args below meth c n0 Q K S h (mkF m pc' Ls (.ref mr :: st))) : Go p l e R s m args below meth c n0 Q K S h (mkF m pc Ls (.ref a :: st)) := by
  subst hp
  exact Go.law (fun T ls cs ss X eT => by
    obtain ⟨cB, kB, i1, i2, i3⟩ := isOf C.2.1 eT E
    obtain ⟨cc, kc, m1, m2, m3⟩ := M
    rw [C.2.1.alike.findClass] at i1
    cases i1.symm.trans m1
    obtain ⟨k', q, ek⟩ := C.2.1.alike.2.2 _ _ m2
    obtain ⟨vm', X', st'⟩ := X.getClassOf C.1 C.2.2.2.2.1 (mvT C.2.1 w1) (mvT C.2.1 w2) (nf_top (args := #[]) (mvT C.2.1 w3)) (mvT C.2.1 w4) (mvT C.2.1 w5) (mvT C.2.1 w6) (by rw [C.2.1.alike.findClass]; exact m1) i3 q (by rw [ek]; exact m3) (g := (mkF m pc Ls (.ref a :: st))) rfl (hsz.trans C.2.2.2.1.symm) rfl (hb C.2.2.1 hd) hf (Nat.le_trans (Nat.add_le_add_right hW _) hl)
    exact ⟨_, X', eT, st'⟩) n
theorem instNo (C : Cx p l e R s m args below meth c Z bytes ml own ret nm) {pc pc' : Nat} {Ls : Array Slot} {st : List Value} {Cn Kn : String} {index : Nat} {a : Addr} (w : (Jvm.Cond.classLink own index Kn).before a0 Z = true) (E : Exa Z h a Cn) (F : ∃ c t, Z.vm.findClass Cn = some c ∧ Z.vm.findClass Kn = some t ∧ Z.vm.assignable c t = false) (hd : decode bytes pc = .ok (.instanceof index, 3)) (hp : pc + 3 = pc') (n : Go p l e R s m args below meth c n0 Q K S h (mkF m pc' Ls (.int 0 :: st))) : Go p l e R s m args below meth c n0 Q K S h (mkF m pc Ls (.ref a :: st)) := by
  subst hp; exact Go.law (fun T ls cs ss X eT => Jvm.RoadKit.instNo X C.1 C.2.1 C.2.2.2.2.1 w eT E F (g := (mkF m pc Ls (.ref a :: st))) rfl rfl (hb C.2.2.1 hd)) n
theorem instY (C : Cx p l e R s m args below meth c Z bytes ml own ret nm) {pc pc' : Nat} {Ls : Array Slot} {st : List Value} {Kn : String} {index : Nat} {a : Addr} (w : (Jvm.Cond.classLink own index Kn).before a0 Z = true) (F : Ins Z h a Kn true) (hd : decode bytes pc = .ok (.instanceof index, 3)) (hp : pc + 3 = pc') (n : Go p l e R s m args below meth c n0 Q K S h (mkF m pc' Ls (.int 1 :: st))) : Go p l e R s m args below meth c n0 Q K S h (mkF m pc Ls (.ref a :: st)) := by
  subst hp; exact Go.law (fun T ls cs ss X eT => Jvm.RoadKit.instY X C.1 C.2.1 C.2.2.2.2.1 w eT F (g := (mkF m pc Ls (.ref a :: st))) rfl rfl (hb C.2.2.1 hd)) n
theorem putFN (C : Cx p l e R s m args below meth c Z bytes ml own ret nm) {pc pc' : Nat} {Ls : Array Slot} {st : List Value} {R0 O n d Cn : String} {index kk : Nat} {ty : FieldType} (w : (Jvm.Cond.fieldLink own index R0 n d).before a0 Z = true) (via : Via Z R0 O n d) {a : Addr} {v v' old : Value} (F : Fld Z h a O n d old) (E : Exa Z h a Cn) (L : (Jvm.Cond.lays Cn O n d).before a0 Z = true ∨ ((Jvm.Cond.laysFinal Cn O n d).before a0 Z = true ∧ own = O ∧ nm = "<init>")) (wi : (Jvm.Cond.instantiable Cn kk).before a0 Z = true) (hty : parseFieldDescriptor d = some ty) (hn : narrow ty v = v') (hf : fits ty v' = true) (ha : n0 ≤ a) (hd : decode bytes pc = .ok (.putfield index, 3)) (hp : pc + 3 = pc') (k : ∀ h', Wr h h' a (Jvm.RoadKit.slotOf Z O n d) v' → Go p l e R s m args below meth c n0 Q K S h' (mkF m pc' Ls st)) : Go p l e R s m args below meth c n0 Q K S h (mkF m pc Ls (v :: .ref a :: st)) := by
  subst hp; exact Go.write ha (fun T ls cs ss X eT => Jvm.RoadKit.putFN X C.1 C.2.1 C.2.2.2.2.1 w via eT F E (L.imp id fun q => ⟨q.1, q.2.1, C.2.2.2.2.2.2.2.trans q.2.2⟩) wi hty hn hf (g := (mkF m pc Ls (v :: .ref a :: st))) rfl rfl (hb C.2.2.1 hd)) k
theorem acopy (C : Cx p l e R s m args below meth c Z bytes ml own ret nm) {pc pc' : Nat} {Ls : Array Slot} {st : List Value} {index : Nat} {a b : Addr} {k1 k2 : ClassId} {t1 t2 : FieldType} {z1 z2 sp dp nn : Int32} {vs vd us : List Value} {d1 d2 : Value} (w1 : (Jvm.Cond.methodLink own index Jvm.Stand.acN).before a0 Z = true) (w2 : (Jvm.Cond.native Jvm.Stand.acN).before a0 Z = true) (w3 : (Jvm.Cond.static Jvm.Stand.acN).before a0 Z = true) (w4 : (Jvm.Cond.initialized "java/lang/System").before a0 Z = true) (A : Arv Z h a k1 t1 z1 vs d1) (B : Arv Z h b k2 t2 z2 vd d2) (hty : (t1 = t2 ∧ refKind t1 = false) ∨ (refKind t1 = true ∧ refKind t2 = true ∧ StoL Z h b us)) (h1 : ¬ sp < 0) (h2 : ¬ dp < 0) (h3 : ¬ nn < 0) (h4 : sp.toNatClampNeg + nn.toNatClampNeg ≤ z1.toNatClampNeg) (h5 : dp.toNatClampNeg + nn.toNatClampNeg ≤ z2.toNatClampNeg) (hus : us = (List.range nn.toNatClampNeg).map fun i => vs.getD (sp.toNatClampNeg + i) d1) (hlen : dp.toNatClampNeg + nn.toNatClampNeg ≤ vd.length) (ha : n0 ≤ b) (hsz : Ls.size = ml) (hf : 1 ≤ R.frames) {W : Nat} (hW : 2 * 0 + (st.map fun v => v.category).sum ≤ W) (hl : W + (nativeFrameWords "java/lang/System" "arraycopy" 5 + 11) ≤ R.locals) (hd : decode bytes pc = .ok (.invokestatic index, 3)) (hp : pc + 3 = pc')
    (n : ∀ h', Keep h h' [b] → Arv Z h' b k2 t2 z2 (vd.take dp.toNatClampNeg ++ us ++ vd.drop (dp.toNatClampNeg + nn.toNatClampNeg)) d2 → Go p l e R s m args below meth c n0 Q K S h' (mkF m pc' Ls st)) : Go p l e R s m args below meth c n0 Q K S h (mkF m pc Ls (.int nn :: .int dp :: .ref b :: .int sp :: .ref a :: st)) :=
  fun T ⟨ls, cs, ss, X, N, hc, hs, eT⟩ => by
    subst hp
    obtain ⟨T', h', L', X', e', N', K', V', st'⟩ := cpA X C.1 C.2.1 C.2.2.2.2.1 w1 w2 w3 w4 eT A B hty h1 h2 h3 h4 h5 hus hlen N ha (g := (mkF m pc Ls (.int nn :: .int dp :: .ref b :: .int sp :: .ref a :: st))) rfl (hsz.trans C.2.2.2.1.symm) rfl (hb C.2.2.1 hd) hf hW hl
    obtain ⟨s₂, v, L, q1, q2⟩ := n h' K' V' T' ⟨L', _, _, X', N', hc, hs, e'⟩
    exact ⟨s₂, v, L, st' _ q1, q2⟩
theorem callS (C : Cx p l e R s m args below meth c Z bytes ml own ret nm) {pc pc' : Nat} {Ls : Array Slot} {st : List Value} {y : MethodName} {yb : ByteArray} {yl idx : Nat} {yr r : Option FieldType} {rm : Room} {Qc : Option Value → Heap → Prop} {argsL rest : List Value} {ps : List FieldType} {W : Nat} (w1 : (Jvm.Cond.methodLink own idx y).before a0 Z = true) (w2 : (Jvm.Cond.static y).before a0 Z = true) (w3 : (Jvm.Cond.initialized y.cls).before a0 Z = true) (w4 : (Jvm.Cond.code y yb yl yr).before a0 Z = true) (hy : y.cls ≠ "java/lang/invoke/MethodHandle" ∧ y.cls ≠ "java/lang/invoke/VarHandle") (hC : Ctr l Z y yb yl yr rm argsL.toArray h n0 Qc) (hf : rm.frames + 1 ≤ R.frames) (hl : W + (yl + 11) + rm.locals ≤ R.locals) (hsz : Ls.size = ml) (hpd : parseMethodDescriptor y.desc = some ⟨ps, r⟩) (hn : argsL.length = ps.length) (hW : 2 * 0 + (rest.map fun v => v.category).sum ≤ W) (hK : K + rm.cells = K') (hS : S + rm.slots = S') (hK' : K' ≤ R.cells) (hS' : S' ≤ R.slots) (hst : st = argsL.reverse ++ rest) (hd : decode bytes pc = .ok (.invokestatic idx, 3)) (hp : pc + 3 = pc')
    (n : ∀ v h', Qc v h' → Go p l e R s m args below meth c n0 Q K' S' h' (mkF m pc' Ls (v.toList ++ rest))) : Go p l e R s m args below meth c n0 Q K S h (mkF m pc Ls st) :=
  fun T ⟨ls, cs, ss, X, N, hc, hs, eT⟩ => by
    subst hp hK hS
    obtain ⟨v, _, ⟨T', L', k', n'⟩, -, X', ⟨Lc', hQ', l', y', z'⟩, st'⟩ := Jvm.LawKit.callS X C.1 (y := y) C.2.2.2.2.1 (mvT C.2.1 w1) (mvT C.2.1 w2) (mvT C.2.1 w3) (mvT C.2.1 w4) hy (backOf (Q := fun v h L => Qc v h ∧ Fr n0 L) (W := W) (hC []) C.2.1 w4 w3 hf hl) (g := (mkF m pc Ls st)) rfl (hsz.trans C.2.2.2.1.symm) (argsL := argsL) (rest := rest) (lenOf hpd hn) hst hW (hb C.2.2.1 hd) (fun _ _ => ⟨rfl, eT, (show cs + rm.cells ≤ R.cells by omega), (show ss + rm.slots ≤ R.slots by omega)⟩)
    dsimp only [Pt.U, Pt.locs, Pt.cells, Pt.slots] at X' l' y' z' st' hQ'
    subst l' y' z'
    obtain ⟨s₂, v2, L, h1, h2⟩ := n v T'.heap hQ'.1 T' ⟨_, _, _, X', Fr.app N hQ'.2, by omega, by omega, rfl⟩
    exact ⟨s₂, v2, L, st' _ h1, h2⟩
theorem callX (C : Cx p l e R s m args below meth c Z bytes ml own ret nm) {pc pc' : Nat} {Ls : Array Slot} {st : List Value} {y : MethodName} {yb : ByteArray} {yl idx : Nat} {r : Option FieldType} {rm : Room} {Qc : Option Value → Heap → Prop} {argsL rest : List Value} {ps : List FieldType} {W : Nat} {a : Addr} (hy1 : y.name = "<init>") (w1 : (Jvm.Cond.methodLink own idx y).before a0 Z = true) (w2 : (Jvm.Cond.instanceMethod y).before a0 Z = true) (w3 : (Jvm.Cond.initialized y.cls).before a0 Z = true) (w4 : (Jvm.Cond.code y yb yl none).before a0 Z = true) (hy : y.cls ≠ "java/lang/invoke/MethodHandle" ∧ y.cls ≠ "java/lang/invoke/VarHandle") (hC : Ctr l Z y yb yl none rm (.ref a :: argsL).toArray h n0 Qc) (hf : rm.frames + 1 ≤ R.frames) (hl : W + (yl + 11) + rm.locals ≤ R.locals) (hsz : Ls.size = ml) (hpd : parseMethodDescriptor y.desc = some ⟨ps, r⟩) (hn : argsL.length = ps.length) (hW : 2 * 0 + (rest.map fun v => v.category).sum ≤ W) (hK : K + rm.cells = K') (hS : S + rm.slots = S') (hK' : K' ≤ R.cells) (hS' : S' ≤ R.slots) (hst : st = argsL.reverse ++ .ref a :: rest) (hd : decode bytes pc = .ok (.invokespecial idx, 3)) (hp : pc + 3 = pc')
    (n : ∀ v h', Qc v h' → Go p l e R s m args below meth c n0 Q K' S' h' (mkF m pc' Ls (v.toList ++ rest))) : Go p l e R s m args below meth c n0 Q K S h (mkF m pc Ls st) :=
  fun T ⟨ls, cs, ss, X, N, hc, hs, eT⟩ => by
    subst hp hK hS
    obtain ⟨v, _, ⟨T', L', k', n'⟩, -, X', ⟨Lc', hQ', l', y', z'⟩, st'⟩ := X.specialBack C.1 (y := y) hy1 C.2.2.2.2.1 (mvT C.2.1 w1) (mvT C.2.1 w2) (mvT C.2.1 w4) hy (backOf (Q := fun v h L => Qc v h ∧ Fr n0 L) (W := W) (hC []) C.2.1 w4 w3 hf hl) (g := (mkF m pc Ls st)) rfl (hsz.trans C.2.2.2.1.symm) (Steps.refl _) (a := a) (argsL := argsL) (rest := rest) (lenOf hpd hn) hst hW (hb C.2.2.1 hd) (fun _ _ => ⟨rfl, eT, (show cs + rm.cells ≤ R.cells by omega), (show ss + rm.slots ≤ R.slots by omega)⟩)
    dsimp only [Pt.U, Pt.locs, Pt.cells, Pt.slots] at X' l' y' z' st' hQ'
    subst l' y' z'
    obtain ⟨s₂, v2, L, h1, h2⟩ := n v T'.heap hQ'.1 T' ⟨_, _, _, X', Fr.app N hQ'.2, by omega, by omega, rfl⟩
    exact ⟨s₂, v2, L, st'.trans h1, h2⟩
theorem callV (C : Cx p l e R s m args below meth c Z bytes ml own ret nm) {pc pc' : Nat} {Ls : Array Slot} {st : List Value} {y z : MethodName} {yb : ByteArray} {yl idx : Nat} {yr r : Option FieldType} {rm : Room} {Qc : Option Value → Heap → Prop} {argsL rest : List Value} {ps : List FieldType} {W : Nat} {a : Addr} {Cn : String} (w1 : (Jvm.Cond.methodLink own idx y).before a0 Z = true) (w2 : (Jvm.Cond.declares y).before a0 Z = true) (wf : NotFace s y) (w5 : (Jvm.Cond.selects Cn y z).before a0 Z = true) (w6 : (Jvm.Cond.instanceMethod z).before a0 Z = true) (w3 : (Jvm.Cond.initialized z.cls).before a0 Z = true) (w4 : (Jvm.Cond.code z yb yl yr).before a0 Z = true) (E : Exa Z h a Cn) (hy : y.cls ≠ "java/lang/invoke/MethodHandle" ∧ y.cls ≠ "java/lang/invoke/VarHandle") (hC : Ctr l Z z yb yl yr rm (.ref a :: argsL).toArray h n0 Qc) (hf : rm.frames + 1 ≤ R.frames) (hl : W + (yl + 11) + rm.locals ≤ R.locals) (hsz : Ls.size = ml) (hpd : parseMethodDescriptor y.desc = some ⟨ps, r⟩) (hn : argsL.length = ps.length) (hW : 2 * 0 + (rest.map fun v => v.category).sum ≤ W) (hK : K + rm.cells = K') (hS : S + rm.slots = S') (hK' : K' ≤ R.cells) (hS' : S' ≤ R.slots) (hst : st = argsL.reverse ++ .ref a :: rest) (hd : decode bytes pc = .ok (.invokevirtual idx, 3)) (hp : pc + 3 = pc')
    (n : ∀ v h', Qc v h' → Go p l e R s m args below meth c n0 Q K' S' h' (mkF m pc' Ls (v.toList ++ rest))) : Go p l e R s m args below meth c n0 Q K S h (mkF m pc Ls st) :=
  fun T ⟨ls, cs, ss, X, N, hc, hs, eT⟩ => by
    subst hp hK hS
    obtain ⟨cq, kq, qa, qb, qc⟩ := isOf C.2.1 eT E
    obtain ⟨v, _, ⟨T', L', k', n'⟩, -, X', ⟨Lc', hQ', l', y', z'⟩, st'⟩ := X.virtualBack C.1 (y := y) (z := z) C.2.2.2.2.1 (mvT C.2.1 w1) (mvT C.2.1 w2) wf (mvT C.2.1 w5) (mvT C.2.1 w6) hy (backOf (Q := fun v h L => Qc v h ∧ Fr n0 L) (W := W) (hC []) C.2.1 w4 w3 hf hl) qa qc (g := (mkF m pc Ls st)) rfl (hsz.trans C.2.2.2.1.symm) (Steps.refl _) (argsL := argsL) (rest := rest) (lenOf hpd hn) hst hW (hb C.2.2.1 hd) (fun _ _ => ⟨rfl, eT, (show cs + rm.cells ≤ R.cells by omega), (show ss + rm.slots ≤ R.slots by omega)⟩)
    dsimp only [Pt.U, Pt.locs, Pt.cells, Pt.slots] at X' l' y' z' st' hQ'
    subst l' y' z'
    obtain ⟨s₂, v2, L, h1, h2⟩ := n v T'.heap hQ'.1 T' ⟨_, _, _, X', Fr.app N hQ'.2, by omega, by omega, rfl⟩
    exact ⟨s₂, v2, L, st'.trans h1, h2⟩
theorem callVU (C : Cx p l e R s m args below meth c Z bytes ml own ret nm) {pc pc' : Nat} {Ls : Array Slot} {st : List Value} {y z : MethodName} {yb : ByteArray} {yl idx : Nat} {yr r : Option FieldType} {rm : Room} {Qc : Option Value → Heap → Prop} {argsL rest : List Value} {ps : List FieldType} {W : Nat} {a : Addr} {Cn owner : String} (w1 : (Jvm.Cond.methodLink own idx y).before a0 Z = true) (wS : (Jvm.Cond.sameMethod y.cls owner y.name y.desc).before a0 Z = true) (w2 : (Jvm.Cond.declares ⟨owner, y.name, y.desc⟩).before a0 Z = true) (w5 : (Jvm.Cond.selects Cn y z).before a0 Z = true) (w6 : (Jvm.Cond.instanceMethod z).before a0 Z = true) (w3 : (Jvm.Cond.initialized z.cls).before a0 Z = true) (w4 : (Jvm.Cond.code z yb yl yr).before a0 Z = true) (E : Exa Z h a Cn) (hy : owner ≠ "java/lang/invoke/MethodHandle" ∧ owner ≠ "java/lang/invoke/VarHandle") (hC : Ctr l Z z yb yl yr rm (.ref a :: argsL).toArray h n0 Qc) (hf : rm.frames + 1 ≤ R.frames) (hl : W + (yl + 11) + rm.locals ≤ R.locals) (hsz : Ls.size = ml) (hpd : parseMethodDescriptor y.desc = some ⟨ps, r⟩) (hn : argsL.length = ps.length) (hW : 2 * 0 + (rest.map fun v => v.category).sum ≤ W) (hK : K + rm.cells = K') (hS : S + rm.slots = S') (hK' : K' ≤ R.cells) (hS' : S' ≤ R.slots) (hst : st = argsL.reverse ++ .ref a :: rest) (hd : decode bytes pc = .ok (.invokevirtual idx, 3)) (hp : pc + 3 = pc')
    (n : ∀ v h', Qc v h' → Go p l e R s m args below meth c n0 Q K' S' h' (mkF m pc' Ls (v.toList ++ rest))) : Go p l e R s m args below meth c n0 Q K S h (mkF m pc Ls st) :=
  fun T ⟨ls, cs, ss, X, N, hc, hs, eT⟩ => by
    subst hp hK hS
    obtain ⟨cq, kq, qa, qb, qc⟩ := isOf C.2.1 eT E
    obtain ⟨v, _, ⟨T', L', k', n'⟩, -, X', ⟨Lc', hQ', l', y', z'⟩, st'⟩ := X.virtualBackUp C.1 (x := y) (y := z) C.2.2.2.2.1 (mvT C.2.1 w1) (mvT C.2.1 wS) (mvT C.2.1 w2) hy (mvT C.2.1 w5) (mvT C.2.1 w6) (backOf (Q := fun v h L => Qc v h ∧ Fr n0 L) (W := W) (hC []) C.2.1 w4 w3 hf hl) qa qc (g := (mkF m pc Ls st)) rfl (hsz.trans C.2.2.2.1.symm) (Steps.refl _) (argsL := argsL) (rest := rest) (lenOf hpd hn) hst hW (hb C.2.2.1 hd) (fun _ _ => ⟨rfl, eT, (show cs + rm.cells ≤ R.cells by omega), (show ss + rm.slots ≤ R.slots by omega)⟩)
    dsimp only [Pt.U, Pt.locs, Pt.cells, Pt.slots] at X' l' y' z' st' hQ'
    subst l' y' z'
    obtain ⟨s₂, v2, L, h1, h2⟩ := n v T'.heap hQ'.1 T' ⟨_, _, _, X', Fr.app N hQ'.2, by omega, by omega, rfl⟩
    exact ⟨s₂, v2, L, st'.trans h1, h2⟩
theorem callP (C : Cx p l e R s m args below meth c Z bytes ml own ret nm) {pc pc' : Nat} {Ls : Array Slot} {st : List Value} {y : MethodName} {yb : ByteArray} {yl idx : Nat} {yr r : Option FieldType} {rm : Room} {Qc : Option Value → Heap → Prop} {argsL rest : List Value} {ps : List FieldType} {W : Nat} {a : Addr} {Cn : String} (w1 : (Jvm.Cond.methodLink own idx y).before a0 Z = true) (w2 : (Jvm.Cond.instanceMethod y).before a0 Z = true) (w5 : (Jvm.Cond.selects y.cls y y).before a0 Z = true) (w6 : (Jvm.Cond.privateMethod y).before a0 Z = true) (w3 : (Jvm.Cond.initialized y.cls).before a0 Z = true) (w4 : (Jvm.Cond.code y yb yl yr).before a0 Z = true) (E : Exa Z h a Cn) (hy : y.cls ≠ "java/lang/invoke/MethodHandle" ∧ y.cls ≠ "java/lang/invoke/VarHandle") (hC : Ctr l Z y yb yl yr rm (.ref a :: argsL).toArray h n0 Qc) (hf : rm.frames + 1 ≤ R.frames) (hl : W + (yl + 11) + rm.locals ≤ R.locals) (hsz : Ls.size = ml) (hpd : parseMethodDescriptor y.desc = some ⟨ps, r⟩) (hn : argsL.length = ps.length) (hW : 2 * 0 + (rest.map fun v => v.category).sum ≤ W) (hK : K + rm.cells = K') (hS : S + rm.slots = S') (hK' : K' ≤ R.cells) (hS' : S' ≤ R.slots) (hst : st = argsL.reverse ++ .ref a :: rest) (hd : decode bytes pc = .ok (.invokevirtual idx, 3)) (hp : pc + 3 = pc')
    (n : ∀ v h', Qc v h' → Go p l e R s m args below meth c n0 Q K' S' h' (mkF m pc' Ls (v.toList ++ rest))) : Go p l e R s m args below meth c n0 Q K S h (mkF m pc Ls st) :=
  fun T ⟨ls, cs, ss, X, N, hc, hs, eT⟩ => by
    subst hp hK hS
    obtain ⟨cq, qa, qb⟩ := E.cell
    obtain ⟨v, _, ⟨T', L', k', n'⟩, -, X', ⟨Lc', hQ', l', y', z'⟩, st'⟩ := X.privateBack C.1 (y := y) C.2.2.2.2.1 (mvT C.2.1 w1) (mvT C.2.1 w2) (mvT C.2.1 w5) (Cond.privateMethod_at (mvP C.2.1 w6 (args := #[]))) (mvT C.2.1 w4) hy (backOf (Q := fun v h L => Qc v h ∧ Fr n0 L) (W := W) (hC []) C.2.1 w4 w3 hf hl) (g := (mkF m pc Ls st)) rfl (hsz.trans C.2.2.2.1.symm) (Steps.refl _) (a := a) (by rw [eT]; exact qa) qb (argsL := argsL) (rest := rest) (lenOf hpd hn) hst hW (hb C.2.2.1 hd) (fun _ _ => ⟨rfl, eT, (show cs + rm.cells ≤ R.cells by omega), (show ss + rm.slots ≤ R.slots by omega)⟩)
    dsimp only [Pt.U, Pt.locs, Pt.cells, Pt.slots] at X' l' y' z' st' hQ'
    subst l' y' z'
    obtain ⟨s₂, v2, L, h1, h2⟩ := n v T'.heap hQ'.1 T' ⟨_, _, _, X', Fr.app N hQ'.2, by omega, by omega, rfl⟩
    exact ⟨s₂, v2, L, st'.trans h1, h2⟩
theorem callI (C : Cx p l e R s m args below meth c Z bytes ml own ret nm) {pc pc' : Nat} {Ls : Array Slot} {st : List Value} {y z : MethodName} {yb : ByteArray} {yl idx : Nat} {yr r : Option FieldType} {rm : Room} {Qc : Option Value → Heap → Prop} {argsL rest : List Value} {ps : List FieldType} {W : Nat} {a : Addr} {Cn : String} {count : Nat} (w1 : (Jvm.Cond.methodLink own idx y).before a0 Z = true) (w2 : (Jvm.Cond.declares y).before a0 Z = true) (wf : (Jvm.Cond.interfaceMethod y.cls y.cls y.name y.desc).before a0 Z = true) (wfk : ((Jvm.Cond.interfaceMethod y.cls y.cls y.name y.desc).onTables && (Jvm.Cond.interfaceMethod y.cls y.cls y.name y.desc).keepsFace) = true) (w5 : (Jvm.Cond.selects Cn y z).before a0 Z = true) (w6 : (Jvm.Cond.instanceMethod z).before a0 Z = true) (w7 : (Jvm.Cond.publicMethod z).before a0 Z = true) (w8 : (Jvm.Cond.unhidden Cn y.name y.desc).before a0 Z = true) (w9 : (Jvm.Cond.castable Cn y.cls).before a0 Z = true) (w3 : (Jvm.Cond.initialized z.cls).before a0 Z = true) (w4 : (Jvm.Cond.code z yb yl yr).before a0 Z = true) (E : Exa Z h a Cn) (hy : y.cls ≠ "java/lang/invoke/MethodHandle" ∧ y.cls ≠ "java/lang/invoke/VarHandle") (hC : Ctr l Z z yb yl yr rm (.ref a :: argsL).toArray h n0 Qc) (hf : rm.frames + 1 ≤ R.frames) (hl : W + (yl + 11) + rm.locals ≤ R.locals) (hsz : Ls.size = ml) (hpd : parseMethodDescriptor y.desc = some ⟨ps, r⟩) (hn : argsL.length = ps.length) (hW : 2 * 0 + (rest.map fun v => v.category).sum ≤ W) (hK : K + rm.cells = K') (hS : S + rm.slots = S') (hK' : K' ≤ R.cells) (hS' : S' ≤ R.slots) (hst : st = argsL.reverse ++ .ref a :: rest) (hd : decode bytes pc = .ok (.invokeinterface idx count, 5)) (hp : pc + 5 = pc')
    (n : ∀ v h', Qc v h' → Go p l e R s m args below meth c n0 Q K' S' h' (mkF m pc' Ls (v.toList ++ rest))) : Go p l e R s m args below meth c n0 Q K S h (mkF m pc Ls st) :=
  fun T ⟨ls, cs, ss, X, N, hc, hs, eT⟩ => by
    subst hp hK hS
    obtain ⟨cq, kq, qa, qb, qc⟩ := isOf C.2.1 eT E
    obtain ⟨v, _, ⟨T', L', k', n'⟩, -, X', ⟨Lc', hQ', l', y', z'⟩, st'⟩ := X.interfaceBack C.1 (xi := y) (y := z) C.2.2.2.2.1 (mvT C.2.1 w1) (mvT C.2.1 w2) (mvT C.2.1 wf wfk) (mvT C.2.1 w5) (mvT C.2.1 w6) (mvT C.2.1 w7) (mvT C.2.1 w8) (mvT C.2.1 w9) hy (backOf (Q := fun v h L => Qc v h ∧ Fr n0 L) (W := W) (hC []) C.2.1 w4 w3 hf hl) qa qb qc (g := (mkF m pc Ls st)) rfl (hsz.trans C.2.2.2.1.symm) (Steps.refl _) (argsL := argsL) (rest := rest) (lenOf hpd hn) hst hW (hb C.2.2.1 hd) (fun _ _ => ⟨rfl, eT, (show cs + rm.cells ≤ R.cells by omega), (show ss + rm.slots ≤ R.slots by omega)⟩)
    dsimp only [Pt.U, Pt.locs, Pt.cells, Pt.slots] at X' l' y' z' st' hQ'
    subst l' y' z'
    obtain ⟨s₂, v2, L, h1, h2⟩ := n v T'.heap hQ'.1 T' ⟨_, _, _, X', Fr.app N hQ'.2, by omega, by omega, rfl⟩
    exact ⟨s₂, v2, L, st'.trans h1, h2⟩
theorem callXN (C : Cx p l e R s m args below meth c Z bytes ml own ret nm) {pc pc' : Nat} {Ls : Array Slot} {st : List Value} {y : MethodName} {yb : ByteArray} {yl idx : Nat} {r : Option FieldType} {rm : Room} {Qc : Option Value → Heap → Prop} {argsL rest : List Value} {ps : List FieldType} {W : Nat} {a : Addr} {host : String} (hy1 : y.name = "<init>") (w1 : (Jvm.Cond.methodLinkNest own idx y host).before a0 Z = true) (w2 : (Jvm.Cond.instanceMethod y).before a0 Z = true) (w3 : (Jvm.Cond.initialized y.cls).before a0 Z = true) (w4 : (Jvm.Cond.code y yb yl none).before a0 Z = true) (hy : y.cls ≠ "java/lang/invoke/MethodHandle" ∧ y.cls ≠ "java/lang/invoke/VarHandle") (hC : Ctr l Z y yb yl none rm (.ref a :: argsL).toArray h n0 Qc) (hf : rm.frames + 1 ≤ R.frames) (hl : W + (yl + 11) + rm.locals ≤ R.locals) (hsz : Ls.size = ml) (hpd : parseMethodDescriptor y.desc = some ⟨ps, r⟩) (hn : argsL.length = ps.length) (hW : 2 * 0 + (rest.map fun v => v.category).sum ≤ W) (hK : K + rm.cells = K') (hS : S + rm.slots = S') (hK' : K' ≤ R.cells) (hS' : S' ≤ R.slots) (hst : st = argsL.reverse ++ .ref a :: rest) (hd : decode bytes pc = .ok (.invokespecial idx, 3)) (hp : pc + 3 = pc')
    (n : ∀ v h', Qc v h' → Go p l e R s m args below meth c n0 Q K' S' h' (mkF m pc' Ls (v.toList ++ rest))) : Go p l e R s m args below meth c n0 Q K S h (mkF m pc Ls st) :=
  fun T ⟨ls, cs, ss, X, N, hc, hs, eT⟩ => by
    subst hp hK hS
    obtain ⟨v, _, ⟨T', L', k', n'⟩, -, X', ⟨Lc', hQ', l', y', z'⟩, st'⟩ := X.specialBackNest C.1 (y := y) hy1 C.2.2.2.2.1 (Cond.methodLinkNest_wide C.2.1 w1 :) (mvT C.2.1 w2) (mvT C.2.1 w4) hy (backOf (Q := fun v h L => Qc v h ∧ Fr n0 L) (W := W) (hC []) C.2.1 w4 w3 hf hl) (g := (mkF m pc Ls st)) rfl (hsz.trans C.2.2.2.1.symm) (Steps.refl _) (a := a) (argsL := argsL) (rest := rest) (lenOf hpd hn) hst hW (hb C.2.2.1 hd) (fun _ _ => ⟨rfl, eT, (show cs + rm.cells ≤ R.cells by omega), (show ss + rm.slots ≤ R.slots by omega)⟩)
    dsimp only [Pt.U, Pt.locs, Pt.cells, Pt.slots] at X' l' y' z' st' hQ'
    subst l' y' z'
    obtain ⟨s₂, v2, L, h1, h2⟩ := n v T'.heap hQ'.1 T' ⟨_, _, _, X', Fr.app N hQ'.2, by omega, by omega, rfl⟩
    exact ⟨s₂, v2, L, st'.trans h1, h2⟩
theorem retN (C : Cx p l e R s m args below meth c Z bytes ml own ret nm) {pc : Nat} {Ls : Array Slot} {st : List Value} {x z : Int32} {t : FieldType} (hr0 : ret = some t) (ht : t = .boolean ∨ t = .byte ∨ t = .char ∨ t = .short) (hz : nar t x = z) (hq : Q (some (.int z)) h) (hK : K ≤ R.cells) (hS : S ≤ R.slots) (hd : decode bytes pc = .ok (.ireturn, 1)) : Go p l e R s m args below meth c n0 Q K S h (mkF m pc Ls (.int x :: st)) :=
  fun T ⟨ls, cs, ss, X, N, hc, hs, eT⟩ => by
    obtain ⟨fs, hr, hrun, hended, hW, hsame⟩ := X.leave (v := (some (.int z))) (fun h => by rw [C.2.2.2.2.2.2.1, hr0] at h; cases h) C.2.2.2.2.2.1
    exact ⟨_, _, _, Jvm.RoadKit.retN X C.1 (C.2.2.2.2.2.2.1.trans hr0) ht (hb C.2.2.1 hd) (hz ▸ hr), hrun, hended, (show Q (some (.int z)) T.heap from eT.symm ▸ hq), N, ⟨_, rfl⟩, hW, hsame.mono (Nat.le_trans hc hK) (Nat.le_trans hs hS)⟩
theorem retI (C : Cx p l e R s m args below meth c Z bytes ml own ret nm) {pc : Nat} {Ls : Array Slot} {st : List Value} {x : Int32} (hr0 : ret = some .int) (hq : Q (some (.int x)) h) (hK : K ≤ R.cells) (hS : S ≤ R.slots) (hd : decode bytes pc = .ok (.ireturn, 1)) : Go p l e R s m args below meth c n0 Q K S h (mkF m pc Ls (.int x :: st)) :=
  fun T ⟨ls, cs, ss, X, N, hc, hs, eT⟩ => by
    obtain ⟨fs, hr, hrun, hended, hW, hsame⟩ := X.leave (v := (some (.int x))) (fun h => by rw [C.2.2.2.2.2.2.1, hr0] at h; cases h) C.2.2.2.2.2.1
    exact ⟨_, _, _, retOut X C.1 (C.2.2.2.2.2.2.1.trans hr0) rfl (Or.inl ⟨rfl, Or.inl rfl, x, rfl⟩) (hb C.2.2.1 hd) hr, hrun, hended, (show Q (some (.int x)) T.heap from eT.symm ▸ hq), N, ⟨_, rfl⟩, hW, hsame.mono (Nat.le_trans hc hK) (Nat.le_trans hs hS)⟩
theorem retL (C : Cx p l e R s m args below meth c Z bytes ml own ret nm) {pc : Nat} {Ls : Array Slot} {st : List Value} {x : Int64} (hr0 : ret = some .long) (hq : Q (some (.long x)) h) (hK : K ≤ R.cells) (hS : S ≤ R.slots) (hd : decode bytes pc = .ok (.lreturn, 1)) : Go p l e R s m args below meth c n0 Q K S h (mkF m pc Ls (.long x :: st)) :=
  fun T ⟨ls, cs, ss, X, N, hc, hs, eT⟩ => by
    obtain ⟨fs, hr, hrun, hended, hW, hsame⟩ := X.leave (v := (some (.long x))) (fun h => by rw [C.2.2.2.2.2.2.1, hr0] at h; cases h) C.2.2.2.2.2.1
    exact ⟨_, _, _, retOut X C.1 (C.2.2.2.2.2.2.1.trans hr0) rfl (Or.inr (Or.inl ⟨rfl, rfl, x, rfl⟩)) (hb C.2.2.1 hd) hr, hrun, hended, (show Q (some (.long x)) T.heap from eT.symm ▸ hq), N, ⟨_, rfl⟩, hW, hsame.mono (Nat.le_trans hc hK) (Nat.le_trans hs hS)⟩
theorem retA (C : Cx p l e R s m args below meth c Z bytes ml own ret nm) {pc : Nat} {Ls : Array Slot} {st : List Value} {x : Value} {t : FieldType} (hr0 : ret = some t) (ht : t.isReference = true) (hx : x.isRef = true) (hq : Q (some x) h) (hK : K ≤ R.cells) (hS : S ≤ R.slots) (hd : decode bytes pc = .ok (.areturn, 1)) : Go p l e R s m args below meth c n0 Q K S h (mkF m pc Ls (x :: st)) :=
  fun T ⟨ls, cs, ss, X, N, hc, hs, eT⟩ => by
    obtain ⟨fs, hr, hrun, hended, hW, hsame⟩ := X.leave (v := (some x)) (fun h => by rw [C.2.2.2.2.2.2.1, hr0] at h; cases h) C.2.2.2.2.2.1
    exact ⟨_, _, _, retOut X C.1 (C.2.2.2.2.2.2.1.trans hr0) (by cases t <;> first | (cases ht; done) | rfl) (Or.inr (Or.inr (Or.inr (Or.inr ⟨rfl, ht, hx⟩)))) (hb C.2.2.1 hd) hr, hrun, hended, (show Q (some x) T.heap from eT.symm ▸ hq), N, ⟨_, rfl⟩, hW, hsame.mono (Nat.le_trans hc hK) (Nat.le_trans hs hS)⟩
theorem retV (C : Cx p l e R s m args below meth c Z bytes ml own ret nm) {pc : Nat} {Ls : Array Slot} (hr0 : ret = none) (hq : Q none h) (hK : K ≤ R.cells) (hS : S ≤ R.slots) (hd : decode bytes pc = .ok (.return_, 1)) : Go p l e R s m args below meth c n0 Q K S h (mkF m pc Ls []) :=
  fun T ⟨ls, cs, ss, X, N, hc, hs, eT⟩ => by
    obtain ⟨fs, hr, hrun, hended, hW, hsame⟩ := X.leave (v := none) (fun _ => rfl) C.2.2.2.2.2.1
    exact ⟨_, _, _, X.returnOut C.1 (C.2.2.2.2.2.2.1.trans hr0) (hb C.2.2.1 hd) hr, hrun, hended, (show Q none T.heap from eT.symm ▸ hq), N, ⟨_, rfl⟩, hW, hsame.mono (Nat.le_trans hc hK) (Nat.le_trans hs hS)⟩
theorem fld_int {t : Term} {a : Addr} {Cn n d : String} {k : Int32} (ev : t.eval args s none [] s = some (.ref a)) (h : (Jvm.Cond.eq (.field t Cn n d) (.int k)).value args s none s [] = some true) : Fld s s.heap a Cn n d (.int k) := by
  obtain ⟨x, y, e1, e2, k1, k2⟩ := cmp_v (Or.inl h)
  rw [Term.int_eval] at e2; cases e2
  cases x with
  | int z =>
    have q : z = k := by simpa [Jvm.Cond.value, e1, Term.int_eval] using h
    subst q; rw [fld_at ev] at e1; exact Fld.start e1
  | _ => simp [Jvm.Cond.value, e1, Term.int_eval] at h
theorem fld_ref {t u : Term} {a b : Addr} {Cn n d : String} (ev : t.eval args s none [] s = some (.ref a)) (eu : u.eval args s none [] s = some (.ref b)) (h : (Jvm.Cond.eq (.field t Cn n d) u).value args s none s [] = some true) : Fld s s.heap a Cn n d (.ref b) := by
  obtain ⟨x, y, e1, e2, k1, k2⟩ := cmp_v (Or.inl h)
  rw [eu] at e2; cases e2
  cases x with
  | ref z =>
    have q : z = b := by simpa [Jvm.Cond.value, e1, eu] using h
    subst q; rw [fld_at ev] at e1; exact Fld.start e1
  | _ => simp [Jvm.Cond.value, e1, eu] at h
theorem ref_ne {a b : Addr} (h : a ≠ b) : ¬ (Value.ref a = Value.ref b) := fun q => h (Value.ref.inj q)
theorem len_start {t : Term} {a : Addr} {cl : Cell} {ty : FieldType} {k : Int32} (ev : t.eval args s none [] s = some (.ref a)) (A : Arr s s.heap a cl ty) (hl : (Jvm.Cond.eq (.length t) (.int k)).value args s none s [] = some true) : cl.slots.size < 2 ^ 31 ∧ cl.slots.size.toInt32 = k := by
  obtain ⟨x, y, e1, e2, -, -⟩ := cmp_v (Or.inl hl)
  obtain ⟨b, cell, q1, q2, q3, rfl⟩ := Jvm.Lib.length_spec e1
  cases ev.symm.trans q1
  cases q2.symm.trans (A.fin (Vm.Alike.refl _))
  rw [Term.int_eval] at e2; cases e2
  exact ⟨q3, by simpa [Jvm.Cond.value, e1, Term.int_eval] using hl⟩
theorem elem_start {t u : Term} {a b : Addr} {cl : Cell} {j : Int32} (ev : t.eval args s none [] s = some (.ref a)) (hc : s.heap[a]? = some cl) (eu : u.eval args s none [] s = some (.ref b)) (h : (Jvm.Cond.eq (.elem t (.int j)) u).value args s none s [] = some true) : cl.slots[j.toNatClampNeg]? = some (.ref b) := by
  obtain ⟨x, y, e1, e2, -, -⟩ := cmp_v (Or.inl h)
  rw [eu] at e2; cases e2
  have q := (elem_in e1 ev (Term.int_eval j) hc).2
  cases x with
  | ref z =>
    have q' : z = b := by simpa [Jvm.Cond.value, e1, eu] using h
    subst q'; exact q
  | _ => simp [Jvm.Cond.value, e1, eu] at h
theorem sto_of {a y : Addr} {cA : ClassId} {ty : FieldType} {i : Int32} {vs : List Value} {dv : Value} {Cn : String} (F : Arv Z h a cA ty i vs dv) (O : Ovr Z cA Cn) (I : Ins Z h y Cn true) : Sto Z h a (.ref y) := by
  obtain ⟨c, A, q, -⟩ := F; exact Sto.ofV A q O I
theorem sto_ofA {a y : Addr} {cA : ClassId} {ty t : FieldType} {i : Int32} {vs : List Value} {dv : Value} {Cn : String} (F : Arv Z h a cA ty i vs dv) (O : OvrA Z cA t Cn) (I : Ins Z h y Cn true) : Sto Z h a (.ref y) := by
  obtain ⟨c, A, q, -⟩ := F; exact Sto.ofVA A q O I
theorem ins_keep {a : Addr} {Cn : String} {b : Bool} {h' : Heap} {ws : List Addr} (F : Ins Z h a Cn b) (K : Keep h h' ws) : Ins Z h' a Cn b := by
  obtain ⟨cell, cT, h1, h2, h3⟩ := F
  obtain ⟨c', q, r1, r2, r3⟩ := K.2.2 a cell h1
  exact ⟨c', cT, q, h2, by rw [r1, r2]; exact h3⟩
theorem sta_keep {Cn n d Cm : String} {v : Value} {a : Addr} {h' : Heap} (F : Sta Z h Cn n d v) (K : Keep h h' [a]) (E : Exa Z h a Cm) : Sta Z h' Cn n d v := by
  obtain ⟨cf, i, k, f, st, cell, h1, h2, h3, h4, h5, h6, h7⟩ := F
  obtain ⟨c2, k2, g1, -, -, g4, -⟩ := E
  have ne : st ≠ a := fun q => by subst q; cases h5.symm.trans g1; rw [h6] at g4; cases g4
  exact ⟨cf, i, k, f, st, cell, h1, h2, h3, h4, K.2.1 st cell h5 (fun q => ne (List.mem_singleton.mp q)), h6, h7⟩
theorem nar_b {x : Int32} (h : x = 0 ∨ x = 1) : nar .boolean x = x := by rcases h with rfl | rfl <;> rfl
end K
end Jvm.OwnW
namespace Jvm.Pilot.@@N@@
open Jvm Jvm.ClassFile Sem Op Lib Jvm.Free Jvm.Stand Jvm.LawKit Jvm.RoadKit Jvm.OwnW Bundle Jvm.Pilot.@@N@@.Jvm.D
theorem own_d_jdk_29_method_69_code_0 : decode jdk_29_method_69_code 0 = .ok (.iload_n 0, 1) := by decide +kernel
theorem own_d_jdk_29_method_69_code_1 : decode jdk_29_method_69_code 1 = .ok (.iload_n 1, 1) := by decide +kernel
theorem own_d_jdk_29_method_69_code_2 : decode jdk_29_method_69_code 2 = .ok (.if_icmp .gt 7, 3) := by decide +kernel
theorem own_d_jdk_29_method_69_code_9 : decode jdk_29_method_69_code 9 = .ok (.iload_n 1, 1) := by decide +kernel
theorem own_d_jdk_29_method_69_code_10 : decode jdk_29_method_69_code 10 = .ok (.ireturn, 1) := by decide +kernel
theorem own_d_jdk_29_method_69_code_5 : decode jdk_29_method_69_code 5 = .ok (.iload_n 0, 1) := by decide +kernel
theorem own_d_jdk_29_method_69_code_6 : decode jdk_29_method_69_code 6 = .ok (.goto 4, 3) := by decide +kernel
theorem own_d_jdk_29_method_65_code_0 : decode jdk_29_method_65_code 0 = .ok (.iload_n 0, 1) := by decide +kernel
theorem own_d_jdk_29_method_65_code_1 : decode jdk_29_method_65_code 1 = .ok (.iload_n 1, 1) := by decide +kernel
theorem own_d_jdk_29_method_65_code_2 : decode jdk_29_method_65_code 2 = .ok (.if_icmp .lt 7, 3) := by decide +kernel
theorem own_d_jdk_29_method_65_code_9 : decode jdk_29_method_65_code 9 = .ok (.iload_n 1, 1) := by decide +kernel
theorem own_d_jdk_29_method_65_code_10 : decode jdk_29_method_65_code 10 = .ok (.ireturn, 1) := by decide +kernel
theorem own_d_jdk_29_method_65_code_5 : decode jdk_29_method_65_code 5 = .ok (.iload_n 0, 1) := by decide +kernel
theorem own_d_jdk_29_method_65_code_6 : decode jdk_29_method_65_code 6 = .ok (.goto 4, 3) := by decide +kernel
theorem own_pn_Record : plainName "java/lang/Record" = true := by first | (simp [plainName, overriddenIn]; done) | decide +kernel
theorem own_d_jdk_30_method_1_code_0 : decode jdk_30_method_1_code 0 = .ok (.aload_n 0, 1) := by decide +kernel
theorem own_d_jdk_30_method_1_code_1 : decode jdk_30_method_1_code 1 = .ok (.invokespecial 1, 3) := by decide +kernel
theorem own_d_jdk_30_method_1_code_4 : decode jdk_30_method_1_code 4 = .ok (.return_, 1) := by decide +kernel
theorem own_pn_Position : plainName "com/example/kinegrid/kinegrid/core/Position" = true := by first | (simp [plainName, overriddenIn]; done) | decide +kernel
theorem own_d_prog_48_method_2_code_0 : decode prog_48_method_2_code 0 = .ok (.dload_n 0, 1) := by decide +kernel
theorem own_d_prog_48_method_2_code_1 : decode prog_48_method_2_code 1 = .ok (.ldc2_w 23, 3) := by decide +kernel
theorem own_d_prog_48_method_2_code_4 : decode prog_48_method_2_code 4 = .ok (.dcmp .l, 1) := by decide +kernel
theorem own_d_prog_48_method_2_code_5 : decode prog_48_method_2_code 5 = .ok (.ifCond .lt 11, 3) := by decide +kernel
theorem own_d_prog_48_method_2_code_8 : decode prog_48_method_2_code 8 = .ok (.dload_n 0, 1) := by decide +kernel
theorem own_d_prog_48_method_2_code_9 : decode prog_48_method_2_code 9 = .ok (.ldc2_w 25, 3) := by decide +kernel
theorem own_d_prog_48_method_2_code_12 : decode prog_48_method_2_code 12 = .ok (.dcmp .g, 1) := by decide +kernel
theorem own_d_prog_48_method_2_code_13 : decode prog_48_method_2_code 13 = .ok (.ifCond .le 17, 3) := by decide +kernel
theorem own_d_prog_48_method_2_code_30 : decode prog_48_method_2_code 30 = .ok (.return_, 1) := by decide +kernel
theorem own_d_prog_48_method_3_code_0 : decode prog_48_method_3_code 0 = .ok (.dload_n 0, 1) := by decide +kernel
theorem own_d_prog_48_method_3_code_1 : decode prog_48_method_3_code 1 = .ok (.ldc2_w 36, 3) := by decide +kernel
theorem own_d_prog_48_method_3_code_4 : decode prog_48_method_3_code 4 = .ok (.dcmp .l, 1) := by decide +kernel
theorem own_d_prog_48_method_3_code_5 : decode prog_48_method_3_code 5 = .ok (.ifCond .lt 11, 3) := by decide +kernel
theorem own_d_prog_48_method_3_code_8 : decode prog_48_method_3_code 8 = .ok (.dload_n 0, 1) := by decide +kernel
theorem own_d_prog_48_method_3_code_9 : decode prog_48_method_3_code 9 = .ok (.ldc2_w 38, 3) := by decide +kernel
theorem own_d_prog_48_method_3_code_12 : decode prog_48_method_3_code 12 = .ok (.dcmp .g, 1) := by decide +kernel
theorem own_d_prog_48_method_3_code_13 : decode prog_48_method_3_code 13 = .ok (.ifCond .le 17, 3) := by decide +kernel
theorem own_d_prog_48_method_3_code_30 : decode prog_48_method_3_code 30 = .ok (.return_, 1) := by decide +kernel
theorem own_pn_Box : plainName "com/example/kinegrid/kinegrid/core/Box" = true := by first | (simp [plainName, overriddenIn]; done) | decide +kernel
theorem own_d_prog_23_method_1_code_0 : decode prog_23_method_1_code 0 = .ok (.aload_n 0, 1) := by decide +kernel
theorem own_d_prog_23_method_1_code_1 : decode prog_23_method_1_code 1 = .ok (.invokespecial 1, 3) := by decide +kernel
theorem own_pd___V : parseMethodDescriptor "()V" = some ⟨[], none⟩ := by decide +kernel
theorem own_d_prog_23_method_1_code_4 : decode prog_23_method_1_code 4 = .ok (.dload_n 1, 1) := by decide +kernel
theorem own_d_prog_23_method_1_code_5 : decode prog_23_method_1_code 5 = .ok (.invokestatic 7, 3) := by decide +kernel
theorem own_pd__D_V : parseMethodDescriptor "(D)V" = some ⟨[.double], none⟩ := by decide +kernel
theorem own_d_prog_23_method_1_code_8 : decode prog_23_method_1_code 8 = .ok (.dload_n 3, 1) := by decide +kernel
theorem own_d_prog_23_method_1_code_9 : decode prog_23_method_1_code 9 = .ok (.invokestatic 13, 3) := by decide +kernel
theorem own_d_prog_23_method_1_code_12 : decode prog_23_method_1_code 12 = .ok (.dload 5, 2) := by decide +kernel
theorem own_d_prog_23_method_1_code_14 : decode prog_23_method_1_code 14 = .ok (.invokestatic 7, 3) := by decide +kernel
theorem own_d_prog_23_method_1_code_17 : decode prog_23_method_1_code 17 = .ok (.dload 7, 2) := by decide +kernel
theorem own_d_prog_23_method_1_code_19 : decode prog_23_method_1_code 19 = .ok (.invokestatic 13, 3) := by decide +kernel
theorem own_d_prog_23_method_1_code_22 : decode prog_23_method_1_code 22 = .ok (.dload_n 1, 1) := by decide +kernel
theorem own_d_prog_23_method_1_code_23 : decode prog_23_method_1_code 23 = .ok (.dload 5, 2) := by decide +kernel
theorem own_d_prog_23_method_1_code_25 : decode prog_23_method_1_code 25 = .ok (.dcmp .l, 1) := by decide +kernel
theorem own_d_prog_23_method_1_code_26 : decode prog_23_method_1_code 26 = .ok (.ifCond .le 19, 3) := by decide +kernel
theorem own_d_prog_23_method_1_code_45 : decode prog_23_method_1_code 45 = .ok (.dload_n 3, 1) := by decide +kernel
theorem own_d_prog_23_method_1_code_46 : decode prog_23_method_1_code 46 = .ok (.dload 7, 2) := by decide +kernel
theorem own_d_prog_23_method_1_code_48 : decode prog_23_method_1_code 48 = .ok (.dcmp .l, 1) := by decide +kernel
theorem own_d_prog_23_method_1_code_49 : decode prog_23_method_1_code 49 = .ok (.ifCond .le 19, 3) := by decide +kernel
theorem own_d_prog_23_method_1_code_68 : decode prog_23_method_1_code 68 = .ok (.aload_n 0, 1) := by decide +kernel
theorem own_d_prog_23_method_1_code_69 : decode prog_23_method_1_code 69 = .ok (.dload_n 1, 1) := by decide +kernel
theorem own_d_prog_23_method_1_code_70 : decode prog_23_method_1_code 70 = .ok (.putfield 26, 3) := by decide +kernel
theorem own_d_prog_23_method_1_code_73 : decode prog_23_method_1_code 73 = .ok (.aload_n 0, 1) := by decide +kernel
theorem own_d_prog_23_method_1_code_74 : decode prog_23_method_1_code 74 = .ok (.dload_n 3, 1) := by decide +kernel
theorem own_d_prog_23_method_1_code_75 : decode prog_23_method_1_code 75 = .ok (.putfield 32, 3) := by decide +kernel
theorem own_d_prog_23_method_1_code_78 : decode prog_23_method_1_code 78 = .ok (.aload_n 0, 1) := by decide +kernel
theorem own_d_prog_23_method_1_code_79 : decode prog_23_method_1_code 79 = .ok (.dload 5, 2) := by decide +kernel
theorem own_d_prog_23_method_1_code_81 : decode prog_23_method_1_code 81 = .ok (.putfield 35, 3) := by decide +kernel
theorem own_d_prog_23_method_1_code_84 : decode prog_23_method_1_code 84 = .ok (.aload_n 0, 1) := by decide +kernel
theorem own_d_prog_23_method_1_code_85 : decode prog_23_method_1_code 85 = .ok (.dload 7, 2) := by decide +kernel
theorem own_d_prog_23_method_1_code_87 : decode prog_23_method_1_code 87 = .ok (.putfield 38, 3) := by decide +kernel
theorem own_d_prog_23_method_1_code_90 : decode prog_23_method_1_code 90 = .ok (.return_, 1) := by decide +kernel
theorem own_d_prog_23_method_2_code_0 : decode prog_23_method_2_code 0 = .ok (.dload_n 1, 1) := by decide +kernel
theorem own_d_prog_23_method_2_code_1 : decode prog_23_method_2_code 1 = .ok (.aload_n 0, 1) := by decide +kernel
theorem own_d_prog_23_method_2_code_2 : decode prog_23_method_2_code 2 = .ok (.getfield 26, 3) := by decide +kernel
theorem own_d_prog_23_method_2_code_5 : decode prog_23_method_2_code 5 = .ok (.dcmp .l, 1) := by decide +kernel
theorem own_d_prog_23_method_2_code_6 : decode prog_23_method_2_code 6 = .ok (.ifCond .lt 34, 3) := by decide +kernel
theorem own_d_prog_23_method_2_code_40 : decode prog_23_method_2_code 40 = .ok (.iconst 0, 1) := by decide +kernel
theorem own_d_prog_23_method_2_code_41 : decode prog_23_method_2_code 41 = .ok (.ireturn, 1) := by decide +kernel
theorem own_d_prog_23_method_2_code_9 : decode prog_23_method_2_code 9 = .ok (.dload_n 1, 1) := by decide +kernel
theorem own_d_prog_23_method_2_code_10 : decode prog_23_method_2_code 10 = .ok (.aload_n 0, 1) := by decide +kernel
theorem own_d_prog_23_method_2_code_11 : decode prog_23_method_2_code 11 = .ok (.getfield 35, 3) := by decide +kernel
theorem own_d_prog_23_method_2_code_14 : decode prog_23_method_2_code 14 = .ok (.dcmp .g, 1) := by decide +kernel
theorem own_d_prog_23_method_2_code_15 : decode prog_23_method_2_code 15 = .ok (.ifCond .gt 25, 3) := by decide +kernel
theorem own_d_prog_23_method_2_code_18 : decode prog_23_method_2_code 18 = .ok (.dload_n 3, 1) := by decide +kernel
theorem own_d_prog_23_method_2_code_19 : decode prog_23_method_2_code 19 = .ok (.aload_n 0, 1) := by decide +kernel
theorem own_d_prog_23_method_2_code_20 : decode prog_23_method_2_code 20 = .ok (.getfield 32, 3) := by decide +kernel
theorem own_d_prog_23_method_2_code_23 : decode prog_23_method_2_code 23 = .ok (.dcmp .l, 1) := by decide +kernel
theorem own_d_prog_23_method_2_code_24 : decode prog_23_method_2_code 24 = .ok (.ifCond .lt 16, 3) := by decide +kernel
theorem own_d_prog_23_method_2_code_27 : decode prog_23_method_2_code 27 = .ok (.dload_n 3, 1) := by decide +kernel
theorem own_d_prog_23_method_2_code_28 : decode prog_23_method_2_code 28 = .ok (.aload_n 0, 1) := by decide +kernel
theorem own_d_prog_23_method_2_code_29 : decode prog_23_method_2_code 29 = .ok (.getfield 38, 3) := by decide +kernel
theorem own_d_prog_23_method_2_code_32 : decode prog_23_method_2_code 32 = .ok (.dcmp .g, 1) := by decide +kernel
theorem own_d_prog_23_method_2_code_33 : decode prog_23_method_2_code 33 = .ok (.ifCond .gt 7, 3) := by decide +kernel
theorem own_d_prog_23_method_2_code_36 : decode prog_23_method_2_code 36 = .ok (.iconst 1, 1) := by decide +kernel
theorem own_d_prog_23_method_2_code_37 : decode prog_23_method_2_code 37 = .ok (.goto 4, 3) := by decide +kernel
theorem own_pn_BoxContainsPinLaw : plainName "com/example/kinegrid/kinegrid/core/BoxContainsPinLaw" = true := by first | (simp [plainName, overriddenIn]; done) | decide +kernel
theorem own_d_method_2_code_0 : decode method_2_code 0 = .ok (.iload_n 0, 1) := by decide +kernel
theorem own_d_method_2_code_1 : decode method_2_code 1 = .ok (.iconst 3, 1) := by decide +kernel
theorem own_d_method_2_code_2 : decode method_2_code 2 = .ok (.iand, 1) := by decide +kernel
theorem own_d_method_2_code_3 : decode method_2_code 3 = .ok (.istore 5, 2) := by decide +kernel
theorem own_d_method_2_code_5 : decode method_2_code 5 = .ok (.iload_n 0, 1) := by decide +kernel
theorem own_d_method_2_code_6 : decode method_2_code 6 = .ok (.iconst 2, 1) := by decide +kernel
theorem own_d_method_2_code_7 : decode method_2_code 7 = .ok (.iushr, 1) := by decide +kernel
theorem own_d_method_2_code_8 : decode method_2_code 8 = .ok (.iconst 3, 1) := by decide +kernel
theorem own_d_method_2_code_9 : decode method_2_code 9 = .ok (.irem, 1) := by decide +kernel
theorem own_d_method_2_code_10 : decode method_2_code 10 = .ok (.iconst 1, 1) := by decide +kernel
theorem own_d_method_2_code_11 : decode method_2_code 11 = .ok (.isub, 1) := by decide +kernel
theorem own_d_method_2_code_12 : decode method_2_code 12 = .ok (.istore 6, 2) := by decide +kernel
theorem own_d_method_2_code_14 : decode method_2_code 14 = .ok (.iload_n 0, 1) := by decide +kernel
theorem own_d_method_2_code_15 : decode method_2_code 15 = .ok (.iconst 4, 1) := by decide +kernel
theorem own_d_method_2_code_16 : decode method_2_code 16 = .ok (.iushr, 1) := by decide +kernel
theorem own_d_method_2_code_17 : decode method_2_code 17 = .ok (.iload_n 3, 1) := by decide +kernel
theorem own_d_method_2_code_18 : decode method_2_code 18 = .ok (.irem, 1) := by decide +kernel
theorem own_d_method_2_code_19 : decode method_2_code 19 = .ok (.iload 4, 2) := by decide +kernel
theorem own_d_method_2_code_21 : decode method_2_code 21 = .ok (.isub, 1) := by decide +kernel
theorem own_d_method_2_code_22 : decode method_2_code 22 = .ok (.istore 7, 2) := by decide +kernel
theorem own_d_method_2_code_24 : decode method_2_code 24 = .ok (.iload 5, 2) := by decide +kernel
theorem own_d_method_2_code_26 : decode method_2_code 26 = .ok (.iconst 1, 1) := by decide +kernel
theorem own_d_method_2_code_27 : decode method_2_code 27 = .ok (.if_icmp .ne 8, 3) := by decide +kernel
theorem own_d_method_2_code_35 : decode method_2_code 35 = .ok (.iload 5, 2) := by decide +kernel
theorem own_d_method_2_code_37 : decode method_2_code 37 = .ok (.iconst 2, 1) := by decide +kernel
theorem own_d_method_2_code_38 : decode method_2_code 38 = .ok (.if_icmp .ne 8, 3) := by decide +kernel
theorem own_d_method_2_code_46 : decode method_2_code 46 = .ok (.iload 7, 2) := by decide +kernel
theorem own_d_method_2_code_48 : decode method_2_code 48 = .ok (.ireturn, 1) := by decide +kernel
theorem own_d_method_2_code_41 : decode method_2_code 41 = .ok (.iload_n 2, 1) := by decide +kernel
theorem own_d_method_2_code_42 : decode method_2_code 42 = .ok (.iload 6, 2) := by decide +kernel
theorem own_d_method_2_code_44 : decode method_2_code 44 = .ok (.iadd, 1) := by decide +kernel
theorem own_d_method_2_code_45 : decode method_2_code 45 = .ok (.ireturn, 1) := by decide +kernel
theorem own_d_method_2_code_30 : decode method_2_code 30 = .ok (.iload_n 1, 1) := by decide +kernel
theorem own_d_method_2_code_31 : decode method_2_code 31 = .ok (.iload 6, 2) := by decide +kernel
theorem own_d_method_2_code_33 : decode method_2_code 33 = .ok (.iadd, 1) := by decide +kernel
theorem own_d_method_2_code_34 : decode method_2_code 34 = .ok (.ireturn, 1) := by decide +kernel
theorem own_pd__II_I : parseMethodDescriptor "(II)I" = some ⟨[.int, .int], some .int⟩ := by decide +kernel
theorem own_pd__IIIII_I : parseMethodDescriptor "(IIIII)I" = some ⟨[.int, .int, .int, .int, .int], some .int⟩ := by decide +kernel
theorem own_pd__DDDD_V : parseMethodDescriptor "(DDDD)V" = some ⟨[.double, .double, .double, .double], none⟩ := by decide +kernel
theorem own_pd__DD_Z : parseMethodDescriptor "(DD)Z" = some ⟨[.double, .double], some .boolean⟩ := by decide +kernel
def own_D (k : Int32) : UInt64 := FP.ddiv (FP.i2d k) 4611686018427387904
theorem own_two : (4611686018427387904 : UInt64) = FP.i2d 2 := by decide +kernel
theorem own_nn (k : Int32) : Jvm.Free.Fl.NoNaN64 (FP.ddiv (FP.i2d k) 4611686018427387904) := by
  rw [own_two]; exact Jvm.Free.Fl.ddiv_out (Jvm.Free.Fl.i2d_fin k).noNaN (Jvm.Free.Fl.i2d_fin 2) (Jvm.Free.Fl.i2d_nz (by decide))
theorem own_val (k : Int32) : FP.Core.val64 (own_D k) ≠ .nan := Jvm.Free.Fl.val64_no.mp (own_nn k)
def own_f (n : Nat) : Int := FP.Core.dkey (own_D (Int32.ofInt ((n : Int) - 402)))
set_option maxRecDepth 65536 in
theorem own_steps : ∀ n : Fin 804, own_f n.val < own_f (n.val + 1) := by decide +kernel
theorem own_up (i d : Nat) (h : i + d < 804) : own_f i < own_f (i + (d + 1)) := by
  induction d with
  | zero => exact own_steps ⟨i, by omega⟩
  | succ d ih => exact Int.lt_trans (ih (by omega)) (own_steps ⟨i + (d + 1), by omega⟩)
theorem own_at (k : Int32) (h1 : -402 ≤ k.toInt) (h2 : k.toInt ≤ 402) : FP.Core.dkey (own_D k) = own_f (k.toInt + 402).toNat := by
  have e : (((k.toInt + 402).toNat : Nat) : Int) - 402 = k.toInt := by omega
  unfold own_f; rw [e, Int32.ofInt_toInt]
theorem own_lt (j k : Int32) (h1 : -402 ≤ j.toInt) (h2 : k.toInt ≤ 402) (h : j.toInt < k.toInt) : FP.Core.dkey (own_D j) < FP.Core.dkey (own_D k) := by
  rw [own_at j h1 (by omega), own_at k (by omega) h2]
  have q := own_up (j.toInt + 402).toNat (k.toInt - j.toInt - 1).toNat (by omega)
  have e : (j.toInt + 402).toNat + ((k.toInt - j.toInt - 1).toNat + 1) = (k.toInt + 402).toNat := by omega
  rw [e] at q; exact q
def own_ci (j k : Int32) : Int32 := if j < k then -1 else if k < j then 1 else 0
theorem own_ci_lt (j k : Int32) : own_ci j k < 0 ↔ j < k := by
  unfold own_ci; split
  · rename_i h; exact ⟨fun _ => h, fun _ => by decide⟩
  · rename_i h; split <;> exact ⟨fun q => absurd q (by decide), fun q => absurd q h⟩
theorem own_ci_gt (j k : Int32) : 0 < own_ci j k ↔ k < j := by
  unfold own_ci; split
  · rename_i h; refine ⟨fun q => absurd q (by decide), fun q => ?_⟩
    rw [Int32.lt_iff_toInt_lt] at h q; omega
  · split
    · rename_i h; exact ⟨fun _ => h, fun _ => by decide⟩
    · rename_i h; exact ⟨fun q => absurd q (by decide), fun q => absurd q h⟩
def own_B (k : Int32) : Prop := -402 ≤ k.toInt ∧ k.toInt ≤ 402
theorem own_cmp (o : CmpOp) (j k : Int32) (hj : own_B j) (hk : own_B k) : cmpValue (FP.dcmp (own_D j) (own_D k)) o = own_ci j k := by
  unfold own_ci
  split
  · rename_i h; have q : FP.dcmp (own_D j) (own_D k) = some .lt := (FP.Core.dcmp_lt_key (own_val j) (own_val k)).mpr (own_lt j k hj.1 hk.2 (Int32.lt_iff_toInt_lt.mp h))
    rw [q]; cases o <;> rfl
  · rename_i h; split
    · rename_i h2; have q : FP.dcmp (own_D j) (own_D k) = some .gt := (FP.Core.dcmp_gt_key (own_val j) (own_val k)).mpr (own_lt k j hk.1 hj.2 (Int32.lt_iff_toInt_lt.mp h2))
      rw [q]; cases o <;> rfl
    · rename_i h2
      have e : j = k := Int32.toInt_inj.mp (by rw [Int32.lt_iff_toInt_lt] at h h2; omega)
      subst e; have q : FP.dcmp (own_D j) (own_D j) = some .eq := (FP.Core.dcmp_eq_key (own_val j) (own_val j)).mpr rfl
      rw [q]; cases o <;> rfl
theorem own_m180 : own_D (-360) = 13863909240395005952 := by decide +kernel
theorem own_p180 : own_D 360 = 4640537203540230144 := by decide +kernel
theorem own_m90 : own_D (-180) = 13859405640767635456 := by decide +kernel
theorem own_p90 : own_D 180 = 4636033603912859648 := by decide +kernel
theorem own_b360 : own_B 360 := ⟨by decide, by decide⟩
theorem own_b360m : own_B (-360) := ⟨by decide, by decide⟩
theorem own_b180 : own_B 180 := ⟨by decide, by decide⟩
theorem own_b180m : own_B (-180) := ⟨by decide, by decide⟩
set_option maxRecDepth 65536 in
set_option maxHeartbeats 40000000 in
theorem own_minI (l : Launch) (Z : State) (a0 : Array Value) (hw : ∀ d ∈ tables_1, d.before a0 Z = true) (p1 p2 : Int32) (h0 : Heap) (n0 : Nat)  :
    Ctr l Z (⟨"java/lang/Math", "min", "(II)I"⟩ : MethodName) jdk_29_method_69_code 2 (some .int) ({ frames := 0, cells := 0, slots := 0, locals := 0 } : Room) #[(.int p1), (.int p2)] h0 n0 (fun v h => v = some (.int (if p2 < p1 then p2 else p1)) ∧ h = h0) := by
  refine Ctr.of (Jvm.Free.JP.mathPlain rfl (by decide +kernel)) ?_
  intro p e s m below meth c C
  refine Go.frame (g' := mkF m 0 #[.val (.int p1), .val (.int p2)] []) (by first | (simp [entryFrame, mkF, argsToLocals, Value.category]; done) | rfl) ?_
  refine OwnW.iloadN C (pc' := 1) own_d_jdk_29_method_69_code_0 rfl rfl ?_
  refine OwnW.iloadN C (pc' := 2) own_d_jdk_29_method_69_code_1 rfl rfl ?_
  refine OwnW.icGt C (pcY := 9) (pcN := 5) own_d_jdk_29_method_69_code_2 (by decide) rfl rfl (fun hc2 => ?_) (fun hc2 => ?_)
  · refine OwnW.iloadN C (pc' := 10) own_d_jdk_29_method_69_code_9 rfl rfl ?_
    exact OwnW.retI C rfl ⟨by rw [if_pos hc2], rfl⟩ (by decide) (by decide) own_d_jdk_29_method_69_code_10
  · refine OwnW.iloadN C (pc' := 6) own_d_jdk_29_method_69_code_5 rfl rfl ?_
    refine OwnW.goto C (pc' := 10) own_d_jdk_29_method_69_code_6 (by decide) rfl ?_
    exact OwnW.retI C rfl ⟨by rw [if_neg hc2], rfl⟩ (by decide) (by decide) own_d_jdk_29_method_69_code_10
set_option maxRecDepth 65536 in
set_option maxHeartbeats 40000000 in
theorem own_maxI (l : Launch) (Z : State) (a0 : Array Value) (hw : ∀ d ∈ tables_1, d.before a0 Z = true) (p1 p2 : Int32) (h0 : Heap) (n0 : Nat)  :
    Ctr l Z (⟨"java/lang/Math", "max", "(II)I"⟩ : MethodName) jdk_29_method_65_code 2 (some .int) ({ frames := 0, cells := 0, slots := 0, locals := 0 } : Room) #[(.int p1), (.int p2)] h0 n0 (fun v h => v = some (.int (if p1 < p2 then p2 else p1)) ∧ h = h0) := by
  refine Ctr.of (Jvm.Free.JP.mathPlain rfl (by decide +kernel)) ?_
  intro p e s m below meth c C
  refine Go.frame (g' := mkF m 0 #[.val (.int p1), .val (.int p2)] []) (by first | (simp [entryFrame, mkF, argsToLocals, Value.category]; done) | rfl) ?_
  refine OwnW.iloadN C (pc' := 1) own_d_jdk_29_method_65_code_0 rfl rfl ?_
  refine OwnW.iloadN C (pc' := 2) own_d_jdk_29_method_65_code_1 rfl rfl ?_
  refine OwnW.icLt C (pcY := 9) (pcN := 5) own_d_jdk_29_method_65_code_2 (by decide) rfl rfl (fun hc2 => ?_) (fun hc2 => ?_)
  · refine OwnW.iloadN C (pc' := 10) own_d_jdk_29_method_65_code_9 rfl rfl ?_
    exact OwnW.retI C rfl ⟨by rw [if_pos hc2], rfl⟩ (by decide) (by decide) own_d_jdk_29_method_65_code_10
  · refine OwnW.iloadN C (pc' := 6) own_d_jdk_29_method_65_code_5 rfl rfl ?_
    refine OwnW.goto C (pc' := 10) own_d_jdk_29_method_65_code_6 (by decide) rfl ?_
    exact OwnW.retI C rfl ⟨by rw [if_neg hc2], rfl⟩ (by decide) (by decide) own_d_jdk_29_method_65_code_10
set_option maxRecDepth 65536 in
set_option maxHeartbeats 40000000 in
theorem own_rec (l : Launch) (Z : State) (a0 : Array Value) (hw : ∀ d ∈ tables_1, d.before a0 Z = true) (a1 : Addr) (h0 : Heap) (n0 : Nat)  :
    Ctr l Z (⟨"java/lang/Record", "<init>", "()V"⟩ : MethodName) jdk_30_method_1_code 1 none ({ frames := 1, cells := 0, slots := 0, locals := 12 } : Room) #[(.ref a1)] h0 n0 (fun v h => v = none ∧ h = h0) := by
  refine Ctr.of (plainFor_of_name own_pn_Record) ?_
  intro p e s m below meth c C
  refine Go.frame (g' := mkF m 0 #[.val (.ref a1)] []) (by first | (simp [entryFrame, mkF, argsToLocals, Value.category]; done) | rfl) ?_
  refine OwnW.aloadN C (pc' := 1) own_d_jdk_30_method_1_code_0 rfl rfl rfl ?_
  refine OwnW.initO C (pc' := 4) (hw _ (List.mem_of_getElem? (i := 24) rfl)) (hw _ (List.mem_of_getElem? (i := 25) rfl)) (hw _ (List.mem_of_getElem? (i := 26) rfl)) rfl (by decide) (W := 0) (Nat.le_of_eq rfl) (by decide) own_d_jdk_30_method_1_code_1 rfl ?_
  exact OwnW.retV C rfl ⟨rfl, rfl⟩ (by decide) (by decide) own_d_jdk_30_method_1_code_4
set_option maxRecDepth 65536 in
set_option maxHeartbeats 40000000 in
theorem own_checkLongitude (l : Launch) (Z : State) (a0 : Array Value) (hw : ∀ d ∈ tables_1, d.before a0 Z = true) (D : Int32 → UInt64) (hD : ∀ (o : CmpOp) (j k : Int32), own_B j → own_B k → cmpValue (FP.dcmp (D j) (D k)) o = own_ci j k) (e_m180 : D (-360) = 13863909240395005952) (e_p180 : D 360 = 4640537203540230144) (e_m90 : D (-180) = 13859405640767635456) (e_p90 : D 180 = 4636033603912859648) (k : Int32) (h0 : Heap) (n0 : Nat) (hb_k : own_B k) (h1 : ¬ k < -360) (h2 : ¬ 360 < k) :
    Ctr l Z (⟨"com/example/kinegrid/kinegrid/core/Position", "checkLongitude", "(D)V"⟩ : MethodName) prog_48_method_2_code 2 none ({ frames := 0, cells := 0, slots := 0, locals := 0 } : Room) #[(.double (D k))] h0 n0 (fun v h => v = none ∧ h = h0) := by
  refine Ctr.of (plainFor_of_name own_pn_Position) ?_
  intro p e s m below meth c C
  refine Go.frame (g' := mkF m 0 #[.val (.double (D k)), .second] []) (by first | (simp [entryFrame, mkF, argsToLocals, Value.category]; done) | rfl) ?_
  refine OwnW.dloadN C (pc' := 1) own_d_prog_48_method_2_code_0 rfl rfl ?_
  refine OwnW.ldc2D C (pc' := 4) own_d_prog_48_method_2_code_1 rfl (v := 13863909240395005952) (hw _ (List.mem_of_getElem? (i := 31) rfl)) ?_
  rw [← e_m180]
  refine OwnW.dcmp C (pc' := 5) own_d_prog_48_method_2_code_4 rfl (v := own_ci k (-360)) (hD .l k (-360) hb_k own_b360m) ?_
  refine OwnW.ifLt C (pcY := 16) (pcN := 8) own_d_prog_48_method_2_code_5 (by decide) rfl rfl (fun hc5 => absurd ((own_ci_lt _ _).mp hc5) h1) (fun hc5 => ?_)
  refine OwnW.dloadN C (pc' := 9) own_d_prog_48_method_2_code_8 rfl rfl ?_
  refine OwnW.ldc2D C (pc' := 12) own_d_prog_48_method_2_code_9 rfl (v := 4640537203540230144) (hw _ (List.mem_of_getElem? (i := 32) rfl)) ?_
  rw [← e_p180]
  refine OwnW.dcmp C (pc' := 13) own_d_prog_48_method_2_code_12 rfl (v := own_ci k 360) (hD .g k 360 hb_k own_b360) ?_
  refine OwnW.ifLe C (pcY := 30) (pcN := 16) own_d_prog_48_method_2_code_13 (by decide) rfl rfl (fun hc13 => ?_) (fun hc13 => absurd ((own_ci_gt _ _).mp hc13) h2)
  exact OwnW.retV C rfl ⟨rfl, rfl⟩ (by decide) (by decide) own_d_prog_48_method_2_code_30
set_option maxRecDepth 65536 in
set_option maxHeartbeats 40000000 in
theorem own_checkLatitude (l : Launch) (Z : State) (a0 : Array Value) (hw : ∀ d ∈ tables_1, d.before a0 Z = true) (D : Int32 → UInt64) (hD : ∀ (o : CmpOp) (j k : Int32), own_B j → own_B k → cmpValue (FP.dcmp (D j) (D k)) o = own_ci j k) (e_m180 : D (-360) = 13863909240395005952) (e_p180 : D 360 = 4640537203540230144) (e_m90 : D (-180) = 13859405640767635456) (e_p90 : D 180 = 4636033603912859648) (k : Int32) (h0 : Heap) (n0 : Nat) (hb_k : own_B k) (h1 : ¬ k < -180) (h2 : ¬ 180 < k) :
    Ctr l Z (⟨"com/example/kinegrid/kinegrid/core/Position", "checkLatitude", "(D)V"⟩ : MethodName) prog_48_method_3_code 2 none ({ frames := 0, cells := 0, slots := 0, locals := 0 } : Room) #[(.double (D k))] h0 n0 (fun v h => v = none ∧ h = h0) := by
  refine Ctr.of (plainFor_of_name own_pn_Position) ?_
  intro p e s m below meth c C
  refine Go.frame (g' := mkF m 0 #[.val (.double (D k)), .second] []) (by first | (simp [entryFrame, mkF, argsToLocals, Value.category]; done) | rfl) ?_
  refine OwnW.dloadN C (pc' := 1) own_d_prog_48_method_3_code_0 rfl rfl ?_
  refine OwnW.ldc2D C (pc' := 4) own_d_prog_48_method_3_code_1 rfl (v := 13859405640767635456) (hw _ (List.mem_of_getElem? (i := 36) rfl)) ?_
  rw [← e_m90]
  refine OwnW.dcmp C (pc' := 5) own_d_prog_48_method_3_code_4 rfl (v := own_ci k (-180)) (hD .l k (-180) hb_k own_b180m) ?_
  refine OwnW.ifLt C (pcY := 16) (pcN := 8) own_d_prog_48_method_3_code_5 (by decide) rfl rfl (fun hc5 => absurd ((own_ci_lt _ _).mp hc5) h1) (fun hc5 => ?_)
  refine OwnW.dloadN C (pc' := 9) own_d_prog_48_method_3_code_8 rfl rfl ?_
  refine OwnW.ldc2D C (pc' := 12) own_d_prog_48_method_3_code_9 rfl (v := 4636033603912859648) (hw _ (List.mem_of_getElem? (i := 37) rfl)) ?_
  rw [← e_p90]
  refine OwnW.dcmp C (pc' := 13) own_d_prog_48_method_3_code_12 rfl (v := own_ci k 180) (hD .g k 180 hb_k own_b180) ?_
  refine OwnW.ifLe C (pcY := 30) (pcN := 16) own_d_prog_48_method_3_code_13 (by decide) rfl rfl (fun hc13 => ?_) (fun hc13 => absurd ((own_ci_gt _ _).mp hc13) h2)
  exact OwnW.retV C rfl ⟨rfl, rfl⟩ (by decide) (by decide) own_d_prog_48_method_3_code_30
set_option maxRecDepth 65536 in
set_option maxHeartbeats 40000000 in
theorem own_box (l : Launch) (Z : State) (a0 : Array Value) (hw : ∀ d ∈ tables_1, d.before a0 Z = true) (D : Int32 → UInt64) (hD : ∀ (o : CmpOp) (j k : Int32), own_B j → own_B k → cmpValue (FP.dcmp (D j) (D k)) o = own_ci j k) (e_m180 : D (-360) = 13863909240395005952) (e_p180 : D 360 = 4640537203540230144) (e_m90 : D (-180) = 13859405640767635456) (e_p90 : D 180 = 4636033603912859648) (a1 : Addr) (ax ay bx cy : Int32) (h0 : Heap) (n0 : Nat) (X_a1 : Exa Z h0 a1 "com/example/kinegrid/kinegrid/core/Box") (F_minLongitude_a1 : Fld Z h0 a1 "com/example/kinegrid/kinegrid/core/Box" "minLongitude" "D" (.double 0)) (F_minLatitude_a1 : Fld Z h0 a1 "com/example/kinegrid/kinegrid/core/Box" "minLatitude" "D" (.double 0)) (F_maxLongitude_a1 : Fld Z h0 a1 "com/example/kinegrid/kinegrid/core/Box" "maxLongitude" "D" (.double 0)) (F_maxLatitude_a1 : Fld Z h0 a1 "com/example/kinegrid/kinegrid/core/Box" "maxLatitude" "D" (.double 0)) (g_a1 : n0 ≤ a1) (hb_ax : own_B ax) (l_ax : ¬ ax < -360) (u_ax : ¬ 360 < ax) (hb_ay : own_B ay) (l_ay : ¬ ay < -180) (u_ay : ¬ 180 < ay) (hb_bx : own_B bx) (l_bx : ¬ bx < -360) (u_bx : ¬ 360 < bx) (hb_cy : own_B cy) (l_cy : ¬ cy < -180) (u_cy : ¬ 180 < cy) (hx : ¬ bx < ax) (hy : ¬ cy < ay) :
    Ctr l Z (⟨"com/example/kinegrid/kinegrid/core/Box", "<init>", "(DDDD)V"⟩ : MethodName) prog_23_method_1_code 9 none ({ frames := 2, cells := 0, slots := 0, locals := 24 } : Room) #[(.ref a1), (.double (D ax)), (.double (D ay)), (.double (D bx)), (.double (D cy))] h0 n0 (fun v h => v = none ∧ Keep h0 h [a1] ∧ Fld Z h a1 "com/example/kinegrid/kinegrid/core/Box" "minLongitude" "D" (.double (D ax)) ∧ Fld Z h a1 "com/example/kinegrid/kinegrid/core/Box" "minLatitude" "D" (.double (D ay)) ∧ Fld Z h a1 "com/example/kinegrid/kinegrid/core/Box" "maxLongitude" "D" (.double (D bx)) ∧ Fld Z h a1 "com/example/kinegrid/kinegrid/core/Box" "maxLatitude" "D" (.double (D cy))) := by
  refine Ctr.of (plainFor_of_name own_pn_Box) ?_
  intro p e s m below meth c C
  refine Go.frame (g' := mkF m 0 #[.val (.ref a1), .val (.double (D ax)), .second, .val (.double (D ay)), .second, .val (.double (D bx)), .second, .val (.double (D cy)), .second] []) (by first | (simp [entryFrame, mkF, argsToLocals, Value.category]; done) | rfl) ?_
  have KH := Keep.refl h0 [a1]
  refine OwnW.aloadN C (pc' := 1) own_d_prog_23_method_1_code_0 rfl rfl rfl ?_
  refine OwnW.callX C (pc' := 4) (y := (⟨"java/lang/Record", "<init>", "()V"⟩ : MethodName)) (W := 0) (argsL := []) (rest := []) rfl (hw _ (List.mem_of_getElem? (i := 19) rfl)) (hw _ (List.mem_of_getElem? (i := 20) rfl)) (hw _ (List.mem_of_getElem? (i := 22) rfl)) (hw _ (List.mem_of_getElem? (i := 23) rfl)) (by decide) (own_rec l Z a0 hw a1 h0 n0) (K' := 0) (S' := 0) (by decide) (by decide) rfl own_pd___V rfl (Nat.le_of_eq rfl) rfl rfl (by decide) (by decide) rfl own_d_prog_23_method_1_code_1 rfl (fun v h' hq => ?_)
  obtain ⟨rfl, hh⟩ := hq
  refine Go.at (st' := []) rfl ?_
  refine Go.heap hh ?_
  refine OwnW.dloadN C (pc' := 5) own_d_prog_23_method_1_code_4 rfl rfl ?_
  refine OwnW.callS C (pc' := 8) (y := (⟨"com/example/kinegrid/kinegrid/core/Position", "checkLongitude", "(D)V"⟩ : MethodName)) (W := 0) (argsL := [(.double (D ax))]) (rest := []) (hw _ (List.mem_of_getElem? (i := 27) rfl)) (hw _ (List.mem_of_getElem? (i := 28) rfl)) (hw _ (List.mem_of_getElem? (i := 29) rfl)) (hw _ (List.mem_of_getElem? (i := 30) rfl)) (by decide) (own_checkLongitude l Z a0 hw D hD e_m180 e_p180 e_m90 e_p90 ax h0 n0 hb_ax l_ax u_ax) (K' := 0) (S' := 0) (by decide) (by decide) rfl own_pd__D_V rfl (Nat.le_of_eq rfl) rfl rfl (by decide) (by decide) rfl own_d_prog_23_method_1_code_5 rfl (fun v h' hq => ?_)
  obtain ⟨rfl, hh⟩ := hq
  refine Go.at (st' := []) rfl ?_
  refine Go.heap hh ?_
  refine OwnW.dloadN C (pc' := 9) own_d_prog_23_method_1_code_8 rfl rfl ?_
  refine OwnW.callS C (pc' := 12) (y := (⟨"com/example/kinegrid/kinegrid/core/Position", "checkLatitude", "(D)V"⟩ : MethodName)) (W := 0) (argsL := [(.double (D ay))]) (rest := []) (hw _ (List.mem_of_getElem? (i := 33) rfl)) (hw _ (List.mem_of_getElem? (i := 34) rfl)) (hw _ (List.mem_of_getElem? (i := 29) rfl)) (hw _ (List.mem_of_getElem? (i := 35) rfl)) (by decide) (own_checkLatitude l Z a0 hw D hD e_m180 e_p180 e_m90 e_p90 ay h0 n0 hb_ay l_ay u_ay) (K' := 0) (S' := 0) (by decide) (by decide) rfl own_pd__D_V rfl (Nat.le_of_eq rfl) rfl rfl (by decide) (by decide) rfl own_d_prog_23_method_1_code_9 rfl (fun v h' hq => ?_)
  obtain ⟨rfl, hh⟩ := hq
  refine Go.at (st' := []) rfl ?_
  refine Go.heap hh ?_
  refine OwnW.dload C (pc' := 14) own_d_prog_23_method_1_code_12 rfl rfl ?_
  refine OwnW.callS C (pc' := 17) (y := (⟨"com/example/kinegrid/kinegrid/core/Position", "checkLongitude", "(D)V"⟩ : MethodName)) (W := 0) (argsL := [(.double (D bx))]) (rest := []) (hw _ (List.mem_of_getElem? (i := 27) rfl)) (hw _ (List.mem_of_getElem? (i := 28) rfl)) (hw _ (List.mem_of_getElem? (i := 29) rfl)) (hw _ (List.mem_of_getElem? (i := 30) rfl)) (by decide) (own_checkLongitude l Z a0 hw D hD e_m180 e_p180 e_m90 e_p90 bx h0 n0 hb_bx l_bx u_bx) (K' := 0) (S' := 0) (by decide) (by decide) rfl own_pd__D_V rfl (Nat.le_of_eq rfl) rfl rfl (by decide) (by decide) rfl own_d_prog_23_method_1_code_14 rfl (fun v h' hq => ?_)
  obtain ⟨rfl, hh⟩ := hq
  refine Go.at (st' := []) rfl ?_
  refine Go.heap hh ?_
  refine OwnW.dload C (pc' := 19) own_d_prog_23_method_1_code_17 rfl rfl ?_
  refine OwnW.callS C (pc' := 22) (y := (⟨"com/example/kinegrid/kinegrid/core/Position", "checkLatitude", "(D)V"⟩ : MethodName)) (W := 0) (argsL := [(.double (D cy))]) (rest := []) (hw _ (List.mem_of_getElem? (i := 33) rfl)) (hw _ (List.mem_of_getElem? (i := 34) rfl)) (hw _ (List.mem_of_getElem? (i := 29) rfl)) (hw _ (List.mem_of_getElem? (i := 35) rfl)) (by decide) (own_checkLatitude l Z a0 hw D hD e_m180 e_p180 e_m90 e_p90 cy h0 n0 hb_cy l_cy u_cy) (K' := 0) (S' := 0) (by decide) (by decide) rfl own_pd__D_V rfl (Nat.le_of_eq rfl) rfl rfl (by decide) (by decide) rfl own_d_prog_23_method_1_code_19 rfl (fun v h' hq => ?_)
  obtain ⟨rfl, hh⟩ := hq
  refine Go.at (st' := []) rfl ?_
  refine Go.heap hh ?_
  refine OwnW.dloadN C (pc' := 23) own_d_prog_23_method_1_code_22 rfl rfl ?_
  refine OwnW.dload C (pc' := 25) own_d_prog_23_method_1_code_23 rfl rfl ?_
  refine OwnW.dcmp C (pc' := 26) own_d_prog_23_method_1_code_25 rfl (v := own_ci ax bx) (hD .l ax bx hb_ax hb_bx) ?_
  refine OwnW.ifLe C (pcY := 45) (pcN := 29) own_d_prog_23_method_1_code_26 (by decide) rfl rfl (fun hc26 => ?_) (fun hc26 => absurd ((own_ci_gt _ _).mp hc26) hx)
  refine OwnW.dloadN C (pc' := 46) own_d_prog_23_method_1_code_45 rfl rfl ?_
  refine OwnW.dload C (pc' := 48) own_d_prog_23_method_1_code_46 rfl rfl ?_
  refine OwnW.dcmp C (pc' := 49) own_d_prog_23_method_1_code_48 rfl (v := own_ci ay cy) (hD .l ay cy hb_ay hb_cy) ?_
  refine OwnW.ifLe C (pcY := 68) (pcN := 52) own_d_prog_23_method_1_code_49 (by decide) rfl rfl (fun hc49 => ?_) (fun hc49 => absurd ((own_ci_gt _ _).mp hc49) hy)
  refine OwnW.aloadN C (pc' := 69) own_d_prog_23_method_1_code_68 rfl rfl rfl ?_
  refine OwnW.dloadN C (pc' := 70) own_d_prog_23_method_1_code_69 rfl rfl ?_
  refine OwnW.putF C (pc' := 73) (host := "") (Or.inl (hw _ (List.mem_of_getElem? (i := 38) rfl))) Via.refl F_minLongitude_a1 X_a1 (Or.inr ⟨(hw _ (List.mem_of_getElem? (i := 39) rfl)), rfl, rfl⟩) (hw _ (List.mem_of_getElem? (i := 13) rfl)) (ty := .double) (by decide) rfl rfl g_a1 own_d_prog_23_method_1_code_70 rfl (fun h1 W1 => ?_)
  have KH := KH.wr W1 (Or.inl (List.mem_of_getElem? (i := 0) rfl))
  have X_a1 := X_a1.wr W1
  have F_minLongitude_a1 := F_minLongitude_a1.same W1
  have F_minLatitude_a1 := F_minLatitude_a1.other W1 (Or.inr (slot_ne (Or.inr (hw _ (List.mem_of_getElem? (i := 41) rfl))) (Or.inr (hw _ (List.mem_of_getElem? (i := 39) rfl))) (by decide) (t := .double) (t' := .double) (by decide) (by decide)))
  have F_maxLongitude_a1 := F_maxLongitude_a1.other W1 (Or.inr (slot_ne (Or.inr (hw _ (List.mem_of_getElem? (i := 43) rfl))) (Or.inr (hw _ (List.mem_of_getElem? (i := 39) rfl))) (by decide) (t := .double) (t' := .double) (by decide) (by decide)))
  have F_maxLatitude_a1 := F_maxLatitude_a1.other W1 (Or.inr (slot_ne (Or.inr (hw _ (List.mem_of_getElem? (i := 45) rfl))) (Or.inr (hw _ (List.mem_of_getElem? (i := 39) rfl))) (by decide) (t := .double) (t' := .double) (by decide) (by decide)))
  refine OwnW.aloadN C (pc' := 74) own_d_prog_23_method_1_code_73 rfl rfl rfl ?_
  refine OwnW.dloadN C (pc' := 75) own_d_prog_23_method_1_code_74 rfl rfl ?_
  refine OwnW.putF C (pc' := 78) (host := "") (Or.inl (hw _ (List.mem_of_getElem? (i := 40) rfl))) Via.refl F_minLatitude_a1 X_a1 (Or.inr ⟨(hw _ (List.mem_of_getElem? (i := 41) rfl)), rfl, rfl⟩) (hw _ (List.mem_of_getElem? (i := 13) rfl)) (ty := .double) (by decide) rfl rfl g_a1 own_d_prog_23_method_1_code_75 rfl (fun h2 W2 => ?_)
  have KH := KH.wr W2 (Or.inl (List.mem_of_getElem? (i := 0) rfl))
  have X_a1 := X_a1.wr W2
  have F_minLongitude_a1 := F_minLongitude_a1.other W2 (Or.inr (slot_ne (Or.inr (hw _ (List.mem_of_getElem? (i := 39) rfl))) (Or.inr (hw _ (List.mem_of_getElem? (i := 41) rfl))) (by decide) (t := .double) (t' := .double) (by decide) (by decide)))
  have F_minLatitude_a1 := F_minLatitude_a1.same W2
  have F_maxLongitude_a1 := F_maxLongitude_a1.other W2 (Or.inr (slot_ne (Or.inr (hw _ (List.mem_of_getElem? (i := 43) rfl))) (Or.inr (hw _ (List.mem_of_getElem? (i := 41) rfl))) (by decide) (t := .double) (t' := .double) (by decide) (by decide)))
  have F_maxLatitude_a1 := F_maxLatitude_a1.other W2 (Or.inr (slot_ne (Or.inr (hw _ (List.mem_of_getElem? (i := 45) rfl))) (Or.inr (hw _ (List.mem_of_getElem? (i := 41) rfl))) (by decide) (t := .double) (t' := .double) (by decide) (by decide)))
  refine OwnW.aloadN C (pc' := 79) own_d_prog_23_method_1_code_78 rfl rfl rfl ?_
  refine OwnW.dload C (pc' := 81) own_d_prog_23_method_1_code_79 rfl rfl ?_
  refine OwnW.putF C (pc' := 84) (host := "") (Or.inl (hw _ (List.mem_of_getElem? (i := 42) rfl))) Via.refl F_maxLongitude_a1 X_a1 (Or.inr ⟨(hw _ (List.mem_of_getElem? (i := 43) rfl)), rfl, rfl⟩) (hw _ (List.mem_of_getElem? (i := 13) rfl)) (ty := .double) (by decide) rfl rfl g_a1 own_d_prog_23_method_1_code_81 rfl (fun h3 W3 => ?_)
  have KH := KH.wr W3 (Or.inl (List.mem_of_getElem? (i := 0) rfl))
  have X_a1 := X_a1.wr W3
  have F_minLongitude_a1 := F_minLongitude_a1.other W3 (Or.inr (slot_ne (Or.inr (hw _ (List.mem_of_getElem? (i := 39) rfl))) (Or.inr (hw _ (List.mem_of_getElem? (i := 43) rfl))) (by decide) (t := .double) (t' := .double) (by decide) (by decide)))
  have F_minLatitude_a1 := F_minLatitude_a1.other W3 (Or.inr (slot_ne (Or.inr (hw _ (List.mem_of_getElem? (i := 41) rfl))) (Or.inr (hw _ (List.mem_of_getElem? (i := 43) rfl))) (by decide) (t := .double) (t' := .double) (by decide) (by decide)))
  have F_maxLongitude_a1 := F_maxLongitude_a1.same W3
  have F_maxLatitude_a1 := F_maxLatitude_a1.other W3 (Or.inr (slot_ne (Or.inr (hw _ (List.mem_of_getElem? (i := 45) rfl))) (Or.inr (hw _ (List.mem_of_getElem? (i := 43) rfl))) (by decide) (t := .double) (t' := .double) (by decide) (by decide)))
  refine OwnW.aloadN C (pc' := 85) own_d_prog_23_method_1_code_84 rfl rfl rfl ?_
  refine OwnW.dload C (pc' := 87) own_d_prog_23_method_1_code_85 rfl rfl ?_
  refine OwnW.putF C (pc' := 90) (host := "") (Or.inl (hw _ (List.mem_of_getElem? (i := 44) rfl))) Via.refl F_maxLatitude_a1 X_a1 (Or.inr ⟨(hw _ (List.mem_of_getElem? (i := 45) rfl)), rfl, rfl⟩) (hw _ (List.mem_of_getElem? (i := 13) rfl)) (ty := .double) (by decide) rfl rfl g_a1 own_d_prog_23_method_1_code_87 rfl (fun h4 W4 => ?_)
  have KH := KH.wr W4 (Or.inl (List.mem_of_getElem? (i := 0) rfl))
  have X_a1 := X_a1.wr W4
  have F_minLongitude_a1 := F_minLongitude_a1.other W4 (Or.inr (slot_ne (Or.inr (hw _ (List.mem_of_getElem? (i := 39) rfl))) (Or.inr (hw _ (List.mem_of_getElem? (i := 45) rfl))) (by decide) (t := .double) (t' := .double) (by decide) (by decide)))
  have F_minLatitude_a1 := F_minLatitude_a1.other W4 (Or.inr (slot_ne (Or.inr (hw _ (List.mem_of_getElem? (i := 41) rfl))) (Or.inr (hw _ (List.mem_of_getElem? (i := 45) rfl))) (by decide) (t := .double) (t' := .double) (by decide) (by decide)))
  have F_maxLongitude_a1 := F_maxLongitude_a1.other W4 (Or.inr (slot_ne (Or.inr (hw _ (List.mem_of_getElem? (i := 43) rfl))) (Or.inr (hw _ (List.mem_of_getElem? (i := 45) rfl))) (by decide) (t := .double) (t' := .double) (by decide) (by decide)))
  have F_maxLatitude_a1 := F_maxLatitude_a1.same W4
  exact OwnW.retV C rfl ⟨rfl, KH, F_minLongitude_a1, F_minLatitude_a1, F_maxLongitude_a1, F_maxLatitude_a1⟩ (by decide) (by decide) own_d_prog_23_method_1_code_90
set_option maxRecDepth 65536 in
set_option maxHeartbeats 40000000 in
theorem own_contains (l : Launch) (Z : State) (a0 : Array Value) (hw : ∀ d ∈ tables_1, d.before a0 Z = true) (D : Int32 → UInt64) (hD : ∀ (o : CmpOp) (j k : Int32), own_B j → own_B k → cmpValue (FP.dcmp (D j) (D k)) o = own_ci j k) (e_m180 : D (-360) = 13863909240395005952) (e_p180 : D 360 = 4640537203540230144) (e_m90 : D (-180) = 13859405640767635456) (e_p90 : D 180 = 4636033603912859648) (a1 : Addr) (x y ax ay bx cy : Int32) (h0 : Heap) (n0 : Nat) (F_minLongitude_a1 : Fld Z h0 a1 "com/example/kinegrid/kinegrid/core/Box" "minLongitude" "D" (.double (D ax))) (F_minLatitude_a1 : Fld Z h0 a1 "com/example/kinegrid/kinegrid/core/Box" "minLatitude" "D" (.double (D ay))) (F_maxLongitude_a1 : Fld Z h0 a1 "com/example/kinegrid/kinegrid/core/Box" "maxLongitude" "D" (.double (D bx))) (F_maxLatitude_a1 : Fld Z h0 a1 "com/example/kinegrid/kinegrid/core/Box" "maxLatitude" "D" (.double (D cy))) (hb_ax : own_B ax) (hb_ay : own_B ay) (hb_bx : own_B bx) (hb_cy : own_B cy) (hb_x : own_B x) (hb_y : own_B y) :
    Ctr l Z (⟨"com/example/kinegrid/kinegrid/core/Box", "contains", "(DD)Z"⟩ : MethodName) prog_23_method_2_code 5 (some .boolean) ({ frames := 0, cells := 0, slots := 0, locals := 0 } : Room) #[(.ref a1), (.double (D x)), (.double (D y))] h0 n0 (fun v h => v = some (.int (if own_ci x ax < 0 then (0 : Int32) else if 0 < own_ci x bx then 0 else if own_ci y ay < 0 then 0 else if 0 < own_ci y cy then 0 else 1)) ∧ h = h0) := by
  refine Ctr.of (plainFor_of_name own_pn_Box) ?_
  intro p e s m below meth c C
  refine Go.frame (g' := mkF m 0 #[.val (.ref a1), .val (.double (D x)), .second, .val (.double (D y)), .second] []) (by first | (simp [entryFrame, mkF, argsToLocals, Value.category]; done) | rfl) ?_
  refine OwnW.dloadN C (pc' := 1) own_d_prog_23_method_2_code_0 rfl rfl ?_
  refine OwnW.aloadN C (pc' := 2) own_d_prog_23_method_2_code_1 rfl rfl rfl ?_
  refine OwnW.getF C (pc' := 5) (host := "") (Or.inl (hw _ (List.mem_of_getElem? (i := 38) rfl))) Via.refl F_minLongitude_a1 own_d_prog_23_method_2_code_2 rfl ?_
  refine OwnW.dcmp C (pc' := 6) own_d_prog_23_method_2_code_5 rfl (v := own_ci x ax) (hD .l x ax hb_x hb_ax) ?_
  refine OwnW.ifLt C (pcY := 40) (pcN := 9) own_d_prog_23_method_2_code_6 (by decide) rfl rfl (fun hc6 => ?_) (fun hc6 => ?_)
  · refine OwnW.iconst C (pc' := 41) own_d_prog_23_method_2_code_40 rfl (z := 0) rfl ?_
    exact OwnW.retN C (t := .boolean) (z := (0 : Int32)) rfl (by simp) rfl ⟨by rw [if_pos hc6], rfl⟩ (by decide) (by decide) own_d_prog_23_method_2_code_41
  · refine OwnW.dloadN C (pc' := 10) own_d_prog_23_method_2_code_9 rfl rfl ?_
    refine OwnW.aloadN C (pc' := 11) own_d_prog_23_method_2_code_10 rfl rfl rfl ?_
    refine OwnW.getF C (pc' := 14) (host := "") (Or.inl (hw _ (List.mem_of_getElem? (i := 42) rfl))) Via.refl F_maxLongitude_a1 own_d_prog_23_method_2_code_11 rfl ?_
    refine OwnW.dcmp C (pc' := 15) own_d_prog_23_method_2_code_14 rfl (v := own_ci x bx) (hD .g x bx hb_x hb_bx) ?_
    refine OwnW.ifGt C (pcY := 40) (pcN := 18) own_d_prog_23_method_2_code_15 (by decide) rfl rfl (fun hc15 => ?_) (fun hc15 => ?_)
    · refine OwnW.iconst C (pc' := 41) own_d_prog_23_method_2_code_40 rfl (z := 0) rfl ?_
      exact OwnW.retN C (t := .boolean) (z := (0 : Int32)) rfl (by simp) rfl ⟨by rw [if_neg hc6, if_pos hc15], rfl⟩ (by decide) (by decide) own_d_prog_23_method_2_code_41
    · refine OwnW.dloadN C (pc' := 19) own_d_prog_23_method_2_code_18 rfl rfl ?_
      refine OwnW.aloadN C (pc' := 20) own_d_prog_23_method_2_code_19 rfl rfl rfl ?_
      refine OwnW.getF C (pc' := 23) (host := "") (Or.inl (hw _ (List.mem_of_getElem? (i := 40) rfl))) Via.refl F_minLatitude_a1 own_d_prog_23_method_2_code_20 rfl ?_
      refine OwnW.dcmp C (pc' := 24) own_d_prog_23_method_2_code_23 rfl (v := own_ci y ay) (hD .l y ay hb_y hb_ay) ?_
      refine OwnW.ifLt C (pcY := 40) (pcN := 27) own_d_prog_23_method_2_code_24 (by decide) rfl rfl (fun hc24 => ?_) (fun hc24 => ?_)
      · refine OwnW.iconst C (pc' := 41) own_d_prog_23_method_2_code_40 rfl (z := 0) rfl ?_
        exact OwnW.retN C (t := .boolean) (z := (0 : Int32)) rfl (by simp) rfl ⟨by rw [if_neg hc6, if_neg hc15, if_pos hc24], rfl⟩ (by decide) (by decide) own_d_prog_23_method_2_code_41
      · refine OwnW.dloadN C (pc' := 28) own_d_prog_23_method_2_code_27 rfl rfl ?_
        refine OwnW.aloadN C (pc' := 29) own_d_prog_23_method_2_code_28 rfl rfl rfl ?_
        refine OwnW.getF C (pc' := 32) (host := "") (Or.inl (hw _ (List.mem_of_getElem? (i := 44) rfl))) Via.refl F_maxLatitude_a1 own_d_prog_23_method_2_code_29 rfl ?_
        refine OwnW.dcmp C (pc' := 33) own_d_prog_23_method_2_code_32 rfl (v := own_ci y cy) (hD .g y cy hb_y hb_cy) ?_
        refine OwnW.ifGt C (pcY := 40) (pcN := 36) own_d_prog_23_method_2_code_33 (by decide) rfl rfl (fun hc33 => ?_) (fun hc33 => ?_)
        · refine OwnW.iconst C (pc' := 41) own_d_prog_23_method_2_code_40 rfl (z := 0) rfl ?_
          exact OwnW.retN C (t := .boolean) (z := (0 : Int32)) rfl (by simp) rfl ⟨by rw [if_neg hc6, if_neg hc15, if_neg hc24, if_pos hc33], rfl⟩ (by decide) (by decide) own_d_prog_23_method_2_code_41
        · refine OwnW.iconst C (pc' := 37) own_d_prog_23_method_2_code_36 rfl (z := 1) rfl ?_
          refine OwnW.goto C (pc' := 41) own_d_prog_23_method_2_code_37 (by decide) rfl ?_
          exact OwnW.retN C (t := .boolean) (z := (1 : Int32)) rfl (by simp) rfl ⟨by rw [if_neg hc6, if_neg hc15, if_neg hc24, if_neg hc33], rfl⟩ (by decide) (by decide) own_d_prog_23_method_2_code_41
theorem own_off (p : Int32) : -1 ≤ ((((p.toUInt32 >>> ((2 : Int32) &&& 31).toUInt32).toInt32) % (3 : Int32)) - (1 : Int32)).toInt ∧ ((((p.toUInt32 >>> ((2 : Int32) &&& 31).toUInt32).toInt32) % (3 : Int32)) - (1 : Int32)).toInt ≤ 1 := by
  have a := c_iushr p 2 2 (by decide) (by decide)
  have n : 0 ≤ ((p.toUInt32 >>> ((2 : Int32) &&& 31).toUInt32).toInt32).toInt := by rw [a]; omega
  have b := (c_irem ((p.toUInt32 >>> ((2 : Int32) &&& 31).toUInt32).toInt32) 3 3 (by decide)).1 n
  have c := c_isub (((p.toUInt32 >>> ((2 : Int32) &&& 31).toUInt32).toInt32) % (3 : Int32)) 1
  have r := rng32 ((((p.toUInt32 >>> ((2 : Int32) &&& 31).toUInt32).toInt32) % (3 : Int32)) - (1 : Int32))
  have e : (1 : Int32).toInt = 1 := rfl
  omega
theorem own_free (p sp sh : Int32) (d : Int) (hd : sp.toInt = d) (h1 : 0 < d) (h2 : d ≤ 801) (h3 : 0 ≤ sh.toInt) (h4 : sh.toInt ≤ 400) (h5 : d - 1 - sh.toInt ≤ 400) : -400 ≤ ((((p.toUInt32 >>> ((4 : Int32) &&& 31).toUInt32).toInt32) % sp) - sh).toInt ∧ ((((p.toUInt32 >>> ((4 : Int32) &&& 31).toUInt32).toInt32) % sp) - sh).toInt ≤ 400 := by
  have a := c_iushr p 4 4 (by decide) (by decide)
  have n : 0 ≤ ((p.toUInt32 >>> ((4 : Int32) &&& 31).toUInt32).toInt32).toInt := by rw [a]; omega
  have b := (c_irem ((p.toUInt32 >>> ((4 : Int32) &&& 31).toUInt32).toInt32) sp d hd).1 n
  have b1 := Int.emod_nonneg ((p.toUInt32 >>> ((4 : Int32) &&& 31).toUInt32).toInt32).toInt (show d ≠ 0 by omega)
  have b2 := Int.emod_lt_of_pos ((p.toUInt32 >>> ((4 : Int32) &&& 31).toUInt32).toInt32).toInt h1
  have c := c_isub (((p.toUInt32 >>> ((4 : Int32) &&& 31).toUInt32).toInt32) % sp) sh
  have r := rng32 ((((p.toUInt32 >>> ((4 : Int32) &&& 31).toUInt32).toInt32) % sp) - sh)
  omega
theorem own_near (a o : Int32) (ha : -360 ≤ a.toInt ∧ a.toInt ≤ 360) (ho : -1 ≤ o.toInt ∧ o.toInt ≤ 1) : own_B (a + o) := by
  have c := c_iadd a o
  have r := rng32 (a + o)
  constructor <;> omega
set_option maxRecDepth 65536 in
set_option maxHeartbeats 40000000 in
theorem own_pick (l : Launch) (Z : State) (a0 : Array Value) (hw : ∀ d ∈ tables_1, d.before a0 Z = true) (p1 p2 p3 p4 p5 : Int32) (d : Int) (h0 : Heap) (n0 : Nat) (h4 : p4 ≠ 0) (ha : -360 ≤ p2.toInt ∧ p2.toInt ≤ 360) (hb : -360 ≤ p3.toInt ∧ p3.toInt ≤ 360) (hd : p4.toInt = d) (g1 : 0 < d) (g2 : d ≤ 801) (g3 : 0 ≤ p5.toInt) (g4 : p5.toInt ≤ 400) (g5 : d - 1 - p5.toInt ≤ 400) :
    Ctr l Z (⟨"com/example/kinegrid/kinegrid/core/BoxContainsPinLaw", "pick", "(IIIII)I"⟩ : MethodName) method_2_code 8 (some .int) ({ frames := 0, cells := 0, slots := 0, locals := 0 } : Room) #[(.int p1), (.int p2), (.int p3), (.int p4), (.int p5)] h0 n0 (fun v h => (∃ r : Int32, v = some (.int r) ∧ own_B r) ∧ h = h0) := by
  refine Ctr.of (plainFor_of_name own_pn_BoxContainsPinLaw) ?_
  intro p e s m below meth c C
  refine Go.frame (g' := mkF m 0 #[.val (.int p1), .val (.int p2), .val (.int p3), .val (.int p4), .val (.int p5), .unset, .unset, .unset] []) (by first | (simp [entryFrame, mkF, argsToLocals, Value.category]; done) | rfl) ?_
  refine OwnW.iloadN C (pc' := 1) own_d_method_2_code_0 rfl rfl ?_
  refine OwnW.iconst C (pc' := 2) own_d_method_2_code_1 rfl (z := 3) rfl ?_
  refine OwnW.iand C (pc' := 3) own_d_method_2_code_2 rfl ?_
  refine OwnW.istore C (pc' := 5) own_d_method_2_code_3 rfl (l' := #[.val (.int p1), .val (.int p2), .val (.int p3), .val (.int p4), .val (.int p5), .val (.int (p1 &&& (3 : Int32))), .unset, .unset]) rfl ?_
  refine OwnW.iloadN C (pc' := 6) own_d_method_2_code_5 rfl rfl ?_
  refine OwnW.iconst C (pc' := 7) own_d_method_2_code_6 rfl (z := 2) rfl ?_
  refine OwnW.iushr C (pc' := 8) own_d_method_2_code_7 rfl ?_
  refine OwnW.iconst C (pc' := 9) own_d_method_2_code_8 rfl (z := 3) rfl ?_
  refine OwnW.irem C (pc' := 10) own_d_method_2_code_9 rfl (by first | decide | assumption) ?_
  refine OwnW.iconst C (pc' := 11) own_d_method_2_code_10 rfl (z := 1) rfl ?_
  refine OwnW.isub C (pc' := 12) own_d_method_2_code_11 rfl ?_
  refine OwnW.istore C (pc' := 14) own_d_method_2_code_12 rfl (l' := #[.val (.int p1), .val (.int p2), .val (.int p3), .val (.int p4), .val (.int p5), .val (.int (p1 &&& (3 : Int32))), .val (.int ((((p1.toUInt32 >>> ((2 : Int32) &&& 31).toUInt32).toInt32) % (3 : Int32)) - (1 : Int32))), .unset]) rfl ?_
  refine OwnW.iloadN C (pc' := 15) own_d_method_2_code_14 rfl rfl ?_
  refine OwnW.iconst C (pc' := 16) own_d_method_2_code_15 rfl (z := 4) rfl ?_
  refine OwnW.iushr C (pc' := 17) own_d_method_2_code_16 rfl ?_
  refine OwnW.iloadN C (pc' := 18) own_d_method_2_code_17 rfl rfl ?_
  refine OwnW.irem C (pc' := 19) own_d_method_2_code_18 rfl (by first | decide | assumption) ?_
  refine OwnW.iload C (pc' := 21) own_d_method_2_code_19 rfl rfl ?_
  refine OwnW.isub C (pc' := 22) own_d_method_2_code_21 rfl ?_
  refine OwnW.istore C (pc' := 24) own_d_method_2_code_22 rfl (l' := #[.val (.int p1), .val (.int p2), .val (.int p3), .val (.int p4), .val (.int p5), .val (.int (p1 &&& (3 : Int32))), .val (.int ((((p1.toUInt32 >>> ((2 : Int32) &&& 31).toUInt32).toInt32) % (3 : Int32)) - (1 : Int32))), .val (.int ((((p1.toUInt32 >>> ((4 : Int32) &&& 31).toUInt32).toInt32) % p4) - p5))]) rfl ?_
  refine OwnW.iload C (pc' := 26) own_d_method_2_code_24 rfl rfl ?_
  refine OwnW.iconst C (pc' := 27) own_d_method_2_code_26 rfl (z := 1) rfl ?_
  refine OwnW.icNe C (pcY := 35) (pcN := 30) own_d_method_2_code_27 (by decide) rfl rfl (fun hc27 => ?_) (fun hc27 => ?_)
  · refine OwnW.iload C (pc' := 37) own_d_method_2_code_35 rfl rfl ?_
    refine OwnW.iconst C (pc' := 38) own_d_method_2_code_37 rfl (z := 2) rfl ?_
    refine OwnW.icNe C (pcY := 46) (pcN := 41) own_d_method_2_code_38 (by decide) rfl rfl (fun hc38 => ?_) (fun hc38 => ?_)
    · refine OwnW.iload C (pc' := 48) own_d_method_2_code_46 rfl rfl ?_
      exact OwnW.retI C rfl ⟨⟨_, rfl, Int.le_trans (by decide) (own_free p1 p4 p5 d hd g1 g2 g3 g4 g5).1, Int.le_trans (own_free p1 p4 p5 d hd g1 g2 g3 g4 g5).2 (by decide)⟩, rfl⟩ (by decide) (by decide) own_d_method_2_code_48
    · refine OwnW.iloadN C (pc' := 42) own_d_method_2_code_41 rfl rfl ?_
      refine OwnW.iload C (pc' := 44) own_d_method_2_code_42 rfl rfl ?_
      refine OwnW.iadd C (pc' := 45) own_d_method_2_code_44 rfl ?_
      exact OwnW.retI C rfl ⟨⟨_, rfl, own_near p3 _ hb (own_off p1)⟩, rfl⟩ (by decide) (by decide) own_d_method_2_code_45
  · refine OwnW.iloadN C (pc' := 31) own_d_method_2_code_30 rfl rfl ?_
    refine OwnW.iload C (pc' := 33) own_d_method_2_code_31 rfl rfl ?_
    refine OwnW.iadd C (pc' := 34) own_d_method_2_code_33 rfl ?_
    exact OwnW.retI C rfl ⟨⟨_, rfl, own_near p2 _ ha (own_off p1)⟩, rfl⟩ (by decide) (by decide) own_d_method_2_code_34
theorem own_rem (i m sh : Int32) (d : Int) (hd : m.toInt = d) (h1 : 0 < d) (h2 : d ≤ 721) (h3 : 0 ≤ sh.toInt) (h4 : sh.toInt ≤ 360) : -sh.toInt ≤ (((i &&& (2147483647 : Int32)) % m) - sh).toInt ∧ (((i &&& (2147483647 : Int32)) % m) - sh).toInt ≤ d - 1 - sh.toInt := by
  have a := c_and i 2147483647 (by decide)
  have b := (c_irem (i &&& 2147483647) m d hd).1 a.1
  have b1 := Int.emod_nonneg (i &&& 2147483647).toInt (show d ≠ 0 by omega)
  have b2 := Int.emod_lt_of_pos (i &&& 2147483647).toInt h1
  have c := c_isub ((i &&& (2147483647 : Int32)) % m) sh
  have r := rng32 (((i &&& (2147483647 : Int32)) % m) - sh)
  omega
theorem own_mm (n : Int) (a b : Int32) (ha : -n ≤ a.toInt ∧ a.toInt ≤ n) (hb : -n ≤ b.toInt ∧ b.toInt ≤ n) : ∃ lo hi : Int32, (if b < a then b else a) = lo ∧ (if a < b then b else a) = hi ∧ (-n ≤ lo.toInt ∧ lo.toInt ≤ n) ∧ (-n ≤ hi.toInt ∧ hi.toInt ≤ n) ∧ ¬ hi < lo := by
  refine ⟨_, _, rfl, rfl, ?_, ?_, ?_⟩
  · split <;> omega
  · split <;> omega
  · rw [Int32.lt_iff_toInt_lt]
    by_cases q : b < a <;> by_cases r : a < b <;> simp only [q, r, if_true, if_false] <;> rw [Int32.lt_iff_toInt_lt] at q r <;> omega
theorem own_BofR {n : Int} {k : Int32} (h : -n ≤ k.toInt ∧ k.toInt ≤ n) (hn : n ≤ 402) : own_B k := ⟨by omega, by omega⟩
theorem own_nlo {n : Int} {k z : Int32} (h : -n ≤ k.toInt ∧ k.toInt ≤ n) (hz : z.toInt = -n) : ¬ k < z := by rw [Int32.lt_iff_toInt_lt]; omega
theorem own_nhi {n : Int} {k z : Int32} (h : -n ≤ k.toInt ∧ k.toInt ≤ n) (hz : z.toInt = n) : ¬ z < k := by rw [Int32.lt_iff_toInt_lt]; omega
set_option maxRecDepth 65536 in
set_option maxHeartbeats 40000000 in
theorem own_law (l : Launch) (Z : State) (a0 : Array Value) (hw : ∀ d ∈ tables_1, d.before a0 Z = true) (D : Int32 → UInt64) (hD : ∀ (o : CmpOp) (j k : Int32), own_B j → own_B k → cmpValue (FP.dcmp (D j) (D k)) o = own_ci j k) (e_m180 : D (-360) = 13863909240395005952) (e_p180 : D 360 = 4640537203540230144) (e_m90 : D (-180) = 13859405640767635456) (e_p90 : D 180 = 4636033603912859648) (hDd : ∀ k : Int32, FP.ddiv (FP.i2d k) 4611686018427387904 = D k) (i0 : Int32) (i1 : Int32) (i2 : Int32) (i3 : Int32) (i4 : Int32) (i5 : Int32) (h0 : Heap) (n0 : Nat) (Sz : n0 ≤ h0.size) :
    Ctr l Z x code maxLocals ret room_1 #[(.int i0), (.int i1), (.int i2), (.int i3), (.int i4), (.int i5)] h0 n0 (fun v _ => v = some (.int 1)) := by
  refine Ctr.of (plainFor_of_name own_pn_BoxContainsPinLaw) ?_
  intro p e s m below meth c C
  refine Go.frame (g' := mkF m 0 #[.val (.int i0), .val (.int i1), .val (.int i2), .val (.int i3), .val (.int i4), .val (.int i5), .unset, .unset, .unset, .unset, .unset, .unset, .unset, .unset, .unset, .unset, .unset, .unset] []) (by first | (simp [entryFrame, mkF, argsToLocals, Value.category, maxLocals]; done) | rfl) ?_
  refine OwnW.iloadN C (pc' := 1) at_0 rfl rfl ?_
  refine OwnW.ldcI C (pc' := 3) at_1 rfl (v := 2147483647) (hw _ (List.mem_of_getElem? (i := 0) rfl)) ?_
  refine OwnW.iand C (pc' := 4) at_3 rfl ?_
  refine OwnW.sipush C (pc' := 7) at_4 rfl (z := 721) rfl ?_
  refine OwnW.irem C (pc' := 8) at_7 rfl (by first | decide | assumption) ?_
  refine OwnW.sipush C (pc' := 11) at_8 rfl (z := 360) rfl ?_
  refine OwnW.isub C (pc' := 12) at_11 rfl ?_
  refine OwnW.istore C (pc' := 14) at_12 rfl (l' := #[.val (.int i0), .val (.int i1), .val (.int i2), .val (.int i3), .val (.int i4), .val (.int i5), .val (.int (((i0 &&& (2147483647 : Int32)) % (721 : Int32)) - (360 : Int32))), .unset, .unset, .unset, .unset, .unset, .unset, .unset, .unset, .unset, .unset, .unset]) rfl ?_
  refine OwnW.iloadN C (pc' := 15) at_14 rfl rfl ?_
  refine OwnW.ldcI C (pc' := 17) at_15 rfl (v := 2147483647) (hw _ (List.mem_of_getElem? (i := 0) rfl)) ?_
  refine OwnW.iand C (pc' := 18) at_17 rfl ?_
  refine OwnW.sipush C (pc' := 21) at_18 rfl (z := 721) rfl ?_
  refine OwnW.irem C (pc' := 22) at_21 rfl (by first | decide | assumption) ?_
  refine OwnW.sipush C (pc' := 25) at_22 rfl (z := 360) rfl ?_
  refine OwnW.isub C (pc' := 26) at_25 rfl ?_
  refine OwnW.istore C (pc' := 28) at_26 rfl (l' := #[.val (.int i0), .val (.int i1), .val (.int i2), .val (.int i3), .val (.int i4), .val (.int i5), .val (.int (((i0 &&& (2147483647 : Int32)) % (721 : Int32)) - (360 : Int32))), .val (.int (((i1 &&& (2147483647 : Int32)) % (721 : Int32)) - (360 : Int32))), .unset, .unset, .unset, .unset, .unset, .unset, .unset, .unset, .unset, .unset]) rfl ?_
  refine OwnW.iloadN C (pc' := 29) at_28 rfl rfl ?_
  refine OwnW.ldcI C (pc' := 31) at_29 rfl (v := 2147483647) (hw _ (List.mem_of_getElem? (i := 0) rfl)) ?_
  refine OwnW.iand C (pc' := 32) at_31 rfl ?_
  refine OwnW.sipush C (pc' := 35) at_32 rfl (z := 361) rfl ?_
  refine OwnW.irem C (pc' := 36) at_35 rfl (by first | decide | assumption) ?_
  refine OwnW.sipush C (pc' := 39) at_36 rfl (z := 180) rfl ?_
  refine OwnW.isub C (pc' := 40) at_39 rfl ?_
  refine OwnW.istore C (pc' := 42) at_40 rfl (l' := #[.val (.int i0), .val (.int i1), .val (.int i2), .val (.int i3), .val (.int i4), .val (.int i5), .val (.int (((i0 &&& (2147483647 : Int32)) % (721 : Int32)) - (360 : Int32))), .val (.int (((i1 &&& (2147483647 : Int32)) % (721 : Int32)) - (360 : Int32))), .val (.int (((i2 &&& (2147483647 : Int32)) % (361 : Int32)) - (180 : Int32))), .unset, .unset, .unset, .unset, .unset, .unset, .unset, .unset, .unset]) rfl ?_
  refine OwnW.iloadN C (pc' := 43) at_42 rfl rfl ?_
  refine OwnW.ldcI C (pc' := 45) at_43 rfl (v := 2147483647) (hw _ (List.mem_of_getElem? (i := 0) rfl)) ?_
  refine OwnW.iand C (pc' := 46) at_45 rfl ?_
  refine OwnW.sipush C (pc' := 49) at_46 rfl (z := 361) rfl ?_
  refine OwnW.irem C (pc' := 50) at_49 rfl (by first | decide | assumption) ?_
  refine OwnW.sipush C (pc' := 53) at_50 rfl (z := 180) rfl ?_
  refine OwnW.isub C (pc' := 54) at_53 rfl ?_
  refine OwnW.istore C (pc' := 56) at_54 rfl (l' := #[.val (.int i0), .val (.int i1), .val (.int i2), .val (.int i3), .val (.int i4), .val (.int i5), .val (.int (((i0 &&& (2147483647 : Int32)) % (721 : Int32)) - (360 : Int32))), .val (.int (((i1 &&& (2147483647 : Int32)) % (721 : Int32)) - (360 : Int32))), .val (.int (((i2 &&& (2147483647 : Int32)) % (361 : Int32)) - (180 : Int32))), .val (.int (((i3 &&& (2147483647 : Int32)) % (361 : Int32)) - (180 : Int32))), .unset, .unset, .unset, .unset, .unset, .unset, .unset, .unset]) rfl ?_
  obtain ⟨ax, bx, e1, e2, rax, rbx, hx⟩ := own_mm 360 (((i0 &&& (2147483647 : Int32)) % (721 : Int32)) - (360 : Int32)) (((i1 &&& (2147483647 : Int32)) % (721 : Int32)) - (360 : Int32)) (own_rem i0 721 360 721 (by decide) (by decide) (by decide) (by decide) (by decide)) (own_rem i1 721 360 721 (by decide) (by decide) (by decide) (by decide) (by decide))
  obtain ⟨ay, cy, e3, e4, ray, rcy, hy⟩ := own_mm 180 (((i2 &&& (2147483647 : Int32)) % (361 : Int32)) - (180 : Int32)) (((i3 &&& (2147483647 : Int32)) % (361 : Int32)) - (180 : Int32)) (own_rem i2 361 180 361 (by decide) (by decide) (by decide) (by decide) (by decide)) (own_rem i3 361 180 361 (by decide) (by decide) (by decide) (by decide) (by decide))
  have hb_ax := own_BofR rax (by decide)
  have hb_bx := own_BofR rbx (by decide)
  have hb_ay := own_BofR ray (by decide)
  have hb_cy := own_BofR rcy (by decide)
  refine OwnW.iload C (pc' := 58) at_56 rfl rfl ?_
  refine OwnW.iload C (pc' := 60) at_58 rfl rfl ?_
  refine OwnW.callS C (pc' := 63) (y := (⟨"java/lang/Math", "min", "(II)I"⟩ : MethodName)) (W := 0) (argsL := [(.int (((i0 &&& (2147483647 : Int32)) % (721 : Int32)) - (360 : Int32))), (.int (((i1 &&& (2147483647 : Int32)) % (721 : Int32)) - (360 : Int32)))]) (rest := []) (hw _ (List.mem_of_getElem? (i := 1) rfl)) (hw _ (List.mem_of_getElem? (i := 2) rfl)) (hw _ (List.mem_of_getElem? (i := 3) rfl)) (hw _ (List.mem_of_getElem? (i := 4) rfl)) (by decide) (own_minI l Z a0 hw _ _ h0 n0) (K' := 0) (S' := 0) (by decide) (by decide) rfl own_pd__II_I rfl (Nat.le_of_eq rfl) rfl rfl (by decide) (by decide) rfl at_60 rfl (fun v h' hq => ?_)
  obtain ⟨hv, hh⟩ := hq
  rw [e1] at hv; subst hv
  refine Go.at (st' := [(.int ax)]) rfl ?_
  refine Go.heap hh ?_
  refine OwnW.istore C (pc' := 65) at_63 rfl (l' := #[.val (.int i0), .val (.int i1), .val (.int i2), .val (.int i3), .val (.int i4), .val (.int i5), .val (.int (((i0 &&& (2147483647 : Int32)) % (721 : Int32)) - (360 : Int32))), .val (.int (((i1 &&& (2147483647 : Int32)) % (721 : Int32)) - (360 : Int32))), .val (.int (((i2 &&& (2147483647 : Int32)) % (361 : Int32)) - (180 : Int32))), .val (.int (((i3 &&& (2147483647 : Int32)) % (361 : Int32)) - (180 : Int32))), .val (.int ax), .unset, .unset, .unset, .unset, .unset, .unset, .unset]) rfl ?_
  refine OwnW.iload C (pc' := 67) at_65 rfl rfl ?_
  refine OwnW.iload C (pc' := 69) at_67 rfl rfl ?_
  refine OwnW.callS C (pc' := 72) (y := (⟨"java/lang/Math", "max", "(II)I"⟩ : MethodName)) (W := 0) (argsL := [(.int (((i0 &&& (2147483647 : Int32)) % (721 : Int32)) - (360 : Int32))), (.int (((i1 &&& (2147483647 : Int32)) % (721 : Int32)) - (360 : Int32)))]) (rest := []) (hw _ (List.mem_of_getElem? (i := 5) rfl)) (hw _ (List.mem_of_getElem? (i := 6) rfl)) (hw _ (List.mem_of_getElem? (i := 3) rfl)) (hw _ (List.mem_of_getElem? (i := 7) rfl)) (by decide) (own_maxI l Z a0 hw _ _ h0 n0) (K' := 0) (S' := 0) (by decide) (by decide) rfl own_pd__II_I rfl (Nat.le_of_eq rfl) rfl rfl (by decide) (by decide) rfl at_69 rfl (fun v h' hq => ?_)
  obtain ⟨hv, hh⟩ := hq
  rw [e2] at hv; subst hv
  refine Go.at (st' := [(.int bx)]) rfl ?_
  refine Go.heap hh ?_
  refine OwnW.istore C (pc' := 74) at_72 rfl (l' := #[.val (.int i0), .val (.int i1), .val (.int i2), .val (.int i3), .val (.int i4), .val (.int i5), .val (.int (((i0 &&& (2147483647 : Int32)) % (721 : Int32)) - (360 : Int32))), .val (.int (((i1 &&& (2147483647 : Int32)) % (721 : Int32)) - (360 : Int32))), .val (.int (((i2 &&& (2147483647 : Int32)) % (361 : Int32)) - (180 : Int32))), .val (.int (((i3 &&& (2147483647 : Int32)) % (361 : Int32)) - (180 : Int32))), .val (.int ax), .val (.int bx), .unset, .unset, .unset, .unset, .unset, .unset]) rfl ?_
  refine OwnW.iload C (pc' := 76) at_74 rfl rfl ?_
  refine OwnW.iload C (pc' := 78) at_76 rfl rfl ?_
  refine OwnW.callS C (pc' := 81) (y := (⟨"java/lang/Math", "min", "(II)I"⟩ : MethodName)) (W := 0) (argsL := [(.int (((i2 &&& (2147483647 : Int32)) % (361 : Int32)) - (180 : Int32))), (.int (((i3 &&& (2147483647 : Int32)) % (361 : Int32)) - (180 : Int32)))]) (rest := []) (hw _ (List.mem_of_getElem? (i := 1) rfl)) (hw _ (List.mem_of_getElem? (i := 2) rfl)) (hw _ (List.mem_of_getElem? (i := 3) rfl)) (hw _ (List.mem_of_getElem? (i := 4) rfl)) (by decide) (own_minI l Z a0 hw _ _ h0 n0) (K' := 0) (S' := 0) (by decide) (by decide) rfl own_pd__II_I rfl (Nat.le_of_eq rfl) rfl rfl (by decide) (by decide) rfl at_78 rfl (fun v h' hq => ?_)
  obtain ⟨hv, hh⟩ := hq
  rw [e3] at hv; subst hv
  refine Go.at (st' := [(.int ay)]) rfl ?_
  refine Go.heap hh ?_
  refine OwnW.istore C (pc' := 83) at_81 rfl (l' := #[.val (.int i0), .val (.int i1), .val (.int i2), .val (.int i3), .val (.int i4), .val (.int i5), .val (.int (((i0 &&& (2147483647 : Int32)) % (721 : Int32)) - (360 : Int32))), .val (.int (((i1 &&& (2147483647 : Int32)) % (721 : Int32)) - (360 : Int32))), .val (.int (((i2 &&& (2147483647 : Int32)) % (361 : Int32)) - (180 : Int32))), .val (.int (((i3 &&& (2147483647 : Int32)) % (361 : Int32)) - (180 : Int32))), .val (.int ax), .val (.int bx), .val (.int ay), .unset, .unset, .unset, .unset, .unset]) rfl ?_
  refine OwnW.iload C (pc' := 85) at_83 rfl rfl ?_
  refine OwnW.iload C (pc' := 87) at_85 rfl rfl ?_
  refine OwnW.callS C (pc' := 90) (y := (⟨"java/lang/Math", "max", "(II)I"⟩ : MethodName)) (W := 0) (argsL := [(.int (((i2 &&& (2147483647 : Int32)) % (361 : Int32)) - (180 : Int32))), (.int (((i3 &&& (2147483647 : Int32)) % (361 : Int32)) - (180 : Int32)))]) (rest := []) (hw _ (List.mem_of_getElem? (i := 5) rfl)) (hw _ (List.mem_of_getElem? (i := 6) rfl)) (hw _ (List.mem_of_getElem? (i := 3) rfl)) (hw _ (List.mem_of_getElem? (i := 7) rfl)) (by decide) (own_maxI l Z a0 hw _ _ h0 n0) (K' := 0) (S' := 0) (by decide) (by decide) rfl own_pd__II_I rfl (Nat.le_of_eq rfl) rfl rfl (by decide) (by decide) rfl at_87 rfl (fun v h' hq => ?_)
  obtain ⟨hv, hh⟩ := hq
  rw [e4] at hv; subst hv
  refine Go.at (st' := [(.int cy)]) rfl ?_
  refine Go.heap hh ?_
  refine OwnW.istore C (pc' := 92) at_90 rfl (l' := #[.val (.int i0), .val (.int i1), .val (.int i2), .val (.int i3), .val (.int i4), .val (.int i5), .val (.int (((i0 &&& (2147483647 : Int32)) % (721 : Int32)) - (360 : Int32))), .val (.int (((i1 &&& (2147483647 : Int32)) % (721 : Int32)) - (360 : Int32))), .val (.int (((i2 &&& (2147483647 : Int32)) % (361 : Int32)) - (180 : Int32))), .val (.int (((i3 &&& (2147483647 : Int32)) % (361 : Int32)) - (180 : Int32))), .val (.int ax), .val (.int bx), .val (.int ay), .val (.int cy), .unset, .unset, .unset, .unset]) rfl ?_
  refine OwnW.iload C (pc' := 94) at_92 rfl rfl ?_
  refine OwnW.iload C (pc' := 96) at_94 rfl rfl ?_
  refine OwnW.iload C (pc' := 98) at_96 rfl rfl ?_
  refine OwnW.sipush C (pc' := 101) at_98 rfl (z := 801) rfl ?_
  refine OwnW.sipush C (pc' := 104) at_101 rfl (z := 400) rfl ?_
  refine OwnW.callS C (pc' := 107) (y := (⟨"com/example/kinegrid/kinegrid/core/BoxContainsPinLaw", "pick", "(IIIII)I"⟩ : MethodName)) (W := 0) (argsL := [(.int i4), (.int ax), (.int bx), (.int (801 : Int32)), (.int (400 : Int32))]) (rest := []) (hw _ (List.mem_of_getElem? (i := 8) rfl)) (hw _ (List.mem_of_getElem? (i := 9) rfl)) (hw _ (List.mem_of_getElem? (i := 10) rfl)) (hw _ (List.mem_of_getElem? (i := 11) rfl)) (by decide) (own_pick l Z a0 hw _ ax bx 801 400 801 h0 n0 (by decide) (by omega : -360 ≤ ax.toInt ∧ ax.toInt ≤ 360) (by omega : -360 ≤ bx.toInt ∧ bx.toInt ≤ 360) (by decide) (by decide) (by decide) (by decide) (by decide) (by decide)) (K' := 0) (S' := 0) (by decide) (by decide) rfl own_pd__IIIII_I rfl (Nat.le_of_eq rfl) rfl rfl (by decide) (by decide) rfl at_104 rfl (fun v h' hq => ?_)
  obtain ⟨⟨px, rfl, hb_px⟩, hh⟩ := hq
  refine Go.at (st' := [(.int px)]) rfl ?_
  refine Go.heap hh ?_
  refine OwnW.istore C (pc' := 109) at_107 rfl (l' := #[.val (.int i0), .val (.int i1), .val (.int i2), .val (.int i3), .val (.int i4), .val (.int i5), .val (.int (((i0 &&& (2147483647 : Int32)) % (721 : Int32)) - (360 : Int32))), .val (.int (((i1 &&& (2147483647 : Int32)) % (721 : Int32)) - (360 : Int32))), .val (.int (((i2 &&& (2147483647 : Int32)) % (361 : Int32)) - (180 : Int32))), .val (.int (((i3 &&& (2147483647 : Int32)) % (361 : Int32)) - (180 : Int32))), .val (.int ax), .val (.int bx), .val (.int ay), .val (.int cy), .val (.int px), .unset, .unset, .unset]) rfl ?_
  refine OwnW.iload C (pc' := 111) at_109 rfl rfl ?_
  refine OwnW.iload C (pc' := 113) at_111 rfl rfl ?_
  refine OwnW.iload C (pc' := 115) at_113 rfl rfl ?_
  refine OwnW.sipush C (pc' := 118) at_115 rfl (z := 441) rfl ?_
  refine OwnW.sipush C (pc' := 121) at_118 rfl (z := 220) rfl ?_
  refine OwnW.callS C (pc' := 124) (y := (⟨"com/example/kinegrid/kinegrid/core/BoxContainsPinLaw", "pick", "(IIIII)I"⟩ : MethodName)) (W := 0) (argsL := [(.int i5), (.int ay), (.int cy), (.int (441 : Int32)), (.int (220 : Int32))]) (rest := []) (hw _ (List.mem_of_getElem? (i := 8) rfl)) (hw _ (List.mem_of_getElem? (i := 9) rfl)) (hw _ (List.mem_of_getElem? (i := 10) rfl)) (hw _ (List.mem_of_getElem? (i := 11) rfl)) (by decide) (own_pick l Z a0 hw _ ay cy 441 220 441 h0 n0 (by decide) (by omega : -360 ≤ ay.toInt ∧ ay.toInt ≤ 360) (by omega : -360 ≤ cy.toInt ∧ cy.toInt ≤ 360) (by decide) (by decide) (by decide) (by decide) (by decide) (by decide)) (K' := 0) (S' := 0) (by decide) (by decide) rfl own_pd__IIIII_I rfl (Nat.le_of_eq rfl) rfl rfl (by decide) (by decide) rfl at_121 rfl (fun v h' hq => ?_)
  obtain ⟨⟨py, rfl, hb_py⟩, hh⟩ := hq
  refine Go.at (st' := [(.int py)]) rfl ?_
  refine Go.heap hh ?_
  refine OwnW.istore C (pc' := 126) at_124 rfl (l' := #[.val (.int i0), .val (.int i1), .val (.int i2), .val (.int i3), .val (.int i4), .val (.int i5), .val (.int (((i0 &&& (2147483647 : Int32)) % (721 : Int32)) - (360 : Int32))), .val (.int (((i1 &&& (2147483647 : Int32)) % (721 : Int32)) - (360 : Int32))), .val (.int (((i2 &&& (2147483647 : Int32)) % (361 : Int32)) - (180 : Int32))), .val (.int (((i3 &&& (2147483647 : Int32)) % (361 : Int32)) - (180 : Int32))), .val (.int ax), .val (.int bx), .val (.int ay), .val (.int cy), .val (.int px), .val (.int py), .unset, .unset]) rfl ?_
  refine OwnW.newO C (pc' := 129) (K' := 1) (S' := 4) (hw _ (List.mem_of_getElem? (i := 12) rfl)) (hw _ (List.mem_of_getElem? (i := 13) rfl)) (hw _ (List.mem_of_getElem? (i := 14) rfl)) at_126 rfl rfl rfl (by decide) (by decide) (fun h1 b1 g1 E1 X_b1 D1 => ?_)
  have g_b1 : n0 ≤ b1 := Nat.le_trans Sz (Nat.le_of_eq g1.symm)
  have Sz := Nat.le_trans Sz E1.1
  have F_minLongitude_b1 : Fld Z h1 b1 "com/example/kinegrid/kinegrid/core/Box" "minLongitude" "D" (.double 0) := D1 (Or.inr (hw _ (List.mem_of_getElem? (i := 39) rfl))) (ty := .double) (by decide)
  have F_minLatitude_b1 : Fld Z h1 b1 "com/example/kinegrid/kinegrid/core/Box" "minLatitude" "D" (.double 0) := D1 (Or.inr (hw _ (List.mem_of_getElem? (i := 41) rfl))) (ty := .double) (by decide)
  have F_maxLongitude_b1 : Fld Z h1 b1 "com/example/kinegrid/kinegrid/core/Box" "maxLongitude" "D" (.double 0) := D1 (Or.inr (hw _ (List.mem_of_getElem? (i := 43) rfl))) (ty := .double) (by decide)
  have F_maxLatitude_b1 : Fld Z h1 b1 "com/example/kinegrid/kinegrid/core/Box" "maxLatitude" "D" (.double 0) := D1 (Or.inr (hw _ (List.mem_of_getElem? (i := 45) rfl))) (ty := .double) (by decide)
  refine OwnW.dup C (pc' := 130) at_129 rfl rfl ?_
  refine OwnW.iload C (pc' := 132) at_130 rfl rfl ?_
  refine OwnW.i2d C (pc' := 133) at_132 rfl ?_
  refine OwnW.ldc2D C (pc' := 136) at_133 rfl (v := 4611686018427387904) (hw _ (List.mem_of_getElem? (i := 15) rfl)) ?_
  refine OwnW.ddiv C (pc' := 137) at_136 rfl (own_nn ax) (v := D ax) (hDd ax) ?_
  refine OwnW.iload C (pc' := 139) at_137 rfl rfl ?_
  refine OwnW.i2d C (pc' := 140) at_139 rfl ?_
  refine OwnW.ldc2D C (pc' := 143) at_140 rfl (v := 4611686018427387904) (hw _ (List.mem_of_getElem? (i := 15) rfl)) ?_
  refine OwnW.ddiv C (pc' := 144) at_143 rfl (own_nn ay) (v := D ay) (hDd ay) ?_
  refine OwnW.iload C (pc' := 146) at_144 rfl rfl ?_
  refine OwnW.i2d C (pc' := 147) at_146 rfl ?_
  refine OwnW.ldc2D C (pc' := 150) at_147 rfl (v := 4611686018427387904) (hw _ (List.mem_of_getElem? (i := 15) rfl)) ?_
  refine OwnW.ddiv C (pc' := 151) at_150 rfl (own_nn bx) (v := D bx) (hDd bx) ?_
  refine OwnW.iload C (pc' := 153) at_151 rfl rfl ?_
  refine OwnW.i2d C (pc' := 154) at_153 rfl ?_
  refine OwnW.ldc2D C (pc' := 157) at_154 rfl (v := 4611686018427387904) (hw _ (List.mem_of_getElem? (i := 15) rfl)) ?_
  refine OwnW.ddiv C (pc' := 158) at_157 rfl (own_nn cy) (v := D cy) (hDd cy) ?_
  refine OwnW.callX C (pc' := 161) (y := (⟨"com/example/kinegrid/kinegrid/core/Box", "<init>", "(DDDD)V"⟩ : MethodName)) (W := 1) (argsL := [(.double (D ax)), (.double (D ay)), (.double (D bx)), (.double (D cy))]) (rest := [(.ref b1)]) rfl (hw _ (List.mem_of_getElem? (i := 16) rfl)) (hw _ (List.mem_of_getElem? (i := 17) rfl)) (hw _ (List.mem_of_getElem? (i := 14) rfl)) (hw _ (List.mem_of_getElem? (i := 18) rfl)) (by decide) (own_box l Z a0 hw D hD e_m180 e_p180 e_m90 e_p90 b1 ax ay bx cy h1 n0 X_b1 F_minLongitude_b1 F_minLatitude_b1 F_maxLongitude_b1 F_maxLatitude_b1 g_b1 hb_ax (own_nlo rax (by decide)) (own_nhi rax (by decide)) hb_ay (own_nlo ray (by decide)) (own_nhi ray (by decide)) hb_bx (own_nlo rbx (by decide)) (own_nhi rbx (by decide)) hb_cy (own_nlo rcy (by decide)) (own_nhi rcy (by decide)) hx hy) (K' := 1) (S' := 4) (by decide) (by decide) rfl own_pd__DDDD_V rfl (Nat.le_of_eq rfl) rfl rfl (by decide) (by decide) rfl at_158 rfl (fun v h2 hq => ?_)
  obtain ⟨rfl, KK, G1, G2, G3, G4⟩ := hq
  refine Go.at (st' := [(.ref b1)]) rfl ?_
  have X_b1 := X_b1.keep KK
  refine OwnW.astore C (pc' := 163) at_161 rfl rfl (l' := #[.val (.int i0), .val (.int i1), .val (.int i2), .val (.int i3), .val (.int i4), .val (.int i5), .val (.int (((i0 &&& (2147483647 : Int32)) % (721 : Int32)) - (360 : Int32))), .val (.int (((i1 &&& (2147483647 : Int32)) % (721 : Int32)) - (360 : Int32))), .val (.int (((i2 &&& (2147483647 : Int32)) % (361 : Int32)) - (180 : Int32))), .val (.int (((i3 &&& (2147483647 : Int32)) % (361 : Int32)) - (180 : Int32))), .val (.int ax), .val (.int bx), .val (.int ay), .val (.int cy), .val (.int px), .val (.int py), .val (.ref b1), .unset]) rfl ?_
  refine OwnW.iload C (pc' := 165) at_163 rfl rfl ?_
  refine OwnW.iload C (pc' := 167) at_165 rfl rfl ?_
  refine OwnW.icGt C (pcY := 195) (pcN := 170) at_167 (by decide) rfl rfl (fun hc167 => ?_) (fun hc167 => ?_)
  · refine OwnW.iconst C (pc' := 196) at_195 rfl (z := 0) rfl ?_
    refine OwnW.istore C (pc' := 198) at_196 rfl (l' := #[.val (.int i0), .val (.int i1), .val (.int i2), .val (.int i3), .val (.int i4), .val (.int i5), .val (.int (((i0 &&& (2147483647 : Int32)) % (721 : Int32)) - (360 : Int32))), .val (.int (((i1 &&& (2147483647 : Int32)) % (721 : Int32)) - (360 : Int32))), .val (.int (((i2 &&& (2147483647 : Int32)) % (361 : Int32)) - (180 : Int32))), .val (.int (((i3 &&& (2147483647 : Int32)) % (361 : Int32)) - (180 : Int32))), .val (.int ax), .val (.int bx), .val (.int ay), .val (.int cy), .val (.int px), .val (.int py), .val (.ref b1), .val (.int (0 : Int32))]) rfl ?_
    refine OwnW.aload C (pc' := 200) at_198 rfl rfl rfl ?_
    refine OwnW.iload C (pc' := 202) at_200 rfl rfl ?_
    refine OwnW.i2d C (pc' := 203) at_202 rfl ?_
    refine OwnW.ldc2D C (pc' := 206) at_203 rfl (v := 4611686018427387904) (hw _ (List.mem_of_getElem? (i := 15) rfl)) ?_
    refine OwnW.ddiv C (pc' := 207) at_206 rfl (own_nn px) (v := D px) (hDd px) ?_
    refine OwnW.iload C (pc' := 209) at_207 rfl rfl ?_
    refine OwnW.i2d C (pc' := 210) at_209 rfl ?_
    refine OwnW.ldc2D C (pc' := 213) at_210 rfl (v := 4611686018427387904) (hw _ (List.mem_of_getElem? (i := 15) rfl)) ?_
    refine OwnW.ddiv C (pc' := 214) at_213 rfl (own_nn py) (v := D py) (hDd py) ?_
    refine OwnW.callV C (pc' := 217) (y := (⟨"com/example/kinegrid/kinegrid/core/Box", "contains", "(DD)Z"⟩ : MethodName)) (z := (⟨"com/example/kinegrid/kinegrid/core/Box", "contains", "(DD)Z"⟩ : MethodName)) (W := 0) (argsL := [(.double (D px)), (.double (D py))]) (rest := []) (hw _ (List.mem_of_getElem? (i := 46) rfl)) (hw _ (List.mem_of_getElem? (i := 47) rfl)) (notFace_of_selects (args := #[]) (mvT C.2.1 (hw _ (List.mem_of_getElem? (i := 49) rfl)))) (hw _ (List.mem_of_getElem? (i := 49) rfl)) (hw _ (List.mem_of_getElem? (i := 48) rfl)) (hw _ (List.mem_of_getElem? (i := 14) rfl)) (hw _ (List.mem_of_getElem? (i := 50) rfl)) X_b1 (by decide) (own_contains l Z a0 hw D hD e_m180 e_p180 e_m90 e_p90 b1 px py ax ay bx cy h2 n0 G1 G2 G3 G4 hb_ax hb_ay hb_bx hb_cy hb_px hb_py) (K' := 1) (S' := 4) (by decide) (by decide) rfl own_pd__DD_Z rfl (Nat.le_of_eq rfl) rfl rfl (by decide) (by decide) rfl at_214 rfl (fun v h' hq => ?_)
    obtain ⟨rfl, hh⟩ := hq
    refine Go.at (st' := [(.int (if own_ci px ax < 0 then (0 : Int32) else if 0 < own_ci px bx then 0 else if own_ci py ay < 0 then 0 else if 0 < own_ci py cy then 0 else 1))]) rfl ?_
    refine Go.heap hh ?_
    refine OwnW.iload C (pc' := 219) at_217 rfl rfl ?_
    refine OwnW.icNe C (pcY := 226) (pcN := 222) at_219 (by decide) rfl rfl (fun hc219 => absurd (by rw [if_pos ((own_ci_lt px ax).mpr hc167)]) hc219) (fun hc219 => ?_)
    refine OwnW.iconst C (pc' := 223) at_222 rfl (z := 1) rfl ?_
    refine OwnW.goto C (pc' := 227) at_223 (by decide) rfl ?_
    exact OwnW.retN C (t := .boolean) (z := (1 : Int32)) rfl (by simp) rfl rfl (by decide) (by decide) at_227
  · refine OwnW.iload C (pc' := 172) at_170 rfl rfl ?_
    refine OwnW.iload C (pc' := 174) at_172 rfl rfl ?_
    refine OwnW.icGt C (pcY := 195) (pcN := 177) at_174 (by decide) rfl rfl (fun hc174 => ?_) (fun hc174 => ?_)
    · refine OwnW.iconst C (pc' := 196) at_195 rfl (z := 0) rfl ?_
      refine OwnW.istore C (pc' := 198) at_196 rfl (l' := #[.val (.int i0), .val (.int i1), .val (.int i2), .val (.int i3), .val (.int i4), .val (.int i5), .val (.int (((i0 &&& (2147483647 : Int32)) % (721 : Int32)) - (360 : Int32))), .val (.int (((i1 &&& (2147483647 : Int32)) % (721 : Int32)) - (360 : Int32))), .val (.int (((i2 &&& (2147483647 : Int32)) % (361 : Int32)) - (180 : Int32))), .val (.int (((i3 &&& (2147483647 : Int32)) % (361 : Int32)) - (180 : Int32))), .val (.int ax), .val (.int bx), .val (.int ay), .val (.int cy), .val (.int px), .val (.int py), .val (.ref b1), .val (.int (0 : Int32))]) rfl ?_
      refine OwnW.aload C (pc' := 200) at_198 rfl rfl rfl ?_
      refine OwnW.iload C (pc' := 202) at_200 rfl rfl ?_
      refine OwnW.i2d C (pc' := 203) at_202 rfl ?_
      refine OwnW.ldc2D C (pc' := 206) at_203 rfl (v := 4611686018427387904) (hw _ (List.mem_of_getElem? (i := 15) rfl)) ?_
      refine OwnW.ddiv C (pc' := 207) at_206 rfl (own_nn px) (v := D px) (hDd px) ?_
      refine OwnW.iload C (pc' := 209) at_207 rfl rfl ?_
      refine OwnW.i2d C (pc' := 210) at_209 rfl ?_
      refine OwnW.ldc2D C (pc' := 213) at_210 rfl (v := 4611686018427387904) (hw _ (List.mem_of_getElem? (i := 15) rfl)) ?_
      refine OwnW.ddiv C (pc' := 214) at_213 rfl (own_nn py) (v := D py) (hDd py) ?_
      refine OwnW.callV C (pc' := 217) (y := (⟨"com/example/kinegrid/kinegrid/core/Box", "contains", "(DD)Z"⟩ : MethodName)) (z := (⟨"com/example/kinegrid/kinegrid/core/Box", "contains", "(DD)Z"⟩ : MethodName)) (W := 0) (argsL := [(.double (D px)), (.double (D py))]) (rest := []) (hw _ (List.mem_of_getElem? (i := 46) rfl)) (hw _ (List.mem_of_getElem? (i := 47) rfl)) (notFace_of_selects (args := #[]) (mvT C.2.1 (hw _ (List.mem_of_getElem? (i := 49) rfl)))) (hw _ (List.mem_of_getElem? (i := 49) rfl)) (hw _ (List.mem_of_getElem? (i := 48) rfl)) (hw _ (List.mem_of_getElem? (i := 14) rfl)) (hw _ (List.mem_of_getElem? (i := 50) rfl)) X_b1 (by decide) (own_contains l Z a0 hw D hD e_m180 e_p180 e_m90 e_p90 b1 px py ax ay bx cy h2 n0 G1 G2 G3 G4 hb_ax hb_ay hb_bx hb_cy hb_px hb_py) (K' := 1) (S' := 4) (by decide) (by decide) rfl own_pd__DD_Z rfl (Nat.le_of_eq rfl) rfl rfl (by decide) (by decide) rfl at_214 rfl (fun v h' hq => ?_)
      obtain ⟨rfl, hh⟩ := hq
      refine Go.at (st' := [(.int (if own_ci px ax < 0 then (0 : Int32) else if 0 < own_ci px bx then 0 else if own_ci py ay < 0 then 0 else if 0 < own_ci py cy then 0 else 1))]) rfl ?_
      refine Go.heap hh ?_
      refine OwnW.iload C (pc' := 219) at_217 rfl rfl ?_
      refine OwnW.icNe C (pcY := 226) (pcN := 222) at_219 (by decide) rfl rfl (fun hc219 => absurd (by rw [if_neg (fun q => hc167 ((own_ci_lt px ax).mp q)), if_pos ((own_ci_gt px bx).mpr hc174)]) hc219) (fun hc219 => ?_)
      refine OwnW.iconst C (pc' := 223) at_222 rfl (z := 1) rfl ?_
      refine OwnW.goto C (pc' := 227) at_223 (by decide) rfl ?_
      exact OwnW.retN C (t := .boolean) (z := (1 : Int32)) rfl (by simp) rfl rfl (by decide) (by decide) at_227
    · refine OwnW.iload C (pc' := 179) at_177 rfl rfl ?_
      refine OwnW.iload C (pc' := 181) at_179 rfl rfl ?_
      refine OwnW.icGt C (pcY := 195) (pcN := 184) at_181 (by decide) rfl rfl (fun hc181 => ?_) (fun hc181 => ?_)
      · refine OwnW.iconst C (pc' := 196) at_195 rfl (z := 0) rfl ?_
        refine OwnW.istore C (pc' := 198) at_196 rfl (l' := #[.val (.int i0), .val (.int i1), .val (.int i2), .val (.int i3), .val (.int i4), .val (.int i5), .val (.int (((i0 &&& (2147483647 : Int32)) % (721 : Int32)) - (360 : Int32))), .val (.int (((i1 &&& (2147483647 : Int32)) % (721 : Int32)) - (360 : Int32))), .val (.int (((i2 &&& (2147483647 : Int32)) % (361 : Int32)) - (180 : Int32))), .val (.int (((i3 &&& (2147483647 : Int32)) % (361 : Int32)) - (180 : Int32))), .val (.int ax), .val (.int bx), .val (.int ay), .val (.int cy), .val (.int px), .val (.int py), .val (.ref b1), .val (.int (0 : Int32))]) rfl ?_
        refine OwnW.aload C (pc' := 200) at_198 rfl rfl rfl ?_
        refine OwnW.iload C (pc' := 202) at_200 rfl rfl ?_
        refine OwnW.i2d C (pc' := 203) at_202 rfl ?_
        refine OwnW.ldc2D C (pc' := 206) at_203 rfl (v := 4611686018427387904) (hw _ (List.mem_of_getElem? (i := 15) rfl)) ?_
        refine OwnW.ddiv C (pc' := 207) at_206 rfl (own_nn px) (v := D px) (hDd px) ?_
        refine OwnW.iload C (pc' := 209) at_207 rfl rfl ?_
        refine OwnW.i2d C (pc' := 210) at_209 rfl ?_
        refine OwnW.ldc2D C (pc' := 213) at_210 rfl (v := 4611686018427387904) (hw _ (List.mem_of_getElem? (i := 15) rfl)) ?_
        refine OwnW.ddiv C (pc' := 214) at_213 rfl (own_nn py) (v := D py) (hDd py) ?_
        refine OwnW.callV C (pc' := 217) (y := (⟨"com/example/kinegrid/kinegrid/core/Box", "contains", "(DD)Z"⟩ : MethodName)) (z := (⟨"com/example/kinegrid/kinegrid/core/Box", "contains", "(DD)Z"⟩ : MethodName)) (W := 0) (argsL := [(.double (D px)), (.double (D py))]) (rest := []) (hw _ (List.mem_of_getElem? (i := 46) rfl)) (hw _ (List.mem_of_getElem? (i := 47) rfl)) (notFace_of_selects (args := #[]) (mvT C.2.1 (hw _ (List.mem_of_getElem? (i := 49) rfl)))) (hw _ (List.mem_of_getElem? (i := 49) rfl)) (hw _ (List.mem_of_getElem? (i := 48) rfl)) (hw _ (List.mem_of_getElem? (i := 14) rfl)) (hw _ (List.mem_of_getElem? (i := 50) rfl)) X_b1 (by decide) (own_contains l Z a0 hw D hD e_m180 e_p180 e_m90 e_p90 b1 px py ax ay bx cy h2 n0 G1 G2 G3 G4 hb_ax hb_ay hb_bx hb_cy hb_px hb_py) (K' := 1) (S' := 4) (by decide) (by decide) rfl own_pd__DD_Z rfl (Nat.le_of_eq rfl) rfl rfl (by decide) (by decide) rfl at_214 rfl (fun v h' hq => ?_)
        obtain ⟨rfl, hh⟩ := hq
        refine Go.at (st' := [(.int (if own_ci px ax < 0 then (0 : Int32) else if 0 < own_ci px bx then 0 else if own_ci py ay < 0 then 0 else if 0 < own_ci py cy then 0 else 1))]) rfl ?_
        refine Go.heap hh ?_
        refine OwnW.iload C (pc' := 219) at_217 rfl rfl ?_
        refine OwnW.icNe C (pcY := 226) (pcN := 222) at_219 (by decide) rfl rfl (fun hc219 => absurd (by rw [if_neg (fun q => hc167 ((own_ci_lt px ax).mp q)), if_neg (fun q => hc174 ((own_ci_gt px bx).mp q)), if_pos ((own_ci_lt py ay).mpr hc181)]) hc219) (fun hc219 => ?_)
        refine OwnW.iconst C (pc' := 223) at_222 rfl (z := 1) rfl ?_
        refine OwnW.goto C (pc' := 227) at_223 (by decide) rfl ?_
        exact OwnW.retN C (t := .boolean) (z := (1 : Int32)) rfl (by simp) rfl rfl (by decide) (by decide) at_227
      · refine OwnW.iload C (pc' := 186) at_184 rfl rfl ?_
        refine OwnW.iload C (pc' := 188) at_186 rfl rfl ?_
        refine OwnW.icGt C (pcY := 195) (pcN := 191) at_188 (by decide) rfl rfl (fun hc188 => ?_) (fun hc188 => ?_)
        · refine OwnW.iconst C (pc' := 196) at_195 rfl (z := 0) rfl ?_
          refine OwnW.istore C (pc' := 198) at_196 rfl (l' := #[.val (.int i0), .val (.int i1), .val (.int i2), .val (.int i3), .val (.int i4), .val (.int i5), .val (.int (((i0 &&& (2147483647 : Int32)) % (721 : Int32)) - (360 : Int32))), .val (.int (((i1 &&& (2147483647 : Int32)) % (721 : Int32)) - (360 : Int32))), .val (.int (((i2 &&& (2147483647 : Int32)) % (361 : Int32)) - (180 : Int32))), .val (.int (((i3 &&& (2147483647 : Int32)) % (361 : Int32)) - (180 : Int32))), .val (.int ax), .val (.int bx), .val (.int ay), .val (.int cy), .val (.int px), .val (.int py), .val (.ref b1), .val (.int (0 : Int32))]) rfl ?_
          refine OwnW.aload C (pc' := 200) at_198 rfl rfl rfl ?_
          refine OwnW.iload C (pc' := 202) at_200 rfl rfl ?_
          refine OwnW.i2d C (pc' := 203) at_202 rfl ?_
          refine OwnW.ldc2D C (pc' := 206) at_203 rfl (v := 4611686018427387904) (hw _ (List.mem_of_getElem? (i := 15) rfl)) ?_
          refine OwnW.ddiv C (pc' := 207) at_206 rfl (own_nn px) (v := D px) (hDd px) ?_
          refine OwnW.iload C (pc' := 209) at_207 rfl rfl ?_
          refine OwnW.i2d C (pc' := 210) at_209 rfl ?_
          refine OwnW.ldc2D C (pc' := 213) at_210 rfl (v := 4611686018427387904) (hw _ (List.mem_of_getElem? (i := 15) rfl)) ?_
          refine OwnW.ddiv C (pc' := 214) at_213 rfl (own_nn py) (v := D py) (hDd py) ?_
          refine OwnW.callV C (pc' := 217) (y := (⟨"com/example/kinegrid/kinegrid/core/Box", "contains", "(DD)Z"⟩ : MethodName)) (z := (⟨"com/example/kinegrid/kinegrid/core/Box", "contains", "(DD)Z"⟩ : MethodName)) (W := 0) (argsL := [(.double (D px)), (.double (D py))]) (rest := []) (hw _ (List.mem_of_getElem? (i := 46) rfl)) (hw _ (List.mem_of_getElem? (i := 47) rfl)) (notFace_of_selects (args := #[]) (mvT C.2.1 (hw _ (List.mem_of_getElem? (i := 49) rfl)))) (hw _ (List.mem_of_getElem? (i := 49) rfl)) (hw _ (List.mem_of_getElem? (i := 48) rfl)) (hw _ (List.mem_of_getElem? (i := 14) rfl)) (hw _ (List.mem_of_getElem? (i := 50) rfl)) X_b1 (by decide) (own_contains l Z a0 hw D hD e_m180 e_p180 e_m90 e_p90 b1 px py ax ay bx cy h2 n0 G1 G2 G3 G4 hb_ax hb_ay hb_bx hb_cy hb_px hb_py) (K' := 1) (S' := 4) (by decide) (by decide) rfl own_pd__DD_Z rfl (Nat.le_of_eq rfl) rfl rfl (by decide) (by decide) rfl at_214 rfl (fun v h' hq => ?_)
          obtain ⟨rfl, hh⟩ := hq
          refine Go.at (st' := [(.int (if own_ci px ax < 0 then (0 : Int32) else if 0 < own_ci px bx then 0 else if own_ci py ay < 0 then 0 else if 0 < own_ci py cy then 0 else 1))]) rfl ?_
          refine Go.heap hh ?_
          refine OwnW.iload C (pc' := 219) at_217 rfl rfl ?_
          refine OwnW.icNe C (pcY := 226) (pcN := 222) at_219 (by decide) rfl rfl (fun hc219 => absurd (by rw [if_neg (fun q => hc167 ((own_ci_lt px ax).mp q)), if_neg (fun q => hc174 ((own_ci_gt px bx).mp q)), if_neg (fun q => hc181 ((own_ci_lt py ay).mp q)), if_pos ((own_ci_gt py cy).mpr hc188)]) hc219) (fun hc219 => ?_)
          refine OwnW.iconst C (pc' := 223) at_222 rfl (z := 1) rfl ?_
          refine OwnW.goto C (pc' := 227) at_223 (by decide) rfl ?_
          exact OwnW.retN C (t := .boolean) (z := (1 : Int32)) rfl (by simp) rfl rfl (by decide) (by decide) at_227
        · refine OwnW.iconst C (pc' := 192) at_191 rfl (z := 1) rfl ?_
          refine OwnW.goto C (pc' := 196) at_192 (by decide) rfl ?_
          refine OwnW.istore C (pc' := 198) at_196 rfl (l' := #[.val (.int i0), .val (.int i1), .val (.int i2), .val (.int i3), .val (.int i4), .val (.int i5), .val (.int (((i0 &&& (2147483647 : Int32)) % (721 : Int32)) - (360 : Int32))), .val (.int (((i1 &&& (2147483647 : Int32)) % (721 : Int32)) - (360 : Int32))), .val (.int (((i2 &&& (2147483647 : Int32)) % (361 : Int32)) - (180 : Int32))), .val (.int (((i3 &&& (2147483647 : Int32)) % (361 : Int32)) - (180 : Int32))), .val (.int ax), .val (.int bx), .val (.int ay), .val (.int cy), .val (.int px), .val (.int py), .val (.ref b1), .val (.int (1 : Int32))]) rfl ?_
          refine OwnW.aload C (pc' := 200) at_198 rfl rfl rfl ?_
          refine OwnW.iload C (pc' := 202) at_200 rfl rfl ?_
          refine OwnW.i2d C (pc' := 203) at_202 rfl ?_
          refine OwnW.ldc2D C (pc' := 206) at_203 rfl (v := 4611686018427387904) (hw _ (List.mem_of_getElem? (i := 15) rfl)) ?_
          refine OwnW.ddiv C (pc' := 207) at_206 rfl (own_nn px) (v := D px) (hDd px) ?_
          refine OwnW.iload C (pc' := 209) at_207 rfl rfl ?_
          refine OwnW.i2d C (pc' := 210) at_209 rfl ?_
          refine OwnW.ldc2D C (pc' := 213) at_210 rfl (v := 4611686018427387904) (hw _ (List.mem_of_getElem? (i := 15) rfl)) ?_
          refine OwnW.ddiv C (pc' := 214) at_213 rfl (own_nn py) (v := D py) (hDd py) ?_
          refine OwnW.callV C (pc' := 217) (y := (⟨"com/example/kinegrid/kinegrid/core/Box", "contains", "(DD)Z"⟩ : MethodName)) (z := (⟨"com/example/kinegrid/kinegrid/core/Box", "contains", "(DD)Z"⟩ : MethodName)) (W := 0) (argsL := [(.double (D px)), (.double (D py))]) (rest := []) (hw _ (List.mem_of_getElem? (i := 46) rfl)) (hw _ (List.mem_of_getElem? (i := 47) rfl)) (notFace_of_selects (args := #[]) (mvT C.2.1 (hw _ (List.mem_of_getElem? (i := 49) rfl)))) (hw _ (List.mem_of_getElem? (i := 49) rfl)) (hw _ (List.mem_of_getElem? (i := 48) rfl)) (hw _ (List.mem_of_getElem? (i := 14) rfl)) (hw _ (List.mem_of_getElem? (i := 50) rfl)) X_b1 (by decide) (own_contains l Z a0 hw D hD e_m180 e_p180 e_m90 e_p90 b1 px py ax ay bx cy h2 n0 G1 G2 G3 G4 hb_ax hb_ay hb_bx hb_cy hb_px hb_py) (K' := 1) (S' := 4) (by decide) (by decide) rfl own_pd__DD_Z rfl (Nat.le_of_eq rfl) rfl rfl (by decide) (by decide) rfl at_214 rfl (fun v h' hq => ?_)
          obtain ⟨rfl, hh⟩ := hq
          refine Go.at (st' := [(.int (if own_ci px ax < 0 then (0 : Int32) else if 0 < own_ci px bx then 0 else if own_ci py ay < 0 then 0 else if 0 < own_ci py cy then 0 else 1))]) rfl ?_
          refine Go.heap hh ?_
          refine OwnW.iload C (pc' := 219) at_217 rfl rfl ?_
          refine OwnW.icNe C (pcY := 226) (pcN := 222) at_219 (by decide) rfl rfl (fun hc219 => absurd (by rw [if_neg (fun q => hc167 ((own_ci_lt px ax).mp q)), if_neg (fun q => hc174 ((own_ci_gt px bx).mp q)), if_neg (fun q => hc181 ((own_ci_lt py ay).mp q)), if_neg (fun q => hc188 ((own_ci_gt py cy).mp q))]) hc219) (fun hc219 => ?_)
          refine OwnW.iconst C (pc' := 223) at_222 rfl (z := 1) rfl ?_
          refine OwnW.goto C (pc' := 227) at_223 (by decide) rfl ?_
          exact OwnW.retN C (t := .boolean) (z := (1 : Int32)) rfl (by simp) rfl rfl (by decide) (by decide) at_227
set_option maxRecDepth 65536 in
set_option maxHeartbeats 40000000 in
theorem own_comes {Post : Tables → Env → Array Value → State → Outcome → State → Prop} (hpost : ∀ tb e args s v u, (limb_1_1.after args s (.returned v) u = true ∧ limb_1_2.after args s (.returned v) u = true) → FrameEnd s (.returned v) u (Jvm.fieldLocs frame_1_writes args s ++ Jvm.arrayLocs frame_1_arrays args s ++ Jvm.staticLocs frame_1_statics s) 16 128 → Post tb e args s (.returned v) u) :
    ArmFor flags0 classFile x code maxLocals ret World_1 tables_1 room_1 Calls_1 rest_1 Pre_1 Post := by
  intro l hfl _ _ p e ha hc hk s m args below hf hA hF happ hP
  obtain ⟨hcalls, hrest, hpre⟩ := hP
  obtain ⟨-, -, -, hnamed, -, -, -, hat⟩ := (Spec.applies_iff hf).mp happ
  obtain ⟨hg, hn⟩ := and_e (Cond.before_iff.mp (show (Jvm.Cond.and given_1 narrow_1).before args s = true from hpre))
  obtain ⟨gl1, gr1⟩ := and_e hg
  obtain ⟨gl2, gr2⟩ := and_e gr1
  obtain ⟨gl3, gr3⟩ := and_e gr2
  obtain ⟨gl4, gr4⟩ := and_e gr3
  obtain ⟨gl5, gr5⟩ := and_e gr4
  obtain ⟨gl6, gr6⟩ := and_e gr5
  obtain ⟨w0, w1, w2, w3, w4, w5, rfl⟩ : ∃ w0 w1 w2 w3 w4 w5 : Value, args = #[w0, w1, w2, w3, w4, w5] := by
    have hs : args.size = 6 := by simpa [Cond.value, given_1] using gl1
    obtain ⟨L⟩ := args
    match L, hs with
    | [w0, w1, w2, w3, w4, w5], _ => exact ⟨w0, w1, w2, w3, w4, w5, rfl⟩
  have hw := fun d (hd : d ∈ tables_1) => atoms_spec (ws := Jvm.Cond.code x code maxLocals ret :: tables_1) hat d (List.mem_cons_of_mem _ hd)
  obtain ⟨i0, ei0⟩ := is_v gl2
  obtain rfl : w0 = (.int i0) := Option.some.inj ei0
  obtain ⟨i1, ei1⟩ := is_v gl3
  obtain rfl : w1 = (.int i1) := Option.some.inj ei1
  obtain ⟨i2, ei2⟩ := is_v gl4
  obtain rfl : w2 = (.int i2) := Option.some.inj ei2
  obtain ⟨i3, ei3⟩ := is_v gl5
  obtain rfl : w3 = (.int i3) := Option.some.inj ei3
  obtain ⟨i4, ei4⟩ := is_v gl6
  obtain rfl : w4 = (.int i4) := Option.some.inj ei4
  obtain ⟨i5, ei5⟩ := is_v gr6
  obtain rfl : w5 = (.int i5) := Option.some.inj ei5
  obtain ⟨n, o, h1, h2, h3, v, L, rfl, ⟨rfl, N⟩, hq⟩ := (own_law l s _ hw own_D own_cmp own_m180 own_p180 own_m90 own_p90 (fun _ => rfl) i0 i1 i2 i3 i4 i5 s.heap s.heap.size (Nat.le_refl _)) tables_1 p e ha hc hk s m _ below hf ((Spec.applies_iff_loose hf).mp happ).1 ⟨rfl, State.Warmed39.refl s, rfl⟩ trivial
  refine ⟨n, _, h1, h2, h3, hpost _ _ _ _ _ _ ⟨Cond.after_iff.mpr rfl, Cond.after_iff.mpr (eq_i res_at (Term.int_eval (1)) rfl)⟩ ⟨hq.1, hq.2.1, (hq.2.2.sift fun y hy => Or.inr (N y hy)).mono (by decide) (by decide)⟩⟩
theorem main_1_1 : Claimed_1_1 := own_comes fun _ _ _ _ _ _ h hF => ⟨h.1, hF⟩
theorem main_1_2 : Claimed_1_2 := own_comes fun _ _ _ _ _ _ h hF => ⟨h.2, hF⟩
end Jvm.Pilot.@@N@@
namespace Jvm.Pilot.@@N@@
open Jvm Jvm.ClassFile Sem Op Lib Jvm.Free Jvm.Stand Jvm.Pilot.@@N@@.Jvm.D
/-! MADE BY PROGRAM (witnessworld.py) out of the Statement's table words and the real class files: 13 classes; the members and pool entries that the words name. The judged class is class 1, her method 2. -/
namespace start1
open Jvm.ClassFile
def u (s : String) : CpInfo := .utf8 (stringToUtf16 s)
/-- a pool by its gaps: so many unusable entries, then the entry; so many at the end -/
def gap : Nat → List CpInfo → List CpInfo
  | 0, r => r
  | n + 1, r => .unusable :: gap n r
def poolList (es : List (Nat × CpInfo)) (last : Nat) : List CpInfo := es.foldr (fun e r => gap e.1 (e.2 :: r)) (gap last [])
def pool (es : List (Nat × CpInfo)) (last : Nat) : Array CpInfo := ⟨poolList es last⟩
def fileOf (pool : Array CpInfo) (this : Nat) (attrs : Array Attribute := #[]) (ms : Array MethodInfo := #[]) (fl : Nat := 33) (sup : Nat := 0) (ifs : Array Nat := #[]) (fds : Array FieldInfo := #[]) : ClassFile where
  minorVersion := 0
  majorVersion := 65
  constantPool := pool
  accessFlags := fl
  thisClass := this
  superClass := sup
  interfaces := ifs
  fields := fds
  methods := ms
  attributes := attrs
def plain (name : String) (sup : Option ClassId) : Class where
  name := name
  kind := .ordinary
  loader := none
  accessFlags := 33
  super := sup
  interfaces := #[]
  cf := none
  fields := #[]
  methods := #[]
  instanceTypes := #[]
  staticTypes := #[]
  resolved := #[]
  callSites := []
  init := .initialized
  statics := none
  mirror := none

def pool0 : Array CpInfo := pool [(5, u "<init>"), (0, u "()V"), (1, .class_ 10), (1, u "java/lang/Object")] 113

def k0c0 : Code := { maxStack := 0, maxLocals := 1, code := object_method_1_code, exceptionTable := #[], attributes := #[] }
def k0m0 : Method := { name := "<init>", desc := "()V", sig := { parameters := [], returnType := none }, accessFlags := 1, code := some k0c0 }
/-- java/lang/Object -/
def k0 : Class := { plain "java/lang/Object" none with
  accessFlags := 33
  interfaces := #[]
  cf := some (fileOf pool0 8 #[] #[{ accessFlags := 1, nameIndex := 5, descriptorIndex := 6, attributes := #[] }] 33 0 #[] #[])
  fields := #[]
  methods := #[k0m0]
  instanceTypes := #[]
  staticTypes := #[]
  resolved := Array.replicate 124 none
  statics := none }

def pool1 : Array CpInfo := pool [(2, .class_ 4), (1, u "java/lang/Object"), (0, u "<init>"), (0, u "()V"), (0, .integer 2147483647), (0, .methodref 9 10), (0, .class_ 11), (0, .nameAndType 12 13), (0, u "java/lang/Math"), (0, u "min"), (0, u "(II)I"), (0, .methodref 9 15), (0, .nameAndType 16 13), (0, u "max"), (0, .methodref 18 19), (0, .class_ 20), (0, .nameAndType 21 22), (0, u "com/example/kinegrid/kinegrid/core/BoxContainsPinLaw"), (0, u "pick"), (0, u "(IIIII)I"), (0, .class_ 24), (0, u "com/example/kinegrid/kinegrid/core/Box"), (0, .double 4611686018427387904), (1, .methodref 23 28), (0, .nameAndType 5 29), (0, u "(DDDD)V"), (0, .methodref 23 31), (0, .nameAndType 32 33), (0, u "contains"), (0, u "(DD)Z"), (3, u "law"), (0, u "(IIIIII)Z")] 2

def k1m0 : Method := { name := "<init>", desc := "()V", sig := { parameters := [], returnType := none }, accessFlags := 2, code := none }
def k1c1 : Code := { maxStack := 2, maxLocals := 8, code := method_2_code, exceptionTable := #[], attributes := #[] }
def k1m1 : Method := { name := "pick", desc := "(IIIII)I", sig := { parameters := [.int, .int, .int, .int, .int], returnType := some .int }, accessFlags := 10, code := some k1c1 }
def k1c2 : Code := { maxStack := 12, maxLocals := 18, code := code, exceptionTable := #[], attributes := #[] }
def k1m2 : Method := { name := "law", desc := "(IIIIII)Z", sig := { parameters := [.int, .int, .int, .int, .int, .int], returnType := some .boolean }, accessFlags := 9, code := some k1c2 }
/-- com/example/kinegrid/kinegrid/core/BoxContainsPinLaw -/
def k1 : Class := { plain "com/example/kinegrid/kinegrid/core/BoxContainsPinLaw" (some 0) with
  accessFlags := 49
  interfaces := #[]
  cf := some (fileOf pool1 18 #[] #[{ accessFlags := 2, nameIndex := 5, descriptorIndex := 6, attributes := #[] }, { accessFlags := 10, nameIndex := 21, descriptorIndex := 22, attributes := #[] }, { accessFlags := 9, nameIndex := 37, descriptorIndex := 38, attributes := #[] }] 49 2 #[] #[])
  fields := #[]
  methods := #[k1m0, k1m1, k1m2]
  instanceTypes := #[]
  staticTypes := #[]
  resolved := Array.replicate 41 none
  statics := none }

def pool2 : Array CpInfo := pool [(1, .class_ 2), (0, u "java/lang/Math"), (1, .class_ 6), (1, u "java/lang/Object"), (0, u "<init>"), (0, u "()V"), (89, .class_ 100), (1, u "java/lang/Math$RandomNumberGeneratorHolder"), (71, u "negativeZeroFloatBits"), (0, u "J"), (2, u "negativeZeroDoubleBits"), (21, u "max"), (2, u "min"), (43, u "$assertionsDisabled"), (0, u "Z"), (88, u "(II)I"), (2, u "twoToTheDoubleScaleDown"), (0, u "D"), (4, u "twoToTheDoubleScaleUp"), (9, u "E"), (3, u "PI"), (2, u "TAU"), (2, u "DEGREES_TO_RADIANS"), (0, u "RADIANS_TO_DEGREES")] 94

def k2m0 : Method := { name := "<init>", desc := "()V", sig := { parameters := [], returnType := none }, accessFlags := 2, code := none }
def k2c1 : Code := { maxStack := 2, maxLocals := 2, code := jdk_29_method_65_code, exceptionTable := #[], attributes := #[] }
def k2m1 : Method := { name := "max", desc := "(II)I", sig := { parameters := [.int, .int], returnType := some .int }, accessFlags := 9, code := some k2c1 }
def k2c2 : Code := { maxStack := 2, maxLocals := 2, code := jdk_29_method_69_code, exceptionTable := #[], attributes := #[] }
def k2m2 : Method := { name := "min", desc := "(II)I", sig := { parameters := [.int, .int], returnType := some .int }, accessFlags := 9, code := some k2c2 }
/-- java/lang/Math -/
def k2 : Class := { plain "java/lang/Math" (some 0) with
  accessFlags := 49
  interfaces := #[]
  cf := some (fileOf pool2 1 #[.nestMembers #[98]] #[{ accessFlags := 2, nameIndex := 7, descriptorIndex := 8, attributes := #[] }, { accessFlags := 9, nameIndex := 198, descriptorIndex := 335, attributes := #[] }, { accessFlags := 9, nameIndex := 201, descriptorIndex := 335, attributes := #[] }] 49 4 #[] #[{ accessFlags := 25, nameIndex := 354, descriptorIndex := 339, attributes := #[] }, { accessFlags := 25, nameIndex := 358, descriptorIndex := 339, attributes := #[] }, { accessFlags := 25, nameIndex := 361, descriptorIndex := 339, attributes := #[] }, { accessFlags := 26, nameIndex := 364, descriptorIndex := 339, attributes := #[] }, { accessFlags := 26, nameIndex := 365, descriptorIndex := 339, attributes := #[] }, { accessFlags := 26, nameIndex := 172, descriptorIndex := 173, attributes := #[] }, { accessFlags := 26, nameIndex := 176, descriptorIndex := 173, attributes := #[] }, { accessFlags := 8, nameIndex := 344, descriptorIndex := 339, attributes := #[] }, { accessFlags := 8, nameIndex := 338, descriptorIndex := 339, attributes := #[] }, { accessFlags := 4120, nameIndex := 245, descriptorIndex := 246, attributes := #[] }])
  fields := #[{ name := "E", type := .double, accessFlags := 25, slot := 0, constantValue := 0 }, { name := "PI", type := .double, accessFlags := 25, slot := 1, constantValue := 0 }, { name := "TAU", type := .double, accessFlags := 25, slot := 2, constantValue := 0 }, { name := "DEGREES_TO_RADIANS", type := .double, accessFlags := 26, slot := 3, constantValue := 0 }, { name := "RADIANS_TO_DEGREES", type := .double, accessFlags := 26, slot := 4, constantValue := 0 }, { name := "negativeZeroFloatBits", type := .long, accessFlags := 26, slot := 5, constantValue := 0 }, { name := "negativeZeroDoubleBits", type := .long, accessFlags := 26, slot := 6, constantValue := 0 }, { name := "twoToTheDoubleScaleUp", type := .double, accessFlags := 8, slot := 7, constantValue := 0 }, { name := "twoToTheDoubleScaleDown", type := .double, accessFlags := 8, slot := 8, constantValue := 0 }, { name := "$assertionsDisabled", type := .boolean, accessFlags := 4120, slot := 9, constantValue := 0 }]
  methods := #[k2m0, k2m1, k2m2]
  instanceTypes := #[]
  staticTypes := #[.double, .double, .double, .double, .double, .long, .long, .double, .double, .boolean]
  resolved := Array.replicate 460 none
  statics := none }

def pool3 : Array CpInfo := pool [(1, .methodref 2 3), (0, .class_ 4), (0, .nameAndType 5 6), (0, u "java/lang/Object"), (0, u "<init>"), (0, u "()V"), (0, .class_ 8), (0, u "java/lang/Record")] 13

def k3c0 : Code := { maxStack := 1, maxLocals := 1, code := jdk_30_method_1_code, exceptionTable := #[], attributes := #[] }
def k3m0 : Method := { name := "<init>", desc := "()V", sig := { parameters := [], returnType := none }, accessFlags := 4, code := some k3c0 }
/-- java/lang/Record -/
def k3 : Class := { plain "java/lang/Record" (some 0) with
  accessFlags := 1057
  interfaces := #[]
  cf := some (fileOf pool3 7 #[] #[{ accessFlags := 4, nameIndex := 5, descriptorIndex := 6, attributes := #[] }] 1057 2 #[] #[])
  fields := #[]
  methods := #[k3m0]
  instanceTypes := #[]
  staticTypes := #[]
  resolved := Array.replicate 22 none
  statics := none }

def pool4 : Array CpInfo := pool [(1, .class_ 2), (0, u "com/example/kinegrid/kinegrid/core/Area"), (0, .class_ 4), (0, u "java/lang/Object")] 15

/-- com/example/kinegrid/kinegrid/core/Area -/
def k4 : Class := { plain "com/example/kinegrid/kinegrid/core/Area" (some 0) with
  accessFlags := 1537
  interfaces := #[]
  cf := some (fileOf pool4 1 #[] #[] 1537 3 #[] #[])
  fields := #[]
  methods := #[]
  instanceTypes := #[]
  staticTypes := #[]
  resolved := Array.replicate 20 none
  statics := none }

def pool5 : Array CpInfo := pool [(1, .methodref 2 3), (0, .class_ 4), (0, .nameAndType 5 6), (0, u "java/lang/Record"), (0, u "<init>"), (0, u "()V"), (0, .methodref 8 9), (0, .class_ 10), (0, .nameAndType 11 12), (0, u "com/example/kinegrid/kinegrid/core/Position"), (0, u "checkLongitude"), (0, u "(D)V"), (0, .methodref 8 14), (0, .nameAndType 15 12), (0, u "checkLatitude"), (10, .fieldref 27 28), (0, .class_ 29), (0, .nameAndType 30 31), (0, u "com/example/kinegrid/kinegrid/core/Box"), (0, u "minLongitude"), (0, u "D"), (0, .fieldref 27 33), (0, .nameAndType 34 31), (0, u "minLatitude"), (0, .fieldref 27 36), (0, .nameAndType 37 31), (0, u "maxLongitude"), (0, .fieldref 27 39), (0, .nameAndType 40 31), (0, u "maxLatitude"), (28, u "(DDDD)V"), (2, u "WORLD"), (0, u "Lcom/example/kinegrid/kinegrid/core/Box;"), (0, .class_ 75), (0, u "com/example/kinegrid/kinegrid/core/Area"), (4, u "contains"), (0, u "(DD)Z")] 42

def k5c0 : Code := { maxStack := 6, maxLocals := 9, code := prog_23_method_1_code, exceptionTable := #[], attributes := #[] }
def k5m0 : Method := { name := "<init>", desc := "(DDDD)V", sig := { parameters := [.double, .double, .double, .double], returnType := none }, accessFlags := 1, code := some k5c0 }
def k5c1 : Code := { maxStack := 4, maxLocals := 5, code := prog_23_method_2_code, exceptionTable := #[], attributes := #[] }
def k5m1 : Method := { name := "contains", desc := "(DD)Z", sig := { parameters := [.double, .double], returnType := some .boolean }, accessFlags := 1, code := some k5c1 }
/-- com/example/kinegrid/kinegrid/core/Box -/
def k5 : Class := { plain "com/example/kinegrid/kinegrid/core/Box" (some 3) with
  accessFlags := 49
  interfaces := #[4]
  cf := some (fileOf pool5 27 #[] #[{ accessFlags := 1, nameIndex := 5, descriptorIndex := 69, attributes := #[] }, { accessFlags := 1, nameIndex := 80, descriptorIndex := 81, attributes := #[] }] 49 2 #[74] #[{ accessFlags := 18, nameIndex := 30, descriptorIndex := 31, attributes := #[] }, { accessFlags := 18, nameIndex := 34, descriptorIndex := 31, attributes := #[] }, { accessFlags := 18, nameIndex := 37, descriptorIndex := 31, attributes := #[] }, { accessFlags := 18, nameIndex := 40, descriptorIndex := 31, attributes := #[] }, { accessFlags := 25, nameIndex := 72, descriptorIndex := 73, attributes := #[] }])
  fields := #[{ name := "minLongitude", type := .double, accessFlags := 18, slot := 0, constantValue := 0 }, { name := "minLatitude", type := .double, accessFlags := 18, slot := 1, constantValue := 0 }, { name := "maxLongitude", type := .double, accessFlags := 18, slot := 2, constantValue := 0 }, { name := "maxLatitude", type := .double, accessFlags := 18, slot := 3, constantValue := 0 }, { name := "WORLD", type := (.object "com/example/kinegrid/kinegrid/core/Box"), accessFlags := 25, slot := 0, constantValue := 0 }]
  methods := #[k5m0, k5m1]
  instanceTypes := #[.double, .double, .double, .double]
  staticTypes := #[(.object "com/example/kinegrid/kinegrid/core/Box")]
  resolved := Array.replicate 124 none
  statics := none }

def pool6 : Array CpInfo := pool [(2, .class_ 4), (1, u "java/lang/Record"), (3, .class_ 10), (1, u "com/example/kinegrid/kinegrid/core/Position"), (0, u "checkLongitude"), (0, u "(D)V"), (2, u "checkLatitude"), (2, u "longitude"), (0, u "D"), (2, u "latitude"), (0, .double 13863909240395005952), (1, .double 4640537203540230144), (10, .double 13859405640767635456), (1, .double 4636033603912859648)] 54

def k6c0 : Code := { maxStack := 4, maxLocals := 2, code := prog_48_method_2_code, exceptionTable := #[], attributes := #[] }
def k6m0 : Method := { name := "checkLongitude", desc := "(D)V", sig := { parameters := [.double], returnType := none }, accessFlags := 8, code := some k6c0 }
def k6c1 : Code := { maxStack := 4, maxLocals := 2, code := prog_48_method_3_code, exceptionTable := #[], attributes := #[] }
def k6m1 : Method := { name := "checkLatitude", desc := "(D)V", sig := { parameters := [.double], returnType := none }, accessFlags := 8, code := some k6c1 }
/-- com/example/kinegrid/kinegrid/core/Position -/
def k6 : Class := { plain "com/example/kinegrid/kinegrid/core/Position" (some 3) with
  accessFlags := 49
  interfaces := #[]
  cf := some (fileOf pool6 8 #[] #[{ accessFlags := 8, nameIndex := 11, descriptorIndex := 12, attributes := #[] }, { accessFlags := 8, nameIndex := 15, descriptorIndex := 12, attributes := #[] }] 49 2 #[] #[{ accessFlags := 18, nameIndex := 18, descriptorIndex := 19, attributes := #[] }, { accessFlags := 18, nameIndex := 22, descriptorIndex := 19, attributes := #[] }])
  fields := #[{ name := "longitude", type := .double, accessFlags := 18, slot := 0, constantValue := 0 }, { name := "latitude", type := .double, accessFlags := 18, slot := 1, constantValue := 0 }]
  methods := #[k6m0, k6m1]
  instanceTypes := #[.double, .double]
  staticTypes := #[]
  resolved := Array.replicate 93 none
  statics := none }

def pool7 : Array CpInfo := pool [(1, u "java/lang/Cloneable"), (0, .class_ 1), (0, u "java/lang/Object"), (0, .class_ 3)] 3

/-- java/lang/Cloneable -/
def k7 : Class := { plain "java/lang/Cloneable" (some 0) with
  accessFlags := 1537
  interfaces := #[]
  cf := some (fileOf pool7 2 #[] #[] 1537 4 #[] #[])
  fields := #[]
  methods := #[]
  instanceTypes := #[]
  staticTypes := #[]
  resolved := Array.replicate 8 none
  statics := none }

def pool8 : Array CpInfo := pool [(1, u "java/io/Serializable"), (0, .class_ 1), (0, u "java/lang/Object"), (0, .class_ 3)] 3

/-- java/io/Serializable -/
def k8 : Class := { plain "java/io/Serializable" (some 0) with
  accessFlags := 1537
  interfaces := #[]
  cf := some (fileOf pool8 2 #[] #[] 1537 4 #[] #[])
  fields := #[]
  methods := #[]
  instanceTypes := #[]
  staticTypes := #[]
  resolved := Array.replicate 8 none
  statics := none }

/-- the primitive byte -/
def k9 : Class := { plain "byte" none with kind := .primitive 'B', accessFlags := 0x411 }
/-- [B -/
def k10 : Class := { plain "[B" (some 0) with kind := .array 9 .byte, interfaces := #[7, 8], accessFlags := 1041 }

/-- the primitive int -/
def k11 : Class := { plain "int" none with kind := .primitive 'I', accessFlags := 0x411 }
/-- [I -/
def k12 : Class := { plain "[I" (some 0) with kind := .array 11 .int, interfaces := #[7, 8], accessFlags := 1041 }

def heap : Heap := #[]
def classes : Array Class := #[k0, k1, k2, k3, k4, k5, k6, k7, k8, k9, k10, k11, k12]
def interned : List (Array UInt16 × Addr) := []
def slotsUsed : Nat := 0
def theMethod : MethodId := ⟨1, 2⟩
def args0 : Array Value := #[.int 1, .int 2, .int 3, .int 4, .int 5, .int 6]
def aboutOver (below : List Frame) : State where
  vm := { classes := classes, interned := interned.toArray }
  heap := heap
  slotsUsed := slotsUsed
  threads := #[{ frames := .invoking theMethod args0 :: below }]
def below0 : List Frame := [.native { method := ⟨0, 0⟩, args := #[] }]
def about1 : State := aboutOver below0
def p0 : Program := .bare "" "" ""
def e0 : Env := launch0.env 0 0 0
theorem w_frames : about1.frames = Frame.invoking theMethod args0 :: below0 := rfl
set_option maxRecDepth 65536 in
theorem w_args : argsFit about1.vm theMethod args0 = true := by decide +kernel
set_option maxRecDepth 65536 in
theorem w_heap : heapFits about1 = true := by decide +kernel
set_option maxRecDepth 65536 in
theorem w_runnable : about1.curStatus? = some .runnable := by decide +kernel
set_option maxRecDepth 65536 in
theorem w_alone : about1.alone = true := by decide +kernel
set_option maxRecDepth 65536 in
theorem w_named : about1.methodNamed? x = some theMethod := by decide +kernel
set_option maxRecDepth 65536 in
theorem w_hears : about1.hears theMethod below0 = true := by decide +kernel
set_option maxRecDepth 65536 in
theorem w_ripe : about1.ripe theMethod args0 below0 = true := by decide +kernel
theorem w_running : about1.status = .running := rfl
set_option maxRecDepth 65536 in
theorem w_room : about1.hasRoom e0.platform room_1 = true :=
  launch0.hasRoom_least _ room_1 (by decide +kernel) (by decide +kernel) (by decide +kernel) (by decide +kernel) (by decide +kernel) (by decide +kernel)
theorem allAtoms_all (ts : List Jvm.Cond) (a : Array Jvm.Value) (st : Jvm.State) : (allAtoms ts).before a st = ts.all (fun c => c.before a st) := by
  induction ts with
  | nil => rfl
  | cons c t ih =>
    show (Jvm.Cond.and c (allAtoms t)).before a st = _
    rw [Jvm.Cond.before_and, ih, List.all_cons]
def words1 : List Jvm.Cond := Jvm.Cond.code x code maxLocals ret :: tables_1
/-- a 'code' word, met by the world's own term for the bytes: nothing is compared byte by byte -/
theorem code_word {y : MethodName} {bytes : ByteArray} {mx : Nat} {rt : Option FieldType} {a : Array Value} {s : State} {m : MethodId} {meth : Method} {c : Code} (h1 : s.methodNamed? y = some m) (h2 : s.vm.method? m = some meth) (h3 : meth.code = some c) (h4 : c.code = bytes)
    (h5 : (c.maxLocals == mx && c.exceptionTable.isEmpty && decide (c.maxStack ≤ mostOperands) && decide (meth.sig.returnType = rt) && !meth.locks && decide (parseMethodDescriptor y.desc = some meth.sig)) = true) : (Jvm.Cond.code y bytes mx rt).before a s = true := by
  simp only [Bool.and_eq_true, beq_iff_eq, Bool.not_eq_true', decide_eq_true_eq] at h5
  obtain ⟨⟨⟨⟨⟨g1, g2⟩, g3⟩, g4⟩, g5⟩, g6⟩ := h5
  simp [Cond.before, Cond.holds, Cond.value, h1, h2, h3, h4, g1, g2, g3, g4, g5, g6]
def isCode : Jvm.Cond → Bool
  | .code _ _ _ _ => true
  | _ => false
theorem all_split {L : List Jvm.Cond} {P : Jvm.Cond → Bool} (h1 : L.all (fun c => isCode c || P c) = true) (h2 : ∀ c ∈ L.filter isCode, P c = true) : L.all P = true := by
  refine List.all_eq_true.mpr fun c hc => ?_
  have h := List.all_eq_true.mp h1 c hc
  rcases Bool.eq_false_or_eq_true (isCode c) with hi | hi
  · exact h2 c (List.mem_filter.mpr ⟨hc, hi⟩)
  · simpa [hi] using h
set_option maxRecDepth 65536 in
theorem w_c0 : (Jvm.Cond.code x code maxLocals ret).before args0 about1 = true := code_word (m := ⟨1, 2⟩) (meth := k1m2) (c := k1c2) (by decide +kernel) rfl rfl rfl (by decide +kernel)
set_option maxRecDepth 65536 in
theorem w_c1 : (Jvm.Cond.code ({ cls := "java/lang/Math", name := "min", desc := "(II)I" } : Jvm.MethodName) jdk_29_method_69_code (2 : Nat) (Option.some Jvm.ClassFile.FieldType.int)).before args0 about1 = true := code_word (m := ⟨2, 2⟩) (meth := k2m2) (c := k2c2) (by decide +kernel) rfl rfl rfl (by decide +kernel)
set_option maxRecDepth 65536 in
theorem w_c2 : (Jvm.Cond.code ({ cls := "java/lang/Math", name := "max", desc := "(II)I" } : Jvm.MethodName) jdk_29_method_65_code (2 : Nat) (Option.some Jvm.ClassFile.FieldType.int)).before args0 about1 = true := code_word (m := ⟨2, 1⟩) (meth := k2m1) (c := k2c1) (by decide +kernel) rfl rfl rfl (by decide +kernel)
set_option maxRecDepth 65536 in
theorem w_c3 : (Jvm.Cond.code ({ cls := "com/example/kinegrid/kinegrid/core/BoxContainsPinLaw", name := "pick", desc := "(IIIII)I" } : Jvm.MethodName) method_2_code (8 : Nat) (Option.some Jvm.ClassFile.FieldType.int)).before args0 about1 = true := code_word (m := ⟨1, 1⟩) (meth := k1m1) (c := k1c1) (by decide +kernel) rfl rfl rfl (by decide +kernel)
set_option maxRecDepth 65536 in
theorem w_c4 : (Jvm.Cond.code ({ cls := "com/example/kinegrid/kinegrid/core/Box", name := "<init>", desc := "(DDDD)V" } : Jvm.MethodName) prog_23_method_1_code (9 : Nat) (Option.none : Option Jvm.ClassFile.FieldType)).before args0 about1 = true := code_word (m := ⟨5, 0⟩) (meth := k5m0) (c := k5c0) (by decide +kernel) rfl rfl rfl (by decide +kernel)
set_option maxRecDepth 65536 in
theorem w_c5 : (Jvm.Cond.code ({ cls := "java/lang/Record", name := "<init>", desc := "()V" } : Jvm.MethodName) jdk_30_method_1_code (1 : Nat) (Option.none : Option Jvm.ClassFile.FieldType)).before args0 about1 = true := code_word (m := ⟨3, 0⟩) (meth := k3m0) (c := k3c0) (by decide +kernel) rfl rfl rfl (by decide +kernel)
set_option maxRecDepth 65536 in
theorem w_c6 : (Jvm.Cond.code ({ cls := "java/lang/Object", name := "<init>", desc := "()V" } : Jvm.MethodName) object_method_1_code (1 : Nat) (Option.none : Option Jvm.ClassFile.FieldType)).before args0 about1 = true := code_word (m := ⟨0, 0⟩) (meth := k0m0) (c := k0c0) (by decide +kernel) rfl rfl rfl (by decide +kernel)
set_option maxRecDepth 65536 in
theorem w_c7 : (Jvm.Cond.code ({ cls := "com/example/kinegrid/kinegrid/core/Position", name := "checkLongitude", desc := "(D)V" } : Jvm.MethodName) prog_48_method_2_code (2 : Nat) (Option.none : Option Jvm.ClassFile.FieldType)).before args0 about1 = true := code_word (m := ⟨6, 0⟩) (meth := k6m0) (c := k6c0) (by decide +kernel) rfl rfl rfl (by decide +kernel)
set_option maxRecDepth 65536 in
theorem w_c8 : (Jvm.Cond.code ({ cls := "com/example/kinegrid/kinegrid/core/Position", name := "checkLatitude", desc := "(D)V" } : Jvm.MethodName) prog_48_method_3_code (2 : Nat) (Option.none : Option Jvm.ClassFile.FieldType)).before args0 about1 = true := code_word (m := ⟨6, 1⟩) (meth := k6m1) (c := k6c1) (by decide +kernel) rfl rfl rfl (by decide +kernel)
set_option maxRecDepth 65536 in
theorem w_c9 : (Jvm.Cond.code ({ cls := "com/example/kinegrid/kinegrid/core/Box", name := "contains", desc := "(DD)Z" } : Jvm.MethodName) prog_23_method_2_code (5 : Nat) (Option.some Jvm.ClassFile.FieldType.boolean)).before args0 about1 = true := code_word (m := ⟨5, 1⟩) (meth := k5m1) (c := k5c1) (by decide +kernel) rfl rfl rfl (by decide +kernel)
def codes1 : List Jvm.Cond := [Jvm.Cond.code x code maxLocals ret, Jvm.Cond.code ({ cls := "java/lang/Math", name := "min", desc := "(II)I" } : Jvm.MethodName) jdk_29_method_69_code (2 : Nat) (Option.some Jvm.ClassFile.FieldType.int), Jvm.Cond.code ({ cls := "java/lang/Math", name := "max", desc := "(II)I" } : Jvm.MethodName) jdk_29_method_65_code (2 : Nat) (Option.some Jvm.ClassFile.FieldType.int), Jvm.Cond.code ({ cls := "com/example/kinegrid/kinegrid/core/BoxContainsPinLaw", name := "pick", desc := "(IIIII)I" } : Jvm.MethodName) method_2_code (8 : Nat) (Option.some Jvm.ClassFile.FieldType.int), Jvm.Cond.code ({ cls := "com/example/kinegrid/kinegrid/core/Box", name := "<init>", desc := "(DDDD)V" } : Jvm.MethodName) prog_23_method_1_code (9 : Nat) (Option.none : Option Jvm.ClassFile.FieldType), Jvm.Cond.code ({ cls := "java/lang/Record", name := "<init>", desc := "()V" } : Jvm.MethodName) jdk_30_method_1_code (1 : Nat) (Option.none : Option Jvm.ClassFile.FieldType), Jvm.Cond.code ({ cls := "java/lang/Object", name := "<init>", desc := "()V" } : Jvm.MethodName) object_method_1_code (1 : Nat) (Option.none : Option Jvm.ClassFile.FieldType), Jvm.Cond.code ({ cls := "com/example/kinegrid/kinegrid/core/Position", name := "checkLongitude", desc := "(D)V" } : Jvm.MethodName) prog_48_method_2_code (2 : Nat) (Option.none : Option Jvm.ClassFile.FieldType), Jvm.Cond.code ({ cls := "com/example/kinegrid/kinegrid/core/Position", name := "checkLatitude", desc := "(D)V" } : Jvm.MethodName) prog_48_method_3_code (2 : Nat) (Option.none : Option Jvm.ClassFile.FieldType), Jvm.Cond.code ({ cls := "com/example/kinegrid/kinegrid/core/Box", name := "contains", desc := "(DD)Z" } : Jvm.MethodName) prog_23_method_2_code (5 : Nat) (Option.some Jvm.ClassFile.FieldType.boolean)]
set_option maxRecDepth 65536 in
theorem codes_eq : words1.filter isCode = codes1 := rfl
theorem w_codes : ∀ c ∈ words1.filter isCode, c.before args0 about1 = true := by
  rw [codes_eq]
  intro c hc
  simp only [codes1, List.mem_cons, List.not_mem_nil, or_false] at hc
  rcases hc with rfl | rfl | rfl | rfl | rfl | rfl | rfl | rfl | rfl | rfl
  · exact w_c0
  · exact w_c1
  · exact w_c2
  · exact w_c3
  · exact w_c4
  · exact w_c5
  · exact w_c6
  · exact w_c7
  · exact w_c8
  · exact w_c9
set_option maxRecDepth 65536 in
theorem w_t1 : (words1.take 24).all (fun c => isCode c || c.before args0 about1) = true := by decide +kernel
set_option maxRecDepth 65536 in
theorem w_t2 : ((words1.drop 24).take 24).all (fun c => isCode c || c.before args0 about1) = true := by decide +kernel
set_option maxRecDepth 65536 in
theorem w_t3 : ((words1.drop 24).drop 24).all (fun c => isCode c || c.before args0 about1) = true := by decide +kernel
theorem w_tables : (allAtoms (Jvm.Cond.code x code maxLocals ret :: tables_1)).before args0 about1 = true := by
  rw [allAtoms_all]
  show words1.all (fun c => c.before args0 about1) = true
  refine all_split ?_ w_codes
  rw [← List.take_append_drop 24 words1, List.all_append, w_t1, ← List.take_append_drop 24 (words1.drop 24), List.all_append, w_t2, w_t3]
  rfl
set_option maxRecDepth 65536 in
theorem w_case : (Jvm.Cond.and given_1 narrow_1).before args0 about1 = true := by decide +kernel
theorem w_applies : (headSpec (Jvm.Cond.code x code maxLocals ret :: tables_1) room_1).applies x e0.platform about1 = true :=
  (Spec.applies_iff w_frames).mpr ⟨w_running, w_runnable, w_alone, w_named, w_hears, w_ripe, w_room, w_tables⟩
theorem atStart : AtStart classFile x code maxLocals ret World_1 tables_1 room_1 Calls_1 rest_1 Pre_1 launch0 p0 e0 about1 theMethod args0 below0 :=
  ⟨lists_1, trivial, launch0.admits_env _ _ _, launch0.least_env, fairChoices_fair.cas, fairChoices_fair.clock, w_frames, w_args, w_heap, w_applies, trivial, trivial, w_case⟩
end start1
theorem witness_1 : WitnessClaimed_1 := ⟨start1.p0, start1.e0, start1.about1, start1.theMethod, start1.args0, start1.below0, start1.atStart⟩
end Jvm.Pilot.@@N@@
