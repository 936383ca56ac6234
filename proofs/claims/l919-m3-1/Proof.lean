import JvmDerived
import JvmDerived.Pilot.@@N@@Statement
import JvmDerived.Pilot.@@N@@Code
set_option linter.unusedVariables false
set_option linter.unusedSimpArgs false
namespace Jvm.OwnW
open Sem ClassFile Op Lib Jvm.Stand Jvm.Free Jvm.LawKit Jvm.RoadKit
section K
variable {p : Program} {l : Launch} {e : Env} {R : Room} {s : State} {m : MethodId} {args : Array Value} {below : List Frame} {meth : Method} {c : Code} {Z : State} {bytes : ByteArray} {ml : Nat} {own nm : String} {ret : Option FieldType} {n0 K S K' S' : Nat} {Q : Option Value → Heap → Prop} {h : Heap} {a0 : Array Value}
/-- what is fixed in the walk of one body -/
def Cx (p : Program) (l : Launch) (e : Env) (R : Room) (s : State) (m : MethodId) (args : Array Value) (below : List Frame) (meth : Method) (c : Code) (Z : State) (bytes : ByteArray) (ml : Nat) (own : String) (ret : Option FieldType) (nm : String) : Prop :=
  p.tables.exec = Jvm.exec ∧ Z.Warmed39 s.vm ∧ c.code = bytes ∧ c.maxLocals = ml ∧ s.vm.findClass own = some m.cls ∧ meth.locks = false ∧ meth.sig.returnType = ret ∧ meth.name = nm
/-- the walk stands in T: the heap is h, only new places have been written, at most K cells and S slots are made -/
def Sd (p : Program) (l : Launch) (e : Env) (R : Room) (s : State) (m : MethodId) (args : Array Value) (below : List Frame) (meth : Method) (c : Code) (n0 K S : Nat) (h : Heap) (T : State) : Prop :=
  ∃ locs cells slots, Stand p l e R s m args below meth c T locs cells slots ∧ Fr n0 locs ∧ cells ≤ K ∧ slots ≤ S ∧ T.heap = h
/-- from the frame g in T the body runs to its return, and Q holds of what it returns and of the heap -/
def Done (p : Program) (e : Env) (R : Room) (s : State) (below : List Frame) (n0 : Nat) (Q : Option Value → Heap → Prop) (T : State) (g : JFrame) : Prop :=
  ∃ s₂ v L, Steps p.tables e below (T.setTop g) s₂ ∧ s₂.status = .running ∧ Ended s₂ below (.returned v) ∧ Q v s₂.heap ∧ Fr n0 L ∧ FrameEnd s (.returned v) s₂ L R.cells R.slots
def Go (p : Program) (l : Launch) (e : Env) (R : Room) (s : State) (m : MethodId) (args : Array Value) (below : List Frame) (meth : Method) (c : Code) (n0 : Nat) (Q : Option Value → Heap → Prop) (K S : Nat) (h : Heap) (g : JFrame) : Prop :=
  ∀ T, Sd p l e R s m args below meth c n0 K S h T → Done p e R s below n0 Q T g
/-- the contract of a body at the arguments as and the heap h -/
def Ctr (l : Launch) (Z : State) (y : MethodName) (bytes : ByteArray) (ml : Nat) (ret : Option FieldType) (rm : Room) (as : Array Value) (h : Heap) (n0 : Nat) (Q : Option Value → Heap → Prop) : Prop :=
  ∀ ws : List Jvm.Cond, MetFree l y (head1 (Jvm.Cond.code y bytes ml ret :: ws) rm) (fun a U => a = as ∧ Z.Warmed39 U.vm ∧ U.heap = h) (fun _ _ _ _ _ => True) (fun _ U o U' => ∃ v L, o = .returned v ∧ (Q v U'.heap ∧ Fr n0 L) ∧ FrameEnd U o U' L rm.cells rm.slots)
theorem Ctr.of {y : MethodName} {rm : Room} {as : Array Value} (hn : plainFor y = true)
    (body : ∀ (p : Program) (e : Env) (s : State) (m : MethodId) (below : List Frame) (meth : Method) (c : Code), Cx p l e rm s m as below meth c Z bytes ml y.cls ret y.name → Go p l e rm s m as below meth c n0 Q 0 0 h (entryFrame m as ml)) :
    Ctr l Z y bytes ml ret rm as h n0 Q := by
  intro ws
  refine MetFree.of_bodySF hn hisR ?_
  intro p e s m args below meth c s₁ Bd hml hP hK
  obtain ⟨rfl, hZ, hh⟩ := hP
  have X0 : Stand p l e rm s m args below meth c s₁ [] 0 0 := Stand.of_body Bd
  obtain ⟨s₂, v, L, h1, h2, h3, h4, h5, h6⟩ := body p e s m below meth c ⟨Bd.exec, hZ, Bd.bytes, hml, findClass_of_methodNamed Bd.named, Bd.notSynchronized, Bd.returns, (name_of_methodNamed Bd.named Bd.method).1⟩ s₁ ⟨[], 0, 0, X0, Fr.nil _, Nat.le_refl _, Nat.le_refl _, by rw [← hh, Bd.state]; rfl⟩
  exact ⟨s₂, .returned v, h1, h2, h3, v, L, rfl, ⟨h4, h5⟩, h6⟩
theorem Ctr.mono {y : MethodName} {rm : Room} {as : Array Value} {Q' : Option Value → Heap → Prop} (hC : Ctr l Z y bytes ml ret rm as h n0 Q) (hq : ∀ v h', Q v h' → Q' v h') : Ctr l Z y bytes ml ret rm as h n0 Q' := by
  intro ws p e ha hc hk s m args below hf happ hP hK
  obtain ⟨n, o, h1, h2, h3, v, L, h4, ⟨h5, h6⟩, h7⟩ := hC ws p e ha hc hk s m args below hf happ hP hK
  exact ⟨n, o, h1, h2, h3, v, L, h4, ⟨hq _ _ h5, h6⟩, h7⟩
theorem Go.at {pc : Nat} {Ls : Array Slot} {st st' : List Value} (hst : st = st') (n : Go p l e R s m args below meth c n0 Q K S h (mkF m pc Ls st')) : Go p l e R s m args below meth c n0 Q K S h (mkF m pc Ls st) := hst ▸ n
theorem Go.frame {g g' : JFrame} (hg : g = g') (n : Go p l e R s m args below meth c n0 Q K S h g') : Go p l e R s m args below meth c n0 Q K S h g := hg ▸ n
theorem Go.heap {g : JFrame} {h' : Heap} (hh : h = h') (n : Go p l e R s m args below meth c n0 Q K S h' g) : Go p l e R s m args below meth c n0 Q K S h g := hh ▸ n
theorem Go.by {g g' : JFrame} (hst : ∀ T locs cells slots, Stand p l e R s m args below meth c T locs cells slots → T.heap = h → ∀ target, Steps p.tables e below (T.setTop g') target → Steps p.tables e below (T.setTop g) target) (n : Go p l e R s m args below meth c n0 Q K S h g') : Go p l e R s m args below meth c n0 Q K S h g :=
  fun T ⟨ls, cs, ss, X, r⟩ => by
    obtain ⟨s₂, v, L, h1, h2⟩ := n T ⟨ls, cs, ss, X, r⟩
    exact ⟨s₂, v, L, hst T ls cs ss X r.2.2.2 _ h1, h2⟩
theorem Go.weak {g : JFrame} (hK : K ≤ K') (hS : S ≤ S') (n : Go p l e R s m args below meth c n0 Q K' S' h g) : Go p l e R s m args below meth c n0 Q K S h g := fun T ⟨ls, cs, ss, X, N, a, b, e'⟩ => n T ⟨ls, cs, ss, X, N, Nat.le_trans a hK, Nat.le_trans b hS, e'⟩
/-- a law that hands back a new state over the same heap -/
theorem Go.law {g g' : JFrame} (hst : ∀ T locs cells slots, Stand p l e R s m args below meth c T locs cells slots → T.heap = h → ∃ T', Stand p l e R s m args below meth c T' locs cells slots ∧ T'.heap = h ∧ ∀ target, Steps p.tables e below (T'.setTop g') target → Steps p.tables e below (T.setTop g) target) (n : Go p l e R s m args below meth c n0 Q K S h g') : Go p l e R s m args below meth c n0 Q K S h g :=
  fun T ⟨ls, cs, ss, X, r⟩ => by
    obtain ⟨T', X', e', st⟩ := hst T ls cs ss X r.2.2.2
    obtain ⟨s₂, v, L, h1, h2⟩ := n T' ⟨ls, cs, ss, X', r.1, r.2.1, r.2.2.1, e'⟩
    exact ⟨s₂, v, L, st _ h1, h2⟩
/-- a law that writes one place of a new cell -/
theorem Go.write {g g' : JFrame} {a : Addr} {sl : Nat} {v : Value} (ha : n0 ≤ a) (hst : ∀ T locs cells slots, Stand p l e R s m args below meth c T locs cells slots → T.heap = h → ∃ T' h', Stand p l e R s m args below meth c T' (locs ++ [⟨a, sl⟩]) cells slots ∧ T'.heap = h' ∧ Wr h h' a sl v ∧ ∀ target, Steps p.tables e below (T'.setTop g') target → Steps p.tables e below (T.setTop g) target)
    (n : ∀ h', Wr h h' a sl v → Go p l e R s m args below meth c n0 Q K S h' g') : Go p l e R s m args below meth c n0 Q K S h g :=
  fun T ⟨ls, cs, ss, X, r⟩ => by
    obtain ⟨T', h', X', e', W, st⟩ := hst T ls cs ss X r.2.2.2
    obtain ⟨s₂, v, L, h1, h2⟩ := n h' W T' ⟨_, cs, ss, X', Fr.snoc X' r.1 ha, r.2.1, r.2.2.1, e'⟩
    exact ⟨s₂, v, L, st _ h1, h2⟩
theorem iloadN (C : Cx p l e R s m args below meth c Z bytes ml own ret nm) {pc pc' : Nat} {Ls : Array Slot} {st : List Value} {k : Fin 4} {v : Int32}  (hd : decode bytes pc = .ok (.iload_n k, 1)) (hp : pc + 1 = pc') (hl : Ls[k.val]? = some (.val (.int v))) (n : Go p l e R s m args below meth c n0 Q K S h (mkF m pc' Ls (.int v :: st))) : Go p l e R s m args below meth c n0 Q K S h (mkF m pc Ls st) := by
  subst hp; exact Go.by (g' := (mkF m (pc + 1) Ls (.int v :: st))) (fun T ls cs ss X eT t kt => XS.iloadN X.here C.1 rfl (hb C.2.2.1 hd) hl kt) n
theorem iload (C : Cx p l e R s m args below meth c Z bytes ml own ret nm) {pc pc' : Nat} {Ls : Array Slot} {st : List Value} {k : Nat} {v : Int32}  (hd : decode bytes pc = .ok (.iload k, 2)) (hp : pc + 2 = pc') (hl : Ls[k]? = some (.val (.int v))) (n : Go p l e R s m args below meth c n0 Q K S h (mkF m pc' Ls (.int v :: st))) : Go p l e R s m args below meth c n0 Q K S h (mkF m pc Ls st) := by
  subst hp; exact Go.by (g' := (mkF m (pc + 2) Ls (.int v :: st))) (fun T ls cs ss X eT t kt => XS.iload X.here C.1 rfl (hb C.2.2.1 hd) hl kt) n
theorem istoreN (C : Cx p l e R s m args below meth c Z bytes ml own ret nm) {pc pc' : Nat} {Ls : Array Slot} {st : List Value} {k : Fin 4} {v : Int32} {l' : Array Slot}  (hd : decode bytes pc = .ok (.istore_n k, 1)) (hp : pc + 1 = pc') (hl : storeLocals Ls k.val (.int v) = some l') (n : Go p l e R s m args below meth c n0 Q K S h (mkF m pc' l' st)) : Go p l e R s m args below meth c n0 Q K S h (mkF m pc Ls (.int v :: st)) := by
  subst hp; exact Go.by (g' := (mkF m (pc + 1) l' st)) (fun T ls cs ss X eT t kt => XS.istoreN X.here C.1 rfl (hb C.2.2.1 hd) rfl hl kt) n
theorem istore (C : Cx p l e R s m args below meth c Z bytes ml own ret nm) {pc pc' : Nat} {Ls : Array Slot} {st : List Value} {k : Nat} {v : Int32} {l' : Array Slot}  (hd : decode bytes pc = .ok (.istore k, 2)) (hp : pc + 2 = pc') (hl : storeLocals Ls k (.int v) = some l') (n : Go p l e R s m args below meth c n0 Q K S h (mkF m pc' l' st)) : Go p l e R s m args below meth c n0 Q K S h (mkF m pc Ls (.int v :: st)) := by
  subst hp; exact Go.by (g' := (mkF m (pc + 2) l' st)) (fun T ls cs ss X eT t kt => XS.istore X.here C.1 rfl (hb C.2.2.1 hd) rfl hl kt) n
theorem lloadN (C : Cx p l e R s m args below meth c Z bytes ml own ret nm) {pc pc' : Nat} {Ls : Array Slot} {st : List Value} {k : Fin 4} {v : Int64}  (hd : decode bytes pc = .ok (.lload_n k, 1)) (hp : pc + 1 = pc') (hl : Ls[k.val]? = some (.val (.long v))) (n : Go p l e R s m args below meth c n0 Q K S h (mkF m pc' Ls (.long v :: st))) : Go p l e R s m args below meth c n0 Q K S h (mkF m pc Ls st) := by
  subst hp; exact Go.by (g' := (mkF m (pc + 1) Ls (.long v :: st))) (fun T ls cs ss X eT t kt => XS.lloadN X.here C.1 rfl (hb C.2.2.1 hd) hl kt) n
theorem lload (C : Cx p l e R s m args below meth c Z bytes ml own ret nm) {pc pc' : Nat} {Ls : Array Slot} {st : List Value} {k : Nat} {v : Int64}  (hd : decode bytes pc = .ok (.lload k, 2)) (hp : pc + 2 = pc') (hl : Ls[k]? = some (.val (.long v))) (n : Go p l e R s m args below meth c n0 Q K S h (mkF m pc' Ls (.long v :: st))) : Go p l e R s m args below meth c n0 Q K S h (mkF m pc Ls st) := by
  subst hp; exact Go.by (g' := (mkF m (pc + 2) Ls (.long v :: st))) (fun T ls cs ss X eT t kt => XS.lload X.here C.1 rfl (hb C.2.2.1 hd) hl kt) n
theorem lstoreN (C : Cx p l e R s m args below meth c Z bytes ml own ret nm) {pc pc' : Nat} {Ls : Array Slot} {st : List Value} {k : Fin 4} {v : Int64} {l' : Array Slot}  (hd : decode bytes pc = .ok (.lstore_n k, 1)) (hp : pc + 1 = pc') (hl : storeLocals Ls k.val (.long v) = some l') (n : Go p l e R s m args below meth c n0 Q K S h (mkF m pc' l' st)) : Go p l e R s m args below meth c n0 Q K S h (mkF m pc Ls (.long v :: st)) := by
  subst hp; exact Go.by (g' := (mkF m (pc + 1) l' st)) (fun T ls cs ss X eT t kt => XS.lstoreN X.here C.1 rfl (hb C.2.2.1 hd) rfl hl kt) n
theorem lstore (C : Cx p l e R s m args below meth c Z bytes ml own ret nm) {pc pc' : Nat} {Ls : Array Slot} {st : List Value} {k : Nat} {v : Int64} {l' : Array Slot}  (hd : decode bytes pc = .ok (.lstore k, 2)) (hp : pc + 2 = pc') (hl : storeLocals Ls k (.long v) = some l') (n : Go p l e R s m args below meth c n0 Q K S h (mkF m pc' l' st)) : Go p l e R s m args below meth c n0 Q K S h (mkF m pc Ls (.long v :: st)) := by
  subst hp; exact Go.by (g' := (mkF m (pc + 2) l' st)) (fun T ls cs ss X eT t kt => XS.lstore X.here C.1 rfl (hb C.2.2.1 hd) rfl hl kt) n
theorem aloadN (C : Cx p l e R s m args below meth c Z bytes ml own ret nm) {pc pc' : Nat} {Ls : Array Slot} {st : List Value} {k : Fin 4} {v : Value}  (hd : decode bytes pc = .ok (.aload_n k, 1)) (hp : pc + 1 = pc') (hl : Ls[k.val]? = some (.val v)) (hv : v.isRef = true) (n : Go p l e R s m args below meth c n0 Q K S h (mkF m pc' Ls (v :: st))) : Go p l e R s m args below meth c n0 Q K S h (mkF m pc Ls st) := by
  subst hp; exact Go.by (g' := (mkF m (pc + 1) Ls (v :: st))) (fun T ls cs ss X eT t kt => XS.aloadN X.here C.1 rfl (hb C.2.2.1 hd) hl hv kt) n
theorem aload (C : Cx p l e R s m args below meth c Z bytes ml own ret nm) {pc pc' : Nat} {Ls : Array Slot} {st : List Value} {k : Nat} {v : Value}  (hd : decode bytes pc = .ok (.aload k, 2)) (hp : pc + 2 = pc') (hl : Ls[k]? = some (.val v)) (hv : v.isRef = true) (n : Go p l e R s m args below meth c n0 Q K S h (mkF m pc' Ls (v :: st))) : Go p l e R s m args below meth c n0 Q K S h (mkF m pc Ls st) := by
  subst hp; exact Go.by (g' := (mkF m (pc + 2) Ls (v :: st))) (fun T ls cs ss X eT t kt => XS.aload X.here C.1 rfl (hb C.2.2.1 hd) hl hv kt) n
theorem astoreN (C : Cx p l e R s m args below meth c Z bytes ml own ret nm) {pc pc' : Nat} {Ls : Array Slot} {st : List Value} {k : Fin 4} {v : Value} {l' : Array Slot}  (hd : decode bytes pc = .ok (.astore_n k, 1)) (hp : pc + 1 = pc') (hv : v.isRef = true) (hl : storeLocals Ls k.val v = some l') (n : Go p l e R s m args below meth c n0 Q K S h (mkF m pc' l' st)) : Go p l e R s m args below meth c n0 Q K S h (mkF m pc Ls (v :: st)) := by
  subst hp; exact Go.by (g' := (mkF m (pc + 1) l' st)) (fun T ls cs ss X eT t kt => XS.astoreN X.here C.1 rfl (hb C.2.2.1 hd) rfl hv hl kt) n
theorem astore (C : Cx p l e R s m args below meth c Z bytes ml own ret nm) {pc pc' : Nat} {Ls : Array Slot} {st : List Value} {k : Nat} {v : Value} {l' : Array Slot}  (hd : decode bytes pc = .ok (.astore k, 2)) (hp : pc + 2 = pc') (hv : v.isRef = true) (hl : storeLocals Ls k v = some l') (n : Go p l e R s m args below meth c n0 Q K S h (mkF m pc' l' st)) : Go p l e R s m args below meth c n0 Q K S h (mkF m pc Ls (v :: st)) := by
  subst hp; exact Go.by (g' := (mkF m (pc + 2) l' st)) (fun T ls cs ss X eT t kt => XS.astore X.here C.1 rfl (hb C.2.2.1 hd) rfl hv hl kt) n
theorem istoreS (C : Cx p l e R s m args below meth c Z bytes ml own ret nm) {pc pc' : Nat} {Ls : Array Slot} {st : List Value} {k : Nat} {v : Int32} {o : Slot} {l' : Array Slot}  (hd : decode bytes pc = .ok (.istore k, 2)) (hp : pc + 2 = pc') (ho : Ls[k]? = some o) (h1 : One o) (hl : Ls.setIfInBounds k (.val (.int v)) = l') (n : Go p l e R s m args below meth c n0 Q K S h (mkF m pc' l' st)) : Go p l e R s m args below meth c n0 Q K S h (mkF m pc Ls (.int v :: st)) := by
  subst hp; exact Go.by (g' := (mkF m (pc + 2) l' st)) (fun T ls cs ss X eT t kt => XS.istoreS X.here C.1 rfl (hb C.2.2.1 hd) rfl ho h1 (hl ▸ kt)) n
theorem astoreS (C : Cx p l e R s m args below meth c Z bytes ml own ret nm) {pc pc' : Nat} {Ls : Array Slot} {st : List Value} {k : Nat} {v : Value} {o : Slot} {l' : Array Slot}  (hd : decode bytes pc = .ok (.astore k, 2)) (hp : pc + 2 = pc') (hv : v.isRef = true) (hc : v.category = 1) (ho : Ls[k]? = some o) (h1 : One o) (hl : Ls.setIfInBounds k (.val v) = l') (n : Go p l e R s m args below meth c n0 Q K S h (mkF m pc' l' st)) : Go p l e R s m args below meth c n0 Q K S h (mkF m pc Ls (v :: st)) := by
  subst hp; exact Go.by (g' := (mkF m (pc + 2) l' st)) (fun T ls cs ss X eT t kt => XS.astoreS X.here C.1 rfl (hb C.2.2.1 hd) rfl hv hc ho h1 (hl ▸ kt)) n
theorem iconst (C : Cx p l e R s m args below meth c Z bytes ml own ret nm) {pc pc' : Nat} {Ls : Array Slot} {st : List Value} {i : Int} {z : Int32}  (hd : decode bytes pc = .ok (.iconst i, 1)) (hp : pc + 1 = pc') (hz : Int32.ofInt i = z) (n : Go p l e R s m args below meth c n0 Q K S h (mkF m pc' Ls (.int z :: st))) : Go p l e R s m args below meth c n0 Q K S h (mkF m pc Ls st) := by
  subst hp; exact Go.by (g' := (mkF m (pc + 1) Ls (.int z :: st))) (fun T ls cs ss X eT t kt => XS.iconst X.here C.1 rfl (hb C.2.2.1 hd) (hz ▸ kt)) n
theorem bipush (C : Cx p l e R s m args below meth c Z bytes ml own ret nm) {pc pc' : Nat} {Ls : Array Slot} {st : List Value} {i : Int} {z : Int32}  (hd : decode bytes pc = .ok (.bipush i, 2)) (hp : pc + 2 = pc') (hz : (Int8.ofInt i).toInt32 = z) (n : Go p l e R s m args below meth c n0 Q K S h (mkF m pc' Ls (.int z :: st))) : Go p l e R s m args below meth c n0 Q K S h (mkF m pc Ls st) := by
  subst hp; exact Go.by (g' := (mkF m (pc + 2) Ls (.int z :: st))) (fun T ls cs ss X eT t kt => XS.bipush X.here C.1 rfl (hb C.2.2.1 hd) (hz ▸ kt)) n
theorem sipush (C : Cx p l e R s m args below meth c Z bytes ml own ret nm) {pc pc' : Nat} {Ls : Array Slot} {st : List Value} {i : Int} {z : Int32}  (hd : decode bytes pc = .ok (.sipush i, 3)) (hp : pc + 3 = pc') (hz : (Int16.ofInt i).toInt32 = z) (n : Go p l e R s m args below meth c n0 Q K S h (mkF m pc' Ls (.int z :: st))) : Go p l e R s m args below meth c n0 Q K S h (mkF m pc Ls st) := by
  subst hp; exact Go.by (g' := (mkF m (pc + 3) Ls (.int z :: st))) (fun T ls cs ss X eT t kt => XS.sipush X.here C.1 rfl (hb C.2.2.1 hd) (hz ▸ kt)) n
theorem lconst (C : Cx p l e R s m args below meth c Z bytes ml own ret nm) {pc pc' : Nat} {Ls : Array Slot} {st : List Value} {i : Fin 2} {z : Int64}  (hd : decode bytes pc = .ok (.lconst i, 1)) (hp : pc + 1 = pc') (hz : Int64.ofNat i.val = z) (n : Go p l e R s m args below meth c n0 Q K S h (mkF m pc' Ls (.long z :: st))) : Go p l e R s m args below meth c n0 Q K S h (mkF m pc Ls st) := by
  subst hp; exact Go.by (g' := (mkF m (pc + 1) Ls (.long z :: st))) (fun T ls cs ss X eT t kt => XS.lconst X.here C.1 rfl (hb C.2.2.1 hd) (hz ▸ kt)) n
theorem aconstNull (C : Cx p l e R s m args below meth c Z bytes ml own ret nm) {pc pc' : Nat} {Ls : Array Slot} {st : List Value}  (hd : decode bytes pc = .ok (.aconst_null, 1)) (hp : pc + 1 = pc')  (n : Go p l e R s m args below meth c n0 Q K S h (mkF m pc' Ls (.null :: st))) : Go p l e R s m args below meth c n0 Q K S h (mkF m pc Ls st) := by
  subst hp; exact Go.by (g' := (mkF m (pc + 1) Ls (.null :: st))) (fun T ls cs ss X eT t kt => XS.aconstNull X.here C.1 rfl (hb C.2.2.1 hd) kt) n
theorem iadd (C : Cx p l e R s m args below meth c Z bytes ml own ret nm) {pc pc' : Nat} {Ls : Array Slot} {st : List Value} {x y : Int32} (hd : decode bytes pc = .ok (.iadd, 1)) (hp : pc + 1 = pc')  (n : Go p l e R s m args below meth c n0 Q K S h (mkF m pc' Ls (.int (x + y) :: st))) : Go p l e R s m args below meth c n0 Q K S h (mkF m pc Ls (.int y :: .int x :: st)) := by
  subst hp; exact Go.by (g' := (mkF m (pc + 1) Ls (.int (x + y) :: st))) (fun T ls cs ss X eT t kt => XS.iadd X.here C.1 rfl (hb C.2.2.1 hd) rfl kt) n
theorem isub (C : Cx p l e R s m args below meth c Z bytes ml own ret nm) {pc pc' : Nat} {Ls : Array Slot} {st : List Value} {x y : Int32} (hd : decode bytes pc = .ok (.isub, 1)) (hp : pc + 1 = pc')  (n : Go p l e R s m args below meth c n0 Q K S h (mkF m pc' Ls (.int (x - y) :: st))) : Go p l e R s m args below meth c n0 Q K S h (mkF m pc Ls (.int y :: .int x :: st)) := by
  subst hp; exact Go.by (g' := (mkF m (pc + 1) Ls (.int (x - y) :: st))) (fun T ls cs ss X eT t kt => XS.isub X.here C.1 rfl (hb C.2.2.1 hd) rfl kt) n
theorem imul (C : Cx p l e R s m args below meth c Z bytes ml own ret nm) {pc pc' : Nat} {Ls : Array Slot} {st : List Value} {x y : Int32} (hd : decode bytes pc = .ok (.imul, 1)) (hp : pc + 1 = pc')  (n : Go p l e R s m args below meth c n0 Q K S h (mkF m pc' Ls (.int (x * y) :: st))) : Go p l e R s m args below meth c n0 Q K S h (mkF m pc Ls (.int y :: .int x :: st)) := by
  subst hp; exact Go.by (g' := (mkF m (pc + 1) Ls (.int (x * y) :: st))) (fun T ls cs ss X eT t kt => XS.imul X.here C.1 rfl (hb C.2.2.1 hd) rfl kt) n
theorem iand (C : Cx p l e R s m args below meth c Z bytes ml own ret nm) {pc pc' : Nat} {Ls : Array Slot} {st : List Value} {x y : Int32} (hd : decode bytes pc = .ok (.iand, 1)) (hp : pc + 1 = pc')  (n : Go p l e R s m args below meth c n0 Q K S h (mkF m pc' Ls (.int (x &&& y) :: st))) : Go p l e R s m args below meth c n0 Q K S h (mkF m pc Ls (.int y :: .int x :: st)) := by
  subst hp; exact Go.by (g' := (mkF m (pc + 1) Ls (.int (x &&& y) :: st))) (fun T ls cs ss X eT t kt => XS.iand X.here C.1 rfl (hb C.2.2.1 hd) rfl kt) n
theorem ior (C : Cx p l e R s m args below meth c Z bytes ml own ret nm) {pc pc' : Nat} {Ls : Array Slot} {st : List Value} {x y : Int32} (hd : decode bytes pc = .ok (.ior, 1)) (hp : pc + 1 = pc')  (n : Go p l e R s m args below meth c n0 Q K S h (mkF m pc' Ls (.int (x ||| y) :: st))) : Go p l e R s m args below meth c n0 Q K S h (mkF m pc Ls (.int y :: .int x :: st)) := by
  subst hp; exact Go.by (g' := (mkF m (pc + 1) Ls (.int (x ||| y) :: st))) (fun T ls cs ss X eT t kt => XS.ior X.here C.1 rfl (hb C.2.2.1 hd) rfl kt) n
theorem ixor (C : Cx p l e R s m args below meth c Z bytes ml own ret nm) {pc pc' : Nat} {Ls : Array Slot} {st : List Value} {x y : Int32} (hd : decode bytes pc = .ok (.ixor, 1)) (hp : pc + 1 = pc')  (n : Go p l e R s m args below meth c n0 Q K S h (mkF m pc' Ls (.int (x ^^^ y) :: st))) : Go p l e R s m args below meth c n0 Q K S h (mkF m pc Ls (.int y :: .int x :: st)) := by
  subst hp; exact Go.by (g' := (mkF m (pc + 1) Ls (.int (x ^^^ y) :: st))) (fun T ls cs ss X eT t kt => XS.ixor X.here C.1 rfl (hb C.2.2.1 hd) rfl kt) n
theorem ladd (C : Cx p l e R s m args below meth c Z bytes ml own ret nm) {pc pc' : Nat} {Ls : Array Slot} {st : List Value} {x y : Int64} (hd : decode bytes pc = .ok (.ladd, 1)) (hp : pc + 1 = pc')  (n : Go p l e R s m args below meth c n0 Q K S h (mkF m pc' Ls (.long (x + y) :: st))) : Go p l e R s m args below meth c n0 Q K S h (mkF m pc Ls (.long y :: .long x :: st)) := by
  subst hp; exact Go.by (g' := (mkF m (pc + 1) Ls (.long (x + y) :: st))) (fun T ls cs ss X eT t kt => XS.ladd X.here C.1 rfl (hb C.2.2.1 hd) rfl kt) n
theorem lsub (C : Cx p l e R s m args below meth c Z bytes ml own ret nm) {pc pc' : Nat} {Ls : Array Slot} {st : List Value} {x y : Int64} (hd : decode bytes pc = .ok (.lsub, 1)) (hp : pc + 1 = pc')  (n : Go p l e R s m args below meth c n0 Q K S h (mkF m pc' Ls (.long (x - y) :: st))) : Go p l e R s m args below meth c n0 Q K S h (mkF m pc Ls (.long y :: .long x :: st)) := by
  subst hp; exact Go.by (g' := (mkF m (pc + 1) Ls (.long (x - y) :: st))) (fun T ls cs ss X eT t kt => XS.lsub X.here C.1 rfl (hb C.2.2.1 hd) rfl kt) n
theorem lmul (C : Cx p l e R s m args below meth c Z bytes ml own ret nm) {pc pc' : Nat} {Ls : Array Slot} {st : List Value} {x y : Int64} (hd : decode bytes pc = .ok (.lmul, 1)) (hp : pc + 1 = pc')  (n : Go p l e R s m args below meth c n0 Q K S h (mkF m pc' Ls (.long (x * y) :: st))) : Go p l e R s m args below meth c n0 Q K S h (mkF m pc Ls (.long y :: .long x :: st)) := by
  subst hp; exact Go.by (g' := (mkF m (pc + 1) Ls (.long (x * y) :: st))) (fun T ls cs ss X eT t kt => XS.lmul X.here C.1 rfl (hb C.2.2.1 hd) rfl kt) n
theorem land (C : Cx p l e R s m args below meth c Z bytes ml own ret nm) {pc pc' : Nat} {Ls : Array Slot} {st : List Value} {x y : Int64} (hd : decode bytes pc = .ok (.land, 1)) (hp : pc + 1 = pc')  (n : Go p l e R s m args below meth c n0 Q K S h (mkF m pc' Ls (.long (x &&& y) :: st))) : Go p l e R s m args below meth c n0 Q K S h (mkF m pc Ls (.long y :: .long x :: st)) := by
  subst hp; exact Go.by (g' := (mkF m (pc + 1) Ls (.long (x &&& y) :: st))) (fun T ls cs ss X eT t kt => XS.land X.here C.1 rfl (hb C.2.2.1 hd) rfl kt) n
theorem lor (C : Cx p l e R s m args below meth c Z bytes ml own ret nm) {pc pc' : Nat} {Ls : Array Slot} {st : List Value} {x y : Int64} (hd : decode bytes pc = .ok (.lor, 1)) (hp : pc + 1 = pc')  (n : Go p l e R s m args below meth c n0 Q K S h (mkF m pc' Ls (.long (x ||| y) :: st))) : Go p l e R s m args below meth c n0 Q K S h (mkF m pc Ls (.long y :: .long x :: st)) := by
  subst hp; exact Go.by (g' := (mkF m (pc + 1) Ls (.long (x ||| y) :: st))) (fun T ls cs ss X eT t kt => XS.lor X.here C.1 rfl (hb C.2.2.1 hd) rfl kt) n
theorem lxor (C : Cx p l e R s m args below meth c Z bytes ml own ret nm) {pc pc' : Nat} {Ls : Array Slot} {st : List Value} {x y : Int64} (hd : decode bytes pc = .ok (.lxor, 1)) (hp : pc + 1 = pc')  (n : Go p l e R s m args below meth c n0 Q K S h (mkF m pc' Ls (.long (x ^^^ y) :: st))) : Go p l e R s m args below meth c n0 Q K S h (mkF m pc Ls (.long y :: .long x :: st)) := by
  subst hp; exact Go.by (g' := (mkF m (pc + 1) Ls (.long (x ^^^ y) :: st))) (fun T ls cs ss X eT t kt => XS.lxor X.here C.1 rfl (hb C.2.2.1 hd) rfl kt) n
theorem ishl (C : Cx p l e R s m args below meth c Z bytes ml own ret nm) {pc pc' : Nat} {Ls : Array Slot} {st : List Value} {x y : Int32} (hd : decode bytes pc = .ok (.ishl, 1)) (hp : pc + 1 = pc')  (n : Go p l e R s m args below meth c n0 Q K S h (mkF m pc' Ls (.int (x <<< (y &&& 31)) :: st))) : Go p l e R s m args below meth c n0 Q K S h (mkF m pc Ls (.int y :: .int x :: st)) := by
  subst hp; exact Go.by (g' := (mkF m (pc + 1) Ls (.int (x <<< (y &&& 31)) :: st))) (fun T ls cs ss X eT t kt => XS.ishl X.here C.1 rfl (hb C.2.2.1 hd) rfl kt) n
theorem ishr (C : Cx p l e R s m args below meth c Z bytes ml own ret nm) {pc pc' : Nat} {Ls : Array Slot} {st : List Value} {x y : Int32} (hd : decode bytes pc = .ok (.ishr, 1)) (hp : pc + 1 = pc')  (n : Go p l e R s m args below meth c n0 Q K S h (mkF m pc' Ls (.int (x >>> (y &&& 31)) :: st))) : Go p l e R s m args below meth c n0 Q K S h (mkF m pc Ls (.int y :: .int x :: st)) := by
  subst hp; exact Go.by (g' := (mkF m (pc + 1) Ls (.int (x >>> (y &&& 31)) :: st))) (fun T ls cs ss X eT t kt => XS.ishr X.here C.1 rfl (hb C.2.2.1 hd) rfl kt) n
theorem iushr (C : Cx p l e R s m args below meth c Z bytes ml own ret nm) {pc pc' : Nat} {Ls : Array Slot} {st : List Value} {x y : Int32} (hd : decode bytes pc = .ok (.iushr, 1)) (hp : pc + 1 = pc')  (n : Go p l e R s m args below meth c n0 Q K S h (mkF m pc' Ls (.int ((x.toUInt32 >>> (y &&& 31).toUInt32).toInt32) :: st))) : Go p l e R s m args below meth c n0 Q K S h (mkF m pc Ls (.int y :: .int x :: st)) := by
  subst hp; exact Go.by (g' := (mkF m (pc + 1) Ls (.int ((x.toUInt32 >>> (y &&& 31).toUInt32).toInt32) :: st))) (fun T ls cs ss X eT t kt => XS.iushr X.here C.1 rfl (hb C.2.2.1 hd) rfl kt) n
theorem lshl (C : Cx p l e R s m args below meth c Z bytes ml own ret nm) {pc pc' : Nat} {Ls : Array Slot} {st : List Value} {x : Int64} {y : Int32} (hd : decode bytes pc = .ok (.lshl, 1)) (hp : pc + 1 = pc')  (n : Go p l e R s m args below meth c n0 Q K S h (mkF m pc' Ls (.long (x <<< (y &&& 0x3f).toInt64) :: st))) : Go p l e R s m args below meth c n0 Q K S h (mkF m pc Ls (.int y :: .long x :: st)) := by
  subst hp; exact Go.by (g' := (mkF m (pc + 1) Ls (.long (x <<< (y &&& 0x3f).toInt64) :: st))) (fun T ls cs ss X eT t kt => XS.lshl X.here C.1 rfl (hb C.2.2.1 hd) rfl kt) n
theorem lshr (C : Cx p l e R s m args below meth c Z bytes ml own ret nm) {pc pc' : Nat} {Ls : Array Slot} {st : List Value} {x : Int64} {y : Int32} (hd : decode bytes pc = .ok (.lshr, 1)) (hp : pc + 1 = pc')  (n : Go p l e R s m args below meth c n0 Q K S h (mkF m pc' Ls (.long (x >>> (y &&& 0x3f).toInt64) :: st))) : Go p l e R s m args below meth c n0 Q K S h (mkF m pc Ls (.int y :: .long x :: st)) := by
  subst hp; exact Go.by (g' := (mkF m (pc + 1) Ls (.long (x >>> (y &&& 0x3f).toInt64) :: st))) (fun T ls cs ss X eT t kt => XS.lshr X.here C.1 rfl (hb C.2.2.1 hd) rfl kt) n
theorem lushr (C : Cx p l e R s m args below meth c Z bytes ml own ret nm) {pc pc' : Nat} {Ls : Array Slot} {st : List Value} {x : Int64} {y : Int32} (hd : decode bytes pc = .ok (.lushr, 1)) (hp : pc + 1 = pc')  (n : Go p l e R s m args below meth c n0 Q K S h (mkF m pc' Ls (.long ((x.toUInt64 >>> (y &&& 0x3f).toInt64.toUInt64).toInt64) :: st))) : Go p l e R s m args below meth c n0 Q K S h (mkF m pc Ls (.int y :: .long x :: st)) := by
  subst hp; exact Go.by (g' := (mkF m (pc + 1) Ls (.long ((x.toUInt64 >>> (y &&& 0x3f).toInt64.toUInt64).toInt64) :: st))) (fun T ls cs ss X eT t kt => XS.lushr X.here C.1 rfl (hb C.2.2.1 hd) rfl kt) n
theorem idiv (C : Cx p l e R s m args below meth c Z bytes ml own ret nm) {pc pc' : Nat} {Ls : Array Slot} {st : List Value} {x y : Int32}  (hd : decode bytes pc = .ok (.idiv, 1)) (hp : pc + 1 = pc') (hy : y ≠ 0) (n : Go p l e R s m args below meth c n0 Q K S h (mkF m pc' Ls (.int (x / y) :: st))) : Go p l e R s m args below meth c n0 Q K S h (mkF m pc Ls (.int y :: .int x :: st)) := by
  subst hp; exact Go.by (g' := (mkF m (pc + 1) Ls (.int (x / y) :: st))) (fun T ls cs ss X eT t kt => XS.idiv X.here C.1 rfl (hb C.2.2.1 hd) rfl hy kt) n
theorem irem (C : Cx p l e R s m args below meth c Z bytes ml own ret nm) {pc pc' : Nat} {Ls : Array Slot} {st : List Value} {x y : Int32}  (hd : decode bytes pc = .ok (.irem, 1)) (hp : pc + 1 = pc') (hy : y ≠ 0) (n : Go p l e R s m args below meth c n0 Q K S h (mkF m pc' Ls (.int (x % y) :: st))) : Go p l e R s m args below meth c n0 Q K S h (mkF m pc Ls (.int y :: .int x :: st)) := by
  subst hp; exact Go.by (g' := (mkF m (pc + 1) Ls (.int (x % y) :: st))) (fun T ls cs ss X eT t kt => iremM X C.1 rfl (hb C.2.2.1 hd) rfl hy kt) n
theorem ldiv (C : Cx p l e R s m args below meth c Z bytes ml own ret nm) {pc pc' : Nat} {Ls : Array Slot} {st : List Value} {x y : Int64}  (hd : decode bytes pc = .ok (.ldiv, 1)) (hp : pc + 1 = pc') (hy : y ≠ 0) (n : Go p l e R s m args below meth c n0 Q K S h (mkF m pc' Ls (.long (x / y) :: st))) : Go p l e R s m args below meth c n0 Q K S h (mkF m pc Ls (.long y :: .long x :: st)) := by
  subst hp; exact Go.by (g' := (mkF m (pc + 1) Ls (.long (x / y) :: st))) (fun T ls cs ss X eT t kt => XS.ldiv X.here C.1 rfl (hb C.2.2.1 hd) rfl hy kt) n
theorem ineg (C : Cx p l e R s m args below meth c Z bytes ml own ret nm) {pc pc' : Nat} {Ls : Array Slot} {st : List Value} {x : Int32} (hd : decode bytes pc = .ok (.ineg, 1)) (hp : pc + 1 = pc')  (n : Go p l e R s m args below meth c n0 Q K S h (mkF m pc' Ls (.int (-x) :: st))) : Go p l e R s m args below meth c n0 Q K S h (mkF m pc Ls (.int x :: st)) := by
  subst hp; exact Go.by (g' := (mkF m (pc + 1) Ls (.int (-x) :: st))) (fun T ls cs ss X eT t kt => XS.ineg X.here C.1 rfl (hb C.2.2.1 hd) rfl kt) n
theorem lneg (C : Cx p l e R s m args below meth c Z bytes ml own ret nm) {pc pc' : Nat} {Ls : Array Slot} {st : List Value} {x : Int64} (hd : decode bytes pc = .ok (.lneg, 1)) (hp : pc + 1 = pc')  (n : Go p l e R s m args below meth c n0 Q K S h (mkF m pc' Ls (.long (-x) :: st))) : Go p l e R s m args below meth c n0 Q K S h (mkF m pc Ls (.long x :: st)) := by
  subst hp; exact Go.by (g' := (mkF m (pc + 1) Ls (.long (-x) :: st))) (fun T ls cs ss X eT t kt => XS.lneg X.here C.1 rfl (hb C.2.2.1 hd) rfl kt) n
theorem i2l (C : Cx p l e R s m args below meth c Z bytes ml own ret nm) {pc pc' : Nat} {Ls : Array Slot} {st : List Value} {x : Int32} (hd : decode bytes pc = .ok (.i2l, 1)) (hp : pc + 1 = pc')  (n : Go p l e R s m args below meth c n0 Q K S h (mkF m pc' Ls (.long (x.toInt64) :: st))) : Go p l e R s m args below meth c n0 Q K S h (mkF m pc Ls (.int x :: st)) := by
  subst hp; exact Go.by (g' := (mkF m (pc + 1) Ls (.long (x.toInt64) :: st))) (fun T ls cs ss X eT t kt => XS.i2l X.here C.1 rfl (hb C.2.2.1 hd) rfl kt) n
theorem i2b (C : Cx p l e R s m args below meth c Z bytes ml own ret nm) {pc pc' : Nat} {Ls : Array Slot} {st : List Value} {x : Int32} (hd : decode bytes pc = .ok (.i2b, 1)) (hp : pc + 1 = pc')  (n : Go p l e R s m args below meth c n0 Q K S h (mkF m pc' Ls (.int (x.toInt8.toInt32) :: st))) : Go p l e R s m args below meth c n0 Q K S h (mkF m pc Ls (.int x :: st)) := by
  subst hp; exact Go.by (g' := (mkF m (pc + 1) Ls (.int (x.toInt8.toInt32) :: st))) (fun T ls cs ss X eT t kt => XS.i2b X.here C.1 rfl (hb C.2.2.1 hd) rfl kt) n
theorem i2s (C : Cx p l e R s m args below meth c Z bytes ml own ret nm) {pc pc' : Nat} {Ls : Array Slot} {st : List Value} {x : Int32} (hd : decode bytes pc = .ok (.i2s, 1)) (hp : pc + 1 = pc')  (n : Go p l e R s m args below meth c n0 Q K S h (mkF m pc' Ls (.int (x.toInt16.toInt32) :: st))) : Go p l e R s m args below meth c n0 Q K S h (mkF m pc Ls (.int x :: st)) := by
  subst hp; exact Go.by (g' := (mkF m (pc + 1) Ls (.int (x.toInt16.toInt32) :: st))) (fun T ls cs ss X eT t kt => XS.i2s X.here C.1 rfl (hb C.2.2.1 hd) rfl kt) n
theorem i2c (C : Cx p l e R s m args below meth c Z bytes ml own ret nm) {pc pc' : Nat} {Ls : Array Slot} {st : List Value} {x : Int32} (hd : decode bytes pc = .ok (.i2c, 1)) (hp : pc + 1 = pc')  (n : Go p l e R s m args below meth c n0 Q K S h (mkF m pc' Ls (.int (x.toUInt32.toUInt16.toUInt32.toInt32) :: st))) : Go p l e R s m args below meth c n0 Q K S h (mkF m pc Ls (.int x :: st)) := by
  subst hp; exact Go.by (g' := (mkF m (pc + 1) Ls (.int (x.toUInt32.toUInt16.toUInt32.toInt32) :: st))) (fun T ls cs ss X eT t kt => XS.i2c X.here C.1 rfl (hb C.2.2.1 hd) rfl kt) n
theorem l2i (C : Cx p l e R s m args below meth c Z bytes ml own ret nm) {pc pc' : Nat} {Ls : Array Slot} {st : List Value} {x : Int64} (hd : decode bytes pc = .ok (.l2i, 1)) (hp : pc + 1 = pc')  (n : Go p l e R s m args below meth c n0 Q K S h (mkF m pc' Ls (.int x.toInt32 :: st))) : Go p l e R s m args below meth c n0 Q K S h (mkF m pc Ls (.long x :: st)) := by
  subst hp; exact Go.by (g' := (mkF m (pc + 1) Ls (.int x.toInt32 :: st))) (fun T ls cs ss X eT t kt => XS.l2i X.here C.1 rfl (hb C.2.2.1 hd) rfl kt) n
theorem lcmp (C : Cx p l e R s m args below meth c Z bytes ml own ret nm) {pc pc' : Nat} {Ls : Array Slot} {st : List Value} {x y : Int64} (hd : decode bytes pc = .ok (.lcmp, 1)) (hp : pc + 1 = pc')  (n : Go p l e R s m args below meth c n0 Q K S h (mkF m pc' Ls (.int (lcmpW x y) :: st))) : Go p l e R s m args below meth c n0 Q K S h (mkF m pc Ls (.long y :: .long x :: st)) := by
  subst hp; exact Go.by (g' := (mkF m (pc + 1) Ls (.int (lcmpW x y) :: st))) (fun T ls cs ss X eT t kt => XS.lcmp X.here C.1 rfl (hb C.2.2.1 hd) rfl kt) n
theorem iinc (C : Cx p l e R s m args below meth c Z bytes ml own ret nm) {pc pc' : Nat} {Ls : Array Slot} {st : List Value} {k : Nat} {i : Int} {x : Int32} {l' : Array Slot}  (hd : decode bytes pc = .ok (.iinc k i, 3)) (hp : pc + 3 = pc') (hl : Ls[k]? = some (.val (.int x))) (hl' : storeLocals Ls k (.int (x + Int32.ofInt i)) = some l') (n : Go p l e R s m args below meth c n0 Q K S h (mkF m pc' l' st)) : Go p l e R s m args below meth c n0 Q K S h (mkF m pc Ls st) := by
  subst hp; exact Go.by (g' := (mkF m (pc + 3) l' st)) (fun T ls cs ss X eT t kt => XS.iinc X.here C.1 rfl (hb C.2.2.1 hd) hl hl' kt) n
theorem dup (C : Cx p l e R s m args below meth c Z bytes ml own ret nm) {pc pc' : Nat} {Ls : Array Slot} {st : List Value} {x : Value}  (hd : decode bytes pc = .ok (.dup, 1)) (hp : pc + 1 = pc') (hc : x.category = 1) (n : Go p l e R s m args below meth c n0 Q K S h (mkF m pc' Ls (x :: x :: st))) : Go p l e R s m args below meth c n0 Q K S h (mkF m pc Ls (x :: st)) := by
  subst hp; exact Go.by (g' := (mkF m (pc + 1) Ls (x :: x :: st))) (fun T ls cs ss X eT t kt => XS.dup X.here C.1 rfl (hb C.2.2.1 hd) rfl hc kt) n
theorem pop (C : Cx p l e R s m args below meth c Z bytes ml own ret nm) {pc pc' : Nat} {Ls : Array Slot} {st : List Value} {x : Value}  (hd : decode bytes pc = .ok (.pop, 1)) (hp : pc + 1 = pc') (hc : x.category = 1) (n : Go p l e R s m args below meth c n0 Q K S h (mkF m pc' Ls st)) : Go p l e R s m args below meth c n0 Q K S h (mkF m pc Ls (x :: st)) := by
  subst hp; exact Go.by (g' := (mkF m (pc + 1) Ls st)) (fun T ls cs ss X eT t kt => XS.pop X.here C.1 rfl (hb C.2.2.1 hd) rfl hc kt) n
theorem dupX1 (C : Cx p l e R s m args below meth c Z bytes ml own ret nm) {pc pc' : Nat} {Ls : Array Slot} {st : List Value} {x y : Value}  (hd : decode bytes pc = .ok (.dup_x1, 1)) (hp : pc + 1 = pc') (hc : x.category = 1) (hc' : y.category = 1) (n : Go p l e R s m args below meth c n0 Q K S h (mkF m pc' Ls (x :: y :: x :: st))) : Go p l e R s m args below meth c n0 Q K S h (mkF m pc Ls (x :: y :: st)) := by
  subst hp; exact Go.by (g' := (mkF m (pc + 1) Ls (x :: y :: x :: st))) (fun T ls cs ss X eT t kt => XS.dupX1 X.here C.1 rfl (hb C.2.2.1 hd) rfl hc hc' kt) n
theorem dloadN (C : Cx p l e R s m args below meth c Z bytes ml own ret nm) {pc pc' : Nat} {Ls : Array Slot} {st : List Value} {k : Fin 4} {v : UInt64}  (hd : decode bytes pc = .ok (.dload_n k, 1)) (hp : pc + 1 = pc') (hl : Ls[k.val]? = some (.val (.double v))) (n : Go p l e R s m args below meth c n0 Q K S h (mkF m pc' Ls (.double v :: st))) : Go p l e R s m args below meth c n0 Q K S h (mkF m pc Ls st) := by
  subst hp; exact Go.by (g' := (mkF m (pc + 1) Ls (.double v :: st))) (fun T ls cs ss X eT t kt => XS.dloadN X.here C.1 rfl (hb C.2.2.1 hd) hl kt) n
theorem dload (C : Cx p l e R s m args below meth c Z bytes ml own ret nm) {pc pc' : Nat} {Ls : Array Slot} {st : List Value} {k : Nat} {v : UInt64}  (hd : decode bytes pc = .ok (.dload k, 2)) (hp : pc + 2 = pc') (hl : Ls[k]? = some (.val (.double v))) (n : Go p l e R s m args below meth c n0 Q K S h (mkF m pc' Ls (.double v :: st))) : Go p l e R s m args below meth c n0 Q K S h (mkF m pc Ls st) := by
  subst hp; exact Go.by (g' := (mkF m (pc + 2) Ls (.double v :: st))) (fun T ls cs ss X eT t kt => XS.dload X.here C.1 rfl (hb C.2.2.1 hd) hl kt) n
theorem i2d (C : Cx p l e R s m args below meth c Z bytes ml own ret nm) {pc pc' : Nat} {Ls : Array Slot} {st : List Value} {x : Int32} (hd : decode bytes pc = .ok (.i2d, 1)) (hp : pc + 1 = pc')  (n : Go p l e R s m args below meth c n0 Q K S h (mkF m pc' Ls (.double (FP.i2d x) :: st))) : Go p l e R s m args below meth c n0 Q K S h (mkF m pc Ls (.int x :: st)) := by
  subst hp; exact Go.by (g' := (mkF m (pc + 1) Ls (.double (FP.i2d x) :: st))) (fun T ls cs ss X eT t kt => XS.i2dS X.here C.1 rfl (hb C.2.2.1 hd) rfl rfl kt) n
theorem ddiv (C : Cx p l e R s m args below meth c Z bytes ml own ret nm) {pc pc' : Nat} {Ls : Array Slot} {st : List Value} {x y v : UInt64}  (hd : decode bytes pc = .ok (.ddiv, 1)) (hp : pc + 1 = pc') (hn : Jvm.Free.Fl.NoNaN64 (FP.ddiv x y)) (hv : FP.ddiv x y = v) (n : Go p l e R s m args below meth c n0 Q K S h (mkF m pc' Ls (.double v :: st))) : Go p l e R s m args below meth c n0 Q K S h (mkF m pc Ls (.double y :: .double x :: st)) := by
  subst hp; exact Go.by (g' := (mkF m (pc + 1) Ls (.double v :: st))) (fun T ls cs ss X eT t kt => XS.ddivS X.here C.1 rfl (hb C.2.2.1 hd) rfl hn hv kt) n
theorem dcmp (C : Cx p l e R s m args below meth c Z bytes ml own ret nm) {pc pc' : Nat} {Ls : Array Slot} {st : List Value} {x y : UInt64} {o : CmpOp} {v : Int32}  (hd : decode bytes pc = .ok (.dcmp o, 1)) (hp : pc + 1 = pc') (hv : cmpValue (FP.dcmp x y) o = v) (n : Go p l e R s m args below meth c n0 Q K S h (mkF m pc' Ls (.int v :: st))) : Go p l e R s m args below meth c n0 Q K S h (mkF m pc Ls (.double y :: .double x :: st)) := by
  subst hp; exact Go.by (g' := (mkF m (pc + 1) Ls (.int v :: st))) (fun T ls cs ss X eT t kt => XS.dcmpS X.here C.1 rfl (hb C.2.2.1 hd) rfl hv kt) n
theorem goto (C : Cx p l e R s m args below meth c Z bytes ml own ret nm) {pc pc' : Nat} {Ls : Array Slot} {st : List Value} {o : Int} (hd : decode bytes pc = .ok (.goto o, 3)) (ho : 0 ≤ (pc : Int) + o) (hp : ((pc : Int) + o).toNat = pc') (n : Go p l e R s m args below meth c n0 Q K S h (mkF m pc' Ls st)) : Go p l e R s m args below meth c n0 Q K S h (mkF m pc Ls st) :=
  Go.by (fun T ls cs ss X eT t kt => XS.goto X.here C.1 rfl rfl (hb C.2.2.1 hd) ho hp kt) n
theorem ifG (C : Cx p l e R s m args below meth c Z bytes ml own ret nm) {pc pcY pcN : Nat} {Ls : Array Slot} {st : List Value} {cd : ClassFile.Cond} {o : Int} {x : Int32} (hd : decode bytes pc = .ok (.ifCond cd o, 3)) (ho : 0 ≤ (pc : Int) + o) (hp : ((pc : Int) + o).toNat = pcY) (hp' : pc + 3 = pcN) (ny : ifCond.holds cd x = true → Go p l e R s m args below meth c n0 Q K S h (mkF m pcY Ls st)) (nn : ifCond.holds cd x = false → Go p l e R s m args below meth c n0 Q K S h (mkF m pcN Ls st)) : Go p l e R s m args below meth c n0 Q K S h (mkF m pc Ls (.int x :: st)) := by
  subst hp'
  cases hc : ifCond.holds cd x
  · exact Go.by (g' := (mkF m (pc + 3) Ls st)) (fun T ls cs ss X eT t kt => XS.ifNo X.here C.1 rfl (hb C.2.2.1 hd) rfl hc kt) (nn hc)
  · exact Go.by (fun T ls cs ss X eT t kt => XS.ifYes X.here C.1 rfl rfl (hb C.2.2.1 hd) rfl hc ho hp kt) (ny hc)
theorem icmpG (C : Cx p l e R s m args below meth c Z bytes ml own ret nm) {pc pcY pcN : Nat} {Ls : Array Slot} {st : List Value} {cd : ClassFile.Cond} {o : Int} {x y : Int32} (hd : decode bytes pc = .ok (.if_icmp cd o, 3)) (ho : 0 ≤ (pc : Int) + o) (hp : ((pc : Int) + o).toNat = pcY) (hp' : pc + 3 = pcN) (ny : if_icmp.holds cd x y = true → Go p l e R s m args below meth c n0 Q K S h (mkF m pcY Ls st)) (nn : if_icmp.holds cd x y = false → Go p l e R s m args below meth c n0 Q K S h (mkF m pcN Ls st)) : Go p l e R s m args below meth c n0 Q K S h (mkF m pc Ls (.int y :: .int x :: st)) := by
  subst hp'
  cases hc : if_icmp.holds cd x y
  · exact Go.by (g' := (mkF m (pc + 3) Ls st)) (fun T ls cs ss X eT t kt => XS.icmpNo X.here C.1 rfl (hb C.2.2.1 hd) rfl hc kt) (nn hc)
  · exact Go.by (fun T ls cs ss X eT t kt => XS.icmpYes X.here C.1 rfl rfl (hb C.2.2.1 hd) rfl hc ho hp kt) (ny hc)
theorem ifEq (C : Cx p l e R s m args below meth c Z bytes ml own ret nm) {pc pcY pcN : Nat} {Ls : Array Slot} {st : List Value} {o : Int} {x : Int32} (hd : decode bytes pc = .ok (.ifCond .eq o, 3)) (ho : 0 ≤ (pc : Int) + o) (hp : ((pc : Int) + o).toNat = pcY) (hp' : pc + 3 = pcN) (ny : x = 0 → Go p l e R s m args below meth c n0 Q K S h (mkF m pcY Ls st)) (nn : ¬ x = 0 → Go p l e R s m args below meth c n0 Q K S h (mkF m pcN Ls st)) : Go p l e R s m args below meth c n0 Q K S h (mkF m pc Ls (.int x :: st)) := by
  by_cases hq : x = 0
  · exact ifG C hd ho hp hp' (fun hc => ny hq) (fun hc => absurd (hc.symm.trans ((if0 _ _).trans (teq hq).1)) (by decide))
  · exact ifG C hd ho hp hp' (fun hc => absurd (hc.symm.trans ((if0 _ _).trans (feq hq).1)) (by decide)) (fun hc => nn hq)
theorem icEq (C : Cx p l e R s m args below meth c Z bytes ml own ret nm) {pc pcY pcN : Nat} {Ls : Array Slot} {st : List Value} {o : Int} {x y : Int32} (hd : decode bytes pc = .ok (.if_icmp .eq o, 3)) (ho : 0 ≤ (pc : Int) + o) (hp : ((pc : Int) + o).toNat = pcY) (hp' : pc + 3 = pcN) (ny : x = y → Go p l e R s m args below meth c n0 Q K S h (mkF m pcY Ls st)) (nn : ¬ x = y → Go p l e R s m args below meth c n0 Q K S h (mkF m pcN Ls st)) : Go p l e R s m args below meth c n0 Q K S h (mkF m pc Ls (.int y :: .int x :: st)) := by
  by_cases hq : x = y
  · exact icmpG C hd ho hp hp' (fun hc => ny hq) (fun hc => absurd (hc.symm.trans ((teq hq).1)) (by decide))
  · exact icmpG C hd ho hp hp' (fun hc => absurd (hc.symm.trans ((feq hq).1)) (by decide)) (fun hc => nn hq)
theorem ifNe (C : Cx p l e R s m args below meth c Z bytes ml own ret nm) {pc pcY pcN : Nat} {Ls : Array Slot} {st : List Value} {o : Int} {x : Int32} (hd : decode bytes pc = .ok (.ifCond .ne o, 3)) (ho : 0 ≤ (pc : Int) + o) (hp : ((pc : Int) + o).toNat = pcY) (hp' : pc + 3 = pcN) (ny : ¬ x = 0 → Go p l e R s m args below meth c n0 Q K S h (mkF m pcY Ls st)) (nn : x = 0 → Go p l e R s m args below meth c n0 Q K S h (mkF m pcN Ls st)) : Go p l e R s m args below meth c n0 Q K S h (mkF m pc Ls (.int x :: st)) := by
  by_cases hq : x = 0
  · exact ifG C hd ho hp hp' (fun hc => absurd (hc.symm.trans ((if0 _ _).trans (teq hq).2)) (by decide)) (fun hc => nn hq)
  · exact ifG C hd ho hp hp' (fun hc => ny hq) (fun hc => absurd (hc.symm.trans ((if0 _ _).trans (feq hq).2)) (by decide))
theorem icNe (C : Cx p l e R s m args below meth c Z bytes ml own ret nm) {pc pcY pcN : Nat} {Ls : Array Slot} {st : List Value} {o : Int} {x y : Int32} (hd : decode bytes pc = .ok (.if_icmp .ne o, 3)) (ho : 0 ≤ (pc : Int) + o) (hp : ((pc : Int) + o).toNat = pcY) (hp' : pc + 3 = pcN) (ny : ¬ x = y → Go p l e R s m args below meth c n0 Q K S h (mkF m pcY Ls st)) (nn : x = y → Go p l e R s m args below meth c n0 Q K S h (mkF m pcN Ls st)) : Go p l e R s m args below meth c n0 Q K S h (mkF m pc Ls (.int y :: .int x :: st)) := by
  by_cases hq : x = y
  · exact icmpG C hd ho hp hp' (fun hc => absurd (hc.symm.trans ((teq hq).2)) (by decide)) (fun hc => nn hq)
  · exact icmpG C hd ho hp hp' (fun hc => ny hq) (fun hc => absurd (hc.symm.trans ((feq hq).2)) (by decide))
theorem ifLt (C : Cx p l e R s m args below meth c Z bytes ml own ret nm) {pc pcY pcN : Nat} {Ls : Array Slot} {st : List Value} {o : Int} {x : Int32} (hd : decode bytes pc = .ok (.ifCond .lt o, 3)) (ho : 0 ≤ (pc : Int) + o) (hp : ((pc : Int) + o).toNat = pcY) (hp' : pc + 3 = pcN) (ny : x < 0 → Go p l e R s m args below meth c n0 Q K S h (mkF m pcY Ls st)) (nn : ¬ x < 0 → Go p l e R s m args below meth c n0 Q K S h (mkF m pcN Ls st)) : Go p l e R s m args below meth c n0 Q K S h (mkF m pc Ls (.int x :: st)) := by
  by_cases hq : x < 0
  · exact ifG C hd ho hp hp' (fun hc => ny hq) (fun hc => absurd (hc.symm.trans ((if0 _ _).trans (tlt hq).1)) (by decide))
  · exact ifG C hd ho hp hp' (fun hc => absurd (hc.symm.trans ((if0 _ _).trans (flt hq).1)) (by decide)) (fun hc => nn hq)
theorem icLt (C : Cx p l e R s m args below meth c Z bytes ml own ret nm) {pc pcY pcN : Nat} {Ls : Array Slot} {st : List Value} {o : Int} {x y : Int32} (hd : decode bytes pc = .ok (.if_icmp .lt o, 3)) (ho : 0 ≤ (pc : Int) + o) (hp : ((pc : Int) + o).toNat = pcY) (hp' : pc + 3 = pcN) (ny : x < y → Go p l e R s m args below meth c n0 Q K S h (mkF m pcY Ls st)) (nn : ¬ x < y → Go p l e R s m args below meth c n0 Q K S h (mkF m pcN Ls st)) : Go p l e R s m args below meth c n0 Q K S h (mkF m pc Ls (.int y :: .int x :: st)) := by
  by_cases hq : x < y
  · exact icmpG C hd ho hp hp' (fun hc => ny hq) (fun hc => absurd (hc.symm.trans ((tlt hq).1)) (by decide))
  · exact icmpG C hd ho hp hp' (fun hc => absurd (hc.symm.trans ((flt hq).1)) (by decide)) (fun hc => nn hq)
theorem ifGe (C : Cx p l e R s m args below meth c Z bytes ml own ret nm) {pc pcY pcN : Nat} {Ls : Array Slot} {st : List Value} {o : Int} {x : Int32} (hd : decode bytes pc = .ok (.ifCond .ge o, 3)) (ho : 0 ≤ (pc : Int) + o) (hp : ((pc : Int) + o).toNat = pcY) (hp' : pc + 3 = pcN) (ny : ¬ x < 0 → Go p l e R s m args below meth c n0 Q K S h (mkF m pcY Ls st)) (nn : x < 0 → Go p l e R s m args below meth c n0 Q K S h (mkF m pcN Ls st)) : Go p l e R s m args below meth c n0 Q K S h (mkF m pc Ls (.int x :: st)) := by
  by_cases hq : x < 0
  · exact ifG C hd ho hp hp' (fun hc => absurd (hc.symm.trans ((if0 _ _).trans (tlt hq).2.1)) (by decide)) (fun hc => nn hq)
  · exact ifG C hd ho hp hp' (fun hc => ny hq) (fun hc => absurd (hc.symm.trans ((if0 _ _).trans (flt hq).2.1)) (by decide))
theorem icGe (C : Cx p l e R s m args below meth c Z bytes ml own ret nm) {pc pcY pcN : Nat} {Ls : Array Slot} {st : List Value} {o : Int} {x y : Int32} (hd : decode bytes pc = .ok (.if_icmp .ge o, 3)) (ho : 0 ≤ (pc : Int) + o) (hp : ((pc : Int) + o).toNat = pcY) (hp' : pc + 3 = pcN) (ny : ¬ x < y → Go p l e R s m args below meth c n0 Q K S h (mkF m pcY Ls st)) (nn : x < y → Go p l e R s m args below meth c n0 Q K S h (mkF m pcN Ls st)) : Go p l e R s m args below meth c n0 Q K S h (mkF m pc Ls (.int y :: .int x :: st)) := by
  by_cases hq : x < y
  · exact icmpG C hd ho hp hp' (fun hc => absurd (hc.symm.trans ((tlt hq).2.1)) (by decide)) (fun hc => nn hq)
  · exact icmpG C hd ho hp hp' (fun hc => ny hq) (fun hc => absurd (hc.symm.trans ((flt hq).2.1)) (by decide))
theorem ifGt (C : Cx p l e R s m args below meth c Z bytes ml own ret nm) {pc pcY pcN : Nat} {Ls : Array Slot} {st : List Value} {o : Int} {x : Int32} (hd : decode bytes pc = .ok (.ifCond .gt o, 3)) (ho : 0 ≤ (pc : Int) + o) (hp : ((pc : Int) + o).toNat = pcY) (hp' : pc + 3 = pcN) (ny : 0 < x → Go p l e R s m args below meth c n0 Q K S h (mkF m pcY Ls st)) (nn : ¬ 0 < x → Go p l e R s m args below meth c n0 Q K S h (mkF m pcN Ls st)) : Go p l e R s m args below meth c n0 Q K S h (mkF m pc Ls (.int x :: st)) := by
  by_cases hq : 0 < x
  · exact ifG C hd ho hp hp' (fun hc => ny hq) (fun hc => absurd (hc.symm.trans ((if0 _ _).trans (tlt hq).2.2.1)) (by decide))
  · exact ifG C hd ho hp hp' (fun hc => absurd (hc.symm.trans ((if0 _ _).trans (flt hq).2.2.1)) (by decide)) (fun hc => nn hq)
theorem icGt (C : Cx p l e R s m args below meth c Z bytes ml own ret nm) {pc pcY pcN : Nat} {Ls : Array Slot} {st : List Value} {o : Int} {x y : Int32} (hd : decode bytes pc = .ok (.if_icmp .gt o, 3)) (ho : 0 ≤ (pc : Int) + o) (hp : ((pc : Int) + o).toNat = pcY) (hp' : pc + 3 = pcN) (ny : y < x → Go p l e R s m args below meth c n0 Q K S h (mkF m pcY Ls st)) (nn : ¬ y < x → Go p l e R s m args below meth c n0 Q K S h (mkF m pcN Ls st)) : Go p l e R s m args below meth c n0 Q K S h (mkF m pc Ls (.int y :: .int x :: st)) := by
  by_cases hq : y < x
  · exact icmpG C hd ho hp hp' (fun hc => ny hq) (fun hc => absurd (hc.symm.trans ((tlt hq).2.2.1)) (by decide))
  · exact icmpG C hd ho hp hp' (fun hc => absurd (hc.symm.trans ((flt hq).2.2.1)) (by decide)) (fun hc => nn hq)
theorem ifLe (C : Cx p l e R s m args below meth c Z bytes ml own ret nm) {pc pcY pcN : Nat} {Ls : Array Slot} {st : List Value} {o : Int} {x : Int32} (hd : decode bytes pc = .ok (.ifCond .le o, 3)) (ho : 0 ≤ (pc : Int) + o) (hp : ((pc : Int) + o).toNat = pcY) (hp' : pc + 3 = pcN) (ny : ¬ 0 < x → Go p l e R s m args below meth c n0 Q K S h (mkF m pcY Ls st)) (nn : 0 < x → Go p l e R s m args below meth c n0 Q K S h (mkF m pcN Ls st)) : Go p l e R s m args below meth c n0 Q K S h (mkF m pc Ls (.int x :: st)) := by
  by_cases hq : 0 < x
  · exact ifG C hd ho hp hp' (fun hc => absurd (hc.symm.trans ((if0 _ _).trans (tlt hq).2.2.2)) (by decide)) (fun hc => nn hq)
  · exact ifG C hd ho hp hp' (fun hc => ny hq) (fun hc => absurd (hc.symm.trans ((if0 _ _).trans (flt hq).2.2.2)) (by decide))
theorem icLe (C : Cx p l e R s m args below meth c Z bytes ml own ret nm) {pc pcY pcN : Nat} {Ls : Array Slot} {st : List Value} {o : Int} {x y : Int32} (hd : decode bytes pc = .ok (.if_icmp .le o, 3)) (ho : 0 ≤ (pc : Int) + o) (hp : ((pc : Int) + o).toNat = pcY) (hp' : pc + 3 = pcN) (ny : ¬ y < x → Go p l e R s m args below meth c n0 Q K S h (mkF m pcY Ls st)) (nn : y < x → Go p l e R s m args below meth c n0 Q K S h (mkF m pcN Ls st)) : Go p l e R s m args below meth c n0 Q K S h (mkF m pc Ls (.int y :: .int x :: st)) := by
  by_cases hq : y < x
  · exact icmpG C hd ho hp hp' (fun hc => absurd (hc.symm.trans ((tlt hq).2.2.2)) (by decide)) (fun hc => nn hq)
  · exact icmpG C hd ho hp hp' (fun hc => ny hq) (fun hc => absurd (hc.symm.trans ((flt hq).2.2.2)) (by decide))
theorem acEq (C : Cx p l e R s m args below meth c Z bytes ml own ret nm) {pc pcY pcN : Nat} {Ls : Array Slot} {st : List Value} {o : Int} {x y : Value} (hx : x.isRef = true) (hy : y.isRef = true) (hd : decode bytes pc = .ok (.if_acmp .eq o, 3)) (ho : 0 ≤ (pc : Int) + o) (hp : ((pc : Int) + o).toNat = pcY) (hp' : pc + 3 = pcN) (ny : x = y → Go p l e R s m args below meth c n0 Q K S h (mkF m pcY Ls st)) (nn : ¬ x = y → Go p l e R s m args below meth c n0 Q K S h (mkF m pcN Ls st)) : Go p l e R s m args below meth c n0 Q K S h (mkF m pc Ls (y :: x :: st)) := by
  by_cases hq : x = y
  · exact Go.by (fun T ls cs ss X eT t kt => Jvm.RoadKit.acmp (g := mkF m pc Ls (y :: x :: st)) X C.1 rfl hx hy (same := true) rfl (hb C.2.2.1 hd) rfl (decide_eq_true hq) ho (by first | (simp [acV]; omega) | (simp [acV, ← hp'])) kt) (ny hq)
  · exact Go.by (fun T ls cs ss X eT t kt => Jvm.RoadKit.acmp (g := mkF m pc Ls (y :: x :: st)) X C.1 rfl hx hy (same := false) rfl (hb C.2.2.1 hd) rfl (decide_eq_false hq) ho (by first | (simp [acV]; omega) | (simp [acV, ← hp'])) kt) (nn hq)
theorem acNe (C : Cx p l e R s m args below meth c Z bytes ml own ret nm) {pc pcY pcN : Nat} {Ls : Array Slot} {st : List Value} {o : Int} {x y : Value} (hx : x.isRef = true) (hy : y.isRef = true) (hd : decode bytes pc = .ok (.if_acmp .ne o, 3)) (ho : 0 ≤ (pc : Int) + o) (hp : ((pc : Int) + o).toNat = pcY) (hp' : pc + 3 = pcN) (ny : ¬ x = y → Go p l e R s m args below meth c n0 Q K S h (mkF m pcY Ls st)) (nn : x = y → Go p l e R s m args below meth c n0 Q K S h (mkF m pcN Ls st)) : Go p l e R s m args below meth c n0 Q K S h (mkF m pc Ls (y :: x :: st)) := by
  by_cases hq : x = y
  · exact Go.by (fun T ls cs ss X eT t kt => Jvm.RoadKit.acmp (g := mkF m pc Ls (y :: x :: st)) X C.1 rfl hx hy (same := true) rfl (hb C.2.2.1 hd) rfl (decide_eq_true hq) ho (by first | (simp [acV]; omega) | (simp [acV, ← hp'])) kt) (nn hq)
  · exact Go.by (fun T ls cs ss X eT t kt => Jvm.RoadKit.acmp (g := mkF m pc Ls (y :: x :: st)) X C.1 rfl hx hy (same := false) rfl (hb C.2.2.1 hd) rfl (decide_eq_false hq) ho (by first | (simp [acV]; omega) | (simp [acV, ← hp'])) kt) (ny hq)
theorem ifnull (C : Cx p l e R s m args below meth c Z bytes ml own ret nm) {pc pcY pcN : Nat} {Ls : Array Slot} {st : List Value} {o : Int} {x : Value} (hx : x.isRef = true) (hd : decode bytes pc = .ok (.ifnull o, 3)) (ho : 0 ≤ (pc : Int) + o) (hp : ((pc : Int) + o).toNat = pcY) (hp' : pc + 3 = pcN) (ny : x = .null → Go p l e R s m args below meth c n0 Q K S h (mkF m pcY Ls st)) (nn : (∃ a, x = .ref a) → Go p l e R s m args below meth c n0 Q K S h (mkF m pcN Ls st)) : Go p l e R s m args below meth c n0 Q K S h (mkF m pc Ls (x :: st)) := by
  subst hp'
  rcases ref_cases hx with rfl | ⟨a, rfl⟩
  · exact Go.by (fun T ls cs ss X eT t kt => XS.ifnullYes X.here C.1 rfl rfl (hb C.2.2.1 hd) rfl ho hp kt) (ny rfl)
  · exact Go.by (g' := (mkF m (pc + 3) Ls st)) (fun T ls cs ss X eT t kt => XS.ifnullNo X.here C.1 rfl (hb C.2.2.1 hd) rfl kt) (nn ⟨a, rfl⟩)
theorem ifnonnull (C : Cx p l e R s m args below meth c Z bytes ml own ret nm) {pc pcY pcN : Nat} {Ls : Array Slot} {st : List Value} {o : Int} {x : Value} (hx : x.isRef = true) (hd : decode bytes pc = .ok (.ifnonnull o, 3)) (ho : 0 ≤ (pc : Int) + o) (hp : ((pc : Int) + o).toNat = pcY) (hp' : pc + 3 = pcN) (ny : (∃ a, x = .ref a) → Go p l e R s m args below meth c n0 Q K S h (mkF m pcY Ls st)) (nn : x = .null → Go p l e R s m args below meth c n0 Q K S h (mkF m pcN Ls st)) : Go p l e R s m args below meth c n0 Q K S h (mkF m pc Ls (x :: st)) := by
  subst hp'
  rcases ref_cases hx with rfl | ⟨a, rfl⟩
  · exact Go.by (g' := (mkF m (pc + 3) Ls st)) (fun T ls cs ss X eT t kt => XS.ifnonnullNo X.here C.1 rfl (hb C.2.2.1 hd) rfl kt) (nn rfl)
  · exact Go.by (fun T ls cs ss X eT t kt => XS.ifnonnullYes X.here C.1 rfl rfl (hb C.2.2.1 hd) rfl ho hp kt) (ny ⟨a, rfl⟩)
theorem tsw (C : Cx p l e R s m args below meth c Z bytes ml own ret nm) {pc pc' : Nat} {Ls : Array Slot} {st : List Value} {dflt low high : Int} {offs : Array Int} {len : Nat} {o : Int} {i : Int32} (hd : decode bytes pc = .ok (.tableswitch dflt low high offs, len)) (hin : ¬ (i.toInt < low ∨ i.toInt > high)) (hoff : offs[(i.toInt - low).toNat]? = some o) (ho : 0 ≤ (pc : Int) + o) (hp : ((pc : Int) + o).toNat = pc') (n : Go p l e R s m args below meth c n0 Q K S h (mkF m pc' Ls st)) : Go p l e R s m args below meth c n0 Q K S h (mkF m pc Ls (.int i :: st)) :=
  Go.by (fun T ls cs ss X eT t kt => XS.tswIn X.here C.1 rfl rfl (hb C.2.2.1 hd) rfl hin hoff ho hp kt) n
theorem tswD (C : Cx p l e R s m args below meth c Z bytes ml own ret nm) {pc pc' : Nat} {Ls : Array Slot} {st : List Value} {dflt low high : Int} {offs : Array Int} {len : Nat} {i : Int32} (hd : decode bytes pc = .ok (.tableswitch dflt low high offs, len)) (hin : i.toInt < low ∨ i.toInt > high) (ho : 0 ≤ (pc : Int) + dflt) (hp : ((pc : Int) + dflt).toNat = pc') (n : Go p l e R s m args below meth c n0 Q K S h (mkF m pc' Ls st)) : Go p l e R s m args below meth c n0 Q K S h (mkF m pc Ls (.int i :: st)) :=
  Go.by (fun T ls cs ss X eT t kt => XS.tswOut X.here C.1 rfl rfl (hb C.2.2.1 hd) rfl hin ho hp kt) n
theorem ldcI (C : Cx p l e R s m args below meth c Z bytes ml own ret nm) {pc pc' : Nat} {Ls : Array Slot} {st : List Value} {index : Nat} {v : Int32}  (hd : decode bytes pc = .ok (.ldc index, 2)) (hp : pc + 2 = pc') (w : (Jvm.Cond.constant own index v).before a0 Z = true) (n : Go p l e R s m args below meth c n0 Q K S h (mkF m pc' Ls (.int v :: st))) : Go p l e R s m args below meth c n0 Q K S h (mkF m pc Ls st) := by
  subst hp; exact Go.by (g' := (mkF m (pc + 2) Ls (.int v :: st))) (fun T ls cs ss X eT t kt => X.ldcInt C.1 C.2.2.2.2.1 (mvT C.2.1 w) (g := (mkF m pc Ls st)) rfl (hb C.2.2.1 hd) t kt) n
theorem ldcwI (C : Cx p l e R s m args below meth c Z bytes ml own ret nm) {pc pc' : Nat} {Ls : Array Slot} {st : List Value} {index : Nat} {v : Int32}  (hd : decode bytes pc = .ok (.ldc_w index, 3)) (hp : pc + 3 = pc') (w : (Jvm.Cond.constant own index v).before a0 Z = true) (n : Go p l e R s m args below meth c n0 Q K S h (mkF m pc' Ls (.int v :: st))) : Go p l e R s m args below meth c n0 Q K S h (mkF m pc Ls st) := by
  subst hp; exact Go.by (g' := (mkF m (pc + 3) Ls (.int v :: st))) (fun T ls cs ss X eT t kt => X.ldcwInt C.1 C.2.2.2.2.1 (mvT C.2.1 w) (g := (mkF m pc Ls st)) rfl (hb C.2.2.1 hd) t kt) n
theorem ldc2L (C : Cx p l e R s m args below meth c Z bytes ml own ret nm) {pc pc' : Nat} {Ls : Array Slot} {st : List Value} {index : Nat} {v : Int64}  (hd : decode bytes pc = .ok (.ldc2_w index, 3)) (hp : pc + 3 = pc') (w : (Jvm.Cond.constantLong own index v).before a0 Z = true) (n : Go p l e R s m args below meth c n0 Q K S h (mkF m pc' Ls (.long v :: st))) : Go p l e R s m args below meth c n0 Q K S h (mkF m pc Ls st) := by
  subst hp; exact Go.by (g' := (mkF m (pc + 3) Ls (.long v :: st))) (fun T ls cs ss X eT t kt => X.ldc2Long C.1 C.2.2.2.2.1 (mvT C.2.1 w) (g := (mkF m pc Ls st)) rfl (hb C.2.2.1 hd) t kt) n
theorem ldc2D (C : Cx p l e R s m args below meth c Z bytes ml own ret nm) {pc pc' : Nat} {Ls : Array Slot} {st : List Value} {index : Nat} {v : UInt64}  (hd : decode bytes pc = .ok (.ldc2_w index, 3)) (hp : pc + 3 = pc') (w : (Jvm.Cond.constantDouble own index v).before a0 Z = true) (n : Go p l e R s m args below meth c n0 Q K S h (mkF m pc' Ls (.double v :: st))) : Go p l e R s m args below meth c n0 Q K S h (mkF m pc Ls st) := by
  subst hp; exact Go.by (g' := (mkF m (pc + 3) Ls (.double v :: st))) (fun T ls cs ss X eT t kt => X.ldc2DoubleC C.1 C.2.2.2.2.1 (mvT C.2.1 w) (g := (mkF m pc Ls st)) rfl (hb C.2.2.1 hd) t kt) n
theorem getS (C : Cx p l e R s m args below meth c Z bytes ml own ret nm) {pc pc' : Nat} {Ls : Array Slot} {st : List Value} {R0 O n d host : String} {index : Nat} (w : (Jvm.Cond.fieldLink own index R0 n d).before a0 Z = true ∨ (Jvm.Cond.fieldLinkNest own index R0 n d host).before a0 Z = true) (via : Via Z R0 O n d) {v : Value} (F : Sta Z h O n d v) (hd : decode bytes pc = .ok (.getstatic index, 3)) (hp : pc + 3 = pc') (k : Go p l e R s m args below meth c n0 Q K S h (mkF m pc' Ls (v :: st))) : Go p l e R s m args below meth c n0 Q K S h (mkF m pc Ls st) := by
  subst hp; exact Go.law (fun T ls cs ss X eT => getS2 X C.1 C.2.1 C.2.2.2.2.1 w via eT F (g := (mkF m pc Ls st)) rfl (hb C.2.2.1 hd)) k
theorem getF (C : Cx p l e R s m args below meth c Z bytes ml own ret nm) {pc pc' : Nat} {Ls : Array Slot} {st : List Value} {R0 O n d host : String} {index : Nat} (w : (Jvm.Cond.fieldLink own index R0 n d).before a0 Z = true ∨ (Jvm.Cond.fieldLinkNest own index R0 n d host).before a0 Z = true) (via : Via Z R0 O n d) {a : Addr} {v : Value} (F : Fld Z h a O n d v) (hd : decode bytes pc = .ok (.getfield index, 3)) (hp : pc + 3 = pc') (k : Go p l e R s m args below meth c n0 Q K S h (mkF m pc' Ls (v :: st))) : Go p l e R s m args below meth c n0 Q K S h (mkF m pc Ls (.ref a :: st)) := by
  subst hp; exact Go.law (fun T ls cs ss X eT => Jvm.RoadKit.getF X C.1 C.2.1 C.2.2.2.2.1 w via eT F (g := (mkF m pc Ls (.ref a :: st))) rfl rfl (hb C.2.2.1 hd)) k
theorem putF (C : Cx p l e R s m args below meth c Z bytes ml own ret nm) {pc pc' : Nat} {Ls : Array Slot} {st : List Value} {R0 O n d host : String} {index : Nat} (w : (Jvm.Cond.fieldLink own index R0 n d).before a0 Z = true ∨ (Jvm.Cond.fieldLinkNest own index R0 n d host).before a0 Z = true) (via : Via Z R0 O n d) {Cn : String} {kk : Nat} {ty : FieldType} {a : Addr} {v old : Value} (F : Fld Z h a O n d old) (E : Exa Z h a Cn) (L : (Jvm.Cond.lays Cn O n d).before a0 Z = true ∨ ((Jvm.Cond.laysFinal Cn O n d).before a0 Z = true ∧ own = O ∧ nm = "<init>")) (wi : (Jvm.Cond.instantiable Cn kk).before a0 Z = true) (hty : parseFieldDescriptor d = some ty) (hn : narrow ty v = v) (hf : fits ty v = true) (ha : n0 ≤ a) (hd : decode bytes pc = .ok (.putfield index, 3)) (hp : pc + 3 = pc') (k : ∀ h', Wr h h' a (Jvm.RoadKit.slotOf Z O n d) v → Go p l e R s m args below meth c n0 Q K S h' (mkF m pc' Ls st)) : Go p l e R s m args below meth c n0 Q K S h (mkF m pc Ls (v :: .ref a :: st)) := by
  subst hp; exact Go.write ha (fun T ls cs ss X eT => Jvm.RoadKit.putF X C.1 C.2.1 C.2.2.2.2.1 w via eT F E (L.imp id fun q => ⟨q.1, q.2.1, C.2.2.2.2.2.2.2.trans q.2.2⟩) wi hty hn hf (g := (mkF m pc Ls (v :: .ref a :: st))) rfl rfl (hb C.2.2.1 hd)) k
theorem castY (C : Cx p l e R s m args below meth c Z bytes ml own ret nm) {pc pc' : Nat} {Ls : Array Slot} {st : List Value} {Kn : String} {index : Nat} (w : (Jvm.Cond.classLink own index Kn).before a0 Z = true) {a : Addr} (F : Ins Z h a Kn true) (hd : decode bytes pc = .ok (.checkcast index, 3)) (hp : pc + 3 = pc') (k : Go p l e R s m args below meth c n0 Q K S h (mkF m pc' Ls (.ref a :: st))) : Go p l e R s m args below meth c n0 Q K S h (mkF m pc Ls (.ref a :: st)) := by
  subst hp; exact Go.law (fun T ls cs ss X eT => Jvm.RoadKit.castY X C.1 C.2.1 C.2.2.2.2.1 w eT F (g := (mkF m pc Ls (.ref a :: st))) rfl rfl (hb C.2.2.1 hd)) k
theorem castNull (C : Cx p l e R s m args below meth c Z bytes ml own ret nm) {pc pc' : Nat} {Ls : Array Slot} {st : List Value} {index : Nat} (hd : decode bytes pc = .ok (.checkcast index, 3)) (hp : pc + 3 = pc') (k : Go p l e R s m args below meth c n0 Q K S h (mkF m pc' Ls (.null :: st))) : Go p l e R s m args below meth c n0 Q K S h (mkF m pc Ls (.null :: st)) := by
  subst hp; exact Go.by (g' := (mkF m (pc + 3) Ls (.null :: st))) (fun T ls cs ss X eT t kt => X.checkcastNull C.1 (g := (mkF m pc Ls (.null :: st))) rfl rfl (hb C.2.2.1 hd) t kt) k
theorem newO (C : Cx p l e R s m args below meth c Z bytes ml own ret nm) {pc pc' : Nat} {Ls : Array Slot} {st : List Value} {Cn : String} {index k : Nat} (w : (Jvm.Cond.classLink own index Cn).before a0 Z = true) (wi : (Jvm.Cond.instantiable Cn k).before a0 Z = true) (wz : (Jvm.Cond.initialized Cn).before a0 Z = true) (hd : decode bytes pc = .ok (.new index, 3)) (hp : pc + 3 = pc') (hK : K + 1 = K') (hS : S + k = S') (hK' : K' ≤ R.cells) (hS' : S' ≤ R.slots)
    (n : ∀ (h' : Heap) (a : Addr), a = h.size → Ext h h' → Exa Z h' a Cn → (∀ {O nm d : String} {ty : FieldType}, Laid Z a0 Cn O nm d → parseFieldDescriptor d = some ty → Fld Z h' a O nm d (defaultValue ty)) → Go p l e R s m args below meth c n0 Q K' S' h' (mkF m pc' Ls (.ref a :: st))) : Go p l e R s m args below meth c n0 Q K S h (mkF m pc Ls st) :=
  fun T ⟨ls, cs, ss, X, N, hc, hs, eT⟩ => by
    subst hp hK hS
    obtain ⟨T', h', X', e', E', A', D', -, st⟩ := Jvm.RoadKit.newO X C.1 C.2.1 C.2.2.2.2.1 w wi wz eT (g := (mkF m pc Ls st)) rfl (hb C.2.2.1 hd) (by omega) (by omega)
    obtain ⟨s₂, v, L, h1, h2⟩ := n h' _ rfl E' A' D' T' ⟨ls, _, _, X', N, by omega, by omega, e'⟩
    exact ⟨s₂, v, L, st _ h1, h2⟩
theorem newP (C : Cx p l e R s m args below meth c Z bytes ml own ret nm) {pc pc' : Nat} {Ls : Array Slot} {st : List Value} {aty : ArrayType} (w : (Jvm.Cond.arrayClass (newarray.typeOf aty)).before a0 Z = true) {i : Int32} {cap : Nat} (hn : ¬ i < 0) (hcap : i.toNatClampNeg ≤ cap) (hb8 : cap * 8 ≤ 536870912) (hd : decode bytes pc = .ok (.newarray aty, 2)) (hp : pc + 2 = pc') (hK : K + 1 = K') (hS : S + cap = S') (hK' : K' ≤ R.cells) (hS' : S' ≤ R.slots)
    (n : ∀ (h' : Heap) (a : Addr) (cA : ClassId), a = h.size → Ext h h' → Arv Z h' a cA (newarray.typeOf aty) i [] (defaultValue (newarray.typeOf aty)) → Go p l e R s m args below meth c n0 Q K' S' h' (mkF m pc' Ls (.ref a :: st))) : Go p l e R s m args below meth c n0 Q K S h (mkF m pc Ls (.int i :: st)) :=
  fun T ⟨ls, cs, ss, X, N, hc, hs, eT⟩ => by
    subst hp hK hS
    obtain ⟨T', h', cA, X', e', E', A', st⟩ := Jvm.RoadKit.newP X C.1 C.2.1 w eT (g := (mkF m pc Ls (.int i :: st))) rfl (hb C.2.2.1 hd) rfl hn hcap hb8 (by omega) (by omega)
    obtain ⟨s₂, v, L, h1, h2⟩ := n h' _ cA rfl E' (Arv.new A' hn) T' ⟨ls, _, _, X', N, by omega, by omega, e'⟩
    exact ⟨s₂, v, L, st _ h1, h2⟩
theorem newR (C : Cx p l e R s m args below meth c Z bytes ml own ret nm) {pc pc' : Nat} {Ls : Array Slot} {st : List Value} {Cn ad : String} {index : Nat} (had : "[" ++ (FieldType.object Cn).toString = ad) (w1 : (Jvm.Cond.classLink own index Cn).before a0 Z = true) (w2 : (Jvm.Cond.arrayOver (.object Cn)).before a0 Z = true) {i : Int32} {cap : Nat} (hn : ¬ i < 0) (hcap : i.toNatClampNeg ≤ cap) (hb8 : cap * 8 ≤ 536870912) (hd : decode bytes pc = .ok (.anewarray index, 3)) (hp : pc + 3 = pc') (hK : K + 1 = K') (hS : S + cap = S') (hK' : K' ≤ R.cells) (hS' : S' ≤ R.slots)
    (n : ∀ (h' : Heap) (a : Addr) (cA : ClassId), a = h.size → Ext h h' → Arv Z h' a cA (.object Cn) i [] .null → Exa Z h' a ad → Ovr Z cA Cn → Go p l e R s m args below meth c n0 Q K' S' h' (mkF m pc' Ls (.ref a :: st))) : Go p l e R s m args below meth c n0 Q K S h (mkF m pc Ls (.int i :: st)) :=
  fun T ⟨ls, cs, ss, X, N, hc, hs, eT⟩ => by
    subst hp hK hS
    obtain ⟨T', h', cA, X', e', E', A', X2, O', st⟩ := Jvm.RoadKit.newRE X C.1 C.2.1 C.2.2.2.2.1 w1 w2 eT (g := (mkF m pc Ls (.int i :: st))) rfl (hb C.2.2.1 hd) rfl hn hcap hb8 (by omega) (by omega) had
    obtain ⟨s₂, v, L, h1, h2⟩ := n h' _ cA rfl E' (Arv.new A' hn) X2 O' T' ⟨ls, _, _, X', N, by omega, by omega, e'⟩
    exact ⟨s₂, v, L, st _ h1, h2⟩
theorem newPE (C : Cx p l e R s m args below meth c Z bytes ml own ret nm) {pc pc' : Nat} {Ls : Array Slot} {st : List Value} {aty : ArrayType} {ad : String} (had : "[" ++ (newarray.typeOf aty).toString = ad) (w : (Jvm.Cond.arrayClass (newarray.typeOf aty)).before a0 Z = true) {i : Int32} {cap : Nat} (hn : ¬ i < 0) (hcap : i.toNatClampNeg ≤ cap) (hb8 : cap * 8 ≤ 536870912) (hd : decode bytes pc = .ok (.newarray aty, 2)) (hp : pc + 2 = pc') (hK : K + 1 = K') (hS : S + cap = S') (hK' : K' ≤ R.cells) (hS' : S' ≤ R.slots)
    (n : ∀ (h' : Heap) (a : Addr) (cA : ClassId), a = h.size → Ext h h' → Arv Z h' a cA (newarray.typeOf aty) i [] (defaultValue (newarray.typeOf aty)) → Exa Z h' a ad → Go p l e R s m args below meth c n0 Q K' S' h' (mkF m pc' Ls (.ref a :: st))) : Go p l e R s m args below meth c n0 Q K S h (mkF m pc Ls (.int i :: st)) :=
  fun T ⟨ls, cs, ss, X, N, hc, hs, eT⟩ => by
    subst hp hK hS
    obtain ⟨T', h', cA, X', e', E', A', X2, st⟩ := Jvm.RoadKit.newPE X C.1 C.2.1 w eT (g := (mkF m pc Ls (.int i :: st))) rfl (hb C.2.2.1 hd) rfl hn hcap hb8 (by omega) (by omega) had
    obtain ⟨s₂, v, L, h1, h2⟩ := n h' _ cA rfl E' (Arv.new A' hn) X2 T' ⟨ls, _, _, X', N, by omega, by omega, e'⟩
    exact ⟨s₂, v, L, st _ h1, h2⟩
theorem newRA (C : Cx p l e R s m args below meth c Z bytes ml own ret nm) {pc pc' : Nat} {Ls : Array Slot} {st : List Value} {Cn ad : String} {ty : FieldType} {index : Nat} (hC : (FieldType.array ty).toString = Cn) (had : "[" ++ Cn = ad) (w1 : (Jvm.Cond.classLink own index Cn).before a0 Z = true) (w2 : (Jvm.Cond.arrayOver (.array ty)).before a0 Z = true) {i : Int32} {cap : Nat} (hn : ¬ i < 0) (hcap : i.toNatClampNeg ≤ cap) (hb8 : cap * 8 ≤ 536870912) (hd : decode bytes pc = .ok (.anewarray index, 3)) (hp : pc + 3 = pc') (hK : K + 1 = K') (hS : S + cap = S') (hK' : K' ≤ R.cells) (hS' : S' ≤ R.slots)
    (n : ∀ (h' : Heap) (a : Addr) (cA : ClassId), a = h.size → Ext h h' → Arv Z h' a cA (.array ty) i [] .null → Exa Z h' a ad → OvrA Z cA ty Cn → Go p l e R s m args below meth c n0 Q K' S' h' (mkF m pc' Ls (.ref a :: st))) : Go p l e R s m args below meth c n0 Q K S h (mkF m pc Ls (.int i :: st)) :=
  fun T ⟨ls, cs, ss, X, N, hc, hs, eT⟩ => by
    subst hp hK hS
    obtain ⟨T', h', cA, X', e', E', A', X2, O', st⟩ := Jvm.RoadKit.newRA X C.1 C.2.1 C.2.2.2.2.1 hC w1 w2 eT (g := (mkF m pc Ls (.int i :: st))) rfl (hb C.2.2.1 hd) rfl hn hcap hb8 (by omega) (by omega) had
    obtain ⟨s₂, v, L, h1, h2⟩ := n h' _ cA rfl E' (Arv.new A' hn) X2 O' T' ⟨ls, _, _, X', N, by omega, by omega, e'⟩
    exact ⟨s₂, v, L, st _ h1, h2⟩
theorem iaload (C : Cx p l e R s m args below meth c Z bytes ml own ret nm) {pc pc' : Nat} {Ls : Array Slot} {st : List Value} {a : Addr} {cA : ClassId} {i j : Int32} {vs : List Value} {dv v : Value} (F : Arv Z h a cA .int i vs dv) (hj : ¬ j < 0 ∧ j < i) (hv : vs.getD j.toNatClampNeg dv = v) (hd : decode bytes pc = .ok (.iaload, 1)) (hp : pc + 1 = pc') (n : Go p l e R s m args below meth c n0 Q K S h (mkF m pc' Ls (v :: st))) : Go p l e R s m args below meth c n0 Q K S h (mkF m pc Ls (.int j :: .ref a :: st)) := by
  subst hp; obtain ⟨cl, A, q1, Sz, q3, H, G⟩ := F
  exact Go.by (g' := (mkF m (pc + 1) Ls (v :: st))) (fun T ls cs ss X eT t kt => X.iaload C.1 (j := j) (v := v) (by rw [eT]; exact A.1) (State.isArrayOf_alike C.2.1.alike A.2.1) A.2.2 (inb_of Sz hj) (H.at (inb_of Sz hj) hv) (g := (mkF m pc Ls (.int j :: .ref a :: st))) rfl rfl (hb C.2.2.1 hd) t kt) n
theorem caload (C : Cx p l e R s m args below meth c Z bytes ml own ret nm) {pc pc' : Nat} {Ls : Array Slot} {st : List Value} {a : Addr} {cA : ClassId} {i j : Int32} {vs : List Value} {dv v : Value} (F : Arv Z h a cA .char i vs dv) (hj : ¬ j < 0 ∧ j < i) (hv : vs.getD j.toNatClampNeg dv = v) (hd : decode bytes pc = .ok (.caload, 1)) (hp : pc + 1 = pc') (n : Go p l e R s m args below meth c n0 Q K S h (mkF m pc' Ls (v :: st))) : Go p l e R s m args below meth c n0 Q K S h (mkF m pc Ls (.int j :: .ref a :: st)) := by
  subst hp; obtain ⟨cl, A, q1, Sz, q3, H, G⟩ := F
  exact Go.by (g' := (mkF m (pc + 1) Ls (v :: st))) (fun T ls cs ss X eT t kt => X.caload C.1 (j := j) (v := v) (by rw [eT]; exact A.1) (State.isArrayOf_alike C.2.1.alike A.2.1) A.2.2 (inb_of Sz hj) (H.at (inb_of Sz hj) hv) (g := (mkF m pc Ls (.int j :: .ref a :: st))) rfl rfl (hb C.2.2.1 hd) t kt) n
theorem baload (C : Cx p l e R s m args below meth c Z bytes ml own ret nm) {pc pc' : Nat} {Ls : Array Slot} {st : List Value} {a : Addr} {cA : ClassId} {i j : Int32} {vs : List Value} {dv v : Value} (F : Arv Z h a cA .byte i vs dv) (hj : ¬ j < 0 ∧ j < i) (hv : vs.getD j.toNatClampNeg dv = v) (hd : decode bytes pc = .ok (.baload, 1)) (hp : pc + 1 = pc') (n : Go p l e R s m args below meth c n0 Q K S h (mkF m pc' Ls (v :: st))) : Go p l e R s m args below meth c n0 Q K S h (mkF m pc Ls (.int j :: .ref a :: st)) := by
  subst hp; obtain ⟨cl, A, q1, Sz, q3, H, G⟩ := F
  exact Go.by (g' := (mkF m (pc + 1) Ls (v :: st))) (fun T ls cs ss X eT t kt => X.baloadBytes C.1 (j := j) (v := v) (by rw [eT]; exact A.1) (State.isArrayOf_alike C.2.1.alike A.2.1) A.2.2 (inb_of Sz hj) (H.at (inb_of Sz hj) hv) (g := (mkF m pc Ls (.int j :: .ref a :: st))) rfl rfl (hb C.2.2.1 hd) t kt) n
theorem laload (C : Cx p l e R s m args below meth c Z bytes ml own ret nm) {pc pc' : Nat} {Ls : Array Slot} {st : List Value} {a : Addr} {cA : ClassId} {i j : Int32} {vs : List Value} {dv v : Value} (F : Arv Z h a cA .long i vs dv) (hj : ¬ j < 0 ∧ j < i) (hv : vs.getD j.toNatClampNeg dv = v) (hd : decode bytes pc = .ok (.laload, 1)) (hp : pc + 1 = pc') (n : Go p l e R s m args below meth c n0 Q K S h (mkF m pc' Ls (v :: st))) : Go p l e R s m args below meth c n0 Q K S h (mkF m pc Ls (.int j :: .ref a :: st)) := by
  subst hp; obtain ⟨cl, A, q1, Sz, q3, H, G⟩ := F
  exact Go.by (g' := (mkF m (pc + 1) Ls (v :: st))) (fun T ls cs ss X eT t kt => X.laload C.1 (j := j) (v := v) (by rw [eT]; exact A.1) (State.isArrayOf_alike C.2.1.alike A.2.1) A.2.2 (inb_of Sz hj) (H.at (inb_of Sz hj) hv) (g := (mkF m pc Ls (.int j :: .ref a :: st))) rfl rfl (hb C.2.2.1 hd) t kt) n
theorem aaload (C : Cx p l e R s m args below meth c Z bytes ml own ret nm) {pc pc' : Nat} {Ls : Array Slot} {st : List Value} {a : Addr} {cA : ClassId} {ty : FieldType} {i j : Int32} {vs : List Value} {dv v : Value} (F : Arv Z h a cA ty i vs dv) (ht : ty.isReference = true) (hj : ¬ j < 0 ∧ j < i) (hv : vs.getD j.toNatClampNeg dv = v) (hd : decode bytes pc = .ok (.aaload, 1)) (hp : pc + 1 = pc') (n : Go p l e R s m args below meth c n0 Q K S h (mkF m pc' Ls (v :: st))) : Go p l e R s m args below meth c n0 Q K S h (mkF m pc Ls (.int j :: .ref a :: st)) := by
  subst hp; obtain ⟨cl, A, q1, Sz, q3, H, G⟩ := F
  exact Go.by (g' := (mkF m (pc + 1) Ls (v :: st))) (fun T ls cs ss X eT t kt => X.aaload C.1 (j := j) (v := v) (by rw [eT]; exact A.1) (State.isArrayOf_alike C.2.1.alike A.2.1) ht A.2.2 (inb_of Sz hj) (H.at (inb_of Sz hj) hv) (g := (mkF m pc Ls (.int j :: .ref a :: st))) rfl rfl (hb C.2.2.1 hd) t kt) n
theorem aaloadA (C : Cx p l e R s m args below meth c Z bytes ml own ret nm) {pc pc' : Nat} {Ls : Array Slot} {st : List Value} {a : Addr} {cl : Cell} {ty : FieldType} {j : Int32} {v : Value} (A : Arr Z h a cl ty) (ht : ty.isReference = true) (hj : ¬ (j < 0 ∨ cl.slots.size ≤ j.toNatClampNeg)) (hv : cl.slots[j.toNatClampNeg]? = some v) (hd : decode bytes pc = .ok (.aaload, 1)) (hp : pc + 1 = pc') (n : Go p l e R s m args below meth c n0 Q K S h (mkF m pc' Ls (v :: st))) : Go p l e R s m args below meth c n0 Q K S h (mkF m pc Ls (.int j :: .ref a :: st)) := by
  subst hp
  exact Go.by (g' := (mkF m (pc + 1) Ls (v :: st))) (fun T ls cs ss X eT t kt => X.aaload C.1 (j := j) (v := v) (by rw [eT]; exact A.1) (State.isArrayOf_alike C.2.1.alike A.2.1) ht A.2.2 hj hv (g := (mkF m pc Ls (.int j :: .ref a :: st))) rfl rfl (hb C.2.2.1 hd) t kt) n
theorem alen (C : Cx p l e R s m args below meth c Z bytes ml own ret nm) {pc pc' : Nat} {Ls : Array Slot} {st : List Value} {a : Addr} {cA : ClassId} {ty : FieldType} {i : Int32} {vs : List Value} {dv : Value} (F : Arv Z h a cA ty i vs dv) (hd : decode bytes pc = .ok (.arraylength, 1)) (hp : pc + 1 = pc') (n : Go p l e R s m args below meth c n0 Q K S h (mkF m pc' Ls (.int i :: st))) : Go p l e R s m args below meth c n0 Q K S h (mkF m pc Ls (.ref a :: st)) := by
  subst hp; obtain ⟨cl, A, q1, Sz, q3, H, G⟩ := F
  exact Go.by (g' := (mkF m (pc + 1) Ls (.int i :: st))) (fun T ls cs ss X eT t kt => X.arraylength C.1 (by rw [eT]; exact A.1) (State.isArrayOf_alike C.2.1.alike A.2.1) (g := (mkF m pc Ls (.ref a :: st))) rfl rfl (hb C.2.2.1 hd) t (by rw [len_of Sz q3]; exact kt)) n
theorem iastore (C : Cx p l e R s m args below meth c Z bytes ml own ret nm) {pc pc' : Nat} {Ls : Array Slot} {st : List Value} {a : Addr} {cA : ClassId} {i j : Int32} {k : Nat} {x : Int32} {vs : List Value} {dv : Value} (F : Arv Z h a cA .int i vs dv) (ha : n0 ≤ a) (hj : ¬ j < 0 ∧ j < i) (hk : j.toNatClampNeg = k) (hlen : k < vs.length) (hd : decode bytes pc = .ok (.iastore, 1)) (hp : pc + 1 = pc') (n : ∀ h', Wr h h' a j.toNatClampNeg (.int x) → Arv Z h' a cA .int i (vs.set k (.int x)) dv → Go p l e R s m args below meth c n0 Q K S h' (mkF m pc' Ls st)) : Go p l e R s m args below meth c n0 Q K S h (mkF m pc Ls (.int x :: .int j :: .ref a :: st)) := by
  subst hp; obtain ⟨cl, A, q1, Sz, q3, H, G⟩ := F
  exact Go.write ha (fun T ls cs ss X eT => stI X C.1 C.2.1 eT A (inb_of Sz hj) (g := (mkF m pc Ls (.int x :: .int j :: .ref a :: st))) rfl rfl (hb C.2.2.1 hd)) (fun h' W => n h' W (Arv.set A q1 Sz q3 H G rfl W k hk hlen))
theorem castore (C : Cx p l e R s m args below meth c Z bytes ml own ret nm) {pc pc' : Nat} {Ls : Array Slot} {st : List Value} {a : Addr} {cA : ClassId} {i j : Int32} {k : Nat} {x : Int32} {vs : List Value} {dv : Value} (F : Arv Z h a cA .char i vs dv) (ha : n0 ≤ a) (hj : ¬ j < 0 ∧ j < i) (hk : j.toNatClampNeg = k) (hlen : k < vs.length) (hd : decode bytes pc = .ok (.castore, 1)) (hp : pc + 1 = pc') (n : ∀ h', Wr h h' a j.toNatClampNeg (.int (nar .char x)) → Arv Z h' a cA .char i (vs.set k (.int (nar .char x))) dv → Go p l e R s m args below meth c n0 Q K S h' (mkF m pc' Ls st)) : Go p l e R s m args below meth c n0 Q K S h (mkF m pc Ls (.int x :: .int j :: .ref a :: st)) := by
  subst hp; obtain ⟨cl, A, q1, Sz, q3, H, G⟩ := F
  exact Go.write ha (fun T ls cs ss X eT => stC X C.1 C.2.1 eT A (inb_of Sz hj) (g := (mkF m pc Ls (.int x :: .int j :: .ref a :: st))) rfl rfl (hb C.2.2.1 hd)) (fun h' W => n h' W (Arv.set A q1 Sz q3 H G (fits_nar_char _) W k hk hlen))
theorem bastore (C : Cx p l e R s m args below meth c Z bytes ml own ret nm) {pc pc' : Nat} {Ls : Array Slot} {st : List Value} {a : Addr} {cA : ClassId} {i j : Int32} {k : Nat} {x : Int32} {vs : List Value} {dv : Value} (F : Arv Z h a cA .byte i vs dv) (ha : n0 ≤ a) (hj : ¬ j < 0 ∧ j < i) (hk : j.toNatClampNeg = k) (hlen : k < vs.length) (hd : decode bytes pc = .ok (.bastore, 1)) (hp : pc + 1 = pc') (n : ∀ h', Wr h h' a j.toNatClampNeg (.int (nar .byte x)) → Arv Z h' a cA .byte i (vs.set k (.int (nar .byte x))) dv → Go p l e R s m args below meth c n0 Q K S h' (mkF m pc' Ls st)) : Go p l e R s m args below meth c n0 Q K S h (mkF m pc Ls (.int x :: .int j :: .ref a :: st)) := by
  subst hp; obtain ⟨cl, A, q1, Sz, q3, H, G⟩ := F
  exact Go.write ha (fun T ls cs ss X eT => stB X C.1 C.2.1 eT A (inb_of Sz hj) (g := (mkF m pc Ls (.int x :: .int j :: .ref a :: st))) rfl rfl (hb C.2.2.1 hd)) (fun h' W => n h' W (Arv.set A q1 Sz q3 H G (fits_nar_byte _) W k hk hlen))
theorem lastore (C : Cx p l e R s m args below meth c Z bytes ml own ret nm) {pc pc' : Nat} {Ls : Array Slot} {st : List Value} {a : Addr} {cA : ClassId} {i j : Int32} {k : Nat} {x : Int64} {vs : List Value} {dv : Value} (F : Arv Z h a cA .long i vs dv) (ha : n0 ≤ a) (hj : ¬ j < 0 ∧ j < i) (hk : j.toNatClampNeg = k) (hlen : k < vs.length) (hd : decode bytes pc = .ok (.lastore, 1)) (hp : pc + 1 = pc') (n : ∀ h', Wr h h' a j.toNatClampNeg (.long x) → Arv Z h' a cA .long i (vs.set k (.long x)) dv → Go p l e R s m args below meth c n0 Q K S h' (mkF m pc' Ls st)) : Go p l e R s m args below meth c n0 Q K S h (mkF m pc Ls (.long x :: .int j :: .ref a :: st)) := by
  subst hp; obtain ⟨cl, A, q1, Sz, q3, H, G⟩ := F
  exact Go.write ha (fun T ls cs ss X eT => stJ X C.1 C.2.1 eT A (inb_of Sz hj) (g := (mkF m pc Ls (.long x :: .int j :: .ref a :: st))) rfl rfl (hb C.2.2.1 hd)) (fun h' W => n h' W (Arv.set A q1 Sz q3 H G rfl W k hk hlen))
theorem aastore (C : Cx p l e R s m args below meth c Z bytes ml own ret nm) {pc pc' : Nat} {Ls : Array Slot} {st : List Value} {a : Addr} {cA : ClassId} {ty : FieldType} {i j : Int32} {k : Nat} {x : Value} {vs : List Value} {dv : Value} (F : Arv Z h a cA ty i vs dv) (ht : ty.isReference = true) (ha : n0 ≤ a) (hj : ¬ j < 0 ∧ j < i) (hk : j.toNatClampNeg = k) (hlen : k < vs.length) (hx : Sto Z h a x) (hf : fits ty x = true) (hd : decode bytes pc = .ok (.aastore, 1)) (hp : pc + 1 = pc') (n : ∀ h', Wr h h' a j.toNatClampNeg x → Arv Z h' a cA ty i (vs.set k x) dv → Go p l e R s m args below meth c n0 Q K S h' (mkF m pc' Ls st)) : Go p l e R s m args below meth c n0 Q K S h (mkF m pc Ls (x :: .int j :: .ref a :: st)) := by
  subst hp; obtain ⟨cl, A, q1, Sz, q3, H, G⟩ := F
  exact Go.write ha (fun T ls cs ss X eT => stR X C.1 C.2.1 eT A (inb_of Sz hj) ht hx (g := (mkF m pc Ls (x :: .int j :: .ref a :: st))) rfl rfl (hb C.2.2.1 hd)) (fun h' W => n h' W (Arv.set A q1 Sz q3 H G hf W k hk hlen))
theorem initO (C : Cx p l e R s m args below meth c Z bytes ml own ret nm) {pc pc' : Nat} {Ls : Array Slot} {st : List Value} {idx : Nat} (w1 : (Jvm.Cond.methodLink own idx Lib.objectInit).before a0 Z = true) (w2 : (Jvm.Cond.instanceMethod Lib.objectInit).before a0 Z = true) (w3 : (Jvm.Cond.code Lib.objectInit ⟨#[0xb1]⟩ 1 none).before a0 Z = true) {a : Addr} (hsz : Ls.size = ml) (hf : 1 ≤ R.frames) {W : Nat} (hW : 2 * 0 + (st.map fun v => v.category).sum ≤ W) (hl : W + 12 ≤ R.locals) (hd : decode bytes pc = .ok (.invokespecial idx, 3)) (hp : pc + 3 = pc') (n : Go p l e R s m args below meth c n0 Q K S h (mkF m pc' Ls st)) : Go p l e R s m args below meth c n0 Q K S h (mkF m pc Ls (.ref a :: st)) := by
  subst hp; exact Go.law (fun T ls cs ss X eT => Jvm.RoadKit.initO X C.1 C.2.1 C.2.2.2.2.1 w1 w2 w3 eT (g := (mkF m pc Ls (.ref a :: st))) rfl (hsz.trans C.2.2.2.1.symm) rfl (hb C.2.2.1 hd) hf hW hl) n
theorem cloneV (C : Cx p l e R s m args below meth c Z bytes ml own ret nm) {pc pc' : Nat} {Ls : Array Slot} {st : List Value} {ad : String} {idx : Nat} (w1 : (Jvm.Cond.methodLink own idx ⟨ad, "clone", "()Ljava/lang/Object;"⟩).before a0 Z = true) (w2 : (Jvm.Cond.sameMethod ad "java/lang/Object" "clone" "()Ljava/lang/Object;").before a0 Z = true) (w3 : (Jvm.Cond.native ⟨"java/lang/Object", "clone", "()Ljava/lang/Object;"⟩).before a0 Z = true)
    (w4 : (Jvm.Cond.instanceMethod ⟨"java/lang/Object", "clone", "()Ljava/lang/Object;"⟩).before a0 Z = true) (w5 : (Jvm.Cond.selects ad ⟨ad, "clone", "()Ljava/lang/Object;"⟩ ⟨"java/lang/Object", "clone", "()Ljava/lang/Object;"⟩).before a0 Z = true) (w6 : (Jvm.Cond.castable ad "java/lang/Cloneable").before a0 Z = true)
    {a : Addr} {cA : ClassId} {ty : FieldType} {i : Int32} {vs : List Value} {dv : Value} (F : Arv Z h a cA ty i vs dv) (E : Exa Z h a ad) (hsz : Ls.size = ml) (hf : 1 ≤ R.frames) {W cap : Nat} (hW : 2 * 0 + (st.map fun v => v.category).sum ≤ W) (hl : W + 14 ≤ R.locals) (hcap : i.toNatClampNeg ≤ cap) (hd : decode bytes pc = .ok (.invokevirtual idx, 3)) (hp : pc + 3 = pc') (hK : K + 1 = K') (hS : S + cap = S') (hK' : K' ≤ R.cells) (hS' : S' ≤ R.slots)
    (n : ∀ (h' : Heap) (b : Addr), b = h.size → Ext h h' → Arv Z h' b cA ty i vs dv → Exa Z h' b ad → Go p l e R s m args below meth c n0 Q K' S' h' (mkF m pc' Ls (.ref b :: st))) : Go p l e R s m args below meth c n0 Q K S h (mkF m pc Ls (.ref a :: st)) :=
  fun T ⟨ls, cs, ss, X, N, hc, hs, eT⟩ => by
    subst hp hK hS
    obtain ⟨T', h', X', e', E', A', X2, st'⟩ := cloneH X C.1 C.2.1 C.2.2.2.2.1 w1 w2 w3 w4 w5 w6 eT F.arh E (g := (mkF m pc Ls (.ref a :: st))) rfl (hsz.trans C.2.2.2.1.symm) rfl (hb C.2.2.1 hd) hf hW hl hcap (by omega) (by omega)
    obtain ⟨s₂, v, L, h1, h2⟩ := n h' _ rfl E' A' X2 T' ⟨ls, _, _, X', N, by omega, by omega, e'⟩
    exact ⟨s₂, v, L, st' _ h1, h2⟩
def Mi (Z : State) (Cn : String) (a : Addr) : Prop := ∃ (c : ClassId) (k : Class), Z.vm.findClass Cn = some c ∧ Z.vm.classes[c]? = some k ∧ k.mirror = some a
theorem ldcMi (C : Cx p l e R s m args below meth c Z bytes ml own ret nm) {pc pc' : Nat} {Ls : Array Slot} {st : List Value} {Cn : String} {index : Nat} {a : Addr} (w : (Jvm.Cond.classLink own index Cn).before a0 Z = true) (M : Mi Z Cn a) (hd : decode bytes pc = .ok (.ldc index, 2)) (hp : pc + 2 = pc') (n : Go p l e R s m args below meth c n0 Q K S h (mkF m pc' Ls (.ref a :: st))) : Go p l e R s m args below meth c n0 Q K S h (mkF m pc Ls st) := by
  subst hp
  have hev : (Term.mirror Cn).eval args s none [] s = some (.ref a) := by
    obtain ⟨c', k, m1, m2, m3⟩ := M
    obtain ⟨k', q, ek⟩ := C.2.1.alike.2.2 _ _ m2
    have m3' : k'.mirror = some a := by rw [ek]; exact m3
    simp [Term.eval, C.2.1.alike.findClass, m1, q, m3']
  exact Go.law (fun T ls cs ss X eT => by
    obtain ⟨vm', X', st'⟩ := X.ldcMirror C.1 C.2.2.2.2.1 (mvT C.2.1 w) hev (g := (mkF m pc Ls st)) rfl (hb C.2.2.1 hd)
    exact ⟨_, X', eT, st'⟩) n
theorem getCls (C : Cx p l e R s m args below meth c Z bytes ml own ret nm) {pc pc' : Nat} {Ls : Array Slot} {st : List Value} {Cn : String} {index : Nat} {a mr : Addr} (w1 : (Jvm.Cond.methodLink own index ⟨"java/lang/Object", "getClass", "()Ljava/lang/Class;"⟩).before a0 Z = true) (w2 : (Jvm.Cond.declares ⟨"java/lang/Object", "getClass", "()Ljava/lang/Class;"⟩).before a0 Z = true) (w3 : (Jvm.Cond.noSuperclass "java/lang/Object").before a0 Z = true) (w4 : (Jvm.Cond.selects Cn ⟨"java/lang/Object", "getClass", "()Ljava/lang/Class;"⟩ ⟨"java/lang/Object", "getClass", "()Ljava/lang/Class;"⟩).before a0 Z = true) (w5 : (Jvm.Cond.instanceMethod ⟨"java/lang/Object", "getClass", "()Ljava/lang/Class;"⟩).before a0 Z = true) (w6 : (Jvm.Cond.native ⟨"java/lang/Object", "getClass", "()Ljava/lang/Class;"⟩).before a0 Z = true) (E : Exa Z h a Cn) (M : Mi Z Cn mr) (hsz : Ls.size = ml) (hf : 1 ≤ R.frames) {W : Nat} (hW : 2 * 0 + (st.map fun v => v.category).sum ≤ W) (hl : W + (nativeFrameWords "java/lang/Object" "getClass" 1 + 11) ≤ R.locals) (hd : decode bytes pc = .ok (.invokevirtual index, 3)) (hp : pc + 3 = pc') (n : Go p l e R s m args below meth c n0 Q K S h (mkF m pc' Ls (.ref mr :: st))) : Go p l e R s m args below meth c n0 Q K S h (mkF m pc Ls (.ref a :: st)) := by
  subst hp
  exact Go.law (fun T ls cs ss X eT => by
    obtain ⟨cB, kB, i1, i2, i3⟩ := isOf C.2.1 eT E
    obtain ⟨cc, kc, m1, m2, m3⟩ := M
    rw [C.2.1.alike.findClass] at i1
    cases i1.symm.trans m1
    obtain ⟨k', q, ek⟩ := C.2.1.alike.2.2 _ _ m2
    obtain ⟨vm', X', st'⟩ := X.getClassOf C.1 C.2.2.2.2.1 (mvT C.2.1 w1) (mvT C.2.1 w2) (nf_top (args := #[]) (mvT C.2.1 w3)) (mvT C.2.1 w4) (mvT C.2.1 w5) (mvT C.2.1 w6) (by rw [C.2.1.alike.findClass]; exact m1) i3 q (by rw [ek]; exact m3) (g := (mkF m pc Ls (.ref a :: st))) rfl (hsz.trans C.2.2.2.1.symm) rfl (hb C.2.2.1 hd) hf (Nat.le_trans (Nat.add_le_add_right hW _) hl)
    exact ⟨_, X', eT, st'⟩) n
theorem instNo (C : Cx p l e R s m args below meth c Z bytes ml own ret nm) {pc pc' : Nat} {Ls : Array Slot} {st : List Value} {Cn Kn : String} {index : Nat} {a : Addr} (w : (Jvm.Cond.classLink own index Kn).before a0 Z = true) (E : Exa Z h a Cn) (F : ∃ c t, Z.vm.findClass Cn = some c ∧ Z.vm.findClass Kn = some t ∧ Z.vm.assignable c t = false) (hd : decode bytes pc = .ok (.instanceof index, 3)) (hp : pc + 3 = pc') (n : Go p l e R s m args below meth c n0 Q K S h (mkF m pc' Ls (.int 0 :: st))) : Go p l e R s m args below meth c n0 Q K S h (mkF m pc Ls (.ref a :: st)) := by
  subst hp; exact Go.law (fun T ls cs ss X eT => Jvm.RoadKit.instNo X C.1 C.2.1 C.2.2.2.2.1 w eT E F (g := (mkF m pc Ls (.ref a :: st))) rfl rfl (hb C.2.2.1 hd)) n
theorem instY (C : Cx p l e R s m args below meth c Z bytes ml own ret nm) {pc pc' : Nat} {Ls : Array Slot} {st : List Value} {Kn : String} {index : Nat} {a : Addr} (w : (Jvm.Cond.classLink own index Kn).before a0 Z = true) (F : Ins Z h a Kn true) (hd : decode bytes pc = .ok (.instanceof index, 3)) (hp : pc + 3 = pc') (n : Go p l e R s m args below meth c n0 Q K S h (mkF m pc' Ls (.int 1 :: st))) : Go p l e R s m args below meth c n0 Q K S h (mkF m pc Ls (.ref a :: st)) := by
  subst hp; exact Go.law (fun T ls cs ss X eT => Jvm.RoadKit.instY X C.1 C.2.1 C.2.2.2.2.1 w eT F (g := (mkF m pc Ls (.ref a :: st))) rfl rfl (hb C.2.2.1 hd)) n
theorem putFN (C : Cx p l e R s m args below meth c Z bytes ml own ret nm) {pc pc' : Nat} {Ls : Array Slot} {st : List Value} {R0 O n d Cn : String} {index kk : Nat} {ty : FieldType} (w : (Jvm.Cond.fieldLink own index R0 n d).before a0 Z = true) (via : Via Z R0 O n d) {a : Addr} {v v' old : Value} (F : Fld Z h a O n d old) (E : Exa Z h a Cn) (L : (Jvm.Cond.lays Cn O n d).before a0 Z = true ∨ ((Jvm.Cond.laysFinal Cn O n d).before a0 Z = true ∧ own = O ∧ nm = "<init>")) (wi : (Jvm.Cond.instantiable Cn kk).before a0 Z = true) (hty : parseFieldDescriptor d = some ty) (hn : narrow ty v = v') (hf : fits ty v' = true) (ha : n0 ≤ a) (hd : decode bytes pc = .ok (.putfield index, 3)) (hp : pc + 3 = pc') (k : ∀ h', Wr h h' a (Jvm.RoadKit.slotOf Z O n d) v' → Go p l e R s m args below meth c n0 Q K S h' (mkF m pc' Ls st)) : Go p l e R s m args below meth c n0 Q K S h (mkF m pc Ls (v :: .ref a :: st)) := by
  subst hp; exact Go.write ha (fun T ls cs ss X eT => Jvm.RoadKit.putFN X C.1 C.2.1 C.2.2.2.2.1 w via eT F E (L.imp id fun q => ⟨q.1, q.2.1, C.2.2.2.2.2.2.2.trans q.2.2⟩) wi hty hn hf (g := (mkF m pc Ls (v :: .ref a :: st))) rfl rfl (hb C.2.2.1 hd)) k
theorem acopy (C : Cx p l e R s m args below meth c Z bytes ml own ret nm) {pc pc' : Nat} {Ls : Array Slot} {st : List Value} {index : Nat} {a b : Addr} {k1 k2 : ClassId} {t1 t2 : FieldType} {z1 z2 sp dp nn : Int32} {vs vd us : List Value} {d1 d2 : Value} (w1 : (Jvm.Cond.methodLink own index Jvm.Stand.acN).before a0 Z = true) (w2 : (Jvm.Cond.native Jvm.Stand.acN).before a0 Z = true) (w3 : (Jvm.Cond.static Jvm.Stand.acN).before a0 Z = true) (w4 : (Jvm.Cond.initialized "java/lang/System").before a0 Z = true) (A : Arv Z h a k1 t1 z1 vs d1) (B : Arv Z h b k2 t2 z2 vd d2) (hty : (t1 = t2 ∧ refKind t1 = false) ∨ (refKind t1 = true ∧ refKind t2 = true ∧ StoL Z h b us)) (h1 : ¬ sp < 0) (h2 : ¬ dp < 0) (h3 : ¬ nn < 0) (h4 : sp.toNatClampNeg + nn.toNatClampNeg ≤ z1.toNatClampNeg) (h5 : dp.toNatClampNeg + nn.toNatClampNeg ≤ z2.toNatClampNeg) (hus : us = (List.range nn.toNatClampNeg).map fun i => vs.getD (sp.toNatClampNeg + i) d1) (hlen : dp.toNatClampNeg + nn.toNatClampNeg ≤ vd.length) (ha : n0 ≤ b) (hsz : Ls.size = ml) (hf : 1 ≤ R.frames) {W : Nat} (hW : 2 * 0 + (st.map fun v => v.category).sum ≤ W) (hl : W + (nativeFrameWords "java/lang/System" "arraycopy" 5 + 11) ≤ R.locals) (hd : decode bytes pc = .ok (.invokestatic index, 3)) (hp : pc + 3 = pc')
    (n : ∀ h', Keep h h' [b] → Arv Z h' b k2 t2 z2 (vd.take dp.toNatClampNeg ++ us ++ vd.drop (dp.toNatClampNeg + nn.toNatClampNeg)) d2 → Go p l e R s m args below meth c n0 Q K S h' (mkF m pc' Ls st)) : Go p l e R s m args below meth c n0 Q K S h (mkF m pc Ls (.int nn :: .int dp :: .ref b :: .int sp :: .ref a :: st)) :=
  fun T ⟨ls, cs, ss, X, N, hc, hs, eT⟩ => by
    subst hp
    obtain ⟨T', h', L', X', e', N', K', V', st'⟩ := cpA X C.1 C.2.1 C.2.2.2.2.1 w1 w2 w3 w4 eT A B hty h1 h2 h3 h4 h5 hus hlen N ha (g := (mkF m pc Ls (.int nn :: .int dp :: .ref b :: .int sp :: .ref a :: st))) rfl (hsz.trans C.2.2.2.1.symm) rfl (hb C.2.2.1 hd) hf hW hl
    obtain ⟨s₂, v, L, q1, q2⟩ := n h' K' V' T' ⟨L', _, _, X', N', hc, hs, e'⟩
    exact ⟨s₂, v, L, st' _ q1, q2⟩
theorem callS (C : Cx p l e R s m args below meth c Z bytes ml own ret nm) {pc pc' : Nat} {Ls : Array Slot} {st : List Value} {y : MethodName} {yb : ByteArray} {yl idx : Nat} {yr r : Option FieldType} {rm : Room} {Qc : Option Value → Heap → Prop} {argsL rest : List Value} {ps : List FieldType} {W : Nat} (w1 : (Jvm.Cond.methodLink own idx y).before a0 Z = true) (w2 : (Jvm.Cond.static y).before a0 Z = true) (w3 : (Jvm.Cond.initialized y.cls).before a0 Z = true) (w4 : (Jvm.Cond.code y yb yl yr).before a0 Z = true) (hy : y.cls ≠ "java/lang/invoke/MethodHandle" ∧ y.cls ≠ "java/lang/invoke/VarHandle") (hC : Ctr l Z y yb yl yr rm argsL.toArray h n0 Qc) (hf : rm.frames + 1 ≤ R.frames) (hl : W + (yl + 11) + rm.locals ≤ R.locals) (hsz : Ls.size = ml) (hpd : parseMethodDescriptor y.desc = some ⟨ps, r⟩) (hn : argsL.length = ps.length) (hW : 2 * 0 + (rest.map fun v => v.category).sum ≤ W) (hK : K + rm.cells = K') (hS : S + rm.slots = S') (hK' : K' ≤ R.cells) (hS' : S' ≤ R.slots) (hst : st = argsL.reverse ++ rest) (hd : decode bytes pc = .ok (.invokestatic idx, 3)) (hp : pc + 3 = pc')
    (n : ∀ v h', Qc v h' → Go p l e R s m args below meth c n0 Q K' S' h' (mkF m pc' Ls (v.toList ++ rest))) : Go p l e R s m args below meth c n0 Q K S h (mkF m pc Ls st) :=
  fun T ⟨ls, cs, ss, X, N, hc, hs, eT⟩ => by
    subst hp hK hS
    obtain ⟨v, _, ⟨T', L', k', n'⟩, -, X', ⟨Lc', hQ', l', y', z'⟩, st'⟩ := Jvm.LawKit.callS X C.1 (y := y) C.2.2.2.2.1 (mvT C.2.1 w1) (mvT C.2.1 w2) (mvT C.2.1 w3) (mvT C.2.1 w4) hy (backOf (Q := fun v h L => Qc v h ∧ Fr n0 L) (W := W) (hC []) C.2.1 w4 w3 hf hl) (g := (mkF m pc Ls st)) rfl (hsz.trans C.2.2.2.1.symm) (argsL := argsL) (rest := rest) (lenOf hpd hn) hst hW (hb C.2.2.1 hd) (fun _ _ => ⟨rfl, eT, (show cs + rm.cells ≤ R.cells by omega), (show ss + rm.slots ≤ R.slots by omega)⟩)
    dsimp only [Pt.U, Pt.locs, Pt.cells, Pt.slots] at X' l' y' z' st' hQ'
    subst l' y' z'
    obtain ⟨s₂, v2, L, h1, h2⟩ := n v T'.heap hQ'.1 T' ⟨_, _, _, X', Fr.app N hQ'.2, by omega, by omega, rfl⟩
    exact ⟨s₂, v2, L, st' _ h1, h2⟩
theorem callX (C : Cx p l e R s m args below meth c Z bytes ml own ret nm) {pc pc' : Nat} {Ls : Array Slot} {st : List Value} {y : MethodName} {yb : ByteArray} {yl idx : Nat} {r : Option FieldType} {rm : Room} {Qc : Option Value → Heap → Prop} {argsL rest : List Value} {ps : List FieldType} {W : Nat} {a : Addr} (hy1 : y.name = "<init>") (w1 : (Jvm.Cond.methodLink own idx y).before a0 Z = true) (w2 : (Jvm.Cond.instanceMethod y).before a0 Z = true) (w3 : (Jvm.Cond.initialized y.cls).before a0 Z = true) (w4 : (Jvm.Cond.code y yb yl none).before a0 Z = true) (hy : y.cls ≠ "java/lang/invoke/MethodHandle" ∧ y.cls ≠ "java/lang/invoke/VarHandle") (hC : Ctr l Z y yb yl none rm (.ref a :: argsL).toArray h n0 Qc) (hf : rm.frames + 1 ≤ R.frames) (hl : W + (yl + 11) + rm.locals ≤ R.locals) (hsz : Ls.size = ml) (hpd : parseMethodDescriptor y.desc = some ⟨ps, r⟩) (hn : argsL.length = ps.length) (hW : 2 * 0 + (rest.map fun v => v.category).sum ≤ W) (hK : K + rm.cells = K') (hS : S + rm.slots = S') (hK' : K' ≤ R.cells) (hS' : S' ≤ R.slots) (hst : st = argsL.reverse ++ .ref a :: rest) (hd : decode bytes pc = .ok (.invokespecial idx, 3)) (hp : pc + 3 = pc')
    (n : ∀ v h', Qc v h' → Go p l e R s m args below meth c n0 Q K' S' h' (mkF m pc' Ls (v.toList ++ rest))) : Go p l e R s m args below meth c n0 Q K S h (mkF m pc Ls st) :=
  fun T ⟨ls, cs, ss, X, N, hc, hs, eT⟩ => by
    subst hp hK hS
    obtain ⟨v, _, ⟨T', L', k', n'⟩, -, X', ⟨Lc', hQ', l', y', z'⟩, st'⟩ := X.specialBack C.1 (y := y) hy1 C.2.2.2.2.1 (mvT C.2.1 w1) (mvT C.2.1 w2) (mvT C.2.1 w4) hy (backOf (Q := fun v h L => Qc v h ∧ Fr n0 L) (W := W) (hC []) C.2.1 w4 w3 hf hl) (g := (mkF m pc Ls st)) rfl (hsz.trans C.2.2.2.1.symm) (Steps.refl _) (a := a) (argsL := argsL) (rest := rest) (lenOf hpd hn) hst hW (hb C.2.2.1 hd) (fun _ _ => ⟨rfl, eT, (show cs + rm.cells ≤ R.cells by omega), (show ss + rm.slots ≤ R.slots by omega)⟩)
    dsimp only [Pt.U, Pt.locs, Pt.cells, Pt.slots] at X' l' y' z' st' hQ'
    subst l' y' z'
    obtain ⟨s₂, v2, L, h1, h2⟩ := n v T'.heap hQ'.1 T' ⟨_, _, _, X', Fr.app N hQ'.2, by omega, by omega, rfl⟩
    exact ⟨s₂, v2, L, st'.trans h1, h2⟩
theorem callV (C : Cx p l e R s m args below meth c Z bytes ml own ret nm) {pc pc' : Nat} {Ls : Array Slot} {st : List Value} {y z : MethodName} {yb : ByteArray} {yl idx : Nat} {yr r : Option FieldType} {rm : Room} {Qc : Option Value → Heap → Prop} {argsL rest : List Value} {ps : List FieldType} {W : Nat} {a : Addr} {Cn : String} (w1 : (Jvm.Cond.methodLink own idx y).before a0 Z = true) (w2 : (Jvm.Cond.declares y).before a0 Z = true) (wf : NotFace s y) (w5 : (Jvm.Cond.selects Cn y z).before a0 Z = true) (w6 : (Jvm.Cond.instanceMethod z).before a0 Z = true) (w3 : (Jvm.Cond.initialized z.cls).before a0 Z = true) (w4 : (Jvm.Cond.code z yb yl yr).before a0 Z = true) (E : Exa Z h a Cn) (hy : y.cls ≠ "java/lang/invoke/MethodHandle" ∧ y.cls ≠ "java/lang/invoke/VarHandle") (hC : Ctr l Z z yb yl yr rm (.ref a :: argsL).toArray h n0 Qc) (hf : rm.frames + 1 ≤ R.frames) (hl : W + (yl + 11) + rm.locals ≤ R.locals) (hsz : Ls.size = ml) (hpd : parseMethodDescriptor y.desc = some ⟨ps, r⟩) (hn : argsL.length = ps.length) (hW : 2 * 0 + (rest.map fun v => v.category).sum ≤ W) (hK : K + rm.cells = K') (hS : S + rm.slots = S') (hK' : K' ≤ R.cells) (hS' : S' ≤ R.slots) (hst : st = argsL.reverse ++ .ref a :: rest) (hd : decode bytes pc = .ok (.invokevirtual idx, 3)) (hp : pc + 3 = pc')
    (n : ∀ v h', Qc v h' → Go p l e R s m args below meth c n0 Q K' S' h' (mkF m pc' Ls (v.toList ++ rest))) : Go p l e R s m args below meth c n0 Q K S h (mkF m pc Ls st) :=
  fun T ⟨ls, cs, ss, X, N, hc, hs, eT⟩ => by
    subst hp hK hS
    obtain ⟨cq, kq, qa, qb, qc⟩ := isOf C.2.1 eT E
    obtain ⟨v, _, ⟨T', L', k', n'⟩, -, X', ⟨Lc', hQ', l', y', z'⟩, st'⟩ := X.virtualBack C.1 (y := y) (z := z) C.2.2.2.2.1 (mvT C.2.1 w1) (mvT C.2.1 w2) wf (mvT C.2.1 w5) (mvT C.2.1 w6) hy (backOf (Q := fun v h L => Qc v h ∧ Fr n0 L) (W := W) (hC []) C.2.1 w4 w3 hf hl) qa qc (g := (mkF m pc Ls st)) rfl (hsz.trans C.2.2.2.1.symm) (Steps.refl _) (argsL := argsL) (rest := rest) (lenOf hpd hn) hst hW (hb C.2.2.1 hd) (fun _ _ => ⟨rfl, eT, (show cs + rm.cells ≤ R.cells by omega), (show ss + rm.slots ≤ R.slots by omega)⟩)
    dsimp only [Pt.U, Pt.locs, Pt.cells, Pt.slots] at X' l' y' z' st' hQ'
    subst l' y' z'
    obtain ⟨s₂, v2, L, h1, h2⟩ := n v T'.heap hQ'.1 T' ⟨_, _, _, X', Fr.app N hQ'.2, by omega, by omega, rfl⟩
    exact ⟨s₂, v2, L, st'.trans h1, h2⟩
theorem callVU (C : Cx p l e R s m args below meth c Z bytes ml own ret nm) {pc pc' : Nat} {Ls : Array Slot} {st : List Value} {y z : MethodName} {yb : ByteArray} {yl idx : Nat} {yr r : Option FieldType} {rm : Room} {Qc : Option Value → Heap → Prop} {argsL rest : List Value} {ps : List FieldType} {W : Nat} {a : Addr} {Cn owner : String} (w1 : (Jvm.Cond.methodLink own idx y).before a0 Z = true) (wS : (Jvm.Cond.sameMethod y.cls owner y.name y.desc).before a0 Z = true) (w2 : (Jvm.Cond.declares ⟨owner, y.name, y.desc⟩).before a0 Z = true) (w5 : (Jvm.Cond.selects Cn y z).before a0 Z = true) (w6 : (Jvm.Cond.instanceMethod z).before a0 Z = true) (w3 : (Jvm.Cond.initialized z.cls).before a0 Z = true) (w4 : (Jvm.Cond.code z yb yl yr).before a0 Z = true) (E : Exa Z h a Cn) (hy : owner ≠ "java/lang/invoke/MethodHandle" ∧ owner ≠ "java/lang/invoke/VarHandle") (hC : Ctr l Z z yb yl yr rm (.ref a :: argsL).toArray h n0 Qc) (hf : rm.frames + 1 ≤ R.frames) (hl : W + (yl + 11) + rm.locals ≤ R.locals) (hsz : Ls.size = ml) (hpd : parseMethodDescriptor y.desc = some ⟨ps, r⟩) (hn : argsL.length = ps.length) (hW : 2 * 0 + (rest.map fun v => v.category).sum ≤ W) (hK : K + rm.cells = K') (hS : S + rm.slots = S') (hK' : K' ≤ R.cells) (hS' : S' ≤ R.slots) (hst : st = argsL.reverse ++ .ref a :: rest) (hd : decode bytes pc = .ok (.invokevirtual idx, 3)) (hp : pc + 3 = pc')
    (n : ∀ v h', Qc v h' → Go p l e R s m args below meth c n0 Q K' S' h' (mkF m pc' Ls (v.toList ++ rest))) : Go p l e R s m args below meth c n0 Q K S h (mkF m pc Ls st) :=
  fun T ⟨ls, cs, ss, X, N, hc, hs, eT⟩ => by
    subst hp hK hS
    obtain ⟨cq, kq, qa, qb, qc⟩ := isOf C.2.1 eT E
    obtain ⟨v, _, ⟨T', L', k', n'⟩, -, X', ⟨Lc', hQ', l', y', z'⟩, st'⟩ := X.virtualBackUp C.1 (x := y) (y := z) C.2.2.2.2.1 (mvT C.2.1 w1) (mvT C.2.1 wS) (mvT C.2.1 w2) hy (mvT C.2.1 w5) (mvT C.2.1 w6) (backOf (Q := fun v h L => Qc v h ∧ Fr n0 L) (W := W) (hC []) C.2.1 w4 w3 hf hl) qa qc (g := (mkF m pc Ls st)) rfl (hsz.trans C.2.2.2.1.symm) (Steps.refl _) (argsL := argsL) (rest := rest) (lenOf hpd hn) hst hW (hb C.2.2.1 hd) (fun _ _ => ⟨rfl, eT, (show cs + rm.cells ≤ R.cells by omega), (show ss + rm.slots ≤ R.slots by omega)⟩)
    dsimp only [Pt.U, Pt.locs, Pt.cells, Pt.slots] at X' l' y' z' st' hQ'
    subst l' y' z'
    obtain ⟨s₂, v2, L, h1, h2⟩ := n v T'.heap hQ'.1 T' ⟨_, _, _, X', Fr.app N hQ'.2, by omega, by omega, rfl⟩
    exact ⟨s₂, v2, L, st'.trans h1, h2⟩
theorem callP (C : Cx p l e R s m args below meth c Z bytes ml own ret nm) {pc pc' : Nat} {Ls : Array Slot} {st : List Value} {y : MethodName} {yb : ByteArray} {yl idx : Nat} {yr r : Option FieldType} {rm : Room} {Qc : Option Value → Heap → Prop} {argsL rest : List Value} {ps : List FieldType} {W : Nat} {a : Addr} {Cn : String} (w1 : (Jvm.Cond.methodLink own idx y).before a0 Z = true) (w2 : (Jvm.Cond.instanceMethod y).before a0 Z = true) (w5 : (Jvm.Cond.selects y.cls y y).before a0 Z = true) (w6 : (Jvm.Cond.privateMethod y).before a0 Z = true) (w3 : (Jvm.Cond.initialized y.cls).before a0 Z = true) (w4 : (Jvm.Cond.code y yb yl yr).before a0 Z = true) (E : Exa Z h a Cn) (hy : y.cls ≠ "java/lang/invoke/MethodHandle" ∧ y.cls ≠ "java/lang/invoke/VarHandle") (hC : Ctr l Z y yb yl yr rm (.ref a :: argsL).toArray h n0 Qc) (hf : rm.frames + 1 ≤ R.frames) (hl : W + (yl + 11) + rm.locals ≤ R.locals) (hsz : Ls.size = ml) (hpd : parseMethodDescriptor y.desc = some ⟨ps, r⟩) (hn : argsL.length = ps.length) (hW : 2 * 0 + (rest.map fun v => v.category).sum ≤ W) (hK : K + rm.cells = K') (hS : S + rm.slots = S') (hK' : K' ≤ R.cells) (hS' : S' ≤ R.slots) (hst : st = argsL.reverse ++ .ref a :: rest) (hd : decode bytes pc = .ok (.invokevirtual idx, 3)) (hp : pc + 3 = pc')
    (n : ∀ v h', Qc v h' → Go p l e R s m args below meth c n0 Q K' S' h' (mkF m pc' Ls (v.toList ++ rest))) : Go p l e R s m args below meth c n0 Q K S h (mkF m pc Ls st) :=
  fun T ⟨ls, cs, ss, X, N, hc, hs, eT⟩ => by
    subst hp hK hS
    obtain ⟨cq, qa, qb⟩ := E.cell
    obtain ⟨v, _, ⟨T', L', k', n'⟩, -, X', ⟨Lc', hQ', l', y', z'⟩, st'⟩ := X.privateBack C.1 (y := y) C.2.2.2.2.1 (mvT C.2.1 w1) (mvT C.2.1 w2) (mvT C.2.1 w5) (Cond.privateMethod_at (mvP C.2.1 w6 (args := #[]))) (mvT C.2.1 w4) hy (backOf (Q := fun v h L => Qc v h ∧ Fr n0 L) (W := W) (hC []) C.2.1 w4 w3 hf hl) (g := (mkF m pc Ls st)) rfl (hsz.trans C.2.2.2.1.symm) (Steps.refl _) (a := a) (by rw [eT]; exact qa) qb (argsL := argsL) (rest := rest) (lenOf hpd hn) hst hW (hb C.2.2.1 hd) (fun _ _ => ⟨rfl, eT, (show cs + rm.cells ≤ R.cells by omega), (show ss + rm.slots ≤ R.slots by omega)⟩)
    dsimp only [Pt.U, Pt.locs, Pt.cells, Pt.slots] at X' l' y' z' st' hQ'
    subst l' y' z'
    obtain ⟨s₂, v2, L, h1, h2⟩ := n v T'.heap hQ'.1 T' ⟨_, _, _, X', Fr.app N hQ'.2, by omega, by omega, rfl⟩
    exact ⟨s₂, v2, L, st'.trans h1, h2⟩
theorem callI (C : Cx p l e R s m args below meth c Z bytes ml own ret nm) {pc pc' : Nat} {Ls : Array Slot} {st : List Value} {y z : MethodName} {yb : ByteArray} {yl idx : Nat} {yr r : Option FieldType} {rm : Room} {Qc : Option Value → Heap → Prop} {argsL rest : List Value} {ps : List FieldType} {W : Nat} {a : Addr} {Cn : String} {count : Nat} (w1 : (Jvm.Cond.methodLink own idx y).before a0 Z = true) (w2 : (Jvm.Cond.declares y).before a0 Z = true) (wf : (Jvm.Cond.interfaceMethod y.cls y.cls y.name y.desc).before a0 Z = true) (wfk : ((Jvm.Cond.interfaceMethod y.cls y.cls y.name y.desc).onTables && (Jvm.Cond.interfaceMethod y.cls y.cls y.name y.desc).keepsFace) = true) (w5 : (Jvm.Cond.selects Cn y z).before a0 Z = true) (w6 : (Jvm.Cond.instanceMethod z).before a0 Z = true) (w7 : (Jvm.Cond.publicMethod z).before a0 Z = true) (w8 : (Jvm.Cond.unhidden Cn y.name y.desc).before a0 Z = true) (w9 : (Jvm.Cond.castable Cn y.cls).before a0 Z = true) (w3 : (Jvm.Cond.initialized z.cls).before a0 Z = true) (w4 : (Jvm.Cond.code z yb yl yr).before a0 Z = true) (E : Exa Z h a Cn) (hy : y.cls ≠ "java/lang/invoke/MethodHandle" ∧ y.cls ≠ "java/lang/invoke/VarHandle") (hC : Ctr l Z z yb yl yr rm (.ref a :: argsL).toArray h n0 Qc) (hf : rm.frames + 1 ≤ R.frames) (hl : W + (yl + 11) + rm.locals ≤ R.locals) (hsz : Ls.size = ml) (hpd : parseMethodDescriptor y.desc = some ⟨ps, r⟩) (hn : argsL.length = ps.length) (hW : 2 * 0 + (rest.map fun v => v.category).sum ≤ W) (hK : K + rm.cells = K') (hS : S + rm.slots = S') (hK' : K' ≤ R.cells) (hS' : S' ≤ R.slots) (hst : st = argsL.reverse ++ .ref a :: rest) (hd : decode bytes pc = .ok (.invokeinterface idx count, 5)) (hp : pc + 5 = pc')
    (n : ∀ v h', Qc v h' → Go p l e R s m args below meth c n0 Q K' S' h' (mkF m pc' Ls (v.toList ++ rest))) : Go p l e R s m args below meth c n0 Q K S h (mkF m pc Ls st) :=
  fun T ⟨ls, cs, ss, X, N, hc, hs, eT⟩ => by
    subst hp hK hS
    obtain ⟨cq, kq, qa, qb, qc⟩ := isOf C.2.1 eT E
    obtain ⟨v, _, ⟨T', L', k', n'⟩, -, X', ⟨Lc', hQ', l', y', z'⟩, st'⟩ := X.interfaceBack C.1 (xi := y) (y := z) C.2.2.2.2.1 (mvT C.2.1 w1) (mvT C.2.1 w2) (mvT C.2.1 wf wfk) (mvT C.2.1 w5) (mvT C.2.1 w6) (mvT C.2.1 w7) (mvT C.2.1 w8) (mvT C.2.1 w9) hy (backOf (Q := fun v h L => Qc v h ∧ Fr n0 L) (W := W) (hC []) C.2.1 w4 w3 hf hl) qa qb qc (g := (mkF m pc Ls st)) rfl (hsz.trans C.2.2.2.1.symm) (Steps.refl _) (argsL := argsL) (rest := rest) (lenOf hpd hn) hst hW (hb C.2.2.1 hd) (fun _ _ => ⟨rfl, eT, (show cs + rm.cells ≤ R.cells by omega), (show ss + rm.slots ≤ R.slots by omega)⟩)
    dsimp only [Pt.U, Pt.locs, Pt.cells, Pt.slots] at X' l' y' z' st' hQ'
    subst l' y' z'
    obtain ⟨s₂, v2, L, h1, h2⟩ := n v T'.heap hQ'.1 T' ⟨_, _, _, X', Fr.app N hQ'.2, by omega, by omega, rfl⟩
    exact ⟨s₂, v2, L, st'.trans h1, h2⟩
theorem callXN (C : Cx p l e R s m args below meth c Z bytes ml own ret nm) {pc pc' : Nat} {Ls : Array Slot} {st : List Value} {y : MethodName} {yb : ByteArray} {yl idx : Nat} {r : Option FieldType} {rm : Room} {Qc : Option Value → Heap → Prop} {argsL rest : List Value} {ps : List FieldType} {W : Nat} {a : Addr} {host : String} (hy1 : y.name = "<init>") (w1 : (Jvm.Cond.methodLinkNest own idx y host).before a0 Z = true) (w2 : (Jvm.Cond.instanceMethod y).before a0 Z = true) (w3 : (Jvm.Cond.initialized y.cls).before a0 Z = true) (w4 : (Jvm.Cond.code y yb yl none).before a0 Z = true) (hy : y.cls ≠ "java/lang/invoke/MethodHandle" ∧ y.cls ≠ "java/lang/invoke/VarHandle") (hC : Ctr l Z y yb yl none rm (.ref a :: argsL).toArray h n0 Qc) (hf : rm.frames + 1 ≤ R.frames) (hl : W + (yl + 11) + rm.locals ≤ R.locals) (hsz : Ls.size = ml) (hpd : parseMethodDescriptor y.desc = some ⟨ps, r⟩) (hn : argsL.length = ps.length) (hW : 2 * 0 + (rest.map fun v => v.category).sum ≤ W) (hK : K + rm.cells = K') (hS : S + rm.slots = S') (hK' : K' ≤ R.cells) (hS' : S' ≤ R.slots) (hst : st = argsL.reverse ++ .ref a :: rest) (hd : decode bytes pc = .ok (.invokespecial idx, 3)) (hp : pc + 3 = pc')
    (n : ∀ v h', Qc v h' → Go p l e R s m args below meth c n0 Q K' S' h' (mkF m pc' Ls (v.toList ++ rest))) : Go p l e R s m args below meth c n0 Q K S h (mkF m pc Ls st) :=
  fun T ⟨ls, cs, ss, X, N, hc, hs, eT⟩ => by
    subst hp hK hS
    obtain ⟨v, _, ⟨T', L', k', n'⟩, -, X', ⟨Lc', hQ', l', y', z'⟩, st'⟩ := X.specialBackNest C.1 (y := y) hy1 C.2.2.2.2.1 (Cond.methodLinkNest_wide C.2.1 w1 :) (mvT C.2.1 w2) (mvT C.2.1 w4) hy (backOf (Q := fun v h L => Qc v h ∧ Fr n0 L) (W := W) (hC []) C.2.1 w4 w3 hf hl) (g := (mkF m pc Ls st)) rfl (hsz.trans C.2.2.2.1.symm) (Steps.refl _) (a := a) (argsL := argsL) (rest := rest) (lenOf hpd hn) hst hW (hb C.2.2.1 hd) (fun _ _ => ⟨rfl, eT, (show cs + rm.cells ≤ R.cells by omega), (show ss + rm.slots ≤ R.slots by omega)⟩)
    dsimp only [Pt.U, Pt.locs, Pt.cells, Pt.slots] at X' l' y' z' st' hQ'
    subst l' y' z'
    obtain ⟨s₂, v2, L, h1, h2⟩ := n v T'.heap hQ'.1 T' ⟨_, _, _, X', Fr.app N hQ'.2, by omega, by omega, rfl⟩
    exact ⟨s₂, v2, L, st'.trans h1, h2⟩
theorem retN (C : Cx p l e R s m args below meth c Z bytes ml own ret nm) {pc : Nat} {Ls : Array Slot} {st : List Value} {x z : Int32} {t : FieldType} (hr0 : ret = some t) (ht : t = .boolean ∨ t = .byte ∨ t = .char ∨ t = .short) (hz : nar t x = z) (hq : Q (some (.int z)) h) (hK : K ≤ R.cells) (hS : S ≤ R.slots) (hd : decode bytes pc = .ok (.ireturn, 1)) : Go p l e R s m args below meth c n0 Q K S h (mkF m pc Ls (.int x :: st)) :=
  fun T ⟨ls, cs, ss, X, N, hc, hs, eT⟩ => by
    obtain ⟨fs, hr, hrun, hended, hW, hsame⟩ := X.leave (v := (some (.int z))) (fun h => by rw [C.2.2.2.2.2.2.1, hr0] at h; cases h) C.2.2.2.2.2.1
    exact ⟨_, _, _, Jvm.RoadKit.retN X C.1 (C.2.2.2.2.2.2.1.trans hr0) ht (hb C.2.2.1 hd) (hz ▸ hr), hrun, hended, (show Q (some (.int z)) T.heap from eT.symm ▸ hq), N, ⟨_, rfl⟩, hW, hsame.mono (Nat.le_trans hc hK) (Nat.le_trans hs hS)⟩
theorem retI (C : Cx p l e R s m args below meth c Z bytes ml own ret nm) {pc : Nat} {Ls : Array Slot} {st : List Value} {x : Int32} (hr0 : ret = some .int) (hq : Q (some (.int x)) h) (hK : K ≤ R.cells) (hS : S ≤ R.slots) (hd : decode bytes pc = .ok (.ireturn, 1)) : Go p l e R s m args below meth c n0 Q K S h (mkF m pc Ls (.int x :: st)) :=
  fun T ⟨ls, cs, ss, X, N, hc, hs, eT⟩ => by
    obtain ⟨fs, hr, hrun, hended, hW, hsame⟩ := X.leave (v := (some (.int x))) (fun h => by rw [C.2.2.2.2.2.2.1, hr0] at h; cases h) C.2.2.2.2.2.1
    exact ⟨_, _, _, retOut X C.1 (C.2.2.2.2.2.2.1.trans hr0) rfl (Or.inl ⟨rfl, Or.inl rfl, x, rfl⟩) (hb C.2.2.1 hd) hr, hrun, hended, (show Q (some (.int x)) T.heap from eT.symm ▸ hq), N, ⟨_, rfl⟩, hW, hsame.mono (Nat.le_trans hc hK) (Nat.le_trans hs hS)⟩
theorem retL (C : Cx p l e R s m args below meth c Z bytes ml own ret nm) {pc : Nat} {Ls : Array Slot} {st : List Value} {x : Int64} (hr0 : ret = some .long) (hq : Q (some (.long x)) h) (hK : K ≤ R.cells) (hS : S ≤ R.slots) (hd : decode bytes pc = .ok (.lreturn, 1)) : Go p l e R s m args below meth c n0 Q K S h (mkF m pc Ls (.long x :: st)) :=
  fun T ⟨ls, cs, ss, X, N, hc, hs, eT⟩ => by
    obtain ⟨fs, hr, hrun, hended, hW, hsame⟩ := X.leave (v := (some (.long x))) (fun h => by rw [C.2.2.2.2.2.2.1, hr0] at h; cases h) C.2.2.2.2.2.1
    exact ⟨_, _, _, retOut X C.1 (C.2.2.2.2.2.2.1.trans hr0) rfl (Or.inr (Or.inl ⟨rfl, rfl, x, rfl⟩)) (hb C.2.2.1 hd) hr, hrun, hended, (show Q (some (.long x)) T.heap from eT.symm ▸ hq), N, ⟨_, rfl⟩, hW, hsame.mono (Nat.le_trans hc hK) (Nat.le_trans hs hS)⟩
theorem retA (C : Cx p l e R s m args below meth c Z bytes ml own ret nm) {pc : Nat} {Ls : Array Slot} {st : List Value} {x : Value} {t : FieldType} (hr0 : ret = some t) (ht : t.isReference = true) (hx : x.isRef = true) (hq : Q (some x) h) (hK : K ≤ R.cells) (hS : S ≤ R.slots) (hd : decode bytes pc = .ok (.areturn, 1)) : Go p l e R s m args below meth c n0 Q K S h (mkF m pc Ls (x :: st)) :=
  fun T ⟨ls, cs, ss, X, N, hc, hs, eT⟩ => by
    obtain ⟨fs, hr, hrun, hended, hW, hsame⟩ := X.leave (v := (some x)) (fun h => by rw [C.2.2.2.2.2.2.1, hr0] at h; cases h) C.2.2.2.2.2.1
    exact ⟨_, _, _, retOut X C.1 (C.2.2.2.2.2.2.1.trans hr0) (by cases t <;> first | (cases ht; done) | rfl) (Or.inr (Or.inr (Or.inr (Or.inr ⟨rfl, ht, hx⟩)))) (hb C.2.2.1 hd) hr, hrun, hended, (show Q (some x) T.heap from eT.symm ▸ hq), N, ⟨_, rfl⟩, hW, hsame.mono (Nat.le_trans hc hK) (Nat.le_trans hs hS)⟩
theorem retV (C : Cx p l e R s m args below meth c Z bytes ml own ret nm) {pc : Nat} {Ls : Array Slot} (hr0 : ret = none) (hq : Q none h) (hK : K ≤ R.cells) (hS : S ≤ R.slots) (hd : decode bytes pc = .ok (.return_, 1)) : Go p l e R s m args below meth c n0 Q K S h (mkF m pc Ls []) :=
  fun T ⟨ls, cs, ss, X, N, hc, hs, eT⟩ => by
    obtain ⟨fs, hr, hrun, hended, hW, hsame⟩ := X.leave (v := none) (fun _ => rfl) C.2.2.2.2.2.1
    exact ⟨_, _, _, X.returnOut C.1 (C.2.2.2.2.2.2.1.trans hr0) (hb C.2.2.1 hd) hr, hrun, hended, (show Q none T.heap from eT.symm ▸ hq), N, ⟨_, rfl⟩, hW, hsame.mono (Nat.le_trans hc hK) (Nat.le_trans hs hS)⟩
theorem fld_int {t : Term} {a : Addr} {Cn n d : String} {k : Int32} (ev : t.eval args s none [] s = some (.ref a)) (h : (Jvm.Cond.eq (.field t Cn n d) (.int k)).value args s none s [] = some true) : Fld s s.heap a Cn n d (.int k) := by
  obtain ⟨x, y, e1, e2, k1, k2⟩ := cmp_v (Or.inl h)
  rw [Term.int_eval] at e2; cases e2
  cases x with
  | int z =>
    have q : z = k := by simpa [Jvm.Cond.value, e1, Term.int_eval] using h
    subst q; rw [fld_at ev] at e1; exact Fld.start e1
  | _ => simp [Jvm.Cond.value, e1, Term.int_eval] at h
theorem fld_ref {t u : Term} {a b : Addr} {Cn n d : String} (ev : t.eval args s none [] s = some (.ref a)) (eu : u.eval args s none [] s = some (.ref b)) (h : (Jvm.Cond.eq (.field t Cn n d) u).value args s none s [] = some true) : Fld s s.heap a Cn n d (.ref b) := by
  obtain ⟨x, y, e1, e2, k1, k2⟩ := cmp_v (Or.inl h)
  rw [eu] at e2; cases e2
  cases x with
  | ref z =>
    have q : z = b := by simpa [Jvm.Cond.value, e1, eu] using h
    subst q; rw [fld_at ev] at e1; exact Fld.start e1
  | _ => simp [Jvm.Cond.value, e1, eu] at h
theorem ref_ne {a b : Addr} (h : a ≠ b) : ¬ (Value.ref a = Value.ref b) := fun q => h (Value.ref.inj q)
theorem len_start {t : Term} {a : Addr} {cl : Cell} {ty : FieldType} {k : Int32} (ev : t.eval args s none [] s = some (.ref a)) (A : Arr s s.heap a cl ty) (hl : (Jvm.Cond.eq (.length t) (.int k)).value args s none s [] = some true) : cl.slots.size < 2 ^ 31 ∧ cl.slots.size.toInt32 = k := by
  obtain ⟨x, y, e1, e2, -, -⟩ := cmp_v (Or.inl hl)
  obtain ⟨b, cell, q1, q2, q3, rfl⟩ := Jvm.Lib.length_spec e1
  cases ev.symm.trans q1
  cases q2.symm.trans (A.fin (Vm.Alike.refl _))
  rw [Term.int_eval] at e2; cases e2
  exact ⟨q3, by simpa [Jvm.Cond.value, e1, Term.int_eval] using hl⟩
theorem elem_start {t u : Term} {a b : Addr} {cl : Cell} {j : Int32} (ev : t.eval args s none [] s = some (.ref a)) (hc : s.heap[a]? = some cl) (eu : u.eval args s none [] s = some (.ref b)) (h : (Jvm.Cond.eq (.elem t (.int j)) u).value args s none s [] = some true) : cl.slots[j.toNatClampNeg]? = some (.ref b) := by
  obtain ⟨x, y, e1, e2, -, -⟩ := cmp_v (Or.inl h)
  rw [eu] at e2; cases e2
  have q := (elem_in e1 ev (Term.int_eval j) hc).2
  cases x with
  | ref z =>
    have q' : z = b := by simpa [Jvm.Cond.value, e1, eu] using h
    subst q'; exact q
  | _ => simp [Jvm.Cond.value, e1, eu] at h
theorem sto_of {a y : Addr} {cA : ClassId} {ty : FieldType} {i : Int32} {vs : List Value} {dv : Value} {Cn : String} (F : Arv Z h a cA ty i vs dv) (O : Ovr Z cA Cn) (I : Ins Z h y Cn true) : Sto Z h a (.ref y) := by
  obtain ⟨c, A, q, -⟩ := F; exact Sto.ofV A q O I
theorem sto_ofA {a y : Addr} {cA : ClassId} {ty t : FieldType} {i : Int32} {vs : List Value} {dv : Value} {Cn : String} (F : Arv Z h a cA ty i vs dv) (O : OvrA Z cA t Cn) (I : Ins Z h y Cn true) : Sto Z h a (.ref y) := by
  obtain ⟨c, A, q, -⟩ := F; exact Sto.ofVA A q O I
theorem ins_keep {a : Addr} {Cn : String} {b : Bool} {h' : Heap} {ws : List Addr} (F : Ins Z h a Cn b) (K : Keep h h' ws) : Ins Z h' a Cn b := by
  obtain ⟨cell, cT, h1, h2, h3⟩ := F
  obtain ⟨c', q, r1, r2, r3⟩ := K.2.2 a cell h1
  exact ⟨c', cT, q, h2, by rw [r1, r2]; exact h3⟩
theorem sta_keep {Cn n d Cm : String} {v : Value} {a : Addr} {h' : Heap} (F : Sta Z h Cn n d v) (K : Keep h h' [a]) (E : Exa Z h a Cm) : Sta Z h' Cn n d v := by
  obtain ⟨cf, i, k, f, st, cell, h1, h2, h3, h4, h5, h6, h7⟩ := F
  obtain ⟨c2, k2, g1, -, -, g4, -⟩ := E
  have ne : st ≠ a := fun q => by subst q; cases h5.symm.trans g1; rw [h6] at g4; cases g4
  exact ⟨cf, i, k, f, st, cell, h1, h2, h3, h4, K.2.1 st cell h5 (fun q => ne (List.mem_singleton.mp q)), h6, h7⟩
theorem nar_b {x : Int32} (h : x = 0 ∨ x = 1) : nar .boolean x = x := by rcases h with rfl | rfl <;> rfl
end K
end Jvm.OwnW
namespace Jvm.Pilot.@@N@@
open Jvm Jvm.ClassFile Sem Op Lib Jvm.Free Jvm.Stand Jvm.LawKit Jvm.RoadKit Jvm.OwnW Bundle Jvm.Pilot.@@N@@.Jvm.D
theorem own_pn_ChunkPool : plainName "com/example/kinegrid/kinegrid/server/ChunkPool" = true := by first | (simp [plainName, overriddenIn]; done) | decide +kernel
theorem own_d_prog_60_method_1_code_0 : decode prog_60_method_1_code 0 = .ok (.aload_n 0, 1) := by decide +kernel
theorem own_d_prog_60_method_1_code_1 : decode prog_60_method_1_code 1 = .ok (.invokespecial 1, 3) := by decide +kernel
theorem own_d_prog_60_method_1_code_4 : decode prog_60_method_1_code 4 = .ok (.aload_n 0, 1) := by decide +kernel
theorem own_d_prog_60_method_1_code_5 : decode prog_60_method_1_code 5 = .ok (.bipush 64, 2) := by decide +kernel
theorem own_d_prog_60_method_1_code_7 : decode prog_60_method_1_code 7 = .ok (.anewarray 9, 3) := by decide +kernel
theorem own_d_prog_60_method_1_code_10 : decode prog_60_method_1_code 10 = .ok (.putfield 11, 3) := by decide +kernel
theorem own_d_prog_60_method_1_code_13 : decode prog_60_method_1_code 13 = .ok (.return_, 1) := by decide +kernel
theorem own_d_prog_60_method_3_code_0 : decode prog_60_method_3_code 0 = .ok (.aload_n 0, 1) := by decide +kernel
theorem own_d_prog_60_method_3_code_1 : decode prog_60_method_3_code 1 = .ok (.getfield 15, 3) := by decide +kernel
theorem own_d_prog_60_method_3_code_4 : decode prog_60_method_3_code 4 = .ok (.bipush 64, 2) := by decide +kernel
theorem own_d_prog_60_method_3_code_6 : decode prog_60_method_3_code 6 = .ok (.if_icmp .ge 20, 3) := by decide +kernel
theorem own_d_prog_60_method_3_code_9 : decode prog_60_method_3_code 9 = .ok (.aload_n 0, 1) := by decide +kernel
theorem own_d_prog_60_method_3_code_10 : decode prog_60_method_3_code 10 = .ok (.getfield 11, 3) := by decide +kernel
theorem own_d_prog_60_method_3_code_13 : decode prog_60_method_3_code 13 = .ok (.aload_n 0, 1) := by decide +kernel
theorem own_d_prog_60_method_3_code_14 : decode prog_60_method_3_code 14 = .ok (.dup, 1) := by decide +kernel
theorem own_d_prog_60_method_3_code_15 : decode prog_60_method_3_code 15 = .ok (.getfield 15, 3) := by decide +kernel
theorem own_d_prog_60_method_3_code_18 : decode prog_60_method_3_code 18 = .ok (.dup_x1, 1) := by decide +kernel
theorem own_d_prog_60_method_3_code_19 : decode prog_60_method_3_code 19 = .ok (.iconst 1, 1) := by decide +kernel
theorem own_d_prog_60_method_3_code_20 : decode prog_60_method_3_code 20 = .ok (.iadd, 1) := by decide +kernel
theorem own_d_prog_60_method_3_code_21 : decode prog_60_method_3_code 21 = .ok (.putfield 15, 3) := by decide +kernel
theorem own_d_prog_60_method_3_code_24 : decode prog_60_method_3_code 24 = .ok (.aload_n 1, 1) := by decide +kernel
theorem own_d_prog_60_method_3_code_25 : decode prog_60_method_3_code 25 = .ok (.aastore, 1) := by decide +kernel
theorem own_d_prog_60_method_3_code_26 : decode prog_60_method_3_code 26 = .ok (.return_, 1) := by decide +kernel
theorem own_d_prog_60_method_2_code_0 : decode prog_60_method_2_code 0 = .ok (.aload_n 0, 1) := by decide +kernel
theorem own_d_prog_60_method_2_code_1 : decode prog_60_method_2_code 1 = .ok (.getfield 15, 3) := by decide +kernel
theorem own_d_prog_60_method_2_code_4 : decode prog_60_method_2_code 4 = .ok (.ifCond .ne 9, 3) := by decide +kernel
theorem own_d_prog_60_method_2_code_7 : decode prog_60_method_2_code 7 = .ok (.sipush 16384, 3) := by decide +kernel
theorem own_d_prog_60_method_2_code_10 : decode prog_60_method_2_code 10 = .ok (.newarray .byte, 2) := by decide +kernel
theorem own_d_prog_60_method_2_code_12 : decode prog_60_method_2_code 12 = .ok (.areturn, 1) := by decide +kernel
theorem own_d_prog_60_method_2_code_13 : decode prog_60_method_2_code 13 = .ok (.aload_n 0, 1) := by decide +kernel
theorem own_d_prog_60_method_2_code_14 : decode prog_60_method_2_code 14 = .ok (.getfield 11, 3) := by decide +kernel
theorem own_d_prog_60_method_2_code_17 : decode prog_60_method_2_code 17 = .ok (.aload_n 0, 1) := by decide +kernel
theorem own_d_prog_60_method_2_code_18 : decode prog_60_method_2_code 18 = .ok (.dup, 1) := by decide +kernel
theorem own_d_prog_60_method_2_code_19 : decode prog_60_method_2_code 19 = .ok (.getfield 15, 3) := by decide +kernel
theorem own_d_prog_60_method_2_code_22 : decode prog_60_method_2_code 22 = .ok (.iconst 1, 1) := by decide +kernel
theorem own_d_prog_60_method_2_code_23 : decode prog_60_method_2_code 23 = .ok (.isub, 1) := by decide +kernel
theorem own_d_prog_60_method_2_code_24 : decode prog_60_method_2_code 24 = .ok (.dup_x1, 1) := by decide +kernel
theorem own_d_prog_60_method_2_code_25 : decode prog_60_method_2_code 25 = .ok (.putfield 15, 3) := by decide +kernel
theorem own_d_prog_60_method_2_code_28 : decode prog_60_method_2_code 28 = .ok (.aaload, 1) := by decide +kernel
theorem own_d_prog_60_method_2_code_29 : decode prog_60_method_2_code 29 = .ok (.astore_n 1, 1) := by decide +kernel
theorem own_d_prog_60_method_2_code_30 : decode prog_60_method_2_code 30 = .ok (.aload_n 0, 1) := by decide +kernel
theorem own_d_prog_60_method_2_code_31 : decode prog_60_method_2_code 31 = .ok (.getfield 11, 3) := by decide +kernel
theorem own_d_prog_60_method_2_code_34 : decode prog_60_method_2_code 34 = .ok (.aload_n 0, 1) := by decide +kernel
theorem own_d_prog_60_method_2_code_35 : decode prog_60_method_2_code 35 = .ok (.getfield 15, 3) := by decide +kernel
theorem own_d_prog_60_method_2_code_38 : decode prog_60_method_2_code 38 = .ok (.aconst_null, 1) := by decide +kernel
theorem own_d_prog_60_method_2_code_39 : decode prog_60_method_2_code 39 = .ok (.aastore, 1) := by decide +kernel
theorem own_d_prog_60_method_2_code_40 : decode prog_60_method_2_code 40 = .ok (.aload_n 1, 1) := by decide +kernel
theorem own_d_prog_60_method_2_code_41 : decode prog_60_method_2_code 41 = .ok (.areturn, 1) := by decide +kernel
theorem own_pn_ChunkPoolTakePinLaw : plainName "com/example/kinegrid/kinegrid/server/ChunkPoolTakePinLaw" = true := by first | (simp [plainName, overriddenIn]; done) | decide +kernel
theorem own_d_method_2_code_0 : decode method_2_code 0 = .ok (.iload_n 0, 1) := by decide +kernel
theorem own_d_method_2_code_1 : decode method_2_code 1 = .ok (.ifCond .ne 5, 3) := by decide +kernel
theorem own_d_method_2_code_6 : decode method_2_code 6 = .ok (.iload_n 0, 1) := by decide +kernel
theorem own_d_method_2_code_7 : decode method_2_code 7 = .ok (.iconst 1, 1) := by decide +kernel
theorem own_d_method_2_code_8 : decode method_2_code 8 = .ok (.if_icmp .ne 5, 3) := by decide +kernel
theorem own_d_method_2_code_13 : decode method_2_code 13 = .ok (.aload_n 3, 1) := by decide +kernel
theorem own_d_method_2_code_14 : decode method_2_code 14 = .ok (.areturn, 1) := by decide +kernel
theorem own_d_method_2_code_11 : decode method_2_code 11 = .ok (.aload_n 2, 1) := by decide +kernel
theorem own_d_method_2_code_12 : decode method_2_code 12 = .ok (.areturn, 1) := by decide +kernel
theorem own_d_method_2_code_4 : decode method_2_code 4 = .ok (.aload_n 1, 1) := by decide +kernel
theorem own_d_method_2_code_5 : decode method_2_code 5 = .ok (.areturn, 1) := by decide +kernel
theorem own_d_method_3_code_0 : decode method_3_code 0 = .ok (.iload_n 1, 1) := by decide +kernel
theorem own_d_method_3_code_1 : decode method_3_code 1 = .ok (.iload_n 2, 1) := by decide +kernel
theorem own_d_method_3_code_2 : decode method_3_code 2 = .ok (.if_icmp .gt 24, 3) := by decide +kernel
theorem own_d_method_3_code_5 : decode method_3_code 5 = .ok (.aload_n 0, 1) := by decide +kernel
theorem own_d_method_3_code_6 : decode method_3_code 6 = .ok (.iload_n 2, 1) := by decide +kernel
theorem own_d_method_3_code_7 : decode method_3_code 7 = .ok (.iload_n 1, 1) := by decide +kernel
theorem own_d_method_3_code_8 : decode method_3_code 8 = .ok (.isub, 1) := by decide +kernel
theorem own_d_method_3_code_9 : decode method_3_code 9 = .ok (.aload_n 3, 1) := by decide +kernel
theorem own_d_method_3_code_10 : decode method_3_code 10 = .ok (.aload 4, 2) := by decide +kernel
theorem own_d_method_3_code_12 : decode method_3_code 12 = .ok (.aload 5, 2) := by decide +kernel
theorem own_d_method_3_code_14 : decode method_3_code 14 = .ok (.invokestatic 7, 3) := by decide +kernel
theorem own_pd__I_B_B_B__B : parseMethodDescriptor "(I[B[B[B)[B" = some ⟨[.int, (.array .byte), (.array .byte), (.array .byte)], some (.array .byte)⟩ := by decide +kernel
theorem own_d_method_3_code_17 : decode method_3_code 17 = .ok (.if_acmp .ne 7, 3) := by decide +kernel
theorem own_d_method_3_code_20 : decode method_3_code 20 = .ok (.iconst 1, 1) := by decide +kernel
theorem own_d_method_3_code_21 : decode method_3_code 21 = .ok (.goto 4, 3) := by decide +kernel
theorem own_d_method_3_code_25 : decode method_3_code 25 = .ok (.ireturn, 1) := by decide +kernel
theorem own_d_method_3_code_26 : decode method_3_code 26 = .ok (.aload_n 0, 1) := by decide +kernel
theorem own_d_method_3_code_27 : decode method_3_code 27 = .ok (.ifnull 32, 3) := by decide +kernel
theorem own_d_method_3_code_30 : decode method_3_code 30 = .ok (.aload_n 0, 1) := by decide +kernel
theorem own_d_method_3_code_31 : decode method_3_code 31 = .ok (.arraylength, 1) := by decide +kernel
theorem own_d_method_3_code_32 : decode method_3_code 32 = .ok (.sipush 16384, 3) := by decide +kernel
theorem own_d_method_3_code_35 : decode method_3_code 35 = .ok (.if_icmp .ne 24, 3) := by decide +kernel
theorem own_d_method_3_code_38 : decode method_3_code 38 = .ok (.aload_n 0, 1) := by decide +kernel
theorem own_d_method_3_code_39 : decode method_3_code 39 = .ok (.aload_n 3, 1) := by decide +kernel
theorem own_d_method_3_code_40 : decode method_3_code 40 = .ok (.if_acmp .eq 19, 3) := by decide +kernel
theorem own_d_method_3_code_43 : decode method_3_code 43 = .ok (.aload_n 0, 1) := by decide +kernel
theorem own_d_method_3_code_44 : decode method_3_code 44 = .ok (.aload 4, 2) := by decide +kernel
theorem own_d_method_3_code_46 : decode method_3_code 46 = .ok (.if_acmp .eq 13, 3) := by decide +kernel
theorem own_d_method_3_code_49 : decode method_3_code 49 = .ok (.aload_n 0, 1) := by decide +kernel
theorem own_d_method_3_code_50 : decode method_3_code 50 = .ok (.aload 5, 2) := by decide +kernel
theorem own_d_method_3_code_52 : decode method_3_code 52 = .ok (.if_acmp .eq 7, 3) := by decide +kernel
theorem own_d_method_3_code_55 : decode method_3_code 55 = .ok (.iconst 1, 1) := by decide +kernel
theorem own_d_method_3_code_56 : decode method_3_code 56 = .ok (.goto 4, 3) := by decide +kernel
theorem own_d_method_3_code_60 : decode method_3_code 60 = .ok (.ireturn, 1) := by decide +kernel
theorem own_pd___V : parseMethodDescriptor "()V" = some ⟨[], none⟩ := by decide +kernel
theorem own_pd____B : parseMethodDescriptor "()[B" = some ⟨[], some (.array .byte)⟩ := by decide +kernel
theorem own_pd___BII_B_B_B_Z : parseMethodDescriptor "([BII[B[B[B)Z" = some ⟨[(.array .byte), .int, .int, (.array .byte), (.array .byte), (.array .byte)], some .boolean⟩ := by decide +kernel
theorem own_pd___B_V : parseMethodDescriptor "([B)V" = some ⟨[(.array .byte)], none⟩ := by decide +kernel
set_option maxRecDepth 65536 in
set_option maxHeartbeats 40000000 in
theorem own_init (l : Launch) (Z : State) (a0 : Array Value) (hw : ∀ d ∈ tables_1, d.before a0 Z = true) (a1 : Addr) (h0 : Heap) (n0 : Nat) (Sz : n0 ≤ h0.size) (X_a1 : Exa Z h0 a1 "com/example/kinegrid/kinegrid/server/ChunkPool") (F_chunks_a1 : Fld Z h0 a1 "com/example/kinegrid/kinegrid/server/ChunkPool" "chunks" "[[B" .null) (F_count_a1 : Fld Z h0 a1 "com/example/kinegrid/kinegrid/server/ChunkPool" "count" "I" (.int 0)) (g_a1 : n0 ≤ a1) :
    Ctr l Z (⟨"com/example/kinegrid/kinegrid/server/ChunkPool", "<init>", "()V"⟩ : MethodName) prog_60_method_1_code 1 none ({ frames := 1, cells := 1, slots := 64, locals := 12 } : Room) #[(.ref a1)] h0 n0 (fun v h => v = none ∧ Keep h0 h [a1] ∧ ∃ (ca : Addr) (cA : ClassId), h0.size ≤ ca ∧ Fld Z h a1 "com/example/kinegrid/kinegrid/server/ChunkPool" "chunks" "[[B" (.ref ca) ∧ Fld Z h a1 "com/example/kinegrid/kinegrid/server/ChunkPool" "count" "I" (.int 0) ∧ Arv Z h ca cA (.array .byte) 64 (List.replicate 64 .null) .null ∧ OvrA Z cA .byte "[B") := by
  refine Ctr.of (plainFor_of_name own_pn_ChunkPool) ?_
  intro p e s m below meth c C
  refine Go.frame (g' := mkF m 0 #[.val (.ref a1)] []) (by first | (simp [entryFrame, mkF, argsToLocals, Value.category]; done) | rfl) ?_
  have KH := Keep.refl h0 [a1]
  refine OwnW.aloadN C (pc' := 1) own_d_prog_60_method_1_code_0 rfl rfl rfl ?_
  refine OwnW.initO C (pc' := 4) (hw _ (List.mem_of_getElem? (i := 6) rfl)) (hw _ (List.mem_of_getElem? (i := 7) rfl)) (hw _ (List.mem_of_getElem? (i := 8) rfl)) rfl (by decide) (W := 0) (Nat.le_of_eq rfl) (by decide) own_d_prog_60_method_1_code_1 rfl ?_
  refine OwnW.aloadN C (pc' := 5) own_d_prog_60_method_1_code_4 rfl rfl rfl ?_
  refine OwnW.bipush C (pc' := 7) own_d_prog_60_method_1_code_5 rfl (z := 64) rfl ?_
  refine OwnW.newRA C (pc' := 10) (K' := 1) (S' := 64) (Cn := "[B") (ad := "[[B") (ty := .byte) (by decide +kernel) (by decide +kernel) (hw _ (List.mem_of_getElem? (i := 9) rfl)) (hw _ (List.mem_of_getElem? (i := 10) rfl)) (cap := 64) (by decide) (by decide) (by decide) own_d_prog_60_method_1_code_7 rfl rfl rfl (by decide) (by decide) (fun h1 b1 cA_b1 g1 E1 V_b1 X_b1 O_b1 => ?_)
  have ne_a1_b1 : a1 ≠ b1 := Nat.ne_of_lt (Nat.lt_of_lt_of_eq X_a1.lt g1.symm)
  have g_b1 : n0 ≤ b1 := Nat.le_trans Sz (Nat.le_of_eq g1.symm)
  have s_b1 : h0.size ≤ b1 := Nat.le_trans KH.1 (Nat.le_of_eq g1.symm)
  have KH := KH.ext E1
  have Sz := Nat.le_trans Sz E1.1
  have X_a1 := X_a1.ext E1
  have F_chunks_a1 := F_chunks_a1.ext E1
  have F_count_a1 := F_count_a1.ext E1
  have V_b1 : Arv Z h1 b1 cA_b1 (.array .byte) (64 : Int32) (List.replicate 64 .null) .null := V_b1.pad (pad_rep [] .null 64)
  refine OwnW.putF C (pc' := 13) (host := "") (Or.inl (hw _ (List.mem_of_getElem? (i := 11) rfl))) Via.refl F_chunks_a1 X_a1 (Or.inr ⟨(hw _ (List.mem_of_getElem? (i := 12) rfl)), rfl, rfl⟩) (hw _ (List.mem_of_getElem? (i := 1) rfl)) (ty := (.array (.array .byte))) (by decide) rfl rfl g_a1 own_d_prog_60_method_1_code_10 rfl (fun h2 W2 => ?_)
  have KH := KH.wr W2 (Or.inl (List.mem_of_getElem? (i := 0) rfl))
  have Sz := Nat.le_trans Sz (Keep.of_wr W2).1
  have X_a1 := X_a1.wr W2
  have F_chunks_a1 := F_chunks_a1.same W2
  have F_count_a1 := F_count_a1.other W2 (Or.inr (slot_ne (Or.inl (hw _ (List.mem_of_getElem? (i := 20) rfl))) (Or.inr (hw _ (List.mem_of_getElem? (i := 12) rfl))) (by decide) (t := .int) (t' := (.array (.array .byte))) (by decide) (by decide)))
  have X_b1 := X_b1.wr W2
  have V_b1 := V_b1.other W2 (Ne.symm ne_a1_b1)
  exact OwnW.retV C rfl ⟨rfl, KH, b1, cA_b1, s_b1, F_chunks_a1, F_count_a1, V_b1, O_b1⟩ (by decide) (by decide) own_d_prog_60_method_1_code_13
set_option maxRecDepth 65536 in
set_option maxHeartbeats 40000000 in
theorem own_give (l : Launch) (Z : State) (a0 : Array Value) (hw : ∀ d ∈ tables_1, d.before a0 Z = true) (a1 c1 ca : Addr) (k j : Int32) (kk : Nat) (vs : List Value) (cA : ClassId) (h0 : Heap) (n0 : Nat) (X_a1 : Exa Z h0 a1 "com/example/kinegrid/kinegrid/server/ChunkPool") (F_chunks_a1 : Fld Z h0 a1 "com/example/kinegrid/kinegrid/server/ChunkPool" "chunks" "[[B" (.ref ca)) (F_count_a1 : Fld Z h0 a1 "com/example/kinegrid/kinegrid/server/ChunkPool" "count" "I" (.int k)) (V_ca : Arv Z h0 ca cA (.array .byte) 64 vs .null) (g_a1 : n0 ≤ a1) (g_ca : n0 ≤ ca) (ne1 : a1 ≠ ca) (hj : k + 1 = j) (hk : ¬ k < 0 ∧ k < 64) (hkk : k.toNatClampNeg = kk) (hlen : kk < vs.length) (sto : Sto Z h0 ca (.ref c1)) :
    Ctr l Z (⟨"com/example/kinegrid/kinegrid/server/ChunkPool", "give", "([B)V"⟩ : MethodName) prog_60_method_3_code 2 none ({ frames := 0, cells := 0, slots := 0, locals := 0 } : Room) #[(.ref a1), (.ref c1)] h0 n0 (fun v h => v = none ∧ Keep h0 h [a1, ca] ∧ Fld Z h a1 "com/example/kinegrid/kinegrid/server/ChunkPool" "chunks" "[[B" (.ref ca) ∧ Fld Z h a1 "com/example/kinegrid/kinegrid/server/ChunkPool" "count" "I" (.int j) ∧ Arv Z h ca cA (.array .byte) 64 (vs.set kk (.ref c1)) .null) := by
  refine Ctr.of (plainFor_of_name own_pn_ChunkPool) ?_
  intro p e s m below meth c C
  refine Go.frame (g' := mkF m 0 #[.val (.ref a1), .val (.ref c1)] []) (by first | (simp [entryFrame, mkF, argsToLocals, Value.category]; done) | rfl) ?_
  have KH := Keep.refl h0 [a1, ca]
  refine OwnW.aloadN C (pc' := 1) own_d_prog_60_method_3_code_0 rfl rfl rfl ?_
  refine OwnW.getF C (pc' := 4) (host := "") (Or.inl (hw _ (List.mem_of_getElem? (i := 19) rfl))) Via.refl F_count_a1 own_d_prog_60_method_3_code_1 rfl ?_
  refine OwnW.bipush C (pc' := 6) own_d_prog_60_method_3_code_4 rfl (z := 64) rfl ?_
  refine OwnW.icGe C (pcY := 26) (pcN := 9) own_d_prog_60_method_3_code_6 (by decide) rfl rfl (fun hc6 => absurd hk.2 hc6) (fun hc6 => ?_)
  refine OwnW.aloadN C (pc' := 10) own_d_prog_60_method_3_code_9 rfl rfl rfl ?_
  refine OwnW.getF C (pc' := 13) (host := "") (Or.inl (hw _ (List.mem_of_getElem? (i := 11) rfl))) Via.refl F_chunks_a1 own_d_prog_60_method_3_code_10 rfl ?_
  refine OwnW.aloadN C (pc' := 14) own_d_prog_60_method_3_code_13 rfl rfl rfl ?_
  refine OwnW.dup C (pc' := 15) own_d_prog_60_method_3_code_14 rfl rfl ?_
  refine OwnW.getF C (pc' := 18) (host := "") (Or.inl (hw _ (List.mem_of_getElem? (i := 19) rfl))) Via.refl F_count_a1 own_d_prog_60_method_3_code_15 rfl ?_
  refine OwnW.dupX1 C (pc' := 19) own_d_prog_60_method_3_code_18 rfl rfl rfl ?_
  refine OwnW.iconst C (pc' := 20) own_d_prog_60_method_3_code_19 rfl (z := 1) rfl ?_
  refine OwnW.iadd C (pc' := 21) own_d_prog_60_method_3_code_20 rfl ?_
  rw [hj]
  refine OwnW.putF C (pc' := 24) (host := "") (Or.inl (hw _ (List.mem_of_getElem? (i := 19) rfl))) Via.refl F_count_a1 X_a1 (Or.inl (hw _ (List.mem_of_getElem? (i := 20) rfl))) (hw _ (List.mem_of_getElem? (i := 1) rfl)) (ty := .int) (by decide) rfl rfl g_a1 own_d_prog_60_method_3_code_21 rfl (fun h1 W1 => ?_)
  have KH := KH.wr W1 (Or.inl (List.mem_of_getElem? (i := 0) rfl))
  have X_a1 := X_a1.wr W1
  have F_chunks_a1 := F_chunks_a1.other W1 (Or.inr (slot_ne (Or.inr (hw _ (List.mem_of_getElem? (i := 12) rfl))) (Or.inl (hw _ (List.mem_of_getElem? (i := 20) rfl))) (by decide) (t := (.array (.array .byte))) (t' := .int) (by decide) (by decide)))
  have F_count_a1 := F_count_a1.same W1
  have V_ca := V_ca.other W1 (Ne.symm ne1)
  have sto := sto.wr W1
  refine OwnW.aloadN C (pc' := 25) own_d_prog_60_method_3_code_24 rfl rfl rfl ?_
  refine OwnW.aastore C (pc' := 26) V_ca rfl g_ca hk (k := kk) hkk hlen sto rfl own_d_prog_60_method_3_code_25 rfl (fun h2 W2 V_ca => ?_)
  have KH := KH.wr W2 (Or.inl (List.mem_of_getElem? (i := 1) rfl))
  have X_a1 := X_a1.wr W2
  have F_chunks_a1 := F_chunks_a1.other W2 (Or.inl ne1)
  have F_count_a1 := F_count_a1.other W2 (Or.inl ne1)
  exact OwnW.retV C rfl ⟨rfl, KH, F_chunks_a1, F_count_a1, V_ca⟩ (by decide) (by decide) own_d_prog_60_method_3_code_26
set_option maxRecDepth 65536 in
set_option maxHeartbeats 40000000 in
theorem own_take0 (l : Launch) (Z : State) (a0 : Array Value) (hw : ∀ d ∈ tables_1, d.before a0 Z = true) (a1 : Addr) (h0 : Heap) (n0 : Nat) (F_count_a1 : Fld Z h0 a1 "com/example/kinegrid/kinegrid/server/ChunkPool" "count" "I" (.int 0)) :
    Ctr l Z (⟨"com/example/kinegrid/kinegrid/server/ChunkPool", "take", "()[B"⟩ : MethodName) prog_60_method_2_code 2 (some (.array .byte)) ({ frames := 0, cells := 1, slots := 16384, locals := 0 } : Room) #[(.ref a1)] h0 n0 (fun v h => ∃ (b : Addr) (cB : ClassId), v = some (.ref b) ∧ b = h0.size ∧ Ext h0 h ∧ Arv Z h b cB .byte 16384 [] (.int 0) ∧ Exa Z h b "[B") := by
  refine Ctr.of (plainFor_of_name own_pn_ChunkPool) ?_
  intro p e s m below meth c C
  refine Go.frame (g' := mkF m 0 #[.val (.ref a1), .unset] []) (by first | (simp [entryFrame, mkF, argsToLocals, Value.category]; done) | rfl) ?_
  refine OwnW.aloadN C (pc' := 1) own_d_prog_60_method_2_code_0 rfl rfl rfl ?_
  refine OwnW.getF C (pc' := 4) (host := "") (Or.inl (hw _ (List.mem_of_getElem? (i := 19) rfl))) Via.refl F_count_a1 own_d_prog_60_method_2_code_1 rfl ?_
  refine OwnW.ifNe C (pcY := 13) (pcN := 7) own_d_prog_60_method_2_code_4 (by decide) rfl rfl (fun hc4 => absurd rfl hc4) (fun hc4 => ?_)
  refine OwnW.sipush C (pc' := 10) own_d_prog_60_method_2_code_7 rfl (z := 16384) rfl ?_
  refine OwnW.newPE C (pc' := 12) (K' := 1) (S' := 16384) (ad := "[B") (by decide +kernel) (hw _ (List.mem_of_getElem? (i := 13) rfl)) (cap := 16384) (by decide) (by decide) (by decide) own_d_prog_60_method_2_code_10 rfl rfl rfl (by decide) (by decide) (fun h1 b1 cA_b1 g1 E1 V_b1 X_b1 => ?_)
  have ne_a1_b1 : a1 ≠ b1 := Nat.ne_of_lt (Nat.lt_of_lt_of_eq F_count_a1.lt g1.symm)
  have F_count_a1 := F_count_a1.ext E1
  have V_b1 : Arv Z h1 b1 cA_b1 .byte (16384 : Int32) [] (.int (0 : Int32)) := V_b1
  exact OwnW.retA C rfl rfl rfl ⟨b1, cA_b1, rfl, g1, E1, V_b1, X_b1⟩ (by decide) (by decide) own_d_prog_60_method_2_code_12
set_option maxRecDepth 65536 in
set_option maxHeartbeats 40000000 in
theorem own_take (l : Launch) (Z : State) (a0 : Array Value) (hw : ∀ d ∈ tables_1, d.before a0 Z = true) (a1 c1 ca : Addr) (k j : Int32) (kk : Nat) (vs : List Value) (cA : ClassId) (h0 : Heap) (n0 : Nat) (X_a1 : Exa Z h0 a1 "com/example/kinegrid/kinegrid/server/ChunkPool") (F_chunks_a1 : Fld Z h0 a1 "com/example/kinegrid/kinegrid/server/ChunkPool" "chunks" "[[B" (.ref ca)) (F_count_a1 : Fld Z h0 a1 "com/example/kinegrid/kinegrid/server/ChunkPool" "count" "I" (.int k)) (V_ca : Arv Z h0 ca cA (.array .byte) 64 vs .null) (g_a1 : n0 ≤ a1) (g_ca : n0 ≤ ca) (ne1 : a1 ≠ ca) (h0k : ¬ k = 0) (hj : k - 1 = j) (hk : ¬ j < 0 ∧ j < 64) (hkk : j.toNatClampNeg = kk) (hlen : kk < vs.length) (hget : vs.getD j.toNatClampNeg .null = .ref c1) :
    Ctr l Z (⟨"com/example/kinegrid/kinegrid/server/ChunkPool", "take", "()[B"⟩ : MethodName) prog_60_method_2_code 2 (some (.array .byte)) ({ frames := 0, cells := 0, slots := 0, locals := 0 } : Room) #[(.ref a1)] h0 n0 (fun v h => v = some (.ref c1) ∧ Keep h0 h [a1, ca] ∧ Fld Z h a1 "com/example/kinegrid/kinegrid/server/ChunkPool" "chunks" "[[B" (.ref ca) ∧ Fld Z h a1 "com/example/kinegrid/kinegrid/server/ChunkPool" "count" "I" (.int j) ∧ Arv Z h ca cA (.array .byte) 64 (vs.set kk .null) .null) := by
  refine Ctr.of (plainFor_of_name own_pn_ChunkPool) ?_
  intro p e s m below meth c C
  refine Go.frame (g' := mkF m 0 #[.val (.ref a1), .unset] []) (by first | (simp [entryFrame, mkF, argsToLocals, Value.category]; done) | rfl) ?_
  have KH := Keep.refl h0 [a1, ca]
  refine OwnW.aloadN C (pc' := 1) own_d_prog_60_method_2_code_0 rfl rfl rfl ?_
  refine OwnW.getF C (pc' := 4) (host := "") (Or.inl (hw _ (List.mem_of_getElem? (i := 19) rfl))) Via.refl F_count_a1 own_d_prog_60_method_2_code_1 rfl ?_
  refine OwnW.ifNe C (pcY := 13) (pcN := 7) own_d_prog_60_method_2_code_4 (by decide) rfl rfl (fun hc4 => ?_) (fun hc4 => absurd hc4 h0k)
  refine OwnW.aloadN C (pc' := 14) own_d_prog_60_method_2_code_13 rfl rfl rfl ?_
  refine OwnW.getF C (pc' := 17) (host := "") (Or.inl (hw _ (List.mem_of_getElem? (i := 11) rfl))) Via.refl F_chunks_a1 own_d_prog_60_method_2_code_14 rfl ?_
  refine OwnW.aloadN C (pc' := 18) own_d_prog_60_method_2_code_17 rfl rfl rfl ?_
  refine OwnW.dup C (pc' := 19) own_d_prog_60_method_2_code_18 rfl rfl ?_
  refine OwnW.getF C (pc' := 22) (host := "") (Or.inl (hw _ (List.mem_of_getElem? (i := 19) rfl))) Via.refl F_count_a1 own_d_prog_60_method_2_code_19 rfl ?_
  refine OwnW.iconst C (pc' := 23) own_d_prog_60_method_2_code_22 rfl (z := 1) rfl ?_
  refine OwnW.isub C (pc' := 24) own_d_prog_60_method_2_code_23 rfl ?_
  rw [hj]
  refine OwnW.dupX1 C (pc' := 25) own_d_prog_60_method_2_code_24 rfl rfl rfl ?_
  refine OwnW.putF C (pc' := 28) (host := "") (Or.inl (hw _ (List.mem_of_getElem? (i := 19) rfl))) Via.refl F_count_a1 X_a1 (Or.inl (hw _ (List.mem_of_getElem? (i := 20) rfl))) (hw _ (List.mem_of_getElem? (i := 1) rfl)) (ty := .int) (by decide) rfl rfl g_a1 own_d_prog_60_method_2_code_25 rfl (fun h1 W1 => ?_)
  have KH := KH.wr W1 (Or.inl (List.mem_of_getElem? (i := 0) rfl))
  have X_a1 := X_a1.wr W1
  have F_chunks_a1 := F_chunks_a1.other W1 (Or.inr (slot_ne (Or.inr (hw _ (List.mem_of_getElem? (i := 12) rfl))) (Or.inl (hw _ (List.mem_of_getElem? (i := 20) rfl))) (by decide) (t := (.array (.array .byte))) (t' := .int) (by decide) (by decide)))
  have F_count_a1 := F_count_a1.same W1
  have V_ca := V_ca.other W1 (Ne.symm ne1)
  refine OwnW.aaload C (pc' := 29) V_ca rfl hk (v := .ref c1) hget own_d_prog_60_method_2_code_28 rfl ?_
  refine OwnW.astoreN C (pc' := 30) own_d_prog_60_method_2_code_29 rfl rfl (l' := #[.val (.ref a1), .val (.ref c1)]) rfl ?_
  refine OwnW.aloadN C (pc' := 31) own_d_prog_60_method_2_code_30 rfl rfl rfl ?_
  refine OwnW.getF C (pc' := 34) (host := "") (Or.inl (hw _ (List.mem_of_getElem? (i := 11) rfl))) Via.refl F_chunks_a1 own_d_prog_60_method_2_code_31 rfl ?_
  refine OwnW.aloadN C (pc' := 35) own_d_prog_60_method_2_code_34 rfl rfl rfl ?_
  refine OwnW.getF C (pc' := 38) (host := "") (Or.inl (hw _ (List.mem_of_getElem? (i := 19) rfl))) Via.refl F_count_a1 own_d_prog_60_method_2_code_35 rfl ?_
  refine OwnW.aconstNull C (pc' := 39) own_d_prog_60_method_2_code_38 rfl ?_
  refine OwnW.aastore C (pc' := 40) V_ca rfl g_ca hk (k := kk) hkk hlen (Or.inl rfl) rfl own_d_prog_60_method_2_code_39 rfl (fun h2 W2 V_ca => ?_)
  have KH := KH.wr W2 (Or.inl (List.mem_of_getElem? (i := 1) rfl))
  have X_a1 := X_a1.wr W2
  have F_chunks_a1 := F_chunks_a1.other W2 (Or.inl ne1)
  have F_count_a1 := F_count_a1.other W2 (Or.inl ne1)
  refine OwnW.aloadN C (pc' := 41) own_d_prog_60_method_2_code_40 rfl rfl rfl ?_
  exact OwnW.retA C rfl rfl rfl ⟨rfl, KH, F_chunks_a1, F_count_a1, V_ca⟩ (by decide) (by decide) own_d_prog_60_method_2_code_41
set_option maxRecDepth 65536 in
set_option maxHeartbeats 40000000 in
theorem own_pick (l : Launch) (Z : State) (a0 : Array Value) (hw : ∀ d ∈ tables_1, d.before a0 Z = true) (k : Int32) (c0 c1 c2 : Addr) (h0 : Heap) (n0 : Nat)  :
    Ctr l Z (⟨"com/example/kinegrid/kinegrid/server/ChunkPoolTakePinLaw", "pick", "(I[B[B[B)[B"⟩ : MethodName) method_2_code 4 (some (.array .byte)) ({ frames := 0, cells := 0, slots := 0, locals := 0 } : Room) #[(.int k), (.ref c0), (.ref c1), (.ref c2)] h0 n0 (fun v h => v = some (.ref (if k = 0 then c0 else if k = 1 then c1 else c2)) ∧ h = h0) := by
  refine Ctr.of (plainFor_of_name own_pn_ChunkPoolTakePinLaw) ?_
  intro p e s m below meth c C
  refine Go.frame (g' := mkF m 0 #[.val (.int k), .val (.ref c0), .val (.ref c1), .val (.ref c2)] []) (by first | (simp [entryFrame, mkF, argsToLocals, Value.category]; done) | rfl) ?_
  refine OwnW.iloadN C (pc' := 1) own_d_method_2_code_0 rfl rfl ?_
  refine OwnW.ifNe C (pcY := 6) (pcN := 4) own_d_method_2_code_1 (by decide) rfl rfl (fun hc1 => ?_) (fun hc1 => ?_)
  · refine OwnW.iloadN C (pc' := 7) own_d_method_2_code_6 rfl rfl ?_
    refine OwnW.iconst C (pc' := 8) own_d_method_2_code_7 rfl (z := 1) rfl ?_
    refine OwnW.icNe C (pcY := 13) (pcN := 11) own_d_method_2_code_8 (by decide) rfl rfl (fun hc8 => ?_) (fun hc8 => ?_)
    · refine OwnW.aloadN C (pc' := 14) own_d_method_2_code_13 rfl rfl rfl ?_
      exact OwnW.retA C rfl rfl rfl ⟨by rw [if_neg hc1, if_neg hc8], rfl⟩ (by decide) (by decide) own_d_method_2_code_14
    · refine OwnW.aloadN C (pc' := 12) own_d_method_2_code_11 rfl rfl rfl ?_
      exact OwnW.retA C rfl rfl rfl ⟨by rw [if_neg hc1, if_pos hc8], rfl⟩ (by decide) (by decide) own_d_method_2_code_12
  · refine OwnW.aloadN C (pc' := 5) own_d_method_2_code_4 rfl rfl rfl ?_
    exact OwnW.retA C rfl rfl rfl ⟨by rw [if_pos hc1], rfl⟩ (by decide) (by decide) own_d_method_2_code_5
set_option maxRecDepth 65536 in
set_option maxHeartbeats 40000000 in
theorem own_checkA (l : Launch) (Z : State) (a0 : Array Value) (hw : ∀ d ∈ tables_1, d.before a0 Z = true) (t : Addr) (i n : Int32) (c0 c1 c2 : Addr) (h0 : Heap) (n0 : Nat) (hin : ¬ n < i) (hp : (if (n - i) = 0 then c0 else if (n - i) = 1 then c1 else c2) = t) :
    Ctr l Z (⟨"com/example/kinegrid/kinegrid/server/ChunkPoolTakePinLaw", "check", "([BII[B[B[B)Z"⟩ : MethodName) method_3_code 6 (some .boolean) ({ frames := 1, cells := 0, slots := 0, locals := 16 } : Room) #[(.ref t), (.int i), (.int n), (.ref c0), (.ref c1), (.ref c2)] h0 n0 (fun v h => v = some (.int 1) ∧ h = h0) := by
  refine Ctr.of (plainFor_of_name own_pn_ChunkPoolTakePinLaw) ?_
  intro p e s m below meth c C
  refine Go.frame (g' := mkF m 0 #[.val (.ref t), .val (.int i), .val (.int n), .val (.ref c0), .val (.ref c1), .val (.ref c2)] []) (by first | (simp [entryFrame, mkF, argsToLocals, Value.category]; done) | rfl) ?_
  refine OwnW.iloadN C (pc' := 1) own_d_method_3_code_0 rfl rfl ?_
  refine OwnW.iloadN C (pc' := 2) own_d_method_3_code_1 rfl rfl ?_
  refine OwnW.icGt C (pcY := 26) (pcN := 5) own_d_method_3_code_2 (by decide) rfl rfl (fun hc2 => absurd hc2 hin) (fun hc2 => ?_)
  refine OwnW.aloadN C (pc' := 6) own_d_method_3_code_5 rfl rfl rfl ?_
  refine OwnW.iloadN C (pc' := 7) own_d_method_3_code_6 rfl rfl ?_
  refine OwnW.iloadN C (pc' := 8) own_d_method_3_code_7 rfl rfl ?_
  refine OwnW.isub C (pc' := 9) own_d_method_3_code_8 rfl ?_
  refine OwnW.aloadN C (pc' := 10) own_d_method_3_code_9 rfl rfl rfl ?_
  refine OwnW.aload C (pc' := 12) own_d_method_3_code_10 rfl rfl rfl ?_
  refine OwnW.aload C (pc' := 14) own_d_method_3_code_12 rfl rfl rfl ?_
  refine OwnW.callS C (pc' := 17) (y := (⟨"com/example/kinegrid/kinegrid/server/ChunkPoolTakePinLaw", "pick", "(I[B[B[B)[B"⟩ : MethodName)) (W := 1) (argsL := [(.int (n - i)), (.ref c0), (.ref c1), (.ref c2)]) (rest := [(.ref t)]) (hw _ (List.mem_of_getElem? (i := 31) rfl)) (hw _ (List.mem_of_getElem? (i := 32) rfl)) (hw _ (List.mem_of_getElem? (i := 29) rfl)) (hw _ (List.mem_of_getElem? (i := 33) rfl)) (by decide) (own_pick l Z a0 hw (n - i) c0 c1 c2 h0 n0) (K' := 0) (S' := 0) (by decide) (by decide) rfl own_pd__I_B_B_B__B rfl (Nat.le_of_eq rfl) rfl rfl (by decide) (by decide) rfl own_d_method_3_code_14 rfl (fun v h' hq => ?_)
  obtain ⟨rfl, hh⟩ := hq
  refine Go.at (st' := [(.ref (if (n - i) = 0 then c0 else if (n - i) = 1 then c1 else c2)), (.ref t)]) rfl ?_
  refine Go.heap hh ?_
  refine OwnW.acNe C (pcY := 24) (pcN := 20) rfl rfl own_d_method_3_code_17 (by decide) rfl rfl (fun hc17 => absurd (congrArg Value.ref hp.symm) hc17) (fun hc17 => ?_)
  refine OwnW.iconst C (pc' := 21) own_d_method_3_code_20 rfl (z := 1) rfl ?_
  refine OwnW.goto C (pc' := 25) own_d_method_3_code_21 (by decide) rfl ?_
  exact OwnW.retN C (t := .boolean) (z := (1 : Int32)) rfl (by simp) rfl ⟨rfl, rfl⟩ (by decide) (by decide) own_d_method_3_code_25
set_option maxRecDepth 65536 in
set_option maxHeartbeats 40000000 in
theorem own_checkB (l : Launch) (Z : State) (a0 : Array Value) (hw : ∀ d ∈ tables_1, d.before a0 Z = true) (t : Addr) (i n : Int32) (c0 c1 c2 : Addr) (cB : ClassId) (h0 : Heap) (n0 : Nat) (hin : n < i) (V_t : Arv Z h0 t cB .byte 16384 [] (.int 0)) (m0 : t ≠ c0) (m1 : t ≠ c1) (m2 : t ≠ c2) :
    Ctr l Z (⟨"com/example/kinegrid/kinegrid/server/ChunkPoolTakePinLaw", "check", "([BII[B[B[B)Z"⟩ : MethodName) method_3_code 6 (some .boolean) ({ frames := 1, cells := 0, slots := 0, locals := 16 } : Room) #[(.ref t), (.int i), (.int n), (.ref c0), (.ref c1), (.ref c2)] h0 n0 (fun v h => v = some (.int 1) ∧ h = h0) := by
  refine Ctr.of (plainFor_of_name own_pn_ChunkPoolTakePinLaw) ?_
  intro p e s m below meth c C
  refine Go.frame (g' := mkF m 0 #[.val (.ref t), .val (.int i), .val (.int n), .val (.ref c0), .val (.ref c1), .val (.ref c2)] []) (by first | (simp [entryFrame, mkF, argsToLocals, Value.category]; done) | rfl) ?_
  refine OwnW.iloadN C (pc' := 1) own_d_method_3_code_0 rfl rfl ?_
  refine OwnW.iloadN C (pc' := 2) own_d_method_3_code_1 rfl rfl ?_
  refine OwnW.icGt C (pcY := 26) (pcN := 5) own_d_method_3_code_2 (by decide) rfl rfl (fun hc2 => ?_) (fun hc2 => absurd hin hc2)
  refine OwnW.aloadN C (pc' := 27) own_d_method_3_code_26 rfl rfl rfl ?_
  refine OwnW.ifnull C (pcY := 59) (pcN := 30) rfl own_d_method_3_code_27 (by decide) rfl rfl (fun hc27 => absurd hc27 nofun) (fun hc27 => ?_)
  refine OwnW.aloadN C (pc' := 31) own_d_method_3_code_30 rfl rfl rfl ?_
  refine OwnW.alen C (pc' := 32) V_t own_d_method_3_code_31 rfl ?_
  refine OwnW.sipush C (pc' := 35) own_d_method_3_code_32 rfl (z := 16384) rfl ?_
  refine OwnW.icNe C (pcY := 59) (pcN := 38) own_d_method_3_code_35 (by decide) rfl rfl (fun hc35 => absurd rfl hc35) (fun hc35 => ?_)
  refine OwnW.aloadN C (pc' := 39) own_d_method_3_code_38 rfl rfl rfl ?_
  refine OwnW.aloadN C (pc' := 40) own_d_method_3_code_39 rfl rfl rfl ?_
  refine OwnW.acEq C (pcY := 59) (pcN := 43) rfl rfl own_d_method_3_code_40 (by decide) rfl rfl (fun hc40 => absurd (Value.ref.inj hc40) m0) (fun hc40 => ?_)
  refine OwnW.aloadN C (pc' := 44) own_d_method_3_code_43 rfl rfl rfl ?_
  refine OwnW.aload C (pc' := 46) own_d_method_3_code_44 rfl rfl rfl ?_
  refine OwnW.acEq C (pcY := 59) (pcN := 49) rfl rfl own_d_method_3_code_46 (by decide) rfl rfl (fun hc46 => absurd (Value.ref.inj hc46) m1) (fun hc46 => ?_)
  refine OwnW.aloadN C (pc' := 50) own_d_method_3_code_49 rfl rfl rfl ?_
  refine OwnW.aload C (pc' := 52) own_d_method_3_code_50 rfl rfl rfl ?_
  refine OwnW.acEq C (pcY := 59) (pcN := 55) rfl rfl own_d_method_3_code_52 (by decide) rfl rfl (fun hc52 => absurd (Value.ref.inj hc52) m2) (fun hc52 => ?_)
  refine OwnW.iconst C (pc' := 56) own_d_method_3_code_55 rfl (z := 1) rfl ?_
  refine OwnW.goto C (pc' := 60) own_d_method_3_code_56 (by decide) rfl ?_
  exact OwnW.retN C (t := .boolean) (z := (1 : Int32)) rfl (by simp) rfl ⟨rfl, rfl⟩ (by decide) (by decide) own_d_method_3_code_60
theorem own_c4 (i0 : Int32) : i0 &&& (3 : Int32) = 0 ∨ i0 &&& (3 : Int32) = 1 ∨ i0 &&& (3 : Int32) = 2 ∨ i0 &&& (3 : Int32) = 3 := by
  have h := c_mask i0 3 2 (by decide) (by decide)
  have : (i0 &&& (3 : Int32)).toInt = 0 ∨ (i0 &&& (3 : Int32)).toInt = 1 ∨ (i0 &&& (3 : Int32)).toInt = 2 ∨ (i0 &&& (3 : Int32)).toInt = 3 := by omega
  rcases this with q | q | q | q
  · exact Or.inl (Int32.toInt_inj.mp q)
  · exact Or.inr (Or.inl (Int32.toInt_inj.mp q))
  · exact Or.inr (Or.inr (Or.inl (Int32.toInt_inj.mp q)))
  · exact Or.inr (Or.inr (Or.inr ((Int32.toInt_inj.mp q))))
set_option maxRecDepth 65536 in
set_option maxHeartbeats 40000000 in
theorem own_law (l : Launch) (Z : State) (a0 : Array Value) (hw : ∀ d ∈ tables_1, d.before a0 Z = true) (i0 i1 : Int32) (h0 : Heap) (n0 : Nat) (O : Old Z n0 h0) (Sz : n0 ≤ h0.size) :
    Ctr l Z x code maxLocals ret room_1 #[(.int i0), (.int i1)] h0 n0 (fun v _ => v = some (.int 1)) := by
  refine Ctr.of (plainFor_of_name own_pn_ChunkPoolTakePinLaw) ?_
  intro p e s m below meth c C
  refine Go.frame (g' := mkF m 0 #[.val (.int i0), .val (.int i1), .unset, .unset, .unset, .unset, .unset, .unset, .unset, .unset, .unset, .unset] []) (by first | (simp [entryFrame, mkF, argsToLocals, Value.category, maxLocals]; done) | rfl) ?_
  refine OwnW.newO C (pc' := 3) (K' := 1) (S' := 2) (hw _ (List.mem_of_getElem? (i := 0) rfl)) (hw _ (List.mem_of_getElem? (i := 1) rfl)) (hw _ (List.mem_of_getElem? (i := 2) rfl)) at_0 rfl rfl rfl (by decide) (by decide) (fun h1 b1 g1 E1 X_b1 D1 => ?_)
  have g_b1 : n0 ≤ b1 := Nat.le_trans Sz (Nat.le_of_eq g1.symm)
  have O := O.ext E1
  have Sz := Nat.le_trans Sz E1.1
  have F_chunks_b1 : Fld Z h1 b1 "com/example/kinegrid/kinegrid/server/ChunkPool" "chunks" "[[B" .null := D1 (Or.inr (hw _ (List.mem_of_getElem? (i := 12) rfl))) (ty := (.array (.array .byte))) (by decide)
  have F_count_b1 : Fld Z h1 b1 "com/example/kinegrid/kinegrid/server/ChunkPool" "count" "I" (.int (0 : Int32)) := D1 (Or.inl (hw _ (List.mem_of_getElem? (i := 20) rfl))) (ty := .int) (by decide)
  refine OwnW.dup C (pc' := 4) at_3 rfl rfl ?_
  refine OwnW.callX C (pc' := 7) (y := (⟨"com/example/kinegrid/kinegrid/server/ChunkPool", "<init>", "()V"⟩ : MethodName)) (W := 1) (argsL := []) (rest := [(.ref b1)]) rfl (hw _ (List.mem_of_getElem? (i := 3) rfl)) (hw _ (List.mem_of_getElem? (i := 4) rfl)) (hw _ (List.mem_of_getElem? (i := 2) rfl)) (hw _ (List.mem_of_getElem? (i := 5) rfl)) (by decide) (own_init l Z a0 hw b1 h1 n0 Sz X_b1 F_chunks_b1 F_count_b1 g_b1) (K' := 2) (S' := 66) (by decide) (by decide) rfl own_pd___V rfl (Nat.le_of_eq rfl) rfl rfl (by decide) (by decide) rfl at_4 rfl (fun v h2 hq => ?_)
  obtain ⟨rfl, KK, ca, cA, hca, F_chunks_b1', F_count_b1', V_ca', OV⟩ := hq
  refine Go.at (st' := [(.ref b1)]) rfl ?_
  have ne_b1_ca : b1 ≠ ca := Nat.ne_of_lt (Nat.lt_of_lt_of_le X_b1.lt hca)
  have g_ca : n0 ≤ ca := Nat.le_trans Sz hca
  have O := O.keep KK (allS (g_b1) all0)
  have Sz := Nat.le_trans Sz KK.1
  have X_b1 := X_b1.keep KK
  have F_chunks_b1 := F_chunks_b1'
  have F_count_b1 := F_count_b1'
  have V_ca := V_ca'
  refine OwnW.astoreN C (pc' := 8) at_7 rfl rfl (l' := #[.val (.int i0), .val (.int i1), .val (.ref b1), .unset, .unset, .unset, .unset, .unset, .unset, .unset, .unset, .unset]) rfl ?_
  refine OwnW.iconst C (pc' := 9) at_8 rfl (z := 1) rfl ?_
  refine OwnW.newPE C (pc' := 11) (K' := 3) (S' := 67) (ad := "[B") (by decide +kernel) (hw _ (List.mem_of_getElem? (i := 13) rfl)) (cap := 1) (by decide) (by decide) (by decide) at_9 rfl rfl rfl (by decide) (by decide) (fun h3 b3 cA_b3 g3 E3 V_b3 X_b3 => ?_)
  have ne_b1_b3 : b1 ≠ b3 := Nat.ne_of_lt (Nat.lt_of_lt_of_eq X_b1.lt g3.symm)
  have ne_ca_b3 : ca ≠ b3 := Nat.ne_of_lt (Nat.lt_of_lt_of_eq V_ca.lt g3.symm)
  have g_b3 : n0 ≤ b3 := Nat.le_trans Sz (Nat.le_of_eq g3.symm)
  have O := O.ext E3
  have Sz := Nat.le_trans Sz E3.1
  have X_b1 := X_b1.ext E3
  have F_chunks_b1 := F_chunks_b1.ext E3
  have F_count_b1 := F_count_b1.ext E3
  have V_ca := V_ca.ext E3
  have V_b3 : Arv Z h3 b3 cA_b3 .byte (1 : Int32) [(.int (0 : Int32))] (.int (0 : Int32)) := V_b3.pad (pad_rep [] (.int (0 : Int32)) 1)
  refine OwnW.astoreN C (pc' := 12) at_11 rfl rfl (l' := #[.val (.int i0), .val (.int i1), .val (.ref b1), .val (.ref b3), .unset, .unset, .unset, .unset, .unset, .unset, .unset, .unset]) rfl ?_
  refine OwnW.iconst C (pc' := 13) at_12 rfl (z := 2) rfl ?_
  refine OwnW.newPE C (pc' := 15) (K' := 4) (S' := 69) (ad := "[B") (by decide +kernel) (hw _ (List.mem_of_getElem? (i := 13) rfl)) (cap := 2) (by decide) (by decide) (by decide) at_13 rfl rfl rfl (by decide) (by decide) (fun h4 b4 cA_b4 g4 E4 V_b4 X_b4 => ?_)
  have ne_b1_b4 : b1 ≠ b4 := Nat.ne_of_lt (Nat.lt_of_lt_of_eq X_b1.lt g4.symm)
  have ne_ca_b4 : ca ≠ b4 := Nat.ne_of_lt (Nat.lt_of_lt_of_eq V_ca.lt g4.symm)
  have ne_b3_b4 : b3 ≠ b4 := Nat.ne_of_lt (Nat.lt_of_lt_of_eq X_b3.lt g4.symm)
  have g_b4 : n0 ≤ b4 := Nat.le_trans Sz (Nat.le_of_eq g4.symm)
  have O := O.ext E4
  have Sz := Nat.le_trans Sz E4.1
  have X_b1 := X_b1.ext E4
  have F_chunks_b1 := F_chunks_b1.ext E4
  have F_count_b1 := F_count_b1.ext E4
  have V_ca := V_ca.ext E4
  have X_b3 := X_b3.ext E4
  have V_b3 := V_b3.ext E4
  have V_b4 : Arv Z h4 b4 cA_b4 .byte (2 : Int32) [(.int (0 : Int32)), (.int (0 : Int32))] (.int (0 : Int32)) := V_b4.pad (pad_rep [] (.int (0 : Int32)) 2)
  refine OwnW.astore C (pc' := 17) at_15 rfl rfl (l' := #[.val (.int i0), .val (.int i1), .val (.ref b1), .val (.ref b3), .val (.ref b4), .unset, .unset, .unset, .unset, .unset, .unset, .unset]) rfl ?_
  refine OwnW.iconst C (pc' := 18) at_17 rfl (z := 3) rfl ?_
  refine OwnW.newPE C (pc' := 20) (K' := 5) (S' := 72) (ad := "[B") (by decide +kernel) (hw _ (List.mem_of_getElem? (i := 13) rfl)) (cap := 3) (by decide) (by decide) (by decide) at_18 rfl rfl rfl (by decide) (by decide) (fun h5 b5 cA_b5 g5 E5 V_b5 X_b5 => ?_)
  have ne_b1_b5 : b1 ≠ b5 := Nat.ne_of_lt (Nat.lt_of_lt_of_eq X_b1.lt g5.symm)
  have ne_ca_b5 : ca ≠ b5 := Nat.ne_of_lt (Nat.lt_of_lt_of_eq V_ca.lt g5.symm)
  have ne_b3_b5 : b3 ≠ b5 := Nat.ne_of_lt (Nat.lt_of_lt_of_eq X_b3.lt g5.symm)
  have ne_b4_b5 : b4 ≠ b5 := Nat.ne_of_lt (Nat.lt_of_lt_of_eq X_b4.lt g5.symm)
  have g_b5 : n0 ≤ b5 := Nat.le_trans Sz (Nat.le_of_eq g5.symm)
  have O := O.ext E5
  have Sz := Nat.le_trans Sz E5.1
  have X_b1 := X_b1.ext E5
  have F_chunks_b1 := F_chunks_b1.ext E5
  have F_count_b1 := F_count_b1.ext E5
  have V_ca := V_ca.ext E5
  have X_b3 := X_b3.ext E5
  have V_b3 := V_b3.ext E5
  have X_b4 := X_b4.ext E5
  have V_b4 := V_b4.ext E5
  have V_b5 : Arv Z h5 b5 cA_b5 .byte (3 : Int32) [(.int (0 : Int32)), (.int (0 : Int32)), (.int (0 : Int32))] (.int (0 : Int32)) := V_b5.pad (pad_rep [] (.int (0 : Int32)) 3)
  refine OwnW.astore C (pc' := 22) at_20 rfl rfl (l' := #[.val (.int i0), .val (.int i1), .val (.ref b1), .val (.ref b3), .val (.ref b4), .val (.ref b5), .unset, .unset, .unset, .unset, .unset, .unset]) rfl ?_
  refine OwnW.iloadN C (pc' := 23) at_22 rfl rfl ?_
  refine OwnW.iconst C (pc' := 24) at_23 rfl (z := 3) rfl ?_
  refine OwnW.iand C (pc' := 25) at_24 rfl ?_
  refine OwnW.istore C (pc' := 27) at_25 rfl (l' := #[.val (.int i0), .val (.int i1), .val (.ref b1), .val (.ref b3), .val (.ref b4), .val (.ref b5), .val (.int (i0 &&& (3 : Int32))), .unset, .unset, .unset, .unset, .unset]) rfl ?_
  rcases own_c4 i0 with hk | hk | hk | hk
  · rw [hk]
    refine OwnW.iload C (pc' := 29) at_27 rfl rfl ?_
    refine OwnW.iconst C (pc' := 30) at_29 rfl (z := 1) rfl ?_
    refine OwnW.icLt C (pcY := 38) (pcN := 33) at_30 (by decide) rfl rfl (fun hc30 => ?_) (fun hc30 => absurd (by decide) hc30)
    refine OwnW.iload C (pc' := 40) at_38 rfl rfl ?_
    refine OwnW.iconst C (pc' := 41) at_40 rfl (z := 2) rfl ?_
    refine OwnW.icLt C (pcY := 50) (pcN := 44) at_41 (by decide) rfl rfl (fun hc41 => ?_) (fun hc41 => absurd (by decide) hc41)
    refine OwnW.iload C (pc' := 52) at_50 rfl rfl ?_
    refine OwnW.iconst C (pc' := 53) at_52 rfl (z := 3) rfl ?_
    refine OwnW.icLt C (pcY := 62) (pcN := 56) at_53 (by decide) rfl rfl (fun hc53 => ?_) (fun hc53 => absurd (by decide) hc53)
    refine OwnW.aloadN C (pc' := 63) at_62 rfl rfl rfl ?_
    refine OwnW.callV C (pc' := 66) (y := (⟨"com/example/kinegrid/kinegrid/server/ChunkPool", "take", "()[B"⟩ : MethodName)) (z := (⟨"com/example/kinegrid/kinegrid/server/ChunkPool", "take", "()[B"⟩ : MethodName)) (W := 0) (argsL := []) (rest := []) (hw _ (List.mem_of_getElem? (i := 14) rfl)) (hw _ (List.mem_of_getElem? (i := 15) rfl)) (notFace_of_selects (args := #[]) (mvT C.2.1 (hw _ (List.mem_of_getElem? (i := 17) rfl)))) (hw _ (List.mem_of_getElem? (i := 17) rfl)) (hw _ (List.mem_of_getElem? (i := 16) rfl)) (hw _ (List.mem_of_getElem? (i := 2) rfl)) (hw _ (List.mem_of_getElem? (i := 18) rfl)) X_b1 (by decide) (own_take0 l Z a0 hw b1 h5 n0 F_count_b1) (K' := 6) (S' := 16456) (by decide) (by decide) rfl own_pd____B rfl (Nat.le_of_eq rfl) rfl rfl (by decide) (by decide) rfl at_63 rfl (fun v h6 hq => ?_)
    obtain ⟨b6, cA_b6, rfl, g6, E6, V_b6, X_b6⟩ := hq
    refine Go.at (st' := [(.ref b6)]) rfl ?_
    have ne_b1_b6 : b1 ≠ b6 := Nat.ne_of_lt (Nat.lt_of_lt_of_eq X_b1.lt g6.symm)
    have ne_ca_b6 : ca ≠ b6 := Nat.ne_of_lt (Nat.lt_of_lt_of_eq V_ca.lt g6.symm)
    have ne_b3_b6 : b3 ≠ b6 := Nat.ne_of_lt (Nat.lt_of_lt_of_eq X_b3.lt g6.symm)
    have ne_b4_b6 : b4 ≠ b6 := Nat.ne_of_lt (Nat.lt_of_lt_of_eq X_b4.lt g6.symm)
    have ne_b5_b6 : b5 ≠ b6 := Nat.ne_of_lt (Nat.lt_of_lt_of_eq X_b5.lt g6.symm)
    have g_b6 : n0 ≤ b6 := Nat.le_trans Sz (Nat.le_of_eq g6.symm)
    have O := O.ext E6
    have Sz := Nat.le_trans Sz E6.1
    have X_b1 := X_b1.ext E6
    have F_chunks_b1 := F_chunks_b1.ext E6
    have F_count_b1 := F_count_b1.ext E6
    have V_ca := V_ca.ext E6
    have X_b3 := X_b3.ext E6
    have V_b3 := V_b3.ext E6
    have X_b4 := X_b4.ext E6
    have V_b4 := V_b4.ext E6
    have X_b5 := X_b5.ext E6
    have V_b5 := V_b5.ext E6
    refine OwnW.astore C (pc' := 68) at_66 rfl rfl (l' := #[.val (.int i0), .val (.int i1), .val (.ref b1), .val (.ref b3), .val (.ref b4), .val (.ref b5), .val (.int (0 : Int32)), .val (.ref b6), .unset, .unset, .unset, .unset]) rfl ?_
    refine OwnW.iloadN C (pc' := 69) at_68 rfl rfl ?_
    refine OwnW.iconst C (pc' := 70) at_69 rfl (z := 1) rfl ?_
    refine OwnW.iand C (pc' := 71) at_70 rfl ?_
    refine OwnW.ifEq C (pcY := 78) (pcN := 74) at_71 (by decide) rfl rfl (fun hc71 => ?_) (fun hc71 => ?_)
    · refine OwnW.iconst C (pc' := 79) at_78 rfl (z := 0) rfl ?_
      refine OwnW.istore C (pc' := 81) at_79 rfl (l' := #[.val (.int i0), .val (.int i1), .val (.ref b1), .val (.ref b3), .val (.ref b4), .val (.ref b5), .val (.int (0 : Int32)), .val (.ref b6), .val (.int (0 : Int32)), .unset, .unset, .unset]) rfl ?_
      refine OwnW.iload C (pc' := 83) at_81 rfl rfl ?_
      refine OwnW.ifEq C (pcY := 107) (pcN := 86) at_83 (by decide) rfl rfl (fun hc83 => ?_) (fun hc83 => absurd rfl hc83)
      refine OwnW.aloadN C (pc' := 108) at_107 rfl rfl rfl ?_
      refine OwnW.callV C (pc' := 111) (y := (⟨"com/example/kinegrid/kinegrid/server/ChunkPool", "take", "()[B"⟩ : MethodName)) (z := (⟨"com/example/kinegrid/kinegrid/server/ChunkPool", "take", "()[B"⟩ : MethodName)) (W := 0) (argsL := []) (rest := []) (hw _ (List.mem_of_getElem? (i := 14) rfl)) (hw _ (List.mem_of_getElem? (i := 15) rfl)) (notFace_of_selects (args := #[]) (mvT C.2.1 (hw _ (List.mem_of_getElem? (i := 17) rfl)))) (hw _ (List.mem_of_getElem? (i := 17) rfl)) (hw _ (List.mem_of_getElem? (i := 16) rfl)) (hw _ (List.mem_of_getElem? (i := 2) rfl)) (hw _ (List.mem_of_getElem? (i := 18) rfl)) X_b1 (by decide) (own_take0 l Z a0 hw b1 h6 n0 F_count_b1) (K' := 7) (S' := 32840) (by decide) (by decide) rfl own_pd____B rfl (Nat.le_of_eq rfl) rfl rfl (by decide) (by decide) rfl at_108 rfl (fun v h7 hq => ?_)
      obtain ⟨b7, cA_b7, rfl, g7, E7, V_b7, X_b7⟩ := hq
      refine Go.at (st' := [(.ref b7)]) rfl ?_
      have ne_b1_b7 : b1 ≠ b7 := Nat.ne_of_lt (Nat.lt_of_lt_of_eq X_b1.lt g7.symm)
      have ne_ca_b7 : ca ≠ b7 := Nat.ne_of_lt (Nat.lt_of_lt_of_eq V_ca.lt g7.symm)
      have ne_b3_b7 : b3 ≠ b7 := Nat.ne_of_lt (Nat.lt_of_lt_of_eq X_b3.lt g7.symm)
      have ne_b4_b7 : b4 ≠ b7 := Nat.ne_of_lt (Nat.lt_of_lt_of_eq X_b4.lt g7.symm)
      have ne_b5_b7 : b5 ≠ b7 := Nat.ne_of_lt (Nat.lt_of_lt_of_eq X_b5.lt g7.symm)
      have ne_b6_b7 : b6 ≠ b7 := Nat.ne_of_lt (Nat.lt_of_lt_of_eq X_b6.lt g7.symm)
      have g_b7 : n0 ≤ b7 := Nat.le_trans Sz (Nat.le_of_eq g7.symm)
      have O := O.ext E7
      have Sz := Nat.le_trans Sz E7.1
      have X_b1 := X_b1.ext E7
      have F_chunks_b1 := F_chunks_b1.ext E7
      have F_count_b1 := F_count_b1.ext E7
      have V_ca := V_ca.ext E7
      have X_b3 := X_b3.ext E7
      have V_b3 := V_b3.ext E7
      have X_b4 := X_b4.ext E7
      have V_b4 := V_b4.ext E7
      have X_b5 := X_b5.ext E7
      have V_b5 := V_b5.ext E7
      have X_b6 := X_b6.ext E7
      have V_b6 := V_b6.ext E7
      refine OwnW.astore C (pc' := 113) at_111 rfl rfl (l' := #[.val (.int i0), .val (.int i1), .val (.ref b1), .val (.ref b3), .val (.ref b4), .val (.ref b5), .val (.int (0 : Int32)), .val (.ref b6), .val (.int (0 : Int32)), .val (.ref b7), .unset, .unset]) rfl ?_
      refine OwnW.aloadN C (pc' := 114) at_113 rfl rfl rfl ?_
      refine OwnW.callV C (pc' := 117) (y := (⟨"com/example/kinegrid/kinegrid/server/ChunkPool", "take", "()[B"⟩ : MethodName)) (z := (⟨"com/example/kinegrid/kinegrid/server/ChunkPool", "take", "()[B"⟩ : MethodName)) (W := 0) (argsL := []) (rest := []) (hw _ (List.mem_of_getElem? (i := 14) rfl)) (hw _ (List.mem_of_getElem? (i := 15) rfl)) (notFace_of_selects (args := #[]) (mvT C.2.1 (hw _ (List.mem_of_getElem? (i := 17) rfl)))) (hw _ (List.mem_of_getElem? (i := 17) rfl)) (hw _ (List.mem_of_getElem? (i := 16) rfl)) (hw _ (List.mem_of_getElem? (i := 2) rfl)) (hw _ (List.mem_of_getElem? (i := 18) rfl)) X_b1 (by decide) (own_take0 l Z a0 hw b1 h7 n0 F_count_b1) (K' := 8) (S' := 49224) (by decide) (by decide) rfl own_pd____B rfl (Nat.le_of_eq rfl) rfl rfl (by decide) (by decide) rfl at_114 rfl (fun v h8 hq => ?_)
      obtain ⟨b8, cA_b8, rfl, g8, E8, V_b8, X_b8⟩ := hq
      refine Go.at (st' := [(.ref b8)]) rfl ?_
      have ne_b1_b8 : b1 ≠ b8 := Nat.ne_of_lt (Nat.lt_of_lt_of_eq X_b1.lt g8.symm)
      have ne_ca_b8 : ca ≠ b8 := Nat.ne_of_lt (Nat.lt_of_lt_of_eq V_ca.lt g8.symm)
      have ne_b3_b8 : b3 ≠ b8 := Nat.ne_of_lt (Nat.lt_of_lt_of_eq X_b3.lt g8.symm)
      have ne_b4_b8 : b4 ≠ b8 := Nat.ne_of_lt (Nat.lt_of_lt_of_eq X_b4.lt g8.symm)
      have ne_b5_b8 : b5 ≠ b8 := Nat.ne_of_lt (Nat.lt_of_lt_of_eq X_b5.lt g8.symm)
      have ne_b6_b8 : b6 ≠ b8 := Nat.ne_of_lt (Nat.lt_of_lt_of_eq X_b6.lt g8.symm)
      have ne_b7_b8 : b7 ≠ b8 := Nat.ne_of_lt (Nat.lt_of_lt_of_eq X_b7.lt g8.symm)
      have g_b8 : n0 ≤ b8 := Nat.le_trans Sz (Nat.le_of_eq g8.symm)
      have O := O.ext E8
      have Sz := Nat.le_trans Sz E8.1
      have X_b1 := X_b1.ext E8
      have F_chunks_b1 := F_chunks_b1.ext E8
      have F_count_b1 := F_count_b1.ext E8
      have V_ca := V_ca.ext E8
      have X_b3 := X_b3.ext E8
      have V_b3 := V_b3.ext E8
      have X_b4 := X_b4.ext E8
      have V_b4 := V_b4.ext E8
      have X_b5 := X_b5.ext E8
      have V_b5 := V_b5.ext E8
      have X_b6 := X_b6.ext E8
      have V_b6 := V_b6.ext E8
      have X_b7 := X_b7.ext E8
      have V_b7 := V_b7.ext E8
      refine OwnW.astore C (pc' := 119) at_117 rfl rfl (l' := #[.val (.int i0), .val (.int i1), .val (.ref b1), .val (.ref b3), .val (.ref b4), .val (.ref b5), .val (.int (0 : Int32)), .val (.ref b6), .val (.int (0 : Int32)), .val (.ref b7), .val (.ref b8), .unset]) rfl ?_
      refine OwnW.aloadN C (pc' := 120) at_119 rfl rfl rfl ?_
      refine OwnW.callV C (pc' := 123) (y := (⟨"com/example/kinegrid/kinegrid/server/ChunkPool", "take", "()[B"⟩ : MethodName)) (z := (⟨"com/example/kinegrid/kinegrid/server/ChunkPool", "take", "()[B"⟩ : MethodName)) (W := 0) (argsL := []) (rest := []) (hw _ (List.mem_of_getElem? (i := 14) rfl)) (hw _ (List.mem_of_getElem? (i := 15) rfl)) (notFace_of_selects (args := #[]) (mvT C.2.1 (hw _ (List.mem_of_getElem? (i := 17) rfl)))) (hw _ (List.mem_of_getElem? (i := 17) rfl)) (hw _ (List.mem_of_getElem? (i := 16) rfl)) (hw _ (List.mem_of_getElem? (i := 2) rfl)) (hw _ (List.mem_of_getElem? (i := 18) rfl)) X_b1 (by decide) (own_take0 l Z a0 hw b1 h8 n0 F_count_b1) (K' := 9) (S' := 65608) (by decide) (by decide) rfl own_pd____B rfl (Nat.le_of_eq rfl) rfl rfl (by decide) (by decide) rfl at_120 rfl (fun v h9 hq => ?_)
      obtain ⟨b9, cA_b9, rfl, g9, E9, V_b9, X_b9⟩ := hq
      refine Go.at (st' := [(.ref b9)]) rfl ?_
      have ne_b1_b9 : b1 ≠ b9 := Nat.ne_of_lt (Nat.lt_of_lt_of_eq X_b1.lt g9.symm)
      have ne_ca_b9 : ca ≠ b9 := Nat.ne_of_lt (Nat.lt_of_lt_of_eq V_ca.lt g9.symm)
      have ne_b3_b9 : b3 ≠ b9 := Nat.ne_of_lt (Nat.lt_of_lt_of_eq X_b3.lt g9.symm)
      have ne_b4_b9 : b4 ≠ b9 := Nat.ne_of_lt (Nat.lt_of_lt_of_eq X_b4.lt g9.symm)
      have ne_b5_b9 : b5 ≠ b9 := Nat.ne_of_lt (Nat.lt_of_lt_of_eq X_b5.lt g9.symm)
      have ne_b6_b9 : b6 ≠ b9 := Nat.ne_of_lt (Nat.lt_of_lt_of_eq X_b6.lt g9.symm)
      have ne_b7_b9 : b7 ≠ b9 := Nat.ne_of_lt (Nat.lt_of_lt_of_eq X_b7.lt g9.symm)
      have ne_b8_b9 : b8 ≠ b9 := Nat.ne_of_lt (Nat.lt_of_lt_of_eq X_b8.lt g9.symm)
      have g_b9 : n0 ≤ b9 := Nat.le_trans Sz (Nat.le_of_eq g9.symm)
      have O := O.ext E9
      have Sz := Nat.le_trans Sz E9.1
      have X_b1 := X_b1.ext E9
      have F_chunks_b1 := F_chunks_b1.ext E9
      have F_count_b1 := F_count_b1.ext E9
      have V_ca := V_ca.ext E9
      have X_b3 := X_b3.ext E9
      have V_b3 := V_b3.ext E9
      have X_b4 := X_b4.ext E9
      have V_b4 := V_b4.ext E9
      have X_b5 := X_b5.ext E9
      have V_b5 := V_b5.ext E9
      have X_b6 := X_b6.ext E9
      have V_b6 := V_b6.ext E9
      have X_b7 := X_b7.ext E9
      have V_b7 := V_b7.ext E9
      have X_b8 := X_b8.ext E9
      have V_b8 := V_b8.ext E9
      refine OwnW.astore C (pc' := 125) at_123 rfl rfl (l' := #[.val (.int i0), .val (.int i1), .val (.ref b1), .val (.ref b3), .val (.ref b4), .val (.ref b5), .val (.int (0 : Int32)), .val (.ref b6), .val (.int (0 : Int32)), .val (.ref b7), .val (.ref b8), .val (.ref b9)]) rfl ?_
      refine OwnW.aload C (pc' := 127) at_125 rfl rfl rfl ?_
      refine OwnW.iconst C (pc' := 128) at_127 rfl (z := 1) rfl ?_
      refine OwnW.iload C (pc' := 130) at_128 rfl rfl ?_
      refine OwnW.aloadN C (pc' := 131) at_130 rfl rfl rfl ?_
      refine OwnW.aload C (pc' := 133) at_131 rfl rfl rfl ?_
      refine OwnW.aload C (pc' := 135) at_133 rfl rfl rfl ?_
      refine OwnW.callS C (pc' := 138) (y := (⟨"com/example/kinegrid/kinegrid/server/ChunkPoolTakePinLaw", "check", "([BII[B[B[B)Z"⟩ : MethodName)) (W := 0) (argsL := [(.ref b6), (.int (1 : Int32)), (.int (0 : Int32)), (.ref b3), (.ref b4), (.ref b5)]) (rest := []) (hw _ (List.mem_of_getElem? (i := 27) rfl)) (hw _ (List.mem_of_getElem? (i := 28) rfl)) (hw _ (List.mem_of_getElem? (i := 29) rfl)) (hw _ (List.mem_of_getElem? (i := 30) rfl)) (by decide) (own_checkB l Z a0 hw b6 1 0 b3 b4 b5 _ h9 n0 (by decide) V_b6 (Ne.symm ne_b3_b6) (Ne.symm ne_b4_b6) (Ne.symm ne_b5_b6)) (K' := 9) (S' := 65608) (by decide) (by decide) rfl own_pd___BII_B_B_B_Z rfl (Nat.le_of_eq rfl) rfl rfl (by decide) (by decide) rfl at_135 rfl (fun v h' hq => ?_)
      obtain ⟨rfl, hh⟩ := hq
      refine Go.at (st' := [(.int (1 : Int32))]) rfl ?_
      refine Go.heap hh ?_
      refine OwnW.ifNe C (pcY := 143) (pcN := 141) at_138 (by decide) rfl rfl (fun hc138 => ?_) (fun hc138 => absurd hc138 (by decide))
      refine OwnW.aload C (pc' := 145) at_143 rfl rfl rfl ?_
      refine OwnW.iconst C (pc' := 146) at_145 rfl (z := 2) rfl ?_
      refine OwnW.iload C (pc' := 148) at_146 rfl rfl ?_
      refine OwnW.aloadN C (pc' := 149) at_148 rfl rfl rfl ?_
      refine OwnW.aload C (pc' := 151) at_149 rfl rfl rfl ?_
      refine OwnW.aload C (pc' := 153) at_151 rfl rfl rfl ?_
      refine OwnW.callS C (pc' := 156) (y := (⟨"com/example/kinegrid/kinegrid/server/ChunkPoolTakePinLaw", "check", "([BII[B[B[B)Z"⟩ : MethodName)) (W := 0) (argsL := [(.ref b7), (.int (2 : Int32)), (.int (0 : Int32)), (.ref b3), (.ref b4), (.ref b5)]) (rest := []) (hw _ (List.mem_of_getElem? (i := 27) rfl)) (hw _ (List.mem_of_getElem? (i := 28) rfl)) (hw _ (List.mem_of_getElem? (i := 29) rfl)) (hw _ (List.mem_of_getElem? (i := 30) rfl)) (by decide) (own_checkB l Z a0 hw b7 2 0 b3 b4 b5 _ h9 n0 (by decide) V_b7 (Ne.symm ne_b3_b7) (Ne.symm ne_b4_b7) (Ne.symm ne_b5_b7)) (K' := 9) (S' := 65608) (by decide) (by decide) rfl own_pd___BII_B_B_B_Z rfl (Nat.le_of_eq rfl) rfl rfl (by decide) (by decide) rfl at_153 rfl (fun v h' hq => ?_)
      obtain ⟨rfl, hh⟩ := hq
      refine Go.at (st' := [(.int (1 : Int32))]) rfl ?_
      refine Go.heap hh ?_
      refine OwnW.ifNe C (pcY := 161) (pcN := 159) at_156 (by decide) rfl rfl (fun hc156 => ?_) (fun hc156 => absurd hc156 (by decide))
      refine OwnW.aload C (pc' := 163) at_161 rfl rfl rfl ?_
      refine OwnW.iconst C (pc' := 164) at_163 rfl (z := 3) rfl ?_
      refine OwnW.iload C (pc' := 166) at_164 rfl rfl ?_
      refine OwnW.aloadN C (pc' := 167) at_166 rfl rfl rfl ?_
      refine OwnW.aload C (pc' := 169) at_167 rfl rfl rfl ?_
      refine OwnW.aload C (pc' := 171) at_169 rfl rfl rfl ?_
      refine OwnW.callS C (pc' := 174) (y := (⟨"com/example/kinegrid/kinegrid/server/ChunkPoolTakePinLaw", "check", "([BII[B[B[B)Z"⟩ : MethodName)) (W := 0) (argsL := [(.ref b8), (.int (3 : Int32)), (.int (0 : Int32)), (.ref b3), (.ref b4), (.ref b5)]) (rest := []) (hw _ (List.mem_of_getElem? (i := 27) rfl)) (hw _ (List.mem_of_getElem? (i := 28) rfl)) (hw _ (List.mem_of_getElem? (i := 29) rfl)) (hw _ (List.mem_of_getElem? (i := 30) rfl)) (by decide) (own_checkB l Z a0 hw b8 3 0 b3 b4 b5 _ h9 n0 (by decide) V_b8 (Ne.symm ne_b3_b8) (Ne.symm ne_b4_b8) (Ne.symm ne_b5_b8)) (K' := 9) (S' := 65608) (by decide) (by decide) rfl own_pd___BII_B_B_B_Z rfl (Nat.le_of_eq rfl) rfl rfl (by decide) (by decide) rfl at_171 rfl (fun v h' hq => ?_)
      obtain ⟨rfl, hh⟩ := hq
      refine Go.at (st' := [(.int (1 : Int32))]) rfl ?_
      refine Go.heap hh ?_
      refine OwnW.ifNe C (pcY := 179) (pcN := 177) at_174 (by decide) rfl rfl (fun hc174 => ?_) (fun hc174 => absurd hc174 (by decide))
      refine OwnW.aload C (pc' := 181) at_179 rfl rfl rfl ?_
      refine OwnW.iconst C (pc' := 182) at_181 rfl (z := 4) rfl ?_
      refine OwnW.iload C (pc' := 184) at_182 rfl rfl ?_
      refine OwnW.aloadN C (pc' := 185) at_184 rfl rfl rfl ?_
      refine OwnW.aload C (pc' := 187) at_185 rfl rfl rfl ?_
      refine OwnW.aload C (pc' := 189) at_187 rfl rfl rfl ?_
      refine OwnW.callS C (pc' := 192) (y := (⟨"com/example/kinegrid/kinegrid/server/ChunkPoolTakePinLaw", "check", "([BII[B[B[B)Z"⟩ : MethodName)) (W := 0) (argsL := [(.ref b9), (.int (4 : Int32)), (.int (0 : Int32)), (.ref b3), (.ref b4), (.ref b5)]) (rest := []) (hw _ (List.mem_of_getElem? (i := 27) rfl)) (hw _ (List.mem_of_getElem? (i := 28) rfl)) (hw _ (List.mem_of_getElem? (i := 29) rfl)) (hw _ (List.mem_of_getElem? (i := 30) rfl)) (by decide) (own_checkB l Z a0 hw b9 4 0 b3 b4 b5 _ h9 n0 (by decide) V_b9 (Ne.symm ne_b3_b9) (Ne.symm ne_b4_b9) (Ne.symm ne_b5_b9)) (K' := 9) (S' := 65608) (by decide) (by decide) rfl own_pd___BII_B_B_B_Z rfl (Nat.le_of_eq rfl) rfl rfl (by decide) (by decide) rfl at_189 rfl (fun v h' hq => ?_)
      obtain ⟨rfl, hh⟩ := hq
      refine Go.at (st' := [(.int (1 : Int32))]) rfl ?_
      refine Go.heap hh ?_
      refine OwnW.ifNe C (pcY := 197) (pcN := 195) at_192 (by decide) rfl rfl (fun hc192 => ?_) (fun hc192 => absurd hc192 (by decide))
      refine OwnW.aload C (pc' := 199) at_197 rfl rfl rfl ?_
      refine OwnW.aload C (pc' := 201) at_199 rfl rfl rfl ?_
      refine OwnW.acEq C (pcY := 243) (pcN := 204) rfl rfl at_201 (by decide) rfl rfl (fun hc201 => absurd (Value.ref.inj hc201) ne_b6_b7) (fun hc201 => ?_)
      refine OwnW.aload C (pc' := 206) at_204 rfl rfl rfl ?_
      refine OwnW.aload C (pc' := 208) at_206 rfl rfl rfl ?_
      refine OwnW.acEq C (pcY := 243) (pcN := 211) rfl rfl at_208 (by decide) rfl rfl (fun hc208 => absurd (Value.ref.inj hc208) ne_b6_b8) (fun hc208 => ?_)
      refine OwnW.aload C (pc' := 213) at_211 rfl rfl rfl ?_
      refine OwnW.aload C (pc' := 215) at_213 rfl rfl rfl ?_
      refine OwnW.acEq C (pcY := 243) (pcN := 218) rfl rfl at_215 (by decide) rfl rfl (fun hc215 => absurd (Value.ref.inj hc215) ne_b6_b9) (fun hc215 => ?_)
      refine OwnW.aload C (pc' := 220) at_218 rfl rfl rfl ?_
      refine OwnW.aload C (pc' := 222) at_220 rfl rfl rfl ?_
      refine OwnW.acEq C (pcY := 243) (pcN := 225) rfl rfl at_222 (by decide) rfl rfl (fun hc222 => absurd (Value.ref.inj hc222) ne_b7_b8) (fun hc222 => ?_)
      refine OwnW.aload C (pc' := 227) at_225 rfl rfl rfl ?_
      refine OwnW.aload C (pc' := 229) at_227 rfl rfl rfl ?_
      refine OwnW.acEq C (pcY := 243) (pcN := 232) rfl rfl at_229 (by decide) rfl rfl (fun hc229 => absurd (Value.ref.inj hc229) ne_b7_b9) (fun hc229 => ?_)
      refine OwnW.aload C (pc' := 234) at_232 rfl rfl rfl ?_
      refine OwnW.aload C (pc' := 236) at_234 rfl rfl rfl ?_
      refine OwnW.acEq C (pcY := 243) (pcN := 239) rfl rfl at_236 (by decide) rfl rfl (fun hc236 => absurd (Value.ref.inj hc236) ne_b8_b9) (fun hc236 => ?_)
      refine OwnW.iconst C (pc' := 240) at_239 rfl (z := 1) rfl ?_
      refine OwnW.goto C (pc' := 244) at_240 (by decide) rfl ?_
      exact OwnW.retN C (t := .boolean) (z := (1 : Int32)) rfl (by simp) rfl rfl (by decide) (by decide) at_244
    · refine OwnW.iconst C (pc' := 75) at_74 rfl (z := 1) rfl ?_
      refine OwnW.goto C (pc' := 79) at_75 (by decide) rfl ?_
      refine OwnW.istore C (pc' := 81) at_79 rfl (l' := #[.val (.int i0), .val (.int i1), .val (.ref b1), .val (.ref b3), .val (.ref b4), .val (.ref b5), .val (.int (0 : Int32)), .val (.ref b6), .val (.int (1 : Int32)), .unset, .unset, .unset]) rfl ?_
      refine OwnW.iload C (pc' := 83) at_81 rfl rfl ?_
      refine OwnW.ifEq C (pcY := 107) (pcN := 86) at_83 (by decide) rfl rfl (fun hc83 => absurd hc83 (by decide)) (fun hc83 => ?_)
      refine OwnW.aloadN C (pc' := 87) at_86 rfl rfl rfl ?_
      refine OwnW.aload C (pc' := 89) at_87 rfl rfl rfl ?_
      refine OwnW.callV C (pc' := 92) (y := (⟨"com/example/kinegrid/kinegrid/server/ChunkPool", "give", "([B)V"⟩ : MethodName)) (z := (⟨"com/example/kinegrid/kinegrid/server/ChunkPool", "give", "([B)V"⟩ : MethodName)) (W := 0) (argsL := [(.ref b6)]) (rest := []) (hw _ (List.mem_of_getElem? (i := 21) rfl)) (hw _ (List.mem_of_getElem? (i := 22) rfl)) (notFace_of_selects (args := #[]) (mvT C.2.1 (hw _ (List.mem_of_getElem? (i := 24) rfl)))) (hw _ (List.mem_of_getElem? (i := 24) rfl)) (hw _ (List.mem_of_getElem? (i := 23) rfl)) (hw _ (List.mem_of_getElem? (i := 2) rfl)) (hw _ (List.mem_of_getElem? (i := 25) rfl)) X_b1 (by decide) (own_give l Z a0 hw b1 b6 ca 0 1 0 (List.replicate 64 .null) cA h6 n0 X_b1 F_chunks_b1 F_count_b1 V_ca g_b1 g_ca ne_b1_ca rfl ⟨by decide, by decide⟩ rfl (Nat.le_of_ble_eq_true rfl) (sto_ofA V_ca OV (Ins.self X_b6))) (K' := 6) (S' := 16456) (by decide) (by decide) rfl own_pd___B_V rfl (Nat.le_of_eq rfl) rfl rfl (by decide) (by decide) rfl at_89 rfl (fun v h7 hq => ?_)
      obtain ⟨rfl, KK, F_chunks_b1', F_count_b1', V_ca'⟩ := hq
      refine Go.at (st' := []) rfl ?_
      have O := O.keep KK (allS (g_b1) (allS (g_ca) all0))
      have Sz := Nat.le_trans Sz KK.1
      have X_b1 := X_b1.keep KK
      have X_b3 := X_b3.keep KK
      have V_b3 := V_b3.keep KK (ninS (Ne.symm ne_b1_b3) (ninS (Ne.symm ne_ca_b3) nin0))
      have X_b4 := X_b4.keep KK
      have V_b4 := V_b4.keep KK (ninS (Ne.symm ne_b1_b4) (ninS (Ne.symm ne_ca_b4) nin0))
      have X_b5 := X_b5.keep KK
      have V_b5 := V_b5.keep KK (ninS (Ne.symm ne_b1_b5) (ninS (Ne.symm ne_ca_b5) nin0))
      have X_b6 := X_b6.keep KK
      have V_b6 := V_b6.keep KK (ninS (Ne.symm ne_b1_b6) (ninS (Ne.symm ne_ca_b6) nin0))
      have F_chunks_b1 := F_chunks_b1'
      have F_count_b1 := F_count_b1'
      have V_ca := V_ca'
      refine OwnW.aloadN C (pc' := 93) at_92 rfl rfl rfl ?_
      refine OwnW.callV C (pc' := 96) (y := (⟨"com/example/kinegrid/kinegrid/server/ChunkPool", "take", "()[B"⟩ : MethodName)) (z := (⟨"com/example/kinegrid/kinegrid/server/ChunkPool", "take", "()[B"⟩ : MethodName)) (W := 0) (argsL := []) (rest := []) (hw _ (List.mem_of_getElem? (i := 14) rfl)) (hw _ (List.mem_of_getElem? (i := 15) rfl)) (notFace_of_selects (args := #[]) (mvT C.2.1 (hw _ (List.mem_of_getElem? (i := 17) rfl)))) (hw _ (List.mem_of_getElem? (i := 17) rfl)) (hw _ (List.mem_of_getElem? (i := 16) rfl)) (hw _ (List.mem_of_getElem? (i := 2) rfl)) (hw _ (List.mem_of_getElem? (i := 18) rfl)) X_b1 (by decide) (own_take l Z a0 hw b1 b6 ca 1 0 0 ((List.replicate 64 .null).set 0 (.ref b6)) cA h7 n0 X_b1 F_chunks_b1 F_count_b1 V_ca g_b1 g_ca ne_b1_ca (by decide) rfl ⟨by decide, by decide⟩ rfl (Nat.le_of_ble_eq_true rfl) rfl) (K' := 6) (S' := 16456) (by decide) (by decide) rfl own_pd____B rfl (Nat.le_of_eq rfl) rfl rfl (by decide) (by decide) rfl at_93 rfl (fun v h8 hq => ?_)
      obtain ⟨rfl, KK, F_chunks_b1', F_count_b1', V_ca'⟩ := hq
      refine Go.at (st' := [(.ref b6)]) rfl ?_
      have O := O.keep KK (allS (g_b1) (allS (g_ca) all0))
      have Sz := Nat.le_trans Sz KK.1
      have X_b1 := X_b1.keep KK
      have X_b3 := X_b3.keep KK
      have V_b3 := V_b3.keep KK (ninS (Ne.symm ne_b1_b3) (ninS (Ne.symm ne_ca_b3) nin0))
      have X_b4 := X_b4.keep KK
      have V_b4 := V_b4.keep KK (ninS (Ne.symm ne_b1_b4) (ninS (Ne.symm ne_ca_b4) nin0))
      have X_b5 := X_b5.keep KK
      have V_b5 := V_b5.keep KK (ninS (Ne.symm ne_b1_b5) (ninS (Ne.symm ne_ca_b5) nin0))
      have X_b6 := X_b6.keep KK
      have V_b6 := V_b6.keep KK (ninS (Ne.symm ne_b1_b6) (ninS (Ne.symm ne_ca_b6) nin0))
      have F_chunks_b1 := F_chunks_b1'
      have F_count_b1 := F_count_b1'
      have V_ca := V_ca'
      refine OwnW.astore C (pc' := 98) at_96 rfl rfl (l' := #[.val (.int i0), .val (.int i1), .val (.ref b1), .val (.ref b3), .val (.ref b4), .val (.ref b5), .val (.int (0 : Int32)), .val (.ref b6), .val (.int (1 : Int32)), .val (.ref b6), .unset, .unset]) rfl ?_
      refine OwnW.aload C (pc' := 100) at_98 rfl rfl rfl ?_
      refine OwnW.aload C (pc' := 102) at_100 rfl rfl rfl ?_
      refine OwnW.acEq C (pcY := 107) (pcN := 105) rfl rfl at_102 (by decide) rfl rfl (fun hc102 => ?_) (fun hc102 => absurd rfl hc102)
      refine OwnW.aloadN C (pc' := 108) at_107 rfl rfl rfl ?_
      refine OwnW.callV C (pc' := 111) (y := (⟨"com/example/kinegrid/kinegrid/server/ChunkPool", "take", "()[B"⟩ : MethodName)) (z := (⟨"com/example/kinegrid/kinegrid/server/ChunkPool", "take", "()[B"⟩ : MethodName)) (W := 0) (argsL := []) (rest := []) (hw _ (List.mem_of_getElem? (i := 14) rfl)) (hw _ (List.mem_of_getElem? (i := 15) rfl)) (notFace_of_selects (args := #[]) (mvT C.2.1 (hw _ (List.mem_of_getElem? (i := 17) rfl)))) (hw _ (List.mem_of_getElem? (i := 17) rfl)) (hw _ (List.mem_of_getElem? (i := 16) rfl)) (hw _ (List.mem_of_getElem? (i := 2) rfl)) (hw _ (List.mem_of_getElem? (i := 18) rfl)) X_b1 (by decide) (own_take0 l Z a0 hw b1 h8 n0 F_count_b1) (K' := 7) (S' := 32840) (by decide) (by decide) rfl own_pd____B rfl (Nat.le_of_eq rfl) rfl rfl (by decide) (by decide) rfl at_108 rfl (fun v h9 hq => ?_)
      obtain ⟨b9, cA_b9, rfl, g9, E9, V_b9, X_b9⟩ := hq
      refine Go.at (st' := [(.ref b9)]) rfl ?_
      have ne_b1_b9 : b1 ≠ b9 := Nat.ne_of_lt (Nat.lt_of_lt_of_eq X_b1.lt g9.symm)
      have ne_b3_b9 : b3 ≠ b9 := Nat.ne_of_lt (Nat.lt_of_lt_of_eq X_b3.lt g9.symm)
      have ne_b4_b9 : b4 ≠ b9 := Nat.ne_of_lt (Nat.lt_of_lt_of_eq X_b4.lt g9.symm)
      have ne_b5_b9 : b5 ≠ b9 := Nat.ne_of_lt (Nat.lt_of_lt_of_eq X_b5.lt g9.symm)
      have ne_b6_b9 : b6 ≠ b9 := Nat.ne_of_lt (Nat.lt_of_lt_of_eq X_b6.lt g9.symm)
      have ne_ca_b9 : ca ≠ b9 := Nat.ne_of_lt (Nat.lt_of_lt_of_eq V_ca.lt g9.symm)
      have g_b9 : n0 ≤ b9 := Nat.le_trans Sz (Nat.le_of_eq g9.symm)
      have O := O.ext E9
      have Sz := Nat.le_trans Sz E9.1
      have X_b1 := X_b1.ext E9
      have X_b3 := X_b3.ext E9
      have V_b3 := V_b3.ext E9
      have X_b4 := X_b4.ext E9
      have V_b4 := V_b4.ext E9
      have X_b5 := X_b5.ext E9
      have V_b5 := V_b5.ext E9
      have X_b6 := X_b6.ext E9
      have V_b6 := V_b6.ext E9
      have F_chunks_b1 := F_chunks_b1.ext E9
      have F_count_b1 := F_count_b1.ext E9
      have V_ca := V_ca.ext E9
      refine OwnW.astore C (pc' := 113) at_111 rfl rfl (l' := #[.val (.int i0), .val (.int i1), .val (.ref b1), .val (.ref b3), .val (.ref b4), .val (.ref b5), .val (.int (0 : Int32)), .val (.ref b6), .val (.int (1 : Int32)), .val (.ref b9), .unset, .unset]) rfl ?_
      refine OwnW.aloadN C (pc' := 114) at_113 rfl rfl rfl ?_
      refine OwnW.callV C (pc' := 117) (y := (⟨"com/example/kinegrid/kinegrid/server/ChunkPool", "take", "()[B"⟩ : MethodName)) (z := (⟨"com/example/kinegrid/kinegrid/server/ChunkPool", "take", "()[B"⟩ : MethodName)) (W := 0) (argsL := []) (rest := []) (hw _ (List.mem_of_getElem? (i := 14) rfl)) (hw _ (List.mem_of_getElem? (i := 15) rfl)) (notFace_of_selects (args := #[]) (mvT C.2.1 (hw _ (List.mem_of_getElem? (i := 17) rfl)))) (hw _ (List.mem_of_getElem? (i := 17) rfl)) (hw _ (List.mem_of_getElem? (i := 16) rfl)) (hw _ (List.mem_of_getElem? (i := 2) rfl)) (hw _ (List.mem_of_getElem? (i := 18) rfl)) X_b1 (by decide) (own_take0 l Z a0 hw b1 h9 n0 F_count_b1) (K' := 8) (S' := 49224) (by decide) (by decide) rfl own_pd____B rfl (Nat.le_of_eq rfl) rfl rfl (by decide) (by decide) rfl at_114 rfl (fun v h10 hq => ?_)
      obtain ⟨b10, cA_b10, rfl, g10, E10, V_b10, X_b10⟩ := hq
      refine Go.at (st' := [(.ref b10)]) rfl ?_
      have ne_b1_b10 : b1 ≠ b10 := Nat.ne_of_lt (Nat.lt_of_lt_of_eq X_b1.lt g10.symm)
      have ne_b3_b10 : b3 ≠ b10 := Nat.ne_of_lt (Nat.lt_of_lt_of_eq X_b3.lt g10.symm)
      have ne_b4_b10 : b4 ≠ b10 := Nat.ne_of_lt (Nat.lt_of_lt_of_eq X_b4.lt g10.symm)
      have ne_b5_b10 : b5 ≠ b10 := Nat.ne_of_lt (Nat.lt_of_lt_of_eq X_b5.lt g10.symm)
      have ne_b6_b10 : b6 ≠ b10 := Nat.ne_of_lt (Nat.lt_of_lt_of_eq X_b6.lt g10.symm)
      have ne_ca_b10 : ca ≠ b10 := Nat.ne_of_lt (Nat.lt_of_lt_of_eq V_ca.lt g10.symm)
      have ne_b9_b10 : b9 ≠ b10 := Nat.ne_of_lt (Nat.lt_of_lt_of_eq X_b9.lt g10.symm)
      have g_b10 : n0 ≤ b10 := Nat.le_trans Sz (Nat.le_of_eq g10.symm)
      have O := O.ext E10
      have Sz := Nat.le_trans Sz E10.1
      have X_b1 := X_b1.ext E10
      have X_b3 := X_b3.ext E10
      have V_b3 := V_b3.ext E10
      have X_b4 := X_b4.ext E10
      have V_b4 := V_b4.ext E10
      have X_b5 := X_b5.ext E10
      have V_b5 := V_b5.ext E10
      have X_b6 := X_b6.ext E10
      have V_b6 := V_b6.ext E10
      have F_chunks_b1 := F_chunks_b1.ext E10
      have F_count_b1 := F_count_b1.ext E10
      have V_ca := V_ca.ext E10
      have X_b9 := X_b9.ext E10
      have V_b9 := V_b9.ext E10
      refine OwnW.astore C (pc' := 119) at_117 rfl rfl (l' := #[.val (.int i0), .val (.int i1), .val (.ref b1), .val (.ref b3), .val (.ref b4), .val (.ref b5), .val (.int (0 : Int32)), .val (.ref b6), .val (.int (1 : Int32)), .val (.ref b9), .val (.ref b10), .unset]) rfl ?_
      refine OwnW.aloadN C (pc' := 120) at_119 rfl rfl rfl ?_
      refine OwnW.callV C (pc' := 123) (y := (⟨"com/example/kinegrid/kinegrid/server/ChunkPool", "take", "()[B"⟩ : MethodName)) (z := (⟨"com/example/kinegrid/kinegrid/server/ChunkPool", "take", "()[B"⟩ : MethodName)) (W := 0) (argsL := []) (rest := []) (hw _ (List.mem_of_getElem? (i := 14) rfl)) (hw _ (List.mem_of_getElem? (i := 15) rfl)) (notFace_of_selects (args := #[]) (mvT C.2.1 (hw _ (List.mem_of_getElem? (i := 17) rfl)))) (hw _ (List.mem_of_getElem? (i := 17) rfl)) (hw _ (List.mem_of_getElem? (i := 16) rfl)) (hw _ (List.mem_of_getElem? (i := 2) rfl)) (hw _ (List.mem_of_getElem? (i := 18) rfl)) X_b1 (by decide) (own_take0 l Z a0 hw b1 h10 n0 F_count_b1) (K' := 9) (S' := 65608) (by decide) (by decide) rfl own_pd____B rfl (Nat.le_of_eq rfl) rfl rfl (by decide) (by decide) rfl at_120 rfl (fun v h11 hq => ?_)
      obtain ⟨b11, cA_b11, rfl, g11, E11, V_b11, X_b11⟩ := hq
      refine Go.at (st' := [(.ref b11)]) rfl ?_
      have ne_b1_b11 : b1 ≠ b11 := Nat.ne_of_lt (Nat.lt_of_lt_of_eq X_b1.lt g11.symm)
      have ne_b3_b11 : b3 ≠ b11 := Nat.ne_of_lt (Nat.lt_of_lt_of_eq X_b3.lt g11.symm)
      have ne_b4_b11 : b4 ≠ b11 := Nat.ne_of_lt (Nat.lt_of_lt_of_eq X_b4.lt g11.symm)
      have ne_b5_b11 : b5 ≠ b11 := Nat.ne_of_lt (Nat.lt_of_lt_of_eq X_b5.lt g11.symm)
      have ne_b6_b11 : b6 ≠ b11 := Nat.ne_of_lt (Nat.lt_of_lt_of_eq X_b6.lt g11.symm)
      have ne_ca_b11 : ca ≠ b11 := Nat.ne_of_lt (Nat.lt_of_lt_of_eq V_ca.lt g11.symm)
      have ne_b9_b11 : b9 ≠ b11 := Nat.ne_of_lt (Nat.lt_of_lt_of_eq X_b9.lt g11.symm)
      have ne_b10_b11 : b10 ≠ b11 := Nat.ne_of_lt (Nat.lt_of_lt_of_eq X_b10.lt g11.symm)
      have g_b11 : n0 ≤ b11 := Nat.le_trans Sz (Nat.le_of_eq g11.symm)
      have O := O.ext E11
      have Sz := Nat.le_trans Sz E11.1
      have X_b1 := X_b1.ext E11
      have X_b3 := X_b3.ext E11
      have V_b3 := V_b3.ext E11
      have X_b4 := X_b4.ext E11
      have V_b4 := V_b4.ext E11
      have X_b5 := X_b5.ext E11
      have V_b5 := V_b5.ext E11
      have X_b6 := X_b6.ext E11
      have V_b6 := V_b6.ext E11
      have F_chunks_b1 := F_chunks_b1.ext E11
      have F_count_b1 := F_count_b1.ext E11
      have V_ca := V_ca.ext E11
      have X_b9 := X_b9.ext E11
      have V_b9 := V_b9.ext E11
      have X_b10 := X_b10.ext E11
      have V_b10 := V_b10.ext E11
      refine OwnW.astore C (pc' := 125) at_123 rfl rfl (l' := #[.val (.int i0), .val (.int i1), .val (.ref b1), .val (.ref b3), .val (.ref b4), .val (.ref b5), .val (.int (0 : Int32)), .val (.ref b6), .val (.int (1 : Int32)), .val (.ref b9), .val (.ref b10), .val (.ref b11)]) rfl ?_
      refine OwnW.aload C (pc' := 127) at_125 rfl rfl rfl ?_
      refine OwnW.iconst C (pc' := 128) at_127 rfl (z := 1) rfl ?_
      refine OwnW.iload C (pc' := 130) at_128 rfl rfl ?_
      refine OwnW.aloadN C (pc' := 131) at_130 rfl rfl rfl ?_
      refine OwnW.aload C (pc' := 133) at_131 rfl rfl rfl ?_
      refine OwnW.aload C (pc' := 135) at_133 rfl rfl rfl ?_
      refine OwnW.callS C (pc' := 138) (y := (⟨"com/example/kinegrid/kinegrid/server/ChunkPoolTakePinLaw", "check", "([BII[B[B[B)Z"⟩ : MethodName)) (W := 0) (argsL := [(.ref b6), (.int (1 : Int32)), (.int (0 : Int32)), (.ref b3), (.ref b4), (.ref b5)]) (rest := []) (hw _ (List.mem_of_getElem? (i := 27) rfl)) (hw _ (List.mem_of_getElem? (i := 28) rfl)) (hw _ (List.mem_of_getElem? (i := 29) rfl)) (hw _ (List.mem_of_getElem? (i := 30) rfl)) (by decide) (own_checkB l Z a0 hw b6 1 0 b3 b4 b5 _ h11 n0 (by decide) V_b6 (Ne.symm ne_b3_b6) (Ne.symm ne_b4_b6) (Ne.symm ne_b5_b6)) (K' := 9) (S' := 65608) (by decide) (by decide) rfl own_pd___BII_B_B_B_Z rfl (Nat.le_of_eq rfl) rfl rfl (by decide) (by decide) rfl at_135 rfl (fun v h' hq => ?_)
      obtain ⟨rfl, hh⟩ := hq
      refine Go.at (st' := [(.int (1 : Int32))]) rfl ?_
      refine Go.heap hh ?_
      refine OwnW.ifNe C (pcY := 143) (pcN := 141) at_138 (by decide) rfl rfl (fun hc138 => ?_) (fun hc138 => absurd hc138 (by decide))
      refine OwnW.aload C (pc' := 145) at_143 rfl rfl rfl ?_
      refine OwnW.iconst C (pc' := 146) at_145 rfl (z := 2) rfl ?_
      refine OwnW.iload C (pc' := 148) at_146 rfl rfl ?_
      refine OwnW.aloadN C (pc' := 149) at_148 rfl rfl rfl ?_
      refine OwnW.aload C (pc' := 151) at_149 rfl rfl rfl ?_
      refine OwnW.aload C (pc' := 153) at_151 rfl rfl rfl ?_
      refine OwnW.callS C (pc' := 156) (y := (⟨"com/example/kinegrid/kinegrid/server/ChunkPoolTakePinLaw", "check", "([BII[B[B[B)Z"⟩ : MethodName)) (W := 0) (argsL := [(.ref b9), (.int (2 : Int32)), (.int (0 : Int32)), (.ref b3), (.ref b4), (.ref b5)]) (rest := []) (hw _ (List.mem_of_getElem? (i := 27) rfl)) (hw _ (List.mem_of_getElem? (i := 28) rfl)) (hw _ (List.mem_of_getElem? (i := 29) rfl)) (hw _ (List.mem_of_getElem? (i := 30) rfl)) (by decide) (own_checkB l Z a0 hw b9 2 0 b3 b4 b5 _ h11 n0 (by decide) V_b9 (Ne.symm ne_b3_b9) (Ne.symm ne_b4_b9) (Ne.symm ne_b5_b9)) (K' := 9) (S' := 65608) (by decide) (by decide) rfl own_pd___BII_B_B_B_Z rfl (Nat.le_of_eq rfl) rfl rfl (by decide) (by decide) rfl at_153 rfl (fun v h' hq => ?_)
      obtain ⟨rfl, hh⟩ := hq
      refine Go.at (st' := [(.int (1 : Int32))]) rfl ?_
      refine Go.heap hh ?_
      refine OwnW.ifNe C (pcY := 161) (pcN := 159) at_156 (by decide) rfl rfl (fun hc156 => ?_) (fun hc156 => absurd hc156 (by decide))
      refine OwnW.aload C (pc' := 163) at_161 rfl rfl rfl ?_
      refine OwnW.iconst C (pc' := 164) at_163 rfl (z := 3) rfl ?_
      refine OwnW.iload C (pc' := 166) at_164 rfl rfl ?_
      refine OwnW.aloadN C (pc' := 167) at_166 rfl rfl rfl ?_
      refine OwnW.aload C (pc' := 169) at_167 rfl rfl rfl ?_
      refine OwnW.aload C (pc' := 171) at_169 rfl rfl rfl ?_
      refine OwnW.callS C (pc' := 174) (y := (⟨"com/example/kinegrid/kinegrid/server/ChunkPoolTakePinLaw", "check", "([BII[B[B[B)Z"⟩ : MethodName)) (W := 0) (argsL := [(.ref b10), (.int (3 : Int32)), (.int (0 : Int32)), (.ref b3), (.ref b4), (.ref b5)]) (rest := []) (hw _ (List.mem_of_getElem? (i := 27) rfl)) (hw _ (List.mem_of_getElem? (i := 28) rfl)) (hw _ (List.mem_of_getElem? (i := 29) rfl)) (hw _ (List.mem_of_getElem? (i := 30) rfl)) (by decide) (own_checkB l Z a0 hw b10 3 0 b3 b4 b5 _ h11 n0 (by decide) V_b10 (Ne.symm ne_b3_b10) (Ne.symm ne_b4_b10) (Ne.symm ne_b5_b10)) (K' := 9) (S' := 65608) (by decide) (by decide) rfl own_pd___BII_B_B_B_Z rfl (Nat.le_of_eq rfl) rfl rfl (by decide) (by decide) rfl at_171 rfl (fun v h' hq => ?_)
      obtain ⟨rfl, hh⟩ := hq
      refine Go.at (st' := [(.int (1 : Int32))]) rfl ?_
      refine Go.heap hh ?_
      refine OwnW.ifNe C (pcY := 179) (pcN := 177) at_174 (by decide) rfl rfl (fun hc174 => ?_) (fun hc174 => absurd hc174 (by decide))
      refine OwnW.aload C (pc' := 181) at_179 rfl rfl rfl ?_
      refine OwnW.iconst C (pc' := 182) at_181 rfl (z := 4) rfl ?_
      refine OwnW.iload C (pc' := 184) at_182 rfl rfl ?_
      refine OwnW.aloadN C (pc' := 185) at_184 rfl rfl rfl ?_
      refine OwnW.aload C (pc' := 187) at_185 rfl rfl rfl ?_
      refine OwnW.aload C (pc' := 189) at_187 rfl rfl rfl ?_
      refine OwnW.callS C (pc' := 192) (y := (⟨"com/example/kinegrid/kinegrid/server/ChunkPoolTakePinLaw", "check", "([BII[B[B[B)Z"⟩ : MethodName)) (W := 0) (argsL := [(.ref b11), (.int (4 : Int32)), (.int (0 : Int32)), (.ref b3), (.ref b4), (.ref b5)]) (rest := []) (hw _ (List.mem_of_getElem? (i := 27) rfl)) (hw _ (List.mem_of_getElem? (i := 28) rfl)) (hw _ (List.mem_of_getElem? (i := 29) rfl)) (hw _ (List.mem_of_getElem? (i := 30) rfl)) (by decide) (own_checkB l Z a0 hw b11 4 0 b3 b4 b5 _ h11 n0 (by decide) V_b11 (Ne.symm ne_b3_b11) (Ne.symm ne_b4_b11) (Ne.symm ne_b5_b11)) (K' := 9) (S' := 65608) (by decide) (by decide) rfl own_pd___BII_B_B_B_Z rfl (Nat.le_of_eq rfl) rfl rfl (by decide) (by decide) rfl at_189 rfl (fun v h' hq => ?_)
      obtain ⟨rfl, hh⟩ := hq
      refine Go.at (st' := [(.int (1 : Int32))]) rfl ?_
      refine Go.heap hh ?_
      refine OwnW.ifNe C (pcY := 197) (pcN := 195) at_192 (by decide) rfl rfl (fun hc192 => ?_) (fun hc192 => absurd hc192 (by decide))
      refine OwnW.aload C (pc' := 199) at_197 rfl rfl rfl ?_
      refine OwnW.aload C (pc' := 201) at_199 rfl rfl rfl ?_
      refine OwnW.acEq C (pcY := 243) (pcN := 204) rfl rfl at_201 (by decide) rfl rfl (fun hc201 => absurd (Value.ref.inj hc201) ne_b6_b9) (fun hc201 => ?_)
      refine OwnW.aload C (pc' := 206) at_204 rfl rfl rfl ?_
      refine OwnW.aload C (pc' := 208) at_206 rfl rfl rfl ?_
      refine OwnW.acEq C (pcY := 243) (pcN := 211) rfl rfl at_208 (by decide) rfl rfl (fun hc208 => absurd (Value.ref.inj hc208) ne_b6_b10) (fun hc208 => ?_)
      refine OwnW.aload C (pc' := 213) at_211 rfl rfl rfl ?_
      refine OwnW.aload C (pc' := 215) at_213 rfl rfl rfl ?_
      refine OwnW.acEq C (pcY := 243) (pcN := 218) rfl rfl at_215 (by decide) rfl rfl (fun hc215 => absurd (Value.ref.inj hc215) ne_b6_b11) (fun hc215 => ?_)
      refine OwnW.aload C (pc' := 220) at_218 rfl rfl rfl ?_
      refine OwnW.aload C (pc' := 222) at_220 rfl rfl rfl ?_
      refine OwnW.acEq C (pcY := 243) (pcN := 225) rfl rfl at_222 (by decide) rfl rfl (fun hc222 => absurd (Value.ref.inj hc222) ne_b9_b10) (fun hc222 => ?_)
      refine OwnW.aload C (pc' := 227) at_225 rfl rfl rfl ?_
      refine OwnW.aload C (pc' := 229) at_227 rfl rfl rfl ?_
      refine OwnW.acEq C (pcY := 243) (pcN := 232) rfl rfl at_229 (by decide) rfl rfl (fun hc229 => absurd (Value.ref.inj hc229) ne_b9_b11) (fun hc229 => ?_)
      refine OwnW.aload C (pc' := 234) at_232 rfl rfl rfl ?_
      refine OwnW.aload C (pc' := 236) at_234 rfl rfl rfl ?_
      refine OwnW.acEq C (pcY := 243) (pcN := 239) rfl rfl at_236 (by decide) rfl rfl (fun hc236 => absurd (Value.ref.inj hc236) ne_b10_b11) (fun hc236 => ?_)
      refine OwnW.iconst C (pc' := 240) at_239 rfl (z := 1) rfl ?_
      refine OwnW.goto C (pc' := 244) at_240 (by decide) rfl ?_
      exact OwnW.retN C (t := .boolean) (z := (1 : Int32)) rfl (by simp) rfl rfl (by decide) (by decide) at_244
  · rw [hk]
    refine OwnW.iload C (pc' := 29) at_27 rfl rfl ?_
    refine OwnW.iconst C (pc' := 30) at_29 rfl (z := 1) rfl ?_
    refine OwnW.icLt C (pcY := 38) (pcN := 33) at_30 (by decide) rfl rfl (fun hc30 => absurd hc30 (by decide)) (fun hc30 => ?_)
    refine OwnW.aloadN C (pc' := 34) at_33 rfl rfl rfl ?_
    refine OwnW.aloadN C (pc' := 35) at_34 rfl rfl rfl ?_
    refine OwnW.callV C (pc' := 38) (y := (⟨"com/example/kinegrid/kinegrid/server/ChunkPool", "give", "([B)V"⟩ : MethodName)) (z := (⟨"com/example/kinegrid/kinegrid/server/ChunkPool", "give", "([B)V"⟩ : MethodName)) (W := 0) (argsL := [(.ref b3)]) (rest := []) (hw _ (List.mem_of_getElem? (i := 21) rfl)) (hw _ (List.mem_of_getElem? (i := 22) rfl)) (notFace_of_selects (args := #[]) (mvT C.2.1 (hw _ (List.mem_of_getElem? (i := 24) rfl)))) (hw _ (List.mem_of_getElem? (i := 24) rfl)) (hw _ (List.mem_of_getElem? (i := 23) rfl)) (hw _ (List.mem_of_getElem? (i := 2) rfl)) (hw _ (List.mem_of_getElem? (i := 25) rfl)) X_b1 (by decide) (own_give l Z a0 hw b1 b3 ca 0 1 0 (List.replicate 64 .null) cA h5 n0 X_b1 F_chunks_b1 F_count_b1 V_ca g_b1 g_ca ne_b1_ca rfl ⟨by decide, by decide⟩ rfl (Nat.le_of_ble_eq_true rfl) (sto_ofA V_ca OV (Ins.self X_b3))) (K' := 5) (S' := 72) (by decide) (by decide) rfl own_pd___B_V rfl (Nat.le_of_eq rfl) rfl rfl (by decide) (by decide) rfl at_35 rfl (fun v h6 hq => ?_)
    obtain ⟨rfl, KK, F_chunks_b1', F_count_b1', V_ca'⟩ := hq
    refine Go.at (st' := []) rfl ?_
    have O := O.keep KK (allS (g_b1) (allS (g_ca) all0))
    have Sz := Nat.le_trans Sz KK.1
    have X_b1 := X_b1.keep KK
    have X_b3 := X_b3.keep KK
    have V_b3 := V_b3.keep KK (ninS (Ne.symm ne_b1_b3) (ninS (Ne.symm ne_ca_b3) nin0))
    have X_b4 := X_b4.keep KK
    have V_b4 := V_b4.keep KK (ninS (Ne.symm ne_b1_b4) (ninS (Ne.symm ne_ca_b4) nin0))
    have X_b5 := X_b5.keep KK
    have V_b5 := V_b5.keep KK (ninS (Ne.symm ne_b1_b5) (ninS (Ne.symm ne_ca_b5) nin0))
    have F_chunks_b1 := F_chunks_b1'
    have F_count_b1 := F_count_b1'
    have V_ca := V_ca'
    refine OwnW.iload C (pc' := 40) at_38 rfl rfl ?_
    refine OwnW.iconst C (pc' := 41) at_40 rfl (z := 2) rfl ?_
    refine OwnW.icLt C (pcY := 50) (pcN := 44) at_41 (by decide) rfl rfl (fun hc41 => ?_) (fun hc41 => absurd (by decide) hc41)
    refine OwnW.iload C (pc' := 52) at_50 rfl rfl ?_
    refine OwnW.iconst C (pc' := 53) at_52 rfl (z := 3) rfl ?_
    refine OwnW.icLt C (pcY := 62) (pcN := 56) at_53 (by decide) rfl rfl (fun hc53 => ?_) (fun hc53 => absurd (by decide) hc53)
    refine OwnW.aloadN C (pc' := 63) at_62 rfl rfl rfl ?_
    refine OwnW.callV C (pc' := 66) (y := (⟨"com/example/kinegrid/kinegrid/server/ChunkPool", "take", "()[B"⟩ : MethodName)) (z := (⟨"com/example/kinegrid/kinegrid/server/ChunkPool", "take", "()[B"⟩ : MethodName)) (W := 0) (argsL := []) (rest := []) (hw _ (List.mem_of_getElem? (i := 14) rfl)) (hw _ (List.mem_of_getElem? (i := 15) rfl)) (notFace_of_selects (args := #[]) (mvT C.2.1 (hw _ (List.mem_of_getElem? (i := 17) rfl)))) (hw _ (List.mem_of_getElem? (i := 17) rfl)) (hw _ (List.mem_of_getElem? (i := 16) rfl)) (hw _ (List.mem_of_getElem? (i := 2) rfl)) (hw _ (List.mem_of_getElem? (i := 18) rfl)) X_b1 (by decide) (own_take l Z a0 hw b1 b3 ca 1 0 0 ((List.replicate 64 .null).set 0 (.ref b3)) cA h6 n0 X_b1 F_chunks_b1 F_count_b1 V_ca g_b1 g_ca ne_b1_ca (by decide) rfl ⟨by decide, by decide⟩ rfl (Nat.le_of_ble_eq_true rfl) rfl) (K' := 5) (S' := 72) (by decide) (by decide) rfl own_pd____B rfl (Nat.le_of_eq rfl) rfl rfl (by decide) (by decide) rfl at_63 rfl (fun v h7 hq => ?_)
    obtain ⟨rfl, KK, F_chunks_b1', F_count_b1', V_ca'⟩ := hq
    refine Go.at (st' := [(.ref b3)]) rfl ?_
    have O := O.keep KK (allS (g_b1) (allS (g_ca) all0))
    have Sz := Nat.le_trans Sz KK.1
    have X_b1 := X_b1.keep KK
    have X_b3 := X_b3.keep KK
    have V_b3 := V_b3.keep KK (ninS (Ne.symm ne_b1_b3) (ninS (Ne.symm ne_ca_b3) nin0))
    have X_b4 := X_b4.keep KK
    have V_b4 := V_b4.keep KK (ninS (Ne.symm ne_b1_b4) (ninS (Ne.symm ne_ca_b4) nin0))
    have X_b5 := X_b5.keep KK
    have V_b5 := V_b5.keep KK (ninS (Ne.symm ne_b1_b5) (ninS (Ne.symm ne_ca_b5) nin0))
    have F_chunks_b1 := F_chunks_b1'
    have F_count_b1 := F_count_b1'
    have V_ca := V_ca'
    refine OwnW.astore C (pc' := 68) at_66 rfl rfl (l' := #[.val (.int i0), .val (.int i1), .val (.ref b1), .val (.ref b3), .val (.ref b4), .val (.ref b5), .val (.int (1 : Int32)), .val (.ref b3), .unset, .unset, .unset, .unset]) rfl ?_
    refine OwnW.iloadN C (pc' := 69) at_68 rfl rfl ?_
    refine OwnW.iconst C (pc' := 70) at_69 rfl (z := 1) rfl ?_
    refine OwnW.iand C (pc' := 71) at_70 rfl ?_
    refine OwnW.ifEq C (pcY := 78) (pcN := 74) at_71 (by decide) rfl rfl (fun hc71 => ?_) (fun hc71 => ?_)
    · refine OwnW.iconst C (pc' := 79) at_78 rfl (z := 0) rfl ?_
      refine OwnW.istore C (pc' := 81) at_79 rfl (l' := #[.val (.int i0), .val (.int i1), .val (.ref b1), .val (.ref b3), .val (.ref b4), .val (.ref b5), .val (.int (1 : Int32)), .val (.ref b3), .val (.int (0 : Int32)), .unset, .unset, .unset]) rfl ?_
      refine OwnW.iload C (pc' := 83) at_81 rfl rfl ?_
      refine OwnW.ifEq C (pcY := 107) (pcN := 86) at_83 (by decide) rfl rfl (fun hc83 => ?_) (fun hc83 => absurd rfl hc83)
      refine OwnW.aloadN C (pc' := 108) at_107 rfl rfl rfl ?_
      refine OwnW.callV C (pc' := 111) (y := (⟨"com/example/kinegrid/kinegrid/server/ChunkPool", "take", "()[B"⟩ : MethodName)) (z := (⟨"com/example/kinegrid/kinegrid/server/ChunkPool", "take", "()[B"⟩ : MethodName)) (W := 0) (argsL := []) (rest := []) (hw _ (List.mem_of_getElem? (i := 14) rfl)) (hw _ (List.mem_of_getElem? (i := 15) rfl)) (notFace_of_selects (args := #[]) (mvT C.2.1 (hw _ (List.mem_of_getElem? (i := 17) rfl)))) (hw _ (List.mem_of_getElem? (i := 17) rfl)) (hw _ (List.mem_of_getElem? (i := 16) rfl)) (hw _ (List.mem_of_getElem? (i := 2) rfl)) (hw _ (List.mem_of_getElem? (i := 18) rfl)) X_b1 (by decide) (own_take0 l Z a0 hw b1 h7 n0 F_count_b1) (K' := 6) (S' := 16456) (by decide) (by decide) rfl own_pd____B rfl (Nat.le_of_eq rfl) rfl rfl (by decide) (by decide) rfl at_108 rfl (fun v h8 hq => ?_)
      obtain ⟨b8, cA_b8, rfl, g8, E8, V_b8, X_b8⟩ := hq
      refine Go.at (st' := [(.ref b8)]) rfl ?_
      have ne_b1_b8 : b1 ≠ b8 := Nat.ne_of_lt (Nat.lt_of_lt_of_eq X_b1.lt g8.symm)
      have ne_b3_b8 : b3 ≠ b8 := Nat.ne_of_lt (Nat.lt_of_lt_of_eq X_b3.lt g8.symm)
      have ne_b4_b8 : b4 ≠ b8 := Nat.ne_of_lt (Nat.lt_of_lt_of_eq X_b4.lt g8.symm)
      have ne_b5_b8 : b5 ≠ b8 := Nat.ne_of_lt (Nat.lt_of_lt_of_eq X_b5.lt g8.symm)
      have ne_ca_b8 : ca ≠ b8 := Nat.ne_of_lt (Nat.lt_of_lt_of_eq V_ca.lt g8.symm)
      have g_b8 : n0 ≤ b8 := Nat.le_trans Sz (Nat.le_of_eq g8.symm)
      have O := O.ext E8
      have Sz := Nat.le_trans Sz E8.1
      have X_b1 := X_b1.ext E8
      have X_b3 := X_b3.ext E8
      have V_b3 := V_b3.ext E8
      have X_b4 := X_b4.ext E8
      have V_b4 := V_b4.ext E8
      have X_b5 := X_b5.ext E8
      have V_b5 := V_b5.ext E8
      have F_chunks_b1 := F_chunks_b1.ext E8
      have F_count_b1 := F_count_b1.ext E8
      have V_ca := V_ca.ext E8
      refine OwnW.astore C (pc' := 113) at_111 rfl rfl (l' := #[.val (.int i0), .val (.int i1), .val (.ref b1), .val (.ref b3), .val (.ref b4), .val (.ref b5), .val (.int (1 : Int32)), .val (.ref b3), .val (.int (0 : Int32)), .val (.ref b8), .unset, .unset]) rfl ?_
      refine OwnW.aloadN C (pc' := 114) at_113 rfl rfl rfl ?_
      refine OwnW.callV C (pc' := 117) (y := (⟨"com/example/kinegrid/kinegrid/server/ChunkPool", "take", "()[B"⟩ : MethodName)) (z := (⟨"com/example/kinegrid/kinegrid/server/ChunkPool", "take", "()[B"⟩ : MethodName)) (W := 0) (argsL := []) (rest := []) (hw _ (List.mem_of_getElem? (i := 14) rfl)) (hw _ (List.mem_of_getElem? (i := 15) rfl)) (notFace_of_selects (args := #[]) (mvT C.2.1 (hw _ (List.mem_of_getElem? (i := 17) rfl)))) (hw _ (List.mem_of_getElem? (i := 17) rfl)) (hw _ (List.mem_of_getElem? (i := 16) rfl)) (hw _ (List.mem_of_getElem? (i := 2) rfl)) (hw _ (List.mem_of_getElem? (i := 18) rfl)) X_b1 (by decide) (own_take0 l Z a0 hw b1 h8 n0 F_count_b1) (K' := 7) (S' := 32840) (by decide) (by decide) rfl own_pd____B rfl (Nat.le_of_eq rfl) rfl rfl (by decide) (by decide) rfl at_114 rfl (fun v h9 hq => ?_)
      obtain ⟨b9, cA_b9, rfl, g9, E9, V_b9, X_b9⟩ := hq
      refine Go.at (st' := [(.ref b9)]) rfl ?_
      have ne_b1_b9 : b1 ≠ b9 := Nat.ne_of_lt (Nat.lt_of_lt_of_eq X_b1.lt g9.symm)
      have ne_b3_b9 : b3 ≠ b9 := Nat.ne_of_lt (Nat.lt_of_lt_of_eq X_b3.lt g9.symm)
      have ne_b4_b9 : b4 ≠ b9 := Nat.ne_of_lt (Nat.lt_of_lt_of_eq X_b4.lt g9.symm)
      have ne_b5_b9 : b5 ≠ b9 := Nat.ne_of_lt (Nat.lt_of_lt_of_eq X_b5.lt g9.symm)
      have ne_ca_b9 : ca ≠ b9 := Nat.ne_of_lt (Nat.lt_of_lt_of_eq V_ca.lt g9.symm)
      have ne_b8_b9 : b8 ≠ b9 := Nat.ne_of_lt (Nat.lt_of_lt_of_eq X_b8.lt g9.symm)
      have g_b9 : n0 ≤ b9 := Nat.le_trans Sz (Nat.le_of_eq g9.symm)
      have O := O.ext E9
      have Sz := Nat.le_trans Sz E9.1
      have X_b1 := X_b1.ext E9
      have X_b3 := X_b3.ext E9
      have V_b3 := V_b3.ext E9
      have X_b4 := X_b4.ext E9
      have V_b4 := V_b4.ext E9
      have X_b5 := X_b5.ext E9
      have V_b5 := V_b5.ext E9
      have F_chunks_b1 := F_chunks_b1.ext E9
      have F_count_b1 := F_count_b1.ext E9
      have V_ca := V_ca.ext E9
      have X_b8 := X_b8.ext E9
      have V_b8 := V_b8.ext E9
      refine OwnW.astore C (pc' := 119) at_117 rfl rfl (l' := #[.val (.int i0), .val (.int i1), .val (.ref b1), .val (.ref b3), .val (.ref b4), .val (.ref b5), .val (.int (1 : Int32)), .val (.ref b3), .val (.int (0 : Int32)), .val (.ref b8), .val (.ref b9), .unset]) rfl ?_
      refine OwnW.aloadN C (pc' := 120) at_119 rfl rfl rfl ?_
      refine OwnW.callV C (pc' := 123) (y := (⟨"com/example/kinegrid/kinegrid/server/ChunkPool", "take", "()[B"⟩ : MethodName)) (z := (⟨"com/example/kinegrid/kinegrid/server/ChunkPool", "take", "()[B"⟩ : MethodName)) (W := 0) (argsL := []) (rest := []) (hw _ (List.mem_of_getElem? (i := 14) rfl)) (hw _ (List.mem_of_getElem? (i := 15) rfl)) (notFace_of_selects (args := #[]) (mvT C.2.1 (hw _ (List.mem_of_getElem? (i := 17) rfl)))) (hw _ (List.mem_of_getElem? (i := 17) rfl)) (hw _ (List.mem_of_getElem? (i := 16) rfl)) (hw _ (List.mem_of_getElem? (i := 2) rfl)) (hw _ (List.mem_of_getElem? (i := 18) rfl)) X_b1 (by decide) (own_take0 l Z a0 hw b1 h9 n0 F_count_b1) (K' := 8) (S' := 49224) (by decide) (by decide) rfl own_pd____B rfl (Nat.le_of_eq rfl) rfl rfl (by decide) (by decide) rfl at_120 rfl (fun v h10 hq => ?_)
      obtain ⟨b10, cA_b10, rfl, g10, E10, V_b10, X_b10⟩ := hq
      refine Go.at (st' := [(.ref b10)]) rfl ?_
      have ne_b1_b10 : b1 ≠ b10 := Nat.ne_of_lt (Nat.lt_of_lt_of_eq X_b1.lt g10.symm)
      have ne_b3_b10 : b3 ≠ b10 := Nat.ne_of_lt (Nat.lt_of_lt_of_eq X_b3.lt g10.symm)
      have ne_b4_b10 : b4 ≠ b10 := Nat.ne_of_lt (Nat.lt_of_lt_of_eq X_b4.lt g10.symm)
      have ne_b5_b10 : b5 ≠ b10 := Nat.ne_of_lt (Nat.lt_of_lt_of_eq X_b5.lt g10.symm)
      have ne_ca_b10 : ca ≠ b10 := Nat.ne_of_lt (Nat.lt_of_lt_of_eq V_ca.lt g10.symm)
      have ne_b8_b10 : b8 ≠ b10 := Nat.ne_of_lt (Nat.lt_of_lt_of_eq X_b8.lt g10.symm)
      have ne_b9_b10 : b9 ≠ b10 := Nat.ne_of_lt (Nat.lt_of_lt_of_eq X_b9.lt g10.symm)
      have g_b10 : n0 ≤ b10 := Nat.le_trans Sz (Nat.le_of_eq g10.symm)
      have O := O.ext E10
      have Sz := Nat.le_trans Sz E10.1
      have X_b1 := X_b1.ext E10
      have X_b3 := X_b3.ext E10
      have V_b3 := V_b3.ext E10
      have X_b4 := X_b4.ext E10
      have V_b4 := V_b4.ext E10
      have X_b5 := X_b5.ext E10
      have V_b5 := V_b5.ext E10
      have F_chunks_b1 := F_chunks_b1.ext E10
      have F_count_b1 := F_count_b1.ext E10
      have V_ca := V_ca.ext E10
      have X_b8 := X_b8.ext E10
      have V_b8 := V_b8.ext E10
      have X_b9 := X_b9.ext E10
      have V_b9 := V_b9.ext E10
      refine OwnW.astore C (pc' := 125) at_123 rfl rfl (l' := #[.val (.int i0), .val (.int i1), .val (.ref b1), .val (.ref b3), .val (.ref b4), .val (.ref b5), .val (.int (1 : Int32)), .val (.ref b3), .val (.int (0 : Int32)), .val (.ref b8), .val (.ref b9), .val (.ref b10)]) rfl ?_
      refine OwnW.aload C (pc' := 127) at_125 rfl rfl rfl ?_
      refine OwnW.iconst C (pc' := 128) at_127 rfl (z := 1) rfl ?_
      refine OwnW.iload C (pc' := 130) at_128 rfl rfl ?_
      refine OwnW.aloadN C (pc' := 131) at_130 rfl rfl rfl ?_
      refine OwnW.aload C (pc' := 133) at_131 rfl rfl rfl ?_
      refine OwnW.aload C (pc' := 135) at_133 rfl rfl rfl ?_
      refine OwnW.callS C (pc' := 138) (y := (⟨"com/example/kinegrid/kinegrid/server/ChunkPoolTakePinLaw", "check", "([BII[B[B[B)Z"⟩ : MethodName)) (W := 0) (argsL := [(.ref b3), (.int (1 : Int32)), (.int (1 : Int32)), (.ref b3), (.ref b4), (.ref b5)]) (rest := []) (hw _ (List.mem_of_getElem? (i := 27) rfl)) (hw _ (List.mem_of_getElem? (i := 28) rfl)) (hw _ (List.mem_of_getElem? (i := 29) rfl)) (hw _ (List.mem_of_getElem? (i := 30) rfl)) (by decide) (own_checkA l Z a0 hw b3 1 1 b3 b4 b5 h10 n0 (by decide) rfl) (K' := 8) (S' := 49224) (by decide) (by decide) rfl own_pd___BII_B_B_B_Z rfl (Nat.le_of_eq rfl) rfl rfl (by decide) (by decide) rfl at_135 rfl (fun v h' hq => ?_)
      obtain ⟨rfl, hh⟩ := hq
      refine Go.at (st' := [(.int (1 : Int32))]) rfl ?_
      refine Go.heap hh ?_
      refine OwnW.ifNe C (pcY := 143) (pcN := 141) at_138 (by decide) rfl rfl (fun hc138 => ?_) (fun hc138 => absurd hc138 (by decide))
      refine OwnW.aload C (pc' := 145) at_143 rfl rfl rfl ?_
      refine OwnW.iconst C (pc' := 146) at_145 rfl (z := 2) rfl ?_
      refine OwnW.iload C (pc' := 148) at_146 rfl rfl ?_
      refine OwnW.aloadN C (pc' := 149) at_148 rfl rfl rfl ?_
      refine OwnW.aload C (pc' := 151) at_149 rfl rfl rfl ?_
      refine OwnW.aload C (pc' := 153) at_151 rfl rfl rfl ?_
      refine OwnW.callS C (pc' := 156) (y := (⟨"com/example/kinegrid/kinegrid/server/ChunkPoolTakePinLaw", "check", "([BII[B[B[B)Z"⟩ : MethodName)) (W := 0) (argsL := [(.ref b8), (.int (2 : Int32)), (.int (1 : Int32)), (.ref b3), (.ref b4), (.ref b5)]) (rest := []) (hw _ (List.mem_of_getElem? (i := 27) rfl)) (hw _ (List.mem_of_getElem? (i := 28) rfl)) (hw _ (List.mem_of_getElem? (i := 29) rfl)) (hw _ (List.mem_of_getElem? (i := 30) rfl)) (by decide) (own_checkB l Z a0 hw b8 2 1 b3 b4 b5 _ h10 n0 (by decide) V_b8 (Ne.symm ne_b3_b8) (Ne.symm ne_b4_b8) (Ne.symm ne_b5_b8)) (K' := 8) (S' := 49224) (by decide) (by decide) rfl own_pd___BII_B_B_B_Z rfl (Nat.le_of_eq rfl) rfl rfl (by decide) (by decide) rfl at_153 rfl (fun v h' hq => ?_)
      obtain ⟨rfl, hh⟩ := hq
      refine Go.at (st' := [(.int (1 : Int32))]) rfl ?_
      refine Go.heap hh ?_
      refine OwnW.ifNe C (pcY := 161) (pcN := 159) at_156 (by decide) rfl rfl (fun hc156 => ?_) (fun hc156 => absurd hc156 (by decide))
      refine OwnW.aload C (pc' := 163) at_161 rfl rfl rfl ?_
      refine OwnW.iconst C (pc' := 164) at_163 rfl (z := 3) rfl ?_
      refine OwnW.iload C (pc' := 166) at_164 rfl rfl ?_
      refine OwnW.aloadN C (pc' := 167) at_166 rfl rfl rfl ?_
      refine OwnW.aload C (pc' := 169) at_167 rfl rfl rfl ?_
      refine OwnW.aload C (pc' := 171) at_169 rfl rfl rfl ?_
      refine OwnW.callS C (pc' := 174) (y := (⟨"com/example/kinegrid/kinegrid/server/ChunkPoolTakePinLaw", "check", "([BII[B[B[B)Z"⟩ : MethodName)) (W := 0) (argsL := [(.ref b9), (.int (3 : Int32)), (.int (1 : Int32)), (.ref b3), (.ref b4), (.ref b5)]) (rest := []) (hw _ (List.mem_of_getElem? (i := 27) rfl)) (hw _ (List.mem_of_getElem? (i := 28) rfl)) (hw _ (List.mem_of_getElem? (i := 29) rfl)) (hw _ (List.mem_of_getElem? (i := 30) rfl)) (by decide) (own_checkB l Z a0 hw b9 3 1 b3 b4 b5 _ h10 n0 (by decide) V_b9 (Ne.symm ne_b3_b9) (Ne.symm ne_b4_b9) (Ne.symm ne_b5_b9)) (K' := 8) (S' := 49224) (by decide) (by decide) rfl own_pd___BII_B_B_B_Z rfl (Nat.le_of_eq rfl) rfl rfl (by decide) (by decide) rfl at_171 rfl (fun v h' hq => ?_)
      obtain ⟨rfl, hh⟩ := hq
      refine Go.at (st' := [(.int (1 : Int32))]) rfl ?_
      refine Go.heap hh ?_
      refine OwnW.ifNe C (pcY := 179) (pcN := 177) at_174 (by decide) rfl rfl (fun hc174 => ?_) (fun hc174 => absurd hc174 (by decide))
      refine OwnW.aload C (pc' := 181) at_179 rfl rfl rfl ?_
      refine OwnW.iconst C (pc' := 182) at_181 rfl (z := 4) rfl ?_
      refine OwnW.iload C (pc' := 184) at_182 rfl rfl ?_
      refine OwnW.aloadN C (pc' := 185) at_184 rfl rfl rfl ?_
      refine OwnW.aload C (pc' := 187) at_185 rfl rfl rfl ?_
      refine OwnW.aload C (pc' := 189) at_187 rfl rfl rfl ?_
      refine OwnW.callS C (pc' := 192) (y := (⟨"com/example/kinegrid/kinegrid/server/ChunkPoolTakePinLaw", "check", "([BII[B[B[B)Z"⟩ : MethodName)) (W := 0) (argsL := [(.ref b10), (.int (4 : Int32)), (.int (1 : Int32)), (.ref b3), (.ref b4), (.ref b5)]) (rest := []) (hw _ (List.mem_of_getElem? (i := 27) rfl)) (hw _ (List.mem_of_getElem? (i := 28) rfl)) (hw _ (List.mem_of_getElem? (i := 29) rfl)) (hw _ (List.mem_of_getElem? (i := 30) rfl)) (by decide) (own_checkB l Z a0 hw b10 4 1 b3 b4 b5 _ h10 n0 (by decide) V_b10 (Ne.symm ne_b3_b10) (Ne.symm ne_b4_b10) (Ne.symm ne_b5_b10)) (K' := 8) (S' := 49224) (by decide) (by decide) rfl own_pd___BII_B_B_B_Z rfl (Nat.le_of_eq rfl) rfl rfl (by decide) (by decide) rfl at_189 rfl (fun v h' hq => ?_)
      obtain ⟨rfl, hh⟩ := hq
      refine Go.at (st' := [(.int (1 : Int32))]) rfl ?_
      refine Go.heap hh ?_
      refine OwnW.ifNe C (pcY := 197) (pcN := 195) at_192 (by decide) rfl rfl (fun hc192 => ?_) (fun hc192 => absurd hc192 (by decide))
      refine OwnW.aload C (pc' := 199) at_197 rfl rfl rfl ?_
      refine OwnW.aload C (pc' := 201) at_199 rfl rfl rfl ?_
      refine OwnW.acEq C (pcY := 243) (pcN := 204) rfl rfl at_201 (by decide) rfl rfl (fun hc201 => absurd (Value.ref.inj hc201) ne_b3_b8) (fun hc201 => ?_)
      refine OwnW.aload C (pc' := 206) at_204 rfl rfl rfl ?_
      refine OwnW.aload C (pc' := 208) at_206 rfl rfl rfl ?_
      refine OwnW.acEq C (pcY := 243) (pcN := 211) rfl rfl at_208 (by decide) rfl rfl (fun hc208 => absurd (Value.ref.inj hc208) ne_b3_b9) (fun hc208 => ?_)
      refine OwnW.aload C (pc' := 213) at_211 rfl rfl rfl ?_
      refine OwnW.aload C (pc' := 215) at_213 rfl rfl rfl ?_
      refine OwnW.acEq C (pcY := 243) (pcN := 218) rfl rfl at_215 (by decide) rfl rfl (fun hc215 => absurd (Value.ref.inj hc215) ne_b3_b10) (fun hc215 => ?_)
      refine OwnW.aload C (pc' := 220) at_218 rfl rfl rfl ?_
      refine OwnW.aload C (pc' := 222) at_220 rfl rfl rfl ?_
      refine OwnW.acEq C (pcY := 243) (pcN := 225) rfl rfl at_222 (by decide) rfl rfl (fun hc222 => absurd (Value.ref.inj hc222) ne_b8_b9) (fun hc222 => ?_)
      refine OwnW.aload C (pc' := 227) at_225 rfl rfl rfl ?_
      refine OwnW.aload C (pc' := 229) at_227 rfl rfl rfl ?_
      refine OwnW.acEq C (pcY := 243) (pcN := 232) rfl rfl at_229 (by decide) rfl rfl (fun hc229 => absurd (Value.ref.inj hc229) ne_b8_b10) (fun hc229 => ?_)
      refine OwnW.aload C (pc' := 234) at_232 rfl rfl rfl ?_
      refine OwnW.aload C (pc' := 236) at_234 rfl rfl rfl ?_
      refine OwnW.acEq C (pcY := 243) (pcN := 239) rfl rfl at_236 (by decide) rfl rfl (fun hc236 => absurd (Value.ref.inj hc236) ne_b9_b10) (fun hc236 => ?_)
      refine OwnW.iconst C (pc' := 240) at_239 rfl (z := 1) rfl ?_
      refine OwnW.goto C (pc' := 244) at_240 (by decide) rfl ?_
      exact OwnW.retN C (t := .boolean) (z := (1 : Int32)) rfl (by simp) rfl rfl (by decide) (by decide) at_244
    · refine OwnW.iconst C (pc' := 75) at_74 rfl (z := 1) rfl ?_
      refine OwnW.goto C (pc' := 79) at_75 (by decide) rfl ?_
      refine OwnW.istore C (pc' := 81) at_79 rfl (l' := #[.val (.int i0), .val (.int i1), .val (.ref b1), .val (.ref b3), .val (.ref b4), .val (.ref b5), .val (.int (1 : Int32)), .val (.ref b3), .val (.int (1 : Int32)), .unset, .unset, .unset]) rfl ?_
      refine OwnW.iload C (pc' := 83) at_81 rfl rfl ?_
      refine OwnW.ifEq C (pcY := 107) (pcN := 86) at_83 (by decide) rfl rfl (fun hc83 => absurd hc83 (by decide)) (fun hc83 => ?_)
      refine OwnW.aloadN C (pc' := 87) at_86 rfl rfl rfl ?_
      refine OwnW.aload C (pc' := 89) at_87 rfl rfl rfl ?_
      refine OwnW.callV C (pc' := 92) (y := (⟨"com/example/kinegrid/kinegrid/server/ChunkPool", "give", "([B)V"⟩ : MethodName)) (z := (⟨"com/example/kinegrid/kinegrid/server/ChunkPool", "give", "([B)V"⟩ : MethodName)) (W := 0) (argsL := [(.ref b3)]) (rest := []) (hw _ (List.mem_of_getElem? (i := 21) rfl)) (hw _ (List.mem_of_getElem? (i := 22) rfl)) (notFace_of_selects (args := #[]) (mvT C.2.1 (hw _ (List.mem_of_getElem? (i := 24) rfl)))) (hw _ (List.mem_of_getElem? (i := 24) rfl)) (hw _ (List.mem_of_getElem? (i := 23) rfl)) (hw _ (List.mem_of_getElem? (i := 2) rfl)) (hw _ (List.mem_of_getElem? (i := 25) rfl)) X_b1 (by decide) (own_give l Z a0 hw b1 b3 ca 0 1 0 (((List.replicate 64 .null).set 0 (.ref b3)).set 0 .null) cA h7 n0 X_b1 F_chunks_b1 F_count_b1 V_ca g_b1 g_ca ne_b1_ca rfl ⟨by decide, by decide⟩ rfl (Nat.le_of_ble_eq_true rfl) (sto_ofA V_ca OV (Ins.self X_b3))) (K' := 5) (S' := 72) (by decide) (by decide) rfl own_pd___B_V rfl (Nat.le_of_eq rfl) rfl rfl (by decide) (by decide) rfl at_89 rfl (fun v h8 hq => ?_)
      obtain ⟨rfl, KK, F_chunks_b1', F_count_b1', V_ca'⟩ := hq
      refine Go.at (st' := []) rfl ?_
      have O := O.keep KK (allS (g_b1) (allS (g_ca) all0))
      have Sz := Nat.le_trans Sz KK.1
      have X_b1 := X_b1.keep KK
      have X_b3 := X_b3.keep KK
      have V_b3 := V_b3.keep KK (ninS (Ne.symm ne_b1_b3) (ninS (Ne.symm ne_ca_b3) nin0))
      have X_b4 := X_b4.keep KK
      have V_b4 := V_b4.keep KK (ninS (Ne.symm ne_b1_b4) (ninS (Ne.symm ne_ca_b4) nin0))
      have X_b5 := X_b5.keep KK
      have V_b5 := V_b5.keep KK (ninS (Ne.symm ne_b1_b5) (ninS (Ne.symm ne_ca_b5) nin0))
      have F_chunks_b1 := F_chunks_b1'
      have F_count_b1 := F_count_b1'
      have V_ca := V_ca'
      refine OwnW.aloadN C (pc' := 93) at_92 rfl rfl rfl ?_
      refine OwnW.callV C (pc' := 96) (y := (⟨"com/example/kinegrid/kinegrid/server/ChunkPool", "take", "()[B"⟩ : MethodName)) (z := (⟨"com/example/kinegrid/kinegrid/server/ChunkPool", "take", "()[B"⟩ : MethodName)) (W := 0) (argsL := []) (rest := []) (hw _ (List.mem_of_getElem? (i := 14) rfl)) (hw _ (List.mem_of_getElem? (i := 15) rfl)) (notFace_of_selects (args := #[]) (mvT C.2.1 (hw _ (List.mem_of_getElem? (i := 17) rfl)))) (hw _ (List.mem_of_getElem? (i := 17) rfl)) (hw _ (List.mem_of_getElem? (i := 16) rfl)) (hw _ (List.mem_of_getElem? (i := 2) rfl)) (hw _ (List.mem_of_getElem? (i := 18) rfl)) X_b1 (by decide) (own_take l Z a0 hw b1 b3 ca 1 0 0 ((((List.replicate 64 .null).set 0 (.ref b3)).set 0 .null).set 0 (.ref b3)) cA h8 n0 X_b1 F_chunks_b1 F_count_b1 V_ca g_b1 g_ca ne_b1_ca (by decide) rfl ⟨by decide, by decide⟩ rfl (Nat.le_of_ble_eq_true rfl) rfl) (K' := 5) (S' := 72) (by decide) (by decide) rfl own_pd____B rfl (Nat.le_of_eq rfl) rfl rfl (by decide) (by decide) rfl at_93 rfl (fun v h9 hq => ?_)
      obtain ⟨rfl, KK, F_chunks_b1', F_count_b1', V_ca'⟩ := hq
      refine Go.at (st' := [(.ref b3)]) rfl ?_
      have O := O.keep KK (allS (g_b1) (allS (g_ca) all0))
      have Sz := Nat.le_trans Sz KK.1
      have X_b1 := X_b1.keep KK
      have X_b3 := X_b3.keep KK
      have V_b3 := V_b3.keep KK (ninS (Ne.symm ne_b1_b3) (ninS (Ne.symm ne_ca_b3) nin0))
      have X_b4 := X_b4.keep KK
      have V_b4 := V_b4.keep KK (ninS (Ne.symm ne_b1_b4) (ninS (Ne.symm ne_ca_b4) nin0))
      have X_b5 := X_b5.keep KK
      have V_b5 := V_b5.keep KK (ninS (Ne.symm ne_b1_b5) (ninS (Ne.symm ne_ca_b5) nin0))
      have F_chunks_b1 := F_chunks_b1'
      have F_count_b1 := F_count_b1'
      have V_ca := V_ca'
      refine OwnW.astore C (pc' := 98) at_96 rfl rfl (l' := #[.val (.int i0), .val (.int i1), .val (.ref b1), .val (.ref b3), .val (.ref b4), .val (.ref b5), .val (.int (1 : Int32)), .val (.ref b3), .val (.int (1 : Int32)), .val (.ref b3), .unset, .unset]) rfl ?_
      refine OwnW.aload C (pc' := 100) at_98 rfl rfl rfl ?_
      refine OwnW.aload C (pc' := 102) at_100 rfl rfl rfl ?_
      refine OwnW.acEq C (pcY := 107) (pcN := 105) rfl rfl at_102 (by decide) rfl rfl (fun hc102 => ?_) (fun hc102 => absurd rfl hc102)
      refine OwnW.aloadN C (pc' := 108) at_107 rfl rfl rfl ?_
      refine OwnW.callV C (pc' := 111) (y := (⟨"com/example/kinegrid/kinegrid/server/ChunkPool", "take", "()[B"⟩ : MethodName)) (z := (⟨"com/example/kinegrid/kinegrid/server/ChunkPool", "take", "()[B"⟩ : MethodName)) (W := 0) (argsL := []) (rest := []) (hw _ (List.mem_of_getElem? (i := 14) rfl)) (hw _ (List.mem_of_getElem? (i := 15) rfl)) (notFace_of_selects (args := #[]) (mvT C.2.1 (hw _ (List.mem_of_getElem? (i := 17) rfl)))) (hw _ (List.mem_of_getElem? (i := 17) rfl)) (hw _ (List.mem_of_getElem? (i := 16) rfl)) (hw _ (List.mem_of_getElem? (i := 2) rfl)) (hw _ (List.mem_of_getElem? (i := 18) rfl)) X_b1 (by decide) (own_take0 l Z a0 hw b1 h9 n0 F_count_b1) (K' := 6) (S' := 16456) (by decide) (by decide) rfl own_pd____B rfl (Nat.le_of_eq rfl) rfl rfl (by decide) (by decide) rfl at_108 rfl (fun v h10 hq => ?_)
      obtain ⟨b10, cA_b10, rfl, g10, E10, V_b10, X_b10⟩ := hq
      refine Go.at (st' := [(.ref b10)]) rfl ?_
      have ne_b1_b10 : b1 ≠ b10 := Nat.ne_of_lt (Nat.lt_of_lt_of_eq X_b1.lt g10.symm)
      have ne_b3_b10 : b3 ≠ b10 := Nat.ne_of_lt (Nat.lt_of_lt_of_eq X_b3.lt g10.symm)
      have ne_b4_b10 : b4 ≠ b10 := Nat.ne_of_lt (Nat.lt_of_lt_of_eq X_b4.lt g10.symm)
      have ne_b5_b10 : b5 ≠ b10 := Nat.ne_of_lt (Nat.lt_of_lt_of_eq X_b5.lt g10.symm)
      have ne_ca_b10 : ca ≠ b10 := Nat.ne_of_lt (Nat.lt_of_lt_of_eq V_ca.lt g10.symm)
      have g_b10 : n0 ≤ b10 := Nat.le_trans Sz (Nat.le_of_eq g10.symm)
      have O := O.ext E10
      have Sz := Nat.le_trans Sz E10.1
      have X_b1 := X_b1.ext E10
      have X_b3 := X_b3.ext E10
      have V_b3 := V_b3.ext E10
      have X_b4 := X_b4.ext E10
      have V_b4 := V_b4.ext E10
      have X_b5 := X_b5.ext E10
      have V_b5 := V_b5.ext E10
      have F_chunks_b1 := F_chunks_b1.ext E10
      have F_count_b1 := F_count_b1.ext E10
      have V_ca := V_ca.ext E10
      refine OwnW.astore C (pc' := 113) at_111 rfl rfl (l' := #[.val (.int i0), .val (.int i1), .val (.ref b1), .val (.ref b3), .val (.ref b4), .val (.ref b5), .val (.int (1 : Int32)), .val (.ref b3), .val (.int (1 : Int32)), .val (.ref b10), .unset, .unset]) rfl ?_
      refine OwnW.aloadN C (pc' := 114) at_113 rfl rfl rfl ?_
      refine OwnW.callV C (pc' := 117) (y := (⟨"com/example/kinegrid/kinegrid/server/ChunkPool", "take", "()[B"⟩ : MethodName)) (z := (⟨"com/example/kinegrid/kinegrid/server/ChunkPool", "take", "()[B"⟩ : MethodName)) (W := 0) (argsL := []) (rest := []) (hw _ (List.mem_of_getElem? (i := 14) rfl)) (hw _ (List.mem_of_getElem? (i := 15) rfl)) (notFace_of_selects (args := #[]) (mvT C.2.1 (hw _ (List.mem_of_getElem? (i := 17) rfl)))) (hw _ (List.mem_of_getElem? (i := 17) rfl)) (hw _ (List.mem_of_getElem? (i := 16) rfl)) (hw _ (List.mem_of_getElem? (i := 2) rfl)) (hw _ (List.mem_of_getElem? (i := 18) rfl)) X_b1 (by decide) (own_take0 l Z a0 hw b1 h10 n0 F_count_b1) (K' := 7) (S' := 32840) (by decide) (by decide) rfl own_pd____B rfl (Nat.le_of_eq rfl) rfl rfl (by decide) (by decide) rfl at_114 rfl (fun v h11 hq => ?_)
      obtain ⟨b11, cA_b11, rfl, g11, E11, V_b11, X_b11⟩ := hq
      refine Go.at (st' := [(.ref b11)]) rfl ?_
      have ne_b1_b11 : b1 ≠ b11 := Nat.ne_of_lt (Nat.lt_of_lt_of_eq X_b1.lt g11.symm)
      have ne_b3_b11 : b3 ≠ b11 := Nat.ne_of_lt (Nat.lt_of_lt_of_eq X_b3.lt g11.symm)
      have ne_b4_b11 : b4 ≠ b11 := Nat.ne_of_lt (Nat.lt_of_lt_of_eq X_b4.lt g11.symm)
      have ne_b5_b11 : b5 ≠ b11 := Nat.ne_of_lt (Nat.lt_of_lt_of_eq X_b5.lt g11.symm)
      have ne_ca_b11 : ca ≠ b11 := Nat.ne_of_lt (Nat.lt_of_lt_of_eq V_ca.lt g11.symm)
      have ne_b10_b11 : b10 ≠ b11 := Nat.ne_of_lt (Nat.lt_of_lt_of_eq X_b10.lt g11.symm)
      have g_b11 : n0 ≤ b11 := Nat.le_trans Sz (Nat.le_of_eq g11.symm)
      have O := O.ext E11
      have Sz := Nat.le_trans Sz E11.1
      have X_b1 := X_b1.ext E11
      have X_b3 := X_b3.ext E11
      have V_b3 := V_b3.ext E11
      have X_b4 := X_b4.ext E11
      have V_b4 := V_b4.ext E11
      have X_b5 := X_b5.ext E11
      have V_b5 := V_b5.ext E11
      have F_chunks_b1 := F_chunks_b1.ext E11
      have F_count_b1 := F_count_b1.ext E11
      have V_ca := V_ca.ext E11
      have X_b10 := X_b10.ext E11
      have V_b10 := V_b10.ext E11
      refine OwnW.astore C (pc' := 119) at_117 rfl rfl (l' := #[.val (.int i0), .val (.int i1), .val (.ref b1), .val (.ref b3), .val (.ref b4), .val (.ref b5), .val (.int (1 : Int32)), .val (.ref b3), .val (.int (1 : Int32)), .val (.ref b10), .val (.ref b11), .unset]) rfl ?_
      refine OwnW.aloadN C (pc' := 120) at_119 rfl rfl rfl ?_
      refine OwnW.callV C (pc' := 123) (y := (⟨"com/example/kinegrid/kinegrid/server/ChunkPool", "take", "()[B"⟩ : MethodName)) (z := (⟨"com/example/kinegrid/kinegrid/server/ChunkPool", "take", "()[B"⟩ : MethodName)) (W := 0) (argsL := []) (rest := []) (hw _ (List.mem_of_getElem? (i := 14) rfl)) (hw _ (List.mem_of_getElem? (i := 15) rfl)) (notFace_of_selects (args := #[]) (mvT C.2.1 (hw _ (List.mem_of_getElem? (i := 17) rfl)))) (hw _ (List.mem_of_getElem? (i := 17) rfl)) (hw _ (List.mem_of_getElem? (i := 16) rfl)) (hw _ (List.mem_of_getElem? (i := 2) rfl)) (hw _ (List.mem_of_getElem? (i := 18) rfl)) X_b1 (by decide) (own_take0 l Z a0 hw b1 h11 n0 F_count_b1) (K' := 8) (S' := 49224) (by decide) (by decide) rfl own_pd____B rfl (Nat.le_of_eq rfl) rfl rfl (by decide) (by decide) rfl at_120 rfl (fun v h12 hq => ?_)
      obtain ⟨b12, cA_b12, rfl, g12, E12, V_b12, X_b12⟩ := hq
      refine Go.at (st' := [(.ref b12)]) rfl ?_
      have ne_b1_b12 : b1 ≠ b12 := Nat.ne_of_lt (Nat.lt_of_lt_of_eq X_b1.lt g12.symm)
      have ne_b3_b12 : b3 ≠ b12 := Nat.ne_of_lt (Nat.lt_of_lt_of_eq X_b3.lt g12.symm)
      have ne_b4_b12 : b4 ≠ b12 := Nat.ne_of_lt (Nat.lt_of_lt_of_eq X_b4.lt g12.symm)
      have ne_b5_b12 : b5 ≠ b12 := Nat.ne_of_lt (Nat.lt_of_lt_of_eq X_b5.lt g12.symm)
      have ne_ca_b12 : ca ≠ b12 := Nat.ne_of_lt (Nat.lt_of_lt_of_eq V_ca.lt g12.symm)
      have ne_b10_b12 : b10 ≠ b12 := Nat.ne_of_lt (Nat.lt_of_lt_of_eq X_b10.lt g12.symm)
      have ne_b11_b12 : b11 ≠ b12 := Nat.ne_of_lt (Nat.lt_of_lt_of_eq X_b11.lt g12.symm)
      have g_b12 : n0 ≤ b12 := Nat.le_trans Sz (Nat.le_of_eq g12.symm)
      have O := O.ext E12
      have Sz := Nat.le_trans Sz E12.1
      have X_b1 := X_b1.ext E12
      have X_b3 := X_b3.ext E12
      have V_b3 := V_b3.ext E12
      have X_b4 := X_b4.ext E12
      have V_b4 := V_b4.ext E12
      have X_b5 := X_b5.ext E12
      have V_b5 := V_b5.ext E12
      have F_chunks_b1 := F_chunks_b1.ext E12
      have F_count_b1 := F_count_b1.ext E12
      have V_ca := V_ca.ext E12
      have X_b10 := X_b10.ext E12
      have V_b10 := V_b10.ext E12
      have X_b11 := X_b11.ext E12
      have V_b11 := V_b11.ext E12
      refine OwnW.astore C (pc' := 125) at_123 rfl rfl (l' := #[.val (.int i0), .val (.int i1), .val (.ref b1), .val (.ref b3), .val (.ref b4), .val (.ref b5), .val (.int (1 : Int32)), .val (.ref b3), .val (.int (1 : Int32)), .val (.ref b10), .val (.ref b11), .val (.ref b12)]) rfl ?_
      refine OwnW.aload C (pc' := 127) at_125 rfl rfl rfl ?_
      refine OwnW.iconst C (pc' := 128) at_127 rfl (z := 1) rfl ?_
      refine OwnW.iload C (pc' := 130) at_128 rfl rfl ?_
      refine OwnW.aloadN C (pc' := 131) at_130 rfl rfl rfl ?_
      refine OwnW.aload C (pc' := 133) at_131 rfl rfl rfl ?_
      refine OwnW.aload C (pc' := 135) at_133 rfl rfl rfl ?_
      refine OwnW.callS C (pc' := 138) (y := (⟨"com/example/kinegrid/kinegrid/server/ChunkPoolTakePinLaw", "check", "([BII[B[B[B)Z"⟩ : MethodName)) (W := 0) (argsL := [(.ref b3), (.int (1 : Int32)), (.int (1 : Int32)), (.ref b3), (.ref b4), (.ref b5)]) (rest := []) (hw _ (List.mem_of_getElem? (i := 27) rfl)) (hw _ (List.mem_of_getElem? (i := 28) rfl)) (hw _ (List.mem_of_getElem? (i := 29) rfl)) (hw _ (List.mem_of_getElem? (i := 30) rfl)) (by decide) (own_checkA l Z a0 hw b3 1 1 b3 b4 b5 h12 n0 (by decide) rfl) (K' := 8) (S' := 49224) (by decide) (by decide) rfl own_pd___BII_B_B_B_Z rfl (Nat.le_of_eq rfl) rfl rfl (by decide) (by decide) rfl at_135 rfl (fun v h' hq => ?_)
      obtain ⟨rfl, hh⟩ := hq
      refine Go.at (st' := [(.int (1 : Int32))]) rfl ?_
      refine Go.heap hh ?_
      refine OwnW.ifNe C (pcY := 143) (pcN := 141) at_138 (by decide) rfl rfl (fun hc138 => ?_) (fun hc138 => absurd hc138 (by decide))
      refine OwnW.aload C (pc' := 145) at_143 rfl rfl rfl ?_
      refine OwnW.iconst C (pc' := 146) at_145 rfl (z := 2) rfl ?_
      refine OwnW.iload C (pc' := 148) at_146 rfl rfl ?_
      refine OwnW.aloadN C (pc' := 149) at_148 rfl rfl rfl ?_
      refine OwnW.aload C (pc' := 151) at_149 rfl rfl rfl ?_
      refine OwnW.aload C (pc' := 153) at_151 rfl rfl rfl ?_
      refine OwnW.callS C (pc' := 156) (y := (⟨"com/example/kinegrid/kinegrid/server/ChunkPoolTakePinLaw", "check", "([BII[B[B[B)Z"⟩ : MethodName)) (W := 0) (argsL := [(.ref b10), (.int (2 : Int32)), (.int (1 : Int32)), (.ref b3), (.ref b4), (.ref b5)]) (rest := []) (hw _ (List.mem_of_getElem? (i := 27) rfl)) (hw _ (List.mem_of_getElem? (i := 28) rfl)) (hw _ (List.mem_of_getElem? (i := 29) rfl)) (hw _ (List.mem_of_getElem? (i := 30) rfl)) (by decide) (own_checkB l Z a0 hw b10 2 1 b3 b4 b5 _ h12 n0 (by decide) V_b10 (Ne.symm ne_b3_b10) (Ne.symm ne_b4_b10) (Ne.symm ne_b5_b10)) (K' := 8) (S' := 49224) (by decide) (by decide) rfl own_pd___BII_B_B_B_Z rfl (Nat.le_of_eq rfl) rfl rfl (by decide) (by decide) rfl at_153 rfl (fun v h' hq => ?_)
      obtain ⟨rfl, hh⟩ := hq
      refine Go.at (st' := [(.int (1 : Int32))]) rfl ?_
      refine Go.heap hh ?_
      refine OwnW.ifNe C (pcY := 161) (pcN := 159) at_156 (by decide) rfl rfl (fun hc156 => ?_) (fun hc156 => absurd hc156 (by decide))
      refine OwnW.aload C (pc' := 163) at_161 rfl rfl rfl ?_
      refine OwnW.iconst C (pc' := 164) at_163 rfl (z := 3) rfl ?_
      refine OwnW.iload C (pc' := 166) at_164 rfl rfl ?_
      refine OwnW.aloadN C (pc' := 167) at_166 rfl rfl rfl ?_
      refine OwnW.aload C (pc' := 169) at_167 rfl rfl rfl ?_
      refine OwnW.aload C (pc' := 171) at_169 rfl rfl rfl ?_
      refine OwnW.callS C (pc' := 174) (y := (⟨"com/example/kinegrid/kinegrid/server/ChunkPoolTakePinLaw", "check", "([BII[B[B[B)Z"⟩ : MethodName)) (W := 0) (argsL := [(.ref b11), (.int (3 : Int32)), (.int (1 : Int32)), (.ref b3), (.ref b4), (.ref b5)]) (rest := []) (hw _ (List.mem_of_getElem? (i := 27) rfl)) (hw _ (List.mem_of_getElem? (i := 28) rfl)) (hw _ (List.mem_of_getElem? (i := 29) rfl)) (hw _ (List.mem_of_getElem? (i := 30) rfl)) (by decide) (own_checkB l Z a0 hw b11 3 1 b3 b4 b5 _ h12 n0 (by decide) V_b11 (Ne.symm ne_b3_b11) (Ne.symm ne_b4_b11) (Ne.symm ne_b5_b11)) (K' := 8) (S' := 49224) (by decide) (by decide) rfl own_pd___BII_B_B_B_Z rfl (Nat.le_of_eq rfl) rfl rfl (by decide) (by decide) rfl at_171 rfl (fun v h' hq => ?_)
      obtain ⟨rfl, hh⟩ := hq
      refine Go.at (st' := [(.int (1 : Int32))]) rfl ?_
      refine Go.heap hh ?_
      refine OwnW.ifNe C (pcY := 179) (pcN := 177) at_174 (by decide) rfl rfl (fun hc174 => ?_) (fun hc174 => absurd hc174 (by decide))
      refine OwnW.aload C (pc' := 181) at_179 rfl rfl rfl ?_
      refine OwnW.iconst C (pc' := 182) at_181 rfl (z := 4) rfl ?_
      refine OwnW.iload C (pc' := 184) at_182 rfl rfl ?_
      refine OwnW.aloadN C (pc' := 185) at_184 rfl rfl rfl ?_
      refine OwnW.aload C (pc' := 187) at_185 rfl rfl rfl ?_
      refine OwnW.aload C (pc' := 189) at_187 rfl rfl rfl ?_
      refine OwnW.callS C (pc' := 192) (y := (⟨"com/example/kinegrid/kinegrid/server/ChunkPoolTakePinLaw", "check", "([BII[B[B[B)Z"⟩ : MethodName)) (W := 0) (argsL := [(.ref b12), (.int (4 : Int32)), (.int (1 : Int32)), (.ref b3), (.ref b4), (.ref b5)]) (rest := []) (hw _ (List.mem_of_getElem? (i := 27) rfl)) (hw _ (List.mem_of_getElem? (i := 28) rfl)) (hw _ (List.mem_of_getElem? (i := 29) rfl)) (hw _ (List.mem_of_getElem? (i := 30) rfl)) (by decide) (own_checkB l Z a0 hw b12 4 1 b3 b4 b5 _ h12 n0 (by decide) V_b12 (Ne.symm ne_b3_b12) (Ne.symm ne_b4_b12) (Ne.symm ne_b5_b12)) (K' := 8) (S' := 49224) (by decide) (by decide) rfl own_pd___BII_B_B_B_Z rfl (Nat.le_of_eq rfl) rfl rfl (by decide) (by decide) rfl at_189 rfl (fun v h' hq => ?_)
      obtain ⟨rfl, hh⟩ := hq
      refine Go.at (st' := [(.int (1 : Int32))]) rfl ?_
      refine Go.heap hh ?_
      refine OwnW.ifNe C (pcY := 197) (pcN := 195) at_192 (by decide) rfl rfl (fun hc192 => ?_) (fun hc192 => absurd hc192 (by decide))
      refine OwnW.aload C (pc' := 199) at_197 rfl rfl rfl ?_
      refine OwnW.aload C (pc' := 201) at_199 rfl rfl rfl ?_
      refine OwnW.acEq C (pcY := 243) (pcN := 204) rfl rfl at_201 (by decide) rfl rfl (fun hc201 => absurd (Value.ref.inj hc201) ne_b3_b10) (fun hc201 => ?_)
      refine OwnW.aload C (pc' := 206) at_204 rfl rfl rfl ?_
      refine OwnW.aload C (pc' := 208) at_206 rfl rfl rfl ?_
      refine OwnW.acEq C (pcY := 243) (pcN := 211) rfl rfl at_208 (by decide) rfl rfl (fun hc208 => absurd (Value.ref.inj hc208) ne_b3_b11) (fun hc208 => ?_)
      refine OwnW.aload C (pc' := 213) at_211 rfl rfl rfl ?_
      refine OwnW.aload C (pc' := 215) at_213 rfl rfl rfl ?_
      refine OwnW.acEq C (pcY := 243) (pcN := 218) rfl rfl at_215 (by decide) rfl rfl (fun hc215 => absurd (Value.ref.inj hc215) ne_b3_b12) (fun hc215 => ?_)
      refine OwnW.aload C (pc' := 220) at_218 rfl rfl rfl ?_
      refine OwnW.aload C (pc' := 222) at_220 rfl rfl rfl ?_
      refine OwnW.acEq C (pcY := 243) (pcN := 225) rfl rfl at_222 (by decide) rfl rfl (fun hc222 => absurd (Value.ref.inj hc222) ne_b10_b11) (fun hc222 => ?_)
      refine OwnW.aload C (pc' := 227) at_225 rfl rfl rfl ?_
      refine OwnW.aload C (pc' := 229) at_227 rfl rfl rfl ?_
      refine OwnW.acEq C (pcY := 243) (pcN := 232) rfl rfl at_229 (by decide) rfl rfl (fun hc229 => absurd (Value.ref.inj hc229) ne_b10_b12) (fun hc229 => ?_)
      refine OwnW.aload C (pc' := 234) at_232 rfl rfl rfl ?_
      refine OwnW.aload C (pc' := 236) at_234 rfl rfl rfl ?_
      refine OwnW.acEq C (pcY := 243) (pcN := 239) rfl rfl at_236 (by decide) rfl rfl (fun hc236 => absurd (Value.ref.inj hc236) ne_b11_b12) (fun hc236 => ?_)
      refine OwnW.iconst C (pc' := 240) at_239 rfl (z := 1) rfl ?_
      refine OwnW.goto C (pc' := 244) at_240 (by decide) rfl ?_
      exact OwnW.retN C (t := .boolean) (z := (1 : Int32)) rfl (by simp) rfl rfl (by decide) (by decide) at_244
  · rw [hk]
    refine OwnW.iload C (pc' := 29) at_27 rfl rfl ?_
    refine OwnW.iconst C (pc' := 30) at_29 rfl (z := 1) rfl ?_
    refine OwnW.icLt C (pcY := 38) (pcN := 33) at_30 (by decide) rfl rfl (fun hc30 => absurd hc30 (by decide)) (fun hc30 => ?_)
    refine OwnW.aloadN C (pc' := 34) at_33 rfl rfl rfl ?_
    refine OwnW.aloadN C (pc' := 35) at_34 rfl rfl rfl ?_
    refine OwnW.callV C (pc' := 38) (y := (⟨"com/example/kinegrid/kinegrid/server/ChunkPool", "give", "([B)V"⟩ : MethodName)) (z := (⟨"com/example/kinegrid/kinegrid/server/ChunkPool", "give", "([B)V"⟩ : MethodName)) (W := 0) (argsL := [(.ref b3)]) (rest := []) (hw _ (List.mem_of_getElem? (i := 21) rfl)) (hw _ (List.mem_of_getElem? (i := 22) rfl)) (notFace_of_selects (args := #[]) (mvT C.2.1 (hw _ (List.mem_of_getElem? (i := 24) rfl)))) (hw _ (List.mem_of_getElem? (i := 24) rfl)) (hw _ (List.mem_of_getElem? (i := 23) rfl)) (hw _ (List.mem_of_getElem? (i := 2) rfl)) (hw _ (List.mem_of_getElem? (i := 25) rfl)) X_b1 (by decide) (own_give l Z a0 hw b1 b3 ca 0 1 0 (List.replicate 64 .null) cA h5 n0 X_b1 F_chunks_b1 F_count_b1 V_ca g_b1 g_ca ne_b1_ca rfl ⟨by decide, by decide⟩ rfl (Nat.le_of_ble_eq_true rfl) (sto_ofA V_ca OV (Ins.self X_b3))) (K' := 5) (S' := 72) (by decide) (by decide) rfl own_pd___B_V rfl (Nat.le_of_eq rfl) rfl rfl (by decide) (by decide) rfl at_35 rfl (fun v h6 hq => ?_)
    obtain ⟨rfl, KK, F_chunks_b1', F_count_b1', V_ca'⟩ := hq
    refine Go.at (st' := []) rfl ?_
    have O := O.keep KK (allS (g_b1) (allS (g_ca) all0))
    have Sz := Nat.le_trans Sz KK.1
    have X_b1 := X_b1.keep KK
    have X_b3 := X_b3.keep KK
    have V_b3 := V_b3.keep KK (ninS (Ne.symm ne_b1_b3) (ninS (Ne.symm ne_ca_b3) nin0))
    have X_b4 := X_b4.keep KK
    have V_b4 := V_b4.keep KK (ninS (Ne.symm ne_b1_b4) (ninS (Ne.symm ne_ca_b4) nin0))
    have X_b5 := X_b5.keep KK
    have V_b5 := V_b5.keep KK (ninS (Ne.symm ne_b1_b5) (ninS (Ne.symm ne_ca_b5) nin0))
    have F_chunks_b1 := F_chunks_b1'
    have F_count_b1 := F_count_b1'
    have V_ca := V_ca'
    refine OwnW.iload C (pc' := 40) at_38 rfl rfl ?_
    refine OwnW.iconst C (pc' := 41) at_40 rfl (z := 2) rfl ?_
    refine OwnW.icLt C (pcY := 50) (pcN := 44) at_41 (by decide) rfl rfl (fun hc41 => absurd hc41 (by decide)) (fun hc41 => ?_)
    refine OwnW.aloadN C (pc' := 45) at_44 rfl rfl rfl ?_
    refine OwnW.aload C (pc' := 47) at_45 rfl rfl rfl ?_
    refine OwnW.callV C (pc' := 50) (y := (⟨"com/example/kinegrid/kinegrid/server/ChunkPool", "give", "([B)V"⟩ : MethodName)) (z := (⟨"com/example/kinegrid/kinegrid/server/ChunkPool", "give", "([B)V"⟩ : MethodName)) (W := 0) (argsL := [(.ref b4)]) (rest := []) (hw _ (List.mem_of_getElem? (i := 21) rfl)) (hw _ (List.mem_of_getElem? (i := 22) rfl)) (notFace_of_selects (args := #[]) (mvT C.2.1 (hw _ (List.mem_of_getElem? (i := 24) rfl)))) (hw _ (List.mem_of_getElem? (i := 24) rfl)) (hw _ (List.mem_of_getElem? (i := 23) rfl)) (hw _ (List.mem_of_getElem? (i := 2) rfl)) (hw _ (List.mem_of_getElem? (i := 25) rfl)) X_b1 (by decide) (own_give l Z a0 hw b1 b4 ca 1 2 1 ((List.replicate 64 .null).set 0 (.ref b3)) cA h6 n0 X_b1 F_chunks_b1 F_count_b1 V_ca g_b1 g_ca ne_b1_ca rfl ⟨by decide, by decide⟩ rfl (Nat.le_of_ble_eq_true rfl) (sto_ofA V_ca OV (Ins.self X_b4))) (K' := 5) (S' := 72) (by decide) (by decide) rfl own_pd___B_V rfl (Nat.le_of_eq rfl) rfl rfl (by decide) (by decide) rfl at_47 rfl (fun v h7 hq => ?_)
    obtain ⟨rfl, KK, F_chunks_b1', F_count_b1', V_ca'⟩ := hq
    refine Go.at (st' := []) rfl ?_
    have O := O.keep KK (allS (g_b1) (allS (g_ca) all0))
    have Sz := Nat.le_trans Sz KK.1
    have X_b1 := X_b1.keep KK
    have X_b3 := X_b3.keep KK
    have V_b3 := V_b3.keep KK (ninS (Ne.symm ne_b1_b3) (ninS (Ne.symm ne_ca_b3) nin0))
    have X_b4 := X_b4.keep KK
    have V_b4 := V_b4.keep KK (ninS (Ne.symm ne_b1_b4) (ninS (Ne.symm ne_ca_b4) nin0))
    have X_b5 := X_b5.keep KK
    have V_b5 := V_b5.keep KK (ninS (Ne.symm ne_b1_b5) (ninS (Ne.symm ne_ca_b5) nin0))
    have F_chunks_b1 := F_chunks_b1'
    have F_count_b1 := F_count_b1'
    have V_ca := V_ca'
    refine OwnW.iload C (pc' := 52) at_50 rfl rfl ?_
    refine OwnW.iconst C (pc' := 53) at_52 rfl (z := 3) rfl ?_
    refine OwnW.icLt C (pcY := 62) (pcN := 56) at_53 (by decide) rfl rfl (fun hc53 => ?_) (fun hc53 => absurd (by decide) hc53)
    refine OwnW.aloadN C (pc' := 63) at_62 rfl rfl rfl ?_
    refine OwnW.callV C (pc' := 66) (y := (⟨"com/example/kinegrid/kinegrid/server/ChunkPool", "take", "()[B"⟩ : MethodName)) (z := (⟨"com/example/kinegrid/kinegrid/server/ChunkPool", "take", "()[B"⟩ : MethodName)) (W := 0) (argsL := []) (rest := []) (hw _ (List.mem_of_getElem? (i := 14) rfl)) (hw _ (List.mem_of_getElem? (i := 15) rfl)) (notFace_of_selects (args := #[]) (mvT C.2.1 (hw _ (List.mem_of_getElem? (i := 17) rfl)))) (hw _ (List.mem_of_getElem? (i := 17) rfl)) (hw _ (List.mem_of_getElem? (i := 16) rfl)) (hw _ (List.mem_of_getElem? (i := 2) rfl)) (hw _ (List.mem_of_getElem? (i := 18) rfl)) X_b1 (by decide) (own_take l Z a0 hw b1 b4 ca 2 1 1 (((List.replicate 64 .null).set 0 (.ref b3)).set 1 (.ref b4)) cA h7 n0 X_b1 F_chunks_b1 F_count_b1 V_ca g_b1 g_ca ne_b1_ca (by decide) rfl ⟨by decide, by decide⟩ rfl (Nat.le_of_ble_eq_true rfl) rfl) (K' := 5) (S' := 72) (by decide) (by decide) rfl own_pd____B rfl (Nat.le_of_eq rfl) rfl rfl (by decide) (by decide) rfl at_63 rfl (fun v h8 hq => ?_)
    obtain ⟨rfl, KK, F_chunks_b1', F_count_b1', V_ca'⟩ := hq
    refine Go.at (st' := [(.ref b4)]) rfl ?_
    have O := O.keep KK (allS (g_b1) (allS (g_ca) all0))
    have Sz := Nat.le_trans Sz KK.1
    have X_b1 := X_b1.keep KK
    have X_b3 := X_b3.keep KK
    have V_b3 := V_b3.keep KK (ninS (Ne.symm ne_b1_b3) (ninS (Ne.symm ne_ca_b3) nin0))
    have X_b4 := X_b4.keep KK
    have V_b4 := V_b4.keep KK (ninS (Ne.symm ne_b1_b4) (ninS (Ne.symm ne_ca_b4) nin0))
    have X_b5 := X_b5.keep KK
    have V_b5 := V_b5.keep KK (ninS (Ne.symm ne_b1_b5) (ninS (Ne.symm ne_ca_b5) nin0))
    have F_chunks_b1 := F_chunks_b1'
    have F_count_b1 := F_count_b1'
    have V_ca := V_ca'
    refine OwnW.astore C (pc' := 68) at_66 rfl rfl (l' := #[.val (.int i0), .val (.int i1), .val (.ref b1), .val (.ref b3), .val (.ref b4), .val (.ref b5), .val (.int (2 : Int32)), .val (.ref b4), .unset, .unset, .unset, .unset]) rfl ?_
    refine OwnW.iloadN C (pc' := 69) at_68 rfl rfl ?_
    refine OwnW.iconst C (pc' := 70) at_69 rfl (z := 1) rfl ?_
    refine OwnW.iand C (pc' := 71) at_70 rfl ?_
    refine OwnW.ifEq C (pcY := 78) (pcN := 74) at_71 (by decide) rfl rfl (fun hc71 => ?_) (fun hc71 => ?_)
    · refine OwnW.iconst C (pc' := 79) at_78 rfl (z := 0) rfl ?_
      refine OwnW.istore C (pc' := 81) at_79 rfl (l' := #[.val (.int i0), .val (.int i1), .val (.ref b1), .val (.ref b3), .val (.ref b4), .val (.ref b5), .val (.int (2 : Int32)), .val (.ref b4), .val (.int (0 : Int32)), .unset, .unset, .unset]) rfl ?_
      refine OwnW.iload C (pc' := 83) at_81 rfl rfl ?_
      refine OwnW.ifEq C (pcY := 107) (pcN := 86) at_83 (by decide) rfl rfl (fun hc83 => ?_) (fun hc83 => absurd rfl hc83)
      refine OwnW.aloadN C (pc' := 108) at_107 rfl rfl rfl ?_
      refine OwnW.callV C (pc' := 111) (y := (⟨"com/example/kinegrid/kinegrid/server/ChunkPool", "take", "()[B"⟩ : MethodName)) (z := (⟨"com/example/kinegrid/kinegrid/server/ChunkPool", "take", "()[B"⟩ : MethodName)) (W := 0) (argsL := []) (rest := []) (hw _ (List.mem_of_getElem? (i := 14) rfl)) (hw _ (List.mem_of_getElem? (i := 15) rfl)) (notFace_of_selects (args := #[]) (mvT C.2.1 (hw _ (List.mem_of_getElem? (i := 17) rfl)))) (hw _ (List.mem_of_getElem? (i := 17) rfl)) (hw _ (List.mem_of_getElem? (i := 16) rfl)) (hw _ (List.mem_of_getElem? (i := 2) rfl)) (hw _ (List.mem_of_getElem? (i := 18) rfl)) X_b1 (by decide) (own_take l Z a0 hw b1 b3 ca 1 0 0 ((((List.replicate 64 .null).set 0 (.ref b3)).set 1 (.ref b4)).set 1 .null) cA h8 n0 X_b1 F_chunks_b1 F_count_b1 V_ca g_b1 g_ca ne_b1_ca (by decide) rfl ⟨by decide, by decide⟩ rfl (Nat.le_of_ble_eq_true rfl) rfl) (K' := 5) (S' := 72) (by decide) (by decide) rfl own_pd____B rfl (Nat.le_of_eq rfl) rfl rfl (by decide) (by decide) rfl at_108 rfl (fun v h9 hq => ?_)
      obtain ⟨rfl, KK, F_chunks_b1', F_count_b1', V_ca'⟩ := hq
      refine Go.at (st' := [(.ref b3)]) rfl ?_
      have O := O.keep KK (allS (g_b1) (allS (g_ca) all0))
      have Sz := Nat.le_trans Sz KK.1
      have X_b1 := X_b1.keep KK
      have X_b3 := X_b3.keep KK
      have V_b3 := V_b3.keep KK (ninS (Ne.symm ne_b1_b3) (ninS (Ne.symm ne_ca_b3) nin0))
      have X_b4 := X_b4.keep KK
      have V_b4 := V_b4.keep KK (ninS (Ne.symm ne_b1_b4) (ninS (Ne.symm ne_ca_b4) nin0))
      have X_b5 := X_b5.keep KK
      have V_b5 := V_b5.keep KK (ninS (Ne.symm ne_b1_b5) (ninS (Ne.symm ne_ca_b5) nin0))
      have F_chunks_b1 := F_chunks_b1'
      have F_count_b1 := F_count_b1'
      have V_ca := V_ca'
      refine OwnW.astore C (pc' := 113) at_111 rfl rfl (l' := #[.val (.int i0), .val (.int i1), .val (.ref b1), .val (.ref b3), .val (.ref b4), .val (.ref b5), .val (.int (2 : Int32)), .val (.ref b4), .val (.int (0 : Int32)), .val (.ref b3), .unset, .unset]) rfl ?_
      refine OwnW.aloadN C (pc' := 114) at_113 rfl rfl rfl ?_
      refine OwnW.callV C (pc' := 117) (y := (⟨"com/example/kinegrid/kinegrid/server/ChunkPool", "take", "()[B"⟩ : MethodName)) (z := (⟨"com/example/kinegrid/kinegrid/server/ChunkPool", "take", "()[B"⟩ : MethodName)) (W := 0) (argsL := []) (rest := []) (hw _ (List.mem_of_getElem? (i := 14) rfl)) (hw _ (List.mem_of_getElem? (i := 15) rfl)) (notFace_of_selects (args := #[]) (mvT C.2.1 (hw _ (List.mem_of_getElem? (i := 17) rfl)))) (hw _ (List.mem_of_getElem? (i := 17) rfl)) (hw _ (List.mem_of_getElem? (i := 16) rfl)) (hw _ (List.mem_of_getElem? (i := 2) rfl)) (hw _ (List.mem_of_getElem? (i := 18) rfl)) X_b1 (by decide) (own_take0 l Z a0 hw b1 h9 n0 F_count_b1) (K' := 6) (S' := 16456) (by decide) (by decide) rfl own_pd____B rfl (Nat.le_of_eq rfl) rfl rfl (by decide) (by decide) rfl at_114 rfl (fun v h10 hq => ?_)
      obtain ⟨b10, cA_b10, rfl, g10, E10, V_b10, X_b10⟩ := hq
      refine Go.at (st' := [(.ref b10)]) rfl ?_
      have ne_b1_b10 : b1 ≠ b10 := Nat.ne_of_lt (Nat.lt_of_lt_of_eq X_b1.lt g10.symm)
      have ne_b3_b10 : b3 ≠ b10 := Nat.ne_of_lt (Nat.lt_of_lt_of_eq X_b3.lt g10.symm)
      have ne_b4_b10 : b4 ≠ b10 := Nat.ne_of_lt (Nat.lt_of_lt_of_eq X_b4.lt g10.symm)
      have ne_b5_b10 : b5 ≠ b10 := Nat.ne_of_lt (Nat.lt_of_lt_of_eq X_b5.lt g10.symm)
      have ne_ca_b10 : ca ≠ b10 := Nat.ne_of_lt (Nat.lt_of_lt_of_eq V_ca.lt g10.symm)
      have g_b10 : n0 ≤ b10 := Nat.le_trans Sz (Nat.le_of_eq g10.symm)
      have O := O.ext E10
      have Sz := Nat.le_trans Sz E10.1
      have X_b1 := X_b1.ext E10
      have X_b3 := X_b3.ext E10
      have V_b3 := V_b3.ext E10
      have X_b4 := X_b4.ext E10
      have V_b4 := V_b4.ext E10
      have X_b5 := X_b5.ext E10
      have V_b5 := V_b5.ext E10
      have F_chunks_b1 := F_chunks_b1.ext E10
      have F_count_b1 := F_count_b1.ext E10
      have V_ca := V_ca.ext E10
      refine OwnW.astore C (pc' := 119) at_117 rfl rfl (l' := #[.val (.int i0), .val (.int i1), .val (.ref b1), .val (.ref b3), .val (.ref b4), .val (.ref b5), .val (.int (2 : Int32)), .val (.ref b4), .val (.int (0 : Int32)), .val (.ref b3), .val (.ref b10), .unset]) rfl ?_
      refine OwnW.aloadN C (pc' := 120) at_119 rfl rfl rfl ?_
      refine OwnW.callV C (pc' := 123) (y := (⟨"com/example/kinegrid/kinegrid/server/ChunkPool", "take", "()[B"⟩ : MethodName)) (z := (⟨"com/example/kinegrid/kinegrid/server/ChunkPool", "take", "()[B"⟩ : MethodName)) (W := 0) (argsL := []) (rest := []) (hw _ (List.mem_of_getElem? (i := 14) rfl)) (hw _ (List.mem_of_getElem? (i := 15) rfl)) (notFace_of_selects (args := #[]) (mvT C.2.1 (hw _ (List.mem_of_getElem? (i := 17) rfl)))) (hw _ (List.mem_of_getElem? (i := 17) rfl)) (hw _ (List.mem_of_getElem? (i := 16) rfl)) (hw _ (List.mem_of_getElem? (i := 2) rfl)) (hw _ (List.mem_of_getElem? (i := 18) rfl)) X_b1 (by decide) (own_take0 l Z a0 hw b1 h10 n0 F_count_b1) (K' := 7) (S' := 32840) (by decide) (by decide) rfl own_pd____B rfl (Nat.le_of_eq rfl) rfl rfl (by decide) (by decide) rfl at_120 rfl (fun v h11 hq => ?_)
      obtain ⟨b11, cA_b11, rfl, g11, E11, V_b11, X_b11⟩ := hq
      refine Go.at (st' := [(.ref b11)]) rfl ?_
      have ne_b1_b11 : b1 ≠ b11 := Nat.ne_of_lt (Nat.lt_of_lt_of_eq X_b1.lt g11.symm)
      have ne_b3_b11 : b3 ≠ b11 := Nat.ne_of_lt (Nat.lt_of_lt_of_eq X_b3.lt g11.symm)
      have ne_b4_b11 : b4 ≠ b11 := Nat.ne_of_lt (Nat.lt_of_lt_of_eq X_b4.lt g11.symm)
      have ne_b5_b11 : b5 ≠ b11 := Nat.ne_of_lt (Nat.lt_of_lt_of_eq X_b5.lt g11.symm)
      have ne_ca_b11 : ca ≠ b11 := Nat.ne_of_lt (Nat.lt_of_lt_of_eq V_ca.lt g11.symm)
      have ne_b10_b11 : b10 ≠ b11 := Nat.ne_of_lt (Nat.lt_of_lt_of_eq X_b10.lt g11.symm)
      have g_b11 : n0 ≤ b11 := Nat.le_trans Sz (Nat.le_of_eq g11.symm)
      have O := O.ext E11
      have Sz := Nat.le_trans Sz E11.1
      have X_b1 := X_b1.ext E11
      have X_b3 := X_b3.ext E11
      have V_b3 := V_b3.ext E11
      have X_b4 := X_b4.ext E11
      have V_b4 := V_b4.ext E11
      have X_b5 := X_b5.ext E11
      have V_b5 := V_b5.ext E11
      have F_chunks_b1 := F_chunks_b1.ext E11
      have F_count_b1 := F_count_b1.ext E11
      have V_ca := V_ca.ext E11
      have X_b10 := X_b10.ext E11
      have V_b10 := V_b10.ext E11
      refine OwnW.astore C (pc' := 125) at_123 rfl rfl (l' := #[.val (.int i0), .val (.int i1), .val (.ref b1), .val (.ref b3), .val (.ref b4), .val (.ref b5), .val (.int (2 : Int32)), .val (.ref b4), .val (.int (0 : Int32)), .val (.ref b3), .val (.ref b10), .val (.ref b11)]) rfl ?_
      refine OwnW.aload C (pc' := 127) at_125 rfl rfl rfl ?_
      refine OwnW.iconst C (pc' := 128) at_127 rfl (z := 1) rfl ?_
      refine OwnW.iload C (pc' := 130) at_128 rfl rfl ?_
      refine OwnW.aloadN C (pc' := 131) at_130 rfl rfl rfl ?_
      refine OwnW.aload C (pc' := 133) at_131 rfl rfl rfl ?_
      refine OwnW.aload C (pc' := 135) at_133 rfl rfl rfl ?_
      refine OwnW.callS C (pc' := 138) (y := (⟨"com/example/kinegrid/kinegrid/server/ChunkPoolTakePinLaw", "check", "([BII[B[B[B)Z"⟩ : MethodName)) (W := 0) (argsL := [(.ref b4), (.int (1 : Int32)), (.int (2 : Int32)), (.ref b3), (.ref b4), (.ref b5)]) (rest := []) (hw _ (List.mem_of_getElem? (i := 27) rfl)) (hw _ (List.mem_of_getElem? (i := 28) rfl)) (hw _ (List.mem_of_getElem? (i := 29) rfl)) (hw _ (List.mem_of_getElem? (i := 30) rfl)) (by decide) (own_checkA l Z a0 hw b4 1 2 b3 b4 b5 h11 n0 (by decide) rfl) (K' := 7) (S' := 32840) (by decide) (by decide) rfl own_pd___BII_B_B_B_Z rfl (Nat.le_of_eq rfl) rfl rfl (by decide) (by decide) rfl at_135 rfl (fun v h' hq => ?_)
      obtain ⟨rfl, hh⟩ := hq
      refine Go.at (st' := [(.int (1 : Int32))]) rfl ?_
      refine Go.heap hh ?_
      refine OwnW.ifNe C (pcY := 143) (pcN := 141) at_138 (by decide) rfl rfl (fun hc138 => ?_) (fun hc138 => absurd hc138 (by decide))
      refine OwnW.aload C (pc' := 145) at_143 rfl rfl rfl ?_
      refine OwnW.iconst C (pc' := 146) at_145 rfl (z := 2) rfl ?_
      refine OwnW.iload C (pc' := 148) at_146 rfl rfl ?_
      refine OwnW.aloadN C (pc' := 149) at_148 rfl rfl rfl ?_
      refine OwnW.aload C (pc' := 151) at_149 rfl rfl rfl ?_
      refine OwnW.aload C (pc' := 153) at_151 rfl rfl rfl ?_
      refine OwnW.callS C (pc' := 156) (y := (⟨"com/example/kinegrid/kinegrid/server/ChunkPoolTakePinLaw", "check", "([BII[B[B[B)Z"⟩ : MethodName)) (W := 0) (argsL := [(.ref b3), (.int (2 : Int32)), (.int (2 : Int32)), (.ref b3), (.ref b4), (.ref b5)]) (rest := []) (hw _ (List.mem_of_getElem? (i := 27) rfl)) (hw _ (List.mem_of_getElem? (i := 28) rfl)) (hw _ (List.mem_of_getElem? (i := 29) rfl)) (hw _ (List.mem_of_getElem? (i := 30) rfl)) (by decide) (own_checkA l Z a0 hw b3 2 2 b3 b4 b5 h11 n0 (by decide) rfl) (K' := 7) (S' := 32840) (by decide) (by decide) rfl own_pd___BII_B_B_B_Z rfl (Nat.le_of_eq rfl) rfl rfl (by decide) (by decide) rfl at_153 rfl (fun v h' hq => ?_)
      obtain ⟨rfl, hh⟩ := hq
      refine Go.at (st' := [(.int (1 : Int32))]) rfl ?_
      refine Go.heap hh ?_
      refine OwnW.ifNe C (pcY := 161) (pcN := 159) at_156 (by decide) rfl rfl (fun hc156 => ?_) (fun hc156 => absurd hc156 (by decide))
      refine OwnW.aload C (pc' := 163) at_161 rfl rfl rfl ?_
      refine OwnW.iconst C (pc' := 164) at_163 rfl (z := 3) rfl ?_
      refine OwnW.iload C (pc' := 166) at_164 rfl rfl ?_
      refine OwnW.aloadN C (pc' := 167) at_166 rfl rfl rfl ?_
      refine OwnW.aload C (pc' := 169) at_167 rfl rfl rfl ?_
      refine OwnW.aload C (pc' := 171) at_169 rfl rfl rfl ?_
      refine OwnW.callS C (pc' := 174) (y := (⟨"com/example/kinegrid/kinegrid/server/ChunkPoolTakePinLaw", "check", "([BII[B[B[B)Z"⟩ : MethodName)) (W := 0) (argsL := [(.ref b10), (.int (3 : Int32)), (.int (2 : Int32)), (.ref b3), (.ref b4), (.ref b5)]) (rest := []) (hw _ (List.mem_of_getElem? (i := 27) rfl)) (hw _ (List.mem_of_getElem? (i := 28) rfl)) (hw _ (List.mem_of_getElem? (i := 29) rfl)) (hw _ (List.mem_of_getElem? (i := 30) rfl)) (by decide) (own_checkB l Z a0 hw b10 3 2 b3 b4 b5 _ h11 n0 (by decide) V_b10 (Ne.symm ne_b3_b10) (Ne.symm ne_b4_b10) (Ne.symm ne_b5_b10)) (K' := 7) (S' := 32840) (by decide) (by decide) rfl own_pd___BII_B_B_B_Z rfl (Nat.le_of_eq rfl) rfl rfl (by decide) (by decide) rfl at_171 rfl (fun v h' hq => ?_)
      obtain ⟨rfl, hh⟩ := hq
      refine Go.at (st' := [(.int (1 : Int32))]) rfl ?_
      refine Go.heap hh ?_
      refine OwnW.ifNe C (pcY := 179) (pcN := 177) at_174 (by decide) rfl rfl (fun hc174 => ?_) (fun hc174 => absurd hc174 (by decide))
      refine OwnW.aload C (pc' := 181) at_179 rfl rfl rfl ?_
      refine OwnW.iconst C (pc' := 182) at_181 rfl (z := 4) rfl ?_
      refine OwnW.iload C (pc' := 184) at_182 rfl rfl ?_
      refine OwnW.aloadN C (pc' := 185) at_184 rfl rfl rfl ?_
      refine OwnW.aload C (pc' := 187) at_185 rfl rfl rfl ?_
      refine OwnW.aload C (pc' := 189) at_187 rfl rfl rfl ?_
      refine OwnW.callS C (pc' := 192) (y := (⟨"com/example/kinegrid/kinegrid/server/ChunkPoolTakePinLaw", "check", "([BII[B[B[B)Z"⟩ : MethodName)) (W := 0) (argsL := [(.ref b11), (.int (4 : Int32)), (.int (2 : Int32)), (.ref b3), (.ref b4), (.ref b5)]) (rest := []) (hw _ (List.mem_of_getElem? (i := 27) rfl)) (hw _ (List.mem_of_getElem? (i := 28) rfl)) (hw _ (List.mem_of_getElem? (i := 29) rfl)) (hw _ (List.mem_of_getElem? (i := 30) rfl)) (by decide) (own_checkB l Z a0 hw b11 4 2 b3 b4 b5 _ h11 n0 (by decide) V_b11 (Ne.symm ne_b3_b11) (Ne.symm ne_b4_b11) (Ne.symm ne_b5_b11)) (K' := 7) (S' := 32840) (by decide) (by decide) rfl own_pd___BII_B_B_B_Z rfl (Nat.le_of_eq rfl) rfl rfl (by decide) (by decide) rfl at_189 rfl (fun v h' hq => ?_)
      obtain ⟨rfl, hh⟩ := hq
      refine Go.at (st' := [(.int (1 : Int32))]) rfl ?_
      refine Go.heap hh ?_
      refine OwnW.ifNe C (pcY := 197) (pcN := 195) at_192 (by decide) rfl rfl (fun hc192 => ?_) (fun hc192 => absurd hc192 (by decide))
      refine OwnW.aload C (pc' := 199) at_197 rfl rfl rfl ?_
      refine OwnW.aload C (pc' := 201) at_199 rfl rfl rfl ?_
      refine OwnW.acEq C (pcY := 243) (pcN := 204) rfl rfl at_201 (by decide) rfl rfl (fun hc201 => absurd (Value.ref.inj hc201) (Ne.symm ne_b3_b4)) (fun hc201 => ?_)
      refine OwnW.aload C (pc' := 206) at_204 rfl rfl rfl ?_
      refine OwnW.aload C (pc' := 208) at_206 rfl rfl rfl ?_
      refine OwnW.acEq C (pcY := 243) (pcN := 211) rfl rfl at_208 (by decide) rfl rfl (fun hc208 => absurd (Value.ref.inj hc208) ne_b4_b10) (fun hc208 => ?_)
      refine OwnW.aload C (pc' := 213) at_211 rfl rfl rfl ?_
      refine OwnW.aload C (pc' := 215) at_213 rfl rfl rfl ?_
      refine OwnW.acEq C (pcY := 243) (pcN := 218) rfl rfl at_215 (by decide) rfl rfl (fun hc215 => absurd (Value.ref.inj hc215) ne_b4_b11) (fun hc215 => ?_)
      refine OwnW.aload C (pc' := 220) at_218 rfl rfl rfl ?_
      refine OwnW.aload C (pc' := 222) at_220 rfl rfl rfl ?_
      refine OwnW.acEq C (pcY := 243) (pcN := 225) rfl rfl at_222 (by decide) rfl rfl (fun hc222 => absurd (Value.ref.inj hc222) ne_b3_b10) (fun hc222 => ?_)
      refine OwnW.aload C (pc' := 227) at_225 rfl rfl rfl ?_
      refine OwnW.aload C (pc' := 229) at_227 rfl rfl rfl ?_
      refine OwnW.acEq C (pcY := 243) (pcN := 232) rfl rfl at_229 (by decide) rfl rfl (fun hc229 => absurd (Value.ref.inj hc229) ne_b3_b11) (fun hc229 => ?_)
      refine OwnW.aload C (pc' := 234) at_232 rfl rfl rfl ?_
      refine OwnW.aload C (pc' := 236) at_234 rfl rfl rfl ?_
      refine OwnW.acEq C (pcY := 243) (pcN := 239) rfl rfl at_236 (by decide) rfl rfl (fun hc236 => absurd (Value.ref.inj hc236) ne_b10_b11) (fun hc236 => ?_)
      refine OwnW.iconst C (pc' := 240) at_239 rfl (z := 1) rfl ?_
      refine OwnW.goto C (pc' := 244) at_240 (by decide) rfl ?_
      exact OwnW.retN C (t := .boolean) (z := (1 : Int32)) rfl (by simp) rfl rfl (by decide) (by decide) at_244
    · refine OwnW.iconst C (pc' := 75) at_74 rfl (z := 1) rfl ?_
      refine OwnW.goto C (pc' := 79) at_75 (by decide) rfl ?_
      refine OwnW.istore C (pc' := 81) at_79 rfl (l' := #[.val (.int i0), .val (.int i1), .val (.ref b1), .val (.ref b3), .val (.ref b4), .val (.ref b5), .val (.int (2 : Int32)), .val (.ref b4), .val (.int (1 : Int32)), .unset, .unset, .unset]) rfl ?_
      refine OwnW.iload C (pc' := 83) at_81 rfl rfl ?_
      refine OwnW.ifEq C (pcY := 107) (pcN := 86) at_83 (by decide) rfl rfl (fun hc83 => absurd hc83 (by decide)) (fun hc83 => ?_)
      refine OwnW.aloadN C (pc' := 87) at_86 rfl rfl rfl ?_
      refine OwnW.aload C (pc' := 89) at_87 rfl rfl rfl ?_
      refine OwnW.callV C (pc' := 92) (y := (⟨"com/example/kinegrid/kinegrid/server/ChunkPool", "give", "([B)V"⟩ : MethodName)) (z := (⟨"com/example/kinegrid/kinegrid/server/ChunkPool", "give", "([B)V"⟩ : MethodName)) (W := 0) (argsL := [(.ref b4)]) (rest := []) (hw _ (List.mem_of_getElem? (i := 21) rfl)) (hw _ (List.mem_of_getElem? (i := 22) rfl)) (notFace_of_selects (args := #[]) (mvT C.2.1 (hw _ (List.mem_of_getElem? (i := 24) rfl)))) (hw _ (List.mem_of_getElem? (i := 24) rfl)) (hw _ (List.mem_of_getElem? (i := 23) rfl)) (hw _ (List.mem_of_getElem? (i := 2) rfl)) (hw _ (List.mem_of_getElem? (i := 25) rfl)) X_b1 (by decide) (own_give l Z a0 hw b1 b4 ca 1 2 1 ((((List.replicate 64 .null).set 0 (.ref b3)).set 1 (.ref b4)).set 1 .null) cA h8 n0 X_b1 F_chunks_b1 F_count_b1 V_ca g_b1 g_ca ne_b1_ca rfl ⟨by decide, by decide⟩ rfl (Nat.le_of_ble_eq_true rfl) (sto_ofA V_ca OV (Ins.self X_b4))) (K' := 5) (S' := 72) (by decide) (by decide) rfl own_pd___B_V rfl (Nat.le_of_eq rfl) rfl rfl (by decide) (by decide) rfl at_89 rfl (fun v h9 hq => ?_)
      obtain ⟨rfl, KK, F_chunks_b1', F_count_b1', V_ca'⟩ := hq
      refine Go.at (st' := []) rfl ?_
      have O := O.keep KK (allS (g_b1) (allS (g_ca) all0))
      have Sz := Nat.le_trans Sz KK.1
      have X_b1 := X_b1.keep KK
      have X_b3 := X_b3.keep KK
      have V_b3 := V_b3.keep KK (ninS (Ne.symm ne_b1_b3) (ninS (Ne.symm ne_ca_b3) nin0))
      have X_b4 := X_b4.keep KK
      have V_b4 := V_b4.keep KK (ninS (Ne.symm ne_b1_b4) (ninS (Ne.symm ne_ca_b4) nin0))
      have X_b5 := X_b5.keep KK
      have V_b5 := V_b5.keep KK (ninS (Ne.symm ne_b1_b5) (ninS (Ne.symm ne_ca_b5) nin0))
      have F_chunks_b1 := F_chunks_b1'
      have F_count_b1 := F_count_b1'
      have V_ca := V_ca'
      refine OwnW.aloadN C (pc' := 93) at_92 rfl rfl rfl ?_
      refine OwnW.callV C (pc' := 96) (y := (⟨"com/example/kinegrid/kinegrid/server/ChunkPool", "take", "()[B"⟩ : MethodName)) (z := (⟨"com/example/kinegrid/kinegrid/server/ChunkPool", "take", "()[B"⟩ : MethodName)) (W := 0) (argsL := []) (rest := []) (hw _ (List.mem_of_getElem? (i := 14) rfl)) (hw _ (List.mem_of_getElem? (i := 15) rfl)) (notFace_of_selects (args := #[]) (mvT C.2.1 (hw _ (List.mem_of_getElem? (i := 17) rfl)))) (hw _ (List.mem_of_getElem? (i := 17) rfl)) (hw _ (List.mem_of_getElem? (i := 16) rfl)) (hw _ (List.mem_of_getElem? (i := 2) rfl)) (hw _ (List.mem_of_getElem? (i := 18) rfl)) X_b1 (by decide) (own_take l Z a0 hw b1 b4 ca 2 1 1 (((((List.replicate 64 .null).set 0 (.ref b3)).set 1 (.ref b4)).set 1 .null).set 1 (.ref b4)) cA h9 n0 X_b1 F_chunks_b1 F_count_b1 V_ca g_b1 g_ca ne_b1_ca (by decide) rfl ⟨by decide, by decide⟩ rfl (Nat.le_of_ble_eq_true rfl) rfl) (K' := 5) (S' := 72) (by decide) (by decide) rfl own_pd____B rfl (Nat.le_of_eq rfl) rfl rfl (by decide) (by decide) rfl at_93 rfl (fun v h10 hq => ?_)
      obtain ⟨rfl, KK, F_chunks_b1', F_count_b1', V_ca'⟩ := hq
      refine Go.at (st' := [(.ref b4)]) rfl ?_
      have O := O.keep KK (allS (g_b1) (allS (g_ca) all0))
      have Sz := Nat.le_trans Sz KK.1
      have X_b1 := X_b1.keep KK
      have X_b3 := X_b3.keep KK
      have V_b3 := V_b3.keep KK (ninS (Ne.symm ne_b1_b3) (ninS (Ne.symm ne_ca_b3) nin0))
      have X_b4 := X_b4.keep KK
      have V_b4 := V_b4.keep KK (ninS (Ne.symm ne_b1_b4) (ninS (Ne.symm ne_ca_b4) nin0))
      have X_b5 := X_b5.keep KK
      have V_b5 := V_b5.keep KK (ninS (Ne.symm ne_b1_b5) (ninS (Ne.symm ne_ca_b5) nin0))
      have F_chunks_b1 := F_chunks_b1'
      have F_count_b1 := F_count_b1'
      have V_ca := V_ca'
      refine OwnW.astore C (pc' := 98) at_96 rfl rfl (l' := #[.val (.int i0), .val (.int i1), .val (.ref b1), .val (.ref b3), .val (.ref b4), .val (.ref b5), .val (.int (2 : Int32)), .val (.ref b4), .val (.int (1 : Int32)), .val (.ref b4), .unset, .unset]) rfl ?_
      refine OwnW.aload C (pc' := 100) at_98 rfl rfl rfl ?_
      refine OwnW.aload C (pc' := 102) at_100 rfl rfl rfl ?_
      refine OwnW.acEq C (pcY := 107) (pcN := 105) rfl rfl at_102 (by decide) rfl rfl (fun hc102 => ?_) (fun hc102 => absurd rfl hc102)
      refine OwnW.aloadN C (pc' := 108) at_107 rfl rfl rfl ?_
      refine OwnW.callV C (pc' := 111) (y := (⟨"com/example/kinegrid/kinegrid/server/ChunkPool", "take", "()[B"⟩ : MethodName)) (z := (⟨"com/example/kinegrid/kinegrid/server/ChunkPool", "take", "()[B"⟩ : MethodName)) (W := 0) (argsL := []) (rest := []) (hw _ (List.mem_of_getElem? (i := 14) rfl)) (hw _ (List.mem_of_getElem? (i := 15) rfl)) (notFace_of_selects (args := #[]) (mvT C.2.1 (hw _ (List.mem_of_getElem? (i := 17) rfl)))) (hw _ (List.mem_of_getElem? (i := 17) rfl)) (hw _ (List.mem_of_getElem? (i := 16) rfl)) (hw _ (List.mem_of_getElem? (i := 2) rfl)) (hw _ (List.mem_of_getElem? (i := 18) rfl)) X_b1 (by decide) (own_take l Z a0 hw b1 b3 ca 1 0 0 ((((((List.replicate 64 .null).set 0 (.ref b3)).set 1 (.ref b4)).set 1 .null).set 1 (.ref b4)).set 1 .null) cA h10 n0 X_b1 F_chunks_b1 F_count_b1 V_ca g_b1 g_ca ne_b1_ca (by decide) rfl ⟨by decide, by decide⟩ rfl (Nat.le_of_ble_eq_true rfl) rfl) (K' := 5) (S' := 72) (by decide) (by decide) rfl own_pd____B rfl (Nat.le_of_eq rfl) rfl rfl (by decide) (by decide) rfl at_108 rfl (fun v h11 hq => ?_)
      obtain ⟨rfl, KK, F_chunks_b1', F_count_b1', V_ca'⟩ := hq
      refine Go.at (st' := [(.ref b3)]) rfl ?_
      have O := O.keep KK (allS (g_b1) (allS (g_ca) all0))
      have Sz := Nat.le_trans Sz KK.1
      have X_b1 := X_b1.keep KK
      have X_b3 := X_b3.keep KK
      have V_b3 := V_b3.keep KK (ninS (Ne.symm ne_b1_b3) (ninS (Ne.symm ne_ca_b3) nin0))
      have X_b4 := X_b4.keep KK
      have V_b4 := V_b4.keep KK (ninS (Ne.symm ne_b1_b4) (ninS (Ne.symm ne_ca_b4) nin0))
      have X_b5 := X_b5.keep KK
      have V_b5 := V_b5.keep KK (ninS (Ne.symm ne_b1_b5) (ninS (Ne.symm ne_ca_b5) nin0))
      have F_chunks_b1 := F_chunks_b1'
      have F_count_b1 := F_count_b1'
      have V_ca := V_ca'
      refine OwnW.astore C (pc' := 113) at_111 rfl rfl (l' := #[.val (.int i0), .val (.int i1), .val (.ref b1), .val (.ref b3), .val (.ref b4), .val (.ref b5), .val (.int (2 : Int32)), .val (.ref b4), .val (.int (1 : Int32)), .val (.ref b3), .unset, .unset]) rfl ?_
      refine OwnW.aloadN C (pc' := 114) at_113 rfl rfl rfl ?_
      refine OwnW.callV C (pc' := 117) (y := (⟨"com/example/kinegrid/kinegrid/server/ChunkPool", "take", "()[B"⟩ : MethodName)) (z := (⟨"com/example/kinegrid/kinegrid/server/ChunkPool", "take", "()[B"⟩ : MethodName)) (W := 0) (argsL := []) (rest := []) (hw _ (List.mem_of_getElem? (i := 14) rfl)) (hw _ (List.mem_of_getElem? (i := 15) rfl)) (notFace_of_selects (args := #[]) (mvT C.2.1 (hw _ (List.mem_of_getElem? (i := 17) rfl)))) (hw _ (List.mem_of_getElem? (i := 17) rfl)) (hw _ (List.mem_of_getElem? (i := 16) rfl)) (hw _ (List.mem_of_getElem? (i := 2) rfl)) (hw _ (List.mem_of_getElem? (i := 18) rfl)) X_b1 (by decide) (own_take0 l Z a0 hw b1 h11 n0 F_count_b1) (K' := 6) (S' := 16456) (by decide) (by decide) rfl own_pd____B rfl (Nat.le_of_eq rfl) rfl rfl (by decide) (by decide) rfl at_114 rfl (fun v h12 hq => ?_)
      obtain ⟨b12, cA_b12, rfl, g12, E12, V_b12, X_b12⟩ := hq
      refine Go.at (st' := [(.ref b12)]) rfl ?_
      have ne_b1_b12 : b1 ≠ b12 := Nat.ne_of_lt (Nat.lt_of_lt_of_eq X_b1.lt g12.symm)
      have ne_b3_b12 : b3 ≠ b12 := Nat.ne_of_lt (Nat.lt_of_lt_of_eq X_b3.lt g12.symm)
      have ne_b4_b12 : b4 ≠ b12 := Nat.ne_of_lt (Nat.lt_of_lt_of_eq X_b4.lt g12.symm)
      have ne_b5_b12 : b5 ≠ b12 := Nat.ne_of_lt (Nat.lt_of_lt_of_eq X_b5.lt g12.symm)
      have ne_ca_b12 : ca ≠ b12 := Nat.ne_of_lt (Nat.lt_of_lt_of_eq V_ca.lt g12.symm)
      have g_b12 : n0 ≤ b12 := Nat.le_trans Sz (Nat.le_of_eq g12.symm)
      have O := O.ext E12
      have Sz := Nat.le_trans Sz E12.1
      have X_b1 := X_b1.ext E12
      have X_b3 := X_b3.ext E12
      have V_b3 := V_b3.ext E12
      have X_b4 := X_b4.ext E12
      have V_b4 := V_b4.ext E12
      have X_b5 := X_b5.ext E12
      have V_b5 := V_b5.ext E12
      have F_chunks_b1 := F_chunks_b1.ext E12
      have F_count_b1 := F_count_b1.ext E12
      have V_ca := V_ca.ext E12
      refine OwnW.astore C (pc' := 119) at_117 rfl rfl (l' := #[.val (.int i0), .val (.int i1), .val (.ref b1), .val (.ref b3), .val (.ref b4), .val (.ref b5), .val (.int (2 : Int32)), .val (.ref b4), .val (.int (1 : Int32)), .val (.ref b3), .val (.ref b12), .unset]) rfl ?_
      refine OwnW.aloadN C (pc' := 120) at_119 rfl rfl rfl ?_
      refine OwnW.callV C (pc' := 123) (y := (⟨"com/example/kinegrid/kinegrid/server/ChunkPool", "take", "()[B"⟩ : MethodName)) (z := (⟨"com/example/kinegrid/kinegrid/server/ChunkPool", "take", "()[B"⟩ : MethodName)) (W := 0) (argsL := []) (rest := []) (hw _ (List.mem_of_getElem? (i := 14) rfl)) (hw _ (List.mem_of_getElem? (i := 15) rfl)) (notFace_of_selects (args := #[]) (mvT C.2.1 (hw _ (List.mem_of_getElem? (i := 17) rfl)))) (hw _ (List.mem_of_getElem? (i := 17) rfl)) (hw _ (List.mem_of_getElem? (i := 16) rfl)) (hw _ (List.mem_of_getElem? (i := 2) rfl)) (hw _ (List.mem_of_getElem? (i := 18) rfl)) X_b1 (by decide) (own_take0 l Z a0 hw b1 h12 n0 F_count_b1) (K' := 7) (S' := 32840) (by decide) (by decide) rfl own_pd____B rfl (Nat.le_of_eq rfl) rfl rfl (by decide) (by decide) rfl at_120 rfl (fun v h13 hq => ?_)
      obtain ⟨b13, cA_b13, rfl, g13, E13, V_b13, X_b13⟩ := hq
      refine Go.at (st' := [(.ref b13)]) rfl ?_
      have ne_b1_b13 : b1 ≠ b13 := Nat.ne_of_lt (Nat.lt_of_lt_of_eq X_b1.lt g13.symm)
      have ne_b3_b13 : b3 ≠ b13 := Nat.ne_of_lt (Nat.lt_of_lt_of_eq X_b3.lt g13.symm)
      have ne_b4_b13 : b4 ≠ b13 := Nat.ne_of_lt (Nat.lt_of_lt_of_eq X_b4.lt g13.symm)
      have ne_b5_b13 : b5 ≠ b13 := Nat.ne_of_lt (Nat.lt_of_lt_of_eq X_b5.lt g13.symm)
      have ne_ca_b13 : ca ≠ b13 := Nat.ne_of_lt (Nat.lt_of_lt_of_eq V_ca.lt g13.symm)
      have ne_b12_b13 : b12 ≠ b13 := Nat.ne_of_lt (Nat.lt_of_lt_of_eq X_b12.lt g13.symm)
      have g_b13 : n0 ≤ b13 := Nat.le_trans Sz (Nat.le_of_eq g13.symm)
      have O := O.ext E13
      have Sz := Nat.le_trans Sz E13.1
      have X_b1 := X_b1.ext E13
      have X_b3 := X_b3.ext E13
      have V_b3 := V_b3.ext E13
      have X_b4 := X_b4.ext E13
      have V_b4 := V_b4.ext E13
      have X_b5 := X_b5.ext E13
      have V_b5 := V_b5.ext E13
      have F_chunks_b1 := F_chunks_b1.ext E13
      have F_count_b1 := F_count_b1.ext E13
      have V_ca := V_ca.ext E13
      have X_b12 := X_b12.ext E13
      have V_b12 := V_b12.ext E13
      refine OwnW.astore C (pc' := 125) at_123 rfl rfl (l' := #[.val (.int i0), .val (.int i1), .val (.ref b1), .val (.ref b3), .val (.ref b4), .val (.ref b5), .val (.int (2 : Int32)), .val (.ref b4), .val (.int (1 : Int32)), .val (.ref b3), .val (.ref b12), .val (.ref b13)]) rfl ?_
      refine OwnW.aload C (pc' := 127) at_125 rfl rfl rfl ?_
      refine OwnW.iconst C (pc' := 128) at_127 rfl (z := 1) rfl ?_
      refine OwnW.iload C (pc' := 130) at_128 rfl rfl ?_
      refine OwnW.aloadN C (pc' := 131) at_130 rfl rfl rfl ?_
      refine OwnW.aload C (pc' := 133) at_131 rfl rfl rfl ?_
      refine OwnW.aload C (pc' := 135) at_133 rfl rfl rfl ?_
      refine OwnW.callS C (pc' := 138) (y := (⟨"com/example/kinegrid/kinegrid/server/ChunkPoolTakePinLaw", "check", "([BII[B[B[B)Z"⟩ : MethodName)) (W := 0) (argsL := [(.ref b4), (.int (1 : Int32)), (.int (2 : Int32)), (.ref b3), (.ref b4), (.ref b5)]) (rest := []) (hw _ (List.mem_of_getElem? (i := 27) rfl)) (hw _ (List.mem_of_getElem? (i := 28) rfl)) (hw _ (List.mem_of_getElem? (i := 29) rfl)) (hw _ (List.mem_of_getElem? (i := 30) rfl)) (by decide) (own_checkA l Z a0 hw b4 1 2 b3 b4 b5 h13 n0 (by decide) rfl) (K' := 7) (S' := 32840) (by decide) (by decide) rfl own_pd___BII_B_B_B_Z rfl (Nat.le_of_eq rfl) rfl rfl (by decide) (by decide) rfl at_135 rfl (fun v h' hq => ?_)
      obtain ⟨rfl, hh⟩ := hq
      refine Go.at (st' := [(.int (1 : Int32))]) rfl ?_
      refine Go.heap hh ?_
      refine OwnW.ifNe C (pcY := 143) (pcN := 141) at_138 (by decide) rfl rfl (fun hc138 => ?_) (fun hc138 => absurd hc138 (by decide))
      refine OwnW.aload C (pc' := 145) at_143 rfl rfl rfl ?_
      refine OwnW.iconst C (pc' := 146) at_145 rfl (z := 2) rfl ?_
      refine OwnW.iload C (pc' := 148) at_146 rfl rfl ?_
      refine OwnW.aloadN C (pc' := 149) at_148 rfl rfl rfl ?_
      refine OwnW.aload C (pc' := 151) at_149 rfl rfl rfl ?_
      refine OwnW.aload C (pc' := 153) at_151 rfl rfl rfl ?_
      refine OwnW.callS C (pc' := 156) (y := (⟨"com/example/kinegrid/kinegrid/server/ChunkPoolTakePinLaw", "check", "([BII[B[B[B)Z"⟩ : MethodName)) (W := 0) (argsL := [(.ref b3), (.int (2 : Int32)), (.int (2 : Int32)), (.ref b3), (.ref b4), (.ref b5)]) (rest := []) (hw _ (List.mem_of_getElem? (i := 27) rfl)) (hw _ (List.mem_of_getElem? (i := 28) rfl)) (hw _ (List.mem_of_getElem? (i := 29) rfl)) (hw _ (List.mem_of_getElem? (i := 30) rfl)) (by decide) (own_checkA l Z a0 hw b3 2 2 b3 b4 b5 h13 n0 (by decide) rfl) (K' := 7) (S' := 32840) (by decide) (by decide) rfl own_pd___BII_B_B_B_Z rfl (Nat.le_of_eq rfl) rfl rfl (by decide) (by decide) rfl at_153 rfl (fun v h' hq => ?_)
      obtain ⟨rfl, hh⟩ := hq
      refine Go.at (st' := [(.int (1 : Int32))]) rfl ?_
      refine Go.heap hh ?_
      refine OwnW.ifNe C (pcY := 161) (pcN := 159) at_156 (by decide) rfl rfl (fun hc156 => ?_) (fun hc156 => absurd hc156 (by decide))
      refine OwnW.aload C (pc' := 163) at_161 rfl rfl rfl ?_
      refine OwnW.iconst C (pc' := 164) at_163 rfl (z := 3) rfl ?_
      refine OwnW.iload C (pc' := 166) at_164 rfl rfl ?_
      refine OwnW.aloadN C (pc' := 167) at_166 rfl rfl rfl ?_
      refine OwnW.aload C (pc' := 169) at_167 rfl rfl rfl ?_
      refine OwnW.aload C (pc' := 171) at_169 rfl rfl rfl ?_
      refine OwnW.callS C (pc' := 174) (y := (⟨"com/example/kinegrid/kinegrid/server/ChunkPoolTakePinLaw", "check", "([BII[B[B[B)Z"⟩ : MethodName)) (W := 0) (argsL := [(.ref b12), (.int (3 : Int32)), (.int (2 : Int32)), (.ref b3), (.ref b4), (.ref b5)]) (rest := []) (hw _ (List.mem_of_getElem? (i := 27) rfl)) (hw _ (List.mem_of_getElem? (i := 28) rfl)) (hw _ (List.mem_of_getElem? (i := 29) rfl)) (hw _ (List.mem_of_getElem? (i := 30) rfl)) (by decide) (own_checkB l Z a0 hw b12 3 2 b3 b4 b5 _ h13 n0 (by decide) V_b12 (Ne.symm ne_b3_b12) (Ne.symm ne_b4_b12) (Ne.symm ne_b5_b12)) (K' := 7) (S' := 32840) (by decide) (by decide) rfl own_pd___BII_B_B_B_Z rfl (Nat.le_of_eq rfl) rfl rfl (by decide) (by decide) rfl at_171 rfl (fun v h' hq => ?_)
      obtain ⟨rfl, hh⟩ := hq
      refine Go.at (st' := [(.int (1 : Int32))]) rfl ?_
      refine Go.heap hh ?_
      refine OwnW.ifNe C (pcY := 179) (pcN := 177) at_174 (by decide) rfl rfl (fun hc174 => ?_) (fun hc174 => absurd hc174 (by decide))
      refine OwnW.aload C (pc' := 181) at_179 rfl rfl rfl ?_
      refine OwnW.iconst C (pc' := 182) at_181 rfl (z := 4) rfl ?_
      refine OwnW.iload C (pc' := 184) at_182 rfl rfl ?_
      refine OwnW.aloadN C (pc' := 185) at_184 rfl rfl rfl ?_
      refine OwnW.aload C (pc' := 187) at_185 rfl rfl rfl ?_
      refine OwnW.aload C (pc' := 189) at_187 rfl rfl rfl ?_
      refine OwnW.callS C (pc' := 192) (y := (⟨"com/example/kinegrid/kinegrid/server/ChunkPoolTakePinLaw", "check", "([BII[B[B[B)Z"⟩ : MethodName)) (W := 0) (argsL := [(.ref b13), (.int (4 : Int32)), (.int (2 : Int32)), (.ref b3), (.ref b4), (.ref b5)]) (rest := []) (hw _ (List.mem_of_getElem? (i := 27) rfl)) (hw _ (List.mem_of_getElem? (i := 28) rfl)) (hw _ (List.mem_of_getElem? (i := 29) rfl)) (hw _ (List.mem_of_getElem? (i := 30) rfl)) (by decide) (own_checkB l Z a0 hw b13 4 2 b3 b4 b5 _ h13 n0 (by decide) V_b13 (Ne.symm ne_b3_b13) (Ne.symm ne_b4_b13) (Ne.symm ne_b5_b13)) (K' := 7) (S' := 32840) (by decide) (by decide) rfl own_pd___BII_B_B_B_Z rfl (Nat.le_of_eq rfl) rfl rfl (by decide) (by decide) rfl at_189 rfl (fun v h' hq => ?_)
      obtain ⟨rfl, hh⟩ := hq
      refine Go.at (st' := [(.int (1 : Int32))]) rfl ?_
      refine Go.heap hh ?_
      refine OwnW.ifNe C (pcY := 197) (pcN := 195) at_192 (by decide) rfl rfl (fun hc192 => ?_) (fun hc192 => absurd hc192 (by decide))
      refine OwnW.aload C (pc' := 199) at_197 rfl rfl rfl ?_
      refine OwnW.aload C (pc' := 201) at_199 rfl rfl rfl ?_
      refine OwnW.acEq C (pcY := 243) (pcN := 204) rfl rfl at_201 (by decide) rfl rfl (fun hc201 => absurd (Value.ref.inj hc201) (Ne.symm ne_b3_b4)) (fun hc201 => ?_)
      refine OwnW.aload C (pc' := 206) at_204 rfl rfl rfl ?_
      refine OwnW.aload C (pc' := 208) at_206 rfl rfl rfl ?_
      refine OwnW.acEq C (pcY := 243) (pcN := 211) rfl rfl at_208 (by decide) rfl rfl (fun hc208 => absurd (Value.ref.inj hc208) ne_b4_b12) (fun hc208 => ?_)
      refine OwnW.aload C (pc' := 213) at_211 rfl rfl rfl ?_
      refine OwnW.aload C (pc' := 215) at_213 rfl rfl rfl ?_
      refine OwnW.acEq C (pcY := 243) (pcN := 218) rfl rfl at_215 (by decide) rfl rfl (fun hc215 => absurd (Value.ref.inj hc215) ne_b4_b13) (fun hc215 => ?_)
      refine OwnW.aload C (pc' := 220) at_218 rfl rfl rfl ?_
      refine OwnW.aload C (pc' := 222) at_220 rfl rfl rfl ?_
      refine OwnW.acEq C (pcY := 243) (pcN := 225) rfl rfl at_222 (by decide) rfl rfl (fun hc222 => absurd (Value.ref.inj hc222) ne_b3_b12) (fun hc222 => ?_)
      refine OwnW.aload C (pc' := 227) at_225 rfl rfl rfl ?_
      refine OwnW.aload C (pc' := 229) at_227 rfl rfl rfl ?_
      refine OwnW.acEq C (pcY := 243) (pcN := 232) rfl rfl at_229 (by decide) rfl rfl (fun hc229 => absurd (Value.ref.inj hc229) ne_b3_b13) (fun hc229 => ?_)
      refine OwnW.aload C (pc' := 234) at_232 rfl rfl rfl ?_
      refine OwnW.aload C (pc' := 236) at_234 rfl rfl rfl ?_
      refine OwnW.acEq C (pcY := 243) (pcN := 239) rfl rfl at_236 (by decide) rfl rfl (fun hc236 => absurd (Value.ref.inj hc236) ne_b12_b13) (fun hc236 => ?_)
      refine OwnW.iconst C (pc' := 240) at_239 rfl (z := 1) rfl ?_
      refine OwnW.goto C (pc' := 244) at_240 (by decide) rfl ?_
      exact OwnW.retN C (t := .boolean) (z := (1 : Int32)) rfl (by simp) rfl rfl (by decide) (by decide) at_244
  · rw [hk]
    refine OwnW.iload C (pc' := 29) at_27 rfl rfl ?_
    refine OwnW.iconst C (pc' := 30) at_29 rfl (z := 1) rfl ?_
    refine OwnW.icLt C (pcY := 38) (pcN := 33) at_30 (by decide) rfl rfl (fun hc30 => absurd hc30 (by decide)) (fun hc30 => ?_)
    refine OwnW.aloadN C (pc' := 34) at_33 rfl rfl rfl ?_
    refine OwnW.aloadN C (pc' := 35) at_34 rfl rfl rfl ?_
    refine OwnW.callV C (pc' := 38) (y := (⟨"com/example/kinegrid/kinegrid/server/ChunkPool", "give", "([B)V"⟩ : MethodName)) (z := (⟨"com/example/kinegrid/kinegrid/server/ChunkPool", "give", "([B)V"⟩ : MethodName)) (W := 0) (argsL := [(.ref b3)]) (rest := []) (hw _ (List.mem_of_getElem? (i := 21) rfl)) (hw _ (List.mem_of_getElem? (i := 22) rfl)) (notFace_of_selects (args := #[]) (mvT C.2.1 (hw _ (List.mem_of_getElem? (i := 24) rfl)))) (hw _ (List.mem_of_getElem? (i := 24) rfl)) (hw _ (List.mem_of_getElem? (i := 23) rfl)) (hw _ (List.mem_of_getElem? (i := 2) rfl)) (hw _ (List.mem_of_getElem? (i := 25) rfl)) X_b1 (by decide) (own_give l Z a0 hw b1 b3 ca 0 1 0 (List.replicate 64 .null) cA h5 n0 X_b1 F_chunks_b1 F_count_b1 V_ca g_b1 g_ca ne_b1_ca rfl ⟨by decide, by decide⟩ rfl (Nat.le_of_ble_eq_true rfl) (sto_ofA V_ca OV (Ins.self X_b3))) (K' := 5) (S' := 72) (by decide) (by decide) rfl own_pd___B_V rfl (Nat.le_of_eq rfl) rfl rfl (by decide) (by decide) rfl at_35 rfl (fun v h6 hq => ?_)
    obtain ⟨rfl, KK, F_chunks_b1', F_count_b1', V_ca'⟩ := hq
    refine Go.at (st' := []) rfl ?_
    have O := O.keep KK (allS (g_b1) (allS (g_ca) all0))
    have Sz := Nat.le_trans Sz KK.1
    have X_b1 := X_b1.keep KK
    have X_b3 := X_b3.keep KK
    have V_b3 := V_b3.keep KK (ninS (Ne.symm ne_b1_b3) (ninS (Ne.symm ne_ca_b3) nin0))
    have X_b4 := X_b4.keep KK
    have V_b4 := V_b4.keep KK (ninS (Ne.symm ne_b1_b4) (ninS (Ne.symm ne_ca_b4) nin0))
    have X_b5 := X_b5.keep KK
    have V_b5 := V_b5.keep KK (ninS (Ne.symm ne_b1_b5) (ninS (Ne.symm ne_ca_b5) nin0))
    have F_chunks_b1 := F_chunks_b1'
    have F_count_b1 := F_count_b1'
    have V_ca := V_ca'
    refine OwnW.iload C (pc' := 40) at_38 rfl rfl ?_
    refine OwnW.iconst C (pc' := 41) at_40 rfl (z := 2) rfl ?_
    refine OwnW.icLt C (pcY := 50) (pcN := 44) at_41 (by decide) rfl rfl (fun hc41 => absurd hc41 (by decide)) (fun hc41 => ?_)
    refine OwnW.aloadN C (pc' := 45) at_44 rfl rfl rfl ?_
    refine OwnW.aload C (pc' := 47) at_45 rfl rfl rfl ?_
    refine OwnW.callV C (pc' := 50) (y := (⟨"com/example/kinegrid/kinegrid/server/ChunkPool", "give", "([B)V"⟩ : MethodName)) (z := (⟨"com/example/kinegrid/kinegrid/server/ChunkPool", "give", "([B)V"⟩ : MethodName)) (W := 0) (argsL := [(.ref b4)]) (rest := []) (hw _ (List.mem_of_getElem? (i := 21) rfl)) (hw _ (List.mem_of_getElem? (i := 22) rfl)) (notFace_of_selects (args := #[]) (mvT C.2.1 (hw _ (List.mem_of_getElem? (i := 24) rfl)))) (hw _ (List.mem_of_getElem? (i := 24) rfl)) (hw _ (List.mem_of_getElem? (i := 23) rfl)) (hw _ (List.mem_of_getElem? (i := 2) rfl)) (hw _ (List.mem_of_getElem? (i := 25) rfl)) X_b1 (by decide) (own_give l Z a0 hw b1 b4 ca 1 2 1 ((List.replicate 64 .null).set 0 (.ref b3)) cA h6 n0 X_b1 F_chunks_b1 F_count_b1 V_ca g_b1 g_ca ne_b1_ca rfl ⟨by decide, by decide⟩ rfl (Nat.le_of_ble_eq_true rfl) (sto_ofA V_ca OV (Ins.self X_b4))) (K' := 5) (S' := 72) (by decide) (by decide) rfl own_pd___B_V rfl (Nat.le_of_eq rfl) rfl rfl (by decide) (by decide) rfl at_47 rfl (fun v h7 hq => ?_)
    obtain ⟨rfl, KK, F_chunks_b1', F_count_b1', V_ca'⟩ := hq
    refine Go.at (st' := []) rfl ?_
    have O := O.keep KK (allS (g_b1) (allS (g_ca) all0))
    have Sz := Nat.le_trans Sz KK.1
    have X_b1 := X_b1.keep KK
    have X_b3 := X_b3.keep KK
    have V_b3 := V_b3.keep KK (ninS (Ne.symm ne_b1_b3) (ninS (Ne.symm ne_ca_b3) nin0))
    have X_b4 := X_b4.keep KK
    have V_b4 := V_b4.keep KK (ninS (Ne.symm ne_b1_b4) (ninS (Ne.symm ne_ca_b4) nin0))
    have X_b5 := X_b5.keep KK
    have V_b5 := V_b5.keep KK (ninS (Ne.symm ne_b1_b5) (ninS (Ne.symm ne_ca_b5) nin0))
    have F_chunks_b1 := F_chunks_b1'
    have F_count_b1 := F_count_b1'
    have V_ca := V_ca'
    refine OwnW.iload C (pc' := 52) at_50 rfl rfl ?_
    refine OwnW.iconst C (pc' := 53) at_52 rfl (z := 3) rfl ?_
    refine OwnW.icLt C (pcY := 62) (pcN := 56) at_53 (by decide) rfl rfl (fun hc53 => absurd hc53 (by decide)) (fun hc53 => ?_)
    refine OwnW.aloadN C (pc' := 57) at_56 rfl rfl rfl ?_
    refine OwnW.aload C (pc' := 59) at_57 rfl rfl rfl ?_
    refine OwnW.callV C (pc' := 62) (y := (⟨"com/example/kinegrid/kinegrid/server/ChunkPool", "give", "([B)V"⟩ : MethodName)) (z := (⟨"com/example/kinegrid/kinegrid/server/ChunkPool", "give", "([B)V"⟩ : MethodName)) (W := 0) (argsL := [(.ref b5)]) (rest := []) (hw _ (List.mem_of_getElem? (i := 21) rfl)) (hw _ (List.mem_of_getElem? (i := 22) rfl)) (notFace_of_selects (args := #[]) (mvT C.2.1 (hw _ (List.mem_of_getElem? (i := 24) rfl)))) (hw _ (List.mem_of_getElem? (i := 24) rfl)) (hw _ (List.mem_of_getElem? (i := 23) rfl)) (hw _ (List.mem_of_getElem? (i := 2) rfl)) (hw _ (List.mem_of_getElem? (i := 25) rfl)) X_b1 (by decide) (own_give l Z a0 hw b1 b5 ca 2 3 2 (((List.replicate 64 .null).set 0 (.ref b3)).set 1 (.ref b4)) cA h7 n0 X_b1 F_chunks_b1 F_count_b1 V_ca g_b1 g_ca ne_b1_ca rfl ⟨by decide, by decide⟩ rfl (Nat.le_of_ble_eq_true rfl) (sto_ofA V_ca OV (Ins.self X_b5))) (K' := 5) (S' := 72) (by decide) (by decide) rfl own_pd___B_V rfl (Nat.le_of_eq rfl) rfl rfl (by decide) (by decide) rfl at_59 rfl (fun v h8 hq => ?_)
    obtain ⟨rfl, KK, F_chunks_b1', F_count_b1', V_ca'⟩ := hq
    refine Go.at (st' := []) rfl ?_
    have O := O.keep KK (allS (g_b1) (allS (g_ca) all0))
    have Sz := Nat.le_trans Sz KK.1
    have X_b1 := X_b1.keep KK
    have X_b3 := X_b3.keep KK
    have V_b3 := V_b3.keep KK (ninS (Ne.symm ne_b1_b3) (ninS (Ne.symm ne_ca_b3) nin0))
    have X_b4 := X_b4.keep KK
    have V_b4 := V_b4.keep KK (ninS (Ne.symm ne_b1_b4) (ninS (Ne.symm ne_ca_b4) nin0))
    have X_b5 := X_b5.keep KK
    have V_b5 := V_b5.keep KK (ninS (Ne.symm ne_b1_b5) (ninS (Ne.symm ne_ca_b5) nin0))
    have F_chunks_b1 := F_chunks_b1'
    have F_count_b1 := F_count_b1'
    have V_ca := V_ca'
    refine OwnW.aloadN C (pc' := 63) at_62 rfl rfl rfl ?_
    refine OwnW.callV C (pc' := 66) (y := (⟨"com/example/kinegrid/kinegrid/server/ChunkPool", "take", "()[B"⟩ : MethodName)) (z := (⟨"com/example/kinegrid/kinegrid/server/ChunkPool", "take", "()[B"⟩ : MethodName)) (W := 0) (argsL := []) (rest := []) (hw _ (List.mem_of_getElem? (i := 14) rfl)) (hw _ (List.mem_of_getElem? (i := 15) rfl)) (notFace_of_selects (args := #[]) (mvT C.2.1 (hw _ (List.mem_of_getElem? (i := 17) rfl)))) (hw _ (List.mem_of_getElem? (i := 17) rfl)) (hw _ (List.mem_of_getElem? (i := 16) rfl)) (hw _ (List.mem_of_getElem? (i := 2) rfl)) (hw _ (List.mem_of_getElem? (i := 18) rfl)) X_b1 (by decide) (own_take l Z a0 hw b1 b5 ca 3 2 2 ((((List.replicate 64 .null).set 0 (.ref b3)).set 1 (.ref b4)).set 2 (.ref b5)) cA h8 n0 X_b1 F_chunks_b1 F_count_b1 V_ca g_b1 g_ca ne_b1_ca (by decide) rfl ⟨by decide, by decide⟩ rfl (Nat.le_of_ble_eq_true rfl) rfl) (K' := 5) (S' := 72) (by decide) (by decide) rfl own_pd____B rfl (Nat.le_of_eq rfl) rfl rfl (by decide) (by decide) rfl at_63 rfl (fun v h9 hq => ?_)
    obtain ⟨rfl, KK, F_chunks_b1', F_count_b1', V_ca'⟩ := hq
    refine Go.at (st' := [(.ref b5)]) rfl ?_
    have O := O.keep KK (allS (g_b1) (allS (g_ca) all0))
    have Sz := Nat.le_trans Sz KK.1
    have X_b1 := X_b1.keep KK
    have X_b3 := X_b3.keep KK
    have V_b3 := V_b3.keep KK (ninS (Ne.symm ne_b1_b3) (ninS (Ne.symm ne_ca_b3) nin0))
    have X_b4 := X_b4.keep KK
    have V_b4 := V_b4.keep KK (ninS (Ne.symm ne_b1_b4) (ninS (Ne.symm ne_ca_b4) nin0))
    have X_b5 := X_b5.keep KK
    have V_b5 := V_b5.keep KK (ninS (Ne.symm ne_b1_b5) (ninS (Ne.symm ne_ca_b5) nin0))
    have F_chunks_b1 := F_chunks_b1'
    have F_count_b1 := F_count_b1'
    have V_ca := V_ca'
    refine OwnW.astore C (pc' := 68) at_66 rfl rfl (l' := #[.val (.int i0), .val (.int i1), .val (.ref b1), .val (.ref b3), .val (.ref b4), .val (.ref b5), .val (.int (3 : Int32)), .val (.ref b5), .unset, .unset, .unset, .unset]) rfl ?_
    refine OwnW.iloadN C (pc' := 69) at_68 rfl rfl ?_
    refine OwnW.iconst C (pc' := 70) at_69 rfl (z := 1) rfl ?_
    refine OwnW.iand C (pc' := 71) at_70 rfl ?_
    refine OwnW.ifEq C (pcY := 78) (pcN := 74) at_71 (by decide) rfl rfl (fun hc71 => ?_) (fun hc71 => ?_)
    · refine OwnW.iconst C (pc' := 79) at_78 rfl (z := 0) rfl ?_
      refine OwnW.istore C (pc' := 81) at_79 rfl (l' := #[.val (.int i0), .val (.int i1), .val (.ref b1), .val (.ref b3), .val (.ref b4), .val (.ref b5), .val (.int (3 : Int32)), .val (.ref b5), .val (.int (0 : Int32)), .unset, .unset, .unset]) rfl ?_
      refine OwnW.iload C (pc' := 83) at_81 rfl rfl ?_
      refine OwnW.ifEq C (pcY := 107) (pcN := 86) at_83 (by decide) rfl rfl (fun hc83 => ?_) (fun hc83 => absurd rfl hc83)
      refine OwnW.aloadN C (pc' := 108) at_107 rfl rfl rfl ?_
      refine OwnW.callV C (pc' := 111) (y := (⟨"com/example/kinegrid/kinegrid/server/ChunkPool", "take", "()[B"⟩ : MethodName)) (z := (⟨"com/example/kinegrid/kinegrid/server/ChunkPool", "take", "()[B"⟩ : MethodName)) (W := 0) (argsL := []) (rest := []) (hw _ (List.mem_of_getElem? (i := 14) rfl)) (hw _ (List.mem_of_getElem? (i := 15) rfl)) (notFace_of_selects (args := #[]) (mvT C.2.1 (hw _ (List.mem_of_getElem? (i := 17) rfl)))) (hw _ (List.mem_of_getElem? (i := 17) rfl)) (hw _ (List.mem_of_getElem? (i := 16) rfl)) (hw _ (List.mem_of_getElem? (i := 2) rfl)) (hw _ (List.mem_of_getElem? (i := 18) rfl)) X_b1 (by decide) (own_take l Z a0 hw b1 b4 ca 2 1 1 (((((List.replicate 64 .null).set 0 (.ref b3)).set 1 (.ref b4)).set 2 (.ref b5)).set 2 .null) cA h9 n0 X_b1 F_chunks_b1 F_count_b1 V_ca g_b1 g_ca ne_b1_ca (by decide) rfl ⟨by decide, by decide⟩ rfl (Nat.le_of_ble_eq_true rfl) rfl) (K' := 5) (S' := 72) (by decide) (by decide) rfl own_pd____B rfl (Nat.le_of_eq rfl) rfl rfl (by decide) (by decide) rfl at_108 rfl (fun v h10 hq => ?_)
      obtain ⟨rfl, KK, F_chunks_b1', F_count_b1', V_ca'⟩ := hq
      refine Go.at (st' := [(.ref b4)]) rfl ?_
      have O := O.keep KK (allS (g_b1) (allS (g_ca) all0))
      have Sz := Nat.le_trans Sz KK.1
      have X_b1 := X_b1.keep KK
      have X_b3 := X_b3.keep KK
      have V_b3 := V_b3.keep KK (ninS (Ne.symm ne_b1_b3) (ninS (Ne.symm ne_ca_b3) nin0))
      have X_b4 := X_b4.keep KK
      have V_b4 := V_b4.keep KK (ninS (Ne.symm ne_b1_b4) (ninS (Ne.symm ne_ca_b4) nin0))
      have X_b5 := X_b5.keep KK
      have V_b5 := V_b5.keep KK (ninS (Ne.symm ne_b1_b5) (ninS (Ne.symm ne_ca_b5) nin0))
      have F_chunks_b1 := F_chunks_b1'
      have F_count_b1 := F_count_b1'
      have V_ca := V_ca'
      refine OwnW.astore C (pc' := 113) at_111 rfl rfl (l' := #[.val (.int i0), .val (.int i1), .val (.ref b1), .val (.ref b3), .val (.ref b4), .val (.ref b5), .val (.int (3 : Int32)), .val (.ref b5), .val (.int (0 : Int32)), .val (.ref b4), .unset, .unset]) rfl ?_
      refine OwnW.aloadN C (pc' := 114) at_113 rfl rfl rfl ?_
      refine OwnW.callV C (pc' := 117) (y := (⟨"com/example/kinegrid/kinegrid/server/ChunkPool", "take", "()[B"⟩ : MethodName)) (z := (⟨"com/example/kinegrid/kinegrid/server/ChunkPool", "take", "()[B"⟩ : MethodName)) (W := 0) (argsL := []) (rest := []) (hw _ (List.mem_of_getElem? (i := 14) rfl)) (hw _ (List.mem_of_getElem? (i := 15) rfl)) (notFace_of_selects (args := #[]) (mvT C.2.1 (hw _ (List.mem_of_getElem? (i := 17) rfl)))) (hw _ (List.mem_of_getElem? (i := 17) rfl)) (hw _ (List.mem_of_getElem? (i := 16) rfl)) (hw _ (List.mem_of_getElem? (i := 2) rfl)) (hw _ (List.mem_of_getElem? (i := 18) rfl)) X_b1 (by decide) (own_take l Z a0 hw b1 b3 ca 1 0 0 ((((((List.replicate 64 .null).set 0 (.ref b3)).set 1 (.ref b4)).set 2 (.ref b5)).set 2 .null).set 1 .null) cA h10 n0 X_b1 F_chunks_b1 F_count_b1 V_ca g_b1 g_ca ne_b1_ca (by decide) rfl ⟨by decide, by decide⟩ rfl (Nat.le_of_ble_eq_true rfl) rfl) (K' := 5) (S' := 72) (by decide) (by decide) rfl own_pd____B rfl (Nat.le_of_eq rfl) rfl rfl (by decide) (by decide) rfl at_114 rfl (fun v h11 hq => ?_)
      obtain ⟨rfl, KK, F_chunks_b1', F_count_b1', V_ca'⟩ := hq
      refine Go.at (st' := [(.ref b3)]) rfl ?_
      have O := O.keep KK (allS (g_b1) (allS (g_ca) all0))
      have Sz := Nat.le_trans Sz KK.1
      have X_b1 := X_b1.keep KK
      have X_b3 := X_b3.keep KK
      have V_b3 := V_b3.keep KK (ninS (Ne.symm ne_b1_b3) (ninS (Ne.symm ne_ca_b3) nin0))
      have X_b4 := X_b4.keep KK
      have V_b4 := V_b4.keep KK (ninS (Ne.symm ne_b1_b4) (ninS (Ne.symm ne_ca_b4) nin0))
      have X_b5 := X_b5.keep KK
      have V_b5 := V_b5.keep KK (ninS (Ne.symm ne_b1_b5) (ninS (Ne.symm ne_ca_b5) nin0))
      have F_chunks_b1 := F_chunks_b1'
      have F_count_b1 := F_count_b1'
      have V_ca := V_ca'
      refine OwnW.astore C (pc' := 119) at_117 rfl rfl (l' := #[.val (.int i0), .val (.int i1), .val (.ref b1), .val (.ref b3), .val (.ref b4), .val (.ref b5), .val (.int (3 : Int32)), .val (.ref b5), .val (.int (0 : Int32)), .val (.ref b4), .val (.ref b3), .unset]) rfl ?_
      refine OwnW.aloadN C (pc' := 120) at_119 rfl rfl rfl ?_
      refine OwnW.callV C (pc' := 123) (y := (⟨"com/example/kinegrid/kinegrid/server/ChunkPool", "take", "()[B"⟩ : MethodName)) (z := (⟨"com/example/kinegrid/kinegrid/server/ChunkPool", "take", "()[B"⟩ : MethodName)) (W := 0) (argsL := []) (rest := []) (hw _ (List.mem_of_getElem? (i := 14) rfl)) (hw _ (List.mem_of_getElem? (i := 15) rfl)) (notFace_of_selects (args := #[]) (mvT C.2.1 (hw _ (List.mem_of_getElem? (i := 17) rfl)))) (hw _ (List.mem_of_getElem? (i := 17) rfl)) (hw _ (List.mem_of_getElem? (i := 16) rfl)) (hw _ (List.mem_of_getElem? (i := 2) rfl)) (hw _ (List.mem_of_getElem? (i := 18) rfl)) X_b1 (by decide) (own_take0 l Z a0 hw b1 h11 n0 F_count_b1) (K' := 6) (S' := 16456) (by decide) (by decide) rfl own_pd____B rfl (Nat.le_of_eq rfl) rfl rfl (by decide) (by decide) rfl at_120 rfl (fun v h12 hq => ?_)
      obtain ⟨b12, cA_b12, rfl, g12, E12, V_b12, X_b12⟩ := hq
      refine Go.at (st' := [(.ref b12)]) rfl ?_
      have ne_b1_b12 : b1 ≠ b12 := Nat.ne_of_lt (Nat.lt_of_lt_of_eq X_b1.lt g12.symm)
      have ne_b3_b12 : b3 ≠ b12 := Nat.ne_of_lt (Nat.lt_of_lt_of_eq X_b3.lt g12.symm)
      have ne_b4_b12 : b4 ≠ b12 := Nat.ne_of_lt (Nat.lt_of_lt_of_eq X_b4.lt g12.symm)
      have ne_b5_b12 : b5 ≠ b12 := Nat.ne_of_lt (Nat.lt_of_lt_of_eq X_b5.lt g12.symm)
      have ne_ca_b12 : ca ≠ b12 := Nat.ne_of_lt (Nat.lt_of_lt_of_eq V_ca.lt g12.symm)
      have g_b12 : n0 ≤ b12 := Nat.le_trans Sz (Nat.le_of_eq g12.symm)
      have O := O.ext E12
      have Sz := Nat.le_trans Sz E12.1
      have X_b1 := X_b1.ext E12
      have X_b3 := X_b3.ext E12
      have V_b3 := V_b3.ext E12
      have X_b4 := X_b4.ext E12
      have V_b4 := V_b4.ext E12
      have X_b5 := X_b5.ext E12
      have V_b5 := V_b5.ext E12
      have F_chunks_b1 := F_chunks_b1.ext E12
      have F_count_b1 := F_count_b1.ext E12
      have V_ca := V_ca.ext E12
      refine OwnW.astore C (pc' := 125) at_123 rfl rfl (l' := #[.val (.int i0), .val (.int i1), .val (.ref b1), .val (.ref b3), .val (.ref b4), .val (.ref b5), .val (.int (3 : Int32)), .val (.ref b5), .val (.int (0 : Int32)), .val (.ref b4), .val (.ref b3), .val (.ref b12)]) rfl ?_
      refine OwnW.aload C (pc' := 127) at_125 rfl rfl rfl ?_
      refine OwnW.iconst C (pc' := 128) at_127 rfl (z := 1) rfl ?_
      refine OwnW.iload C (pc' := 130) at_128 rfl rfl ?_
      refine OwnW.aloadN C (pc' := 131) at_130 rfl rfl rfl ?_
      refine OwnW.aload C (pc' := 133) at_131 rfl rfl rfl ?_
      refine OwnW.aload C (pc' := 135) at_133 rfl rfl rfl ?_
      refine OwnW.callS C (pc' := 138) (y := (⟨"com/example/kinegrid/kinegrid/server/ChunkPoolTakePinLaw", "check", "([BII[B[B[B)Z"⟩ : MethodName)) (W := 0) (argsL := [(.ref b5), (.int (1 : Int32)), (.int (3 : Int32)), (.ref b3), (.ref b4), (.ref b5)]) (rest := []) (hw _ (List.mem_of_getElem? (i := 27) rfl)) (hw _ (List.mem_of_getElem? (i := 28) rfl)) (hw _ (List.mem_of_getElem? (i := 29) rfl)) (hw _ (List.mem_of_getElem? (i := 30) rfl)) (by decide) (own_checkA l Z a0 hw b5 1 3 b3 b4 b5 h12 n0 (by decide) rfl) (K' := 6) (S' := 16456) (by decide) (by decide) rfl own_pd___BII_B_B_B_Z rfl (Nat.le_of_eq rfl) rfl rfl (by decide) (by decide) rfl at_135 rfl (fun v h' hq => ?_)
      obtain ⟨rfl, hh⟩ := hq
      refine Go.at (st' := [(.int (1 : Int32))]) rfl ?_
      refine Go.heap hh ?_
      refine OwnW.ifNe C (pcY := 143) (pcN := 141) at_138 (by decide) rfl rfl (fun hc138 => ?_) (fun hc138 => absurd hc138 (by decide))
      refine OwnW.aload C (pc' := 145) at_143 rfl rfl rfl ?_
      refine OwnW.iconst C (pc' := 146) at_145 rfl (z := 2) rfl ?_
      refine OwnW.iload C (pc' := 148) at_146 rfl rfl ?_
      refine OwnW.aloadN C (pc' := 149) at_148 rfl rfl rfl ?_
      refine OwnW.aload C (pc' := 151) at_149 rfl rfl rfl ?_
      refine OwnW.aload C (pc' := 153) at_151 rfl rfl rfl ?_
      refine OwnW.callS C (pc' := 156) (y := (⟨"com/example/kinegrid/kinegrid/server/ChunkPoolTakePinLaw", "check", "([BII[B[B[B)Z"⟩ : MethodName)) (W := 0) (argsL := [(.ref b4), (.int (2 : Int32)), (.int (3 : Int32)), (.ref b3), (.ref b4), (.ref b5)]) (rest := []) (hw _ (List.mem_of_getElem? (i := 27) rfl)) (hw _ (List.mem_of_getElem? (i := 28) rfl)) (hw _ (List.mem_of_getElem? (i := 29) rfl)) (hw _ (List.mem_of_getElem? (i := 30) rfl)) (by decide) (own_checkA l Z a0 hw b4 2 3 b3 b4 b5 h12 n0 (by decide) rfl) (K' := 6) (S' := 16456) (by decide) (by decide) rfl own_pd___BII_B_B_B_Z rfl (Nat.le_of_eq rfl) rfl rfl (by decide) (by decide) rfl at_153 rfl (fun v h' hq => ?_)
      obtain ⟨rfl, hh⟩ := hq
      refine Go.at (st' := [(.int (1 : Int32))]) rfl ?_
      refine Go.heap hh ?_
      refine OwnW.ifNe C (pcY := 161) (pcN := 159) at_156 (by decide) rfl rfl (fun hc156 => ?_) (fun hc156 => absurd hc156 (by decide))
      refine OwnW.aload C (pc' := 163) at_161 rfl rfl rfl ?_
      refine OwnW.iconst C (pc' := 164) at_163 rfl (z := 3) rfl ?_
      refine OwnW.iload C (pc' := 166) at_164 rfl rfl ?_
      refine OwnW.aloadN C (pc' := 167) at_166 rfl rfl rfl ?_
      refine OwnW.aload C (pc' := 169) at_167 rfl rfl rfl ?_
      refine OwnW.aload C (pc' := 171) at_169 rfl rfl rfl ?_
      refine OwnW.callS C (pc' := 174) (y := (⟨"com/example/kinegrid/kinegrid/server/ChunkPoolTakePinLaw", "check", "([BII[B[B[B)Z"⟩ : MethodName)) (W := 0) (argsL := [(.ref b3), (.int (3 : Int32)), (.int (3 : Int32)), (.ref b3), (.ref b4), (.ref b5)]) (rest := []) (hw _ (List.mem_of_getElem? (i := 27) rfl)) (hw _ (List.mem_of_getElem? (i := 28) rfl)) (hw _ (List.mem_of_getElem? (i := 29) rfl)) (hw _ (List.mem_of_getElem? (i := 30) rfl)) (by decide) (own_checkA l Z a0 hw b3 3 3 b3 b4 b5 h12 n0 (by decide) rfl) (K' := 6) (S' := 16456) (by decide) (by decide) rfl own_pd___BII_B_B_B_Z rfl (Nat.le_of_eq rfl) rfl rfl (by decide) (by decide) rfl at_171 rfl (fun v h' hq => ?_)
      obtain ⟨rfl, hh⟩ := hq
      refine Go.at (st' := [(.int (1 : Int32))]) rfl ?_
      refine Go.heap hh ?_
      refine OwnW.ifNe C (pcY := 179) (pcN := 177) at_174 (by decide) rfl rfl (fun hc174 => ?_) (fun hc174 => absurd hc174 (by decide))
      refine OwnW.aload C (pc' := 181) at_179 rfl rfl rfl ?_
      refine OwnW.iconst C (pc' := 182) at_181 rfl (z := 4) rfl ?_
      refine OwnW.iload C (pc' := 184) at_182 rfl rfl ?_
      refine OwnW.aloadN C (pc' := 185) at_184 rfl rfl rfl ?_
      refine OwnW.aload C (pc' := 187) at_185 rfl rfl rfl ?_
      refine OwnW.aload C (pc' := 189) at_187 rfl rfl rfl ?_
      refine OwnW.callS C (pc' := 192) (y := (⟨"com/example/kinegrid/kinegrid/server/ChunkPoolTakePinLaw", "check", "([BII[B[B[B)Z"⟩ : MethodName)) (W := 0) (argsL := [(.ref b12), (.int (4 : Int32)), (.int (3 : Int32)), (.ref b3), (.ref b4), (.ref b5)]) (rest := []) (hw _ (List.mem_of_getElem? (i := 27) rfl)) (hw _ (List.mem_of_getElem? (i := 28) rfl)) (hw _ (List.mem_of_getElem? (i := 29) rfl)) (hw _ (List.mem_of_getElem? (i := 30) rfl)) (by decide) (own_checkB l Z a0 hw b12 4 3 b3 b4 b5 _ h12 n0 (by decide) V_b12 (Ne.symm ne_b3_b12) (Ne.symm ne_b4_b12) (Ne.symm ne_b5_b12)) (K' := 6) (S' := 16456) (by decide) (by decide) rfl own_pd___BII_B_B_B_Z rfl (Nat.le_of_eq rfl) rfl rfl (by decide) (by decide) rfl at_189 rfl (fun v h' hq => ?_)
      obtain ⟨rfl, hh⟩ := hq
      refine Go.at (st' := [(.int (1 : Int32))]) rfl ?_
      refine Go.heap hh ?_
      refine OwnW.ifNe C (pcY := 197) (pcN := 195) at_192 (by decide) rfl rfl (fun hc192 => ?_) (fun hc192 => absurd hc192 (by decide))
      refine OwnW.aload C (pc' := 199) at_197 rfl rfl rfl ?_
      refine OwnW.aload C (pc' := 201) at_199 rfl rfl rfl ?_
      refine OwnW.acEq C (pcY := 243) (pcN := 204) rfl rfl at_201 (by decide) rfl rfl (fun hc201 => absurd (Value.ref.inj hc201) (Ne.symm ne_b4_b5)) (fun hc201 => ?_)
      refine OwnW.aload C (pc' := 206) at_204 rfl rfl rfl ?_
      refine OwnW.aload C (pc' := 208) at_206 rfl rfl rfl ?_
      refine OwnW.acEq C (pcY := 243) (pcN := 211) rfl rfl at_208 (by decide) rfl rfl (fun hc208 => absurd (Value.ref.inj hc208) (Ne.symm ne_b3_b5)) (fun hc208 => ?_)
      refine OwnW.aload C (pc' := 213) at_211 rfl rfl rfl ?_
      refine OwnW.aload C (pc' := 215) at_213 rfl rfl rfl ?_
      refine OwnW.acEq C (pcY := 243) (pcN := 218) rfl rfl at_215 (by decide) rfl rfl (fun hc215 => absurd (Value.ref.inj hc215) ne_b5_b12) (fun hc215 => ?_)
      refine OwnW.aload C (pc' := 220) at_218 rfl rfl rfl ?_
      refine OwnW.aload C (pc' := 222) at_220 rfl rfl rfl ?_
      refine OwnW.acEq C (pcY := 243) (pcN := 225) rfl rfl at_222 (by decide) rfl rfl (fun hc222 => absurd (Value.ref.inj hc222) (Ne.symm ne_b3_b4)) (fun hc222 => ?_)
      refine OwnW.aload C (pc' := 227) at_225 rfl rfl rfl ?_
      refine OwnW.aload C (pc' := 229) at_227 rfl rfl rfl ?_
      refine OwnW.acEq C (pcY := 243) (pcN := 232) rfl rfl at_229 (by decide) rfl rfl (fun hc229 => absurd (Value.ref.inj hc229) ne_b4_b12) (fun hc229 => ?_)
      refine OwnW.aload C (pc' := 234) at_232 rfl rfl rfl ?_
      refine OwnW.aload C (pc' := 236) at_234 rfl rfl rfl ?_
      refine OwnW.acEq C (pcY := 243) (pcN := 239) rfl rfl at_236 (by decide) rfl rfl (fun hc236 => absurd (Value.ref.inj hc236) ne_b3_b12) (fun hc236 => ?_)
      refine OwnW.iconst C (pc' := 240) at_239 rfl (z := 1) rfl ?_
      refine OwnW.goto C (pc' := 244) at_240 (by decide) rfl ?_
      exact OwnW.retN C (t := .boolean) (z := (1 : Int32)) rfl (by simp) rfl rfl (by decide) (by decide) at_244
    · refine OwnW.iconst C (pc' := 75) at_74 rfl (z := 1) rfl ?_
      refine OwnW.goto C (pc' := 79) at_75 (by decide) rfl ?_
      refine OwnW.istore C (pc' := 81) at_79 rfl (l' := #[.val (.int i0), .val (.int i1), .val (.ref b1), .val (.ref b3), .val (.ref b4), .val (.ref b5), .val (.int (3 : Int32)), .val (.ref b5), .val (.int (1 : Int32)), .unset, .unset, .unset]) rfl ?_
      refine OwnW.iload C (pc' := 83) at_81 rfl rfl ?_
      refine OwnW.ifEq C (pcY := 107) (pcN := 86) at_83 (by decide) rfl rfl (fun hc83 => absurd hc83 (by decide)) (fun hc83 => ?_)
      refine OwnW.aloadN C (pc' := 87) at_86 rfl rfl rfl ?_
      refine OwnW.aload C (pc' := 89) at_87 rfl rfl rfl ?_
      refine OwnW.callV C (pc' := 92) (y := (⟨"com/example/kinegrid/kinegrid/server/ChunkPool", "give", "([B)V"⟩ : MethodName)) (z := (⟨"com/example/kinegrid/kinegrid/server/ChunkPool", "give", "([B)V"⟩ : MethodName)) (W := 0) (argsL := [(.ref b5)]) (rest := []) (hw _ (List.mem_of_getElem? (i := 21) rfl)) (hw _ (List.mem_of_getElem? (i := 22) rfl)) (notFace_of_selects (args := #[]) (mvT C.2.1 (hw _ (List.mem_of_getElem? (i := 24) rfl)))) (hw _ (List.mem_of_getElem? (i := 24) rfl)) (hw _ (List.mem_of_getElem? (i := 23) rfl)) (hw _ (List.mem_of_getElem? (i := 2) rfl)) (hw _ (List.mem_of_getElem? (i := 25) rfl)) X_b1 (by decide) (own_give l Z a0 hw b1 b5 ca 2 3 2 (((((List.replicate 64 .null).set 0 (.ref b3)).set 1 (.ref b4)).set 2 (.ref b5)).set 2 .null) cA h9 n0 X_b1 F_chunks_b1 F_count_b1 V_ca g_b1 g_ca ne_b1_ca rfl ⟨by decide, by decide⟩ rfl (Nat.le_of_ble_eq_true rfl) (sto_ofA V_ca OV (Ins.self X_b5))) (K' := 5) (S' := 72) (by decide) (by decide) rfl own_pd___B_V rfl (Nat.le_of_eq rfl) rfl rfl (by decide) (by decide) rfl at_89 rfl (fun v h10 hq => ?_)
      obtain ⟨rfl, KK, F_chunks_b1', F_count_b1', V_ca'⟩ := hq
      refine Go.at (st' := []) rfl ?_
      have O := O.keep KK (allS (g_b1) (allS (g_ca) all0))
      have Sz := Nat.le_trans Sz KK.1
      have X_b1 := X_b1.keep KK
      have X_b3 := X_b3.keep KK
      have V_b3 := V_b3.keep KK (ninS (Ne.symm ne_b1_b3) (ninS (Ne.symm ne_ca_b3) nin0))
      have X_b4 := X_b4.keep KK
      have V_b4 := V_b4.keep KK (ninS (Ne.symm ne_b1_b4) (ninS (Ne.symm ne_ca_b4) nin0))
      have X_b5 := X_b5.keep KK
      have V_b5 := V_b5.keep KK (ninS (Ne.symm ne_b1_b5) (ninS (Ne.symm ne_ca_b5) nin0))
      have F_chunks_b1 := F_chunks_b1'
      have F_count_b1 := F_count_b1'
      have V_ca := V_ca'
      refine OwnW.aloadN C (pc' := 93) at_92 rfl rfl rfl ?_
      refine OwnW.callV C (pc' := 96) (y := (⟨"com/example/kinegrid/kinegrid/server/ChunkPool", "take", "()[B"⟩ : MethodName)) (z := (⟨"com/example/kinegrid/kinegrid/server/ChunkPool", "take", "()[B"⟩ : MethodName)) (W := 0) (argsL := []) (rest := []) (hw _ (List.mem_of_getElem? (i := 14) rfl)) (hw _ (List.mem_of_getElem? (i := 15) rfl)) (notFace_of_selects (args := #[]) (mvT C.2.1 (hw _ (List.mem_of_getElem? (i := 17) rfl)))) (hw _ (List.mem_of_getElem? (i := 17) rfl)) (hw _ (List.mem_of_getElem? (i := 16) rfl)) (hw _ (List.mem_of_getElem? (i := 2) rfl)) (hw _ (List.mem_of_getElem? (i := 18) rfl)) X_b1 (by decide) (own_take l Z a0 hw b1 b5 ca 3 2 2 ((((((List.replicate 64 .null).set 0 (.ref b3)).set 1 (.ref b4)).set 2 (.ref b5)).set 2 .null).set 2 (.ref b5)) cA h10 n0 X_b1 F_chunks_b1 F_count_b1 V_ca g_b1 g_ca ne_b1_ca (by decide) rfl ⟨by decide, by decide⟩ rfl (Nat.le_of_ble_eq_true rfl) rfl) (K' := 5) (S' := 72) (by decide) (by decide) rfl own_pd____B rfl (Nat.le_of_eq rfl) rfl rfl (by decide) (by decide) rfl at_93 rfl (fun v h11 hq => ?_)
      obtain ⟨rfl, KK, F_chunks_b1', F_count_b1', V_ca'⟩ := hq
      refine Go.at (st' := [(.ref b5)]) rfl ?_
      have O := O.keep KK (allS (g_b1) (allS (g_ca) all0))
      have Sz := Nat.le_trans Sz KK.1
      have X_b1 := X_b1.keep KK
      have X_b3 := X_b3.keep KK
      have V_b3 := V_b3.keep KK (ninS (Ne.symm ne_b1_b3) (ninS (Ne.symm ne_ca_b3) nin0))
      have X_b4 := X_b4.keep KK
      have V_b4 := V_b4.keep KK (ninS (Ne.symm ne_b1_b4) (ninS (Ne.symm ne_ca_b4) nin0))
      have X_b5 := X_b5.keep KK
      have V_b5 := V_b5.keep KK (ninS (Ne.symm ne_b1_b5) (ninS (Ne.symm ne_ca_b5) nin0))
      have F_chunks_b1 := F_chunks_b1'
      have F_count_b1 := F_count_b1'
      have V_ca := V_ca'
      refine OwnW.astore C (pc' := 98) at_96 rfl rfl (l' := #[.val (.int i0), .val (.int i1), .val (.ref b1), .val (.ref b3), .val (.ref b4), .val (.ref b5), .val (.int (3 : Int32)), .val (.ref b5), .val (.int (1 : Int32)), .val (.ref b5), .unset, .unset]) rfl ?_
      refine OwnW.aload C (pc' := 100) at_98 rfl rfl rfl ?_
      refine OwnW.aload C (pc' := 102) at_100 rfl rfl rfl ?_
      refine OwnW.acEq C (pcY := 107) (pcN := 105) rfl rfl at_102 (by decide) rfl rfl (fun hc102 => ?_) (fun hc102 => absurd rfl hc102)
      refine OwnW.aloadN C (pc' := 108) at_107 rfl rfl rfl ?_
      refine OwnW.callV C (pc' := 111) (y := (⟨"com/example/kinegrid/kinegrid/server/ChunkPool", "take", "()[B"⟩ : MethodName)) (z := (⟨"com/example/kinegrid/kinegrid/server/ChunkPool", "take", "()[B"⟩ : MethodName)) (W := 0) (argsL := []) (rest := []) (hw _ (List.mem_of_getElem? (i := 14) rfl)) (hw _ (List.mem_of_getElem? (i := 15) rfl)) (notFace_of_selects (args := #[]) (mvT C.2.1 (hw _ (List.mem_of_getElem? (i := 17) rfl)))) (hw _ (List.mem_of_getElem? (i := 17) rfl)) (hw _ (List.mem_of_getElem? (i := 16) rfl)) (hw _ (List.mem_of_getElem? (i := 2) rfl)) (hw _ (List.mem_of_getElem? (i := 18) rfl)) X_b1 (by decide) (own_take l Z a0 hw b1 b4 ca 2 1 1 (((((((List.replicate 64 .null).set 0 (.ref b3)).set 1 (.ref b4)).set 2 (.ref b5)).set 2 .null).set 2 (.ref b5)).set 2 .null) cA h11 n0 X_b1 F_chunks_b1 F_count_b1 V_ca g_b1 g_ca ne_b1_ca (by decide) rfl ⟨by decide, by decide⟩ rfl (Nat.le_of_ble_eq_true rfl) rfl) (K' := 5) (S' := 72) (by decide) (by decide) rfl own_pd____B rfl (Nat.le_of_eq rfl) rfl rfl (by decide) (by decide) rfl at_108 rfl (fun v h12 hq => ?_)
      obtain ⟨rfl, KK, F_chunks_b1', F_count_b1', V_ca'⟩ := hq
      refine Go.at (st' := [(.ref b4)]) rfl ?_
      have O := O.keep KK (allS (g_b1) (allS (g_ca) all0))
      have Sz := Nat.le_trans Sz KK.1
      have X_b1 := X_b1.keep KK
      have X_b3 := X_b3.keep KK
      have V_b3 := V_b3.keep KK (ninS (Ne.symm ne_b1_b3) (ninS (Ne.symm ne_ca_b3) nin0))
      have X_b4 := X_b4.keep KK
      have V_b4 := V_b4.keep KK (ninS (Ne.symm ne_b1_b4) (ninS (Ne.symm ne_ca_b4) nin0))
      have X_b5 := X_b5.keep KK
      have V_b5 := V_b5.keep KK (ninS (Ne.symm ne_b1_b5) (ninS (Ne.symm ne_ca_b5) nin0))
      have F_chunks_b1 := F_chunks_b1'
      have F_count_b1 := F_count_b1'
      have V_ca := V_ca'
      refine OwnW.astore C (pc' := 113) at_111 rfl rfl (l' := #[.val (.int i0), .val (.int i1), .val (.ref b1), .val (.ref b3), .val (.ref b4), .val (.ref b5), .val (.int (3 : Int32)), .val (.ref b5), .val (.int (1 : Int32)), .val (.ref b4), .unset, .unset]) rfl ?_
      refine OwnW.aloadN C (pc' := 114) at_113 rfl rfl rfl ?_
      refine OwnW.callV C (pc' := 117) (y := (⟨"com/example/kinegrid/kinegrid/server/ChunkPool", "take", "()[B"⟩ : MethodName)) (z := (⟨"com/example/kinegrid/kinegrid/server/ChunkPool", "take", "()[B"⟩ : MethodName)) (W := 0) (argsL := []) (rest := []) (hw _ (List.mem_of_getElem? (i := 14) rfl)) (hw _ (List.mem_of_getElem? (i := 15) rfl)) (notFace_of_selects (args := #[]) (mvT C.2.1 (hw _ (List.mem_of_getElem? (i := 17) rfl)))) (hw _ (List.mem_of_getElem? (i := 17) rfl)) (hw _ (List.mem_of_getElem? (i := 16) rfl)) (hw _ (List.mem_of_getElem? (i := 2) rfl)) (hw _ (List.mem_of_getElem? (i := 18) rfl)) X_b1 (by decide) (own_take l Z a0 hw b1 b3 ca 1 0 0 ((((((((List.replicate 64 .null).set 0 (.ref b3)).set 1 (.ref b4)).set 2 (.ref b5)).set 2 .null).set 2 (.ref b5)).set 2 .null).set 1 .null) cA h12 n0 X_b1 F_chunks_b1 F_count_b1 V_ca g_b1 g_ca ne_b1_ca (by decide) rfl ⟨by decide, by decide⟩ rfl (Nat.le_of_ble_eq_true rfl) rfl) (K' := 5) (S' := 72) (by decide) (by decide) rfl own_pd____B rfl (Nat.le_of_eq rfl) rfl rfl (by decide) (by decide) rfl at_114 rfl (fun v h13 hq => ?_)
      obtain ⟨rfl, KK, F_chunks_b1', F_count_b1', V_ca'⟩ := hq
      refine Go.at (st' := [(.ref b3)]) rfl ?_
      have O := O.keep KK (allS (g_b1) (allS (g_ca) all0))
      have Sz := Nat.le_trans Sz KK.1
      have X_b1 := X_b1.keep KK
      have X_b3 := X_b3.keep KK
      have V_b3 := V_b3.keep KK (ninS (Ne.symm ne_b1_b3) (ninS (Ne.symm ne_ca_b3) nin0))
      have X_b4 := X_b4.keep KK
      have V_b4 := V_b4.keep KK (ninS (Ne.symm ne_b1_b4) (ninS (Ne.symm ne_ca_b4) nin0))
      have X_b5 := X_b5.keep KK
      have V_b5 := V_b5.keep KK (ninS (Ne.symm ne_b1_b5) (ninS (Ne.symm ne_ca_b5) nin0))
      have F_chunks_b1 := F_chunks_b1'
      have F_count_b1 := F_count_b1'
      have V_ca := V_ca'
      refine OwnW.astore C (pc' := 119) at_117 rfl rfl (l' := #[.val (.int i0), .val (.int i1), .val (.ref b1), .val (.ref b3), .val (.ref b4), .val (.ref b5), .val (.int (3 : Int32)), .val (.ref b5), .val (.int (1 : Int32)), .val (.ref b4), .val (.ref b3), .unset]) rfl ?_
      refine OwnW.aloadN C (pc' := 120) at_119 rfl rfl rfl ?_
      refine OwnW.callV C (pc' := 123) (y := (⟨"com/example/kinegrid/kinegrid/server/ChunkPool", "take", "()[B"⟩ : MethodName)) (z := (⟨"com/example/kinegrid/kinegrid/server/ChunkPool", "take", "()[B"⟩ : MethodName)) (W := 0) (argsL := []) (rest := []) (hw _ (List.mem_of_getElem? (i := 14) rfl)) (hw _ (List.mem_of_getElem? (i := 15) rfl)) (notFace_of_selects (args := #[]) (mvT C.2.1 (hw _ (List.mem_of_getElem? (i := 17) rfl)))) (hw _ (List.mem_of_getElem? (i := 17) rfl)) (hw _ (List.mem_of_getElem? (i := 16) rfl)) (hw _ (List.mem_of_getElem? (i := 2) rfl)) (hw _ (List.mem_of_getElem? (i := 18) rfl)) X_b1 (by decide) (own_take0 l Z a0 hw b1 h13 n0 F_count_b1) (K' := 6) (S' := 16456) (by decide) (by decide) rfl own_pd____B rfl (Nat.le_of_eq rfl) rfl rfl (by decide) (by decide) rfl at_120 rfl (fun v h14 hq => ?_)
      obtain ⟨b14, cA_b14, rfl, g14, E14, V_b14, X_b14⟩ := hq
      refine Go.at (st' := [(.ref b14)]) rfl ?_
      have ne_b1_b14 : b1 ≠ b14 := Nat.ne_of_lt (Nat.lt_of_lt_of_eq X_b1.lt g14.symm)
      have ne_b3_b14 : b3 ≠ b14 := Nat.ne_of_lt (Nat.lt_of_lt_of_eq X_b3.lt g14.symm)
      have ne_b4_b14 : b4 ≠ b14 := Nat.ne_of_lt (Nat.lt_of_lt_of_eq X_b4.lt g14.symm)
      have ne_b5_b14 : b5 ≠ b14 := Nat.ne_of_lt (Nat.lt_of_lt_of_eq X_b5.lt g14.symm)
      have ne_ca_b14 : ca ≠ b14 := Nat.ne_of_lt (Nat.lt_of_lt_of_eq V_ca.lt g14.symm)
      have g_b14 : n0 ≤ b14 := Nat.le_trans Sz (Nat.le_of_eq g14.symm)
      have O := O.ext E14
      have Sz := Nat.le_trans Sz E14.1
      have X_b1 := X_b1.ext E14
      have X_b3 := X_b3.ext E14
      have V_b3 := V_b3.ext E14
      have X_b4 := X_b4.ext E14
      have V_b4 := V_b4.ext E14
      have X_b5 := X_b5.ext E14
      have V_b5 := V_b5.ext E14
      have F_chunks_b1 := F_chunks_b1.ext E14
      have F_count_b1 := F_count_b1.ext E14
      have V_ca := V_ca.ext E14
      refine OwnW.astore C (pc' := 125) at_123 rfl rfl (l' := #[.val (.int i0), .val (.int i1), .val (.ref b1), .val (.ref b3), .val (.ref b4), .val (.ref b5), .val (.int (3 : Int32)), .val (.ref b5), .val (.int (1 : Int32)), .val (.ref b4), .val (.ref b3), .val (.ref b14)]) rfl ?_
      refine OwnW.aload C (pc' := 127) at_125 rfl rfl rfl ?_
      refine OwnW.iconst C (pc' := 128) at_127 rfl (z := 1) rfl ?_
      refine OwnW.iload C (pc' := 130) at_128 rfl rfl ?_
      refine OwnW.aloadN C (pc' := 131) at_130 rfl rfl rfl ?_
      refine OwnW.aload C (pc' := 133) at_131 rfl rfl rfl ?_
      refine OwnW.aload C (pc' := 135) at_133 rfl rfl rfl ?_
      refine OwnW.callS C (pc' := 138) (y := (⟨"com/example/kinegrid/kinegrid/server/ChunkPoolTakePinLaw", "check", "([BII[B[B[B)Z"⟩ : MethodName)) (W := 0) (argsL := [(.ref b5), (.int (1 : Int32)), (.int (3 : Int32)), (.ref b3), (.ref b4), (.ref b5)]) (rest := []) (hw _ (List.mem_of_getElem? (i := 27) rfl)) (hw _ (List.mem_of_getElem? (i := 28) rfl)) (hw _ (List.mem_of_getElem? (i := 29) rfl)) (hw _ (List.mem_of_getElem? (i := 30) rfl)) (by decide) (own_checkA l Z a0 hw b5 1 3 b3 b4 b5 h14 n0 (by decide) rfl) (K' := 6) (S' := 16456) (by decide) (by decide) rfl own_pd___BII_B_B_B_Z rfl (Nat.le_of_eq rfl) rfl rfl (by decide) (by decide) rfl at_135 rfl (fun v h' hq => ?_)
      obtain ⟨rfl, hh⟩ := hq
      refine Go.at (st' := [(.int (1 : Int32))]) rfl ?_
      refine Go.heap hh ?_
      refine OwnW.ifNe C (pcY := 143) (pcN := 141) at_138 (by decide) rfl rfl (fun hc138 => ?_) (fun hc138 => absurd hc138 (by decide))
      refine OwnW.aload C (pc' := 145) at_143 rfl rfl rfl ?_
      refine OwnW.iconst C (pc' := 146) at_145 rfl (z := 2) rfl ?_
      refine OwnW.iload C (pc' := 148) at_146 rfl rfl ?_
      refine OwnW.aloadN C (pc' := 149) at_148 rfl rfl rfl ?_
      refine OwnW.aload C (pc' := 151) at_149 rfl rfl rfl ?_
      refine OwnW.aload C (pc' := 153) at_151 rfl rfl rfl ?_
      refine OwnW.callS C (pc' := 156) (y := (⟨"com/example/kinegrid/kinegrid/server/ChunkPoolTakePinLaw", "check", "([BII[B[B[B)Z"⟩ : MethodName)) (W := 0) (argsL := [(.ref b4), (.int (2 : Int32)), (.int (3 : Int32)), (.ref b3), (.ref b4), (.ref b5)]) (rest := []) (hw _ (List.mem_of_getElem? (i := 27) rfl)) (hw _ (List.mem_of_getElem? (i := 28) rfl)) (hw _ (List.mem_of_getElem? (i := 29) rfl)) (hw _ (List.mem_of_getElem? (i := 30) rfl)) (by decide) (own_checkA l Z a0 hw b4 2 3 b3 b4 b5 h14 n0 (by decide) rfl) (K' := 6) (S' := 16456) (by decide) (by decide) rfl own_pd___BII_B_B_B_Z rfl (Nat.le_of_eq rfl) rfl rfl (by decide) (by decide) rfl at_153 rfl (fun v h' hq => ?_)
      obtain ⟨rfl, hh⟩ := hq
      refine Go.at (st' := [(.int (1 : Int32))]) rfl ?_
      refine Go.heap hh ?_
      refine OwnW.ifNe C (pcY := 161) (pcN := 159) at_156 (by decide) rfl rfl (fun hc156 => ?_) (fun hc156 => absurd hc156 (by decide))
      refine OwnW.aload C (pc' := 163) at_161 rfl rfl rfl ?_
      refine OwnW.iconst C (pc' := 164) at_163 rfl (z := 3) rfl ?_
      refine OwnW.iload C (pc' := 166) at_164 rfl rfl ?_
      refine OwnW.aloadN C (pc' := 167) at_166 rfl rfl rfl ?_
      refine OwnW.aload C (pc' := 169) at_167 rfl rfl rfl ?_
      refine OwnW.aload C (pc' := 171) at_169 rfl rfl rfl ?_
      refine OwnW.callS C (pc' := 174) (y := (⟨"com/example/kinegrid/kinegrid/server/ChunkPoolTakePinLaw", "check", "([BII[B[B[B)Z"⟩ : MethodName)) (W := 0) (argsL := [(.ref b3), (.int (3 : Int32)), (.int (3 : Int32)), (.ref b3), (.ref b4), (.ref b5)]) (rest := []) (hw _ (List.mem_of_getElem? (i := 27) rfl)) (hw _ (List.mem_of_getElem? (i := 28) rfl)) (hw _ (List.mem_of_getElem? (i := 29) rfl)) (hw _ (List.mem_of_getElem? (i := 30) rfl)) (by decide) (own_checkA l Z a0 hw b3 3 3 b3 b4 b5 h14 n0 (by decide) rfl) (K' := 6) (S' := 16456) (by decide) (by decide) rfl own_pd___BII_B_B_B_Z rfl (Nat.le_of_eq rfl) rfl rfl (by decide) (by decide) rfl at_171 rfl (fun v h' hq => ?_)
      obtain ⟨rfl, hh⟩ := hq
      refine Go.at (st' := [(.int (1 : Int32))]) rfl ?_
      refine Go.heap hh ?_
      refine OwnW.ifNe C (pcY := 179) (pcN := 177) at_174 (by decide) rfl rfl (fun hc174 => ?_) (fun hc174 => absurd hc174 (by decide))
      refine OwnW.aload C (pc' := 181) at_179 rfl rfl rfl ?_
      refine OwnW.iconst C (pc' := 182) at_181 rfl (z := 4) rfl ?_
      refine OwnW.iload C (pc' := 184) at_182 rfl rfl ?_
      refine OwnW.aloadN C (pc' := 185) at_184 rfl rfl rfl ?_
      refine OwnW.aload C (pc' := 187) at_185 rfl rfl rfl ?_
      refine OwnW.aload C (pc' := 189) at_187 rfl rfl rfl ?_
      refine OwnW.callS C (pc' := 192) (y := (⟨"com/example/kinegrid/kinegrid/server/ChunkPoolTakePinLaw", "check", "([BII[B[B[B)Z"⟩ : MethodName)) (W := 0) (argsL := [(.ref b14), (.int (4 : Int32)), (.int (3 : Int32)), (.ref b3), (.ref b4), (.ref b5)]) (rest := []) (hw _ (List.mem_of_getElem? (i := 27) rfl)) (hw _ (List.mem_of_getElem? (i := 28) rfl)) (hw _ (List.mem_of_getElem? (i := 29) rfl)) (hw _ (List.mem_of_getElem? (i := 30) rfl)) (by decide) (own_checkB l Z a0 hw b14 4 3 b3 b4 b5 _ h14 n0 (by decide) V_b14 (Ne.symm ne_b3_b14) (Ne.symm ne_b4_b14) (Ne.symm ne_b5_b14)) (K' := 6) (S' := 16456) (by decide) (by decide) rfl own_pd___BII_B_B_B_Z rfl (Nat.le_of_eq rfl) rfl rfl (by decide) (by decide) rfl at_189 rfl (fun v h' hq => ?_)
      obtain ⟨rfl, hh⟩ := hq
      refine Go.at (st' := [(.int (1 : Int32))]) rfl ?_
      refine Go.heap hh ?_
      refine OwnW.ifNe C (pcY := 197) (pcN := 195) at_192 (by decide) rfl rfl (fun hc192 => ?_) (fun hc192 => absurd hc192 (by decide))
      refine OwnW.aload C (pc' := 199) at_197 rfl rfl rfl ?_
      refine OwnW.aload C (pc' := 201) at_199 rfl rfl rfl ?_
      refine OwnW.acEq C (pcY := 243) (pcN := 204) rfl rfl at_201 (by decide) rfl rfl (fun hc201 => absurd (Value.ref.inj hc201) (Ne.symm ne_b4_b5)) (fun hc201 => ?_)
      refine OwnW.aload C (pc' := 206) at_204 rfl rfl rfl ?_
      refine OwnW.aload C (pc' := 208) at_206 rfl rfl rfl ?_
      refine OwnW.acEq C (pcY := 243) (pcN := 211) rfl rfl at_208 (by decide) rfl rfl (fun hc208 => absurd (Value.ref.inj hc208) (Ne.symm ne_b3_b5)) (fun hc208 => ?_)
      refine OwnW.aload C (pc' := 213) at_211 rfl rfl rfl ?_
      refine OwnW.aload C (pc' := 215) at_213 rfl rfl rfl ?_
      refine OwnW.acEq C (pcY := 243) (pcN := 218) rfl rfl at_215 (by decide) rfl rfl (fun hc215 => absurd (Value.ref.inj hc215) ne_b5_b14) (fun hc215 => ?_)
      refine OwnW.aload C (pc' := 220) at_218 rfl rfl rfl ?_
      refine OwnW.aload C (pc' := 222) at_220 rfl rfl rfl ?_
      refine OwnW.acEq C (pcY := 243) (pcN := 225) rfl rfl at_222 (by decide) rfl rfl (fun hc222 => absurd (Value.ref.inj hc222) (Ne.symm ne_b3_b4)) (fun hc222 => ?_)
      refine OwnW.aload C (pc' := 227) at_225 rfl rfl rfl ?_
      refine OwnW.aload C (pc' := 229) at_227 rfl rfl rfl ?_
      refine OwnW.acEq C (pcY := 243) (pcN := 232) rfl rfl at_229 (by decide) rfl rfl (fun hc229 => absurd (Value.ref.inj hc229) ne_b4_b14) (fun hc229 => ?_)
      refine OwnW.aload C (pc' := 234) at_232 rfl rfl rfl ?_
      refine OwnW.aload C (pc' := 236) at_234 rfl rfl rfl ?_
      refine OwnW.acEq C (pcY := 243) (pcN := 239) rfl rfl at_236 (by decide) rfl rfl (fun hc236 => absurd (Value.ref.inj hc236) ne_b3_b14) (fun hc236 => ?_)
      refine OwnW.iconst C (pc' := 240) at_239 rfl (z := 1) rfl ?_
      refine OwnW.goto C (pc' := 244) at_240 (by decide) rfl ?_
      exact OwnW.retN C (t := .boolean) (z := (1 : Int32)) rfl (by simp) rfl rfl (by decide) (by decide) at_244
set_option maxRecDepth 65536 in
set_option maxHeartbeats 40000000 in
theorem own_comes {Post : Tables → Env → Array Value → State → Outcome → State → Prop} (hpost : ∀ tb e args s v u, (limb_1_1.after args s (.returned v) u = true ∧ limb_1_2.after args s (.returned v) u = true) → FrameEnd s (.returned v) u (Jvm.fieldLocs frame_1_writes args s ++ Jvm.arrayLocs frame_1_arrays args s ++ Jvm.staticLocs frame_1_statics s) 32 131328 → Post tb e args s (.returned v) u) :
    ArmFor flags0 classFile x code maxLocals ret World_1 tables_1 room_1 Calls_1 rest_1 Pre_1 Post := by
  intro l hfl _ _ p e ha hc hk s m args below hf hA hF happ hP
  obtain ⟨hcalls, hrest, hpre⟩ := hP
  obtain ⟨-, -, -, hnamed, -, -, -, hat⟩ := (Spec.applies_iff hf).mp happ
  obtain ⟨hg, hn⟩ := and_e (Cond.before_iff.mp (show (Jvm.Cond.and given_1 narrow_1).before args s = true from hpre))
  obtain ⟨gl1, gr1⟩ := and_e hg
  obtain ⟨gl2, gr2⟩ := and_e gr1
  obtain ⟨w0, w1, rfl⟩ : ∃ w0 w1 : Value, args = #[w0, w1] := by
    have hs : args.size = 2 := by simpa [Cond.value, given_1] using gl1
    obtain ⟨L⟩ := args
    match L, hs with
    | [w0, w1], _ => exact ⟨w0, w1, rfl⟩
  have hw := fun d (hd : d ∈ tables_1) => atoms_spec (ws := Jvm.Cond.code x code maxLocals ret :: tables_1) hat d (List.mem_cons_of_mem _ hd)
  obtain ⟨i0, ei0⟩ := is_v gl2
  obtain rfl : w0 = (.int i0) := Option.some.inj ei0
  obtain ⟨i1, ei1⟩ := is_v gr2
  obtain rfl : w1 = (.int i1) := Option.some.inj ei1
  obtain ⟨n, o, h1, h2, h3, v, L, rfl, ⟨rfl, N⟩, hq⟩ := (own_law l s _ hw i0 i1 s.heap s.heap.size (Old.start s) (Nat.le_refl _)) tables_1 p e ha hc hk s m _ below hf ((Spec.applies_iff_loose hf).mp happ).1 ⟨rfl, State.Warmed39.refl s, rfl⟩ trivial
  refine ⟨n, _, h1, h2, h3, hpost _ _ _ _ _ _ ⟨Cond.after_iff.mpr rfl, Cond.after_iff.mpr (eq_i res_at (Term.int_eval (1)) rfl)⟩ ⟨hq.1, hq.2.1, (hq.2.2.sift fun y hy => Or.inr (N y hy)).mono (by decide) (by decide)⟩⟩
theorem main_1_1 : Claimed_1_1 := own_comes fun _ _ _ _ _ _ h hF => ⟨h.1, hF⟩
theorem main_1_2 : Claimed_1_2 := own_comes fun _ _ _ _ _ _ h hF => ⟨h.2, hF⟩
end Jvm.Pilot.@@N@@
namespace Jvm.Pilot.@@N@@
open Jvm Jvm.ClassFile Sem Op Lib Jvm.Free Jvm.Stand Jvm.Pilot.@@N@@.Jvm.D
/-! MADE BY PROGRAM (witnessworld.py) out of the Statement's table words and the real class files: 9 classes; the members and pool entries that the words name. The judged class is class 1, her method 3. -/
namespace start1
open Jvm.ClassFile
def u (s : String) : CpInfo := .utf8 (stringToUtf16 s)
/-- a pool by its gaps: so many unusable entries, then the entry; so many at the end -/
def gap : Nat → List CpInfo → List CpInfo
  | 0, r => r
  | n + 1, r => .unusable :: gap n r
def poolList (es : List (Nat × CpInfo)) (last : Nat) : List CpInfo := es.foldr (fun e r => gap e.1 (e.2 :: r)) (gap last [])
def pool (es : List (Nat × CpInfo)) (last : Nat) : Array CpInfo := ⟨poolList es last⟩
def fileOf (pool : Array CpInfo) (this : Nat) (attrs : Array Attribute := #[]) (ms : Array MethodInfo := #[]) (fl : Nat := 33) (sup : Nat := 0) (ifs : Array Nat := #[]) (fds : Array FieldInfo := #[]) : ClassFile where
  minorVersion := 0
  majorVersion := 65
  constantPool := pool
  accessFlags := fl
  thisClass := this
  superClass := sup
  interfaces := ifs
  fields := fds
  methods := ms
  attributes := attrs
def plain (name : String) (sup : Option ClassId) : Class where
  name := name
  kind := .ordinary
  loader := none
  accessFlags := 33
  super := sup
  interfaces := #[]
  cf := none
  fields := #[]
  methods := #[]
  instanceTypes := #[]
  staticTypes := #[]
  resolved := #[]
  callSites := []
  init := .initialized
  statics := none
  mirror := none

def pool0 : Array CpInfo := pool [(5, u "<init>"), (0, u "()V"), (1, .class_ 10), (1, u "java/lang/Object")] 113

def k0c0 : Code := { maxStack := 0, maxLocals := 1, code := object_method_1_code, exceptionTable := #[], attributes := #[] }
def k0m0 : Method := { name := "<init>", desc := "()V", sig := { parameters := [], returnType := none }, accessFlags := 1, code := some k0c0 }
/-- java/lang/Object -/
def k0 : Class := { plain "java/lang/Object" none with
  accessFlags := 33
  interfaces := #[]
  cf := some (fileOf pool0 8 #[] #[{ accessFlags := 1, nameIndex := 5, descriptorIndex := 6, attributes := #[] }] 33 0 #[] #[])
  fields := #[]
  methods := #[k0m0]
  instanceTypes := #[]
  staticTypes := #[]
  resolved := Array.replicate 124 none
  statics := none }

def pool1 : Array CpInfo := pool [(2, .class_ 4), (0, .nameAndType 5 6), (0, u "java/lang/Object"), (0, u "<init>"), (0, u "()V"), (0, .methodref 8 9), (0, .class_ 10), (0, .nameAndType 11 12), (0, u "com/example/kinegrid/kinegrid/server/ChunkPoolTakePinLaw"), (0, u "pick"), (0, u "(I[B[B[B)[B"), (2, .class_ 16), (0, u "com/example/kinegrid/kinegrid/server/ChunkPool"), (0, .methodref 15 3), (0, .methodref 15 19), (0, .nameAndType 20 21), (0, u "give"), (0, u "([B)V"), (0, .methodref 15 23), (0, .nameAndType 24 25), (0, u "take"), (0, u "()[B"), (0, .methodref 8 27), (0, .nameAndType 28 29), (0, u "check"), (0, u "([BII[B[B[B)Z"), (3, u "law"), (0, u "(II)Z")] 4

def k1m0 : Method := { name := "<init>", desc := "()V", sig := { parameters := [], returnType := none }, accessFlags := 1, code := none }
def k1c1 : Code := { maxStack := 2, maxLocals := 4, code := method_2_code, exceptionTable := #[], attributes := #[] }
def k1m1 : Method := { name := "pick", desc := "(I[B[B[B)[B", sig := { parameters := [.int, (.array .byte), (.array .byte), (.array .byte)], returnType := some (.array .byte) }, accessFlags := 10, code := some k1c1 }
def k1c2 : Code := { maxStack := 5, maxLocals := 6, code := method_3_code, exceptionTable := #[], attributes := #[] }
def k1m2 : Method := { name := "check", desc := "([BII[B[B[B)Z", sig := { parameters := [(.array .byte), .int, .int, (.array .byte), (.array .byte), (.array .byte)], returnType := some .boolean }, accessFlags := 10, code := some k1c2 }
def k1c3 : Code := { maxStack := 6, maxLocals := 12, code := code, exceptionTable := #[], attributes := #[] }
def k1m3 : Method := { name := "law", desc := "(II)Z", sig := { parameters := [.int, .int], returnType := some .boolean }, accessFlags := 9, code := some k1c3 }
/-- com/example/kinegrid/kinegrid/server/ChunkPoolTakePinLaw -/
def k1 : Class := { plain "com/example/kinegrid/kinegrid/server/ChunkPoolTakePinLaw" (some 0) with
  accessFlags := 49
  interfaces := #[]
  cf := some (fileOf pool1 8 #[] #[{ accessFlags := 1, nameIndex := 5, descriptorIndex := 6, attributes := #[] }, { accessFlags := 10, nameIndex := 11, descriptorIndex := 12, attributes := #[] }, { accessFlags := 10, nameIndex := 28, descriptorIndex := 29, attributes := #[] }, { accessFlags := 9, nameIndex := 33, descriptorIndex := 34, attributes := #[] }] 49 2 #[] #[])
  fields := #[]
  methods := #[k1m0, k1m1, k1m2, k1m3]
  instanceTypes := #[]
  staticTypes := #[]
  resolved := Array.replicate 39 none
  statics := none }

def pool2 : Array CpInfo := pool [(1, .methodref 2 3), (0, .class_ 4), (0, .nameAndType 5 6), (0, u "java/lang/Object"), (0, u "<init>"), (0, u "()V"), (0, .class_ 8), (0, u "com/example/kinegrid/kinegrid/server/ChunkPool"), (0, .class_ 10), (0, u "[B"), (0, .fieldref 7 12), (0, .nameAndType 13 14), (0, u "chunks"), (0, u "[[B"), (0, .fieldref 7 16), (0, .nameAndType 17 18), (0, u "count"), (0, u "I"), (2, u "MAX_CHUNKS"), (4, u "take"), (0, u "()[B"), (1, u "give"), (0, u "([B)V")] 2

def k2c0 : Code := { maxStack := 2, maxLocals := 1, code := prog_60_method_1_code, exceptionTable := #[], attributes := #[] }
def k2m0 : Method := { name := "<init>", desc := "()V", sig := { parameters := [], returnType := none }, accessFlags := 0, code := some k2c0 }
def k2c1 : Code := { maxStack := 4, maxLocals := 2, code := prog_60_method_2_code, exceptionTable := #[], attributes := #[] }
def k2m1 : Method := { name := "take", desc := "()[B", sig := { parameters := [], returnType := some (.array .byte) }, accessFlags := 0, code := some k2c1 }
def k2c2 : Code := { maxStack := 5, maxLocals := 2, code := prog_60_method_3_code, exceptionTable := #[], attributes := #[] }
def k2m2 : Method := { name := "give", desc := "([B)V", sig := { parameters := [(.array .byte)], returnType := none }, accessFlags := 0, code := some k2c2 }
/-- com/example/kinegrid/kinegrid/server/ChunkPool -/
def k2 : Class := { plain "com/example/kinegrid/kinegrid/server/ChunkPool" (some 0) with
  accessFlags := 48
  interfaces := #[]
  cf := some (fileOf pool2 7 #[] #[{ accessFlags := 0, nameIndex := 5, descriptorIndex := 6, attributes := #[] }, { accessFlags := 0, nameIndex := 26, descriptorIndex := 27, attributes := #[] }, { accessFlags := 0, nameIndex := 29, descriptorIndex := 30, attributes := #[] }] 48 2 #[] #[{ accessFlags := 24, nameIndex := 21, descriptorIndex := 18, attributes := #[] }, { accessFlags := 18, nameIndex := 13, descriptorIndex := 14, attributes := #[] }, { accessFlags := 2, nameIndex := 17, descriptorIndex := 18, attributes := #[] }])
  fields := #[{ name := "MAX_CHUNKS", type := .int, accessFlags := 24, slot := 0, constantValue := 0 }, { name := "chunks", type := (.array (.array .byte)), accessFlags := 18, slot := 0, constantValue := 0 }, { name := "count", type := .int, accessFlags := 2, slot := 1, constantValue := 0 }]
  methods := #[k2m0, k2m1, k2m2]
  instanceTypes := #[(.array (.array .byte)), .int]
  staticTypes := #[.int]
  resolved := Array.replicate 33 none
  statics := none }

def pool3 : Array CpInfo := pool [(1, u "java/lang/Cloneable"), (0, .class_ 1), (0, u "java/lang/Object"), (0, .class_ 3)] 3

/-- java/lang/Cloneable -/
def k3 : Class := { plain "java/lang/Cloneable" (some 0) with
  accessFlags := 1537
  interfaces := #[]
  cf := some (fileOf pool3 2 #[] #[] 1537 4 #[] #[])
  fields := #[]
  methods := #[]
  instanceTypes := #[]
  staticTypes := #[]
  resolved := Array.replicate 8 none
  statics := none }

def pool4 : Array CpInfo := pool [(1, u "java/io/Serializable"), (0, .class_ 1), (0, u "java/lang/Object"), (0, .class_ 3)] 3

/-- java/io/Serializable -/
def k4 : Class := { plain "java/io/Serializable" (some 0) with
  accessFlags := 1537
  interfaces := #[]
  cf := some (fileOf pool4 2 #[] #[] 1537 4 #[] #[])
  fields := #[]
  methods := #[]
  instanceTypes := #[]
  staticTypes := #[]
  resolved := Array.replicate 8 none
  statics := none }

/-- the primitive byte -/
def k5 : Class := { plain "byte" none with kind := .primitive 'B', accessFlags := 0x411 }
/-- [B -/
def k6 : Class := { plain "[B" (some 0) with kind := .array 5 .byte, interfaces := #[3, 4], accessFlags := 1041 }

/-- the primitive int -/
def k7 : Class := { plain "int" none with kind := .primitive 'I', accessFlags := 0x411 }
/-- [I -/
def k8 : Class := { plain "[I" (some 0) with kind := .array 7 .int, interfaces := #[3, 4], accessFlags := 1041 }

/-- [[B -/
def k9 : Class := { plain "[[B" (some 0) with kind := .array 6 (.array .byte), interfaces := #[3, 4], accessFlags := 1041 }
def heap : Heap := #[]
def classes : Array Class := #[k0, k1, k2, k3, k4, k5, k6, k7, k8, k9]
def interned : List (Array UInt16 × Addr) := []
def slotsUsed : Nat := 0
def theMethod : MethodId := ⟨1, 3⟩
def args0 : Array Value := #[.int 1, .int 3]
def aboutOver (below : List Frame) : State where
  vm := { classes := classes, interned := interned.toArray }
  heap := heap
  slotsUsed := slotsUsed
  threads := #[{ frames := .invoking theMethod args0 :: below }]
def below0 : List Frame := [.native { method := ⟨0, 0⟩, args := #[] }]
def about1 : State := aboutOver below0
def p0 : Program := .bare "" "" ""
def e0 : Env := launch0.env 0 0 0
theorem w_frames : about1.frames = Frame.invoking theMethod args0 :: below0 := rfl
set_option maxRecDepth 65536 in
theorem w_args : argsFit about1.vm theMethod args0 = true := by decide +kernel
set_option maxRecDepth 65536 in
theorem w_heap : heapFits about1 = true := by decide +kernel
set_option maxRecDepth 65536 in
theorem w_runnable : about1.curStatus? = some .runnable := by decide +kernel
set_option maxRecDepth 65536 in
theorem w_alone : about1.alone = true := by decide +kernel
set_option maxRecDepth 65536 in
theorem w_named : about1.methodNamed? x = some theMethod := by decide +kernel
set_option maxRecDepth 65536 in
theorem w_hears : about1.hears theMethod below0 = true := by decide +kernel
set_option maxRecDepth 65536 in
theorem w_ripe : about1.ripe theMethod args0 below0 = true := by decide +kernel
theorem w_running : about1.status = .running := rfl
set_option maxRecDepth 65536 in
theorem w_room : about1.hasRoom e0.platform room_1 = true :=
  launch0.hasRoom_least _ room_1 (by decide +kernel) (by decide +kernel) (by decide +kernel) (by decide +kernel) (by decide +kernel) (by decide +kernel)
theorem allAtoms_all (ts : List Jvm.Cond) (a : Array Jvm.Value) (st : Jvm.State) : (allAtoms ts).before a st = ts.all (fun c => c.before a st) := by
  induction ts with
  | nil => rfl
  | cons c t ih =>
    show (Jvm.Cond.and c (allAtoms t)).before a st = _
    rw [Jvm.Cond.before_and, ih, List.all_cons]
def words1 : List Jvm.Cond := Jvm.Cond.code x code maxLocals ret :: tables_1
/-- a 'code' word, met by the world's own term for the bytes: nothing is compared byte by byte -/
theorem code_word {y : MethodName} {bytes : ByteArray} {mx : Nat} {rt : Option FieldType} {a : Array Value} {s : State} {m : MethodId} {meth : Method} {c : Code} (h1 : s.methodNamed? y = some m) (h2 : s.vm.method? m = some meth) (h3 : meth.code = some c) (h4 : c.code = bytes)
    (h5 : (c.maxLocals == mx && c.exceptionTable.isEmpty && decide (c.maxStack ≤ mostOperands) && decide (meth.sig.returnType = rt) && !meth.locks && decide (parseMethodDescriptor y.desc = some meth.sig)) = true) : (Jvm.Cond.code y bytes mx rt).before a s = true := by
  simp only [Bool.and_eq_true, beq_iff_eq, Bool.not_eq_true', decide_eq_true_eq] at h5
  obtain ⟨⟨⟨⟨⟨g1, g2⟩, g3⟩, g4⟩, g5⟩, g6⟩ := h5
  simp [Cond.before, Cond.holds, Cond.value, h1, h2, h3, h4, g1, g2, g3, g4, g5, g6]
def isCode : Jvm.Cond → Bool
  | .code _ _ _ _ => true
  | _ => false
theorem all_split {L : List Jvm.Cond} {P : Jvm.Cond → Bool} (h1 : L.all (fun c => isCode c || P c) = true) (h2 : ∀ c ∈ L.filter isCode, P c = true) : L.all P = true := by
  refine List.all_eq_true.mpr fun c hc => ?_
  have h := List.all_eq_true.mp h1 c hc
  rcases Bool.eq_false_or_eq_true (isCode c) with hi | hi
  · exact h2 c (List.mem_filter.mpr ⟨hc, hi⟩)
  · simpa [hi] using h
set_option maxRecDepth 65536 in
theorem w_c0 : (Jvm.Cond.code x code maxLocals ret).before args0 about1 = true := code_word (m := ⟨1, 3⟩) (meth := k1m3) (c := k1c3) (by decide +kernel) rfl rfl rfl (by decide +kernel)
set_option maxRecDepth 65536 in
theorem w_c1 : (Jvm.Cond.code ({ cls := "com/example/kinegrid/kinegrid/server/ChunkPool", name := "<init>", desc := "()V" } : Jvm.MethodName) prog_60_method_1_code (1 : Nat) (Option.none : Option Jvm.ClassFile.FieldType)).before args0 about1 = true := code_word (m := ⟨2, 0⟩) (meth := k2m0) (c := k2c0) (by decide +kernel) rfl rfl rfl (by decide +kernel)
set_option maxRecDepth 65536 in
theorem w_c2 : (Jvm.Cond.code ({ cls := "java/lang/Object", name := "<init>", desc := "()V" } : Jvm.MethodName) object_method_1_code (1 : Nat) (Option.none : Option Jvm.ClassFile.FieldType)).before args0 about1 = true := code_word (m := ⟨0, 0⟩) (meth := k0m0) (c := k0c0) (by decide +kernel) rfl rfl rfl (by decide +kernel)
set_option maxRecDepth 65536 in
theorem w_c3 : (Jvm.Cond.code ({ cls := "com/example/kinegrid/kinegrid/server/ChunkPool", name := "take", desc := "()[B" } : Jvm.MethodName) prog_60_method_2_code (2 : Nat) (Option.some (Jvm.ClassFile.FieldType.array Jvm.ClassFile.FieldType.byte))).before args0 about1 = true := code_word (m := ⟨2, 1⟩) (meth := k2m1) (c := k2c1) (by decide +kernel) rfl rfl rfl (by decide +kernel)
set_option maxRecDepth 65536 in
theorem w_c4 : (Jvm.Cond.code ({ cls := "com/example/kinegrid/kinegrid/server/ChunkPool", name := "give", desc := "([B)V" } : Jvm.MethodName) prog_60_method_3_code (2 : Nat) (Option.none : Option Jvm.ClassFile.FieldType)).before args0 about1 = true := code_word (m := ⟨2, 2⟩) (meth := k2m2) (c := k2c2) (by decide +kernel) rfl rfl rfl (by decide +kernel)
set_option maxRecDepth 65536 in
theorem w_c5 : (Jvm.Cond.code ({ cls := "com/example/kinegrid/kinegrid/server/ChunkPoolTakePinLaw", name := "check", desc := "([BII[B[B[B)Z" } : Jvm.MethodName) method_3_code (6 : Nat) (Option.some Jvm.ClassFile.FieldType.boolean)).before args0 about1 = true := code_word (m := ⟨1, 2⟩) (meth := k1m2) (c := k1c2) (by decide +kernel) rfl rfl rfl (by decide +kernel)
set_option maxRecDepth 65536 in
theorem w_c6 : (Jvm.Cond.code ({ cls := "com/example/kinegrid/kinegrid/server/ChunkPoolTakePinLaw", name := "pick", desc := "(I[B[B[B)[B" } : Jvm.MethodName) method_2_code (4 : Nat) (Option.some (Jvm.ClassFile.FieldType.array Jvm.ClassFile.FieldType.byte))).before args0 about1 = true := code_word (m := ⟨1, 1⟩) (meth := k1m1) (c := k1c1) (by decide +kernel) rfl rfl rfl (by decide +kernel)
def codes1 : List Jvm.Cond := [Jvm.Cond.code x code maxLocals ret, Jvm.Cond.code ({ cls := "com/example/kinegrid/kinegrid/server/ChunkPool", name := "<init>", desc := "()V" } : Jvm.MethodName) prog_60_method_1_code (1 : Nat) (Option.none : Option Jvm.ClassFile.FieldType), Jvm.Cond.code ({ cls := "java/lang/Object", name := "<init>", desc := "()V" } : Jvm.MethodName) object_method_1_code (1 : Nat) (Option.none : Option Jvm.ClassFile.FieldType), Jvm.Cond.code ({ cls := "com/example/kinegrid/kinegrid/server/ChunkPool", name := "take", desc := "()[B" } : Jvm.MethodName) prog_60_method_2_code (2 : Nat) (Option.some (Jvm.ClassFile.FieldType.array Jvm.ClassFile.FieldType.byte)), Jvm.Cond.code ({ cls := "com/example/kinegrid/kinegrid/server/ChunkPool", name := "give", desc := "([B)V" } : Jvm.MethodName) prog_60_method_3_code (2 : Nat) (Option.none : Option Jvm.ClassFile.FieldType), Jvm.Cond.code ({ cls := "com/example/kinegrid/kinegrid/server/ChunkPoolTakePinLaw", name := "check", desc := "([BII[B[B[B)Z" } : Jvm.MethodName) method_3_code (6 : Nat) (Option.some Jvm.ClassFile.FieldType.boolean), Jvm.Cond.code ({ cls := "com/example/kinegrid/kinegrid/server/ChunkPoolTakePinLaw", name := "pick", desc := "(I[B[B[B)[B" } : Jvm.MethodName) method_2_code (4 : Nat) (Option.some (Jvm.ClassFile.FieldType.array Jvm.ClassFile.FieldType.byte))]
set_option maxRecDepth 65536 in
theorem codes_eq : words1.filter isCode = codes1 := rfl
theorem w_codes : ∀ c ∈ words1.filter isCode, c.before args0 about1 = true := by
  rw [codes_eq]
  intro c hc
  simp only [codes1, List.mem_cons, List.not_mem_nil, or_false] at hc
  rcases hc with rfl | rfl | rfl | rfl | rfl | rfl | rfl
  · exact w_c0
  · exact w_c1
  · exact w_c2
  · exact w_c3
  · exact w_c4
  · exact w_c5
  · exact w_c6
set_option maxRecDepth 65536 in
theorem w_t1 : (words1.take 24).all (fun c => isCode c || c.before args0 about1) = true := by decide +kernel
set_option maxRecDepth 65536 in
theorem w_t2 : (words1.drop 24).all (fun c => isCode c || c.before args0 about1) = true := by decide +kernel
theorem w_tables : (allAtoms (Jvm.Cond.code x code maxLocals ret :: tables_1)).before args0 about1 = true := by
  rw [allAtoms_all]
  show words1.all (fun c => c.before args0 about1) = true
  refine all_split ?_ w_codes
  rw [← List.take_append_drop 24 words1, List.all_append, w_t1, w_t2]
  rfl
set_option maxRecDepth 65536 in
theorem w_case : (Jvm.Cond.and given_1 narrow_1).before args0 about1 = true := by decide +kernel
theorem w_applies : (headSpec (Jvm.Cond.code x code maxLocals ret :: tables_1) room_1).applies x e0.platform about1 = true :=
  (Spec.applies_iff w_frames).mpr ⟨w_running, w_runnable, w_alone, w_named, w_hears, w_ripe, w_room, w_tables⟩
theorem atStart : AtStart classFile x code maxLocals ret World_1 tables_1 room_1 Calls_1 rest_1 Pre_1 launch0 p0 e0 about1 theMethod args0 below0 :=
  ⟨lists_1, trivial, launch0.admits_env _ _ _, launch0.least_env, fairChoices_fair.cas, fairChoices_fair.clock, w_frames, w_args, w_heap, w_applies, trivial, trivial, w_case⟩
end start1
theorem witness_1 : WitnessClaimed_1 := ⟨start1.p0, start1.e0, start1.about1, start1.theMethod, start1.args0, start1.below0, start1.atStart⟩
end Jvm.Pilot.@@N@@
