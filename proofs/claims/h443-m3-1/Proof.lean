import JvmDerived
import JvmDerived.Pilot.@@N@@Statement
import JvmDerived.Pilot.@@N@@Code
set_option linter.unusedVariables false
set_option linter.unusedSimpArgs false
@@BLOCK:LamKit.lean.txt@@
namespace Jvm.Own
open Jvm Jvm.ClassFile Sem Op Lib Jvm.Free Jvm.Stand Jvm.LawKit Jvm.RoadKit
/-- the run from A ends, and G holds of its end -/
def Runs (p : Program) (e : Env) (below : List Frame) (A : State) (G : Outcome → State → Prop) : Prop :=
  ∃ s₂ o, Steps p.tables e below A s₂ ∧ s₂.status = .running ∧ Ended s₂ below o ∧ G o s₂
section A
variable {p : Program} {e : Env} {below : List Frame} {A B : State} {G : Outcome → State → Prop}
theorem Runs.of (k : Runs p e below B G) (h : ∀ t, Steps p.tables e below B t → Steps p.tables e below A t) : Runs p e below A G := by
  obtain ⟨t, o, hs, r⟩ := k
  exact ⟨t, o, h t hs, r⟩
theorem Runs.dia {P : Prop} [Decidable P] {B : Int32 → State} {vt vf : Int32} (ht : P → Runs p e below (B vt) G → Runs p e below A G) (hf : ¬ P → Runs p e below (B vf) G → Runs p e below A G) (k : Runs p e below (B (if P then vt else vf)) G) : Runs p e below A G := by
  by_cases hc : P
  · rw [if_pos hc] at k; exact ht hc k
  · rw [if_neg hc] at k; exact hf hc k
theorem Runs.via (k : Runs p e below B G) (h : Steps p.tables e below A B) : Runs p e below A G := k.of fun _ q => h.trans q
end A
/-- what stood at h0 is written at ws alone -/
def Wrote (h0 : Heap) (ws : List Addr) (L : List Loc) : Prop := ∀ y ∈ L, y.base ∈ ws ∨ h0.size ≤ y.base
theorem Wrote.nil {h0 : Heap} {ws : List Addr} : Wrote h0 ws [] := fun _ q => nomatch q
theorem Wrote.app {h0 h : Heap} {ws ws' : List Addr} {L L' : List Loc} (N : Wrote h0 ws L) (N' : Wrote h ws' L') (hs : h0.size ≤ h.size) (hw : ∀ x ∈ ws', x ∈ ws ∨ h0.size ≤ x) : Wrote h0 ws (L ++ L') := fun y q =>
  (List.mem_append.mp q).elim (N y) fun r => (N' y r).elim (hw _) fun z => Or.inr (Nat.le_trans hs z)
theorem Wrote.snoc {h0 : Heap} {ws : List Addr} {L : List Loc} {a : Addr} {i : Nat} (N : Wrote h0 ws L) (q : a ∈ ws ∨ h0.size ≤ a) : Wrote h0 ws (L ++ [⟨a, i⟩]) := fun y r =>
  (List.mem_append.mp r).elim (N y) fun z => by cases List.mem_singleton.mp z; exact q
/-- where a walk stands: the method's own facts, the heap as it is now, what was written since h0 -/
def Here (p : Program) (l : Launch) (e : Env) (R : Room) (s : State) (m : MethodId) (args : Array Value) (below : List Frame) (meth : Method) (c : Code)
    (y : MethodName) (bytes : ByteArray) (maxL : Nat) (ret : Option FieldType) (Z : State) (h0 : Heap) (ws : List Addr) (T : State) (cells slots : Nat) (h : Heap) : Prop :=
  (p.tables.exec = Jvm.exec ∧ Z.WarmedH s.vm ∧ c.code = bytes ∧ c.maxLocals = maxL ∧ s.vm.findClass y.cls = some m.cls ∧ meth.name = y.name ∧ meth.sig.returnType = ret ∧ meth.locks = false ∧ s.methodNamed? y = some m) ∧
  T.heap = h ∧ Keep h0 h ws ∧ ∃ locs, Stand p l e R s m args below meth c T locs cells slots ∧ Wrote h0 ws locs
/-- how a walk must end: it returns, Q holds of the result and the heap, what stood at h0 is written at ws alone -/
def Out (s : State) (h0 : Heap) (ws : List Addr) (rm : Room) (Q : Option Value → Heap → Prop) (o : Outcome) (U : State) : Prop :=
  ∃ v L, o = .returned v ∧ (Q v U.heap ∧ Keep h0 U.heap ws ∧ Wrote h0 ws L) ∧ FrameEnd s o U L rm.cells rm.slots
/-- a method's contract at the heap h0 and these arguments -/
def Ct (l : Launch) (Z : State) (y : MethodName) (bytes : ByteArray) (maxL : Nat) (ret : Option FieldType) (rm : Room) (as : Array Value) (h0 : Heap) (ws : List Addr) (Q : Option Value → Heap → Prop) : Prop :=
  ∀ wz, MetFree l y (head1 (Jvm.Cond.code y bytes maxL ret :: wz) rm) (fun a U => a = as ∧ Z.WarmedH U.vm ∧ U.heap = h0) (fun _ _ _ _ _ => True)
    (fun _ U o U' => ∃ v L, o = .returned v ∧ (Q v U'.heap ∧ Keep h0 U'.heap ws ∧ Wrote h0 ws L) ∧ FrameEnd U o U' L rm.cells rm.slots)
section B
variable {p : Program} {l : Launch} {e : Env} {R : Room} {s : State} {m : MethodId} {args : Array Value} {below : List Frame} {meth : Method} {c : Code} {y : MethodName} {bytes : ByteArray} {maxL : Nat} {ret : Option FieldType} {Z : State} {h0 : Heap} {ws : List Addr} {T : State} {cells slots : Nat} {h : Heap} {G : Outcome → State → Prop} {a0 : Array Value}
theorem Ct.of {rm : Room} {as : Array Value} {Q : Option Value → Heap → Prop} (hp : plainFor y = true)
    (body : ∀ p e s m below meth c T, Here p l e rm s m as below meth c y bytes maxL ret Z h0 ws T 0 0 h0 → Runs p e below (T.setTop (entryFrame m as maxL)) (Out s h0 ws rm Q)) :
    Ct l Z y bytes maxL ret rm as h0 ws Q := fun wz => by
  refine MetFree.of_bodySF hp hisR ?_
  intro p e s m args below meth c s₁ Bd hml0 hP hK
  obtain ⟨rfl, hZ, hh⟩ := hP
  have e0 : s₁.heap = h0 := by rw [← hh, Bd.state]; rfl
  exact body p e s m below meth c s₁ ⟨⟨Bd.exec, hZ, Bd.bytes, hml0, findClass_of_methodNamed Bd.named, (name_of_methodNamed Bd.named Bd.method).1, Bd.returns, BodyLoose.notSynchronized Bd, Bd.named⟩, e0, Keep.refl _ _, [], Stand.of_body Bd, Wrote.nil⟩
theorem Ct.mono {rm : Room} {as : Array Value} {Q Q' : Option Value → Heap → Prop} (h : Ct l Z y bytes maxL ret rm as h0 ws Q) (hq : ∀ v h, Q v h → Q' v h) : Ct l Z y bytes maxL ret rm as h0 ws Q' := fun wz => by
  intro p e ha hc hk s m args below hf happ hP hK
  obtain ⟨n, o, w1, w2, w3, v, L, q1, q2, q3⟩ := h wz p e ha hc hk s m args below hf happ hP hK
  exact ⟨n, o, w1, w2, w3, v, L, q1, ⟨hq _ _ q2.1, q2.2⟩, q3⟩
/-- from one frame to another that is the same -/
theorem Runs.top {g g' : JFrame} (q : g = g') (k : Runs p e below (T.setTop g') G) : Runs p e below (T.setTop g) G := q ▸ k
theorem Here.keep (X : Here p l e R s m args below meth c y bytes maxL ret Z h0 ws T cells slots h) : Keep h0 h ws := X.2.2.1
theorem Here.hZ (X : Here p l e R s m args below meth c y bytes maxL ret Z h0 ws T cells slots h) : Z.WarmedH s.vm := X.1.2.1
theorem Here.size (X : Here p l e R s m args below meth c y bytes maxL ret Z h0 ws T cells slots h) : h0.size ≤ h.size := X.2.2.1.1
/-- a plain step -/
theorem Here.step (X : Here p l e R s m args below meth c y bytes maxL ret Z h0 ws T cells slots h) {g g' : JFrame}
    (st : ∀ locs, p.tables.exec = Jvm.exec → c.code = bytes → Z.Warmed39 s.vm → s.vm.findClass y.cls = some m.cls → T.heap = h → Stand p l e R s m args below meth c T locs cells slots → ∀ t, Steps p.tables e below (T.setTop g') t → Steps p.tables e below (T.setTop g) t)
    (k : Runs p e below (T.setTop g') G) : Runs p e below (T.setTop g) G := by
  obtain ⟨⟨x1, xh, x3, x4, x5, x6, x7, x8, xn⟩, x9, x10, locs, S, N⟩ := X
  have x2 := xh.wide
  exact k.of (st locs x1 x3 x2 x5 x9 S)
/-- a step that leaves the heap as it is -/
theorem Here.stepT (X : Here p l e R s m args below meth c y bytes maxL ret Z h0 ws T cells slots h) {g g' : JFrame}
    (st : ∀ locs, p.tables.exec = Jvm.exec → c.code = bytes → c.maxLocals = maxL → Z.Warmed39 s.vm → s.vm.findClass y.cls = some m.cls → T.heap = h → Stand p l e R s m args below meth c T locs cells slots → ∃ T', Stand p l e R s m args below meth c T' locs cells slots ∧ T'.heap = h ∧ ∀ t, Steps p.tables e below (T'.setTop g') t → Steps p.tables e below (T.setTop g) t)
    (k : ∀ T', Here p l e R s m args below meth c y bytes maxL ret Z h0 ws T' cells slots h → Runs p e below (T'.setTop g') G) : Runs p e below (T.setTop g) G := by
  obtain ⟨⟨x1, xh, x3, x4, x5, x6, x7, x8, xn⟩, x9, x10, locs, S, N⟩ := X
  have x2 := xh.wide
  obtain ⟨T', S', e', q⟩ := st locs x1 x3 x4 x2 x5 x9 S
  exact (k T' ⟨⟨x1, xh, x3, x4, x5, x6, x7, x8, xn⟩, e', x10, locs, S', N⟩).of q
/-- a step that writes one slot -/
theorem Here.stepW (X : Here p l e R s m args below meth c y bytes maxL ret Z h0 ws T cells slots h) {g g' : JFrame} {a : Addr} {i : Nat} {v : Value} (hn : a ∈ ws ∨ h0.size ≤ a)
    (st : ∀ locs, p.tables.exec = Jvm.exec → c.code = bytes → meth.name = y.name → Z.Warmed39 s.vm → s.vm.findClass y.cls = some m.cls → T.heap = h → Stand p l e R s m args below meth c T locs cells slots → ∃ T' h', Stand p l e R s m args below meth c T' (locs ++ [⟨a, i⟩]) cells slots ∧ T'.heap = h' ∧ Wr h h' a i v ∧ ∀ t, Steps p.tables e below (T'.setTop g') t → Steps p.tables e below (T.setTop g) t)
    (k : ∀ T' h', Here p l e R s m args below meth c y bytes maxL ret Z h0 ws T' cells slots h' → Wr h h' a i v → Runs p e below (T'.setTop g') G) : Runs p e below (T.setTop g) G := by
  obtain ⟨⟨x1, xh, x3, x4, x5, x6, x7, x8, xn⟩, x9, x10, locs, S, N⟩ := X
  have x2 := xh.wide
  obtain ⟨T', h', S', e', W, q⟩ := st locs x1 x3 x6 x2 x5 x9 S
  exact (k T' h' ⟨⟨x1, xh, x3, x4, x5, x6, x7, x8, xn⟩, e', x10.wr W hn, _, S', N.snoc hn⟩ W).of q
theorem Here.iload (X : Here p l e R s m args below meth c y bytes maxL ret Z h0 ws T cells slots h) {pc pc' : Nat} {Ls : Array Slot} {St : List Value} {i : Nat} {v : Int32} (hd : decode bytes pc = .ok (.iload i, 2)) (hl : Ls[i]? = some (.val (.int v))) (hp : pc + 2 = pc') (k : Runs p e below (T.setTop (mkF m pc' Ls (.int v :: St))) G) : Runs p e below (T.setTop (mkF m pc Ls (St))) G := by
  subst hp
  exact X.step (fun _ hx hb' _ hown _ S t q => XS.iload S.here hx rfl (hb hb' hd) hl q) k
theorem Here.iloadN (X : Here p l e R s m args below meth c y bytes maxL ret Z h0 ws T cells slots h) {pc pc' : Nat} {Ls : Array Slot} {St : List Value} {i : Fin 4} {v : Int32} (hd : decode bytes pc = .ok (.iload_n i, 1)) (hl : Ls[i.val]? = some (.val (.int v))) (hp : pc + 1 = pc') (k : Runs p e below (T.setTop (mkF m pc' Ls (.int v :: St))) G) : Runs p e below (T.setTop (mkF m pc Ls (St))) G := by
  subst hp
  exact X.step (fun _ hx hb' _ hown _ S t q => XS.iloadN S.here hx rfl (hb hb' hd) hl q) k
theorem Here.lload (X : Here p l e R s m args below meth c y bytes maxL ret Z h0 ws T cells slots h) {pc pc' : Nat} {Ls : Array Slot} {St : List Value} {i : Nat} {v : Int64} (hd : decode bytes pc = .ok (.lload i, 2)) (hl : Ls[i]? = some (.val (.long v))) (hp : pc + 2 = pc') (k : Runs p e below (T.setTop (mkF m pc' Ls (.long v :: St))) G) : Runs p e below (T.setTop (mkF m pc Ls (St))) G := by
  subst hp
  exact X.step (fun _ hx hb' _ hown _ S t q => XS.lload S.here hx rfl (hb hb' hd) hl q) k
theorem Here.lloadN (X : Here p l e R s m args below meth c y bytes maxL ret Z h0 ws T cells slots h) {pc pc' : Nat} {Ls : Array Slot} {St : List Value} {i : Fin 4} {v : Int64} (hd : decode bytes pc = .ok (.lload_n i, 1)) (hl : Ls[i.val]? = some (.val (.long v))) (hp : pc + 1 = pc') (k : Runs p e below (T.setTop (mkF m pc' Ls (.long v :: St))) G) : Runs p e below (T.setTop (mkF m pc Ls (St))) G := by
  subst hp
  exact X.step (fun _ hx hb' _ hown _ S t q => XS.lloadN S.here hx rfl (hb hb' hd) hl q) k
theorem Here.aload (X : Here p l e R s m args below meth c y bytes maxL ret Z h0 ws T cells slots h) {pc pc' : Nat} {Ls : Array Slot} {St : List Value} {i : Nat} {v : Value} (hd : decode bytes pc = .ok (.aload i, 2)) (hl : Ls[i]? = some (.val v)) (hv : v.isRef = true) (hp : pc + 2 = pc') (k : Runs p e below (T.setTop (mkF m pc' Ls (v :: St))) G) : Runs p e below (T.setTop (mkF m pc Ls (St))) G := by
  subst hp
  exact X.step (fun _ hx hb' _ hown _ S t q => XS.aload S.here hx rfl (hb hb' hd) hl hv q) k
theorem Here.aloadN (X : Here p l e R s m args below meth c y bytes maxL ret Z h0 ws T cells slots h) {pc pc' : Nat} {Ls : Array Slot} {St : List Value} {i : Fin 4} {v : Value} (hd : decode bytes pc = .ok (.aload_n i, 1)) (hl : Ls[i.val]? = some (.val v)) (hv : v.isRef = true) (hp : pc + 1 = pc') (k : Runs p e below (T.setTop (mkF m pc' Ls (v :: St))) G) : Runs p e below (T.setTop (mkF m pc Ls (St))) G := by
  subst hp
  exact X.step (fun _ hx hb' _ hown _ S t q => XS.aloadN S.here hx rfl (hb hb' hd) hl hv q) k
theorem Here.istore (X : Here p l e R s m args below meth c y bytes maxL ret Z h0 ws T cells slots h) {pc pc' : Nat} {Ls : Array Slot} {St : List Value} {i : Nat} {v : Int32} {l' : Array Slot} (hd : decode bytes pc = .ok (.istore i, 2)) (hl : storeLocals Ls i (.int v) = some l') (hp : pc + 2 = pc') (k : Runs p e below (T.setTop (mkF m pc' l' (St))) G) : Runs p e below (T.setTop (mkF m pc Ls (.int v :: St))) G := by
  subst hp
  exact X.step (fun _ hx hb' _ hown _ S t q => XS.istore S.here hx rfl (hb hb' hd) rfl hl q) k
theorem Here.istoreN (X : Here p l e R s m args below meth c y bytes maxL ret Z h0 ws T cells slots h) {pc pc' : Nat} {Ls : Array Slot} {St : List Value} {i : Fin 4} {v : Int32} {l' : Array Slot} (hd : decode bytes pc = .ok (.istore_n i, 1)) (hl : storeLocals Ls i.val (.int v) = some l') (hp : pc + 1 = pc') (k : Runs p e below (T.setTop (mkF m pc' l' (St))) G) : Runs p e below (T.setTop (mkF m pc Ls (.int v :: St))) G := by
  subst hp
  exact X.step (fun _ hx hb' _ hown _ S t q => XS.istoreN S.here hx rfl (hb hb' hd) rfl hl q) k
theorem Here.lstore (X : Here p l e R s m args below meth c y bytes maxL ret Z h0 ws T cells slots h) {pc pc' : Nat} {Ls : Array Slot} {St : List Value} {i : Nat} {v : Int64} {l' : Array Slot} (hd : decode bytes pc = .ok (.lstore i, 2)) (hl : storeLocals Ls i (.long v) = some l') (hp : pc + 2 = pc') (k : Runs p e below (T.setTop (mkF m pc' l' (St))) G) : Runs p e below (T.setTop (mkF m pc Ls (.long v :: St))) G := by
  subst hp
  exact X.step (fun _ hx hb' _ hown _ S t q => XS.lstore S.here hx rfl (hb hb' hd) rfl hl q) k
theorem Here.lstoreN (X : Here p l e R s m args below meth c y bytes maxL ret Z h0 ws T cells slots h) {pc pc' : Nat} {Ls : Array Slot} {St : List Value} {i : Fin 4} {v : Int64} {l' : Array Slot} (hd : decode bytes pc = .ok (.lstore_n i, 1)) (hl : storeLocals Ls i.val (.long v) = some l') (hp : pc + 1 = pc') (k : Runs p e below (T.setTop (mkF m pc' l' (St))) G) : Runs p e below (T.setTop (mkF m pc Ls (.long v :: St))) G := by
  subst hp
  exact X.step (fun _ hx hb' _ hown _ S t q => XS.lstoreN S.here hx rfl (hb hb' hd) rfl hl q) k
theorem Here.astore (X : Here p l e R s m args below meth c y bytes maxL ret Z h0 ws T cells slots h) {pc pc' : Nat} {Ls : Array Slot} {St : List Value} {i : Nat} {v : Value} {l' : Array Slot} (hd : decode bytes pc = .ok (.astore i, 2)) (hv : v.isRef = true) (hl : storeLocals Ls i v = some l') (hp : pc + 2 = pc') (k : Runs p e below (T.setTop (mkF m pc' l' (St))) G) : Runs p e below (T.setTop (mkF m pc Ls (v :: St))) G := by
  subst hp
  exact X.step (fun _ hx hb' _ hown _ S t q => XS.astore S.here hx rfl (hb hb' hd) rfl hv hl q) k
theorem Here.astoreN (X : Here p l e R s m args below meth c y bytes maxL ret Z h0 ws T cells slots h) {pc pc' : Nat} {Ls : Array Slot} {St : List Value} {i : Fin 4} {v : Value} {l' : Array Slot} (hd : decode bytes pc = .ok (.astore_n i, 1)) (hv : v.isRef = true) (hl : storeLocals Ls i.val v = some l') (hp : pc + 1 = pc') (k : Runs p e below (T.setTop (mkF m pc' l' (St))) G) : Runs p e below (T.setTop (mkF m pc Ls (v :: St))) G := by
  subst hp
  exact X.step (fun _ hx hb' _ hown _ S t q => XS.astoreN S.here hx rfl (hb hb' hd) rfl hv hl q) k
theorem Here.iconst (X : Here p l e R s m args below meth c y bytes maxL ret Z h0 ws T cells slots h) {pc pc' : Nat} {Ls : Array Slot} {St : List Value} {i : Int} {z : Int32} (hd : decode bytes pc = .ok (.iconst i, 1)) (hz : Int32.ofInt i = z) (hp : pc + 1 = pc') (k : Runs p e below (T.setTop (mkF m pc' Ls (.int z :: St))) G) : Runs p e below (T.setTop (mkF m pc Ls (St))) G := by
  subst hp
  exact X.step (fun _ hx hb' _ hown _ S t q => XS.iconst S.here hx rfl (hb hb' hd) (hz ▸ q)) k
theorem Here.bipush (X : Here p l e R s m args below meth c y bytes maxL ret Z h0 ws T cells slots h) {pc pc' : Nat} {Ls : Array Slot} {St : List Value} {i : Int} {z : Int32} (hd : decode bytes pc = .ok (.bipush i, 2)) (hz : (Int8.ofInt i).toInt32 = z) (hp : pc + 2 = pc') (k : Runs p e below (T.setTop (mkF m pc' Ls (.int z :: St))) G) : Runs p e below (T.setTop (mkF m pc Ls (St))) G := by
  subst hp
  exact X.step (fun _ hx hb' _ hown _ S t q => XS.bipush S.here hx rfl (hb hb' hd) (hz ▸ q)) k
theorem Here.sipush (X : Here p l e R s m args below meth c y bytes maxL ret Z h0 ws T cells slots h) {pc pc' : Nat} {Ls : Array Slot} {St : List Value} {i : Int} {z : Int32} (hd : decode bytes pc = .ok (.sipush i, 3)) (hz : (Int16.ofInt i).toInt32 = z) (hp : pc + 3 = pc') (k : Runs p e below (T.setTop (mkF m pc' Ls (.int z :: St))) G) : Runs p e below (T.setTop (mkF m pc Ls (St))) G := by
  subst hp
  exact X.step (fun _ hx hb' _ hown _ S t q => XS.sipush S.here hx rfl (hb hb' hd) (hz ▸ q)) k
theorem Here.lconst0 (X : Here p l e R s m args below meth c y bytes maxL ret Z h0 ws T cells slots h) {pc pc' : Nat} {Ls : Array Slot} {St : List Value}  (hd : decode bytes pc = .ok (.lconst 0, 1))  (hp : pc + 1 = pc') (k : Runs p e below (T.setTop (mkF m pc' Ls (.long 0 :: St))) G) : Runs p e below (T.setTop (mkF m pc Ls (St))) G := by
  subst hp
  exact X.step (fun _ hx hb' _ hown _ S t q => XS.lconst S.here hx rfl (hb hb' hd) q) k
theorem Here.lconst1 (X : Here p l e R s m args below meth c y bytes maxL ret Z h0 ws T cells slots h) {pc pc' : Nat} {Ls : Array Slot} {St : List Value}  (hd : decode bytes pc = .ok (.lconst 1, 1))  (hp : pc + 1 = pc') (k : Runs p e below (T.setTop (mkF m pc' Ls (.long 1 :: St))) G) : Runs p e below (T.setTop (mkF m pc Ls (St))) G := by
  subst hp
  exact X.step (fun _ hx hb' _ hown _ S t q => XS.lconst S.here hx rfl (hb hb' hd) q) k
theorem Here.aconstNull (X : Here p l e R s m args below meth c y bytes maxL ret Z h0 ws T cells slots h) {pc pc' : Nat} {Ls : Array Slot} {St : List Value}  (hd : decode bytes pc = .ok (.aconst_null, 1))  (hp : pc + 1 = pc') (k : Runs p e below (T.setTop (mkF m pc' Ls (.null :: St))) G) : Runs p e below (T.setTop (mkF m pc Ls (St))) G := by
  subst hp
  exact X.step (fun _ hx hb' _ hown _ S t q => XS.aconstNull S.here hx rfl (hb hb' hd) q) k
theorem Here.iadd (X : Here p l e R s m args below meth c y bytes maxL ret Z h0 ws T cells slots h) {pc pc' : Nat} {Ls : Array Slot} {St : List Value} {a b : Int32} (hd : decode bytes pc = .ok (.iadd, 1))  (hp : pc + 1 = pc') (k : Runs p e below (T.setTop (mkF m pc' Ls (.int (a + b) :: St))) G) : Runs p e below (T.setTop (mkF m pc Ls (.int b :: .int a :: St))) G := by
  subst hp
  exact X.step (fun _ hx hb' _ hown _ S t q => XS.iadd S.here hx rfl (hb hb' hd) rfl q) k
theorem Here.isub (X : Here p l e R s m args below meth c y bytes maxL ret Z h0 ws T cells slots h) {pc pc' : Nat} {Ls : Array Slot} {St : List Value} {a b : Int32} (hd : decode bytes pc = .ok (.isub, 1))  (hp : pc + 1 = pc') (k : Runs p e below (T.setTop (mkF m pc' Ls (.int (a - b) :: St))) G) : Runs p e below (T.setTop (mkF m pc Ls (.int b :: .int a :: St))) G := by
  subst hp
  exact X.step (fun _ hx hb' _ hown _ S t q => XS.isub S.here hx rfl (hb hb' hd) rfl q) k
theorem Here.imul (X : Here p l e R s m args below meth c y bytes maxL ret Z h0 ws T cells slots h) {pc pc' : Nat} {Ls : Array Slot} {St : List Value} {a b : Int32} (hd : decode bytes pc = .ok (.imul, 1))  (hp : pc + 1 = pc') (k : Runs p e below (T.setTop (mkF m pc' Ls (.int (a * b) :: St))) G) : Runs p e below (T.setTop (mkF m pc Ls (.int b :: .int a :: St))) G := by
  subst hp
  exact X.step (fun _ hx hb' _ hown _ S t q => XS.imul S.here hx rfl (hb hb' hd) rfl q) k
theorem Here.iand (X : Here p l e R s m args below meth c y bytes maxL ret Z h0 ws T cells slots h) {pc pc' : Nat} {Ls : Array Slot} {St : List Value} {a b : Int32} (hd : decode bytes pc = .ok (.iand, 1))  (hp : pc + 1 = pc') (k : Runs p e below (T.setTop (mkF m pc' Ls (.int (a &&& b) :: St))) G) : Runs p e below (T.setTop (mkF m pc Ls (.int b :: .int a :: St))) G := by
  subst hp
  exact X.step (fun _ hx hb' _ hown _ S t q => XS.iand S.here hx rfl (hb hb' hd) rfl q) k
theorem Here.ior (X : Here p l e R s m args below meth c y bytes maxL ret Z h0 ws T cells slots h) {pc pc' : Nat} {Ls : Array Slot} {St : List Value} {a b : Int32} (hd : decode bytes pc = .ok (.ior, 1))  (hp : pc + 1 = pc') (k : Runs p e below (T.setTop (mkF m pc' Ls (.int (a ||| b) :: St))) G) : Runs p e below (T.setTop (mkF m pc Ls (.int b :: .int a :: St))) G := by
  subst hp
  exact X.step (fun _ hx hb' _ hown _ S t q => XS.ior S.here hx rfl (hb hb' hd) rfl q) k
theorem Here.ixor (X : Here p l e R s m args below meth c y bytes maxL ret Z h0 ws T cells slots h) {pc pc' : Nat} {Ls : Array Slot} {St : List Value} {a b : Int32} (hd : decode bytes pc = .ok (.ixor, 1))  (hp : pc + 1 = pc') (k : Runs p e below (T.setTop (mkF m pc' Ls (.int (a ^^^ b) :: St))) G) : Runs p e below (T.setTop (mkF m pc Ls (.int b :: .int a :: St))) G := by
  subst hp
  exact X.step (fun _ hx hb' _ hown _ S t q => XS.ixor S.here hx rfl (hb hb' hd) rfl q) k
theorem Here.ladd (X : Here p l e R s m args below meth c y bytes maxL ret Z h0 ws T cells slots h) {pc pc' : Nat} {Ls : Array Slot} {St : List Value} {a b : Int64} (hd : decode bytes pc = .ok (.ladd, 1))  (hp : pc + 1 = pc') (k : Runs p e below (T.setTop (mkF m pc' Ls (.long (a + b) :: St))) G) : Runs p e below (T.setTop (mkF m pc Ls (.long b :: .long a :: St))) G := by
  subst hp
  exact X.step (fun _ hx hb' _ hown _ S t q => XS.ladd S.here hx rfl (hb hb' hd) rfl q) k
theorem Here.lsub (X : Here p l e R s m args below meth c y bytes maxL ret Z h0 ws T cells slots h) {pc pc' : Nat} {Ls : Array Slot} {St : List Value} {a b : Int64} (hd : decode bytes pc = .ok (.lsub, 1))  (hp : pc + 1 = pc') (k : Runs p e below (T.setTop (mkF m pc' Ls (.long (a - b) :: St))) G) : Runs p e below (T.setTop (mkF m pc Ls (.long b :: .long a :: St))) G := by
  subst hp
  exact X.step (fun _ hx hb' _ hown _ S t q => XS.lsub S.here hx rfl (hb hb' hd) rfl q) k
theorem Here.lmul (X : Here p l e R s m args below meth c y bytes maxL ret Z h0 ws T cells slots h) {pc pc' : Nat} {Ls : Array Slot} {St : List Value} {a b : Int64} (hd : decode bytes pc = .ok (.lmul, 1))  (hp : pc + 1 = pc') (k : Runs p e below (T.setTop (mkF m pc' Ls (.long (a * b) :: St))) G) : Runs p e below (T.setTop (mkF m pc Ls (.long b :: .long a :: St))) G := by
  subst hp
  exact X.step (fun _ hx hb' _ hown _ S t q => XS.lmul S.here hx rfl (hb hb' hd) rfl q) k
theorem Here.land (X : Here p l e R s m args below meth c y bytes maxL ret Z h0 ws T cells slots h) {pc pc' : Nat} {Ls : Array Slot} {St : List Value} {a b : Int64} (hd : decode bytes pc = .ok (.land, 1))  (hp : pc + 1 = pc') (k : Runs p e below (T.setTop (mkF m pc' Ls (.long (a &&& b) :: St))) G) : Runs p e below (T.setTop (mkF m pc Ls (.long b :: .long a :: St))) G := by
  subst hp
  exact X.step (fun _ hx hb' _ hown _ S t q => XS.land S.here hx rfl (hb hb' hd) rfl q) k
theorem Here.lor (X : Here p l e R s m args below meth c y bytes maxL ret Z h0 ws T cells slots h) {pc pc' : Nat} {Ls : Array Slot} {St : List Value} {a b : Int64} (hd : decode bytes pc = .ok (.lor, 1))  (hp : pc + 1 = pc') (k : Runs p e below (T.setTop (mkF m pc' Ls (.long (a ||| b) :: St))) G) : Runs p e below (T.setTop (mkF m pc Ls (.long b :: .long a :: St))) G := by
  subst hp
  exact X.step (fun _ hx hb' _ hown _ S t q => XS.lor S.here hx rfl (hb hb' hd) rfl q) k
theorem Here.lxor (X : Here p l e R s m args below meth c y bytes maxL ret Z h0 ws T cells slots h) {pc pc' : Nat} {Ls : Array Slot} {St : List Value} {a b : Int64} (hd : decode bytes pc = .ok (.lxor, 1))  (hp : pc + 1 = pc') (k : Runs p e below (T.setTop (mkF m pc' Ls (.long (a ^^^ b) :: St))) G) : Runs p e below (T.setTop (mkF m pc Ls (.long b :: .long a :: St))) G := by
  subst hp
  exact X.step (fun _ hx hb' _ hown _ S t q => XS.lxor S.here hx rfl (hb hb' hd) rfl q) k
theorem Here.ishl (X : Here p l e R s m args below meth c y bytes maxL ret Z h0 ws T cells slots h) {pc pc' : Nat} {Ls : Array Slot} {St : List Value} {a b : Int32} (hd : decode bytes pc = .ok (.ishl, 1))  (hp : pc + 1 = pc') (k : Runs p e below (T.setTop (mkF m pc' Ls (.int (a <<< (b &&& 31)) :: St))) G) : Runs p e below (T.setTop (mkF m pc Ls (.int b :: .int a :: St))) G := by
  subst hp
  exact X.step (fun _ hx hb' _ hown _ S t q => XS.ishl S.here hx rfl (hb hb' hd) rfl q) k
theorem Here.ishr (X : Here p l e R s m args below meth c y bytes maxL ret Z h0 ws T cells slots h) {pc pc' : Nat} {Ls : Array Slot} {St : List Value} {a b : Int32} (hd : decode bytes pc = .ok (.ishr, 1))  (hp : pc + 1 = pc') (k : Runs p e below (T.setTop (mkF m pc' Ls (.int (a >>> (b &&& 31)) :: St))) G) : Runs p e below (T.setTop (mkF m pc Ls (.int b :: .int a :: St))) G := by
  subst hp
  exact X.step (fun _ hx hb' _ hown _ S t q => XS.ishr S.here hx rfl (hb hb' hd) rfl q) k
theorem Here.iushr (X : Here p l e R s m args below meth c y bytes maxL ret Z h0 ws T cells slots h) {pc pc' : Nat} {Ls : Array Slot} {St : List Value} {a b : Int32} (hd : decode bytes pc = .ok (.iushr, 1))  (hp : pc + 1 = pc') (k : Runs p e below (T.setTop (mkF m pc' Ls (.int ((a.toUInt32 >>> (b &&& 31).toUInt32).toInt32) :: St))) G) : Runs p e below (T.setTop (mkF m pc Ls (.int b :: .int a :: St))) G := by
  subst hp
  exact X.step (fun _ hx hb' _ hown _ S t q => XS.iushr S.here hx rfl (hb hb' hd) rfl q) k
theorem Here.lshl (X : Here p l e R s m args below meth c y bytes maxL ret Z h0 ws T cells slots h) {pc pc' : Nat} {Ls : Array Slot} {St : List Value} {a : Int64} {b : Int32} (hd : decode bytes pc = .ok (.lshl, 1))  (hp : pc + 1 = pc') (k : Runs p e below (T.setTop (mkF m pc' Ls (.long (a <<< (b &&& 0x3f).toInt64) :: St))) G) : Runs p e below (T.setTop (mkF m pc Ls (.int b :: .long a :: St))) G := by
  subst hp
  exact X.step (fun _ hx hb' _ hown _ S t q => XS.lshl S.here hx rfl (hb hb' hd) rfl q) k
theorem Here.lshr (X : Here p l e R s m args below meth c y bytes maxL ret Z h0 ws T cells slots h) {pc pc' : Nat} {Ls : Array Slot} {St : List Value} {a : Int64} {b : Int32} (hd : decode bytes pc = .ok (.lshr, 1))  (hp : pc + 1 = pc') (k : Runs p e below (T.setTop (mkF m pc' Ls (.long (a >>> (b &&& 0x3f).toInt64) :: St))) G) : Runs p e below (T.setTop (mkF m pc Ls (.int b :: .long a :: St))) G := by
  subst hp
  exact X.step (fun _ hx hb' _ hown _ S t q => XS.lshr S.here hx rfl (hb hb' hd) rfl q) k
theorem Here.lushr (X : Here p l e R s m args below meth c y bytes maxL ret Z h0 ws T cells slots h) {pc pc' : Nat} {Ls : Array Slot} {St : List Value} {a : Int64} {b : Int32} (hd : decode bytes pc = .ok (.lushr, 1))  (hp : pc + 1 = pc') (k : Runs p e below (T.setTop (mkF m pc' Ls (.long ((a.toUInt64 >>> (b &&& 0x3f).toInt64.toUInt64).toInt64) :: St))) G) : Runs p e below (T.setTop (mkF m pc Ls (.int b :: .long a :: St))) G := by
  subst hp
  exact X.step (fun _ hx hb' _ hown _ S t q => XS.lushr S.here hx rfl (hb hb' hd) rfl q) k
theorem Here.ineg (X : Here p l e R s m args below meth c y bytes maxL ret Z h0 ws T cells slots h) {pc pc' : Nat} {Ls : Array Slot} {St : List Value} {a : Int32} (hd : decode bytes pc = .ok (.ineg, 1))  (hp : pc + 1 = pc') (k : Runs p e below (T.setTop (mkF m pc' Ls (.int (-a) :: St))) G) : Runs p e below (T.setTop (mkF m pc Ls (.int a :: St))) G := by
  subst hp
  exact X.step (fun _ hx hb' _ hown _ S t q => XS.ineg S.here hx rfl (hb hb' hd) rfl q) k
theorem Here.lneg (X : Here p l e R s m args below meth c y bytes maxL ret Z h0 ws T cells slots h) {pc pc' : Nat} {Ls : Array Slot} {St : List Value} {a : Int64} (hd : decode bytes pc = .ok (.lneg, 1))  (hp : pc + 1 = pc') (k : Runs p e below (T.setTop (mkF m pc' Ls (.long (-a) :: St))) G) : Runs p e below (T.setTop (mkF m pc Ls (.long a :: St))) G := by
  subst hp
  exact X.step (fun _ hx hb' _ hown _ S t q => XS.lneg S.here hx rfl (hb hb' hd) rfl q) k
theorem Here.lcmp (X : Here p l e R s m args below meth c y bytes maxL ret Z h0 ws T cells slots h) {pc pc' : Nat} {Ls : Array Slot} {St : List Value} {a b : Int64} (hd : decode bytes pc = .ok (.lcmp, 1))  (hp : pc + 1 = pc') (k : Runs p e below (T.setTop (mkF m pc' Ls (.int (lcmpW a b) :: St))) G) : Runs p e below (T.setTop (mkF m pc Ls (.long b :: .long a :: St))) G := by
  subst hp
  exact X.step (fun _ hx hb' _ hown _ S t q => XS.lcmp S.here hx rfl (hb hb' hd) rfl q) k
theorem Here.i2l (X : Here p l e R s m args below meth c y bytes maxL ret Z h0 ws T cells slots h) {pc pc' : Nat} {Ls : Array Slot} {St : List Value} {a : Int32} (hd : decode bytes pc = .ok (.i2l, 1))  (hp : pc + 1 = pc') (k : Runs p e below (T.setTop (mkF m pc' Ls (.long a.toInt64 :: St))) G) : Runs p e below (T.setTop (mkF m pc Ls (.int a :: St))) G := by
  subst hp
  exact X.step (fun _ hx hb' _ hown _ S t q => XS.i2l S.here hx rfl (hb hb' hd) rfl q) k
theorem Here.l2i (X : Here p l e R s m args below meth c y bytes maxL ret Z h0 ws T cells slots h) {pc pc' : Nat} {Ls : Array Slot} {St : List Value} {a : Int64} (hd : decode bytes pc = .ok (.l2i, 1))  (hp : pc + 1 = pc') (k : Runs p e below (T.setTop (mkF m pc' Ls (.int a.toInt32 :: St))) G) : Runs p e below (T.setTop (mkF m pc Ls (.long a :: St))) G := by
  subst hp
  exact X.step (fun _ hx hb' _ hown _ S t q => XS.l2i S.here hx rfl (hb hb' hd) rfl q) k
theorem Here.i2b (X : Here p l e R s m args below meth c y bytes maxL ret Z h0 ws T cells slots h) {pc pc' : Nat} {Ls : Array Slot} {St : List Value} {a : Int32} (hd : decode bytes pc = .ok (.i2b, 1))  (hp : pc + 1 = pc') (k : Runs p e below (T.setTop (mkF m pc' Ls (.int a.toInt8.toInt32 :: St))) G) : Runs p e below (T.setTop (mkF m pc Ls (.int a :: St))) G := by
  subst hp
  exact X.step (fun _ hx hb' _ hown _ S t q => XS.i2b S.here hx rfl (hb hb' hd) rfl q) k
theorem Here.i2s (X : Here p l e R s m args below meth c y bytes maxL ret Z h0 ws T cells slots h) {pc pc' : Nat} {Ls : Array Slot} {St : List Value} {a : Int32} (hd : decode bytes pc = .ok (.i2s, 1))  (hp : pc + 1 = pc') (k : Runs p e below (T.setTop (mkF m pc' Ls (.int a.toInt16.toInt32 :: St))) G) : Runs p e below (T.setTop (mkF m pc Ls (.int a :: St))) G := by
  subst hp
  exact X.step (fun _ hx hb' _ hown _ S t q => XS.i2s S.here hx rfl (hb hb' hd) rfl q) k
theorem Here.i2c (X : Here p l e R s m args below meth c y bytes maxL ret Z h0 ws T cells slots h) {pc pc' : Nat} {Ls : Array Slot} {St : List Value} {a : Int32} (hd : decode bytes pc = .ok (.i2c, 1))  (hp : pc + 1 = pc') (k : Runs p e below (T.setTop (mkF m pc' Ls (.int a.toUInt32.toUInt16.toUInt32.toInt32 :: St))) G) : Runs p e below (T.setTop (mkF m pc Ls (.int a :: St))) G := by
  subst hp
  exact X.step (fun _ hx hb' _ hown _ S t q => XS.i2c S.here hx rfl (hb hb' hd) rfl q) k
theorem Here.irem (X : Here p l e R s m args below meth c y bytes maxL ret Z h0 ws T cells slots h) {pc pc' : Nat} {Ls : Array Slot} {St : List Value} {a b : Int32} (hd : decode bytes pc = .ok (.irem, 1)) (hy : b ≠ 0) (hp : pc + 1 = pc') (k : Runs p e below (T.setTop (mkF m pc' Ls (.int (a % b) :: St))) G) : Runs p e below (T.setTop (mkF m pc Ls (.int b :: .int a :: St))) G := by
  subst hp
  exact X.step (fun _ hx hb' _ hown _ S t q => iremM S hx rfl (hb hb' hd) rfl hy q) k
theorem Here.idiv (X : Here p l e R s m args below meth c y bytes maxL ret Z h0 ws T cells slots h) {pc pc' : Nat} {Ls : Array Slot} {St : List Value} {a b : Int32} (hd : decode bytes pc = .ok (.idiv, 1)) (hy : b ≠ 0) (hp : pc + 1 = pc') (k : Runs p e below (T.setTop (mkF m pc' Ls (.int (a / b) :: St))) G) : Runs p e below (T.setTop (mkF m pc Ls (.int b :: .int a :: St))) G := by
  subst hp
  exact X.step (fun _ hx hb' _ hown _ S t q => XS.idiv S.here hx rfl (hb hb' hd) rfl hy q) k
theorem Here.iinc (X : Here p l e R s m args below meth c y bytes maxL ret Z h0 ws T cells slots h) {pc pc' : Nat} {Ls : Array Slot} {St : List Value} {i : Nat} {cst : Int} {v z : Int32} {l' : Array Slot} (hd : decode bytes pc = .ok (.iinc i cst, 3)) (hl : Ls[i]? = some (.val (.int v))) (hz : Int32.ofInt cst = z) (hl' : storeLocals Ls i (.int (v + z)) = some l') (hp : pc + 3 = pc') (k : Runs p e below (T.setTop (mkF m pc' l' (St))) G) : Runs p e below (T.setTop (mkF m pc Ls (St))) G := by
  subst hp
  exact X.step (fun _ hx hb' _ hown _ S t q => XS.iinc S.here hx rfl (hb hb' hd) hl (hz ▸ hl') q) k
theorem Here.dup (X : Here p l e R s m args below meth c y bytes maxL ret Z h0 ws T cells slots h) {pc pc' : Nat} {Ls : Array Slot} {St : List Value} {v : Value} (hd : decode bytes pc = .ok (.dup, 1)) (hv : v.category = 1) (hp : pc + 1 = pc') (k : Runs p e below (T.setTop (mkF m pc' Ls (v :: v :: St))) G) : Runs p e below (T.setTop (mkF m pc Ls (v :: St))) G := by
  subst hp
  exact X.step (fun _ hx hb' _ hown _ S t q => XS.dup S.here hx rfl (hb hb' hd) rfl hv q) k
theorem Here.dupX1 (X : Here p l e R s m args below meth c y bytes maxL ret Z h0 ws T cells slots h) {pc pc' : Nat} {Ls : Array Slot} {St : List Value} {v w : Value} (hd : decode bytes pc = .ok (.dup_x1, 1)) (hv : v.category = 1) (hw : w.category = 1) (hp : pc + 1 = pc') (k : Runs p e below (T.setTop (mkF m pc' Ls (v :: w :: v :: St))) G) : Runs p e below (T.setTop (mkF m pc Ls (v :: w :: St))) G := by
  subst hp
  exact X.step (fun _ hx hb' _ hown _ S t q => XS.dupX1 S.here hx rfl (hb hb' hd) rfl hv hw q) k
theorem Here.dup2 (X : Here p l e R s m args below meth c y bytes maxL ret Z h0 ws T cells slots h) {pc pc' : Nat} {Ls : Array Slot} {St : List Value} {v w : Value} (hd : decode bytes pc = .ok (.dup2, 1)) (hv : v.category = 1) (hw : w.category = 1) (hp : pc + 1 = pc') (k : Runs p e below (T.setTop (mkF m pc' Ls (v :: w :: v :: w :: St))) G) : Runs p e below (T.setTop (mkF m pc Ls (v :: w :: St))) G := by
  subst hp
  exact X.step (fun _ hx hb' _ hown _ S t q => Jvm.Free.XT.dup2 S.here hx rfl (hb hb' hd) rfl hv hw q) k
theorem Here.dup2L (X : Here p l e R s m args below meth c y bytes maxL ret Z h0 ws T cells slots h) {pc pc' : Nat} {Ls : Array Slot} {St : List Value} {v : Int64} (hd : decode bytes pc = .ok (.dup2, 1))  (hp : pc + 1 = pc') (k : Runs p e below (T.setTop (mkF m pc' Ls (.long v :: .long v :: St))) G) : Runs p e below (T.setTop (mkF m pc Ls (.long v :: St))) G := by
  subst hp
  exact X.step (fun _ hx hb' _ hown _ S t q => Jvm.Free.XT.dup2L S.here hx rfl (hb hb' hd) rfl q) k
theorem Here.pop (X : Here p l e R s m args below meth c y bytes maxL ret Z h0 ws T cells slots h) {pc pc' : Nat} {Ls : Array Slot} {St : List Value} {v : Value} (hd : decode bytes pc = .ok (.pop, 1)) (hv : v.category = 1) (hp : pc + 1 = pc') (k : Runs p e below (T.setTop (mkF m pc' Ls (St))) G) : Runs p e below (T.setTop (mkF m pc Ls (v :: St))) G := by
  subst hp
  exact X.step (fun _ hx hb' _ hown _ S t q => XS.pop S.here hx rfl (hb hb' hd) rfl hv q) k
theorem Here.ldcInt (X : Here p l e R s m args below meth c y bytes maxL ret Z h0 ws T cells slots h) {pc pc' : Nat} {Ls : Array Slot} {St : List Value} {i : Nat} {v : Int32} (w : (Jvm.Cond.constant y.cls i v).before a0 Z = true) (hd : decode bytes pc = .ok (.ldc i, 2)) (hp : pc + 2 = pc') (k : Runs p e below (T.setTop (mkF m pc' Ls (.int v :: St))) G) : Runs p e below (T.setTop (mkF m pc Ls St)) G := by
  subst hp
  exact X.step (fun _ hx hb' hZ hown _ S t q => S.ldcInt hx hown (mvT hZ w) (g := mkF m pc Ls St) rfl (hb hb' hd) t q) k
theorem Here.ldcwInt (X : Here p l e R s m args below meth c y bytes maxL ret Z h0 ws T cells slots h) {pc pc' : Nat} {Ls : Array Slot} {St : List Value} {i : Nat} {v : Int32} (w : (Jvm.Cond.constant y.cls i v).before a0 Z = true) (hd : decode bytes pc = .ok (.ldc_w i, 3)) (hp : pc + 3 = pc') (k : Runs p e below (T.setTop (mkF m pc' Ls (.int v :: St))) G) : Runs p e below (T.setTop (mkF m pc Ls St)) G := by
  subst hp
  exact X.step (fun _ hx hb' hZ hown _ S t q => S.ldcwInt hx hown (mvT hZ w) (g := mkF m pc Ls St) rfl (hb hb' hd) t q) k
theorem Here.ldc2 (X : Here p l e R s m args below meth c y bytes maxL ret Z h0 ws T cells slots h) {pc pc' : Nat} {Ls : Array Slot} {St : List Value} {i : Nat} {v : Int64} (w : (Jvm.Cond.constantLong y.cls i v).before a0 Z = true) (hd : decode bytes pc = .ok (.ldc2_w i, 3)) (hp : pc + 3 = pc') (k : Runs p e below (T.setTop (mkF m pc' Ls (.long v :: St))) G) : Runs p e below (T.setTop (mkF m pc Ls St)) G := by
  subst hp
  exact X.step (fun _ hx hb' hZ hown _ S t q => S.ldc2Long hx hown (mvT hZ w) (g := mkF m pc Ls St) rfl (hb hb' hd) t q) k
theorem Here.goto (X : Here p l e R s m args below meth c y bytes maxL ret Z h0 ws T cells slots h) {pc pc' : Nat} {Ls : Array Slot} {St : List Value} {o : Int}  (hd : decode bytes pc = .ok (.goto o, 3))  (ho : 0 ≤ (pc : Int) + o) (hp : ((pc : Int) + o).toNat = pc') (k : Runs p e below (T.setTop (mkF m pc' Ls St)) G) : Runs p e below (T.setTop (mkF m pc Ls (St))) G := by
  exact X.step (fun _ hx hb' _ hown _ S t q => XS.goto S.here hx rfl rfl (hb hb' hd) ho hp q) k
theorem Here.ifYes (X : Here p l e R s m args below meth c y bytes maxL ret Z h0 ws T cells slots h) {pc pc' : Nat} {Ls : Array Slot} {St : List Value} {o : Int} {cd : ClassFile.Cond} {a : Int32} (hd : decode bytes pc = .ok (.ifCond cd o, 3)) (hc : if_icmp.holds cd a 0 = true) (ho : 0 ≤ (pc : Int) + o) (hp : ((pc : Int) + o).toNat = pc') (k : Runs p e below (T.setTop (mkF m pc' Ls St)) G) : Runs p e below (T.setTop (mkF m pc Ls (.int a :: St))) G := by
  exact X.step (fun _ hx hb' _ hown _ S t q => XS.ifYes S.here hx rfl rfl (hb hb' hd) rfl ((if0 _ _).trans hc) ho hp q) k
theorem Here.icmpYes (X : Here p l e R s m args below meth c y bytes maxL ret Z h0 ws T cells slots h) {pc pc' : Nat} {Ls : Array Slot} {St : List Value} {o : Int} {cd : ClassFile.Cond} {a b : Int32} (hd : decode bytes pc = .ok (.if_icmp cd o, 3)) (hc : if_icmp.holds cd a b = true) (ho : 0 ≤ (pc : Int) + o) (hp : ((pc : Int) + o).toNat = pc') (k : Runs p e below (T.setTop (mkF m pc' Ls St)) G) : Runs p e below (T.setTop (mkF m pc Ls (.int b :: .int a :: St))) G := by
  exact X.step (fun _ hx hb' _ hown _ S t q => XS.icmpYes S.here hx rfl rfl (hb hb' hd) rfl hc ho hp q) k
theorem Here.ifnullYes (X : Here p l e R s m args below meth c y bytes maxL ret Z h0 ws T cells slots h) {pc pc' : Nat} {Ls : Array Slot} {St : List Value} {o : Int}  (hd : decode bytes pc = .ok (.ifnull o, 3))  (ho : 0 ≤ (pc : Int) + o) (hp : ((pc : Int) + o).toNat = pc') (k : Runs p e below (T.setTop (mkF m pc' Ls St)) G) : Runs p e below (T.setTop (mkF m pc Ls (.null :: St))) G := by
  exact X.step (fun _ hx hb' _ hown _ S t q => XS.ifnullYes S.here hx rfl rfl (hb hb' hd) rfl ho hp q) k
theorem Here.ifnonnullYes (X : Here p l e R s m args below meth c y bytes maxL ret Z h0 ws T cells slots h) {pc pc' : Nat} {Ls : Array Slot} {St : List Value} {o : Int} {b : Addr} (hd : decode bytes pc = .ok (.ifnonnull o, 3))  (ho : 0 ≤ (pc : Int) + o) (hp : ((pc : Int) + o).toNat = pc') (k : Runs p e below (T.setTop (mkF m pc' Ls St)) G) : Runs p e below (T.setTop (mkF m pc Ls (.ref b :: St))) G := by
  exact X.step (fun _ hx hb' _ hown _ S t q => XS.ifnonnullYes S.here hx rfl rfl (hb hb' hd) rfl ho hp q) k
theorem Here.ifNo (X : Here p l e R s m args below meth c y bytes maxL ret Z h0 ws T cells slots h) {pc pc' : Nat} {Ls : Array Slot} {St : List Value} {o : Int} {cd : ClassFile.Cond} {a : Int32} (hd : decode bytes pc = .ok (.ifCond cd o, 3)) (hc : if_icmp.holds cd a 0 = false) (hp : pc + 3 = pc') (k : Runs p e below (T.setTop (mkF m pc' Ls (St))) G) : Runs p e below (T.setTop (mkF m pc Ls (.int a :: St))) G := by
  subst hp
  exact X.step (fun _ hx hb' _ hown _ S t q => XS.ifNo S.here hx rfl (hb hb' hd) rfl ((if0 _ _).trans hc) q) k
theorem Here.icmpNo (X : Here p l e R s m args below meth c y bytes maxL ret Z h0 ws T cells slots h) {pc pc' : Nat} {Ls : Array Slot} {St : List Value} {o : Int} {cd : ClassFile.Cond} {a b : Int32} (hd : decode bytes pc = .ok (.if_icmp cd o, 3)) (hc : if_icmp.holds cd a b = false) (hp : pc + 3 = pc') (k : Runs p e below (T.setTop (mkF m pc' Ls (St))) G) : Runs p e below (T.setTop (mkF m pc Ls (.int b :: .int a :: St))) G := by
  subst hp
  exact X.step (fun _ hx hb' _ hown _ S t q => XS.icmpNo S.here hx rfl (hb hb' hd) rfl hc q) k
theorem Here.ifnullNo (X : Here p l e R s m args below meth c y bytes maxL ret Z h0 ws T cells slots h) {pc pc' : Nat} {Ls : Array Slot} {St : List Value} {o : Int} {b : Addr} (hd : decode bytes pc = .ok (.ifnull o, 3))  (hp : pc + 3 = pc') (k : Runs p e below (T.setTop (mkF m pc' Ls (St))) G) : Runs p e below (T.setTop (mkF m pc Ls (.ref b :: St))) G := by
  subst hp
  exact X.step (fun _ hx hb' _ hown _ S t q => XS.ifnullNo S.here hx rfl (hb hb' hd) rfl q) k
theorem Here.ifnonnullNo (X : Here p l e R s m args below meth c y bytes maxL ret Z h0 ws T cells slots h) {pc pc' : Nat} {Ls : Array Slot} {St : List Value} {o : Int} (hd : decode bytes pc = .ok (.ifnonnull o, 3))  (hp : pc + 3 = pc') (k : Runs p e below (T.setTop (mkF m pc' Ls (St))) G) : Runs p e below (T.setTop (mkF m pc Ls (.null :: St))) G := by
  subst hp
  exact X.step (fun _ hx hb' _ hown _ S t q => XS.ifnonnullNo S.here hx rfl (hb hb' hd) rfl q) k
theorem Here.acmp (X : Here p l e R s m args below meth c y bytes maxL ret Z h0 ws T cells slots h) {pc pc' : Nat} {Ls : Array Slot} {St : List Value} {o : Int} {cd : ACond} {u v : Value} {same : Bool} (hd : decode bytes pc = .ok (.if_acmp cd o, 3)) (hu : u.isRef = true) (hv : v.isRef = true) (hq : decide (u = v) = same) (ho : 0 ≤ (pc : Int) + o) (hp : pc' = if acV cd same = true then ((pc : Int) + o).toNat else pc + 3) (k : Runs p e below (T.setTop (mkF m pc' Ls St)) G) : Runs p e below (T.setTop (mkF m pc Ls (v :: u :: St))) G := by
  exact X.step (fun _ hx hb' _ hown _ S t q => Jvm.RoadKit.acmp (g := mkF m pc Ls (v :: u :: St)) S hx rfl hu hv rfl (hb hb' hd) rfl hq ho hp q) k
theorem Here.getfield (X : Here p l e R s m args below meth c y bytes maxL ret Z h0 ws T cells slots h) {pc pc' : Nat} {Ls : Array Slot} {St : List Value} {R0 O n d host : String} {i : Nat} {a : Addr} {v : Value} (w : (Jvm.Cond.fieldLink y.cls i R0 n d).before a0 Z = true ∨ (Jvm.Cond.fieldLinkNest y.cls i R0 n d host).before a0 Z = true) (via : Via Z R0 O n d) (F : Fld Z h a O n d v) (hd : decode bytes pc = .ok (.getfield i, 3)) (hp : pc + 3 = pc')
    (k : ∀ T', Here p l e R s m args below meth c y bytes maxL ret Z h0 ws T' cells slots h → Runs p e below (T'.setTop (mkF m pc' Ls (v :: St))) G) : Runs p e below (T.setTop (mkF m pc Ls (.ref a :: St))) G := by
  subst hp
  exact X.stepT (fun _ hx hb' _ hZ hown eT S => getF S hx hZ hown w via eT F (g := mkF m pc Ls (.ref a :: St)) rfl rfl (hb hb' hd)) k
theorem Here.getstatic (X : Here p l e R s m args below meth c y bytes maxL ret Z h0 ws T cells slots h) {pc pc' : Nat} {Ls : Array Slot} {St : List Value} {R0 O n d host : String} {i : Nat} {v : Value} (w : (Jvm.Cond.fieldLink y.cls i R0 n d).before a0 Z = true ∨ (Jvm.Cond.fieldLinkNest y.cls i R0 n d host).before a0 Z = true) (via : Via Z R0 O n d) (F : Sta Z h O n d v) (hd : decode bytes pc = .ok (.getstatic i, 3)) (hp : pc + 3 = pc')
    (k : ∀ T', Here p l e R s m args below meth c y bytes maxL ret Z h0 ws T' cells slots h → Runs p e below (T'.setTop (mkF m pc' Ls (v :: St))) G) : Runs p e below (T.setTop (mkF m pc Ls St)) G := by
  subst hp
  exact X.stepT (fun _ hx hb' _ hZ hown eT S => getS2 S hx hZ hown w via eT F (g := mkF m pc Ls St) rfl (hb hb' hd)) k
theorem Here.putfield (X : Here p l e R s m args below meth c y bytes maxL ret Z h0 ws T cells slots h) {pc pc' : Nat} {Ls : Array Slot} {St : List Value} {R0 O n d host C : String} {i kk : Nat} {ty : FieldType} {a : Addr} {v old : Value} (w : (Jvm.Cond.fieldLink y.cls i R0 n d).before a0 Z = true ∨ (Jvm.Cond.fieldLinkNest y.cls i R0 n d host).before a0 Z = true) (via : Via Z R0 O n d) (F : Fld Z h a O n d old) (E : Exa Z h a C)
    (L : (Jvm.Cond.lays C O n d).before a0 Z = true ∨ ((Jvm.Cond.laysFinal C O n d).before a0 Z = true ∧ y.cls = O ∧ y.name = "<init>")) (wi : (Jvm.Cond.instantiable C kk).before a0 Z = true) (hty : parseFieldDescriptor d = some ty) (hn : narrow ty v = v) (hf : fits ty v = true) (hd : decode bytes pc = .ok (.putfield i, 3)) (hp : pc + 3 = pc') (hws : a ∈ ws ∨ h0.size ≤ a)
    (k : ∀ T' h', Here p l e R s m args below meth c y bytes maxL ret Z h0 ws T' cells slots h' → Wr h h' a (Jvm.RoadKit.slotOf Z O n d) v → Runs p e below (T'.setTop (mkF m pc' Ls St)) G) : Runs p e below (T.setTop (mkF m pc Ls (v :: .ref a :: St))) G := by
  subst hp
  exact X.stepW hws (fun _ hx hb' hnm hZ hown eT S => putF S hx hZ hown w via eT F E (L.imp id fun q => ⟨q.1, q.2.1, hnm.trans q.2.2⟩) wi hty hn hf (g := mkF m pc Ls (v :: .ref a :: St)) rfl rfl (hb hb' hd)) k
theorem Here.putfieldN (X : Here p l e R s m args below meth c y bytes maxL ret Z h0 ws T cells slots h) {pc pc' : Nat} {Ls : Array Slot} {St : List Value} {R0 O n d C : String} {i kk : Nat} {ty : FieldType} {a : Addr} {v v' old : Value} (w : (Jvm.Cond.fieldLink y.cls i R0 n d).before a0 Z = true) (via : Via Z R0 O n d) (F : Fld Z h a O n d old) (E : Exa Z h a C)
    (L : (Jvm.Cond.lays C O n d).before a0 Z = true ∨ ((Jvm.Cond.laysFinal C O n d).before a0 Z = true ∧ y.cls = O ∧ y.name = "<init>")) (wi : (Jvm.Cond.instantiable C kk).before a0 Z = true) (hty : parseFieldDescriptor d = some ty) (hn : narrow ty v = v') (hf : fits ty v' = true) (hd : decode bytes pc = .ok (.putfield i, 3)) (hp : pc + 3 = pc') (hws : a ∈ ws ∨ h0.size ≤ a)
    (k : ∀ T' h', Here p l e R s m args below meth c y bytes maxL ret Z h0 ws T' cells slots h' → Wr h h' a (Jvm.RoadKit.slotOf Z O n d) v' → Runs p e below (T'.setTop (mkF m pc' Ls St)) G) : Runs p e below (T.setTop (mkF m pc Ls (v :: .ref a :: St))) G := by
  subst hp
  exact X.stepW hws (fun _ hx hb' hnm hZ hown eT S => putFN S hx hZ hown w via eT F E (L.imp id fun q => ⟨q.1, q.2.1, hnm.trans q.2.2⟩) wi hty hn hf (g := mkF m pc Ls (v :: .ref a :: St)) rfl rfl (hb hb' hd)) k
theorem Here.new (X : Here p l e R s m args below meth c y bytes maxL ret Z h0 ws T cells slots h) {pc pc' : Nat} {Ls : Array Slot} {St : List Value} {C : String} {i n : Nat} (w : (Jvm.Cond.classLink y.cls i C).before a0 Z = true) (wi : (Jvm.Cond.instantiable C n).before a0 Z = true) (wz : (Jvm.Cond.initialized C).before a0 Z = true) (hd : decode bytes pc = .ok (.new i, 3)) (hp : pc + 3 = pc') (hc : cells + 1 ≤ R.cells) (hl : slots + n ≤ R.slots)
    (k : ∀ T' h' b, Here p l e R s m args below meth c y bytes maxL ret Z h0 ws T' (cells + 1) (slots + n) h' → b = h.size → Ext h h' → Exa Z h' b C → (∀ {O nm d : String} {ty : FieldType}, Laid Z a0 C O nm d → parseFieldDescriptor d = some ty → Fld Z h' b O nm d (defaultValue ty)) → Runs p e below (T'.setTop (mkF m pc' Ls (.ref b :: St))) G) : Runs p e below (T.setTop (mkF m pc Ls St)) G := by
  subst hp
  obtain ⟨⟨x1, xh, x3, x4, x5, x6, x7, x8, xn⟩, x9, x10, locs, S, N⟩ := X
  have x2 := xh.wide
  obtain ⟨T', h', S', e', E, A, D, -, st⟩ := newO S x1 x2 x5 w wi wz x9 (g := mkF m pc Ls St) rfl (hb x3 hd) hc hl
  exact (k T' h' _ ⟨⟨x1, xh, x3, x4, x5, x6, x7, x8, xn⟩, e', x10.ext E, _, S', N⟩ rfl E A D).of st
theorem Here.initObj (X : Here p l e R s m args below meth c y bytes maxL ret Z h0 ws T cells slots h) {pc pc' : Nat} {Ls : Array Slot} {St : List Value} {i : Nat} {a : Addr} (w1 : (Jvm.Cond.methodLink y.cls i Lib.objectInit).before a0 Z = true) (w2 : (Jvm.Cond.instanceMethod Lib.objectInit).before a0 Z = true) (w3 : (Jvm.Cond.code Lib.objectInit ⟨#[0xb1]⟩ 1 none).before a0 Z = true) (hsz : Ls.size = maxL) (hd : decode bytes pc = .ok (.invokespecial i, 3)) (hp : pc + 3 = pc') (hf : 1 ≤ R.frames) {W : Nat} (hW : (St.map fun v => v.category).sum = W) (hl : W + 12 ≤ R.locals)
    (k : ∀ T', Here p l e R s m args below meth c y bytes maxL ret Z h0 ws T' cells slots h → Runs p e below (T'.setTop (mkF m pc' Ls St)) G) : Runs p e below (T.setTop (mkF m pc Ls (.ref a :: St))) G := by
  subst hp
  exact X.stepT (fun _ hx hb' hml hZ hown eT S => initO S hx hZ hown w1 w2 w3 eT (g := mkF m pc Ls (.ref a :: St)) rfl (hsz.trans hml.symm) rfl (hb hb' hd) hf (W := W) (by show 2 * 0 + _ ≤ _; rw [hW]; omega) hl) k
theorem Here.castYes (X : Here p l e R s m args below meth c y bytes maxL ret Z h0 ws T cells slots h) {pc pc' : Nat} {Ls : Array Slot} {St : List Value} {K : String} {i : Nat} {a : Addr} (w : (Jvm.Cond.classLink y.cls i K).before a0 Z = true) (F : Jvm.RoadKit.Ins Z h a K true) (hd : decode bytes pc = .ok (.checkcast i, 3)) (hp : pc + 3 = pc')
    (k : ∀ T', Here p l e R s m args below meth c y bytes maxL ret Z h0 ws T' cells slots h → Runs p e below (T'.setTop (mkF m pc' Ls (.ref a :: St))) G) : Runs p e below (T.setTop (mkF m pc Ls (.ref a :: St))) G := by
  subst hp
  exact X.stepT (fun _ hx hb' _ hZ hown eT S => castY S hx hZ hown w eT F (g := mkF m pc Ls (.ref a :: St)) rfl rfl (hb hb' hd)) k
theorem Here.instYes (X : Here p l e R s m args below meth c y bytes maxL ret Z h0 ws T cells slots h) {pc pc' : Nat} {Ls : Array Slot} {St : List Value} {K : String} {i : Nat} {a : Addr} (w : (Jvm.Cond.classLink y.cls i K).before a0 Z = true) (F : Jvm.RoadKit.Ins Z h a K true) (hd : decode bytes pc = .ok (.instanceof i, 3)) (hp : pc + 3 = pc')
    (k : ∀ T', Here p l e R s m args below meth c y bytes maxL ret Z h0 ws T' cells slots h → Runs p e below (T'.setTop (mkF m pc' Ls (.int (1 : Int32) :: St))) G) : Runs p e below (T.setTop (mkF m pc Ls (.ref a :: St))) G := by
  subst hp
  exact X.stepT (fun _ hx hb' _ hZ hown eT S => instY S hx hZ hown w eT F (g := mkF m pc Ls (.ref a :: St)) rfl rfl (hb hb' hd)) k
theorem Here.instNo (X : Here p l e R s m args below meth c y bytes maxL ret Z h0 ws T cells slots h) {pc pc' : Nat} {Ls : Array Slot} {St : List Value} {C K : String} {i : Nat} {a : Addr} (w : (Jvm.Cond.classLink y.cls i K).before a0 Z = true) (E : Exa Z h a C) (F : ∃ c t, Z.vm.findClass C = some c ∧ Z.vm.findClass K = some t ∧ Z.vm.assignable c t = false) (hd : decode bytes pc = .ok (.instanceof i, 3)) (hp : pc + 3 = pc')
    (k : ∀ T', Here p l e R s m args below meth c y bytes maxL ret Z h0 ws T' cells slots h → Runs p e below (T'.setTop (mkF m pc' Ls (.int (0 : Int32) :: St))) G) : Runs p e below (T.setTop (mkF m pc Ls (.ref a :: St))) G := by
  subst hp
  exact X.stepT (fun _ hx hb' _ hZ hown eT S => Jvm.RoadKit.instNo S hx hZ hown w eT E F (g := mkF m pc Ls (.ref a :: St)) rfl rfl (hb hb' hd)) k
theorem Here.checkcastNull (X : Here p l e R s m args below meth c y bytes maxL ret Z h0 ws T cells slots h) {pc pc' : Nat} {Ls : Array Slot} {St : List Value} {i : Nat} (hd : decode bytes pc = .ok (.checkcast i, 3)) (hp : pc + 3 = pc') (k : Runs p e below (T.setTop (mkF m pc' Ls (.null :: St))) G) : Runs p e below (T.setTop (mkF m pc Ls (.null :: St))) G := by
  subst hp
  exact X.step (fun _ hx hb' _ _ _ S t q => S.checkcastNull hx (g := mkF m pc Ls (.null :: St)) rfl rfl (hb hb' hd) t q) k
theorem Here.instanceofNull (X : Here p l e R s m args below meth c y bytes maxL ret Z h0 ws T cells slots h) {pc pc' : Nat} {Ls : Array Slot} {St : List Value} {i : Nat} (hd : decode bytes pc = .ok (.instanceof i, 3)) (hp : pc + 3 = pc') (k : Runs p e below (T.setTop (mkF m pc' Ls (.int (0 : Int32) :: St))) G) : Runs p e below (T.setTop (mkF m pc Ls (.null :: St))) G := by
  subst hp
  exact X.step (fun _ hx hb' _ _ _ S t q => S.instanceofNull hx (g := mkF m pc Ls (.null :: St)) rfl rfl (hb hb' hd) t q) k
theorem Here.aaload (X : Here p l e R s m args below meth c y bytes maxL ret Z h0 ws T cells slots h) {pc pc' : Nat} {Ls : Array Slot} {St : List Value} {a : Addr} {cl : Cell} {ty : FieldType} {j : Int32} {v : Value} (A : Arr Z h a cl ty) (hty : ty.isReference = true) (hj : ¬ (j < 0 ∨ cl.slots.size ≤ j.toNatClampNeg)) (hv : cl.slots[j.toNatClampNeg]? = some v) (hd : decode bytes pc = .ok (.aaload, 1)) (hp : pc + 1 = pc')
    (k : Runs p e below (T.setTop (mkF m pc' Ls (v :: St))) G) : Runs p e below (T.setTop (mkF m pc Ls (.int j :: .ref a :: St))) G := by
  subst hp
  exact X.step (fun _ hx hb' hZ _ eT S t q => S.aaload hx (j := j) (v := v) (by rw [eT]; exact A.1) (State.isArrayOf_alike hZ.alike A.2.1) hty A.2.2 hj hv (g := mkF m pc Ls (.int j :: .ref a :: St)) rfl rfl (hb hb' hd) t q) k
theorem sta_keep0 {C n d : String} {v : Value} {h' : Heap} (F : Sta Z h C n d v) (K : Keep h h' []) : Sta Z h' C n d v := by
  obtain ⟨cf, i, k, f, st, cell, h1, h2, h3, h4, h5, r⟩ := F
  exact ⟨cf, i, k, f, st, cell, h1, h2, h3, h4, K.2.1 _ _ h5 nin0, r⟩
theorem arr_keep0 {a : Addr} {cl : Cell} {ty : FieldType} {h' : Heap} (F : Arr Z h a cl ty) (K : Keep h h' []) : Arr Z h' a cl ty := ⟨K.2.1 _ _ F.1 nin0, F.2⟩
theorem allWs0 {P : Addr → Prop} : ∀ x ∈ ([] : List Addr), P x := fun _ q => nomatch q
/-! arrays: the list of their values -/
/-- the array at a holds just these values -/
def Lst (Z : State) (h : Heap) (a : Addr) (ty : FieldType) (vs : List Value) : Prop := ∃ cl : Cell, Arr Z h a cl ty ∧ cl.slots = vs.toArray ∧ vs.length < 2 ^ 31
section L
variable {a b : Addr} {ty : FieldType} {vs : List Value} {h' : Heap} {sl : Nat} {v : Value} {ws' : List Addr} {C' : String}
theorem Lst.lt (F : Lst Z h a ty vs) : a < h.size := by obtain ⟨c, A, -⟩ := F; exact A.lt
theorem Lst.len (F : Lst Z h a ty vs) : vs.length < 2 ^ 31 := by obtain ⟨c, A, -, q⟩ := F; exact q
theorem Lst.ext (F : Lst Z h a ty vs) (E : Ext h h') : Lst Z h' a ty vs := by obtain ⟨c, A, r⟩ := F; exact ⟨c, A.ext E, r⟩
theorem Lst.other (F : Lst Z h b ty vs) (W : Wr h h' a sl v) (q : b ≠ a) : Lst Z h' b ty vs := by obtain ⟨c, A, r⟩ := F; exact ⟨c, A.other W q, r⟩
theorem Lst.keep (F : Lst Z h a ty vs) (K : Keep h h' ws') (q : a ∉ ws') : Lst Z h' a ty vs := by obtain ⟨c, A, r⟩ := F; exact ⟨c, ⟨K.2.1 a c A.1 q, A.2⟩, r⟩
theorem Lst.set (F : Lst Z h a ty vs) (W : Wr h h' a sl v) : Lst Z h' a ty (vs.set sl v) := by
  obtain ⟨c, A, r, q⟩ := F
  exact ⟨_, A.same W, by simp [Cell.setSlot, r], by simpa using q⟩
theorem Lst.ne (F : Lst Z h a ty vs) (wi : (Jvm.Cond.instantiable C' sl).before a0 Z = true) (G : Exa Z h b C') : b ≠ a := by obtain ⟨c, A, -⟩ := F; exact ne_arr G wi A
end L
/-- the place j lies inside a list -/
def Inb (j : Int32) (n : Nat) : Prop := 0 ≤ j.toInt ∧ j.toInt < (n : Int)
theorem nat_of_ins {j : Int32} {n : Nat} (q : Inb j n) : j.toNatClampNeg = j.toInt.toNat ∧ j.toInt.toNat < n ∧ ¬ j < 0 := by
  obtain ⟨q1, q2⟩ := q
  refine ⟨rfl, by omega, fun z => ?_⟩
  have : j.toInt < (0 : Int32).toInt := Int32.lt_iff_toInt_lt.mp z
  simp at this; omega
theorem in_of_ins {cl : Cell} {vs : List Value} {j : Int32} (r : cl.slots = vs.toArray) (q : Inb j vs.length) : ¬ (j < 0 ∨ cl.slots.size ≤ j.toNatClampNeg) := by
  obtain ⟨q1, q2, q3⟩ := nat_of_ins q
  rw [q1, r]; simp only [List.size_toArray]; intro z; rcases z with z | z
  · exact q3 z
  · omega
theorem at_of_ins {cl : Cell} {vs : List Value} {j : Int32} {v : Value} (r : cl.slots = vs.toArray) (hv : vs[j.toInt.toNat]? = some v) : cl.slots[j.toNatClampNeg]? = some v := by
  rw [r]; exact (by simpa using hv : vs.toArray[j.toInt.toNat]? = some v)
theorem Here.newarray (X : Here p l e R s m args below meth c y bytes maxL ret Z h0 ws T cells slots h) {pc pc' : Nat} {Ls : Array Slot} {St : List Value} {aty : ArrayType} {ty : FieldType} {n : Int32} (hty : newarray.typeOf aty = ty) (w : (Jvm.Cond.arrayClass ty).before a0 Z = true) (hd : decode bytes pc = .ok (.newarray aty, 2)) (hp : pc + 2 = pc') {cap : Nat} (hn : Inb n (cap + 1)) (hb8 : cap * 8 ≤ 536870912) (hc : cells + 1 ≤ R.cells) (hl : slots + cap ≤ R.slots)
    (k : ∀ T' h' b, Here p l e R s m args below meth c y bytes maxL ret Z h0 ws T' (cells + 1) (slots + cap) h' → b = h.size → Ext h h' → Lst Z h' b ty (List.replicate n.toInt.toNat (defaultValue ty)) → Runs p e below (T'.setTop (mkF m pc' Ls (.ref b :: St))) G) : Runs p e below (T.setTop (mkF m pc Ls (.int n :: St))) G := by
  subst hp; subst hty
  obtain ⟨n1, n2, n3⟩ := nat_of_ins hn
  obtain ⟨⟨x1, xh, x3, x4, x5, x6, x7, x8, xn⟩, x9, x10, locs, S, N⟩ := X
  have x2 := xh.wide
  obtain ⟨T', h', cA, S', e', E, A, st⟩ := newP S x1 x2 w x9 (g := mkF m pc Ls (.int n :: St)) rfl (hb x3 hd) rfl n3 (cap := cap) (by rw [n1]; omega) hb8 hc hl
  exact (k T' h' _ ⟨⟨x1, xh, x3, x4, x5, x6, x7, x8, xn⟩, e', x10.ext E, _, S', N⟩ rfl E ⟨_, A, by show Array.replicate n.toNatClampNeg _ = _; rw [n1, List.toArray_replicate], by rw [List.length_replicate]; omega⟩).of st
theorem Here.arraylength (X : Here p l e R s m args below meth c y bytes maxL ret Z h0 ws T cells slots h) {pc pc' : Nat} {Ls : Array Slot} {St : List Value} {a : Addr} {ty : FieldType} {vs : List Value} {n : Int32} (F : Lst Z h a ty vs) (hn : vs.length.toInt32 = n) (hd : decode bytes pc = .ok (.arraylength, 1)) (hp : pc + 1 = pc')
    (k : Runs p e below (T.setTop (mkF m pc' Ls (.int n :: St))) G) : Runs p e below (T.setTop (mkF m pc Ls (.ref a :: St))) G := by
  subst hp
  obtain ⟨cl, A, r, -⟩ := F
  exact X.step (fun _ hx hb' hZ _ eT S t q => S.arraylength hx (by rw [eT]; exact A.1) (State.isArrayOf_alike hZ.alike A.2.1) (g := mkF m pc Ls (.ref a :: St)) rfl rfl (hb hb' hd) t (by rw [r, List.size_toArray, hn]; exact q)) k
theorem Here.iaload (X : Here p l e R s m args below meth c y bytes maxL ret Z h0 ws T cells slots h) {pc pc' : Nat} {Ls : Array Slot} {St : List Value} {a : Addr} {vs : List Value} {j : Int32} {v : Value} (F : Lst Z h a .int vs) (hj : Inb j vs.length) (hv : vs[j.toInt.toNat]? = some v) (hd : decode bytes pc = .ok (.iaload, 1)) (hp : pc + 1 = pc')
    (k : Runs p e below (T.setTop (mkF m pc' Ls (v :: St))) G) : Runs p e below (T.setTop (mkF m pc Ls (.int j :: .ref a :: St))) G := by
  subst hp
  obtain ⟨cl, A, r, -⟩ := F
  exact X.step (fun _ hx hb' hZ _ eT S t q => S.iaload hx (j := j) (v := v) (by rw [eT]; exact A.1) (State.isArrayOf_alike hZ.alike A.2.1) A.2.2 (in_of_ins r hj) (at_of_ins r hv) (g := mkF m pc Ls (.int j :: .ref a :: St)) rfl rfl (hb hb' hd) t q) k
theorem Here.laload (X : Here p l e R s m args below meth c y bytes maxL ret Z h0 ws T cells slots h) {pc pc' : Nat} {Ls : Array Slot} {St : List Value} {a : Addr} {vs : List Value} {j : Int32} {v : Value} (F : Lst Z h a .long vs) (hj : Inb j vs.length) (hv : vs[j.toInt.toNat]? = some v) (hd : decode bytes pc = .ok (.laload, 1)) (hp : pc + 1 = pc')
    (k : Runs p e below (T.setTop (mkF m pc' Ls (v :: St))) G) : Runs p e below (T.setTop (mkF m pc Ls (.int j :: .ref a :: St))) G := by
  subst hp
  obtain ⟨cl, A, r, -⟩ := F
  exact X.step (fun _ hx hb' hZ _ eT S t q => S.laload hx (j := j) (v := v) (by rw [eT]; exact A.1) (State.isArrayOf_alike hZ.alike A.2.1) A.2.2 (in_of_ins r hj) (at_of_ins r hv) (g := mkF m pc Ls (.int j :: .ref a :: St)) rfl rfl (hb hb' hd) t q) k
theorem Here.caload (X : Here p l e R s m args below meth c y bytes maxL ret Z h0 ws T cells slots h) {pc pc' : Nat} {Ls : Array Slot} {St : List Value} {a : Addr} {vs : List Value} {j : Int32} {v : Value} (F : Lst Z h a .char vs) (hj : Inb j vs.length) (hv : vs[j.toInt.toNat]? = some v) (hd : decode bytes pc = .ok (.caload, 1)) (hp : pc + 1 = pc')
    (k : Runs p e below (T.setTop (mkF m pc' Ls (v :: St))) G) : Runs p e below (T.setTop (mkF m pc Ls (.int j :: .ref a :: St))) G := by
  subst hp
  obtain ⟨cl, A, r, -⟩ := F
  exact X.step (fun _ hx hb' hZ _ eT S t q => S.caload hx (j := j) (v := v) (by rw [eT]; exact A.1) (State.isArrayOf_alike hZ.alike A.2.1) A.2.2 (in_of_ins r hj) (at_of_ins r hv) (g := mkF m pc Ls (.int j :: .ref a :: St)) rfl rfl (hb hb' hd) t q) k
theorem Here.baload (X : Here p l e R s m args below meth c y bytes maxL ret Z h0 ws T cells slots h) {pc pc' : Nat} {Ls : Array Slot} {St : List Value} {a : Addr} {vs : List Value} {j : Int32} {v : Value} (F : Lst Z h a .byte vs) (hj : Inb j vs.length) (hv : vs[j.toInt.toNat]? = some v) (hd : decode bytes pc = .ok (.baload, 1)) (hp : pc + 1 = pc')
    (k : Runs p e below (T.setTop (mkF m pc' Ls (v :: St))) G) : Runs p e below (T.setTop (mkF m pc Ls (.int j :: .ref a :: St))) G := by
  subst hp
  obtain ⟨cl, A, r, -⟩ := F
  exact X.step (fun _ hx hb' hZ _ eT S t q => S.baloadBytes hx (j := j) (v := v) (by rw [eT]; exact A.1) (State.isArrayOf_alike hZ.alike A.2.1) A.2.2 (in_of_ins r hj) (at_of_ins r hv) (g := mkF m pc Ls (.int j :: .ref a :: St)) rfl rfl (hb hb' hd) t q) k
theorem Here.iastore (X : Here p l e R s m args below meth c y bytes maxL ret Z h0 ws T cells slots h) {pc pc' : Nat} {Ls : Array Slot} {St : List Value} {a : Addr} {vs : List Value} {j : Int32} {x : Int32} (F : Lst Z h a .int vs) (hj : Inb j vs.length) (hd : decode bytes pc = .ok (.iastore, 1)) (hp : pc + 1 = pc') (hws : a ∈ ws ∨ h0.size ≤ a)
    (k : ∀ T' h', Here p l e R s m args below meth c y bytes maxL ret Z h0 ws T' cells slots h' → Wr h h' a j.toInt.toNat (.int x) → Runs p e below (T'.setTop (mkF m pc' Ls St)) G) : Runs p e below (T.setTop (mkF m pc Ls (.int x :: .int j :: .ref a :: St))) G := by
  subst hp
  obtain ⟨cl, A, r, -⟩ := F
  exact X.stepW hws (fun _ hx hb' _ hZ _ eT S => stI S hx hZ eT A (j := j) (in_of_ins r hj) (g := mkF m pc Ls (.int x :: .int j :: .ref a :: St)) rfl rfl (hb hb' hd)) k
theorem Here.lastore (X : Here p l e R s m args below meth c y bytes maxL ret Z h0 ws T cells slots h) {pc pc' : Nat} {Ls : Array Slot} {St : List Value} {a : Addr} {vs : List Value} {j : Int32} {x : Int64} (F : Lst Z h a .long vs) (hj : Inb j vs.length) (hd : decode bytes pc = .ok (.lastore, 1)) (hp : pc + 1 = pc') (hws : a ∈ ws ∨ h0.size ≤ a)
    (k : ∀ T' h', Here p l e R s m args below meth c y bytes maxL ret Z h0 ws T' cells slots h' → Wr h h' a j.toInt.toNat (.long x) → Runs p e below (T'.setTop (mkF m pc' Ls St)) G) : Runs p e below (T.setTop (mkF m pc Ls (.long x :: .int j :: .ref a :: St))) G := by
  subst hp
  obtain ⟨cl, A, r, -⟩ := F
  exact X.stepW hws (fun _ hx hb' _ hZ _ eT S => stJ S hx hZ eT A (j := j) (in_of_ins r hj) (g := mkF m pc Ls (.long x :: .int j :: .ref a :: St)) rfl rfl (hb hb' hd)) k
theorem Here.castore (X : Here p l e R s m args below meth c y bytes maxL ret Z h0 ws T cells slots h) {pc pc' : Nat} {Ls : Array Slot} {St : List Value} {a : Addr} {vs : List Value} {j : Int32} {x : Int32} (F : Lst Z h a .char vs) (hj : Inb j vs.length) (hd : decode bytes pc = .ok (.castore, 1)) (hp : pc + 1 = pc') (hws : a ∈ ws ∨ h0.size ≤ a)
    (k : ∀ T' h', Here p l e R s m args below meth c y bytes maxL ret Z h0 ws T' cells slots h' → Wr h h' a j.toInt.toNat (.int (nar .char x)) → Runs p e below (T'.setTop (mkF m pc' Ls St)) G) : Runs p e below (T.setTop (mkF m pc Ls (.int x :: .int j :: .ref a :: St))) G := by
  subst hp
  obtain ⟨cl, A, r, -⟩ := F
  exact X.stepW hws (fun _ hx hb' _ hZ _ eT S => stC S hx hZ eT A (j := j) (in_of_ins r hj) (g := mkF m pc Ls (.int x :: .int j :: .ref a :: St)) rfl rfl (hb hb' hd)) k
theorem Here.bastore (X : Here p l e R s m args below meth c y bytes maxL ret Z h0 ws T cells slots h) {pc pc' : Nat} {Ls : Array Slot} {St : List Value} {a : Addr} {vs : List Value} {j : Int32} {x : Int32} (F : Lst Z h a .byte vs) (hj : Inb j vs.length) (hd : decode bytes pc = .ok (.bastore, 1)) (hp : pc + 1 = pc') (hws : a ∈ ws ∨ h0.size ≤ a)
    (k : ∀ T' h', Here p l e R s m args below meth c y bytes maxL ret Z h0 ws T' cells slots h' → Wr h h' a j.toInt.toNat (.int x.toInt8.toInt32) → Runs p e below (T'.setTop (mkF m pc' Ls St)) G) : Runs p e below (T.setTop (mkF m pc Ls (.int x :: .int j :: .ref a :: St))) G := by
  subst hp
  obtain ⟨cl, A, r, -⟩ := F
  exact X.stepW hws (fun _ hx hb' _ hZ _ eT S => stB S hx hZ eT A (j := j) (in_of_ins r hj) (g := mkF m pc Ls (.int x :: .int j :: .ref a :: St)) rfl rfl (hb hb' hd)) k
/-! calls by a contract -/
variable {y' : MethodName} {bytes' : ByteArray} {maxL' : Nat} {ret' : Option FieldType} {rm : Room} {as : Array Value} {ws' : List Addr} {Q : Option Value → Heap → Prop}
theorem backCt (X : Here p l e R s m args below meth c y bytes maxL ret Z h0 ws T cells slots h) {len W : Nat} (hM : Ct l Z y' bytes' maxL' ret' rm as h ws' Q) (wc : (Jvm.Cond.code y' bytes' maxL' ret').before a0 Z = true) (wz : (Jvm.Cond.initialized y'.cls).before a0 Z = true) (hf : rm.frames + 1 ≤ R.frames) (hl : W + (maxL' + 11) + rm.locals ≤ R.locals) :
    Back l R p e below s args y' len W (fun A a => a = as ∧ A.U.heap = h ∧ A.cells + rm.cells ≤ R.cells ∧ A.slots + rm.slots ≤ R.slots)
      (fun A _ v B => ∃ L, (Q v B.U.heap ∧ Keep h B.U.heap ws' ∧ Wrote h ws' L) ∧ B.locs = A.locs ++ L ∧ B.cells = A.cells + rm.cells ∧ B.slots = A.slots + rm.slots) :=
  Back.of_free (bytes := bytes') (maxL := maxL') (ret := ret') (E := fun _ _ o t L k n => k = rm.cells ∧ n = rm.slots ∧ ∃ v, o = .returned v ∧ (Q v t.heap ∧ Keep h t.heap ws' ∧ Wrote h ws' L)) (hM []) hf hl
    (fun m meth c A a Y hp => have hU : Z.Warmed39 A.U.vm := (State.WarmedH.trans X.hZ Y.warmed).wide
      ⟨by show (Cond.and _ .tt).before a A.U = true; rw [Cond.before_and, mv hU wc]; rfl, mv hU wc, mv hU wz, hp.2.2.1, hp.2.2.2⟩)
    (fun m meth c A a g mk Y hp => ⟨hp.1, State.WarmedH.trans X.hZ Y.warmed, hp.2.1⟩) (fun _ _ _ _ _ _ _ _ _ => trivial)
    (fun _ _ _ _ ⟨v, L, h1, h2, h3⟩ => ⟨L, _, _, h3, rfl, rfl, v, h1, h2⟩)
    (fun m meth c A a g mk v t L k n Y hp _ _ ⟨e1, e2, v', e3, e4⟩ => by cases e3; subst e1 e2; exact ⟨L, e4, rfl, rfl, rfl⟩)
theorem Here.back (X : Here p l e R s m args below meth c y bytes maxL ret Z h0 ws T cells slots h) {U : State} {locs : List Loc} {h' : Heap} {L : List Loc} (N : Wrote h0 ws locs) (hU : Stand p l e R s m args below meth c U (locs ++ L) (cells + rm.cells) (slots + rm.slots)) (e' : U.heap = h') (K : Keep h h' ws') (N' : Wrote h ws' L) (hws : ∀ x ∈ ws', x ∈ ws ∨ h0.size ≤ x) :
    Here p l e R s m args below meth c y bytes maxL ret Z h0 ws U (cells + rm.cells) (slots + rm.slots) h' :=
  ⟨X.1, e', X.keep.trans K hws, _, hU, N.app N' X.size hws⟩
theorem Here.callS (X : Here p l e R s m args below meth c y bytes maxL ret Z h0 ws T cells slots h) {pc pc' : Nat} {Ls : Array Slot} {St : List Value} {i : Nat} {sig : MethodDescriptor} {argsL rest : List Value} (hM : Ct l Z y' bytes' maxL' ret' rm as h ws' Q) (w1 : (Jvm.Cond.methodLink y.cls i y').before a0 Z = true) (w2 : (Jvm.Cond.static y').before a0 Z = true) (w3 : (Jvm.Cond.initialized y'.cls).before a0 Z = true) (w4 : (Jvm.Cond.code y' bytes' maxL' ret').before a0 Z = true)
    (hy : y'.cls ≠ "java/lang/invoke/MethodHandle" ∧ y'.cls ≠ "java/lang/invoke/VarHandle") (hsig : parseMethodDescriptor y'.desc = some sig) (hlen : argsL.length = sig.parameters.length) (has : argsL.toArray = as) (hst : St = argsL.reverse ++ rest) (hsz : Ls.size = maxL) (hd : decode bytes pc = .ok (.invokestatic i, 3)) (hp : pc + 3 = pc')
    (hf : rm.frames + 1 ≤ R.frames) {W : Nat} (hW : (rest.map fun v => v.category).sum = W) (hl : W + (maxL' + 11) + rm.locals ≤ R.locals) (hc : cells + rm.cells ≤ R.cells) (hs : slots + rm.slots ≤ R.slots) (hws : ∀ x ∈ ws', x ∈ ws ∨ h0.size ≤ x)
    (k : ∀ T' h' v, Here p l e R s m args below meth c y bytes maxL ret Z h0 ws T' (cells + rm.cells) (slots + rm.slots) h' → Keep h h' ws' → Q v h' → Runs p e below (T'.setTop (mkF m pc' Ls (v.toList ++ rest))) G) : Runs p e below (T.setTop (mkF m pc Ls St)) G := by
  subst hp hst
  have X' := X
  obtain ⟨⟨x1, xh, x3, x4, x5, x6, x7, x8, xn⟩, x9, x10, locs, S, N⟩ := X
  have x2 := xh.wide
  obtain ⟨v, vm₁, ⟨U, lo, ce, sl⟩, -, SU, ⟨Lc, hQ, z1, z2, z3⟩, st⟩ := Jvm.LawKit.callS S x1 (y := y') x5 (mvT x2 w1) (mvT x2 w2) (mvT x2 w3) (mvT x2 w4) hy (backCt X' hM w4 w3 hf hl) (g := mkF m pc Ls (argsL.reverse ++ rest)) rfl (hsz.trans x4.symm) (argsL := argsL) (rest := rest) (lenOf hsig hlen) rfl (by show 2 * 0 + _ ≤ _; rw [hW]; omega) (hb x3 hd) (fun _ _ => ⟨has, x9, hc, hs⟩)
  dsimp only [Pt.U, Pt.locs, Pt.cells, Pt.slots] at SU z1 z2 z3 st hQ
  subst z1 z2 z3
  exact (k U _ v (X'.back N SU rfl hQ.2.1 hQ.2.2 hws) hQ.2.1 hQ.1).of st
theorem Here.special (X : Here p l e R s m args below meth c y bytes maxL ret Z h0 ws T cells slots h) {pc pc' : Nat} {Ls : Array Slot} {St : List Value} {i : Nat} {sig : MethodDescriptor} {a : Addr} {argsL rest : List Value} (hM : Ct l Z y' bytes' maxL' none rm as h ws' Q) (hin : y'.name = "<init>") (w1 : (Jvm.Cond.methodLink y.cls i y').before a0 Z = true) (w2 : (Jvm.Cond.instanceMethod y').before a0 Z = true) (w3 : (Jvm.Cond.initialized y'.cls).before a0 Z = true) (w4 : (Jvm.Cond.code y' bytes' maxL' none).before a0 Z = true)
    (hy : y'.cls ≠ "java/lang/invoke/MethodHandle" ∧ y'.cls ≠ "java/lang/invoke/VarHandle") (hsig : parseMethodDescriptor y'.desc = some sig) (hlen : argsL.length = sig.parameters.length) (has : (.ref a :: argsL).toArray = as) (hst : St = argsL.reverse ++ .ref a :: rest) (hsz : Ls.size = maxL) (hd : decode bytes pc = .ok (.invokespecial i, 3)) (hp : pc + 3 = pc')
    (hf : rm.frames + 1 ≤ R.frames) {W : Nat} (hW : (rest.map fun v => v.category).sum = W) (hl : W + (maxL' + 11) + rm.locals ≤ R.locals) (hc : cells + rm.cells ≤ R.cells) (hs : slots + rm.slots ≤ R.slots) (hws : ∀ x ∈ ws', x ∈ ws ∨ h0.size ≤ x)
    (k : ∀ T' h' v, Here p l e R s m args below meth c y bytes maxL ret Z h0 ws T' (cells + rm.cells) (slots + rm.slots) h' → Keep h h' ws' → Q v h' → Runs p e below (T'.setTop (mkF m pc' Ls (v.toList ++ rest))) G) : Runs p e below (T.setTop (mkF m pc Ls St)) G := by
  subst hp hst
  have X' := X
  obtain ⟨⟨x1, xh, x3, x4, x5, x6, x7, x8, xn⟩, x9, x10, locs, S, N⟩ := X
  have x2 := xh.wide
  obtain ⟨v, vm₁, ⟨U, lo, ce, sl⟩, -, SU, ⟨Lc, hQ, z1, z2, z3⟩, st⟩ := S.specialBack x1 (y := y') hin x5 (mvT x2 w1) (mvT x2 w2) (mvT x2 w4) hy (backCt X' hM w4 w3 hf hl) (g := mkF m pc Ls (argsL.reverse ++ .ref a :: rest)) rfl (hsz.trans x4.symm) (Steps.refl _) (a := a) (argsL := argsL) (rest := rest) (lenOf hsig hlen) rfl (by show 2 * 0 + _ ≤ _; rw [hW]; omega) (hb x3 hd) (fun _ _ => ⟨has, x9, hc, hs⟩)
  dsimp only [Pt.U, Pt.locs, Pt.cells, Pt.slots] at SU z1 z2 z3 st hQ
  subst z1 z2 z3
  exact (k U _ v (X'.back N SU rfl hQ.2.1 hQ.2.2 hws) hQ.2.1 hQ.1).via st
theorem Here.virtual (X : Here p l e R s m args below meth c y bytes maxL ret Z h0 ws T cells slots h) {pc pc' : Nat} {Ls : Array Slot} {St : List Value} {i : Nat} {yr : MethodName} {C : String} {sig : MethodDescriptor} {a : Addr} {argsL rest : List Value} (hM : Ct l Z y' bytes' maxL' ret' rm as h ws' Q) (w1 : (Jvm.Cond.methodLink y.cls i yr).before a0 Z = true) (w5 : (Jvm.Cond.declares yr).before a0 Z = true) (nf : ∀ args, (Jvm.Cond.selects C yr y').before args s = true → NotFace s yr) (w6 : (Jvm.Cond.selects C yr y').before a0 Z = true) (w2 : (Jvm.Cond.instanceMethod y').before a0 Z = true) (w3 : (Jvm.Cond.initialized y'.cls).before a0 Z = true) (w4 : (Jvm.Cond.code y' bytes' maxL' ret').before a0 Z = true)
    (hy : yr.cls ≠ "java/lang/invoke/MethodHandle" ∧ yr.cls ≠ "java/lang/invoke/VarHandle") (E : Exa Z h a C) (hsig : parseMethodDescriptor yr.desc = some sig) (hlen : argsL.length = sig.parameters.length) (has : (.ref a :: argsL).toArray = as) (hst : St = argsL.reverse ++ .ref a :: rest) (hsz : Ls.size = maxL) (hd : decode bytes pc = .ok (.invokevirtual i, 3)) (hp : pc + 3 = pc')
    (hf : rm.frames + 1 ≤ R.frames) {W : Nat} (hW : (rest.map fun v => v.category).sum = W) (hl : W + (maxL' + 11) + rm.locals ≤ R.locals) (hc : cells + rm.cells ≤ R.cells) (hs : slots + rm.slots ≤ R.slots) (hws : ∀ x ∈ ws', x ∈ ws ∨ h0.size ≤ x)
    (k : ∀ T' h' v, Here p l e R s m args below meth c y bytes maxL ret Z h0 ws T' (cells + rm.cells) (slots + rm.slots) h' → Keep h h' ws' → Q v h' → Runs p e below (T'.setTop (mkF m pc' Ls (v.toList ++ rest))) G) : Runs p e below (T.setTop (mkF m pc Ls St)) G := by
  subst hp hst
  have X' := X
  obtain ⟨⟨x1, xh, x3, x4, x5, x6, x7, x8, xn⟩, x9, x10, locs, S, N⟩ := X
  have x2 := xh.wide
  obtain ⟨cq, kq, q1, q2, q3⟩ := isOf (T := T) x2 x9 E
  obtain ⟨v, vm₁, ⟨U, lo, ce, sl⟩, -, SU, ⟨Lc, hQ, z1, z2, z3⟩, st⟩ := S.virtualBack x1 (y := yr) (z := y') x5 (mvT x2 w1) (mvT x2 w5) (nf args (mvT x2 w6)) (mvT x2 w6) (mvT x2 w2) hy (backCt X' hM w4 w3 hf hl) q1 q3 (g := mkF m pc Ls (argsL.reverse ++ .ref a :: rest)) rfl (hsz.trans x4.symm) (Steps.refl _) (argsL := argsL) (rest := rest) (lenOf hsig hlen) rfl (by show 2 * 0 + _ ≤ _; rw [hW]; omega) (hb x3 hd) (fun _ _ => ⟨has, x9, hc, hs⟩)
  dsimp only [Pt.U, Pt.locs, Pt.cells, Pt.slots] at SU z1 z2 z3 st hQ
  subst z1 z2 z3
  exact (k U _ v (X'.back N SU rfl hQ.2.1 hQ.2.2 hws) hQ.2.1 hQ.1).via st
theorem Here.priv (X : Here p l e R s m args below meth c y bytes maxL ret Z h0 ws T cells slots h) {pc pc' : Nat} {Ls : Array Slot} {St : List Value} {i : Nat} {C : String} {sig : MethodDescriptor} {a : Addr} {argsL rest : List Value} (hM : Ct l Z y' bytes' maxL' ret' rm as h ws' Q) (w1 : (Jvm.Cond.methodLink y.cls i y').before a0 Z = true) (w6 : (Jvm.Cond.selects y'.cls y' y').before a0 Z = true) (w7 : (Jvm.Cond.privateMethod y').before a0 Z = true) (w2 : (Jvm.Cond.instanceMethod y').before a0 Z = true) (w3 : (Jvm.Cond.initialized y'.cls).before a0 Z = true) (w4 : (Jvm.Cond.code y' bytes' maxL' ret').before a0 Z = true)
    (hy : y'.cls ≠ "java/lang/invoke/MethodHandle" ∧ y'.cls ≠ "java/lang/invoke/VarHandle") (E : Exa Z h a C) (hsig : parseMethodDescriptor y'.desc = some sig) (hlen : argsL.length = sig.parameters.length) (has : (.ref a :: argsL).toArray = as) (hst : St = argsL.reverse ++ .ref a :: rest) (hsz : Ls.size = maxL) (hd : decode bytes pc = .ok (.invokevirtual i, 3)) (hp : pc + 3 = pc')
    (hf : rm.frames + 1 ≤ R.frames) {W : Nat} (hW : (rest.map fun v => v.category).sum = W) (hl : W + (maxL' + 11) + rm.locals ≤ R.locals) (hc : cells + rm.cells ≤ R.cells) (hs : slots + rm.slots ≤ R.slots) (hws : ∀ x ∈ ws', x ∈ ws ∨ h0.size ≤ x)
    (k : ∀ T' h' v, Here p l e R s m args below meth c y bytes maxL ret Z h0 ws T' (cells + rm.cells) (slots + rm.slots) h' → Keep h h' ws' → Q v h' → Runs p e below (T'.setTop (mkF m pc' Ls (v.toList ++ rest))) G) : Runs p e below (T.setTop (mkF m pc Ls St)) G := by
  subst hp hst
  have X' := X
  obtain ⟨⟨x1, xh, x3, x4, x5, x6, x7, x8, xn⟩, x9, x10, locs, S, N⟩ := X
  have x2 := xh.wide
  obtain ⟨cq, q1, q2⟩ := E.cell
  obtain ⟨v, vm₁, ⟨U, lo, ce, sl⟩, -, SU, ⟨Lc, hQ, z1, z2, z3⟩, st⟩ := S.privateBack x1 (y := y') x5 (mvT x2 w1) (mvT x2 w2) (mvT x2 w6) (Cond.privateMethod_at (mvP x2 w7 (args := #[]))) (mvT x2 w4) hy (backCt X' hM w4 w3 hf hl) (g := mkF m pc Ls (argsL.reverse ++ .ref a :: rest)) rfl (hsz.trans x4.symm) (Steps.refl _) (a := a) (by rw [x9]; exact q1) q2 (argsL := argsL) (rest := rest) (lenOf hsig hlen) rfl (by show 2 * 0 + _ ≤ _; rw [hW]; omega) (hb x3 hd) (fun _ _ => ⟨has, x9, hc, hs⟩)
  dsimp only [Pt.U, Pt.locs, Pt.cells, Pt.slots] at SU z1 z2 z3 st hQ
  subst z1 z2 z3
  exact (k U _ v (X'.back N SU rfl hQ.2.1 hQ.2.2 hws) hQ.2.1 hQ.1).via st

/-! the returns -/
theorem Here.leave (X : Here p l e R s m args below meth c y bytes maxL ret Z h0 ws T cells slots h) {Q : Option Value → Heap → Prop} {rm : Room} {g : JFrame} {v : Option Value} (hv : ret = none → v = none) (hc : cells ≤ rm.cells) (hs : slots ≤ rm.slots) (hq : Q v h)
    (st : ∀ locs fs, p.tables.exec = Jvm.exec → c.code = bytes → meth.sig.returnType = ret → Stand p l e R s m args below meth c T locs cells slots → (∀ (f : JFrame) (acts : List Action), f.method = m → f.locked = none → f.entered = [] → (doReturn e (T.setTop f) acts v).1 = T.setFrames fs) → Steps p.tables e below (T.setTop g) (T.setFrames fs)) :
    Runs p e below (T.setTop g) (Out s h0 ws rm Q) := by
  obtain ⟨⟨x1, xh, x3, x4, x5, x6, x7, x8, xn⟩, x9, x10, locs, S, N⟩ := X
  have x2 := xh.wide
  obtain ⟨fs, hr, hrun, hended, hW, hsame⟩ := S.leave (v := v) (fun h => hv (x7 ▸ h)) x8
  refine ⟨_, _, st locs fs x1 x3 x7 S hr, hrun, hended, v, locs, rfl, ⟨?_, ?_, N⟩, ⟨_, rfl⟩, hW, hsame.mono hc hs⟩
  · show Q v T.heap; rw [x9]; exact hq
  · show Keep h0 T.heap ws; rw [x9]; exact x10
theorem Here.ireturn (X : Here p l e R s m args below meth c y bytes maxL ret Z h0 ws T cells slots h) {Q : Option Value → Heap → Prop} {rm : Room} {pc : Nat} {Ls : Array Slot} {St : List Value} {z : Int32} (hr : ret = some .int) (hd : decode bytes pc = .ok (.ireturn, 1)) (hc : cells ≤ rm.cells) (hs : slots ≤ rm.slots) (hq : Q (some (.int z)) h) : Runs p e below (T.setTop (mkF m pc Ls (.int z :: St))) (Out s h0 ws rm Q) := by
  subst hr
  exact X.leave (fun h => nomatch h) hc hs hq fun _ _ hx hb' hret S hl => retOut S hx hret rfl (Or.inl ⟨rfl, Or.inl rfl, _, rfl⟩) (hb hb' hd) hl
theorem Here.zreturn (X : Here p l e R s m args below meth c y bytes maxL ret Z h0 ws T cells slots h) {Q : Option Value → Heap → Prop} {rm : Room} {pc : Nat} {Ls : Array Slot} {St : List Value} {z z' : Int32} {t : FieldType} (hr : ret = some t) (ht : t = .boolean ∨ t = .byte ∨ t = .char ∨ t = .short) (hd : decode bytes pc = .ok (.ireturn, 1)) (hz : nar t z = z') (hc : cells ≤ rm.cells) (hs : slots ≤ rm.slots) (hq : Q (some (.int z')) h) : Runs p e below (T.setTop (mkF m pc Ls (.int z :: St))) (Out s h0 ws rm Q) := by
  subst hr hz
  exact X.leave (fun h => nomatch h) hc hs hq fun _ _ hx hb' hret S hl => retN S hx hret ht (hb hb' hd) hl
theorem Here.lreturn (X : Here p l e R s m args below meth c y bytes maxL ret Z h0 ws T cells slots h) {Q : Option Value → Heap → Prop} {rm : Room} {pc : Nat} {Ls : Array Slot} {St : List Value} {z : Int64} (hr : ret = some .long) (hd : decode bytes pc = .ok (.lreturn, 1)) (hc : cells ≤ rm.cells) (hs : slots ≤ rm.slots) (hq : Q (some (.long z)) h) : Runs p e below (T.setTop (mkF m pc Ls (.long z :: St))) (Out s h0 ws rm Q) := by
  subst hr
  exact X.leave (fun h => nomatch h) hc hs hq fun _ _ hx hb' hret S hl => retOut S hx hret rfl (Or.inr (Or.inl ⟨rfl, rfl, _, rfl⟩)) (hb hb' hd) hl
theorem Here.areturn (X : Here p l e R s m args below meth c y bytes maxL ret Z h0 ws T cells slots h) {Q : Option Value → Heap → Prop} {rm : Room} {pc : Nat} {Ls : Array Slot} {St : List Value} {v : Value} {t : FieldType} (hr : ret = some t) (ht : t.isReference = true) (hv : v.isRef = true) (hn : narrow t v = v) (hd : decode bytes pc = .ok (.areturn, 1)) (hc : cells ≤ rm.cells) (hs : slots ≤ rm.slots) (hq : Q (some v) h) : Runs p e below (T.setTop (mkF m pc Ls (v :: St))) (Out s h0 ws rm Q) := by
  subst hr
  exact X.leave (fun h => nomatch h) hc hs hq fun _ _ hx hb' hret S hl => retOut S hx hret hn (Or.inr (Or.inr (Or.inr (Or.inr ⟨rfl, ht, hv⟩)))) (hb hb' hd) hl
theorem Here.vreturn (X : Here p l e R s m args below meth c y bytes maxL ret Z h0 ws T cells slots h) {Q : Option Value → Heap → Prop} {rm : Room} {pc : Nat} {Ls : Array Slot} (hr : ret = none) (hd : decode bytes pc = .ok (.return_, 1)) (hc : cells ≤ rm.cells) (hs : slots ≤ rm.slots) (hq : Q none h) : Runs p e below (T.setTop (mkF m pc Ls [])) (Out s h0 ws rm Q) := by
  subst hr
  exact X.leave (fun _ => rfl) hc hs hq fun _ _ hx hb' hret S hl => S.returnOut hx hret (hb hb' hd) hl
/-! a lambda's site (over kit/LamKit) -/
open Jvm.LamKit
/-- the function object at a holds vs -/
def Fn (h : Heap) (a : Addr) (cK : ClassId) (vs : Array Value) : Prop := h[a]? = some { cls := cK, slots := vs, vm := .none }
theorem Fn.ext {h h' : Heap} {a : Addr} {cK : ClassId} {vs : Array Value} (F : Fn h a cK vs) (E : Ext h h') : Fn h' a cK vs := E.2 _ _ F
theorem Fn.keep {h h' : Heap} {a : Addr} {cK : ClassId} {vs : Array Value} {ws : List Addr} (F : Fn h a cK vs) (K : Keep h h' ws) (n : a ∉ ws) : Fn h' a cK vs := K.2.1 _ _ F n
theorem Fn.lt {h : Heap} {a : Addr} {cK : ClassId} {vs : Array Value} (F : Fn h a cK vs) : a < h.size := (Array.getElem?_eq_some_iff.mp F).1
theorem Fn.other {h h' : Heap} {a b : Addr} {cK : ClassId} {vs : Array Value} {i : Nat} {v : Value} (F : Fn h a cK vs) (W : Wr h h' b i v) (n : a ≠ b) : Fn h' a cK vs := by
  obtain ⟨cell, -, -, -, e⟩ := W
  show h'[a]? = _
  rw [e, Array.getElem?_setIfInBounds, if_neg (Ne.symm n)]; exact F
theorem made_at {Z : State} {vm : Vm} {s : State} {host : String} {σ : Lambda.Shape} {cK : ClassId} (hZ : Z.WarmedH s.vm) (hm : Jvm.LamKit.Made Z host σ cK) : Jvm.LamKit.Made s host σ cK := by
  obtain ⟨d, dk, h1, h2, h3, h4⟩ := hm
  obtain ⟨dk', q1, q2⟩ := hZ.alike.2.2 _ _ h1
  refine ⟨d, dk', q1, by rw [q2]; exact h2, Lambda.isMade_warmer hZ h3, ?_⟩
  have hA := hZ.alike
  simp only [State.lambdaCallable, hA.findClass, hA.assignable, hA.superclasses, hA.declaredIn] at h4 ⊢
  exact h4
/-- 'invokedynamic' at a site whose word stands at the case's start -/
theorem own_site (X : Stand p l e R s m args below meth c T locs cells slots) (hexec : p.tables.exec = Jvm.exec) (hZ : Z.WarmedH s.vm) {x : MethodName} {pc index fi : Nat} {σ : Lambda.Shape} (hnamed : s.methodNamed? x = some m)
    (hsite : (Cond.lambdaSite x pc index σ).before a0 Z = true) (hcap : σ.captured ≠ []) (hok : capOK σ x.cls fi 0 = true) (hO : (Cond.instantiable "java/lang/Object" 0).before a0 Z = true)
    {g : JFrame} (hg : g.method = m) (hpc : g.pc = pc) (hsize : g.locals.size = c.maxLocals) (hdg : decode c.code g.pc = .ok (.invokedynamic index, 5))
    {vals rest : List Value} (hlen : vals.length = σ.captured.length) (hstack : g.stack = vals.reverse ++ rest) (hfit : ∀ (i : Nat) t v, σ.captured[i]? = some t → vals[i]? = some v → narrow t v = v ∧ fits t v = true)
    (hwords : 2 * g.monitorRoom + (g.stack.map fun v => v.category).sum + 3072 ≤ R.locals) (hcells : cells + 1 ≤ R.cells) (hslots : slots + vals.length ≤ R.slots) :
    ∃ cK : ClassId, Jvm.LamKit.Made Z x.cls σ cK ∧ Stand p l e R s m args below meth c (T.pushCell { cls := cK, slots := vals.toArray, vm := .none }) locs (cells + 1) (slots + vals.length) ∧
      ∀ target, Steps p.tables e below ((T.pushCell { cls := cK, slots := vals.toArray, vm := .none }).setTop { g with pc := g.pc + 5, stack := .ref T.heap.size :: rest }) target → Steps p.tables e below (T.setTop g) target := by
  obtain ⟨cK, one, hat⟩ := Cond.lambdaSite_spec hsite
  obtain ⟨mD, kD, cfD, i0, p0, lk, hmD, hkD, hcfD, hsh, -, hfind, hmade, hcan, hl⟩ := State.lambdaAt?_spec hat
  have hq : s.methodNamed? x = some mD := by
    have q := State.methodNamed?_setVm (s := Z) hZ.alike x
    rw [hmD] at q
    exact q
  cases hnamed.symm.trans hq
  obtain ⟨kD', hkD', hnameD⟩ := className_of_methodNamed hmD
  cases hkD.symm.trans hkD'
  rcases hl with ⟨a, cell, -, -, hc0, -⟩ | ⟨rfl, -, -⟩
  · exact absurd hc0 hcap
  · obtain ⟨kS, hkS, heS⟩ := hZ.alike.2.2 _ _ hkD
    obtain ⟨b, nt, desc, site, h1, h2, h3, h4⟩ := Lambda.shapeOf?_site hsh
    obtain ⟨kc, f, hkc, hkind, hty, -⟩ := made_cap hok hkS (by rw [heS]; exact hnameD) (Lambda.isMade_warmer hZ hmade) (noFields hO hZ)
    have hz : ((kc.instanceTypes.toList.zip vals).map fun (t, v) => narrow t v) = vals := by rw [hty]; exact zip_narrow _ _ hlen fun i t v a b => (hfit i t v a b).1
    have hw : e.platform.lambdaLinkWords = 3072 := by rw [X.admits.platform]
    have q := X.lambdaMakes hexec hg hsize hdg (vals := vals) (rest := rest) hkS (by rw [hpc, heS]; exact hfind) (by rw [heS]; exact hcfD) h1 h2 (parseLong_of_parse h3) (by rw [h4]; exact hlen) hstack hkc (by rw [hw]; exact hwords) hcells (by rw [hz]; exact hslots)
      (fun i v hv => by
        rw [hz] at hv
        have hv' : vals[i]? = some v := by simpa using hv
        have hi : i < σ.captured.length := by rw [← hlen]; exact (List.getElem?_eq_some_iff.mp hv').1
        have := (hfit i _ v (List.getElem?_eq_getElem hi) hv').2
        simp [State.fitsSlot, State.slotType?, hkc, hkind, hty, List.getElem?_eq_getElem hi, this])
    rw [hz] at q
    exact ⟨cK, ⟨_, kD, hkD, hnameD, hmade, hcan⟩, by simpa using q.1, q.2⟩
theorem Here.makes (X : Here p l e R s m args below meth c y bytes maxL ret Z h0 ws T cells slots h) {pc pc' index fi : Nat} {σ : Lambda.Shape} {Ls : Array Slot} {St rest : List Value} {vals : List Value} (w : (Cond.lambdaSite y pc index σ).before a0 Z = true) (hcap : σ.captured ≠ []) (hok : capOK σ y.cls fi 0 = true) (hO : (Cond.instantiable "java/lang/Object" 0).before a0 Z = true)
    (hd : decode bytes pc = .ok (.invokedynamic index, 5)) (hp : pc + 5 = pc') (hsz : Ls.size = maxL) (hlen : vals.length = σ.captured.length) (hst : St = vals.reverse ++ rest) {nv : Nat} (hnv : vals.length = nv) (hfit : ∀ (i : Nat) t v, σ.captured[i]? = some t → vals[i]? = some v → narrow t v = v ∧ fits t v = true)
    {W : Nat} (hW : (St.map fun v => v.category).sum = W) (hl : W + 3072 ≤ R.locals) (hc : cells + 1 ≤ R.cells) (hs : slots + nv ≤ R.slots)
    (k : ∀ T' h' a cK, Here p l e R s m args below meth c y bytes maxL ret Z h0 ws T' (cells + 1) (slots + nv) h' → h.size = a → Ext h h' → Jvm.LamKit.Made Z y.cls σ cK → Fn h' a cK vals.toArray → Runs p e below (T'.setTop (mkF m pc' Ls (.ref a :: rest))) G) : Runs p e below (T.setTop (mkF m pc Ls St)) G := by
  subst hp hnv
  obtain ⟨⟨x1, xh, x3, x4, x5, x6, x7, x8, xn⟩, x9, x10, locs, S, N⟩ := X
  obtain ⟨cK, hm, S', st⟩ := own_site S x1 xh xn w hcap hok hO (g := mkF m pc Ls St) rfl rfl (hsz.trans x4.symm) (hb x3 hd) (vals := vals) (rest := rest) hlen hst hfit (by show 2 * 0 + _ + 3072 ≤ _; rw [show (mkF m pc Ls St).stack = St from rfl, hW]; omega) hc hs
  have E : Ext h (T.pushCell { cls := cK, slots := vals.toArray, vm := .none }).heap := by
    rw [← x9]
    refine ⟨by simp [State.pushCell], fun a c q => ?_⟩
    have hlt := (Array.getElem?_eq_some_iff.mp q).1
    simp [State.pushCell, Array.getElem?_push, Nat.ne_of_lt hlt, q]
  refine (k _ _ T.heap.size cK ⟨⟨x1, xh, x3, x4, x5, x6, x7, x8, xn⟩, rfl, x10.ext E, _, S', N⟩ (by rw [x9]) E hm (by simp [Fn, State.pushCell])).of st
/-- an interface call on a made object whose target is static -/
theorem Here.lam (X : Here p l e R s m args below meth c y bytes maxL ret Z h0 ws T cells slots h) {pc pc' index count : Nat} {Ls : Array Slot} {St rest argsL argsT : List Value} {σ : Lambda.Shape} {host : String} {xi yt : MethodName} {bytesT : ByteArray} {maxT : Nat} {retT : Option FieldType} {a : Addr} {cK : ClassId} {vs : Array Value} {rt : Room} {Qt : Option Value → Heap → Prop}
    (hM : Ct l Z yt bytesT maxT retT rt argsT.toArray h [] Qt) (hmd : Jvm.LamKit.Made Z host σ cK) (F : Fn h a cK vs)
    (w1 : (Cond.methodLink y.cls index xi).before a0 Z = true) (w2 : (Cond.declares xi).before a0 Z = true) (w3 : (Cond.interfaceMethod xi.cls xi.cls xi.name xi.desc).before a0 Z = true) (hw3 : ((Cond.interfaceMethod xi.cls xi.cls xi.name xi.desc).onTables && (Cond.interfaceMethod xi.cls xi.cls xi.name xi.desc).keepsFace) = true) (w4 : (Cond.code yt bytesT maxT retT).before a0 Z = true) (w5 : (Cond.static yt).before a0 Z = true) (w6 : (Cond.initialized yt.cls).before a0 Z = true)
    (hxi : xi.cls = σ.iface ∧ xi.name = σ.name ∧ xi.desc = σ.sam.toString) (hy : yt.cls = σ.implClass ∧ yt.name = σ.implName ∧ yt.desc = σ.implDesc.toString)
    (hpoly : (xi.cls ≠ "java/lang/invoke/MethodHandle" ∧ xi.cls ≠ "java/lang/invoke/VarHandle") ∧ yt.cls ≠ "java/lang/invoke/MethodHandle" ∧ yt.cls ≠ "java/lang/invoke/VarHandle")
    {fcode : ByteArray} {fml idx ci pcI : Nat} {fret : Option FieldType} {op : Instr} (hok : fwdOK σ host fcode fml fret idx ci = true) (hdI : decode fcode pcI = .ok (.invokestatic idx, 3)) (hdR : decode fcode (pcI + 3) = .ok (op, 1)) {L0 : Array Slot}
    (hlen : ∀ sig, parseMethodDescriptor xi.desc = some sig → argsL.length = sig.parameters.length) (hlenT : ∀ sig, parseMethodDescriptor yt.desc = some sig → argsT.length = sig.parameters.length)
    (hst : St = argsL.reverse ++ .ref a :: rest) (hsz : Ls.size = maxL) (hd : decode bytes pc = .ok (.invokeinterface index count, 5)) (hp : pc + 5 = pc')
    (hL0 : ∀ mk, entryFrame mk (Value.ref a :: argsL).toArray fml = { method := mk, pc := 0, locals := L0, stack := [], locked := none }) (hsz0 : L0.size = fml)
    (hload : ∀ {s' : State} (U : State) (ck : Code) (bl : List Frame) (target : State), Jvm.LamKit.Made s' host σ cK → Z.WarmedH s'.vm → p.tables.exec = Jvm.exec → At U ⟨cK, 1⟩ ck bl → ck.code = fcode → Fn U.heap a cK vs → s'.WarmedH U.vm →
      Steps p.tables e bl (U.setTop { method := ⟨cK, 1⟩, pc := pcI, locals := L0, stack := argsT.reverse, locked := none }) target → Steps p.tables e bl (U.setTop { method := ⟨cK, 1⟩, pc := 0, locals := L0, stack := [], locked := none }) target)
    (hout : ∀ v h', Qt v h' → RetOK fret op v) (hf : rt.frames + 2 ≤ R.frames) {W : Nat} (hW : (rest.map fun v => v.category).sum = W) (hl : W + (fml + 11) + ((maxT + 11) + rt.locals) ≤ R.locals) (hc : cells + rt.cells ≤ R.cells) (hs : slots + rt.slots ≤ R.slots)
    (k : ∀ T' h' v, Here p l e R s m args below meth c y bytes maxL ret Z h0 ws T' (cells + rt.cells) (slots + rt.slots) h' → Keep h h' [] → Qt v h' → Runs p e below (T'.setTop (mkF m pc' Ls (v.toList ++ rest))) G) : Runs p e below (T.setTop (mkF m pc Ls St)) G := by
  subst hp
  have X' := X
  obtain ⟨⟨x1, xh, x3, x4, x5, x6, x7, x8, xn⟩, x9, x10, locs, S, N⟩ := X
  have x2 := xh.wide
  have hMet : Met l yt [Cond.code yt bytesT maxT retT] rt (fun a' U => a' = argsT.toArray ∧ Z.WarmedH U.vm ∧ U.heap = h) (fun _ _ o t => ∃ v, o = .returned v ∧ Qt v t.heap ∧ Keep h t.heap []) rt.cells rt.slots (fun q => h.size ≤ q) := by
    intro p' e' ha hc' hk s' m' args' below' hf' happ hP hK
    obtain ⟨n, o, q1, q2, q3, v, L, r1, ⟨r2, r3, r4⟩, r5⟩ := hM [] p' e' ha hc' hk s' m' args' below' hf' happ hP hK
    exact ⟨n, o, q1, q2, q3, ⟨v, r1, r2, r3⟩, L, r5, fun q hq => (r4 q hq).elim (fun z => nomatch z) id⟩
  obtain ⟨v, st, t, T', L, S', hL, e1, e2, ⟨v', ev, hQ, hKp⟩, go⟩ := callLamS S x1 (own := y.cls) (host := host) (index := index) (count := count) (xi := xi) (y := yt) (σ := σ) hMet (fun _ _ _ _ q => q) rfl rfl
    (fun w hw a' U hU => by rw [List.mem_singleton.mp hw]; exact mv (State.WarmedH.trans xh hU).wide w4) (List.mem_singleton.mpr rfl)
    x5 (mvT x2 w1) (mvT x2 w2) (mvT x2 w3 hw3) (mvT x2 w4) (mvT x2 w5) (mvT x2 w6) hxi hy hpoly (made_at (vm := s.vm) xh hmd) ⟨_, by rw [x9]; exact F, rfl, rfl⟩ hok hdI hdR
    (g := mkF m pc Ls St) rfl (hsz.trans x4.symm) (argsL := argsL) (argsT := argsT) (rest := rest) (L0 := L0) hlen hlenT hst (hb x3 hd) hL0 hsz0
    (fun U ck bl target hU hck hh hW' kk => hload (s' := s) U ck bl target (made_at (vm := s.vm) xh hmd) xh x1 hU hck (by rw [hh, x9]; exact F) hW' kk)
    (fun st v t q => by obtain ⟨v', e', q2, -⟩ := q; cases e'; exact hout _ _ q2) hf (by show 2 * 0 + _ + _ + _ ≤ _; rw [hW]; omega) hc hs (fun U hU hh => ⟨rfl, State.WarmedH.trans xh hU, by rw [hh]; exact x9⟩)
  cases ev
  rw [← e1] at hQ hKp
  exact (k T' T'.heap v (X'.back N S' rfl hKp (fun q hq => Or.inr (hL q hq)) (fun _ z => nomatch z)) hKp hQ).of go
end B
end Jvm.Own
namespace Jvm.Pilot.@@N@@
open Jvm Jvm.ClassFile Sem Op Lib Jvm.Free Jvm.Stand Jvm.LawKit Jvm.RoadKit Bundle Jvm.Own Jvm.Pilot.@@N@@.Jvm.D
abbrev y1 : MethodName := ⟨"com/example/rummage/rummage/AutomatonBorderPinLaw", "make", "([II)[I"⟩
abbrev y2 : MethodName := ⟨"com/example/rummage/rummage/AutomatonBorderPinLaw", "isBorder", "([III)Z"⟩
abbrev y3 : MethodName := ⟨"com/example/rummage/rummage/Automaton", "<init>", "([I)V"⟩
abbrev y4 : MethodName := ⟨"com/example/rummage/rummage/PrefixTable", "of", "([I)[I"⟩
abbrev y5 : MethodName := ⟨"com/example/rummage/rummage/Automaton", "<init>", "([I[I)V"⟩
abbrev y6 : MethodName := ⟨"com/example/rummage/rummage/Automaton", "fallbacks", "([I[I)[I"⟩
abbrev y7 : MethodName := ⟨"com/example/rummage/rummage/Automaton", "<init>", "([I[I[I)V"⟩
abbrev y8 : MethodName := ⟨"com/example/rummage/rummage/PairSteps", "of", "([ILjava/util/function/IntBinaryOperator;)Lcom/example/rummage/rummage/PairSteps;"⟩
abbrev y9 : MethodName := ⟨"com/example/rummage/rummage/Automaton", "<init>", "([I[I[ILcom/example/rummage/rummage/PairSteps;Z)V"⟩
abbrev y10 : MethodName := ⟨"java/lang/Object", "<init>", "()V"⟩
abbrev y11 : MethodName := ⟨"com/example/rummage/rummage/Automaton", "openingRun", "([I)I"⟩
abbrev y12 : MethodName := ⟨"com/example/rummage/rummage/Automaton", "border", "()I"⟩
abbrev y13 : MethodName := ⟨"com/example/rummage/rummage/Automaton", "lambda$new$0", "([I[III)I"⟩
abbrev y14 : MethodName := ⟨"com/example/rummage/rummage/Automaton", "advance", "([I[III)I"⟩
abbrev y15 : MethodName := ⟨"com/example/rummage/rummage/PairSteps", "<init>", "(I[BII[I)V"⟩
theorem pd_0 : parseMethodDescriptor "([I[III)I" = some ⟨[(.array .int), (.array .int), .int, .int], some .int⟩ := by decide +kernel
theorem pd_1 : parseMethodDescriptor "(I[BII[I)V" = some ⟨[.int, (.array .byte), .int, .int, (.array .int)], none⟩ := by decide +kernel
theorem pd_2 : parseMethodDescriptor "([I)I" = some ⟨[(.array .int)], some .int⟩ := by decide +kernel
theorem pd_3 : parseMethodDescriptor "([ILjava/util/function/IntBinaryOperator;)Lcom/example/rummage/rummage/PairSteps;" = some ⟨[(.array .int), (.object "java/util/function/IntBinaryOperator")], some (.object "com/example/rummage/rummage/PairSteps")⟩ := by decide +kernel
theorem pd_4 : parseMethodDescriptor "([I[I[ILcom/example/rummage/rummage/PairSteps;Z)V" = some ⟨[(.array .int), (.array .int), (.array .int), (.object "com/example/rummage/rummage/PairSteps"), .boolean], none⟩ := by decide +kernel
theorem pd_5 : parseMethodDescriptor "([I[I)[I" = some ⟨[(.array .int), (.array .int)], some (.array .int)⟩ := by decide +kernel
theorem pd_6 : parseMethodDescriptor "([I[I[I)V" = some ⟨[(.array .int), (.array .int), (.array .int)], none⟩ := by decide +kernel
theorem pd_7 : parseMethodDescriptor "([I)[I" = some ⟨[(.array .int)], some (.array .int)⟩ := by decide +kernel
theorem pd_8 : parseMethodDescriptor "([I[I)V" = some ⟨[(.array .int), (.array .int)], none⟩ := by decide +kernel
theorem pd_9 : parseMethodDescriptor "([II)[I" = some ⟨[(.array .int), .int], some (.array .int)⟩ := by decide +kernel
theorem pd_10 : parseMethodDescriptor "([III)Z" = some ⟨[(.array .int), .int, .int], some .boolean⟩ := by decide +kernel
theorem pd_11 : parseMethodDescriptor "([I)V" = some ⟨[(.array .int)], none⟩ := by decide +kernel
theorem pd_12 : parseMethodDescriptor "()I" = some ⟨[], some .int⟩ := by decide +kernel
theorem wd_0 {a0 : Array Value} {Z : State} (hw : ∀ d ∈ tables_1, d.before a0 Z = true) : (Jvm.Cond.constant "com/example/rummage/rummage/AutomatonBorderPinLaw" (7 : Nat) (2147483647 : Int32)).before a0 Z = true := hw _ (List.mem_of_getElem? (i := 0) rfl)
theorem wd_1 {a0 : Array Value} {Z : State} (hw : ∀ d ∈ tables_1, d.before a0 Z = true) : (Jvm.Cond.constant "com/example/rummage/rummage/AutomatonBorderPinLaw" (8 : Nat) (65535 : Int32)).before a0 Z = true := hw _ (List.mem_of_getElem? (i := 1) rfl)
theorem wd_2 {a0 : Array Value} {Z : State} (hw : ∀ d ∈ tables_1, d.before a0 Z = true) : (Jvm.Cond.arrayClass Jvm.ClassFile.FieldType.int).before a0 Z = true := hw _ (List.mem_of_getElem? (i := 2) rfl)
theorem wd_3 {a0 : Array Value} {Z : State} (hw : ∀ d ∈ tables_1, d.before a0 Z = true) : (Jvm.Cond.methodLink "com/example/rummage/rummage/AutomatonBorderPinLaw" (9 : Nat) ({ cls := "com/example/rummage/rummage/AutomatonBorderPinLaw", name := "make", desc := "([II)[I" } : Jvm.MethodName)).before a0 Z = true := hw _ (List.mem_of_getElem? (i := 3) rfl)
theorem wd_4 {a0 : Array Value} {Z : State} (hw : ∀ d ∈ tables_1, d.before a0 Z = true) : (Jvm.Cond.static ({ cls := "com/example/rummage/rummage/AutomatonBorderPinLaw", name := "make", desc := "([II)[I" } : Jvm.MethodName)).before a0 Z = true := hw _ (List.mem_of_getElem? (i := 4) rfl)
theorem wd_5 {a0 : Array Value} {Z : State} (hw : ∀ d ∈ tables_1, d.before a0 Z = true) : (Jvm.Cond.initialized "com/example/rummage/rummage/AutomatonBorderPinLaw").before a0 Z = true := hw _ (List.mem_of_getElem? (i := 5) rfl)
theorem wd_6 {a0 : Array Value} {Z : State} (hw : ∀ d ∈ tables_1, d.before a0 Z = true) : (Jvm.Cond.code ({ cls := "com/example/rummage/rummage/AutomatonBorderPinLaw", name := "make", desc := "([II)[I" } : Jvm.MethodName) method_3_code (2 : Nat) (Option.some (Jvm.ClassFile.FieldType.array Jvm.ClassFile.FieldType.int))).before a0 Z = true := hw _ (List.mem_of_getElem? (i := 6) rfl)
theorem wd_7 {a0 : Array Value} {Z : State} (hw : ∀ d ∈ tables_1, d.before a0 Z = true) : (Jvm.Cond.methodLink "com/example/rummage/rummage/AutomatonBorderPinLaw" (15 : Nat) ({ cls := "com/example/rummage/rummage/AutomatonBorderPinLaw", name := "isBorder", desc := "([III)Z" } : Jvm.MethodName)).before a0 Z = true := hw _ (List.mem_of_getElem? (i := 7) rfl)
theorem wd_8 {a0 : Array Value} {Z : State} (hw : ∀ d ∈ tables_1, d.before a0 Z = true) : (Jvm.Cond.static ({ cls := "com/example/rummage/rummage/AutomatonBorderPinLaw", name := "isBorder", desc := "([III)Z" } : Jvm.MethodName)).before a0 Z = true := hw _ (List.mem_of_getElem? (i := 8) rfl)
theorem wd_9 {a0 : Array Value} {Z : State} (hw : ∀ d ∈ tables_1, d.before a0 Z = true) : (Jvm.Cond.code ({ cls := "com/example/rummage/rummage/AutomatonBorderPinLaw", name := "isBorder", desc := "([III)Z" } : Jvm.MethodName) method_4_code (4 : Nat) (Option.some Jvm.ClassFile.FieldType.boolean)).before a0 Z = true := hw _ (List.mem_of_getElem? (i := 9) rfl)
theorem wd_10 {a0 : Array Value} {Z : State} (hw : ∀ d ∈ tables_1, d.before a0 Z = true) : (Jvm.Cond.classLink "com/example/rummage/rummage/AutomatonBorderPinLaw" (19 : Nat) "com/example/rummage/rummage/Automaton").before a0 Z = true := hw _ (List.mem_of_getElem? (i := 10) rfl)
theorem wd_11 {a0 : Array Value} {Z : State} (hw : ∀ d ∈ tables_1, d.before a0 Z = true) : (Jvm.Cond.instantiable "com/example/rummage/rummage/Automaton" (6 : Nat)).before a0 Z = true := hw _ (List.mem_of_getElem? (i := 11) rfl)
theorem wd_12 {a0 : Array Value} {Z : State} (hw : ∀ d ∈ tables_1, d.before a0 Z = true) : (Jvm.Cond.initialized "com/example/rummage/rummage/Automaton").before a0 Z = true := hw _ (List.mem_of_getElem? (i := 12) rfl)
theorem wd_13 {a0 : Array Value} {Z : State} (hw : ∀ d ∈ tables_1, d.before a0 Z = true) : (Jvm.Cond.methodLink "com/example/rummage/rummage/AutomatonBorderPinLaw" (21 : Nat) ({ cls := "com/example/rummage/rummage/Automaton", name := "<init>", desc := "([I)V" } : Jvm.MethodName)).before a0 Z = true := hw _ (List.mem_of_getElem? (i := 13) rfl)
theorem wd_14 {a0 : Array Value} {Z : State} (hw : ∀ d ∈ tables_1, d.before a0 Z = true) : (Jvm.Cond.instanceMethod ({ cls := "com/example/rummage/rummage/Automaton", name := "<init>", desc := "([I)V" } : Jvm.MethodName)).before a0 Z = true := hw _ (List.mem_of_getElem? (i := 14) rfl)
theorem wd_15 {a0 : Array Value} {Z : State} (hw : ∀ d ∈ tables_1, d.before a0 Z = true) : (Jvm.Cond.code ({ cls := "com/example/rummage/rummage/Automaton", name := "<init>", desc := "([I)V" } : Jvm.MethodName) prog_1_method_1_code (2 : Nat) (Option.none : Option Jvm.ClassFile.FieldType)).before a0 Z = true := hw _ (List.mem_of_getElem? (i := 15) rfl)
theorem wd_16 {a0 : Array Value} {Z : State} (hw : ∀ d ∈ tables_1, d.before a0 Z = true) : (Jvm.Cond.methodLink "com/example/rummage/rummage/Automaton" (1 : Nat) ({ cls := "com/example/rummage/rummage/PrefixTable", name := "of", desc := "([I)[I" } : Jvm.MethodName)).before a0 Z = true := hw _ (List.mem_of_getElem? (i := 16) rfl)
theorem wd_17 {a0 : Array Value} {Z : State} (hw : ∀ d ∈ tables_1, d.before a0 Z = true) : (Jvm.Cond.static ({ cls := "com/example/rummage/rummage/PrefixTable", name := "of", desc := "([I)[I" } : Jvm.MethodName)).before a0 Z = true := hw _ (List.mem_of_getElem? (i := 17) rfl)
theorem wd_18 {a0 : Array Value} {Z : State} (hw : ∀ d ∈ tables_1, d.before a0 Z = true) : (Jvm.Cond.initialized "com/example/rummage/rummage/PrefixTable").before a0 Z = true := hw _ (List.mem_of_getElem? (i := 18) rfl)
theorem wd_19 {a0 : Array Value} {Z : State} (hw : ∀ d ∈ tables_1, d.before a0 Z = true) : (Jvm.Cond.code ({ cls := "com/example/rummage/rummage/PrefixTable", name := "of", desc := "([I)[I" } : Jvm.MethodName) prog_20_method_2_code (5 : Nat) (Option.some (Jvm.ClassFile.FieldType.array Jvm.ClassFile.FieldType.int))).before a0 Z = true := hw _ (List.mem_of_getElem? (i := 19) rfl)
theorem wd_20 {a0 : Array Value} {Z : State} (hw : ∀ d ∈ tables_1, d.before a0 Z = true) : (Jvm.Cond.methodLink "com/example/rummage/rummage/Automaton" (7 : Nat) ({ cls := "com/example/rummage/rummage/Automaton", name := "<init>", desc := "([I[I)V" } : Jvm.MethodName)).before a0 Z = true := hw _ (List.mem_of_getElem? (i := 20) rfl)
theorem wd_21 {a0 : Array Value} {Z : State} (hw : ∀ d ∈ tables_1, d.before a0 Z = true) : (Jvm.Cond.instanceMethod ({ cls := "com/example/rummage/rummage/Automaton", name := "<init>", desc := "([I[I)V" } : Jvm.MethodName)).before a0 Z = true := hw _ (List.mem_of_getElem? (i := 21) rfl)
theorem wd_22 {a0 : Array Value} {Z : State} (hw : ∀ d ∈ tables_1, d.before a0 Z = true) : (Jvm.Cond.code ({ cls := "com/example/rummage/rummage/Automaton", name := "<init>", desc := "([I[I)V" } : Jvm.MethodName) prog_1_method_2_code (3 : Nat) (Option.none : Option Jvm.ClassFile.FieldType)).before a0 Z = true := hw _ (List.mem_of_getElem? (i := 22) rfl)
theorem wd_23 {a0 : Array Value} {Z : State} (hw : ∀ d ∈ tables_1, d.before a0 Z = true) : (Jvm.Cond.methodLink "com/example/rummage/rummage/Automaton" (13 : Nat) ({ cls := "com/example/rummage/rummage/Automaton", name := "fallbacks", desc := "([I[I)[I" } : Jvm.MethodName)).before a0 Z = true := hw _ (List.mem_of_getElem? (i := 23) rfl)
theorem wd_24 {a0 : Array Value} {Z : State} (hw : ∀ d ∈ tables_1, d.before a0 Z = true) : (Jvm.Cond.static ({ cls := "com/example/rummage/rummage/Automaton", name := "fallbacks", desc := "([I[I)[I" } : Jvm.MethodName)).before a0 Z = true := hw _ (List.mem_of_getElem? (i := 24) rfl)
theorem wd_25 {a0 : Array Value} {Z : State} (hw : ∀ d ∈ tables_1, d.before a0 Z = true) : (Jvm.Cond.code ({ cls := "com/example/rummage/rummage/Automaton", name := "fallbacks", desc := "([I[I)[I" } : Jvm.MethodName) prog_1_method_15_code (5 : Nat) (Option.some (Jvm.ClassFile.FieldType.array Jvm.ClassFile.FieldType.int))).before a0 Z = true := hw _ (List.mem_of_getElem? (i := 25) rfl)
theorem wd_26 {a0 : Array Value} {Z : State} (hw : ∀ d ∈ tables_1, d.before a0 Z = true) : (Jvm.Cond.methodLink "com/example/rummage/rummage/Automaton" (17 : Nat) ({ cls := "com/example/rummage/rummage/Automaton", name := "<init>", desc := "([I[I[I)V" } : Jvm.MethodName)).before a0 Z = true := hw _ (List.mem_of_getElem? (i := 26) rfl)
theorem wd_27 {a0 : Array Value} {Z : State} (hw : ∀ d ∈ tables_1, d.before a0 Z = true) : (Jvm.Cond.instanceMethod ({ cls := "com/example/rummage/rummage/Automaton", name := "<init>", desc := "([I[I[I)V" } : Jvm.MethodName)).before a0 Z = true := hw _ (List.mem_of_getElem? (i := 27) rfl)
theorem wd_28 {a0 : Array Value} {Z : State} (hw : ∀ d ∈ tables_1, d.before a0 Z = true) : (Jvm.Cond.code ({ cls := "com/example/rummage/rummage/Automaton", name := "<init>", desc := "([I[I[I)V" } : Jvm.MethodName) prog_1_method_3_code (4 : Nat) (Option.none : Option Jvm.ClassFile.FieldType)).before a0 Z = true := hw _ (List.mem_of_getElem? (i := 28) rfl)
theorem wd_29 {a0 : Array Value} {Z : State} (hw : ∀ d ∈ tables_1, d.before a0 Z = true) : (Jvm.Cond.lambdaSite ({ cls := "com/example/rummage/rummage/Automaton", name := "<init>", desc := "([I[I[I)V" } : Jvm.MethodName) (7 : Nat) (20 : Nat) (Jvm.Lambda.Shape.mk "java/util/function/IntBinaryOperator" "applyAsInt" (Jvm.ClassFile.MethodDescriptor.mk ([Jvm.ClassFile.FieldType.int, Jvm.ClassFile.FieldType.int] : List Jvm.ClassFile.FieldType) (Option.some Jvm.ClassFile.FieldType.int)) ([(Jvm.ClassFile.FieldType.array Jvm.ClassFile.FieldType.int), (Jvm.ClassFile.FieldType.array Jvm.ClassFile.FieldType.int)] : List Jvm.ClassFile.FieldType) (6 : Nat) "com/example/rummage/rummage/Automaton" "lambda$new$0" (Jvm.ClassFile.MethodDescriptor.mk ([(Jvm.ClassFile.FieldType.array Jvm.ClassFile.FieldType.int), (Jvm.ClassFile.FieldType.array Jvm.ClassFile.FieldType.int), Jvm.ClassFile.FieldType.int, Jvm.ClassFile.FieldType.int] : List Jvm.ClassFile.FieldType) (Option.some Jvm.ClassFile.FieldType.int)) false (Jvm.ClassFile.MethodDescriptor.mk ([Jvm.ClassFile.FieldType.int, Jvm.ClassFile.FieldType.int] : List Jvm.ClassFile.FieldType) (Option.some Jvm.ClassFile.FieldType.int)))).before a0 Z = true := hw _ (List.mem_of_getElem? (i := 29) rfl)
theorem wd_32 {a0 : Array Value} {Z : State} (hw : ∀ d ∈ tables_1, d.before a0 Z = true) : (Jvm.Cond.instantiable "java/lang/Object" (0 : Nat)).before a0 Z = true := hw _ (List.mem_of_getElem? (i := 32) rfl)
theorem wd_33 {a0 : Array Value} {Z : State} (hw : ∀ d ∈ tables_1, d.before a0 Z = true) : (Jvm.Cond.methodLink "com/example/rummage/rummage/Automaton" (24 : Nat) ({ cls := "com/example/rummage/rummage/PairSteps", name := "of", desc := "([ILjava/util/function/IntBinaryOperator;)Lcom/example/rummage/rummage/PairSteps;" } : Jvm.MethodName)).before a0 Z = true := hw _ (List.mem_of_getElem? (i := 33) rfl)
theorem wd_34 {a0 : Array Value} {Z : State} (hw : ∀ d ∈ tables_1, d.before a0 Z = true) : (Jvm.Cond.static ({ cls := "com/example/rummage/rummage/PairSteps", name := "of", desc := "([ILjava/util/function/IntBinaryOperator;)Lcom/example/rummage/rummage/PairSteps;" } : Jvm.MethodName)).before a0 Z = true := hw _ (List.mem_of_getElem? (i := 34) rfl)
theorem wd_35 {a0 : Array Value} {Z : State} (hw : ∀ d ∈ tables_1, d.before a0 Z = true) : (Jvm.Cond.initialized "com/example/rummage/rummage/PairSteps").before a0 Z = true := hw _ (List.mem_of_getElem? (i := 35) rfl)
theorem wd_36 {a0 : Array Value} {Z : State} (hw : ∀ d ∈ tables_1, d.before a0 Z = true) : (Jvm.Cond.code ({ cls := "com/example/rummage/rummage/PairSteps", name := "of", desc := "([ILjava/util/function/IntBinaryOperator;)Lcom/example/rummage/rummage/PairSteps;" } : Jvm.MethodName) prog_19_method_2_code (13 : Nat) (Option.some (Jvm.ClassFile.FieldType.object "com/example/rummage/rummage/PairSteps"))).before a0 Z = true := hw _ (List.mem_of_getElem? (i := 36) rfl)
theorem wd_37 {a0 : Array Value} {Z : State} (hw : ∀ d ∈ tables_1, d.before a0 Z = true) : (Jvm.Cond.methodLink "com/example/rummage/rummage/Automaton" (29 : Nat) ({ cls := "com/example/rummage/rummage/Automaton", name := "<init>", desc := "([I[I[ILcom/example/rummage/rummage/PairSteps;Z)V" } : Jvm.MethodName)).before a0 Z = true := hw _ (List.mem_of_getElem? (i := 37) rfl)
theorem wd_38 {a0 : Array Value} {Z : State} (hw : ∀ d ∈ tables_1, d.before a0 Z = true) : (Jvm.Cond.instanceMethod ({ cls := "com/example/rummage/rummage/Automaton", name := "<init>", desc := "([I[I[ILcom/example/rummage/rummage/PairSteps;Z)V" } : Jvm.MethodName)).before a0 Z = true := hw _ (List.mem_of_getElem? (i := 38) rfl)
theorem wd_39 {a0 : Array Value} {Z : State} (hw : ∀ d ∈ tables_1, d.before a0 Z = true) : (Jvm.Cond.code ({ cls := "com/example/rummage/rummage/Automaton", name := "<init>", desc := "([I[I[ILcom/example/rummage/rummage/PairSteps;Z)V" } : Jvm.MethodName) prog_1_method_4_code (6 : Nat) (Option.none : Option Jvm.ClassFile.FieldType)).before a0 Z = true := hw _ (List.mem_of_getElem? (i := 39) rfl)
theorem wd_40 {a0 : Array Value} {Z : State} (hw : ∀ d ∈ tables_1, d.before a0 Z = true) : (Jvm.Cond.methodLink "com/example/rummage/rummage/Automaton" (32 : Nat) ({ cls := "java/lang/Object", name := "<init>", desc := "()V" } : Jvm.MethodName)).before a0 Z = true := hw _ (List.mem_of_getElem? (i := 40) rfl)
theorem wd_41 {a0 : Array Value} {Z : State} (hw : ∀ d ∈ tables_1, d.before a0 Z = true) : (Jvm.Cond.instanceMethod ({ cls := "java/lang/Object", name := "<init>", desc := "()V" } : Jvm.MethodName)).before a0 Z = true := hw _ (List.mem_of_getElem? (i := 41) rfl)
theorem wd_42 {a0 : Array Value} {Z : State} (hw : ∀ d ∈ tables_1, d.before a0 Z = true) : (Jvm.Cond.code ({ cls := "java/lang/Object", name := "<init>", desc := "()V" } : Jvm.MethodName) object_method_1_code (1 : Nat) (Option.none : Option Jvm.ClassFile.FieldType)).before a0 Z = true := hw _ (List.mem_of_getElem? (i := 42) rfl)
theorem wd_43 {a0 : Array Value} {Z : State} (hw : ∀ d ∈ tables_1, d.before a0 Z = true) : (Jvm.Cond.fieldLink "com/example/rummage/rummage/Automaton" (37 : Nat) "com/example/rummage/rummage/Automaton" "pattern" "[I").before a0 Z = true := hw _ (List.mem_of_getElem? (i := 43) rfl)
theorem wd_44 {a0 : Array Value} {Z : State} (hw : ∀ d ∈ tables_1, d.before a0 Z = true) : (Jvm.Cond.laysFinal "com/example/rummage/rummage/Automaton" "com/example/rummage/rummage/Automaton" "pattern" "[I").before a0 Z = true := hw _ (List.mem_of_getElem? (i := 44) rfl)
theorem wd_45 {a0 : Array Value} {Z : State} (hw : ∀ d ∈ tables_1, d.before a0 Z = true) : (Jvm.Cond.fieldLink "com/example/rummage/rummage/Automaton" (41 : Nat) "com/example/rummage/rummage/Automaton" "table" "[I").before a0 Z = true := hw _ (List.mem_of_getElem? (i := 45) rfl)
theorem wd_46 {a0 : Array Value} {Z : State} (hw : ∀ d ∈ tables_1, d.before a0 Z = true) : (Jvm.Cond.laysFinal "com/example/rummage/rummage/Automaton" "com/example/rummage/rummage/Automaton" "table" "[I").before a0 Z = true := hw _ (List.mem_of_getElem? (i := 46) rfl)
theorem wd_47 {a0 : Array Value} {Z : State} (hw : ∀ d ∈ tables_1, d.before a0 Z = true) : (Jvm.Cond.fieldLink "com/example/rummage/rummage/Automaton" (44 : Nat) "com/example/rummage/rummage/Automaton" "fallback" "[I").before a0 Z = true := hw _ (List.mem_of_getElem? (i := 47) rfl)
theorem wd_48 {a0 : Array Value} {Z : State} (hw : ∀ d ∈ tables_1, d.before a0 Z = true) : (Jvm.Cond.laysFinal "com/example/rummage/rummage/Automaton" "com/example/rummage/rummage/Automaton" "fallback" "[I").before a0 Z = true := hw _ (List.mem_of_getElem? (i := 48) rfl)
theorem wd_49 {a0 : Array Value} {Z : State} (hw : ∀ d ∈ tables_1, d.before a0 Z = true) : (Jvm.Cond.fieldLink "com/example/rummage/rummage/Automaton" (47 : Nat) "com/example/rummage/rummage/Automaton" "pairSteps" "Lcom/example/rummage/rummage/PairSteps;").before a0 Z = true := hw _ (List.mem_of_getElem? (i := 49) rfl)
theorem wd_50 {a0 : Array Value} {Z : State} (hw : ∀ d ∈ tables_1, d.before a0 Z = true) : (Jvm.Cond.laysFinal "com/example/rummage/rummage/Automaton" "com/example/rummage/rummage/Automaton" "pairSteps" "Lcom/example/rummage/rummage/PairSteps;").before a0 Z = true := hw _ (List.mem_of_getElem? (i := 50) rfl)
theorem wd_51 {a0 : Array Value} {Z : State} (hw : ∀ d ∈ tables_1, d.before a0 Z = true) : (Jvm.Cond.fieldLink "com/example/rummage/rummage/Automaton" (51 : Nat) "com/example/rummage/rummage/Automaton" "afterHit" "I").before a0 Z = true := hw _ (List.mem_of_getElem? (i := 51) rfl)
theorem wd_52 {a0 : Array Value} {Z : State} (hw : ∀ d ∈ tables_1, d.before a0 Z = true) : (Jvm.Cond.laysFinal "com/example/rummage/rummage/Automaton" "com/example/rummage/rummage/Automaton" "afterHit" "I").before a0 Z = true := hw _ (List.mem_of_getElem? (i := 52) rfl)
theorem wd_53 {a0 : Array Value} {Z : State} (hw : ∀ d ∈ tables_1, d.before a0 Z = true) : (Jvm.Cond.methodLink "com/example/rummage/rummage/Automaton" (55 : Nat) ({ cls := "com/example/rummage/rummage/Automaton", name := "openingRun", desc := "([I)I" } : Jvm.MethodName)).before a0 Z = true := hw _ (List.mem_of_getElem? (i := 53) rfl)
theorem wd_54 {a0 : Array Value} {Z : State} (hw : ∀ d ∈ tables_1, d.before a0 Z = true) : (Jvm.Cond.static ({ cls := "com/example/rummage/rummage/Automaton", name := "openingRun", desc := "([I)I" } : Jvm.MethodName)).before a0 Z = true := hw _ (List.mem_of_getElem? (i := 54) rfl)
theorem wd_55 {a0 : Array Value} {Z : State} (hw : ∀ d ∈ tables_1, d.before a0 Z = true) : (Jvm.Cond.code ({ cls := "com/example/rummage/rummage/Automaton", name := "openingRun", desc := "([I)I" } : Jvm.MethodName) prog_1_method_16_code (2 : Nat) (Option.some Jvm.ClassFile.FieldType.int)).before a0 Z = true := hw _ (List.mem_of_getElem? (i := 55) rfl)
theorem wd_56 {a0 : Array Value} {Z : State} (hw : ∀ d ∈ tables_1, d.before a0 Z = true) : (Jvm.Cond.fieldLink "com/example/rummage/rummage/Automaton" (59 : Nat) "com/example/rummage/rummage/Automaton" "run" "I").before a0 Z = true := hw _ (List.mem_of_getElem? (i := 56) rfl)
theorem wd_57 {a0 : Array Value} {Z : State} (hw : ∀ d ∈ tables_1, d.before a0 Z = true) : (Jvm.Cond.laysFinal "com/example/rummage/rummage/Automaton" "com/example/rummage/rummage/Automaton" "run" "I").before a0 Z = true := hw _ (List.mem_of_getElem? (i := 57) rfl)
theorem wd_58 {a0 : Array Value} {Z : State} (hw : ∀ d ∈ tables_1, d.before a0 Z = true) : (Jvm.Cond.methodLink "com/example/rummage/rummage/AutomatonBorderPinLaw" (24 : Nat) ({ cls := "com/example/rummage/rummage/Automaton", name := "border", desc := "()I" } : Jvm.MethodName)).before a0 Z = true := hw _ (List.mem_of_getElem? (i := 58) rfl)
theorem wd_59 {a0 : Array Value} {Z : State} (hw : ∀ d ∈ tables_1, d.before a0 Z = true) : (Jvm.Cond.declares ({ cls := "com/example/rummage/rummage/Automaton", name := "border", desc := "()I" } : Jvm.MethodName)).before a0 Z = true := hw _ (List.mem_of_getElem? (i := 59) rfl)
theorem wd_60 {a0 : Array Value} {Z : State} (hw : ∀ d ∈ tables_1, d.before a0 Z = true) : (Jvm.Cond.instanceMethod ({ cls := "com/example/rummage/rummage/Automaton", name := "border", desc := "()I" } : Jvm.MethodName)).before a0 Z = true := hw _ (List.mem_of_getElem? (i := 60) rfl)
theorem wd_61 {a0 : Array Value} {Z : State} (hw : ∀ d ∈ tables_1, d.before a0 Z = true) : (Jvm.Cond.selects "com/example/rummage/rummage/Automaton" ({ cls := "com/example/rummage/rummage/Automaton", name := "border", desc := "()I" } : Jvm.MethodName) ({ cls := "com/example/rummage/rummage/Automaton", name := "border", desc := "()I" } : Jvm.MethodName)).before a0 Z = true := hw _ (List.mem_of_getElem? (i := 61) rfl)
theorem wd_62 {a0 : Array Value} {Z : State} (hw : ∀ d ∈ tables_1, d.before a0 Z = true) : (Jvm.Cond.code ({ cls := "com/example/rummage/rummage/Automaton", name := "border", desc := "()I" } : Jvm.MethodName) prog_1_method_9_code (1 : Nat) (Option.some Jvm.ClassFile.FieldType.int)).before a0 Z = true := hw _ (List.mem_of_getElem? (i := 62) rfl)
theorem wd_63 {a0 : Array Value} {Z : State} (hw : ∀ d ∈ tables_1, d.before a0 Z = true) : (Jvm.Cond.arrayClass Jvm.ClassFile.FieldType.byte).before a0 Z = true := hw _ (List.mem_of_getElem? (i := 63) rfl)
theorem wd_64 {a0 : Array Value} {Z : State} (hw : ∀ d ∈ tables_1, d.before a0 Z = true) : (Jvm.Cond.methodLink "com/example/rummage/rummage/PairSteps" (27 : Nat) ({ cls := "java/util/function/IntBinaryOperator", name := "applyAsInt", desc := "(II)I" } : Jvm.MethodName)).before a0 Z = true := hw _ (List.mem_of_getElem? (i := 64) rfl)
theorem wd_65 {a0 : Array Value} {Z : State} (hw : ∀ d ∈ tables_1, d.before a0 Z = true) : (Jvm.Cond.declares ({ cls := "java/util/function/IntBinaryOperator", name := "applyAsInt", desc := "(II)I" } : Jvm.MethodName)).before a0 Z = true := hw _ (List.mem_of_getElem? (i := 65) rfl)
theorem wd_66 {a0 : Array Value} {Z : State} (hw : ∀ d ∈ tables_1, d.before a0 Z = true) : (Jvm.Cond.interfaceMethod "java/util/function/IntBinaryOperator" "java/util/function/IntBinaryOperator" "applyAsInt" "(II)I").before a0 Z = true := hw _ (List.mem_of_getElem? (i := 66) rfl)
theorem wd_67 {a0 : Array Value} {Z : State} (hw : ∀ d ∈ tables_1, d.before a0 Z = true) : (Jvm.Cond.static ({ cls := "com/example/rummage/rummage/Automaton", name := "lambda$new$0", desc := "([I[III)I" } : Jvm.MethodName)).before a0 Z = true := hw _ (List.mem_of_getElem? (i := 67) rfl)
theorem wd_68 {a0 : Array Value} {Z : State} (hw : ∀ d ∈ tables_1, d.before a0 Z = true) : (Jvm.Cond.code ({ cls := "com/example/rummage/rummage/Automaton", name := "lambda$new$0", desc := "([I[III)I" } : Jvm.MethodName) prog_1_method_17_code (4 : Nat) (Option.some Jvm.ClassFile.FieldType.int)).before a0 Z = true := hw _ (List.mem_of_getElem? (i := 68) rfl)
theorem wd_69 {a0 : Array Value} {Z : State} (hw : ∀ d ∈ tables_1, d.before a0 Z = true) : (Jvm.Cond.methodLink "com/example/rummage/rummage/Automaton" (67 : Nat) ({ cls := "com/example/rummage/rummage/Automaton", name := "advance", desc := "([I[III)I" } : Jvm.MethodName)).before a0 Z = true := hw _ (List.mem_of_getElem? (i := 69) rfl)
theorem wd_70 {a0 : Array Value} {Z : State} (hw : ∀ d ∈ tables_1, d.before a0 Z = true) : (Jvm.Cond.static ({ cls := "com/example/rummage/rummage/Automaton", name := "advance", desc := "([I[III)I" } : Jvm.MethodName)).before a0 Z = true := hw _ (List.mem_of_getElem? (i := 70) rfl)
theorem wd_71 {a0 : Array Value} {Z : State} (hw : ∀ d ∈ tables_1, d.before a0 Z = true) : (Jvm.Cond.code ({ cls := "com/example/rummage/rummage/Automaton", name := "advance", desc := "([I[III)I" } : Jvm.MethodName) prog_1_method_14_code (4 : Nat) (Option.some Jvm.ClassFile.FieldType.int)).before a0 Z = true := hw _ (List.mem_of_getElem? (i := 71) rfl)
theorem wd_72 {a0 : Array Value} {Z : State} (hw : ∀ d ∈ tables_1, d.before a0 Z = true) : (Jvm.Cond.classLink "com/example/rummage/rummage/PairSteps" (8 : Nat) "com/example/rummage/rummage/PairSteps").before a0 Z = true := hw _ (List.mem_of_getElem? (i := 72) rfl)
theorem wd_73 {a0 : Array Value} {Z : State} (hw : ∀ d ∈ tables_1, d.before a0 Z = true) : (Jvm.Cond.instantiable "com/example/rummage/rummage/PairSteps" (5 : Nat)).before a0 Z = true := hw _ (List.mem_of_getElem? (i := 73) rfl)
theorem wd_74 {a0 : Array Value} {Z : State} (hw : ∀ d ∈ tables_1, d.before a0 Z = true) : (Jvm.Cond.methodLink "com/example/rummage/rummage/PairSteps" (33 : Nat) ({ cls := "com/example/rummage/rummage/PairSteps", name := "<init>", desc := "(I[BII[I)V" } : Jvm.MethodName)).before a0 Z = true := hw _ (List.mem_of_getElem? (i := 74) rfl)
theorem wd_75 {a0 : Array Value} {Z : State} (hw : ∀ d ∈ tables_1, d.before a0 Z = true) : (Jvm.Cond.instanceMethod ({ cls := "com/example/rummage/rummage/PairSteps", name := "<init>", desc := "(I[BII[I)V" } : Jvm.MethodName)).before a0 Z = true := hw _ (List.mem_of_getElem? (i := 75) rfl)
theorem wd_76 {a0 : Array Value} {Z : State} (hw : ∀ d ∈ tables_1, d.before a0 Z = true) : (Jvm.Cond.code ({ cls := "com/example/rummage/rummage/PairSteps", name := "<init>", desc := "(I[BII[I)V" } : Jvm.MethodName) prog_19_method_1_code (6 : Nat) (Option.none : Option Jvm.ClassFile.FieldType)).before a0 Z = true := hw _ (List.mem_of_getElem? (i := 76) rfl)
theorem wd_77 {a0 : Array Value} {Z : State} (hw : ∀ d ∈ tables_1, d.before a0 Z = true) : (Jvm.Cond.methodLink "com/example/rummage/rummage/PairSteps" (1 : Nat) ({ cls := "java/lang/Object", name := "<init>", desc := "()V" } : Jvm.MethodName)).before a0 Z = true := hw _ (List.mem_of_getElem? (i := 77) rfl)
theorem wd_78 {a0 : Array Value} {Z : State} (hw : ∀ d ∈ tables_1, d.before a0 Z = true) : (Jvm.Cond.fieldLink "com/example/rummage/rummage/PairSteps" (7 : Nat) "com/example/rummage/rummage/PairSteps" "length" "I").before a0 Z = true := hw _ (List.mem_of_getElem? (i := 78) rfl)
theorem wd_79 {a0 : Array Value} {Z : State} (hw : ∀ d ∈ tables_1, d.before a0 Z = true) : (Jvm.Cond.laysFinal "com/example/rummage/rummage/PairSteps" "com/example/rummage/rummage/PairSteps" "length" "I").before a0 Z = true := hw _ (List.mem_of_getElem? (i := 79) rfl)
theorem wd_80 {a0 : Array Value} {Z : State} (hw : ∀ d ∈ tables_1, d.before a0 Z = true) : (Jvm.Cond.fieldLink "com/example/rummage/rummage/PairSteps" (13 : Nat) "com/example/rummage/rummage/PairSteps" "classes" "[B").before a0 Z = true := hw _ (List.mem_of_getElem? (i := 80) rfl)
theorem wd_81 {a0 : Array Value} {Z : State} (hw : ∀ d ∈ tables_1, d.before a0 Z = true) : (Jvm.Cond.laysFinal "com/example/rummage/rummage/PairSteps" "com/example/rummage/rummage/PairSteps" "classes" "[B").before a0 Z = true := hw _ (List.mem_of_getElem? (i := 81) rfl)
theorem wd_82 {a0 : Array Value} {Z : State} (hw : ∀ d ∈ tables_1, d.before a0 Z = true) : (Jvm.Cond.fieldLink "com/example/rummage/rummage/PairSteps" (17 : Nat) "com/example/rummage/rummage/PairSteps" "classCount" "I").before a0 Z = true := hw _ (List.mem_of_getElem? (i := 82) rfl)
theorem wd_83 {a0 : Array Value} {Z : State} (hw : ∀ d ∈ tables_1, d.before a0 Z = true) : (Jvm.Cond.laysFinal "com/example/rummage/rummage/PairSteps" "com/example/rummage/rummage/PairSteps" "classCount" "I").before a0 Z = true := hw _ (List.mem_of_getElem? (i := 83) rfl)
theorem wd_84 {a0 : Array Value} {Z : State} (hw : ∀ d ∈ tables_1, d.before a0 Z = true) : (Jvm.Cond.fieldLink "com/example/rummage/rummage/PairSteps" (20 : Nat) "com/example/rummage/rummage/PairSteps" "shift" "I").before a0 Z = true := hw _ (List.mem_of_getElem? (i := 84) rfl)
theorem wd_85 {a0 : Array Value} {Z : State} (hw : ∀ d ∈ tables_1, d.before a0 Z = true) : (Jvm.Cond.laysFinal "com/example/rummage/rummage/PairSteps" "com/example/rummage/rummage/PairSteps" "shift" "I").before a0 Z = true := hw _ (List.mem_of_getElem? (i := 85) rfl)
theorem wd_86 {a0 : Array Value} {Z : State} (hw : ∀ d ∈ tables_1, d.before a0 Z = true) : (Jvm.Cond.fieldLink "com/example/rummage/rummage/PairSteps" (23 : Nat) "com/example/rummage/rummage/PairSteps" "steps" "[I").before a0 Z = true := hw _ (List.mem_of_getElem? (i := 86) rfl)
theorem wd_87 {a0 : Array Value} {Z : State} (hw : ∀ d ∈ tables_1, d.before a0 Z = true) : (Jvm.Cond.laysFinal "com/example/rummage/rummage/PairSteps" "com/example/rummage/rummage/PairSteps" "steps" "[I").before a0 Z = true := hw _ (List.mem_of_getElem? (i := 87) rfl)
theorem d1_0 : decode method_3_code 0 = .ok (.iload_n 1, 1) := by decide +kernel
theorem d1_1 : decode method_3_code 1 = .ok (.ifCond .ne 7, 3) := by decide +kernel
theorem d1_4 : decode method_3_code 4 = .ok (.iconst 0, 1) := by decide +kernel
theorem d1_5 : decode method_3_code 5 = .ok (.newarray .int, 2) := by decide +kernel
theorem d1_7 : decode method_3_code 7 = .ok (.areturn, 1) := by decide +kernel
theorem d1_8 : decode method_3_code 8 = .ok (.iload_n 1, 1) := by decide +kernel
theorem d1_9 : decode method_3_code 9 = .ok (.iconst 1, 1) := by decide +kernel
theorem d1_10 : decode method_3_code 10 = .ok (.if_icmp .ne 13, 3) := by decide +kernel
theorem d1_13 : decode method_3_code 13 = .ok (.iconst 1, 1) := by decide +kernel
theorem d1_14 : decode method_3_code 14 = .ok (.newarray .int, 2) := by decide +kernel
theorem d1_16 : decode method_3_code 16 = .ok (.dup, 1) := by decide +kernel
theorem d1_17 : decode method_3_code 17 = .ok (.iconst 0, 1) := by decide +kernel
theorem d1_18 : decode method_3_code 18 = .ok (.aload_n 0, 1) := by decide +kernel
theorem d1_19 : decode method_3_code 19 = .ok (.iconst 0, 1) := by decide +kernel
theorem d1_20 : decode method_3_code 20 = .ok (.iaload, 1) := by decide +kernel
theorem d1_21 : decode method_3_code 21 = .ok (.iastore, 1) := by decide +kernel
theorem d1_22 : decode method_3_code 22 = .ok (.areturn, 1) := by decide +kernel
theorem d1_23 : decode method_3_code 23 = .ok (.iload_n 1, 1) := by decide +kernel
theorem d1_24 : decode method_3_code 24 = .ok (.iconst 2, 1) := by decide +kernel
theorem d1_25 : decode method_3_code 25 = .ok (.if_icmp .ne 19, 3) := by decide +kernel
theorem d1_28 : decode method_3_code 28 = .ok (.iconst 2, 1) := by decide +kernel
theorem d1_29 : decode method_3_code 29 = .ok (.newarray .int, 2) := by decide +kernel
theorem d1_31 : decode method_3_code 31 = .ok (.dup, 1) := by decide +kernel
theorem d1_32 : decode method_3_code 32 = .ok (.iconst 0, 1) := by decide +kernel
theorem d1_33 : decode method_3_code 33 = .ok (.aload_n 0, 1) := by decide +kernel
theorem d1_34 : decode method_3_code 34 = .ok (.iconst 0, 1) := by decide +kernel
theorem d1_35 : decode method_3_code 35 = .ok (.iaload, 1) := by decide +kernel
theorem d1_36 : decode method_3_code 36 = .ok (.iastore, 1) := by decide +kernel
theorem d1_37 : decode method_3_code 37 = .ok (.dup, 1) := by decide +kernel
theorem d1_38 : decode method_3_code 38 = .ok (.iconst 1, 1) := by decide +kernel
theorem d1_39 : decode method_3_code 39 = .ok (.aload_n 0, 1) := by decide +kernel
theorem d1_40 : decode method_3_code 40 = .ok (.iconst 1, 1) := by decide +kernel
theorem d1_41 : decode method_3_code 41 = .ok (.iaload, 1) := by decide +kernel
theorem d1_42 : decode method_3_code 42 = .ok (.iastore, 1) := by decide +kernel
theorem d1_43 : decode method_3_code 43 = .ok (.areturn, 1) := by decide +kernel
theorem d1_44 : decode method_3_code 44 = .ok (.iload_n 1, 1) := by decide +kernel
theorem d1_45 : decode method_3_code 45 = .ok (.iconst 3, 1) := by decide +kernel
theorem d1_46 : decode method_3_code 46 = .ok (.if_icmp .ne 25, 3) := by decide +kernel
theorem d1_49 : decode method_3_code 49 = .ok (.iconst 3, 1) := by decide +kernel
theorem d1_50 : decode method_3_code 50 = .ok (.newarray .int, 2) := by decide +kernel
theorem d1_52 : decode method_3_code 52 = .ok (.dup, 1) := by decide +kernel
theorem d1_53 : decode method_3_code 53 = .ok (.iconst 0, 1) := by decide +kernel
theorem d1_54 : decode method_3_code 54 = .ok (.aload_n 0, 1) := by decide +kernel
theorem d1_55 : decode method_3_code 55 = .ok (.iconst 0, 1) := by decide +kernel
theorem d1_56 : decode method_3_code 56 = .ok (.iaload, 1) := by decide +kernel
theorem d1_57 : decode method_3_code 57 = .ok (.iastore, 1) := by decide +kernel
theorem d1_58 : decode method_3_code 58 = .ok (.dup, 1) := by decide +kernel
theorem d1_59 : decode method_3_code 59 = .ok (.iconst 1, 1) := by decide +kernel
theorem d1_60 : decode method_3_code 60 = .ok (.aload_n 0, 1) := by decide +kernel
theorem d1_61 : decode method_3_code 61 = .ok (.iconst 1, 1) := by decide +kernel
theorem d1_62 : decode method_3_code 62 = .ok (.iaload, 1) := by decide +kernel
theorem d1_63 : decode method_3_code 63 = .ok (.iastore, 1) := by decide +kernel
theorem d1_64 : decode method_3_code 64 = .ok (.dup, 1) := by decide +kernel
theorem d1_65 : decode method_3_code 65 = .ok (.iconst 2, 1) := by decide +kernel
theorem d1_66 : decode method_3_code 66 = .ok (.aload_n 0, 1) := by decide +kernel
theorem d1_67 : decode method_3_code 67 = .ok (.iconst 2, 1) := by decide +kernel
theorem d1_68 : decode method_3_code 68 = .ok (.iaload, 1) := by decide +kernel
theorem d1_69 : decode method_3_code 69 = .ok (.iastore, 1) := by decide +kernel
theorem d1_70 : decode method_3_code 70 = .ok (.areturn, 1) := by decide +kernel
theorem d1_71 : decode method_3_code 71 = .ok (.iload_n 1, 1) := by decide +kernel
theorem d1_72 : decode method_3_code 72 = .ok (.iconst 4, 1) := by decide +kernel
theorem d1_73 : decode method_3_code 73 = .ok (.if_icmp .ne 31, 3) := by decide +kernel
theorem d1_76 : decode method_3_code 76 = .ok (.iconst 4, 1) := by decide +kernel
theorem d1_77 : decode method_3_code 77 = .ok (.newarray .int, 2) := by decide +kernel
theorem d1_79 : decode method_3_code 79 = .ok (.dup, 1) := by decide +kernel
theorem d1_80 : decode method_3_code 80 = .ok (.iconst 0, 1) := by decide +kernel
theorem d1_81 : decode method_3_code 81 = .ok (.aload_n 0, 1) := by decide +kernel
theorem d1_82 : decode method_3_code 82 = .ok (.iconst 0, 1) := by decide +kernel
theorem d1_83 : decode method_3_code 83 = .ok (.iaload, 1) := by decide +kernel
theorem d1_84 : decode method_3_code 84 = .ok (.iastore, 1) := by decide +kernel
theorem d1_85 : decode method_3_code 85 = .ok (.dup, 1) := by decide +kernel
theorem d1_86 : decode method_3_code 86 = .ok (.iconst 1, 1) := by decide +kernel
theorem d1_87 : decode method_3_code 87 = .ok (.aload_n 0, 1) := by decide +kernel
theorem d1_88 : decode method_3_code 88 = .ok (.iconst 1, 1) := by decide +kernel
theorem d1_89 : decode method_3_code 89 = .ok (.iaload, 1) := by decide +kernel
theorem d1_90 : decode method_3_code 90 = .ok (.iastore, 1) := by decide +kernel
theorem d1_91 : decode method_3_code 91 = .ok (.dup, 1) := by decide +kernel
theorem d1_92 : decode method_3_code 92 = .ok (.iconst 2, 1) := by decide +kernel
theorem d1_93 : decode method_3_code 93 = .ok (.aload_n 0, 1) := by decide +kernel
theorem d1_94 : decode method_3_code 94 = .ok (.iconst 2, 1) := by decide +kernel
theorem d1_95 : decode method_3_code 95 = .ok (.iaload, 1) := by decide +kernel
theorem d1_96 : decode method_3_code 96 = .ok (.iastore, 1) := by decide +kernel
theorem d1_97 : decode method_3_code 97 = .ok (.dup, 1) := by decide +kernel
theorem d1_98 : decode method_3_code 98 = .ok (.iconst 3, 1) := by decide +kernel
theorem d1_99 : decode method_3_code 99 = .ok (.aload_n 0, 1) := by decide +kernel
theorem d1_100 : decode method_3_code 100 = .ok (.iconst 3, 1) := by decide +kernel
theorem d1_101 : decode method_3_code 101 = .ok (.iaload, 1) := by decide +kernel
theorem d1_102 : decode method_3_code 102 = .ok (.iastore, 1) := by decide +kernel
theorem d1_103 : decode method_3_code 103 = .ok (.areturn, 1) := by decide +kernel
theorem d1_104 : decode method_3_code 104 = .ok (.iload_n 1, 1) := by decide +kernel
theorem d1_105 : decode method_3_code 105 = .ok (.iconst 5, 1) := by decide +kernel
theorem d1_106 : decode method_3_code 106 = .ok (.if_icmp .ne 37, 3) := by decide +kernel
theorem d1_109 : decode method_3_code 109 = .ok (.iconst 5, 1) := by decide +kernel
theorem d1_110 : decode method_3_code 110 = .ok (.newarray .int, 2) := by decide +kernel
theorem d1_112 : decode method_3_code 112 = .ok (.dup, 1) := by decide +kernel
theorem d1_113 : decode method_3_code 113 = .ok (.iconst 0, 1) := by decide +kernel
theorem d1_114 : decode method_3_code 114 = .ok (.aload_n 0, 1) := by decide +kernel
theorem d1_115 : decode method_3_code 115 = .ok (.iconst 0, 1) := by decide +kernel
theorem d1_116 : decode method_3_code 116 = .ok (.iaload, 1) := by decide +kernel
theorem d1_117 : decode method_3_code 117 = .ok (.iastore, 1) := by decide +kernel
theorem d1_118 : decode method_3_code 118 = .ok (.dup, 1) := by decide +kernel
theorem d1_119 : decode method_3_code 119 = .ok (.iconst 1, 1) := by decide +kernel
theorem d1_120 : decode method_3_code 120 = .ok (.aload_n 0, 1) := by decide +kernel
theorem d1_121 : decode method_3_code 121 = .ok (.iconst 1, 1) := by decide +kernel
theorem d1_122 : decode method_3_code 122 = .ok (.iaload, 1) := by decide +kernel
theorem d1_123 : decode method_3_code 123 = .ok (.iastore, 1) := by decide +kernel
theorem d1_124 : decode method_3_code 124 = .ok (.dup, 1) := by decide +kernel
theorem d1_125 : decode method_3_code 125 = .ok (.iconst 2, 1) := by decide +kernel
theorem d1_126 : decode method_3_code 126 = .ok (.aload_n 0, 1) := by decide +kernel
theorem d1_127 : decode method_3_code 127 = .ok (.iconst 2, 1) := by decide +kernel
theorem d1_128 : decode method_3_code 128 = .ok (.iaload, 1) := by decide +kernel
theorem d1_129 : decode method_3_code 129 = .ok (.iastore, 1) := by decide +kernel
theorem d1_130 : decode method_3_code 130 = .ok (.dup, 1) := by decide +kernel
theorem d1_131 : decode method_3_code 131 = .ok (.iconst 3, 1) := by decide +kernel
theorem d1_132 : decode method_3_code 132 = .ok (.aload_n 0, 1) := by decide +kernel
theorem d1_133 : decode method_3_code 133 = .ok (.iconst 3, 1) := by decide +kernel
theorem d1_134 : decode method_3_code 134 = .ok (.iaload, 1) := by decide +kernel
theorem d1_135 : decode method_3_code 135 = .ok (.iastore, 1) := by decide +kernel
theorem d1_136 : decode method_3_code 136 = .ok (.dup, 1) := by decide +kernel
theorem d1_137 : decode method_3_code 137 = .ok (.iconst 4, 1) := by decide +kernel
theorem d1_138 : decode method_3_code 138 = .ok (.aload_n 0, 1) := by decide +kernel
theorem d1_139 : decode method_3_code 139 = .ok (.iconst 4, 1) := by decide +kernel
theorem d1_140 : decode method_3_code 140 = .ok (.iaload, 1) := by decide +kernel
theorem d1_141 : decode method_3_code 141 = .ok (.iastore, 1) := by decide +kernel
theorem d1_142 : decode method_3_code 142 = .ok (.areturn, 1) := by decide +kernel
theorem d1_143 : decode method_3_code 143 = .ok (.bipush 6, 2) := by decide +kernel
theorem d1_145 : decode method_3_code 145 = .ok (.newarray .int, 2) := by decide +kernel
theorem d1_147 : decode method_3_code 147 = .ok (.dup, 1) := by decide +kernel
theorem d1_148 : decode method_3_code 148 = .ok (.iconst 0, 1) := by decide +kernel
theorem d1_149 : decode method_3_code 149 = .ok (.aload_n 0, 1) := by decide +kernel
theorem d1_150 : decode method_3_code 150 = .ok (.iconst 0, 1) := by decide +kernel
theorem d1_151 : decode method_3_code 151 = .ok (.iaload, 1) := by decide +kernel
theorem d1_152 : decode method_3_code 152 = .ok (.iastore, 1) := by decide +kernel
theorem d1_153 : decode method_3_code 153 = .ok (.dup, 1) := by decide +kernel
theorem d1_154 : decode method_3_code 154 = .ok (.iconst 1, 1) := by decide +kernel
theorem d1_155 : decode method_3_code 155 = .ok (.aload_n 0, 1) := by decide +kernel
theorem d1_156 : decode method_3_code 156 = .ok (.iconst 1, 1) := by decide +kernel
theorem d1_157 : decode method_3_code 157 = .ok (.iaload, 1) := by decide +kernel
theorem d1_158 : decode method_3_code 158 = .ok (.iastore, 1) := by decide +kernel
theorem d1_159 : decode method_3_code 159 = .ok (.dup, 1) := by decide +kernel
theorem d1_160 : decode method_3_code 160 = .ok (.iconst 2, 1) := by decide +kernel
theorem d1_161 : decode method_3_code 161 = .ok (.aload_n 0, 1) := by decide +kernel
theorem d1_162 : decode method_3_code 162 = .ok (.iconst 2, 1) := by decide +kernel
theorem d1_163 : decode method_3_code 163 = .ok (.iaload, 1) := by decide +kernel
theorem d1_164 : decode method_3_code 164 = .ok (.iastore, 1) := by decide +kernel
theorem d1_165 : decode method_3_code 165 = .ok (.dup, 1) := by decide +kernel
theorem d1_166 : decode method_3_code 166 = .ok (.iconst 3, 1) := by decide +kernel
theorem d1_167 : decode method_3_code 167 = .ok (.aload_n 0, 1) := by decide +kernel
theorem d1_168 : decode method_3_code 168 = .ok (.iconst 3, 1) := by decide +kernel
theorem d1_169 : decode method_3_code 169 = .ok (.iaload, 1) := by decide +kernel
theorem d1_170 : decode method_3_code 170 = .ok (.iastore, 1) := by decide +kernel
theorem d1_171 : decode method_3_code 171 = .ok (.dup, 1) := by decide +kernel
theorem d1_172 : decode method_3_code 172 = .ok (.iconst 4, 1) := by decide +kernel
theorem d1_173 : decode method_3_code 173 = .ok (.aload_n 0, 1) := by decide +kernel
theorem d1_174 : decode method_3_code 174 = .ok (.iconst 4, 1) := by decide +kernel
theorem d1_175 : decode method_3_code 175 = .ok (.iaload, 1) := by decide +kernel
theorem d1_176 : decode method_3_code 176 = .ok (.iastore, 1) := by decide +kernel
theorem d1_177 : decode method_3_code 177 = .ok (.dup, 1) := by decide +kernel
theorem d1_178 : decode method_3_code 178 = .ok (.iconst 5, 1) := by decide +kernel
theorem d1_179 : decode method_3_code 179 = .ok (.aload_n 0, 1) := by decide +kernel
theorem d1_180 : decode method_3_code 180 = .ok (.iconst 5, 1) := by decide +kernel
theorem d1_181 : decode method_3_code 181 = .ok (.iaload, 1) := by decide +kernel
theorem d1_182 : decode method_3_code 182 = .ok (.iastore, 1) := by decide +kernel
theorem d1_183 : decode method_3_code 183 = .ok (.areturn, 1) := by decide +kernel
theorem d2_0 : decode method_4_code 0 = .ok (.iload_n 2, 1) := by decide +kernel
theorem d2_1 : decode method_4_code 1 = .ok (.iconst 1, 1) := by decide +kernel
theorem d2_2 : decode method_4_code 2 = .ok (.if_icmp .lt 8, 3) := by decide +kernel
theorem d2_5 : decode method_4_code 5 = .ok (.iload_n 2, 1) := by decide +kernel
theorem d2_6 : decode method_4_code 6 = .ok (.iload_n 1, 1) := by decide +kernel
theorem d2_7 : decode method_4_code 7 = .ok (.if_icmp .lt 5, 3) := by decide +kernel
theorem d2_10 : decode method_4_code 10 = .ok (.iconst 0, 1) := by decide +kernel
theorem d2_11 : decode method_4_code 11 = .ok (.ireturn, 1) := by decide +kernel
theorem d2_12 : decode method_4_code 12 = .ok (.iload_n 1, 1) := by decide +kernel
theorem d2_13 : decode method_4_code 13 = .ok (.iload_n 2, 1) := by decide +kernel
theorem d2_14 : decode method_4_code 14 = .ok (.isub, 1) := by decide +kernel
theorem d2_15 : decode method_4_code 15 = .ok (.istore_n 3, 1) := by decide +kernel
theorem d2_16 : decode method_4_code 16 = .ok (.aload_n 0, 1) := by decide +kernel
theorem d2_17 : decode method_4_code 17 = .ok (.iconst 0, 1) := by decide +kernel
theorem d2_18 : decode method_4_code 18 = .ok (.iaload, 1) := by decide +kernel
theorem d2_19 : decode method_4_code 19 = .ok (.aload_n 0, 1) := by decide +kernel
theorem d2_20 : decode method_4_code 20 = .ok (.iload_n 3, 1) := by decide +kernel
theorem d2_21 : decode method_4_code 21 = .ok (.iaload, 1) := by decide +kernel
theorem d2_22 : decode method_4_code 22 = .ok (.if_icmp .ne 71, 3) := by decide +kernel
theorem d2_25 : decode method_4_code 25 = .ok (.iload_n 2, 1) := by decide +kernel
theorem d2_26 : decode method_4_code 26 = .ok (.iconst 2, 1) := by decide +kernel
theorem d2_27 : decode method_4_code 27 = .ok (.if_icmp .lt 14, 3) := by decide +kernel
theorem d2_30 : decode method_4_code 30 = .ok (.aload_n 0, 1) := by decide +kernel
theorem d2_31 : decode method_4_code 31 = .ok (.iconst 1, 1) := by decide +kernel
theorem d2_32 : decode method_4_code 32 = .ok (.iaload, 1) := by decide +kernel
theorem d2_33 : decode method_4_code 33 = .ok (.aload_n 0, 1) := by decide +kernel
theorem d2_34 : decode method_4_code 34 = .ok (.iload_n 3, 1) := by decide +kernel
theorem d2_35 : decode method_4_code 35 = .ok (.iconst 1, 1) := by decide +kernel
theorem d2_36 : decode method_4_code 36 = .ok (.iadd, 1) := by decide +kernel
theorem d2_37 : decode method_4_code 37 = .ok (.iaload, 1) := by decide +kernel
theorem d2_38 : decode method_4_code 38 = .ok (.if_icmp .ne 55, 3) := by decide +kernel
theorem d2_41 : decode method_4_code 41 = .ok (.iload_n 2, 1) := by decide +kernel
theorem d2_42 : decode method_4_code 42 = .ok (.iconst 3, 1) := by decide +kernel
theorem d2_43 : decode method_4_code 43 = .ok (.if_icmp .lt 14, 3) := by decide +kernel
theorem d2_46 : decode method_4_code 46 = .ok (.aload_n 0, 1) := by decide +kernel
theorem d2_47 : decode method_4_code 47 = .ok (.iconst 2, 1) := by decide +kernel
theorem d2_48 : decode method_4_code 48 = .ok (.iaload, 1) := by decide +kernel
theorem d2_49 : decode method_4_code 49 = .ok (.aload_n 0, 1) := by decide +kernel
theorem d2_50 : decode method_4_code 50 = .ok (.iload_n 3, 1) := by decide +kernel
theorem d2_51 : decode method_4_code 51 = .ok (.iconst 2, 1) := by decide +kernel
theorem d2_52 : decode method_4_code 52 = .ok (.iadd, 1) := by decide +kernel
theorem d2_53 : decode method_4_code 53 = .ok (.iaload, 1) := by decide +kernel
theorem d2_54 : decode method_4_code 54 = .ok (.if_icmp .ne 39, 3) := by decide +kernel
theorem d2_57 : decode method_4_code 57 = .ok (.iload_n 2, 1) := by decide +kernel
theorem d2_58 : decode method_4_code 58 = .ok (.iconst 4, 1) := by decide +kernel
theorem d2_59 : decode method_4_code 59 = .ok (.if_icmp .lt 14, 3) := by decide +kernel
theorem d2_62 : decode method_4_code 62 = .ok (.aload_n 0, 1) := by decide +kernel
theorem d2_63 : decode method_4_code 63 = .ok (.iconst 3, 1) := by decide +kernel
theorem d2_64 : decode method_4_code 64 = .ok (.iaload, 1) := by decide +kernel
theorem d2_65 : decode method_4_code 65 = .ok (.aload_n 0, 1) := by decide +kernel
theorem d2_66 : decode method_4_code 66 = .ok (.iload_n 3, 1) := by decide +kernel
theorem d2_67 : decode method_4_code 67 = .ok (.iconst 3, 1) := by decide +kernel
theorem d2_68 : decode method_4_code 68 = .ok (.iadd, 1) := by decide +kernel
theorem d2_69 : decode method_4_code 69 = .ok (.iaload, 1) := by decide +kernel
theorem d2_70 : decode method_4_code 70 = .ok (.if_icmp .ne 23, 3) := by decide +kernel
theorem d2_73 : decode method_4_code 73 = .ok (.iload_n 2, 1) := by decide +kernel
theorem d2_74 : decode method_4_code 74 = .ok (.iconst 5, 1) := by decide +kernel
theorem d2_75 : decode method_4_code 75 = .ok (.if_icmp .lt 14, 3) := by decide +kernel
theorem d2_78 : decode method_4_code 78 = .ok (.aload_n 0, 1) := by decide +kernel
theorem d2_79 : decode method_4_code 79 = .ok (.iconst 4, 1) := by decide +kernel
theorem d2_80 : decode method_4_code 80 = .ok (.iaload, 1) := by decide +kernel
theorem d2_81 : decode method_4_code 81 = .ok (.aload_n 0, 1) := by decide +kernel
theorem d2_82 : decode method_4_code 82 = .ok (.iload_n 3, 1) := by decide +kernel
theorem d2_83 : decode method_4_code 83 = .ok (.iconst 4, 1) := by decide +kernel
theorem d2_84 : decode method_4_code 84 = .ok (.iadd, 1) := by decide +kernel
theorem d2_85 : decode method_4_code 85 = .ok (.iaload, 1) := by decide +kernel
theorem d2_86 : decode method_4_code 86 = .ok (.if_icmp .ne 7, 3) := by decide +kernel
theorem d2_89 : decode method_4_code 89 = .ok (.iconst 1, 1) := by decide +kernel
theorem d2_90 : decode method_4_code 90 = .ok (.goto 4, 3) := by decide +kernel
theorem d2_93 : decode method_4_code 93 = .ok (.iconst 0, 1) := by decide +kernel
theorem d2_94 : decode method_4_code 94 = .ok (.ireturn, 1) := by decide +kernel
theorem d3_0 : decode prog_1_method_1_code 0 = .ok (.aload_n 0, 1) := by decide +kernel
theorem d3_1 : decode prog_1_method_1_code 1 = .ok (.aload_n 1, 1) := by decide +kernel
theorem d3_2 : decode prog_1_method_1_code 2 = .ok (.aload_n 1, 1) := by decide +kernel
theorem d3_3 : decode prog_1_method_1_code 3 = .ok (.invokestatic 1, 3) := by decide +kernel
theorem d3_6 : decode prog_1_method_1_code 6 = .ok (.invokespecial 7, 3) := by decide +kernel
theorem d3_9 : decode prog_1_method_1_code 9 = .ok (.return_, 1) := by decide +kernel
theorem d4_0 : decode prog_20_method_2_code 0 = .ok (.aload_n 0, 1) := by decide +kernel
theorem d4_1 : decode prog_20_method_2_code 1 = .ok (.arraylength, 1) := by decide +kernel
theorem d4_2 : decode prog_20_method_2_code 2 = .ok (.newarray .int, 2) := by decide +kernel
theorem d4_4 : decode prog_20_method_2_code 4 = .ok (.astore_n 1, 1) := by decide +kernel
theorem d4_5 : decode prog_20_method_2_code 5 = .ok (.iconst 0, 1) := by decide +kernel
theorem d4_6 : decode prog_20_method_2_code 6 = .ok (.istore_n 2, 1) := by decide +kernel
theorem d4_7 : decode prog_20_method_2_code 7 = .ok (.iconst 1, 1) := by decide +kernel
theorem d4_8 : decode prog_20_method_2_code 8 = .ok (.istore_n 3, 1) := by decide +kernel
theorem d4_9 : decode prog_20_method_2_code 9 = .ok (.iload_n 3, 1) := by decide +kernel
theorem d4_10 : decode prog_20_method_2_code 10 = .ok (.aload_n 1, 1) := by decide +kernel
theorem d4_11 : decode prog_20_method_2_code 11 = .ok (.arraylength, 1) := by decide +kernel
theorem d4_12 : decode prog_20_method_2_code 12 = .ok (.if_icmp .ge 50, 3) := by decide +kernel
theorem d4_15 : decode prog_20_method_2_code 15 = .ok (.aload_n 0, 1) := by decide +kernel
theorem d4_16 : decode prog_20_method_2_code 16 = .ok (.iload_n 3, 1) := by decide +kernel
theorem d4_17 : decode prog_20_method_2_code 17 = .ok (.iaload, 1) := by decide +kernel
theorem d4_18 : decode prog_20_method_2_code 18 = .ok (.istore 4, 2) := by decide +kernel
theorem d4_20 : decode prog_20_method_2_code 20 = .ok (.iload_n 2, 1) := by decide +kernel
theorem d4_21 : decode prog_20_method_2_code 21 = .ok (.ifCond .le 20, 3) := by decide +kernel
theorem d4_24 : decode prog_20_method_2_code 24 = .ok (.aload_n 0, 1) := by decide +kernel
theorem d4_25 : decode prog_20_method_2_code 25 = .ok (.iload_n 2, 1) := by decide +kernel
theorem d4_26 : decode prog_20_method_2_code 26 = .ok (.iaload, 1) := by decide +kernel
theorem d4_27 : decode prog_20_method_2_code 27 = .ok (.iload 4, 2) := by decide +kernel
theorem d4_29 : decode prog_20_method_2_code 29 = .ok (.if_icmp .eq 12, 3) := by decide +kernel
theorem d4_32 : decode prog_20_method_2_code 32 = .ok (.aload_n 1, 1) := by decide +kernel
theorem d4_33 : decode prog_20_method_2_code 33 = .ok (.iload_n 2, 1) := by decide +kernel
theorem d4_34 : decode prog_20_method_2_code 34 = .ok (.iconst 1, 1) := by decide +kernel
theorem d4_35 : decode prog_20_method_2_code 35 = .ok (.isub, 1) := by decide +kernel
theorem d4_36 : decode prog_20_method_2_code 36 = .ok (.iaload, 1) := by decide +kernel
theorem d4_37 : decode prog_20_method_2_code 37 = .ok (.istore_n 2, 1) := by decide +kernel
theorem d4_38 : decode prog_20_method_2_code 38 = .ok (.goto (-18), 3) := by decide +kernel
theorem d4_41 : decode prog_20_method_2_code 41 = .ok (.aload_n 0, 1) := by decide +kernel
theorem d4_42 : decode prog_20_method_2_code 42 = .ok (.iload_n 2, 1) := by decide +kernel
theorem d4_43 : decode prog_20_method_2_code 43 = .ok (.iaload, 1) := by decide +kernel
theorem d4_44 : decode prog_20_method_2_code 44 = .ok (.iload 4, 2) := by decide +kernel
theorem d4_46 : decode prog_20_method_2_code 46 = .ok (.if_icmp .ne 6, 3) := by decide +kernel
theorem d4_49 : decode prog_20_method_2_code 49 = .ok (.iinc 2 1, 3) := by decide +kernel
theorem d4_52 : decode prog_20_method_2_code 52 = .ok (.aload_n 1, 1) := by decide +kernel
theorem d4_53 : decode prog_20_method_2_code 53 = .ok (.iload_n 3, 1) := by decide +kernel
theorem d4_54 : decode prog_20_method_2_code 54 = .ok (.iload_n 2, 1) := by decide +kernel
theorem d4_55 : decode prog_20_method_2_code 55 = .ok (.iastore, 1) := by decide +kernel
theorem d4_56 : decode prog_20_method_2_code 56 = .ok (.iinc 3 1, 3) := by decide +kernel
theorem d4_59 : decode prog_20_method_2_code 59 = .ok (.goto (-50), 3) := by decide +kernel
theorem d4_62 : decode prog_20_method_2_code 62 = .ok (.aload_n 1, 1) := by decide +kernel
theorem d4_63 : decode prog_20_method_2_code 63 = .ok (.areturn, 1) := by decide +kernel
theorem d5_0 : decode prog_1_method_2_code 0 = .ok (.aload_n 0, 1) := by decide +kernel
theorem d5_1 : decode prog_1_method_2_code 1 = .ok (.aload_n 1, 1) := by decide +kernel
theorem d5_2 : decode prog_1_method_2_code 2 = .ok (.aload_n 2, 1) := by decide +kernel
theorem d5_3 : decode prog_1_method_2_code 3 = .ok (.aload_n 1, 1) := by decide +kernel
theorem d5_4 : decode prog_1_method_2_code 4 = .ok (.aload_n 2, 1) := by decide +kernel
theorem d5_5 : decode prog_1_method_2_code 5 = .ok (.invokestatic 13, 3) := by decide +kernel
theorem d5_8 : decode prog_1_method_2_code 8 = .ok (.invokespecial 17, 3) := by decide +kernel
theorem d5_11 : decode prog_1_method_2_code 11 = .ok (.return_, 1) := by decide +kernel
theorem d6_0 : decode prog_1_method_15_code 0 = .ok (.aload_n 0, 1) := by decide +kernel
theorem d6_1 : decode prog_1_method_15_code 1 = .ok (.arraylength, 1) := by decide +kernel
theorem d6_2 : decode prog_1_method_15_code 2 = .ok (.newarray .int, 2) := by decide +kernel
theorem d6_4 : decode prog_1_method_15_code 4 = .ok (.astore_n 2, 1) := by decide +kernel
theorem d6_5 : decode prog_1_method_15_code 5 = .ok (.iconst 0, 1) := by decide +kernel
theorem d6_6 : decode prog_1_method_15_code 6 = .ok (.istore_n 3, 1) := by decide +kernel
theorem d6_7 : decode prog_1_method_15_code 7 = .ok (.iload_n 3, 1) := by decide +kernel
theorem d6_8 : decode prog_1_method_15_code 8 = .ok (.aload_n 0, 1) := by decide +kernel
theorem d6_9 : decode prog_1_method_15_code 9 = .ok (.arraylength, 1) := by decide +kernel
theorem d6_10 : decode prog_1_method_15_code 10 = .ok (.if_icmp .ge 51, 3) := by decide +kernel
theorem d6_13 : decode prog_1_method_15_code 13 = .ok (.iload_n 3, 1) := by decide +kernel
theorem d6_14 : decode prog_1_method_15_code 14 = .ok (.ifCond .ne 7, 3) := by decide +kernel
theorem d6_17 : decode prog_1_method_15_code 17 = .ok (.iconst (-1), 1) := by decide +kernel
theorem d6_18 : decode prog_1_method_15_code 18 = .ok (.goto 8, 3) := by decide +kernel
theorem d6_21 : decode prog_1_method_15_code 21 = .ok (.aload_n 1, 1) := by decide +kernel
theorem d6_22 : decode prog_1_method_15_code 22 = .ok (.iload_n 3, 1) := by decide +kernel
theorem d6_23 : decode prog_1_method_15_code 23 = .ok (.iconst 1, 1) := by decide +kernel
theorem d6_24 : decode prog_1_method_15_code 24 = .ok (.isub, 1) := by decide +kernel
theorem d6_25 : decode prog_1_method_15_code 25 = .ok (.iaload, 1) := by decide +kernel
theorem d6_26 : decode prog_1_method_15_code 26 = .ok (.istore 4, 2) := by decide +kernel
theorem d6_28 : decode prog_1_method_15_code 28 = .ok (.aload_n 2, 1) := by decide +kernel
theorem d6_29 : decode prog_1_method_15_code 29 = .ok (.iload_n 3, 1) := by decide +kernel
theorem d6_30 : decode prog_1_method_15_code 30 = .ok (.iload 4, 2) := by decide +kernel
theorem d6_32 : decode prog_1_method_15_code 32 = .ok (.ifCond .lt 20, 3) := by decide +kernel
theorem d6_35 : decode prog_1_method_15_code 35 = .ok (.aload_n 0, 1) := by decide +kernel
theorem d6_36 : decode prog_1_method_15_code 36 = .ok (.iload 4, 2) := by decide +kernel
theorem d6_38 : decode prog_1_method_15_code 38 = .ok (.iaload, 1) := by decide +kernel
theorem d6_39 : decode prog_1_method_15_code 39 = .ok (.aload_n 0, 1) := by decide +kernel
theorem d6_40 : decode prog_1_method_15_code 40 = .ok (.iload_n 3, 1) := by decide +kernel
theorem d6_41 : decode prog_1_method_15_code 41 = .ok (.iaload, 1) := by decide +kernel
theorem d6_42 : decode prog_1_method_15_code 42 = .ok (.if_icmp .ne 10, 3) := by decide +kernel
theorem d6_45 : decode prog_1_method_15_code 45 = .ok (.aload_n 2, 1) := by decide +kernel
theorem d6_46 : decode prog_1_method_15_code 46 = .ok (.iload 4, 2) := by decide +kernel
theorem d6_48 : decode prog_1_method_15_code 48 = .ok (.iaload, 1) := by decide +kernel
theorem d6_49 : decode prog_1_method_15_code 49 = .ok (.goto 5, 3) := by decide +kernel
theorem d6_52 : decode prog_1_method_15_code 52 = .ok (.iload 4, 2) := by decide +kernel
theorem d6_54 : decode prog_1_method_15_code 54 = .ok (.iastore, 1) := by decide +kernel
theorem d6_55 : decode prog_1_method_15_code 55 = .ok (.iinc 3 1, 3) := by decide +kernel
theorem d6_58 : decode prog_1_method_15_code 58 = .ok (.goto (-51), 3) := by decide +kernel
theorem d6_61 : decode prog_1_method_15_code 61 = .ok (.aload_n 2, 1) := by decide +kernel
theorem d6_62 : decode prog_1_method_15_code 62 = .ok (.areturn, 1) := by decide +kernel
theorem d7_0 : decode prog_1_method_3_code 0 = .ok (.aload_n 0, 1) := by decide +kernel
theorem d7_1 : decode prog_1_method_3_code 1 = .ok (.aload_n 1, 1) := by decide +kernel
theorem d7_2 : decode prog_1_method_3_code 2 = .ok (.aload_n 2, 1) := by decide +kernel
theorem d7_3 : decode prog_1_method_3_code 3 = .ok (.aload_n 3, 1) := by decide +kernel
theorem d7_4 : decode prog_1_method_3_code 4 = .ok (.aload_n 1, 1) := by decide +kernel
theorem d7_5 : decode prog_1_method_3_code 5 = .ok (.aload_n 1, 1) := by decide +kernel
theorem d7_6 : decode prog_1_method_3_code 6 = .ok (.aload_n 3, 1) := by decide +kernel
theorem d7_7 : decode prog_1_method_3_code 7 = .ok (.invokedynamic 20, 5) := by decide +kernel
theorem d7_12 : decode prog_1_method_3_code 12 = .ok (.invokestatic 24, 3) := by decide +kernel
theorem d7_15 : decode prog_1_method_3_code 15 = .ok (.iconst 1, 1) := by decide +kernel
theorem d7_16 : decode prog_1_method_3_code 16 = .ok (.invokespecial 29, 3) := by decide +kernel
theorem d7_19 : decode prog_1_method_3_code 19 = .ok (.return_, 1) := by decide +kernel
theorem d8_0 : decode prog_19_method_2_code 0 = .ok (.aload_n 0, 1) := by decide +kernel
theorem d8_1 : decode prog_19_method_2_code 1 = .ok (.arraylength, 1) := by decide +kernel
theorem d8_2 : decode prog_19_method_2_code 2 = .ok (.ifCond .eq 11, 3) := by decide +kernel
theorem d8_5 : decode prog_19_method_2_code 5 = .ok (.aload_n 0, 1) := by decide +kernel
theorem d8_6 : decode prog_19_method_2_code 6 = .ok (.arraylength, 1) := by decide +kernel
theorem d8_7 : decode prog_19_method_2_code 7 = .ok (.sipush 1024, 3) := by decide +kernel
theorem d8_10 : decode prog_19_method_2_code 10 = .ok (.if_icmp .le 5, 3) := by decide +kernel
theorem d8_13 : decode prog_19_method_2_code 13 = .ok (.aconst_null, 1) := by decide +kernel
theorem d8_14 : decode prog_19_method_2_code 14 = .ok (.areturn, 1) := by decide +kernel
theorem d8_15 : decode prog_19_method_2_code 15 = .ok (.sipush 256, 3) := by decide +kernel
theorem d8_18 : decode prog_19_method_2_code 18 = .ok (.newarray .byte, 2) := by decide +kernel
theorem d8_20 : decode prog_19_method_2_code 20 = .ok (.astore_n 2, 1) := by decide +kernel
theorem d8_21 : decode prog_19_method_2_code 21 = .ok (.aload_n 0, 1) := by decide +kernel
theorem d8_22 : decode prog_19_method_2_code 22 = .ok (.arraylength, 1) := by decide +kernel
theorem d8_23 : decode prog_19_method_2_code 23 = .ok (.iconst 1, 1) := by decide +kernel
theorem d8_24 : decode prog_19_method_2_code 24 = .ok (.iadd, 1) := by decide +kernel
theorem d8_25 : decode prog_19_method_2_code 25 = .ok (.newarray .int, 2) := by decide +kernel
theorem d8_27 : decode prog_19_method_2_code 27 = .ok (.astore_n 3, 1) := by decide +kernel
theorem d8_28 : decode prog_19_method_2_code 28 = .ok (.iconst 1, 1) := by decide +kernel
theorem d8_29 : decode prog_19_method_2_code 29 = .ok (.istore 4, 2) := by decide +kernel
theorem d8_31 : decode prog_19_method_2_code 31 = .ok (.iconst 0, 1) := by decide +kernel
theorem d8_32 : decode prog_19_method_2_code 32 = .ok (.istore 5, 2) := by decide +kernel
theorem d8_34 : decode prog_19_method_2_code 34 = .ok (.aload_n 0, 1) := by decide +kernel
theorem d8_35 : decode prog_19_method_2_code 35 = .ok (.astore 6, 2) := by decide +kernel
theorem d8_37 : decode prog_19_method_2_code 37 = .ok (.aload 6, 2) := by decide +kernel
theorem d8_39 : decode prog_19_method_2_code 39 = .ok (.arraylength, 1) := by decide +kernel
theorem d8_40 : decode prog_19_method_2_code 40 = .ok (.istore 7, 2) := by decide +kernel
theorem d8_42 : decode prog_19_method_2_code 42 = .ok (.iconst 0, 1) := by decide +kernel
theorem d8_43 : decode prog_19_method_2_code 43 = .ok (.istore 8, 2) := by decide +kernel
theorem d8_45 : decode prog_19_method_2_code 45 = .ok (.iload 8, 2) := by decide +kernel
theorem d8_47 : decode prog_19_method_2_code 47 = .ok (.iload 7, 2) := by decide +kernel
theorem d8_49 : decode prog_19_method_2_code 49 = .ok (.if_icmp .ge 79, 3) := by decide +kernel
theorem d8_52 : decode prog_19_method_2_code 52 = .ok (.aload 6, 2) := by decide +kernel
theorem d8_54 : decode prog_19_method_2_code 54 = .ok (.iload 8, 2) := by decide +kernel
theorem d8_56 : decode prog_19_method_2_code 56 = .ok (.iaload, 1) := by decide +kernel
theorem d8_57 : decode prog_19_method_2_code 57 = .ok (.istore 9, 2) := by decide +kernel
theorem d8_59 : decode prog_19_method_2_code 59 = .ok (.iload 9, 2) := by decide +kernel
theorem d8_61 : decode prog_19_method_2_code 61 = .ok (.aload_n 2, 1) := by decide +kernel
theorem d8_62 : decode prog_19_method_2_code 62 = .ok (.arraylength, 1) := by decide +kernel
theorem d8_63 : decode prog_19_method_2_code 63 = .ok (.if_icmp .lt 5, 3) := by decide +kernel
theorem d8_66 : decode prog_19_method_2_code 66 = .ok (.aconst_null, 1) := by decide +kernel
theorem d8_67 : decode prog_19_method_2_code 67 = .ok (.areturn, 1) := by decide +kernel
theorem d8_68 : decode prog_19_method_2_code 68 = .ok (.aload_n 2, 1) := by decide +kernel
theorem d8_69 : decode prog_19_method_2_code 69 = .ok (.iload 9, 2) := by decide +kernel
theorem d8_71 : decode prog_19_method_2_code 71 = .ok (.baload, 1) := by decide +kernel
theorem d8_72 : decode prog_19_method_2_code 72 = .ok (.ifCond .ne 19, 3) := by decide +kernel
theorem d8_75 : decode prog_19_method_2_code 75 = .ok (.aload_n 2, 1) := by decide +kernel
theorem d8_76 : decode prog_19_method_2_code 76 = .ok (.iload 9, 2) := by decide +kernel
theorem d8_78 : decode prog_19_method_2_code 78 = .ok (.iload 4, 2) := by decide +kernel
theorem d8_80 : decode prog_19_method_2_code 80 = .ok (.i2b, 1) := by decide +kernel
theorem d8_81 : decode prog_19_method_2_code 81 = .ok (.bastore, 1) := by decide +kernel
theorem d8_82 : decode prog_19_method_2_code 82 = .ok (.aload_n 3, 1) := by decide +kernel
theorem d8_83 : decode prog_19_method_2_code 83 = .ok (.iload 4, 2) := by decide +kernel
theorem d8_85 : decode prog_19_method_2_code 85 = .ok (.iinc 4 1, 3) := by decide +kernel
theorem d8_88 : decode prog_19_method_2_code 88 = .ok (.iload 9, 2) := by decide +kernel
theorem d8_90 : decode prog_19_method_2_code 90 = .ok (.iastore, 1) := by decide +kernel
theorem d8_91 : decode prog_19_method_2_code 91 = .ok (.iconst 1, 1) := by decide +kernel
theorem d8_92 : decode prog_19_method_2_code 92 = .ok (.iload 5, 2) := by decide +kernel
theorem d8_94 : decode prog_19_method_2_code 94 = .ok (.ishl, 1) := by decide +kernel
theorem d8_95 : decode prog_19_method_2_code 95 = .ok (.iload 4, 2) := by decide +kernel
theorem d8_97 : decode prog_19_method_2_code 97 = .ok (.iload 4, 2) := by decide +kernel
theorem d8_99 : decode prog_19_method_2_code 99 = .ok (.imul, 1) := by decide +kernel
theorem d8_100 : decode prog_19_method_2_code 100 = .ok (.if_icmp .ge 9, 3) := by decide +kernel
theorem d8_103 : decode prog_19_method_2_code 103 = .ok (.iinc 5 1, 3) := by decide +kernel
theorem d8_106 : decode prog_19_method_2_code 106 = .ok (.goto (-15), 3) := by decide +kernel
theorem d8_109 : decode prog_19_method_2_code 109 = .ok (.aload_n 0, 1) := by decide +kernel
theorem d8_110 : decode prog_19_method_2_code 110 = .ok (.arraylength, 1) := by decide +kernel
theorem d8_111 : decode prog_19_method_2_code 111 = .ok (.iload 5, 2) := by decide +kernel
theorem d8_113 : decode prog_19_method_2_code 113 = .ok (.ishl, 1) := by decide +kernel
theorem d8_114 : decode prog_19_method_2_code 114 = .ok (.sipush 4096, 3) := by decide +kernel
theorem d8_117 : decode prog_19_method_2_code 117 = .ok (.if_icmp .le 5, 3) := by decide +kernel
theorem d8_122 : decode prog_19_method_2_code 122 = .ok (.iinc 8 1, 3) := by decide +kernel
theorem d8_125 : decode prog_19_method_2_code 125 = .ok (.goto (-80), 3) := by decide +kernel
theorem d8_128 : decode prog_19_method_2_code 128 = .ok (.aload_n 0, 1) := by decide +kernel
theorem d8_129 : decode prog_19_method_2_code 129 = .ok (.arraylength, 1) := by decide +kernel
theorem d8_130 : decode prog_19_method_2_code 130 = .ok (.iload 5, 2) := by decide +kernel
theorem d8_132 : decode prog_19_method_2_code 132 = .ok (.ishl, 1) := by decide +kernel
theorem d8_133 : decode prog_19_method_2_code 133 = .ok (.newarray .int, 2) := by decide +kernel
theorem d8_135 : decode prog_19_method_2_code 135 = .ok (.astore 6, 2) := by decide +kernel
theorem d8_137 : decode prog_19_method_2_code 137 = .ok (.iconst 0, 1) := by decide +kernel
theorem d8_138 : decode prog_19_method_2_code 138 = .ok (.istore 7, 2) := by decide +kernel
theorem d8_140 : decode prog_19_method_2_code 140 = .ok (.iload 7, 2) := by decide +kernel
theorem d8_142 : decode prog_19_method_2_code 142 = .ok (.aload_n 0, 1) := by decide +kernel
theorem d8_143 : decode prog_19_method_2_code 143 = .ok (.arraylength, 1) := by decide +kernel
theorem d8_144 : decode prog_19_method_2_code 144 = .ok (.if_icmp .ge 138, 3) := by decide +kernel
theorem d8_147 : decode prog_19_method_2_code 147 = .ok (.iconst 0, 1) := by decide +kernel
theorem d8_148 : decode prog_19_method_2_code 148 = .ok (.istore 8, 2) := by decide +kernel
theorem d8_150 : decode prog_19_method_2_code 150 = .ok (.iload 8, 2) := by decide +kernel
theorem d8_152 : decode prog_19_method_2_code 152 = .ok (.iload 4, 2) := by decide +kernel
theorem d8_154 : decode prog_19_method_2_code 154 = .ok (.if_icmp .ge 122, 3) := by decide +kernel
theorem d8_157 : decode prog_19_method_2_code 157 = .ok (.iload 8, 2) := by decide +kernel
theorem d8_159 : decode prog_19_method_2_code 159 = .ok (.ifCond .ne 7, 3) := by decide +kernel
theorem d8_162 : decode prog_19_method_2_code 162 = .ok (.iconst 0, 1) := by decide +kernel
theorem d8_163 : decode prog_19_method_2_code 163 = .ok (.goto 15, 3) := by decide +kernel
theorem d8_166 : decode prog_19_method_2_code 166 = .ok (.aload_n 1, 1) := by decide +kernel
theorem d8_167 : decode prog_19_method_2_code 167 = .ok (.iload 7, 2) := by decide +kernel
theorem d8_169 : decode prog_19_method_2_code 169 = .ok (.aload_n 3, 1) := by decide +kernel
theorem d8_170 : decode prog_19_method_2_code 170 = .ok (.iload 8, 2) := by decide +kernel
theorem d8_172 : decode prog_19_method_2_code 172 = .ok (.iaload, 1) := by decide +kernel
theorem d8_173 : decode prog_19_method_2_code 173 = .ok (.invokeinterface 27 3, 5) := by decide +kernel
theorem d8_178 : decode prog_19_method_2_code 178 = .ok (.istore 9, 2) := by decide +kernel
theorem d8_180 : decode prog_19_method_2_code 180 = .ok (.iconst 0, 1) := by decide +kernel
theorem d8_181 : decode prog_19_method_2_code 181 = .ok (.istore 10, 2) := by decide +kernel
theorem d8_183 : decode prog_19_method_2_code 183 = .ok (.iload 10, 2) := by decide +kernel
theorem d8_185 : decode prog_19_method_2_code 185 = .ok (.iload 4, 2) := by decide +kernel
theorem d8_187 : decode prog_19_method_2_code 187 = .ok (.if_icmp .ge 83, 3) := by decide +kernel
theorem d8_190 : decode prog_19_method_2_code 190 = .ok (.iload 9, 2) := by decide +kernel
theorem d8_192 : decode prog_19_method_2_code 192 = .ok (.aload_n 0, 1) := by decide +kernel
theorem d8_193 : decode prog_19_method_2_code 193 = .ok (.arraylength, 1) := by decide +kernel
theorem d8_194 : decode prog_19_method_2_code 194 = .ok (.if_icmp .ne 9, 3) := by decide +kernel
theorem d8_197 : decode prog_19_method_2_code 197 = .ok (.iconst (-1), 1) := by decide +kernel
theorem d8_198 : decode prog_19_method_2_code 198 = .ok (.istore 11, 2) := by decide +kernel
theorem d8_200 : decode prog_19_method_2_code 200 = .ok (.goto 45, 3) := by decide +kernel
theorem d8_203 : decode prog_19_method_2_code 203 = .ok (.iload 10, 2) := by decide +kernel
theorem d8_205 : decode prog_19_method_2_code 205 = .ok (.ifCond .ne 7, 3) := by decide +kernel
theorem d8_208 : decode prog_19_method_2_code 208 = .ok (.iconst 0, 1) := by decide +kernel
theorem d8_209 : decode prog_19_method_2_code 209 = .ok (.goto 15, 3) := by decide +kernel
theorem d8_212 : decode prog_19_method_2_code 212 = .ok (.aload_n 1, 1) := by decide +kernel
theorem d8_213 : decode prog_19_method_2_code 213 = .ok (.iload 9, 2) := by decide +kernel
theorem d8_215 : decode prog_19_method_2_code 215 = .ok (.aload_n 3, 1) := by decide +kernel
theorem d8_216 : decode prog_19_method_2_code 216 = .ok (.iload 10, 2) := by decide +kernel
theorem d8_218 : decode prog_19_method_2_code 218 = .ok (.iaload, 1) := by decide +kernel
theorem d8_219 : decode prog_19_method_2_code 219 = .ok (.invokeinterface 27 3, 5) := by decide +kernel
theorem d8_224 : decode prog_19_method_2_code 224 = .ok (.istore 12, 2) := by decide +kernel
theorem d8_226 : decode prog_19_method_2_code 226 = .ok (.iload 12, 2) := by decide +kernel
theorem d8_228 : decode prog_19_method_2_code 228 = .ok (.aload_n 0, 1) := by decide +kernel
theorem d8_229 : decode prog_19_method_2_code 229 = .ok (.arraylength, 1) := by decide +kernel
theorem d8_230 : decode prog_19_method_2_code 230 = .ok (.if_icmp .ne 8, 3) := by decide +kernel
theorem d8_233 : decode prog_19_method_2_code 233 = .ok (.bipush (-2), 2) := by decide +kernel
theorem d8_235 : decode prog_19_method_2_code 235 = .ok (.goto 8, 3) := by decide +kernel
theorem d8_238 : decode prog_19_method_2_code 238 = .ok (.iload 12, 2) := by decide +kernel
theorem d8_240 : decode prog_19_method_2_code 240 = .ok (.iload 5, 2) := by decide +kernel
theorem d8_242 : decode prog_19_method_2_code 242 = .ok (.ishl, 1) := by decide +kernel
theorem d8_243 : decode prog_19_method_2_code 243 = .ok (.istore 11, 2) := by decide +kernel
theorem d8_245 : decode prog_19_method_2_code 245 = .ok (.aload 6, 2) := by decide +kernel
theorem d8_247 : decode prog_19_method_2_code 247 = .ok (.iload 7, 2) := by decide +kernel
theorem d8_249 : decode prog_19_method_2_code 249 = .ok (.iload 5, 2) := by decide +kernel
theorem d8_251 : decode prog_19_method_2_code 251 = .ok (.ishl, 1) := by decide +kernel
theorem d8_252 : decode prog_19_method_2_code 252 = .ok (.iload 8, 2) := by decide +kernel
theorem d8_254 : decode prog_19_method_2_code 254 = .ok (.iload 4, 2) := by decide +kernel
theorem d8_256 : decode prog_19_method_2_code 256 = .ok (.imul, 1) := by decide +kernel
theorem d8_257 : decode prog_19_method_2_code 257 = .ok (.iadd, 1) := by decide +kernel
theorem d8_258 : decode prog_19_method_2_code 258 = .ok (.iload 10, 2) := by decide +kernel
theorem d8_260 : decode prog_19_method_2_code 260 = .ok (.iadd, 1) := by decide +kernel
theorem d8_261 : decode prog_19_method_2_code 261 = .ok (.iload 11, 2) := by decide +kernel
theorem d8_263 : decode prog_19_method_2_code 263 = .ok (.iastore, 1) := by decide +kernel
theorem d8_264 : decode prog_19_method_2_code 264 = .ok (.iinc 10 1, 3) := by decide +kernel
theorem d8_267 : decode prog_19_method_2_code 267 = .ok (.goto (-84), 3) := by decide +kernel
theorem d8_270 : decode prog_19_method_2_code 270 = .ok (.iinc 8 1, 3) := by decide +kernel
theorem d8_273 : decode prog_19_method_2_code 273 = .ok (.goto (-123), 3) := by decide +kernel
theorem d8_276 : decode prog_19_method_2_code 276 = .ok (.iinc 7 1, 3) := by decide +kernel
theorem d8_279 : decode prog_19_method_2_code 279 = .ok (.goto (-139), 3) := by decide +kernel
theorem d8_282 : decode prog_19_method_2_code 282 = .ok (.new 8, 3) := by decide +kernel
theorem d8_285 : decode prog_19_method_2_code 285 = .ok (.dup, 1) := by decide +kernel
theorem d8_286 : decode prog_19_method_2_code 286 = .ok (.aload_n 0, 1) := by decide +kernel
theorem d8_287 : decode prog_19_method_2_code 287 = .ok (.arraylength, 1) := by decide +kernel
theorem d8_288 : decode prog_19_method_2_code 288 = .ok (.aload_n 2, 1) := by decide +kernel
theorem d8_289 : decode prog_19_method_2_code 289 = .ok (.iload 4, 2) := by decide +kernel
theorem d8_291 : decode prog_19_method_2_code 291 = .ok (.iload 5, 2) := by decide +kernel
theorem d8_293 : decode prog_19_method_2_code 293 = .ok (.aload 6, 2) := by decide +kernel
theorem d8_295 : decode prog_19_method_2_code 295 = .ok (.invokespecial 33, 3) := by decide +kernel
theorem d8_298 : decode prog_19_method_2_code 298 = .ok (.areturn, 1) := by decide +kernel
theorem d9_0 : decode prog_1_method_4_code 0 = .ok (.aload_n 0, 1) := by decide +kernel
theorem d9_1 : decode prog_1_method_4_code 1 = .ok (.invokespecial 32, 3) := by decide +kernel
theorem d9_4 : decode prog_1_method_4_code 4 = .ok (.aload_n 0, 1) := by decide +kernel
theorem d9_5 : decode prog_1_method_4_code 5 = .ok (.aload_n 1, 1) := by decide +kernel
theorem d9_6 : decode prog_1_method_4_code 6 = .ok (.putfield 37, 3) := by decide +kernel
theorem d9_9 : decode prog_1_method_4_code 9 = .ok (.aload_n 0, 1) := by decide +kernel
theorem d9_10 : decode prog_1_method_4_code 10 = .ok (.aload_n 2, 1) := by decide +kernel
theorem d9_11 : decode prog_1_method_4_code 11 = .ok (.putfield 41, 3) := by decide +kernel
theorem d9_14 : decode prog_1_method_4_code 14 = .ok (.aload_n 0, 1) := by decide +kernel
theorem d9_15 : decode prog_1_method_4_code 15 = .ok (.aload_n 3, 1) := by decide +kernel
theorem d9_16 : decode prog_1_method_4_code 16 = .ok (.putfield 44, 3) := by decide +kernel
theorem d9_19 : decode prog_1_method_4_code 19 = .ok (.aload_n 0, 1) := by decide +kernel
theorem d9_20 : decode prog_1_method_4_code 20 = .ok (.aload 4, 2) := by decide +kernel
theorem d9_22 : decode prog_1_method_4_code 22 = .ok (.putfield 47, 3) := by decide +kernel
theorem d9_25 : decode prog_1_method_4_code 25 = .ok (.aload_n 0, 1) := by decide +kernel
theorem d9_26 : decode prog_1_method_4_code 26 = .ok (.iload 5, 2) := by decide +kernel
theorem d9_28 : decode prog_1_method_4_code 28 = .ok (.ifCond .eq 17, 3) := by decide +kernel
theorem d9_31 : decode prog_1_method_4_code 31 = .ok (.aload_n 1, 1) := by decide +kernel
theorem d9_32 : decode prog_1_method_4_code 32 = .ok (.arraylength, 1) := by decide +kernel
theorem d9_33 : decode prog_1_method_4_code 33 = .ok (.ifCond .le 12, 3) := by decide +kernel
theorem d9_36 : decode prog_1_method_4_code 36 = .ok (.aload_n 2, 1) := by decide +kernel
theorem d9_37 : decode prog_1_method_4_code 37 = .ok (.aload_n 1, 1) := by decide +kernel
theorem d9_38 : decode prog_1_method_4_code 38 = .ok (.arraylength, 1) := by decide +kernel
theorem d9_39 : decode prog_1_method_4_code 39 = .ok (.iconst 1, 1) := by decide +kernel
theorem d9_40 : decode prog_1_method_4_code 40 = .ok (.isub, 1) := by decide +kernel
theorem d9_41 : decode prog_1_method_4_code 41 = .ok (.iaload, 1) := by decide +kernel
theorem d9_42 : decode prog_1_method_4_code 42 = .ok (.goto 4, 3) := by decide +kernel
theorem d9_45 : decode prog_1_method_4_code 45 = .ok (.iconst 0, 1) := by decide +kernel
theorem d9_46 : decode prog_1_method_4_code 46 = .ok (.putfield 51, 3) := by decide +kernel
theorem d9_49 : decode prog_1_method_4_code 49 = .ok (.aload_n 0, 1) := by decide +kernel
theorem d9_50 : decode prog_1_method_4_code 50 = .ok (.aload_n 1, 1) := by decide +kernel
theorem d9_51 : decode prog_1_method_4_code 51 = .ok (.invokestatic 55, 3) := by decide +kernel
theorem d9_54 : decode prog_1_method_4_code 54 = .ok (.putfield 59, 3) := by decide +kernel
theorem d9_57 : decode prog_1_method_4_code 57 = .ok (.return_, 1) := by decide +kernel
theorem d11_0 : decode prog_1_method_16_code 0 = .ok (.iconst 0, 1) := by decide +kernel
theorem d11_1 : decode prog_1_method_16_code 1 = .ok (.istore_n 1, 1) := by decide +kernel
theorem d11_2 : decode prog_1_method_16_code 2 = .ok (.iload_n 1, 1) := by decide +kernel
theorem d11_3 : decode prog_1_method_16_code 3 = .ok (.aload_n 0, 1) := by decide +kernel
theorem d11_4 : decode prog_1_method_16_code 4 = .ok (.arraylength, 1) := by decide +kernel
theorem d11_5 : decode prog_1_method_16_code 5 = .ok (.if_icmp .ge 18, 3) := by decide +kernel
theorem d11_8 : decode prog_1_method_16_code 8 = .ok (.aload_n 0, 1) := by decide +kernel
theorem d11_9 : decode prog_1_method_16_code 9 = .ok (.iload_n 1, 1) := by decide +kernel
theorem d11_10 : decode prog_1_method_16_code 10 = .ok (.iaload, 1) := by decide +kernel
theorem d11_11 : decode prog_1_method_16_code 11 = .ok (.aload_n 0, 1) := by decide +kernel
theorem d11_12 : decode prog_1_method_16_code 12 = .ok (.iconst 0, 1) := by decide +kernel
theorem d11_13 : decode prog_1_method_16_code 13 = .ok (.iaload, 1) := by decide +kernel
theorem d11_14 : decode prog_1_method_16_code 14 = .ok (.if_icmp .ne 9, 3) := by decide +kernel
theorem d11_17 : decode prog_1_method_16_code 17 = .ok (.iinc 1 1, 3) := by decide +kernel
theorem d11_20 : decode prog_1_method_16_code 20 = .ok (.goto (-18), 3) := by decide +kernel
theorem d11_23 : decode prog_1_method_16_code 23 = .ok (.iload_n 1, 1) := by decide +kernel
theorem d11_24 : decode prog_1_method_16_code 24 = .ok (.aload_n 0, 1) := by decide +kernel
theorem d11_25 : decode prog_1_method_16_code 25 = .ok (.arraylength, 1) := by decide +kernel
theorem d11_26 : decode prog_1_method_16_code 26 = .ok (.if_icmp .ge 7, 3) := by decide +kernel
theorem d11_29 : decode prog_1_method_16_code 29 = .ok (.iload_n 1, 1) := by decide +kernel
theorem d11_30 : decode prog_1_method_16_code 30 = .ok (.goto 4, 3) := by decide +kernel
theorem d11_33 : decode prog_1_method_16_code 33 = .ok (.iconst (-1), 1) := by decide +kernel
theorem d11_34 : decode prog_1_method_16_code 34 = .ok (.ireturn, 1) := by decide +kernel
theorem d12_0 : decode prog_1_method_9_code 0 = .ok (.aload_n 0, 1) := by decide +kernel
theorem d12_1 : decode prog_1_method_9_code 1 = .ok (.getfield 37, 3) := by decide +kernel
theorem d12_4 : decode prog_1_method_9_code 4 = .ok (.arraylength, 1) := by decide +kernel
theorem d12_5 : decode prog_1_method_9_code 5 = .ok (.ifCond .le 18, 3) := by decide +kernel
theorem d12_8 : decode prog_1_method_9_code 8 = .ok (.aload_n 0, 1) := by decide +kernel
theorem d12_9 : decode prog_1_method_9_code 9 = .ok (.getfield 41, 3) := by decide +kernel
theorem d12_12 : decode prog_1_method_9_code 12 = .ok (.aload_n 0, 1) := by decide +kernel
theorem d12_13 : decode prog_1_method_9_code 13 = .ok (.getfield 37, 3) := by decide +kernel
theorem d12_16 : decode prog_1_method_9_code 16 = .ok (.arraylength, 1) := by decide +kernel
theorem d12_17 : decode prog_1_method_9_code 17 = .ok (.iconst 1, 1) := by decide +kernel
theorem d12_18 : decode prog_1_method_9_code 18 = .ok (.isub, 1) := by decide +kernel
theorem d12_19 : decode prog_1_method_9_code 19 = .ok (.iaload, 1) := by decide +kernel
theorem d12_20 : decode prog_1_method_9_code 20 = .ok (.goto 4, 3) := by decide +kernel
theorem d12_23 : decode prog_1_method_9_code 23 = .ok (.iconst 0, 1) := by decide +kernel
theorem d12_24 : decode prog_1_method_9_code 24 = .ok (.ireturn, 1) := by decide +kernel
theorem d13_0 : decode prog_1_method_17_code 0 = .ok (.aload_n 0, 1) := by decide +kernel
theorem d13_1 : decode prog_1_method_17_code 1 = .ok (.aload_n 1, 1) := by decide +kernel
theorem d13_2 : decode prog_1_method_17_code 2 = .ok (.iload_n 2, 1) := by decide +kernel
theorem d13_3 : decode prog_1_method_17_code 3 = .ok (.iload_n 3, 1) := by decide +kernel
theorem d13_4 : decode prog_1_method_17_code 4 = .ok (.invokestatic 67, 3) := by decide +kernel
theorem d13_7 : decode prog_1_method_17_code 7 = .ok (.ireturn, 1) := by decide +kernel
theorem d14_0 : decode prog_1_method_14_code 0 = .ok (.iload_n 2, 1) := by decide +kernel
theorem d14_1 : decode prog_1_method_14_code 1 = .ok (.ifCond .lt 17, 3) := by decide +kernel
theorem d14_4 : decode prog_1_method_14_code 4 = .ok (.aload_n 0, 1) := by decide +kernel
theorem d14_5 : decode prog_1_method_14_code 5 = .ok (.iload_n 2, 1) := by decide +kernel
theorem d14_6 : decode prog_1_method_14_code 6 = .ok (.iaload, 1) := by decide +kernel
theorem d14_7 : decode prog_1_method_14_code 7 = .ok (.iload_n 3, 1) := by decide +kernel
theorem d14_8 : decode prog_1_method_14_code 8 = .ok (.if_icmp .eq 10, 3) := by decide +kernel
theorem d14_11 : decode prog_1_method_14_code 11 = .ok (.aload_n 1, 1) := by decide +kernel
theorem d14_12 : decode prog_1_method_14_code 12 = .ok (.iload_n 2, 1) := by decide +kernel
theorem d14_13 : decode prog_1_method_14_code 13 = .ok (.iaload, 1) := by decide +kernel
theorem d14_14 : decode prog_1_method_14_code 14 = .ok (.istore_n 2, 1) := by decide +kernel
theorem d14_15 : decode prog_1_method_14_code 15 = .ok (.goto (-15), 3) := by decide +kernel
theorem d14_18 : decode prog_1_method_14_code 18 = .ok (.iload_n 2, 1) := by decide +kernel
theorem d14_19 : decode prog_1_method_14_code 19 = .ok (.iconst 1, 1) := by decide +kernel
theorem d14_20 : decode prog_1_method_14_code 20 = .ok (.iadd, 1) := by decide +kernel
theorem d14_21 : decode prog_1_method_14_code 21 = .ok (.ireturn, 1) := by decide +kernel
theorem d15_0 : decode prog_19_method_1_code 0 = .ok (.aload_n 0, 1) := by decide +kernel
theorem d15_1 : decode prog_19_method_1_code 1 = .ok (.invokespecial 1, 3) := by decide +kernel
theorem d15_4 : decode prog_19_method_1_code 4 = .ok (.aload_n 0, 1) := by decide +kernel
theorem d15_5 : decode prog_19_method_1_code 5 = .ok (.iload_n 1, 1) := by decide +kernel
theorem d15_6 : decode prog_19_method_1_code 6 = .ok (.putfield 7, 3) := by decide +kernel
theorem d15_9 : decode prog_19_method_1_code 9 = .ok (.aload_n 0, 1) := by decide +kernel
theorem d15_10 : decode prog_19_method_1_code 10 = .ok (.aload_n 2, 1) := by decide +kernel
theorem d15_11 : decode prog_19_method_1_code 11 = .ok (.putfield 13, 3) := by decide +kernel
theorem d15_14 : decode prog_19_method_1_code 14 = .ok (.aload_n 0, 1) := by decide +kernel
theorem d15_15 : decode prog_19_method_1_code 15 = .ok (.iload_n 3, 1) := by decide +kernel
theorem d15_16 : decode prog_19_method_1_code 16 = .ok (.putfield 17, 3) := by decide +kernel
theorem d15_19 : decode prog_19_method_1_code 19 = .ok (.aload_n 0, 1) := by decide +kernel
theorem d15_20 : decode prog_19_method_1_code 20 = .ok (.iload 4, 2) := by decide +kernel
theorem d15_22 : decode prog_19_method_1_code 22 = .ok (.putfield 20, 3) := by decide +kernel
theorem d15_25 : decode prog_19_method_1_code 25 = .ok (.aload_n 0, 1) := by decide +kernel
theorem d15_26 : decode prog_19_method_1_code 26 = .ok (.aload 5, 2) := by decide +kernel
theorem d15_28 : decode prog_19_method_1_code 28 = .ok (.putfield 23, 3) := by decide +kernel
theorem d15_31 : decode prog_19_method_1_code 31 = .ok (.return_, 1) := by decide +kernel
def own_kw (q : Nat → Nat → Bool) (tab : Nat → Nat) (i : Nat) : Nat → Nat → Nat
  | 0, k => k
  | f + 1, k => if k = 0 then k else if q k i then k else own_kw q tab i f (tab (k - 1))
def own_ks (q : Nat → Nat → Bool) (tab : Nat → Nat) (i k : Nat) : Nat := if q (own_kw q tab i k k) i then own_kw q tab i k k + 1 else own_kw q tab i k k
def own_upn (f : Nat → Nat) (s a : Nat) : Nat → Nat := fun t => if t = s then a else f t
def own_kmp (q : Nat → Nat → Bool) : Nat → Nat × (Nat → Nat)
  | 0 => (0, fun _ => 0)
  | i + 1 => (own_ks q (own_kmp q i).2 (i + 1) (own_kmp q i).1, own_upn (own_kmp q i).2 (i + 1) (own_ks q (own_kmp q i).2 (i + 1) (own_kmp q i).1))
def own_eqs (q : Nat → Nat → Bool) (i k : Nat) : Bool := (List.range k).all fun j => q j (i - k + 1 + j)
def own_bd (q : Nat → Nat → Bool) (i : Nat) : Nat :=
  if 5 ≤ i ∧ own_eqs q i 5 = true then 5 else if 4 ≤ i ∧ own_eqs q i 4 = true then 4 else if 3 ≤ i ∧ own_eqs q i 3 = true then 3 else if 2 ≤ i ∧ own_eqs q i 2 = true then 2 else if 1 ≤ i ∧ own_eqs q i 1 = true then 1 else 0
def own_bq (b01 b02 b12 b03 b13 b23 b04 b14 b24 b34 b05 b15 b25 b35 b45 : Bool) (i j : Nat) : Bool :=
  let g (i j : Nat) : Bool := match i, j with
    | 0, 1 => b01 | 0, 2 => b02 | 1, 2 => b12 | 0, 3 => b03 | 1, 3 => b13 | 2, 3 => b23 | 0, 4 => b04 | 1, 4 => b14 | 2, 4 => b24 | 3, 4 => b34 | 0, _ => b05 | 1, _ => b15 | 2, _ => b25 | 3, _ => b35 | _, _ => b45
  if min i 5 = min j 5 then true else if min i 5 < min j 5 then g (min i 5) (min j 5) else g (min j 5) (min i 5)
def own_chk (q : Nat → Nat → Bool) : Bool := [0, 1, 2, 3, 4, 5].all fun m => (List.range (m + 1)).all fun i => (own_kmp q m).2 i == own_bd q i
/-- three truths of an equality -/
def own_tr (a b c : Bool) : Bool := !((a && b && !c) || (a && !b && c) || (!a && b && c))
theorem own_all : ∀ b01 b02 b12 : Bool, own_tr b01 b12 b02 = true → ∀ b03 b13 b23 : Bool, (own_tr b01 b13 b03 && own_tr b02 b23 b03 && own_tr b12 b23 b13) = true →
    ∀ b04 b14 b24 b34 : Bool, (own_tr b01 b14 b04 && own_tr b02 b24 b04 && own_tr b12 b24 b14 && own_tr b03 b34 b04 && own_tr b13 b34 b14 && own_tr b23 b34 b24) = true →
    ∀ b05 b15 b25 b35 b45 : Bool, (own_tr b01 b15 b05 && own_tr b02 b25 b05 && own_tr b12 b25 b15 && own_tr b03 b35 b05 && own_tr b13 b35 b15 && own_tr b23 b35 b25 && own_tr b04 b45 b05 && own_tr b14 b45 b15 && own_tr b24 b45 b25 && own_tr b34 b45 b35) = true →
    own_chk (own_bq b01 b02 b12 b03 b13 b23 b04 b14 b24 b34 b05 b15 b25 b35 b45) = true := by decide +kernel
def own_eqf (p : Nat → Int32) (i j : Nat) : Bool := decide (p i = p j)
theorem own_trp {α : Type} [DecidableEq α] (x y z : α) : own_tr (decide (x = y)) (decide (y = z)) (decide (x = z)) = true := by
  by_cases h1 : x = y <;> by_cases h2 : y = z <;> by_cases h3 : x = z <;> simp_all [own_tr]
theorem own_chk_p (p : Nat → Int32) (hp : ∀ i, 5 ≤ i → p i = p 5) : own_chk (own_eqf p) = true := by
  have e : own_eqf p = own_bq (decide (p 0 = p 1)) (decide (p 0 = p 2)) (decide (p 1 = p 2)) (decide (p 0 = p 3)) (decide (p 1 = p 3)) (decide (p 2 = p 3)) (decide (p 0 = p 4)) (decide (p 1 = p 4)) (decide (p 2 = p 4)) (decide (p 3 = p 4)) (decide (p 0 = p 5)) (decide (p 1 = p 5)) (decide (p 2 = p 5)) (decide (p 3 = p 5)) (decide (p 4 = p 5)) := by
    funext i j
    have hi : p i = p (min i 5) := by
      by_cases h : 5 ≤ i
      · rw [hp i h, Nat.min_eq_right h]
      · rw [Nat.min_eq_left (by omega)]
    have hj : p j = p (min j 5) := by
      by_cases h : 5 ≤ j
      · rw [hp j h, Nat.min_eq_right h]
      · rw [Nat.min_eq_left (by omega)]
    have li : min i 5 ≤ 5 := Nat.min_le_right _ _
    have lj : min j 5 ≤ 5 := Nat.min_le_right _ _
    unfold own_eqf own_bq
    rw [hi, hj]
    generalize min i 5 = a at li
    generalize min j 5 = b at lj
    match a, li, b, lj with
    | 0, _, 0, _ | 1, _, 1, _ | 2, _, 2, _ | 3, _, 3, _ | 4, _, 4, _ | 5, _, 5, _ => simp
    | 0, _, 1, _ | 0, _, 2, _ | 0, _, 3, _ | 0, _, 4, _ | 0, _, 5, _ | 1, _, 2, _ | 1, _, 3, _ | 1, _, 4, _ | 1, _, 5, _ | 2, _, 3, _ | 2, _, 4, _ | 2, _, 5, _ | 3, _, 4, _ | 3, _, 5, _ | 4, _, 5, _ => simp
    | 1, _, 0, _ | 2, _, 0, _ | 3, _, 0, _ | 4, _, 0, _ | 5, _, 0, _ | 2, _, 1, _ | 3, _, 1, _ | 4, _, 1, _ | 5, _, 1, _ | 3, _, 2, _ | 4, _, 2, _ | 5, _, 2, _ | 4, _, 3, _ | 5, _, 3, _ | 5, _, 4, _ => simp [eq_comm]
  rw [e]
  refine own_all _ _ _ (own_trp _ _ _) _ _ _ ?_ _ _ _ _ ?_ _ _ _ _ _ ?_ <;> simp only [own_trp, Bool.and_self]
theorem own_tab_bd (p : Nat → Int32) (hp : ∀ i, 5 ≤ i → p i = p 5) {m i : Nat} (hm : m ≤ 5) (hi : i ≤ m) : (own_kmp (own_eqf p) m).2 i = own_bd (own_eqf p) i := by
  have h := own_chk_p p hp
  unfold own_chk at h
  rw [List.all_eq_true] at h
  have h2 := h m (by have : m = 0 ∨ m = 1 ∨ m = 2 ∨ m = 3 ∨ m = 4 ∨ m = 5 := by omega
                     rcases this with rfl | rfl | rfl | rfl | rfl | rfl <;> simp)
  rw [List.all_eq_true] at h2
  have h3 := h2 i (List.mem_range.mpr (by omega))
  simpa using h3
theorem own_kw_le (q : Nat → Nat → Bool) (tab : Nat → Nat) (i : Nat) (ht : ∀ j, tab j ≤ j) : ∀ f k, own_kw q tab i f k ≤ k
  | 0, k => Nat.le_refl k
  | f + 1, k => by
    unfold own_kw
    split
    · exact Nat.le_refl k
    · split
      · exact Nat.le_refl k
      · have := own_kw_le q tab i ht f (tab (k - 1))
        have h2 := ht (k - 1)
        omega
theorem own_kmp_le (q : Nat → Nat → Bool) : ∀ i, (own_kmp q i).1 ≤ i ∧ ∀ j, (own_kmp q i).2 j ≤ j
  | 0 => ⟨Nat.le_refl _, fun j => Nat.zero_le j⟩
  | i + 1 => by
    obtain ⟨h1, h2⟩ := own_kmp_le q i
    have h3 := own_kw_le q (own_kmp q i).2 (i + 1) h2 (own_kmp q i).1 (own_kmp q i).1
    have h4 : own_ks q (own_kmp q i).2 (i + 1) (own_kmp q i).1 ≤ i + 1 := by
      unfold own_ks; split <;> omega
    refine ⟨h4, fun j => ?_⟩
    show own_upn _ _ _ j ≤ j
    unfold own_upn
    split
    · subst_vars; exact h4
    · exact h2 j
def own_tn (n : Nat) (v : Nat → Int32) : List Value := (List.range n).map fun t => .int (v t)
theorem own_tn_len (n : Nat) (v : Nat → Int32) : (own_tn n v).length = n := by simp [own_tn]
theorem own_tn_get {n : Nat} (v : Nat → Int32) {t : Nat} (h : t < n) : (own_tn n v)[t]? = some (.int (v t)) := by simp [own_tn, List.getElem?_range h]
theorem own_tn_at {n : Nat} {v : Nat → Int32} {z : Int32} {j : Nat} (hz : z.toInt.toNat = j) (hj : j < n) : (own_tn n v)[z.toInt.toNat]? = some (.int (v j)) := by rw [hz]; exact own_tn_get v hj
theorem own_i32 {n : Nat} (h : n < 2147483648) : n.toInt32.toInt = (n : Int) := by
  have : n.toInt32 = Int32.ofNat n := rfl
  rw [this]; exact Int32.toInt_ofNat_of_lt (by simpa using h)
theorem own_il {n : Nat} {v : Nat → Int32} {z : Int32} {j : Nat} (hz : z.toInt = (j : Int)) (hj : j < n) : Inb z (own_tn n v).length := by rw [own_tn_len]; exact ⟨by omega, by omega⟩
theorem own_ilt {z : Int32} {j : Nat} (hz : z.toInt = (j : Int)) : z.toInt.toNat = j := by omega
theorem own_inc (k : Nat) : k.toInt32 + (1 : Int32) = (k + 1).toInt32 := by
  show Int32.ofNat k + 1 = Int32.ofNat (k + 1)
  rw [Int32.ofNat_add]; rfl
theorem own_dec {k : Nat} (h : 0 < k) (h2 : k < 2147483648) : (k.toInt32 - (1 : Int32)).toInt = ((k - 1 : Nat) : Int) := by
  have e := c_isub k.toInt32 (1 : Int32)
  have e1 := own_i32 h2
  have e2 : (1 : Int32).toInt = 1 := rfl
  have r := rng32 (k.toInt32 - (1 : Int32))
  omega
theorem own_lt32 {i n : Nat} (hi : i < 2147483648) (hn : n < 2147483648) : i.toInt32 < n.toInt32 ↔ i < n := by
  rw [Int32.lt_iff_toInt_lt, own_i32 hi, own_i32 hn]; omega
def own_upd {α : Type} (f : Nat → α) (s : Nat) (a : α) : Nat → α := fun t => if t = s then a else f t
theorem own_tn_upd {n : Nat} (v : Nat → Int32) (i : Nat) (x : Int32) : (own_tn n v).set i (.int x) = own_tn n (own_upd v i x) := by
  apply List.ext_getElem?
  intro j
  by_cases hj : j < n
  · rw [own_tn_get _ hj, List.getElem?_set]
    by_cases ht : i = j
    · subst ht; simp [own_tn_len, hj, own_upd]
    · rw [if_neg ht, own_tn_get _ hj]; simp [own_upd, Ne.symm ht]
  · rw [List.getElem?_eq_none (by simp [own_tn_len]; omega), List.getElem?_eq_none (by simp [own_tn_len]; omega)]
def own_tb (p : Nat → Int32) (n i : Nat) : Int32 := ((own_kmp (own_eqf p) (n - 1)).2 i).toInt32
theorem own_tn_set {n : Nat} (tab : Nat → Nat) (i k : Nat) : (own_tn n fun t => (tab t).toInt32).set i (.int k.toInt32) = own_tn n fun t => (own_upn tab i k t).toInt32 := by
  apply List.ext_getElem?
  intro j
  by_cases hj : j < n
  · rw [own_tn_get _ hj, List.getElem?_set]
    by_cases ht : i = j
    · subst ht; simp [own_tn_len, hj, own_upn]
    · rw [if_neg ht, own_tn_get _ hj]; simp [own_upn, Ne.symm ht]
  · rw [List.getElem?_eq_none (by simp [own_tn_len]; omega), List.getElem?_eq_none (by simp [own_tn_len]; omega)]
theorem own_nk {n k : Nat} (hn : n ≤ 6) (hk : k ≤ 6) (h : n.toInt32 = k.toInt32) : n = k := by
  have e := congrArg Int32.toInt h
  rw [own_i32 (by omega), own_i32 (by omega)] at e
  omega
theorem own_sumi {a b : Nat} (h : a + b < 2147483648) : (a.toInt32 + b.toInt32).toInt = ((a + b : Nat) : Int) := by
  rw [show a.toInt32 + b.toInt32 = (a + b).toInt32 by show Int32.ofNat a + Int32.ofNat b = Int32.ofNat (a + b); rw [Int32.ofNat_add]]
  exact own_i32 h
theorem own_subn {n k : Nat} (hk : k < n) (hn : n ≤ 6) : n.toInt32 - k.toInt32 = (n - k).toInt32 := by
  have e := c_isub n.toInt32 k.toInt32
  have e1 := own_i32 (n := n) (by omega)
  have e2 := own_i32 (n := k) (by omega)
  have r := rng32 (n.toInt32 - k.toInt32)
  rw [← Int32.toInt_inj, own_i32 (by omega)]
  omega
theorem own_tn_updz {n i : Nat} {v : Nat → Int32} {z x : Int32} (hz : z.toInt = (i : Int)) : (own_tn n v).set z.toInt.toNat (.int x) = own_tn n (own_upd v i x) := by rw [own_ilt hz, own_tn_upd]
theorem own_repz {Z : State} {h : Heap} {a : Addr} {ty : FieldType} {z : Int32} {n : Nat} (hz : z.toInt = (n : Int)) (V : Lst Z h a ty (List.replicate z.toInt.toNat (.int (0 : Int32)))) : Lst Z h a ty (own_tn n fun _ => (0 : Int32)) := by
  rw [own_ilt hz] at V
  have e2 : List.replicate n (Value.int (0 : Int32)) = own_tn n (fun _ => (0 : Int32)) := by
    show _ = (List.range n).map (fun _ => Value.int (0 : Int32))
    rw [List.map_const', List.length_range]
  rw [← e2]; exact V
theorem own_pz {i : Nat} (h : ¬ i.toInt32 = (0 : Int32)) : 0 < i := by
  rcases Nat.eq_zero_or_pos i with rfl | q
  · exact absurd rfl h
  · exact q
theorem own_nneg {i : Nat} (h : i < 2147483648) : ¬ i.toInt32 < (0 : Int32) := by
  rw [Int32.lt_iff_toInt_lt, own_i32 h, show (0 : Int32).toInt = 0 from rfl]; omega
theorem own_fbu {fb : Nat → Int32} {i : Nat} {x : Int32} (h : ∀ t, t < i → -1 ≤ (fb t).toInt ∧ (fb t).toInt < (t : Int)) (hx : -1 ≤ x.toInt ∧ x.toInt < (i : Int)) : ∀ t, t < i + 1 → -1 ≤ (own_upd fb i x t).toInt ∧ (own_upd fb i x t).toInt < (t : Int) := by
  intro t ht
  unfold own_upd
  by_cases q : t = i
  · subst q; rw [if_pos rfl]; exact hx
  · rw [if_neg q]; exact h t (by omega)
theorem own_x1 {x : Int32} (h1 : -1 ≤ x.toInt) (h2 : x.toInt < 6) : x + (1 : Int32) = (x.toInt + 1).toNat.toInt32 := by
  have e := c_iadd x (1 : Int32)
  have r := rng32 (x + (1 : Int32))
  have e1 : (1 : Int32).toInt = 1 := rfl
  rw [← Int32.toInt_inj, own_i32 (by omega)]
  omega
theorem own_m0 {x : Int32} : x < (0 : Int32) ↔ x.toInt < 0 := by rw [Int32.lt_iff_toInt_lt, show (0 : Int32).toInt = 0 from rfl]
theorem own_shl0 : ∀ n sh : Fin 7, (n.val.toInt32 <<< (sh.val.toInt32 &&& 31)).toInt = ((n.val * 2 ^ sh.val : Nat) : Int) := by decide +kernel
theorem own_shl {n sh : Nat} (hn : n ≤ 6) (hs : sh ≤ 6) : (n.toInt32 <<< (sh.toInt32 &&& 31)).toInt = ((n * 2 ^ sh : Nat) : Int) := own_shl0 ⟨n, by omega⟩ ⟨sh, by omega⟩
theorem own_p2 {sh : Nat} (hs : sh ≤ 6) : 2 ^ sh ≤ 64 := by
  have : sh = 0 ∨ sh = 1 ∨ sh = 2 ∨ sh = 3 ∨ sh = 4 ∨ sh = 5 ∨ sh = 6 := by omega
  rcases this with rfl | rfl | rfl | rfl | rfl | rfl | rfl <;> decide
theorem own_shb {n sh : Nat} (hn : n ≤ 6) (hs : sh ≤ 6) : n * 2 ^ sh ≤ 384 := by
  have := own_p2 hs
  calc n * 2 ^ sh ≤ 6 * 64 := Nat.mul_le_mul hn this
    _ = 384 := rfl
theorem own_sq0 : ∀ c : Fin 8, ∀ sh : Fin 7, (((1 : Int32) <<< (sh.val.toInt32 &&& 31)) < c.val.toInt32 * c.val.toInt32) ↔ 2 ^ sh.val < c.val * c.val := by decide +kernel
theorem own_sq {c sh : Nat} (hc : c ≤ 7) (hs : sh ≤ 6) : (((1 : Int32) <<< (sh.toInt32 &&& 31)) < c.toInt32 * c.toInt32) ↔ 2 ^ sh < c * c := own_sq0 ⟨c, by omega⟩ ⟨sh, by omega⟩
theorem own_sq49 {c : Nat} (hc : c ≤ 7) : c * c ≤ 49 := Nat.mul_le_mul hc hc
theorem own_xy {x y c : Nat} (hx : x < c) (hy : y < c) : x * c + y < c * c := by
  calc x * c + y < x * c + c := by omega
    _ = (x + 1) * c := by rw [Nat.add_mul, Nat.one_mul]
    _ ≤ c * c := Nat.mul_le_mul (by omega) (Nat.le_refl _)
theorem own_ixn {n st sh x y c : Nat} (hst : st < n) (hx : x < c) (hy : y < c) (hq : c * c ≤ 2 ^ sh) : st * 2 ^ sh + x * c + y < n * 2 ^ sh := by
  have h1 := own_xy hx hy
  calc st * 2 ^ sh + x * c + y < st * 2 ^ sh + 2 ^ sh := by omega
    _ = (st + 1) * 2 ^ sh := by rw [Nat.add_mul, Nat.one_mul]
    _ ≤ n * 2 ^ sh := Nat.mul_le_mul (by omega) (Nat.le_refl _)
theorem own_ix {n st sh x y c : Nat} (hn : n ≤ 6) (hs : sh ≤ 6) (hc : c ≤ 7) (hst : st < n) (hx : x < c) (hy : y < c) (hq : c * c ≤ 2 ^ sh) :
    (((st.toInt32 <<< (sh.toInt32 &&& 31)) + (x.toInt32 * c.toInt32)) + y.toInt32).toInt = ((st * 2 ^ sh + x * c + y : Nat) : Int) := by
  have h1 := own_shl (n := st) (by omega) hs
  have h2 := own_shb (n := st) (by omega) hs
  have h3 := c_imul x.toInt32 c.toInt32
  have h4 := own_sq49 hc
  have h5 := own_xy hx hy
  have r := rng32 (x.toInt32 * c.toInt32)
  have e3 : (x.toInt32 * c.toInt32).toInt = ((x * c : Nat) : Int) := by
    rw [own_i32 (by omega), own_i32 (by omega)] at h3
    have : ((x : Int) * (c : Int)) = ((x * c : Nat) : Int) := by simp
    rw [this] at h3
    generalize x * c = q at *
    omega
  have h6 := c_iadd (st.toInt32 <<< (sh.toInt32 &&& 31)) (x.toInt32 * c.toInt32)
  have r6 := rng32 ((st.toInt32 <<< (sh.toInt32 &&& 31)) + (x.toInt32 * c.toInt32))
  have h7 := c_iadd ((st.toInt32 <<< (sh.toInt32 &&& 31)) + (x.toInt32 * c.toInt32)) y.toInt32
  have r7 := rng32 (((st.toInt32 <<< (sh.toInt32 &&& 31)) + (x.toInt32 * c.toInt32)) + y.toInt32)
  have e7 := own_i32 (n := y) (by omega)
  generalize x * c = q at *
  generalize st * 2 ^ sh = u at *
  omega
theorem own_eqs1 {P : Nat → Int32} {n : Nat} (h : 1 < n) : own_eqs (own_eqf P) (n - 1) 1 = true ↔ P 0 = P (n - 1) := by
  unfold own_eqs own_eqf
  rw [show n - 1 - 1 + 1 = n - 1 by omega]
  simp [List.range, List.range.loop]
theorem own_eqs2 {P : Nat → Int32} {n : Nat} (h : 2 < n) : own_eqs (own_eqf P) (n - 1) 2 = true ↔ P 0 = P (n - 2) ∧ P 1 = P (n - 2 + 1) := by
  unfold own_eqs own_eqf
  rw [show n - 1 - 2 + 1 = n - 2 by omega]
  simp [List.range, List.range.loop]
theorem own_eqs3 {P : Nat → Int32} {n : Nat} (h : 3 < n) : own_eqs (own_eqf P) (n - 1) 3 = true ↔ P 0 = P (n - 3) ∧ P 1 = P (n - 3 + 1) ∧ P 2 = P (n - 3 + 2) := by
  unfold own_eqs own_eqf
  rw [show n - 1 - 3 + 1 = n - 3 by omega]
  simp [List.range, List.range.loop]
theorem own_eqs4 {P : Nat → Int32} {n : Nat} (h : 4 < n) : own_eqs (own_eqf P) (n - 1) 4 = true ↔ P 0 = P (n - 4) ∧ P 1 = P (n - 4 + 1) ∧ P 2 = P (n - 4 + 2) ∧ P 3 = P (n - 4 + 3) := by
  unfold own_eqs own_eqf
  rw [show n - 1 - 4 + 1 = n - 4 by omega]
  simp [List.range, List.range.loop]
theorem own_eqs5 {P : Nat → Int32} {n : Nat} (h : 5 < n) : own_eqs (own_eqf P) (n - 1) 5 = true ↔ P 0 = P (n - 5) ∧ P 1 = P (n - 5 + 1) ∧ P 2 = P (n - 5 + 2) ∧ P 3 = P (n - 5 + 3) ∧ P 4 = P (n - 5 + 4) := by
  unfold own_eqs own_eqf
  rw [show n - 1 - 5 + 1 = n - 5 by omega]
  simp [List.range, List.range.loop]

set_option maxRecDepth 65536 in
set_option maxHeartbeats 40000000 in
theorem ctMk (l : Launch) (Z : State) (a0 : Array Value) (hw : ∀ d ∈ tables_1, d.before a0 Z = true) (sa : Addr) (P : Nat → Int32) (n : Nat) (h0 : Heap) (Vs : Lst Z h0 sa .int (own_tn 6 P)) (hn : n ≤ 6) :
    Ct l Z y1 method_3_code 2 (some (.array .int)) ({ frames := 0, cells := 1, slots := 6, locals := 0 } : Room) #[(.ref sa), (.int n.toInt32)] h0 [] (fun v h => ∃ b, v = some (.ref b) ∧ h0.size ≤ b ∧ Lst Z h b .int (own_tn n P)) := by
  refine Ct.of (plainFor_of_name (by first | (simp [plainName, overriddenIn]; done) | decide +kernel)) ?_
  intro p e s m below meth c T0 X0
  refine Runs.top (g' := mkF m 0 #[.val (.ref sa), .val (.int n.toInt32)] []) (by first | (simp [entryFrame, mkF, argsToLocals, Value.category]; done) | rfl) ?_
  refine X0.iloadN (pc' := 1) d1_0 rfl rfl ?_
  by_cases hc1 : n.toInt32 = (0 : Int32)
  · refine X0.ifNo (pc' := 4) d1_1 (teq hc1).2 rfl ?_
    refine X0.iconst (pc' := 5) (z := 0) d1_4 rfl rfl ?_
    refine X0.newarray (pc' := 7) (ty := .int) rfl (wd_2 hw) d1_5 rfl (cap := 0) ⟨by decide, by decide⟩ (by decide) (by decide) (by decide) (fun T2 h2 b2 X2 g2 E2 V2 => ?_)
    have sz_b2 : h0.size ≤ b2 := g2 ▸ X0.size
    have ne_sa_b2 : sa ≠ b2 := Nat.ne_of_lt (g2 ▸ Vs.lt)
    have Vs_2 := Vs.ext E2
    have V2' : Lst Z h2 b2 .int [] := V2
    obtain rfl : n = 0 := own_nk hn (by decide) hc1
    exact X2.areturn rfl rfl rfl rfl d1_7 (by decide) (by decide) ⟨_, rfl, sz_b2, V2'⟩
  · refine X0.ifYes (pc' := 8) d1_1 (feq hc1).2 (by decide) (by decide) ?_
    refine X0.iloadN (pc' := 9) d1_8 rfl rfl ?_
    refine X0.iconst (pc' := 10) (z := 1) d1_9 rfl rfl ?_
    by_cases hc3 : n.toInt32 = (1 : Int32)
    · refine X0.icmpNo (pc' := 13) d1_10 (teq hc3).2 rfl ?_
      refine X0.iconst (pc' := 14) (z := 1) d1_13 rfl rfl ?_
      refine X0.newarray (pc' := 16) (ty := .int) rfl (wd_2 hw) d1_14 rfl (cap := 1) ⟨by decide, by decide⟩ (by decide) (by decide) (by decide) (fun T4 h4 b4 X4 g4 E4 V4 => ?_)
      have sz_b4 : h0.size ≤ b4 := g4 ▸ X0.size
      have ne_sa_b4 : sa ≠ b4 := Nat.ne_of_lt (g4 ▸ Vs.lt)
      have Vs_4 := Vs.ext E4
      have V4' : Lst Z h4 b4 .int [(.int (0 : Int32))] := V4
      refine X4.dup (pc' := 17) d1_16 rfl rfl ?_
      refine X4.iconst (pc' := 18) (z := 0) d1_17 rfl rfl ?_
      refine X4.aloadN (pc' := 19) d1_18 rfl rfl rfl ?_
      refine X4.iconst (pc' := 20) (z := 0) d1_19 rfl rfl ?_
      refine X4.iaload (pc' := 21) (v := (.int (P 0))) Vs_4 (own_il (z := (0 : Int32)) (j := 0) rfl (by omega)) (own_tn_at (z := (0 : Int32)) (j := 0) rfl (by omega)) d1_20 rfl ?_
      refine X4.iastore (pc' := 22) V4' (show Inb (0 : Int32) 1 from ⟨by decide, by decide⟩) d1_21 rfl (Or.inr sz_b4) (fun T5 h5 X5 W5 => ?_)
      have V5 : Lst Z h5 b4 .int [(.int (P 0))] := V4'.set W5
      have Vs_5 := Vs_4.other W5 ne_sa_b4
      obtain rfl : n = 1 := own_nk hn (by decide) hc3
      exact X5.areturn rfl rfl rfl rfl d1_22 (by decide) (by decide) ⟨_, rfl, sz_b4, V5⟩
    · refine X0.icmpYes (pc' := 23) d1_10 (feq hc3).2 (by decide) (by decide) ?_
      refine X0.iloadN (pc' := 24) d1_23 rfl rfl ?_
      refine X0.iconst (pc' := 25) (z := 2) d1_24 rfl rfl ?_
      by_cases hc6 : n.toInt32 = (2 : Int32)
      · refine X0.icmpNo (pc' := 28) d1_25 (teq hc6).2 rfl ?_
        refine X0.iconst (pc' := 29) (z := 2) d1_28 rfl rfl ?_
        refine X0.newarray (pc' := 31) (ty := .int) rfl (wd_2 hw) d1_29 rfl (cap := 2) ⟨by decide, by decide⟩ (by decide) (by decide) (by decide) (fun T7 h7 b7 X7 g7 E7 V7 => ?_)
        have sz_b7 : h0.size ≤ b7 := g7 ▸ X0.size
        have ne_sa_b7 : sa ≠ b7 := Nat.ne_of_lt (g7 ▸ Vs.lt)
        have Vs_7 := Vs.ext E7
        have V7' : Lst Z h7 b7 .int [(.int (0 : Int32)), (.int (0 : Int32))] := V7
        refine X7.dup (pc' := 32) d1_31 rfl rfl ?_
        refine X7.iconst (pc' := 33) (z := 0) d1_32 rfl rfl ?_
        refine X7.aloadN (pc' := 34) d1_33 rfl rfl rfl ?_
        refine X7.iconst (pc' := 35) (z := 0) d1_34 rfl rfl ?_
        refine X7.iaload (pc' := 36) (v := (.int (P 0))) Vs_7 (own_il (z := (0 : Int32)) (j := 0) rfl (by omega)) (own_tn_at (z := (0 : Int32)) (j := 0) rfl (by omega)) d1_35 rfl ?_
        refine X7.iastore (pc' := 37) V7' (show Inb (0 : Int32) 2 from ⟨by decide, by decide⟩) d1_36 rfl (Or.inr sz_b7) (fun T8 h8 X8 W8 => ?_)
        have V8 : Lst Z h8 b7 .int [(.int (P 0)), (.int (0 : Int32))] := V7'.set W8
        have Vs_8 := Vs_7.other W8 ne_sa_b7
        refine X8.dup (pc' := 38) d1_37 rfl rfl ?_
        refine X8.iconst (pc' := 39) (z := 1) d1_38 rfl rfl ?_
        refine X8.aloadN (pc' := 40) d1_39 rfl rfl rfl ?_
        refine X8.iconst (pc' := 41) (z := 1) d1_40 rfl rfl ?_
        refine X8.iaload (pc' := 42) (v := (.int (P 1))) Vs_8 (own_il (z := (1 : Int32)) (j := 1) rfl (by omega)) (own_tn_at (z := (1 : Int32)) (j := 1) rfl (by omega)) d1_41 rfl ?_
        refine X8.iastore (pc' := 43) V8 (show Inb (1 : Int32) 2 from ⟨by decide, by decide⟩) d1_42 rfl (Or.inr sz_b7) (fun T9 h9 X9 W9 => ?_)
        have V9 : Lst Z h9 b7 .int [(.int (P 0)), (.int (P 1))] := V8.set W9
        have Vs_9 := Vs_8.other W9 ne_sa_b7
        obtain rfl : n = 2 := own_nk hn (by decide) hc6
        exact X9.areturn rfl rfl rfl rfl d1_43 (by decide) (by decide) ⟨_, rfl, sz_b7, V9⟩
      · refine X0.icmpYes (pc' := 44) d1_25 (feq hc6).2 (by decide) (by decide) ?_
        refine X0.iloadN (pc' := 45) d1_44 rfl rfl ?_
        refine X0.iconst (pc' := 46) (z := 3) d1_45 rfl rfl ?_
        by_cases hc10 : n.toInt32 = (3 : Int32)
        · refine X0.icmpNo (pc' := 49) d1_46 (teq hc10).2 rfl ?_
          refine X0.iconst (pc' := 50) (z := 3) d1_49 rfl rfl ?_
          refine X0.newarray (pc' := 52) (ty := .int) rfl (wd_2 hw) d1_50 rfl (cap := 3) ⟨by decide, by decide⟩ (by decide) (by decide) (by decide) (fun T11 h11 b11 X11 g11 E11 V11 => ?_)
          have sz_b11 : h0.size ≤ b11 := g11 ▸ X0.size
          have ne_sa_b11 : sa ≠ b11 := Nat.ne_of_lt (g11 ▸ Vs.lt)
          have Vs_11 := Vs.ext E11
          have V11' : Lst Z h11 b11 .int [(.int (0 : Int32)), (.int (0 : Int32)), (.int (0 : Int32))] := V11
          refine X11.dup (pc' := 53) d1_52 rfl rfl ?_
          refine X11.iconst (pc' := 54) (z := 0) d1_53 rfl rfl ?_
          refine X11.aloadN (pc' := 55) d1_54 rfl rfl rfl ?_
          refine X11.iconst (pc' := 56) (z := 0) d1_55 rfl rfl ?_
          refine X11.iaload (pc' := 57) (v := (.int (P 0))) Vs_11 (own_il (z := (0 : Int32)) (j := 0) rfl (by omega)) (own_tn_at (z := (0 : Int32)) (j := 0) rfl (by omega)) d1_56 rfl ?_
          refine X11.iastore (pc' := 58) V11' (show Inb (0 : Int32) 3 from ⟨by decide, by decide⟩) d1_57 rfl (Or.inr sz_b11) (fun T12 h12 X12 W12 => ?_)
          have V12 : Lst Z h12 b11 .int [(.int (P 0)), (.int (0 : Int32)), (.int (0 : Int32))] := V11'.set W12
          have Vs_12 := Vs_11.other W12 ne_sa_b11
          refine X12.dup (pc' := 59) d1_58 rfl rfl ?_
          refine X12.iconst (pc' := 60) (z := 1) d1_59 rfl rfl ?_
          refine X12.aloadN (pc' := 61) d1_60 rfl rfl rfl ?_
          refine X12.iconst (pc' := 62) (z := 1) d1_61 rfl rfl ?_
          refine X12.iaload (pc' := 63) (v := (.int (P 1))) Vs_12 (own_il (z := (1 : Int32)) (j := 1) rfl (by omega)) (own_tn_at (z := (1 : Int32)) (j := 1) rfl (by omega)) d1_62 rfl ?_
          refine X12.iastore (pc' := 64) V12 (show Inb (1 : Int32) 3 from ⟨by decide, by decide⟩) d1_63 rfl (Or.inr sz_b11) (fun T13 h13 X13 W13 => ?_)
          have V13 : Lst Z h13 b11 .int [(.int (P 0)), (.int (P 1)), (.int (0 : Int32))] := V12.set W13
          have Vs_13 := Vs_12.other W13 ne_sa_b11
          refine X13.dup (pc' := 65) d1_64 rfl rfl ?_
          refine X13.iconst (pc' := 66) (z := 2) d1_65 rfl rfl ?_
          refine X13.aloadN (pc' := 67) d1_66 rfl rfl rfl ?_
          refine X13.iconst (pc' := 68) (z := 2) d1_67 rfl rfl ?_
          refine X13.iaload (pc' := 69) (v := (.int (P 2))) Vs_13 (own_il (z := (2 : Int32)) (j := 2) rfl (by omega)) (own_tn_at (z := (2 : Int32)) (j := 2) rfl (by omega)) d1_68 rfl ?_
          refine X13.iastore (pc' := 70) V13 (show Inb (2 : Int32) 3 from ⟨by decide, by decide⟩) d1_69 rfl (Or.inr sz_b11) (fun T14 h14 X14 W14 => ?_)
          have V14 : Lst Z h14 b11 .int [(.int (P 0)), (.int (P 1)), (.int (P 2))] := V13.set W14
          have Vs_14 := Vs_13.other W14 ne_sa_b11
          obtain rfl : n = 3 := own_nk hn (by decide) hc10
          exact X14.areturn rfl rfl rfl rfl d1_70 (by decide) (by decide) ⟨_, rfl, sz_b11, V14⟩
        · refine X0.icmpYes (pc' := 71) d1_46 (feq hc10).2 (by decide) (by decide) ?_
          refine X0.iloadN (pc' := 72) d1_71 rfl rfl ?_
          refine X0.iconst (pc' := 73) (z := 4) d1_72 rfl rfl ?_
          by_cases hc15 : n.toInt32 = (4 : Int32)
          · refine X0.icmpNo (pc' := 76) d1_73 (teq hc15).2 rfl ?_
            refine X0.iconst (pc' := 77) (z := 4) d1_76 rfl rfl ?_
            refine X0.newarray (pc' := 79) (ty := .int) rfl (wd_2 hw) d1_77 rfl (cap := 4) ⟨by decide, by decide⟩ (by decide) (by decide) (by decide) (fun T16 h16 b16 X16 g16 E16 V16 => ?_)
            have sz_b16 : h0.size ≤ b16 := g16 ▸ X0.size
            have ne_sa_b16 : sa ≠ b16 := Nat.ne_of_lt (g16 ▸ Vs.lt)
            have Vs_16 := Vs.ext E16
            have V16' : Lst Z h16 b16 .int [(.int (0 : Int32)), (.int (0 : Int32)), (.int (0 : Int32)), (.int (0 : Int32))] := V16
            refine X16.dup (pc' := 80) d1_79 rfl rfl ?_
            refine X16.iconst (pc' := 81) (z := 0) d1_80 rfl rfl ?_
            refine X16.aloadN (pc' := 82) d1_81 rfl rfl rfl ?_
            refine X16.iconst (pc' := 83) (z := 0) d1_82 rfl rfl ?_
            refine X16.iaload (pc' := 84) (v := (.int (P 0))) Vs_16 (own_il (z := (0 : Int32)) (j := 0) rfl (by omega)) (own_tn_at (z := (0 : Int32)) (j := 0) rfl (by omega)) d1_83 rfl ?_
            refine X16.iastore (pc' := 85) V16' (show Inb (0 : Int32) 4 from ⟨by decide, by decide⟩) d1_84 rfl (Or.inr sz_b16) (fun T17 h17 X17 W17 => ?_)
            have V17 : Lst Z h17 b16 .int [(.int (P 0)), (.int (0 : Int32)), (.int (0 : Int32)), (.int (0 : Int32))] := V16'.set W17
            have Vs_17 := Vs_16.other W17 ne_sa_b16
            refine X17.dup (pc' := 86) d1_85 rfl rfl ?_
            refine X17.iconst (pc' := 87) (z := 1) d1_86 rfl rfl ?_
            refine X17.aloadN (pc' := 88) d1_87 rfl rfl rfl ?_
            refine X17.iconst (pc' := 89) (z := 1) d1_88 rfl rfl ?_
            refine X17.iaload (pc' := 90) (v := (.int (P 1))) Vs_17 (own_il (z := (1 : Int32)) (j := 1) rfl (by omega)) (own_tn_at (z := (1 : Int32)) (j := 1) rfl (by omega)) d1_89 rfl ?_
            refine X17.iastore (pc' := 91) V17 (show Inb (1 : Int32) 4 from ⟨by decide, by decide⟩) d1_90 rfl (Or.inr sz_b16) (fun T18 h18 X18 W18 => ?_)
            have V18 : Lst Z h18 b16 .int [(.int (P 0)), (.int (P 1)), (.int (0 : Int32)), (.int (0 : Int32))] := V17.set W18
            have Vs_18 := Vs_17.other W18 ne_sa_b16
            refine X18.dup (pc' := 92) d1_91 rfl rfl ?_
            refine X18.iconst (pc' := 93) (z := 2) d1_92 rfl rfl ?_
            refine X18.aloadN (pc' := 94) d1_93 rfl rfl rfl ?_
            refine X18.iconst (pc' := 95) (z := 2) d1_94 rfl rfl ?_
            refine X18.iaload (pc' := 96) (v := (.int (P 2))) Vs_18 (own_il (z := (2 : Int32)) (j := 2) rfl (by omega)) (own_tn_at (z := (2 : Int32)) (j := 2) rfl (by omega)) d1_95 rfl ?_
            refine X18.iastore (pc' := 97) V18 (show Inb (2 : Int32) 4 from ⟨by decide, by decide⟩) d1_96 rfl (Or.inr sz_b16) (fun T19 h19 X19 W19 => ?_)
            have V19 : Lst Z h19 b16 .int [(.int (P 0)), (.int (P 1)), (.int (P 2)), (.int (0 : Int32))] := V18.set W19
            have Vs_19 := Vs_18.other W19 ne_sa_b16
            refine X19.dup (pc' := 98) d1_97 rfl rfl ?_
            refine X19.iconst (pc' := 99) (z := 3) d1_98 rfl rfl ?_
            refine X19.aloadN (pc' := 100) d1_99 rfl rfl rfl ?_
            refine X19.iconst (pc' := 101) (z := 3) d1_100 rfl rfl ?_
            refine X19.iaload (pc' := 102) (v := (.int (P 3))) Vs_19 (own_il (z := (3 : Int32)) (j := 3) rfl (by omega)) (own_tn_at (z := (3 : Int32)) (j := 3) rfl (by omega)) d1_101 rfl ?_
            refine X19.iastore (pc' := 103) V19 (show Inb (3 : Int32) 4 from ⟨by decide, by decide⟩) d1_102 rfl (Or.inr sz_b16) (fun T20 h20 X20 W20 => ?_)
            have V20 : Lst Z h20 b16 .int [(.int (P 0)), (.int (P 1)), (.int (P 2)), (.int (P 3))] := V19.set W20
            have Vs_20 := Vs_19.other W20 ne_sa_b16
            obtain rfl : n = 4 := own_nk hn (by decide) hc15
            exact X20.areturn rfl rfl rfl rfl d1_103 (by decide) (by decide) ⟨_, rfl, sz_b16, V20⟩
          · refine X0.icmpYes (pc' := 104) d1_73 (feq hc15).2 (by decide) (by decide) ?_
            refine X0.iloadN (pc' := 105) d1_104 rfl rfl ?_
            refine X0.iconst (pc' := 106) (z := 5) d1_105 rfl rfl ?_
            by_cases hc21 : n.toInt32 = (5 : Int32)
            · refine X0.icmpNo (pc' := 109) d1_106 (teq hc21).2 rfl ?_
              refine X0.iconst (pc' := 110) (z := 5) d1_109 rfl rfl ?_
              refine X0.newarray (pc' := 112) (ty := .int) rfl (wd_2 hw) d1_110 rfl (cap := 5) ⟨by decide, by decide⟩ (by decide) (by decide) (by decide) (fun T22 h22 b22 X22 g22 E22 V22 => ?_)
              have sz_b22 : h0.size ≤ b22 := g22 ▸ X0.size
              have ne_sa_b22 : sa ≠ b22 := Nat.ne_of_lt (g22 ▸ Vs.lt)
              have Vs_22 := Vs.ext E22
              have V22' : Lst Z h22 b22 .int [(.int (0 : Int32)), (.int (0 : Int32)), (.int (0 : Int32)), (.int (0 : Int32)), (.int (0 : Int32))] := V22
              refine X22.dup (pc' := 113) d1_112 rfl rfl ?_
              refine X22.iconst (pc' := 114) (z := 0) d1_113 rfl rfl ?_
              refine X22.aloadN (pc' := 115) d1_114 rfl rfl rfl ?_
              refine X22.iconst (pc' := 116) (z := 0) d1_115 rfl rfl ?_
              refine X22.iaload (pc' := 117) (v := (.int (P 0))) Vs_22 (own_il (z := (0 : Int32)) (j := 0) rfl (by omega)) (own_tn_at (z := (0 : Int32)) (j := 0) rfl (by omega)) d1_116 rfl ?_
              refine X22.iastore (pc' := 118) V22' (show Inb (0 : Int32) 5 from ⟨by decide, by decide⟩) d1_117 rfl (Or.inr sz_b22) (fun T23 h23 X23 W23 => ?_)
              have V23 : Lst Z h23 b22 .int [(.int (P 0)), (.int (0 : Int32)), (.int (0 : Int32)), (.int (0 : Int32)), (.int (0 : Int32))] := V22'.set W23
              have Vs_23 := Vs_22.other W23 ne_sa_b22
              refine X23.dup (pc' := 119) d1_118 rfl rfl ?_
              refine X23.iconst (pc' := 120) (z := 1) d1_119 rfl rfl ?_
              refine X23.aloadN (pc' := 121) d1_120 rfl rfl rfl ?_
              refine X23.iconst (pc' := 122) (z := 1) d1_121 rfl rfl ?_
              refine X23.iaload (pc' := 123) (v := (.int (P 1))) Vs_23 (own_il (z := (1 : Int32)) (j := 1) rfl (by omega)) (own_tn_at (z := (1 : Int32)) (j := 1) rfl (by omega)) d1_122 rfl ?_
              refine X23.iastore (pc' := 124) V23 (show Inb (1 : Int32) 5 from ⟨by decide, by decide⟩) d1_123 rfl (Or.inr sz_b22) (fun T24 h24 X24 W24 => ?_)
              have V24 : Lst Z h24 b22 .int [(.int (P 0)), (.int (P 1)), (.int (0 : Int32)), (.int (0 : Int32)), (.int (0 : Int32))] := V23.set W24
              have Vs_24 := Vs_23.other W24 ne_sa_b22
              refine X24.dup (pc' := 125) d1_124 rfl rfl ?_
              refine X24.iconst (pc' := 126) (z := 2) d1_125 rfl rfl ?_
              refine X24.aloadN (pc' := 127) d1_126 rfl rfl rfl ?_
              refine X24.iconst (pc' := 128) (z := 2) d1_127 rfl rfl ?_
              refine X24.iaload (pc' := 129) (v := (.int (P 2))) Vs_24 (own_il (z := (2 : Int32)) (j := 2) rfl (by omega)) (own_tn_at (z := (2 : Int32)) (j := 2) rfl (by omega)) d1_128 rfl ?_
              refine X24.iastore (pc' := 130) V24 (show Inb (2 : Int32) 5 from ⟨by decide, by decide⟩) d1_129 rfl (Or.inr sz_b22) (fun T25 h25 X25 W25 => ?_)
              have V25 : Lst Z h25 b22 .int [(.int (P 0)), (.int (P 1)), (.int (P 2)), (.int (0 : Int32)), (.int (0 : Int32))] := V24.set W25
              have Vs_25 := Vs_24.other W25 ne_sa_b22
              refine X25.dup (pc' := 131) d1_130 rfl rfl ?_
              refine X25.iconst (pc' := 132) (z := 3) d1_131 rfl rfl ?_
              refine X25.aloadN (pc' := 133) d1_132 rfl rfl rfl ?_
              refine X25.iconst (pc' := 134) (z := 3) d1_133 rfl rfl ?_
              refine X25.iaload (pc' := 135) (v := (.int (P 3))) Vs_25 (own_il (z := (3 : Int32)) (j := 3) rfl (by omega)) (own_tn_at (z := (3 : Int32)) (j := 3) rfl (by omega)) d1_134 rfl ?_
              refine X25.iastore (pc' := 136) V25 (show Inb (3 : Int32) 5 from ⟨by decide, by decide⟩) d1_135 rfl (Or.inr sz_b22) (fun T26 h26 X26 W26 => ?_)
              have V26 : Lst Z h26 b22 .int [(.int (P 0)), (.int (P 1)), (.int (P 2)), (.int (P 3)), (.int (0 : Int32))] := V25.set W26
              have Vs_26 := Vs_25.other W26 ne_sa_b22
              refine X26.dup (pc' := 137) d1_136 rfl rfl ?_
              refine X26.iconst (pc' := 138) (z := 4) d1_137 rfl rfl ?_
              refine X26.aloadN (pc' := 139) d1_138 rfl rfl rfl ?_
              refine X26.iconst (pc' := 140) (z := 4) d1_139 rfl rfl ?_
              refine X26.iaload (pc' := 141) (v := (.int (P 4))) Vs_26 (own_il (z := (4 : Int32)) (j := 4) rfl (by omega)) (own_tn_at (z := (4 : Int32)) (j := 4) rfl (by omega)) d1_140 rfl ?_
              refine X26.iastore (pc' := 142) V26 (show Inb (4 : Int32) 5 from ⟨by decide, by decide⟩) d1_141 rfl (Or.inr sz_b22) (fun T27 h27 X27 W27 => ?_)
              have V27 : Lst Z h27 b22 .int [(.int (P 0)), (.int (P 1)), (.int (P 2)), (.int (P 3)), (.int (P 4))] := V26.set W27
              have Vs_27 := Vs_26.other W27 ne_sa_b22
              obtain rfl : n = 5 := own_nk hn (by decide) hc21
              exact X27.areturn rfl rfl rfl rfl d1_142 (by decide) (by decide) ⟨_, rfl, sz_b22, V27⟩
            · refine X0.icmpYes (pc' := 143) d1_106 (feq hc21).2 (by decide) (by decide) ?_
              refine X0.bipush (pc' := 145) (z := 6) d1_143 rfl rfl ?_
              refine X0.newarray (pc' := 147) (ty := .int) rfl (wd_2 hw) d1_145 rfl (cap := 6) ⟨by decide, by decide⟩ (by decide) (by decide) (by decide) (fun T28 h28 b28 X28 g28 E28 V28 => ?_)
              have sz_b28 : h0.size ≤ b28 := g28 ▸ X0.size
              have ne_sa_b28 : sa ≠ b28 := Nat.ne_of_lt (g28 ▸ Vs.lt)
              have Vs_28 := Vs.ext E28
              have V28' : Lst Z h28 b28 .int [(.int (0 : Int32)), (.int (0 : Int32)), (.int (0 : Int32)), (.int (0 : Int32)), (.int (0 : Int32)), (.int (0 : Int32))] := V28
              refine X28.dup (pc' := 148) d1_147 rfl rfl ?_
              refine X28.iconst (pc' := 149) (z := 0) d1_148 rfl rfl ?_
              refine X28.aloadN (pc' := 150) d1_149 rfl rfl rfl ?_
              refine X28.iconst (pc' := 151) (z := 0) d1_150 rfl rfl ?_
              refine X28.iaload (pc' := 152) (v := (.int (P 0))) Vs_28 (own_il (z := (0 : Int32)) (j := 0) rfl (by omega)) (own_tn_at (z := (0 : Int32)) (j := 0) rfl (by omega)) d1_151 rfl ?_
              refine X28.iastore (pc' := 153) V28' (show Inb (0 : Int32) 6 from ⟨by decide, by decide⟩) d1_152 rfl (Or.inr sz_b28) (fun T29 h29 X29 W29 => ?_)
              have V29 : Lst Z h29 b28 .int [(.int (P 0)), (.int (0 : Int32)), (.int (0 : Int32)), (.int (0 : Int32)), (.int (0 : Int32)), (.int (0 : Int32))] := V28'.set W29
              have Vs_29 := Vs_28.other W29 ne_sa_b28
              refine X29.dup (pc' := 154) d1_153 rfl rfl ?_
              refine X29.iconst (pc' := 155) (z := 1) d1_154 rfl rfl ?_
              refine X29.aloadN (pc' := 156) d1_155 rfl rfl rfl ?_
              refine X29.iconst (pc' := 157) (z := 1) d1_156 rfl rfl ?_
              refine X29.iaload (pc' := 158) (v := (.int (P 1))) Vs_29 (own_il (z := (1 : Int32)) (j := 1) rfl (by omega)) (own_tn_at (z := (1 : Int32)) (j := 1) rfl (by omega)) d1_157 rfl ?_
              refine X29.iastore (pc' := 159) V29 (show Inb (1 : Int32) 6 from ⟨by decide, by decide⟩) d1_158 rfl (Or.inr sz_b28) (fun T30 h30 X30 W30 => ?_)
              have V30 : Lst Z h30 b28 .int [(.int (P 0)), (.int (P 1)), (.int (0 : Int32)), (.int (0 : Int32)), (.int (0 : Int32)), (.int (0 : Int32))] := V29.set W30
              have Vs_30 := Vs_29.other W30 ne_sa_b28
              refine X30.dup (pc' := 160) d1_159 rfl rfl ?_
              refine X30.iconst (pc' := 161) (z := 2) d1_160 rfl rfl ?_
              refine X30.aloadN (pc' := 162) d1_161 rfl rfl rfl ?_
              refine X30.iconst (pc' := 163) (z := 2) d1_162 rfl rfl ?_
              refine X30.iaload (pc' := 164) (v := (.int (P 2))) Vs_30 (own_il (z := (2 : Int32)) (j := 2) rfl (by omega)) (own_tn_at (z := (2 : Int32)) (j := 2) rfl (by omega)) d1_163 rfl ?_
              refine X30.iastore (pc' := 165) V30 (show Inb (2 : Int32) 6 from ⟨by decide, by decide⟩) d1_164 rfl (Or.inr sz_b28) (fun T31 h31 X31 W31 => ?_)
              have V31 : Lst Z h31 b28 .int [(.int (P 0)), (.int (P 1)), (.int (P 2)), (.int (0 : Int32)), (.int (0 : Int32)), (.int (0 : Int32))] := V30.set W31
              have Vs_31 := Vs_30.other W31 ne_sa_b28
              refine X31.dup (pc' := 166) d1_165 rfl rfl ?_
              refine X31.iconst (pc' := 167) (z := 3) d1_166 rfl rfl ?_
              refine X31.aloadN (pc' := 168) d1_167 rfl rfl rfl ?_
              refine X31.iconst (pc' := 169) (z := 3) d1_168 rfl rfl ?_
              refine X31.iaload (pc' := 170) (v := (.int (P 3))) Vs_31 (own_il (z := (3 : Int32)) (j := 3) rfl (by omega)) (own_tn_at (z := (3 : Int32)) (j := 3) rfl (by omega)) d1_169 rfl ?_
              refine X31.iastore (pc' := 171) V31 (show Inb (3 : Int32) 6 from ⟨by decide, by decide⟩) d1_170 rfl (Or.inr sz_b28) (fun T32 h32 X32 W32 => ?_)
              have V32 : Lst Z h32 b28 .int [(.int (P 0)), (.int (P 1)), (.int (P 2)), (.int (P 3)), (.int (0 : Int32)), (.int (0 : Int32))] := V31.set W32
              have Vs_32 := Vs_31.other W32 ne_sa_b28
              refine X32.dup (pc' := 172) d1_171 rfl rfl ?_
              refine X32.iconst (pc' := 173) (z := 4) d1_172 rfl rfl ?_
              refine X32.aloadN (pc' := 174) d1_173 rfl rfl rfl ?_
              refine X32.iconst (pc' := 175) (z := 4) d1_174 rfl rfl ?_
              refine X32.iaload (pc' := 176) (v := (.int (P 4))) Vs_32 (own_il (z := (4 : Int32)) (j := 4) rfl (by omega)) (own_tn_at (z := (4 : Int32)) (j := 4) rfl (by omega)) d1_175 rfl ?_
              refine X32.iastore (pc' := 177) V32 (show Inb (4 : Int32) 6 from ⟨by decide, by decide⟩) d1_176 rfl (Or.inr sz_b28) (fun T33 h33 X33 W33 => ?_)
              have V33 : Lst Z h33 b28 .int [(.int (P 0)), (.int (P 1)), (.int (P 2)), (.int (P 3)), (.int (P 4)), (.int (0 : Int32))] := V32.set W33
              have Vs_33 := Vs_32.other W33 ne_sa_b28
              refine X33.dup (pc' := 178) d1_177 rfl rfl ?_
              refine X33.iconst (pc' := 179) (z := 5) d1_178 rfl rfl ?_
              refine X33.aloadN (pc' := 180) d1_179 rfl rfl rfl ?_
              refine X33.iconst (pc' := 181) (z := 5) d1_180 rfl rfl ?_
              refine X33.iaload (pc' := 182) (v := (.int (P 5))) Vs_33 (own_il (z := (5 : Int32)) (j := 5) rfl (by omega)) (own_tn_at (z := (5 : Int32)) (j := 5) rfl (by omega)) d1_181 rfl ?_
              refine X33.iastore (pc' := 183) V33 (show Inb (5 : Int32) 6 from ⟨by decide, by decide⟩) d1_182 rfl (Or.inr sz_b28) (fun T34 h34 X34 W34 => ?_)
              have V34 : Lst Z h34 b28 .int [(.int (P 0)), (.int (P 1)), (.int (P 2)), (.int (P 3)), (.int (P 4)), (.int (P 5))] := V33.set W34
              have Vs_34 := Vs_33.other W34 ne_sa_b28
              have q0 : n ≠ 0 := fun q => hc1 (by rw [q]; rfl)
              have q1 : n ≠ 1 := fun q => hc3 (by rw [q]; rfl)
              have q2 : n ≠ 2 := fun q => hc6 (by rw [q]; rfl)
              have q3 : n ≠ 3 := fun q => hc10 (by rw [q]; rfl)
              have q4 : n ≠ 4 := fun q => hc15 (by rw [q]; rfl)
              have q5 : n ≠ 5 := fun q => hc21 (by rw [q]; rfl)
              obtain rfl : n = 6 := by omega
              exact X34.areturn rfl rfl rfl rfl d1_183 (by decide) (by decide) ⟨_, rfl, sz_b28, V34⟩
set_option maxRecDepth 65536 in
set_option maxHeartbeats 40000000 in
theorem ctIs1 (l : Launch) (Z : State) (a0 : Array Value) (hw : ∀ d ∈ tables_1, d.before a0 Z = true) (sa : Addr) (P : Nat → Int32) (n : Nat) (h0 : Heap) (Vs : Lst Z h0 sa .int (own_tn 6 P)) (hn : n ≤ 6) :
    Ct l Z y2 method_4_code 4 (some .boolean) ({ frames := 0, cells := 0, slots := 0, locals := 0 } : Room) #[(.ref sa), (.int n.toInt32), (.int (1 : Int32))] h0 [] (fun v h => v = some (.int (if 1 < n ∧ own_eqs (own_eqf P) (n - 1) 1 = true then (1 : Int32) else 0)) ∧ h0 = h) := by
  refine Ct.of (plainFor_of_name (by first | (simp [plainName, overriddenIn]; done) | decide +kernel)) ?_
  intro p e s m below meth c T0 X0
  refine Runs.top (g' := mkF m 0 #[.val (.ref sa), .val (.int n.toInt32), .val (.int (1 : Int32)), .unset] []) (by first | (simp [entryFrame, mkF, argsToLocals, Value.category]; done) | rfl) ?_
  refine X0.iloadN (pc' := 1) d2_0 rfl rfl ?_
  refine X0.iconst (pc' := 2) (z := 1) d2_1 rfl rfl ?_
  refine X0.icmpNo (pc' := 5) d2_2 (by decide) rfl ?_
  refine X0.iloadN (pc' := 6) d2_5 rfl rfl ?_
  refine X0.iloadN (pc' := 7) d2_6 rfl rfl ?_
  by_cases hc1 : (1 : Int32) < n.toInt32
  · refine X0.icmpYes (pc' := 12) d2_7 (tlt hc1).1 (by decide) (by decide) ?_
    have hkn : 1 < n := (own_lt32 (i := 1) (by decide) (by omega)).mp hc1
    refine X0.iloadN (pc' := 13) d2_12 rfl rfl ?_
    refine X0.iloadN (pc' := 14) d2_13 rfl rfl ?_
    refine X0.isub (pc' := 15) d2_14 rfl ?_
    rw [show n.toInt32 - (1 : Int32) = (n - 1).toInt32 from own_subn (k := 1) hkn hn]
    refine X0.istoreN (pc' := 16) (l' := #[.val (.ref sa), .val (.int n.toInt32), .val (.int (1 : Int32)), .val (.int (n - 1).toInt32)]) d2_15 rfl rfl ?_
    refine X0.aloadN (pc' := 17) d2_16 rfl rfl rfl ?_
    refine X0.iconst (pc' := 18) (z := 0) d2_17 rfl rfl ?_
    refine X0.iaload (pc' := 19) (v := (.int (P 0))) Vs (own_il (z := (0 : Int32)) (j := 0) rfl (by omega)) (own_tn_at (z := (0 : Int32)) (j := 0) rfl (by omega)) d2_18 rfl ?_
    refine X0.aloadN (pc' := 20) d2_19 rfl rfl rfl ?_
    refine X0.iloadN (pc' := 21) d2_20 rfl rfl ?_
    refine X0.iaload (pc' := 22) (v := (.int (P (n - 1)))) Vs (own_il (own_i32 (by omega)) (by omega : n - 1 < 6)) (own_tn_at (own_ilt (own_i32 (by omega))) (by omega : n - 1 < 6)) d2_21 rfl ?_
    by_cases hc2 : (P 0) = (P (n - 1))
    · refine X0.icmpNo (pc' := 25) d2_22 (teq hc2).2 rfl ?_
      refine X0.iloadN (pc' := 26) d2_25 rfl rfl ?_
      refine X0.iconst (pc' := 27) (z := 2) d2_26 rfl rfl ?_
      refine X0.icmpYes (pc' := 41) d2_27 (by decide) (by decide) (by decide) ?_
      refine X0.iloadN (pc' := 42) d2_41 rfl rfl ?_
      refine X0.iconst (pc' := 43) (z := 3) d2_42 rfl rfl ?_
      refine X0.icmpYes (pc' := 57) d2_43 (by decide) (by decide) (by decide) ?_
      refine X0.iloadN (pc' := 58) d2_57 rfl rfl ?_
      refine X0.iconst (pc' := 59) (z := 4) d2_58 rfl rfl ?_
      refine X0.icmpYes (pc' := 73) d2_59 (by decide) (by decide) (by decide) ?_
      refine X0.iloadN (pc' := 74) d2_73 rfl rfl ?_
      refine X0.iconst (pc' := 75) (z := 5) d2_74 rfl rfl ?_
      refine X0.icmpYes (pc' := 89) d2_75 (by decide) (by decide) (by decide) ?_
      refine X0.iconst (pc' := 90) (z := 1) d2_89 rfl rfl ?_
      refine X0.goto (pc' := 94) d2_90 (by decide) (by decide) ?_
      exact X0.zreturn (z' := (1 : Int32)) rfl (by simp) d2_94 rfl (by decide) (by decide) ⟨by rw [if_pos ⟨hkn, (own_eqs1 hkn).mpr hc2⟩], rfl⟩
    · refine X0.icmpYes (pc' := 93) d2_22 (feq hc2).2 (by decide) (by decide) ?_
      refine X0.iconst (pc' := 94) (z := 0) d2_93 rfl rfl ?_
      exact X0.zreturn (z' := (0 : Int32)) rfl (by simp) d2_94 rfl (by decide) (by decide) ⟨by rw [if_neg (fun q => hc2 ((own_eqs1 hkn).mp q.2))], rfl⟩
  · refine X0.icmpNo (pc' := 10) d2_7 (flt hc1).1 rfl ?_
    refine X0.iconst (pc' := 11) (z := 0) d2_10 rfl rfl ?_
    exact X0.zreturn (z' := (0 : Int32)) rfl (by simp) d2_11 rfl (by decide) (by decide) ⟨by rw [if_neg (fun q => hc1 ((own_lt32 (i := 1) (by decide) (by omega)).mpr q.1))], rfl⟩
set_option maxRecDepth 65536 in
set_option maxHeartbeats 40000000 in
theorem ctIs2 (l : Launch) (Z : State) (a0 : Array Value) (hw : ∀ d ∈ tables_1, d.before a0 Z = true) (sa : Addr) (P : Nat → Int32) (n : Nat) (h0 : Heap) (Vs : Lst Z h0 sa .int (own_tn 6 P)) (hn : n ≤ 6) :
    Ct l Z y2 method_4_code 4 (some .boolean) ({ frames := 0, cells := 0, slots := 0, locals := 0 } : Room) #[(.ref sa), (.int n.toInt32), (.int (2 : Int32))] h0 [] (fun v h => v = some (.int (if 2 < n ∧ own_eqs (own_eqf P) (n - 1) 2 = true then (1 : Int32) else 0)) ∧ h0 = h) := by
  refine Ct.of (plainFor_of_name (by first | (simp [plainName, overriddenIn]; done) | decide +kernel)) ?_
  intro p e s m below meth c T0 X0
  refine Runs.top (g' := mkF m 0 #[.val (.ref sa), .val (.int n.toInt32), .val (.int (2 : Int32)), .unset] []) (by first | (simp [entryFrame, mkF, argsToLocals, Value.category]; done) | rfl) ?_
  refine X0.iloadN (pc' := 1) d2_0 rfl rfl ?_
  refine X0.iconst (pc' := 2) (z := 1) d2_1 rfl rfl ?_
  refine X0.icmpNo (pc' := 5) d2_2 (by decide) rfl ?_
  refine X0.iloadN (pc' := 6) d2_5 rfl rfl ?_
  refine X0.iloadN (pc' := 7) d2_6 rfl rfl ?_
  by_cases hc1 : (2 : Int32) < n.toInt32
  · refine X0.icmpYes (pc' := 12) d2_7 (tlt hc1).1 (by decide) (by decide) ?_
    have hkn : 2 < n := (own_lt32 (i := 2) (by decide) (by omega)).mp hc1
    refine X0.iloadN (pc' := 13) d2_12 rfl rfl ?_
    refine X0.iloadN (pc' := 14) d2_13 rfl rfl ?_
    refine X0.isub (pc' := 15) d2_14 rfl ?_
    rw [show n.toInt32 - (2 : Int32) = (n - 2).toInt32 from own_subn (k := 2) hkn hn]
    refine X0.istoreN (pc' := 16) (l' := #[.val (.ref sa), .val (.int n.toInt32), .val (.int (2 : Int32)), .val (.int (n - 2).toInt32)]) d2_15 rfl rfl ?_
    refine X0.aloadN (pc' := 17) d2_16 rfl rfl rfl ?_
    refine X0.iconst (pc' := 18) (z := 0) d2_17 rfl rfl ?_
    refine X0.iaload (pc' := 19) (v := (.int (P 0))) Vs (own_il (z := (0 : Int32)) (j := 0) rfl (by omega)) (own_tn_at (z := (0 : Int32)) (j := 0) rfl (by omega)) d2_18 rfl ?_
    refine X0.aloadN (pc' := 20) d2_19 rfl rfl rfl ?_
    refine X0.iloadN (pc' := 21) d2_20 rfl rfl ?_
    refine X0.iaload (pc' := 22) (v := (.int (P (n - 2)))) Vs (own_il (own_i32 (by omega)) (by omega : n - 2 < 6)) (own_tn_at (own_ilt (own_i32 (by omega))) (by omega : n - 2 < 6)) d2_21 rfl ?_
    by_cases hc2 : (P 0) = (P (n - 2))
    · refine X0.icmpNo (pc' := 25) d2_22 (teq hc2).2 rfl ?_
      refine X0.iloadN (pc' := 26) d2_25 rfl rfl ?_
      refine X0.iconst (pc' := 27) (z := 2) d2_26 rfl rfl ?_
      refine X0.icmpNo (pc' := 30) d2_27 (by decide) rfl ?_
      refine X0.aloadN (pc' := 31) d2_30 rfl rfl rfl ?_
      refine X0.iconst (pc' := 32) (z := 1) d2_31 rfl rfl ?_
      refine X0.iaload (pc' := 33) (v := (.int (P 1))) Vs (own_il (z := (1 : Int32)) (j := 1) rfl (by omega)) (own_tn_at (z := (1 : Int32)) (j := 1) rfl (by omega)) d2_32 rfl ?_
      refine X0.aloadN (pc' := 34) d2_33 rfl rfl rfl ?_
      refine X0.iloadN (pc' := 35) d2_34 rfl rfl ?_
      refine X0.iconst (pc' := 36) (z := 1) d2_35 rfl rfl ?_
      refine X0.iadd (pc' := 37) d2_36 rfl ?_
      refine X0.iaload (pc' := 38) (v := (.int (P (n - 2 + 1)))) Vs (own_il (own_sumi (a := n - 2) (b := 1) (by omega)) (by omega : n - 2 + 1 < 6)) (own_tn_at (own_ilt (own_sumi (a := n - 2) (b := 1) (by omega))) (by omega : n - 2 + 1 < 6)) d2_37 rfl ?_
      by_cases hc3 : (P 1) = (P (n - 2 + 1))
      · refine X0.icmpNo (pc' := 41) d2_38 (teq hc3).2 rfl ?_
        refine X0.iloadN (pc' := 42) d2_41 rfl rfl ?_
        refine X0.iconst (pc' := 43) (z := 3) d2_42 rfl rfl ?_
        refine X0.icmpYes (pc' := 57) d2_43 (by decide) (by decide) (by decide) ?_
        refine X0.iloadN (pc' := 58) d2_57 rfl rfl ?_
        refine X0.iconst (pc' := 59) (z := 4) d2_58 rfl rfl ?_
        refine X0.icmpYes (pc' := 73) d2_59 (by decide) (by decide) (by decide) ?_
        refine X0.iloadN (pc' := 74) d2_73 rfl rfl ?_
        refine X0.iconst (pc' := 75) (z := 5) d2_74 rfl rfl ?_
        refine X0.icmpYes (pc' := 89) d2_75 (by decide) (by decide) (by decide) ?_
        refine X0.iconst (pc' := 90) (z := 1) d2_89 rfl rfl ?_
        refine X0.goto (pc' := 94) d2_90 (by decide) (by decide) ?_
        exact X0.zreturn (z' := (1 : Int32)) rfl (by simp) d2_94 rfl (by decide) (by decide) ⟨by rw [if_pos ⟨hkn, (own_eqs2 hkn).mpr ⟨hc2, hc3⟩⟩], rfl⟩
      · refine X0.icmpYes (pc' := 93) d2_38 (feq hc3).2 (by decide) (by decide) ?_
        refine X0.iconst (pc' := 94) (z := 0) d2_93 rfl rfl ?_
        exact X0.zreturn (z' := (0 : Int32)) rfl (by simp) d2_94 rfl (by decide) (by decide) ⟨by rw [if_neg (fun q => hc3 ((own_eqs2 hkn).mp q.2).2)], rfl⟩
    · refine X0.icmpYes (pc' := 93) d2_22 (feq hc2).2 (by decide) (by decide) ?_
      refine X0.iconst (pc' := 94) (z := 0) d2_93 rfl rfl ?_
      exact X0.zreturn (z' := (0 : Int32)) rfl (by simp) d2_94 rfl (by decide) (by decide) ⟨by rw [if_neg (fun q => hc2 ((own_eqs2 hkn).mp q.2).1)], rfl⟩
  · refine X0.icmpNo (pc' := 10) d2_7 (flt hc1).1 rfl ?_
    refine X0.iconst (pc' := 11) (z := 0) d2_10 rfl rfl ?_
    exact X0.zreturn (z' := (0 : Int32)) rfl (by simp) d2_11 rfl (by decide) (by decide) ⟨by rw [if_neg (fun q => hc1 ((own_lt32 (i := 2) (by decide) (by omega)).mpr q.1))], rfl⟩
set_option maxRecDepth 65536 in
set_option maxHeartbeats 40000000 in
theorem ctIs3 (l : Launch) (Z : State) (a0 : Array Value) (hw : ∀ d ∈ tables_1, d.before a0 Z = true) (sa : Addr) (P : Nat → Int32) (n : Nat) (h0 : Heap) (Vs : Lst Z h0 sa .int (own_tn 6 P)) (hn : n ≤ 6) :
    Ct l Z y2 method_4_code 4 (some .boolean) ({ frames := 0, cells := 0, slots := 0, locals := 0 } : Room) #[(.ref sa), (.int n.toInt32), (.int (3 : Int32))] h0 [] (fun v h => v = some (.int (if 3 < n ∧ own_eqs (own_eqf P) (n - 1) 3 = true then (1 : Int32) else 0)) ∧ h0 = h) := by
  refine Ct.of (plainFor_of_name (by first | (simp [plainName, overriddenIn]; done) | decide +kernel)) ?_
  intro p e s m below meth c T0 X0
  refine Runs.top (g' := mkF m 0 #[.val (.ref sa), .val (.int n.toInt32), .val (.int (3 : Int32)), .unset] []) (by first | (simp [entryFrame, mkF, argsToLocals, Value.category]; done) | rfl) ?_
  refine X0.iloadN (pc' := 1) d2_0 rfl rfl ?_
  refine X0.iconst (pc' := 2) (z := 1) d2_1 rfl rfl ?_
  refine X0.icmpNo (pc' := 5) d2_2 (by decide) rfl ?_
  refine X0.iloadN (pc' := 6) d2_5 rfl rfl ?_
  refine X0.iloadN (pc' := 7) d2_6 rfl rfl ?_
  by_cases hc1 : (3 : Int32) < n.toInt32
  · refine X0.icmpYes (pc' := 12) d2_7 (tlt hc1).1 (by decide) (by decide) ?_
    have hkn : 3 < n := (own_lt32 (i := 3) (by decide) (by omega)).mp hc1
    refine X0.iloadN (pc' := 13) d2_12 rfl rfl ?_
    refine X0.iloadN (pc' := 14) d2_13 rfl rfl ?_
    refine X0.isub (pc' := 15) d2_14 rfl ?_
    rw [show n.toInt32 - (3 : Int32) = (n - 3).toInt32 from own_subn (k := 3) hkn hn]
    refine X0.istoreN (pc' := 16) (l' := #[.val (.ref sa), .val (.int n.toInt32), .val (.int (3 : Int32)), .val (.int (n - 3).toInt32)]) d2_15 rfl rfl ?_
    refine X0.aloadN (pc' := 17) d2_16 rfl rfl rfl ?_
    refine X0.iconst (pc' := 18) (z := 0) d2_17 rfl rfl ?_
    refine X0.iaload (pc' := 19) (v := (.int (P 0))) Vs (own_il (z := (0 : Int32)) (j := 0) rfl (by omega)) (own_tn_at (z := (0 : Int32)) (j := 0) rfl (by omega)) d2_18 rfl ?_
    refine X0.aloadN (pc' := 20) d2_19 rfl rfl rfl ?_
    refine X0.iloadN (pc' := 21) d2_20 rfl rfl ?_
    refine X0.iaload (pc' := 22) (v := (.int (P (n - 3)))) Vs (own_il (own_i32 (by omega)) (by omega : n - 3 < 6)) (own_tn_at (own_ilt (own_i32 (by omega))) (by omega : n - 3 < 6)) d2_21 rfl ?_
    by_cases hc2 : (P 0) = (P (n - 3))
    · refine X0.icmpNo (pc' := 25) d2_22 (teq hc2).2 rfl ?_
      refine X0.iloadN (pc' := 26) d2_25 rfl rfl ?_
      refine X0.iconst (pc' := 27) (z := 2) d2_26 rfl rfl ?_
      refine X0.icmpNo (pc' := 30) d2_27 (by decide) rfl ?_
      refine X0.aloadN (pc' := 31) d2_30 rfl rfl rfl ?_
      refine X0.iconst (pc' := 32) (z := 1) d2_31 rfl rfl ?_
      refine X0.iaload (pc' := 33) (v := (.int (P 1))) Vs (own_il (z := (1 : Int32)) (j := 1) rfl (by omega)) (own_tn_at (z := (1 : Int32)) (j := 1) rfl (by omega)) d2_32 rfl ?_
      refine X0.aloadN (pc' := 34) d2_33 rfl rfl rfl ?_
      refine X0.iloadN (pc' := 35) d2_34 rfl rfl ?_
      refine X0.iconst (pc' := 36) (z := 1) d2_35 rfl rfl ?_
      refine X0.iadd (pc' := 37) d2_36 rfl ?_
      refine X0.iaload (pc' := 38) (v := (.int (P (n - 3 + 1)))) Vs (own_il (own_sumi (a := n - 3) (b := 1) (by omega)) (by omega : n - 3 + 1 < 6)) (own_tn_at (own_ilt (own_sumi (a := n - 3) (b := 1) (by omega))) (by omega : n - 3 + 1 < 6)) d2_37 rfl ?_
      by_cases hc3 : (P 1) = (P (n - 3 + 1))
      · refine X0.icmpNo (pc' := 41) d2_38 (teq hc3).2 rfl ?_
        refine X0.iloadN (pc' := 42) d2_41 rfl rfl ?_
        refine X0.iconst (pc' := 43) (z := 3) d2_42 rfl rfl ?_
        refine X0.icmpNo (pc' := 46) d2_43 (by decide) rfl ?_
        refine X0.aloadN (pc' := 47) d2_46 rfl rfl rfl ?_
        refine X0.iconst (pc' := 48) (z := 2) d2_47 rfl rfl ?_
        refine X0.iaload (pc' := 49) (v := (.int (P 2))) Vs (own_il (z := (2 : Int32)) (j := 2) rfl (by omega)) (own_tn_at (z := (2 : Int32)) (j := 2) rfl (by omega)) d2_48 rfl ?_
        refine X0.aloadN (pc' := 50) d2_49 rfl rfl rfl ?_
        refine X0.iloadN (pc' := 51) d2_50 rfl rfl ?_
        refine X0.iconst (pc' := 52) (z := 2) d2_51 rfl rfl ?_
        refine X0.iadd (pc' := 53) d2_52 rfl ?_
        refine X0.iaload (pc' := 54) (v := (.int (P (n - 3 + 2)))) Vs (own_il (own_sumi (a := n - 3) (b := 2) (by omega)) (by omega : n - 3 + 2 < 6)) (own_tn_at (own_ilt (own_sumi (a := n - 3) (b := 2) (by omega))) (by omega : n - 3 + 2 < 6)) d2_53 rfl ?_
        by_cases hc4 : (P 2) = (P (n - 3 + 2))
        · refine X0.icmpNo (pc' := 57) d2_54 (teq hc4).2 rfl ?_
          refine X0.iloadN (pc' := 58) d2_57 rfl rfl ?_
          refine X0.iconst (pc' := 59) (z := 4) d2_58 rfl rfl ?_
          refine X0.icmpYes (pc' := 73) d2_59 (by decide) (by decide) (by decide) ?_
          refine X0.iloadN (pc' := 74) d2_73 rfl rfl ?_
          refine X0.iconst (pc' := 75) (z := 5) d2_74 rfl rfl ?_
          refine X0.icmpYes (pc' := 89) d2_75 (by decide) (by decide) (by decide) ?_
          refine X0.iconst (pc' := 90) (z := 1) d2_89 rfl rfl ?_
          refine X0.goto (pc' := 94) d2_90 (by decide) (by decide) ?_
          exact X0.zreturn (z' := (1 : Int32)) rfl (by simp) d2_94 rfl (by decide) (by decide) ⟨by rw [if_pos ⟨hkn, (own_eqs3 hkn).mpr ⟨hc2, hc3, hc4⟩⟩], rfl⟩
        · refine X0.icmpYes (pc' := 93) d2_54 (feq hc4).2 (by decide) (by decide) ?_
          refine X0.iconst (pc' := 94) (z := 0) d2_93 rfl rfl ?_
          exact X0.zreturn (z' := (0 : Int32)) rfl (by simp) d2_94 rfl (by decide) (by decide) ⟨by rw [if_neg (fun q => hc4 ((own_eqs3 hkn).mp q.2).2.2)], rfl⟩
      · refine X0.icmpYes (pc' := 93) d2_38 (feq hc3).2 (by decide) (by decide) ?_
        refine X0.iconst (pc' := 94) (z := 0) d2_93 rfl rfl ?_
        exact X0.zreturn (z' := (0 : Int32)) rfl (by simp) d2_94 rfl (by decide) (by decide) ⟨by rw [if_neg (fun q => hc3 ((own_eqs3 hkn).mp q.2).2.1)], rfl⟩
    · refine X0.icmpYes (pc' := 93) d2_22 (feq hc2).2 (by decide) (by decide) ?_
      refine X0.iconst (pc' := 94) (z := 0) d2_93 rfl rfl ?_
      exact X0.zreturn (z' := (0 : Int32)) rfl (by simp) d2_94 rfl (by decide) (by decide) ⟨by rw [if_neg (fun q => hc2 ((own_eqs3 hkn).mp q.2).1)], rfl⟩
  · refine X0.icmpNo (pc' := 10) d2_7 (flt hc1).1 rfl ?_
    refine X0.iconst (pc' := 11) (z := 0) d2_10 rfl rfl ?_
    exact X0.zreturn (z' := (0 : Int32)) rfl (by simp) d2_11 rfl (by decide) (by decide) ⟨by rw [if_neg (fun q => hc1 ((own_lt32 (i := 3) (by decide) (by omega)).mpr q.1))], rfl⟩
set_option maxRecDepth 65536 in
set_option maxHeartbeats 40000000 in
theorem ctIs4 (l : Launch) (Z : State) (a0 : Array Value) (hw : ∀ d ∈ tables_1, d.before a0 Z = true) (sa : Addr) (P : Nat → Int32) (n : Nat) (h0 : Heap) (Vs : Lst Z h0 sa .int (own_tn 6 P)) (hn : n ≤ 6) :
    Ct l Z y2 method_4_code 4 (some .boolean) ({ frames := 0, cells := 0, slots := 0, locals := 0 } : Room) #[(.ref sa), (.int n.toInt32), (.int (4 : Int32))] h0 [] (fun v h => v = some (.int (if 4 < n ∧ own_eqs (own_eqf P) (n - 1) 4 = true then (1 : Int32) else 0)) ∧ h0 = h) := by
  refine Ct.of (plainFor_of_name (by first | (simp [plainName, overriddenIn]; done) | decide +kernel)) ?_
  intro p e s m below meth c T0 X0
  refine Runs.top (g' := mkF m 0 #[.val (.ref sa), .val (.int n.toInt32), .val (.int (4 : Int32)), .unset] []) (by first | (simp [entryFrame, mkF, argsToLocals, Value.category]; done) | rfl) ?_
  refine X0.iloadN (pc' := 1) d2_0 rfl rfl ?_
  refine X0.iconst (pc' := 2) (z := 1) d2_1 rfl rfl ?_
  refine X0.icmpNo (pc' := 5) d2_2 (by decide) rfl ?_
  refine X0.iloadN (pc' := 6) d2_5 rfl rfl ?_
  refine X0.iloadN (pc' := 7) d2_6 rfl rfl ?_
  by_cases hc1 : (4 : Int32) < n.toInt32
  · refine X0.icmpYes (pc' := 12) d2_7 (tlt hc1).1 (by decide) (by decide) ?_
    have hkn : 4 < n := (own_lt32 (i := 4) (by decide) (by omega)).mp hc1
    refine X0.iloadN (pc' := 13) d2_12 rfl rfl ?_
    refine X0.iloadN (pc' := 14) d2_13 rfl rfl ?_
    refine X0.isub (pc' := 15) d2_14 rfl ?_
    rw [show n.toInt32 - (4 : Int32) = (n - 4).toInt32 from own_subn (k := 4) hkn hn]
    refine X0.istoreN (pc' := 16) (l' := #[.val (.ref sa), .val (.int n.toInt32), .val (.int (4 : Int32)), .val (.int (n - 4).toInt32)]) d2_15 rfl rfl ?_
    refine X0.aloadN (pc' := 17) d2_16 rfl rfl rfl ?_
    refine X0.iconst (pc' := 18) (z := 0) d2_17 rfl rfl ?_
    refine X0.iaload (pc' := 19) (v := (.int (P 0))) Vs (own_il (z := (0 : Int32)) (j := 0) rfl (by omega)) (own_tn_at (z := (0 : Int32)) (j := 0) rfl (by omega)) d2_18 rfl ?_
    refine X0.aloadN (pc' := 20) d2_19 rfl rfl rfl ?_
    refine X0.iloadN (pc' := 21) d2_20 rfl rfl ?_
    refine X0.iaload (pc' := 22) (v := (.int (P (n - 4)))) Vs (own_il (own_i32 (by omega)) (by omega : n - 4 < 6)) (own_tn_at (own_ilt (own_i32 (by omega))) (by omega : n - 4 < 6)) d2_21 rfl ?_
    by_cases hc2 : (P 0) = (P (n - 4))
    · refine X0.icmpNo (pc' := 25) d2_22 (teq hc2).2 rfl ?_
      refine X0.iloadN (pc' := 26) d2_25 rfl rfl ?_
      refine X0.iconst (pc' := 27) (z := 2) d2_26 rfl rfl ?_
      refine X0.icmpNo (pc' := 30) d2_27 (by decide) rfl ?_
      refine X0.aloadN (pc' := 31) d2_30 rfl rfl rfl ?_
      refine X0.iconst (pc' := 32) (z := 1) d2_31 rfl rfl ?_
      refine X0.iaload (pc' := 33) (v := (.int (P 1))) Vs (own_il (z := (1 : Int32)) (j := 1) rfl (by omega)) (own_tn_at (z := (1 : Int32)) (j := 1) rfl (by omega)) d2_32 rfl ?_
      refine X0.aloadN (pc' := 34) d2_33 rfl rfl rfl ?_
      refine X0.iloadN (pc' := 35) d2_34 rfl rfl ?_
      refine X0.iconst (pc' := 36) (z := 1) d2_35 rfl rfl ?_
      refine X0.iadd (pc' := 37) d2_36 rfl ?_
      refine X0.iaload (pc' := 38) (v := (.int (P (n - 4 + 1)))) Vs (own_il (own_sumi (a := n - 4) (b := 1) (by omega)) (by omega : n - 4 + 1 < 6)) (own_tn_at (own_ilt (own_sumi (a := n - 4) (b := 1) (by omega))) (by omega : n - 4 + 1 < 6)) d2_37 rfl ?_
      by_cases hc3 : (P 1) = (P (n - 4 + 1))
      · refine X0.icmpNo (pc' := 41) d2_38 (teq hc3).2 rfl ?_
        refine X0.iloadN (pc' := 42) d2_41 rfl rfl ?_
        refine X0.iconst (pc' := 43) (z := 3) d2_42 rfl rfl ?_
        refine X0.icmpNo (pc' := 46) d2_43 (by decide) rfl ?_
        refine X0.aloadN (pc' := 47) d2_46 rfl rfl rfl ?_
        refine X0.iconst (pc' := 48) (z := 2) d2_47 rfl rfl ?_
        refine X0.iaload (pc' := 49) (v := (.int (P 2))) Vs (own_il (z := (2 : Int32)) (j := 2) rfl (by omega)) (own_tn_at (z := (2 : Int32)) (j := 2) rfl (by omega)) d2_48 rfl ?_
        refine X0.aloadN (pc' := 50) d2_49 rfl rfl rfl ?_
        refine X0.iloadN (pc' := 51) d2_50 rfl rfl ?_
        refine X0.iconst (pc' := 52) (z := 2) d2_51 rfl rfl ?_
        refine X0.iadd (pc' := 53) d2_52 rfl ?_
        refine X0.iaload (pc' := 54) (v := (.int (P (n - 4 + 2)))) Vs (own_il (own_sumi (a := n - 4) (b := 2) (by omega)) (by omega : n - 4 + 2 < 6)) (own_tn_at (own_ilt (own_sumi (a := n - 4) (b := 2) (by omega))) (by omega : n - 4 + 2 < 6)) d2_53 rfl ?_
        by_cases hc4 : (P 2) = (P (n - 4 + 2))
        · refine X0.icmpNo (pc' := 57) d2_54 (teq hc4).2 rfl ?_
          refine X0.iloadN (pc' := 58) d2_57 rfl rfl ?_
          refine X0.iconst (pc' := 59) (z := 4) d2_58 rfl rfl ?_
          refine X0.icmpNo (pc' := 62) d2_59 (by decide) rfl ?_
          refine X0.aloadN (pc' := 63) d2_62 rfl rfl rfl ?_
          refine X0.iconst (pc' := 64) (z := 3) d2_63 rfl rfl ?_
          refine X0.iaload (pc' := 65) (v := (.int (P 3))) Vs (own_il (z := (3 : Int32)) (j := 3) rfl (by omega)) (own_tn_at (z := (3 : Int32)) (j := 3) rfl (by omega)) d2_64 rfl ?_
          refine X0.aloadN (pc' := 66) d2_65 rfl rfl rfl ?_
          refine X0.iloadN (pc' := 67) d2_66 rfl rfl ?_
          refine X0.iconst (pc' := 68) (z := 3) d2_67 rfl rfl ?_
          refine X0.iadd (pc' := 69) d2_68 rfl ?_
          refine X0.iaload (pc' := 70) (v := (.int (P (n - 4 + 3)))) Vs (own_il (own_sumi (a := n - 4) (b := 3) (by omega)) (by omega : n - 4 + 3 < 6)) (own_tn_at (own_ilt (own_sumi (a := n - 4) (b := 3) (by omega))) (by omega : n - 4 + 3 < 6)) d2_69 rfl ?_
          by_cases hc5 : (P 3) = (P (n - 4 + 3))
          · refine X0.icmpNo (pc' := 73) d2_70 (teq hc5).2 rfl ?_
            refine X0.iloadN (pc' := 74) d2_73 rfl rfl ?_
            refine X0.iconst (pc' := 75) (z := 5) d2_74 rfl rfl ?_
            refine X0.icmpYes (pc' := 89) d2_75 (by decide) (by decide) (by decide) ?_
            refine X0.iconst (pc' := 90) (z := 1) d2_89 rfl rfl ?_
            refine X0.goto (pc' := 94) d2_90 (by decide) (by decide) ?_
            exact X0.zreturn (z' := (1 : Int32)) rfl (by simp) d2_94 rfl (by decide) (by decide) ⟨by rw [if_pos ⟨hkn, (own_eqs4 hkn).mpr ⟨hc2, hc3, hc4, hc5⟩⟩], rfl⟩
          · refine X0.icmpYes (pc' := 93) d2_70 (feq hc5).2 (by decide) (by decide) ?_
            refine X0.iconst (pc' := 94) (z := 0) d2_93 rfl rfl ?_
            exact X0.zreturn (z' := (0 : Int32)) rfl (by simp) d2_94 rfl (by decide) (by decide) ⟨by rw [if_neg (fun q => hc5 ((own_eqs4 hkn).mp q.2).2.2.2)], rfl⟩
        · refine X0.icmpYes (pc' := 93) d2_54 (feq hc4).2 (by decide) (by decide) ?_
          refine X0.iconst (pc' := 94) (z := 0) d2_93 rfl rfl ?_
          exact X0.zreturn (z' := (0 : Int32)) rfl (by simp) d2_94 rfl (by decide) (by decide) ⟨by rw [if_neg (fun q => hc4 ((own_eqs4 hkn).mp q.2).2.2.1)], rfl⟩
      · refine X0.icmpYes (pc' := 93) d2_38 (feq hc3).2 (by decide) (by decide) ?_
        refine X0.iconst (pc' := 94) (z := 0) d2_93 rfl rfl ?_
        exact X0.zreturn (z' := (0 : Int32)) rfl (by simp) d2_94 rfl (by decide) (by decide) ⟨by rw [if_neg (fun q => hc3 ((own_eqs4 hkn).mp q.2).2.1)], rfl⟩
    · refine X0.icmpYes (pc' := 93) d2_22 (feq hc2).2 (by decide) (by decide) ?_
      refine X0.iconst (pc' := 94) (z := 0) d2_93 rfl rfl ?_
      exact X0.zreturn (z' := (0 : Int32)) rfl (by simp) d2_94 rfl (by decide) (by decide) ⟨by rw [if_neg (fun q => hc2 ((own_eqs4 hkn).mp q.2).1)], rfl⟩
  · refine X0.icmpNo (pc' := 10) d2_7 (flt hc1).1 rfl ?_
    refine X0.iconst (pc' := 11) (z := 0) d2_10 rfl rfl ?_
    exact X0.zreturn (z' := (0 : Int32)) rfl (by simp) d2_11 rfl (by decide) (by decide) ⟨by rw [if_neg (fun q => hc1 ((own_lt32 (i := 4) (by decide) (by omega)).mpr q.1))], rfl⟩
set_option maxRecDepth 65536 in
set_option maxHeartbeats 40000000 in
theorem ctIs5 (l : Launch) (Z : State) (a0 : Array Value) (hw : ∀ d ∈ tables_1, d.before a0 Z = true) (sa : Addr) (P : Nat → Int32) (n : Nat) (h0 : Heap) (Vs : Lst Z h0 sa .int (own_tn 6 P)) (hn : n ≤ 6) :
    Ct l Z y2 method_4_code 4 (some .boolean) ({ frames := 0, cells := 0, slots := 0, locals := 0 } : Room) #[(.ref sa), (.int n.toInt32), (.int (5 : Int32))] h0 [] (fun v h => v = some (.int (if 5 < n ∧ own_eqs (own_eqf P) (n - 1) 5 = true then (1 : Int32) else 0)) ∧ h0 = h) := by
  refine Ct.of (plainFor_of_name (by first | (simp [plainName, overriddenIn]; done) | decide +kernel)) ?_
  intro p e s m below meth c T0 X0
  refine Runs.top (g' := mkF m 0 #[.val (.ref sa), .val (.int n.toInt32), .val (.int (5 : Int32)), .unset] []) (by first | (simp [entryFrame, mkF, argsToLocals, Value.category]; done) | rfl) ?_
  refine X0.iloadN (pc' := 1) d2_0 rfl rfl ?_
  refine X0.iconst (pc' := 2) (z := 1) d2_1 rfl rfl ?_
  refine X0.icmpNo (pc' := 5) d2_2 (by decide) rfl ?_
  refine X0.iloadN (pc' := 6) d2_5 rfl rfl ?_
  refine X0.iloadN (pc' := 7) d2_6 rfl rfl ?_
  by_cases hc1 : (5 : Int32) < n.toInt32
  · refine X0.icmpYes (pc' := 12) d2_7 (tlt hc1).1 (by decide) (by decide) ?_
    have hkn : 5 < n := (own_lt32 (i := 5) (by decide) (by omega)).mp hc1
    refine X0.iloadN (pc' := 13) d2_12 rfl rfl ?_
    refine X0.iloadN (pc' := 14) d2_13 rfl rfl ?_
    refine X0.isub (pc' := 15) d2_14 rfl ?_
    rw [show n.toInt32 - (5 : Int32) = (n - 5).toInt32 from own_subn (k := 5) hkn hn]
    refine X0.istoreN (pc' := 16) (l' := #[.val (.ref sa), .val (.int n.toInt32), .val (.int (5 : Int32)), .val (.int (n - 5).toInt32)]) d2_15 rfl rfl ?_
    refine X0.aloadN (pc' := 17) d2_16 rfl rfl rfl ?_
    refine X0.iconst (pc' := 18) (z := 0) d2_17 rfl rfl ?_
    refine X0.iaload (pc' := 19) (v := (.int (P 0))) Vs (own_il (z := (0 : Int32)) (j := 0) rfl (by omega)) (own_tn_at (z := (0 : Int32)) (j := 0) rfl (by omega)) d2_18 rfl ?_
    refine X0.aloadN (pc' := 20) d2_19 rfl rfl rfl ?_
    refine X0.iloadN (pc' := 21) d2_20 rfl rfl ?_
    refine X0.iaload (pc' := 22) (v := (.int (P (n - 5)))) Vs (own_il (own_i32 (by omega)) (by omega : n - 5 < 6)) (own_tn_at (own_ilt (own_i32 (by omega))) (by omega : n - 5 < 6)) d2_21 rfl ?_
    by_cases hc2 : (P 0) = (P (n - 5))
    · refine X0.icmpNo (pc' := 25) d2_22 (teq hc2).2 rfl ?_
      refine X0.iloadN (pc' := 26) d2_25 rfl rfl ?_
      refine X0.iconst (pc' := 27) (z := 2) d2_26 rfl rfl ?_
      refine X0.icmpNo (pc' := 30) d2_27 (by decide) rfl ?_
      refine X0.aloadN (pc' := 31) d2_30 rfl rfl rfl ?_
      refine X0.iconst (pc' := 32) (z := 1) d2_31 rfl rfl ?_
      refine X0.iaload (pc' := 33) (v := (.int (P 1))) Vs (own_il (z := (1 : Int32)) (j := 1) rfl (by omega)) (own_tn_at (z := (1 : Int32)) (j := 1) rfl (by omega)) d2_32 rfl ?_
      refine X0.aloadN (pc' := 34) d2_33 rfl rfl rfl ?_
      refine X0.iloadN (pc' := 35) d2_34 rfl rfl ?_
      refine X0.iconst (pc' := 36) (z := 1) d2_35 rfl rfl ?_
      refine X0.iadd (pc' := 37) d2_36 rfl ?_
      refine X0.iaload (pc' := 38) (v := (.int (P (n - 5 + 1)))) Vs (own_il (own_sumi (a := n - 5) (b := 1) (by omega)) (by omega : n - 5 + 1 < 6)) (own_tn_at (own_ilt (own_sumi (a := n - 5) (b := 1) (by omega))) (by omega : n - 5 + 1 < 6)) d2_37 rfl ?_
      by_cases hc3 : (P 1) = (P (n - 5 + 1))
      · refine X0.icmpNo (pc' := 41) d2_38 (teq hc3).2 rfl ?_
        refine X0.iloadN (pc' := 42) d2_41 rfl rfl ?_
        refine X0.iconst (pc' := 43) (z := 3) d2_42 rfl rfl ?_
        refine X0.icmpNo (pc' := 46) d2_43 (by decide) rfl ?_
        refine X0.aloadN (pc' := 47) d2_46 rfl rfl rfl ?_
        refine X0.iconst (pc' := 48) (z := 2) d2_47 rfl rfl ?_
        refine X0.iaload (pc' := 49) (v := (.int (P 2))) Vs (own_il (z := (2 : Int32)) (j := 2) rfl (by omega)) (own_tn_at (z := (2 : Int32)) (j := 2) rfl (by omega)) d2_48 rfl ?_
        refine X0.aloadN (pc' := 50) d2_49 rfl rfl rfl ?_
        refine X0.iloadN (pc' := 51) d2_50 rfl rfl ?_
        refine X0.iconst (pc' := 52) (z := 2) d2_51 rfl rfl ?_
        refine X0.iadd (pc' := 53) d2_52 rfl ?_
        refine X0.iaload (pc' := 54) (v := (.int (P (n - 5 + 2)))) Vs (own_il (own_sumi (a := n - 5) (b := 2) (by omega)) (by omega : n - 5 + 2 < 6)) (own_tn_at (own_ilt (own_sumi (a := n - 5) (b := 2) (by omega))) (by omega : n - 5 + 2 < 6)) d2_53 rfl ?_
        by_cases hc4 : (P 2) = (P (n - 5 + 2))
        · refine X0.icmpNo (pc' := 57) d2_54 (teq hc4).2 rfl ?_
          refine X0.iloadN (pc' := 58) d2_57 rfl rfl ?_
          refine X0.iconst (pc' := 59) (z := 4) d2_58 rfl rfl ?_
          refine X0.icmpNo (pc' := 62) d2_59 (by decide) rfl ?_
          refine X0.aloadN (pc' := 63) d2_62 rfl rfl rfl ?_
          refine X0.iconst (pc' := 64) (z := 3) d2_63 rfl rfl ?_
          refine X0.iaload (pc' := 65) (v := (.int (P 3))) Vs (own_il (z := (3 : Int32)) (j := 3) rfl (by omega)) (own_tn_at (z := (3 : Int32)) (j := 3) rfl (by omega)) d2_64 rfl ?_
          refine X0.aloadN (pc' := 66) d2_65 rfl rfl rfl ?_
          refine X0.iloadN (pc' := 67) d2_66 rfl rfl ?_
          refine X0.iconst (pc' := 68) (z := 3) d2_67 rfl rfl ?_
          refine X0.iadd (pc' := 69) d2_68 rfl ?_
          refine X0.iaload (pc' := 70) (v := (.int (P (n - 5 + 3)))) Vs (own_il (own_sumi (a := n - 5) (b := 3) (by omega)) (by omega : n - 5 + 3 < 6)) (own_tn_at (own_ilt (own_sumi (a := n - 5) (b := 3) (by omega))) (by omega : n - 5 + 3 < 6)) d2_69 rfl ?_
          by_cases hc5 : (P 3) = (P (n - 5 + 3))
          · refine X0.icmpNo (pc' := 73) d2_70 (teq hc5).2 rfl ?_
            refine X0.iloadN (pc' := 74) d2_73 rfl rfl ?_
            refine X0.iconst (pc' := 75) (z := 5) d2_74 rfl rfl ?_
            refine X0.icmpNo (pc' := 78) d2_75 (by decide) rfl ?_
            refine X0.aloadN (pc' := 79) d2_78 rfl rfl rfl ?_
            refine X0.iconst (pc' := 80) (z := 4) d2_79 rfl rfl ?_
            refine X0.iaload (pc' := 81) (v := (.int (P 4))) Vs (own_il (z := (4 : Int32)) (j := 4) rfl (by omega)) (own_tn_at (z := (4 : Int32)) (j := 4) rfl (by omega)) d2_80 rfl ?_
            refine X0.aloadN (pc' := 82) d2_81 rfl rfl rfl ?_
            refine X0.iloadN (pc' := 83) d2_82 rfl rfl ?_
            refine X0.iconst (pc' := 84) (z := 4) d2_83 rfl rfl ?_
            refine X0.iadd (pc' := 85) d2_84 rfl ?_
            refine X0.iaload (pc' := 86) (v := (.int (P (n - 5 + 4)))) Vs (own_il (own_sumi (a := n - 5) (b := 4) (by omega)) (by omega : n - 5 + 4 < 6)) (own_tn_at (own_ilt (own_sumi (a := n - 5) (b := 4) (by omega))) (by omega : n - 5 + 4 < 6)) d2_85 rfl ?_
            by_cases hc6 : (P 4) = (P (n - 5 + 4))
            · refine X0.icmpNo (pc' := 89) d2_86 (teq hc6).2 rfl ?_
              refine X0.iconst (pc' := 90) (z := 1) d2_89 rfl rfl ?_
              refine X0.goto (pc' := 94) d2_90 (by decide) (by decide) ?_
              exact X0.zreturn (z' := (1 : Int32)) rfl (by simp) d2_94 rfl (by decide) (by decide) ⟨by rw [if_pos ⟨hkn, (own_eqs5 hkn).mpr ⟨hc2, hc3, hc4, hc5, hc6⟩⟩], rfl⟩
            · refine X0.icmpYes (pc' := 93) d2_86 (feq hc6).2 (by decide) (by decide) ?_
              refine X0.iconst (pc' := 94) (z := 0) d2_93 rfl rfl ?_
              exact X0.zreturn (z' := (0 : Int32)) rfl (by simp) d2_94 rfl (by decide) (by decide) ⟨by rw [if_neg (fun q => hc6 ((own_eqs5 hkn).mp q.2).2.2.2.2)], rfl⟩
          · refine X0.icmpYes (pc' := 93) d2_70 (feq hc5).2 (by decide) (by decide) ?_
            refine X0.iconst (pc' := 94) (z := 0) d2_93 rfl rfl ?_
            exact X0.zreturn (z' := (0 : Int32)) rfl (by simp) d2_94 rfl (by decide) (by decide) ⟨by rw [if_neg (fun q => hc5 ((own_eqs5 hkn).mp q.2).2.2.2.1)], rfl⟩
        · refine X0.icmpYes (pc' := 93) d2_54 (feq hc4).2 (by decide) (by decide) ?_
          refine X0.iconst (pc' := 94) (z := 0) d2_93 rfl rfl ?_
          exact X0.zreturn (z' := (0 : Int32)) rfl (by simp) d2_94 rfl (by decide) (by decide) ⟨by rw [if_neg (fun q => hc4 ((own_eqs5 hkn).mp q.2).2.2.1)], rfl⟩
      · refine X0.icmpYes (pc' := 93) d2_38 (feq hc3).2 (by decide) (by decide) ?_
        refine X0.iconst (pc' := 94) (z := 0) d2_93 rfl rfl ?_
        exact X0.zreturn (z' := (0 : Int32)) rfl (by simp) d2_94 rfl (by decide) (by decide) ⟨by rw [if_neg (fun q => hc3 ((own_eqs5 hkn).mp q.2).2.1)], rfl⟩
    · refine X0.icmpYes (pc' := 93) d2_22 (feq hc2).2 (by decide) (by decide) ?_
      refine X0.iconst (pc' := 94) (z := 0) d2_93 rfl rfl ?_
      exact X0.zreturn (z' := (0 : Int32)) rfl (by simp) d2_94 rfl (by decide) (by decide) ⟨by rw [if_neg (fun q => hc2 ((own_eqs5 hkn).mp q.2).1)], rfl⟩
  · refine X0.icmpNo (pc' := 10) d2_7 (flt hc1).1 rfl ?_
    refine X0.iconst (pc' := 11) (z := 0) d2_10 rfl rfl ?_
    exact X0.zreturn (z' := (0 : Int32)) rfl (by simp) d2_11 rfl (by decide) (by decide) ⟨by rw [if_neg (fun q => hc1 ((own_lt32 (i := 5) (by decide) (by omega)).mpr q.1))], rfl⟩
theorem own_npos {k : Nat} (h : k = 0) : ¬ (0 : Int32) < k.toInt32 := by subst h; decide
theorem own_pos {k n : Nat} (h : ¬ k = 0) (hk : k < n ∧ n < 2147483648) : (0 : Int32) < k.toInt32 := by
  rw [Int32.lt_iff_toInt_lt, own_i32 (by omega)]
  have e : (0 : Int32).toInt = 0 := rfl
  omega
set_option maxRecDepth 65536 in
set_option maxHeartbeats 40000000 in
theorem lpi4 {pr : Program} {l : Launch} {e : Env} {R : Room} {s : State} {m : MethodId} {args : Array Value} {below : List Frame} {meth : Method} {c : Code} {ret : Option FieldType} {Z : State} {h0 : Heap} {ws : List Addr} {G : Outcome → State → Prop} {a0 : Array Value} (hw : ∀ d ∈ tables_1, d.before a0 Z = true) {a b : Addr} {p : Nat → Int32} {tab : Nat → Nat} {n i : Nat} {cells slots : Nat} {h : Heap} (hn : n ≤ 6) (hi : i < n) (ht : ∀ j, tab j ≤ j) (Va : Lst Z h a .int (own_tn n p)) (Vb : Lst Z h b .int (own_tn n fun t => (tab t).toInt32)) :
    ∀ (f k : Nat) (T : State), Here pr l e R s m args below meth c y4 prog_20_method_2_code 5 ret Z h0 ws T cells slots h → k ≤ f → k < i → (∀ T', Here pr l e R s m args below meth c y4 prog_20_method_2_code 5 ret Z h0 ws T' cells slots h → Runs pr e below (T'.setTop (mkF m 41 #[.val (.ref a), .val (.ref b), .val (.int (own_kw (own_eqf p) tab i f k).toInt32), .val (.int i.toInt32), .val (.int (p i))] [])) G) → Runs pr e below (T.setTop (mkF m 20 #[.val (.ref a), .val (.ref b), .val (.int k.toInt32), .val (.int i.toInt32), .val (.int (p i))] [])) G := by
  intro f
  induction f with
  | zero =>
    intro k T X hf hk kx
    have hk0 : k = 0 := by omega
    refine X.iloadN (pc' := 21) d4_20 rfl rfl ?_
    refine X.ifYes (pc' := 41) d4_21 (flt (own_npos hk0)).2.2.2 (by decide) (by decide) ?_
    have := kx T X
    first | exact this | (unfold own_kw at this; rw [if_pos hk0] at this; exact this)
  | succ f ih =>
    intro k T X hf hki kx
    have hk : k < n ∧ n < 2147483648 := by omega
    by_cases hk0 : k = 0
    · refine X.iloadN (pc' := 21) d4_20 rfl rfl ?_
      refine X.ifYes (pc' := 41) d4_21 (flt (own_npos hk0)).2.2.2 (by decide) (by decide) ?_
      have := kx T X
      first | exact this | (unfold own_kw at this; rw [if_pos hk0] at this; exact this)
    · refine X.iloadN (pc' := 21) d4_20 rfl rfl ?_
      refine X.ifNo (pc' := 24) d4_21 (tlt (own_pos hk0 hk)).2.2.2 rfl ?_
      refine X.aloadN (pc' := 25) d4_24 rfl rfl rfl ?_
      refine X.iloadN (pc' := 26) d4_25 rfl rfl ?_
      refine X.iaload (pc' := 27) (v := (.int (p k))) Va (own_il (own_i32 (by omega)) (by omega : k < n)) (own_tn_at (own_ilt (own_i32 (by omega))) (by omega : k < n)) d4_26 rfl ?_
      refine X.iload (pc' := 29) d4_27 rfl rfl ?_
      by_cases hc1 : (p k) = (p i)
      · refine X.icmpYes (pc' := 41) d4_29 (teq hc1).1 (by decide) (by decide) ?_
        have := kx T X
        unfold own_kw at this
        rw [if_neg hk0, if_pos (by simp [own_eqf, hc1])] at this
        exact this
      · refine X.icmpNo (pc' := 32) d4_29 (feq hc1).1 rfl ?_
        refine X.aloadN (pc' := 33) d4_32 rfl rfl rfl ?_
        refine X.iloadN (pc' := 34) d4_33 rfl rfl ?_
        refine X.iconst (pc' := 35) (z := 1) d4_34 rfl rfl ?_
        refine X.isub (pc' := 36) d4_35 rfl ?_
        refine X.iaload (pc' := 37) (v := (.int (tab (k - 1)).toInt32)) Vb (own_il (own_dec (by omega) (by omega)) (by omega : k - 1 < n)) (own_tn_at (own_ilt (own_dec (by omega) (by omega))) (by omega : k - 1 < n)) d4_36 rfl ?_
        refine X.istoreN (pc' := 38) (l' := #[.val (.ref a), .val (.ref b), .val (.int (tab (k - 1)).toInt32), .val (.int i.toInt32), .val (.int (p i))]) d4_37 rfl rfl ?_
        refine X.goto (pc' := 20) d4_38 (by decide) (by decide) ?_
        have ht1 := ht (k - 1)
        refine ih (tab (k - 1)) T X (by omega) (by omega) (fun T' X' => ?_)
        have := kx T' X'
        unfold own_kw at this
        rw [if_neg hk0, if_neg (by simp [own_eqf, hc1])] at this
        exact this
set_option maxRecDepth 65536 in
set_option maxHeartbeats 40000000 in
theorem lpo4 {pr : Program} {l : Launch} {e : Env} {R : Room} {s : State} {m : MethodId} {args : Array Value} {below : List Frame} {meth : Method} {c : Code} {ret : Option FieldType} {Z : State} {h0 : Heap} {ws : List Addr} {G : Outcome → State → Prop} {a0 : Array Value} (hw : ∀ d ∈ tables_1, d.before a0 Z = true) {a b : Addr} {p : Nat → Int32} {n : Nat} {cells slots : Nat} (hn : n ≤ 6) (hab : a ≠ b) (sz_b : h0.size ≤ b) :
    ∀ (d j : Nat) (T : State) (h : Heap) (s4 : Slot), Here pr l e R s m args below meth c y4 prog_20_method_2_code 5 ret Z h0 ws T cells slots h → One s4 → n ≤ j + 1 + d → j ≤ n - 1 → Lst Z h a .int (own_tn n p) → Lst Z h b .int (own_tn n fun t => ((own_kmp (own_eqf p) j).2 t).toInt32) → (∀ T' h' s4', Here pr l e R s m args below meth c y4 prog_20_method_2_code 5 ret Z h0 ws T' cells slots h' → Lst Z h' a .int (own_tn n p) → Lst Z h' b .int (own_tn n fun t => ((own_kmp (own_eqf p) (n - 1)).2 t).toInt32) → Runs pr e below (T'.setTop (mkF m 62 #[.val (.ref a), .val (.ref b), .val (.int (own_kmp (own_eqf p) (n - 1)).1.toInt32), .val (.int ((n - 1) + 1).toInt32), s4'] [])) G) → Runs pr e below (T.setTop (mkF m 9 #[.val (.ref a), .val (.ref b), .val (.int (own_kmp (own_eqf p) j).1.toInt32), .val (.int (j + 1).toInt32), s4] [])) G := by
  intro d
  induction d with
  | zero =>
    intro j T h s4 X hs4 hd hj Va Vb kx
    have hi : ¬ j + 1 < n := by omega
    refine X.iloadN (pc' := 10) d4_9 rfl rfl ?_
    refine X.aloadN (pc' := 11) d4_10 rfl rfl rfl ?_
    refine X.arraylength (pc' := 12) (n := n.toInt32) Vb (by rw [own_tn_len]) d4_11 rfl ?_
    refine X.icmpYes (pc' := 62) d4_12 (flt (fun q => hi ((own_lt32 (by omega) (by omega)).mp q))).2.1 (by decide) (by decide) ?_
    obtain rfl : j = n - 1 := by omega
    exact kx _ _ _ X Va Vb
  | succ d ih =>
    intro j T h s4 X hs4 hd hj Va Vb kx
    have hk := own_kmp_le (own_eqf p) j
    have hk1 := hk.1
    by_cases hi : j + 1 < n
    · refine X.iloadN (pc' := 10) d4_9 rfl rfl ?_
      refine X.aloadN (pc' := 11) d4_10 rfl rfl rfl ?_
      refine X.arraylength (pc' := 12) (n := n.toInt32) Vb (by rw [own_tn_len]) d4_11 rfl ?_
      refine X.icmpNo (pc' := 15) d4_12 (tlt ((own_lt32 (by omega) (by omega)).mpr hi)).2.1 rfl ?_
      refine X.aloadN (pc' := 16) d4_15 rfl rfl rfl ?_
      refine X.iloadN (pc' := 17) d4_16 rfl rfl ?_
      refine X.iaload (pc' := 18) (v := (.int (p (j + 1)))) Va (own_il (own_i32 (by omega)) hi) (own_tn_at (own_ilt (own_i32 (by omega))) hi) d4_17 rfl ?_
      refine X.istore (pc' := 20) (l' := #[.val (.ref a), .val (.ref b), .val (.int (own_kmp (own_eqf p) j).1.toInt32), .val (.int (j + 1).toInt32), .val (.int (p (j + 1)))]) d4_18 (XS.store1 rfl hs4 rfl) rfl ?_
      refine lpi4 hw hn hi hk.2 Va Vb (own_kmp (own_eqf p) j).1 _ _ X (Nat.le_refl _) (by omega) (fun T5 X5 => ?_)
      have hKle := own_kw_le (own_eqf p) (own_kmp (own_eqf p) j).2 (j + 1) hk.2 (own_kmp (own_eqf p) j).1 (own_kmp (own_eqf p) j).1
      obtain ⟨K, hK⟩ : ∃ K, K = (own_kw (own_eqf p) (own_kmp (own_eqf p) j).2 (j + 1) (own_kmp (own_eqf p) j).1 (own_kmp (own_eqf p) j).1) := ⟨_, rfl⟩
      rw [← hK] at hKle ⊢
      refine X5.aloadN (pc' := 42) d4_41 rfl rfl rfl ?_
      refine X5.iloadN (pc' := 43) d4_42 rfl rfl ?_
      refine X5.iaload (pc' := 44) (v := (.int (p K))) Va (own_il (own_i32 (by omega)) (by omega : K < n)) (own_tn_at (own_ilt (own_i32 (by omega))) (by omega : K < n)) d4_43 rfl ?_
      refine X5.iload (pc' := 46) d4_44 rfl rfl ?_
      by_cases hc1 : (p K) = (p (j + 1))
      · refine X5.icmpNo (pc' := 49) d4_46 (teq hc1).2 rfl ?_
        refine X5.iinc (pc' := 52) (z := 1) (l' := #[.val (.ref a), .val (.ref b), .val (.int (K + 1).toInt32), .val (.int (j + 1).toInt32), .val (.int (p (j + 1)))]) d4_49 rfl rfl (by rw [own_inc]; rfl) rfl ?_
        refine X5.aloadN (pc' := 53) d4_52 rfl rfl rfl ?_
        refine X5.iloadN (pc' := 54) d4_53 rfl rfl ?_
        refine X5.iloadN (pc' := 55) d4_54 rfl rfl ?_
        refine X5.iastore (pc' := 56) Vb (own_il (own_i32 (by omega)) hi) d4_55 rfl (Or.inr sz_b) (fun T2 h2 X2 W2 => ?_)
        have V2 : Lst Z h2 b .int (own_tn n fun t => (own_upn (own_kmp (own_eqf p) j).2 (j + 1) (K + 1) t).toInt32) := ((congrArg (fun u => List.set _ u _) (own_ilt (own_i32 (by omega : j + 1 < 2147483648)))).trans (own_tn_set (n := n) (own_kmp (own_eqf p) j).2 (j + 1) (K + 1))) ▸ Vb.set W2
        have Va_2 := Va.other W2 hab
        refine X2.iinc (pc' := 59) (z := 1) (l' := #[.val (.ref a), .val (.ref b), .val (.int (K + 1).toInt32), .val (.int (j + 1 + 1).toInt32), .val (.int (p (j + 1)))]) d4_56 rfl rfl (by rw [own_inc]; rfl) rfl ?_
        refine X2.goto (pc' := 9) d4_59 (by decide) (by decide) ?_
        have eK : own_kmp (own_eqf p) (j + 1) = (K + 1, own_upn (own_kmp (own_eqf p) j).2 (j + 1) (K + 1)) := by
          show (own_ks _ _ _ _, own_upn _ _ (own_ks _ _ _ _)) = _
          unfold own_ks
          rw [← hK]
          simp [own_eqf, hc1]
        have q := ih (j + 1) T2 h2 (.val (.int (p (j + 1)))) X2 (One.val rfl) (by omega) (by omega) Va_2 (by rw [eK]; exact V2) kx
        rw [eK] at q
        exact q
      · refine X5.icmpYes (pc' := 52) d4_46 (feq hc1).2 (by decide) (by decide) ?_
        refine X5.aloadN (pc' := 53) d4_52 rfl rfl rfl ?_
        refine X5.iloadN (pc' := 54) d4_53 rfl rfl ?_
        refine X5.iloadN (pc' := 55) d4_54 rfl rfl ?_
        refine X5.iastore (pc' := 56) Vb (own_il (own_i32 (by omega)) hi) d4_55 rfl (Or.inr sz_b) (fun T3 h3 X3 W3 => ?_)
        have V3 : Lst Z h3 b .int (own_tn n fun t => (own_upn (own_kmp (own_eqf p) j).2 (j + 1) K t).toInt32) := ((congrArg (fun u => List.set _ u _) (own_ilt (own_i32 (by omega : j + 1 < 2147483648)))).trans (own_tn_set (n := n) (own_kmp (own_eqf p) j).2 (j + 1) K)) ▸ Vb.set W3
        have Va_3 := Va.other W3 hab
        refine X3.iinc (pc' := 59) (z := 1) (l' := #[.val (.ref a), .val (.ref b), .val (.int K.toInt32), .val (.int (j + 1 + 1).toInt32), .val (.int (p (j + 1)))]) d4_56 rfl rfl (by rw [own_inc]; rfl) rfl ?_
        refine X3.goto (pc' := 9) d4_59 (by decide) (by decide) ?_
        have eK : own_kmp (own_eqf p) (j + 1) = (K, own_upn (own_kmp (own_eqf p) j).2 (j + 1) (K)) := by
          show (own_ks _ _ _ _, own_upn _ _ (own_ks _ _ _ _)) = _
          unfold own_ks
          rw [← hK]
          simp [own_eqf, hc1]
        have q := ih (j + 1) T3 h3 (.val (.int (p (j + 1)))) X3 (One.val rfl) (by omega) (by omega) Va_3 (by rw [eK]; exact V3) kx
        rw [eK] at q
        exact q
    · refine X.iloadN (pc' := 10) d4_9 rfl rfl ?_
      refine X.aloadN (pc' := 11) d4_10 rfl rfl rfl ?_
      refine X.arraylength (pc' := 12) (n := n.toInt32) Vb (by rw [own_tn_len]) d4_11 rfl ?_
      refine X.icmpYes (pc' := 62) d4_12 (flt (fun q => hi ((own_lt32 (by omega) (by omega)).mp q))).2.1 (by decide) (by decide) ?_
      obtain rfl : j = n - 1 := by omega
      exact kx _ _ _ X Va Vb
set_option maxRecDepth 65536 in
set_option maxHeartbeats 40000000 in
theorem ctOf (l : Launch) (Z : State) (a0 : Array Value) (hw : ∀ d ∈ tables_1, d.before a0 Z = true) (a : Addr) (p : Nat → Int32) (n : Nat) (h0 : Heap) (hn : n ≤ 6) (Va : Lst Z h0 a .int (own_tn n p)) :
    Ct l Z y4 prog_20_method_2_code 5 (some (.array .int)) ({ frames := 0, cells := 1, slots := 6, locals := 0 } : Room) #[(.ref a)] h0 [] (fun v h => ∃ b, v = some (.ref b) ∧ h0.size ≤ b ∧ Lst Z h b .int (own_tn n (own_tb p n))) := by
  refine Ct.of (plainFor_of_name (by first | (simp [plainName, overriddenIn]; done) | decide +kernel)) ?_
  intro pr e s m below meth c T0 X0
  refine Runs.top (g' := mkF m 0 #[.val (.ref a), .unset, .unset, .unset, .unset] []) (by first | (simp [entryFrame, mkF, argsToLocals, Value.category]; done) | rfl) ?_
  refine X0.aloadN (pc' := 1) d4_0 rfl rfl rfl ?_
  refine X0.arraylength (pc' := 2) (n := n.toInt32) Va (by rw [own_tn_len]) d4_1 rfl ?_
  refine X0.newarray (pc' := 4) (ty := .int) rfl (wd_2 hw) d4_2 rfl (cap := 6) ⟨by rw [own_i32 (by omega)]; omega, by rw [own_i32 (by omega)]; omega⟩ (by decide) (by decide) (by decide) (fun T1 h1 b1 X1 g1 E1 V1 => ?_)
  have sz_b1 : h0.size ≤ b1 := g1 ▸ X0.size
  have ne_a_b1 : a ≠ b1 := Nat.ne_of_lt (g1 ▸ Va.lt)
  have Va_1 := Va.ext E1
  refine X1.astoreN (pc' := 5) (l' := #[.val (.ref a), .val (.ref b1), .unset, .unset, .unset]) d4_4 rfl rfl rfl ?_
  refine X1.iconst (pc' := 6) (z := 0) d4_5 rfl rfl ?_
  refine X1.istoreN (pc' := 7) (l' := #[.val (.ref a), .val (.ref b1), .val (.int (0 : Int32)), .unset, .unset]) d4_6 rfl rfl ?_
  refine X1.iconst (pc' := 8) (z := 1) d4_7 rfl rfl ?_
  refine X1.istoreN (pc' := 9) (l' := #[.val (.ref a), .val (.ref b1), .val (.int (0 : Int32)), .val (.int (1 : Int32)), .unset]) d4_8 rfl rfl ?_
  have e0n : n.toInt32.toInt.toNat = n := own_ilt (own_i32 (by omega))
  have Vb0 : Lst Z h1 b1 .int (own_tn n fun t => ((own_kmp (own_eqf p) 0).2 t).toInt32) := by
    have q := V1
    rw [e0n] at q
    have e2 : List.replicate n (Value.int (0 : Int32)) = own_tn n (fun t => ((own_kmp (own_eqf p) 0).2 t).toInt32) := by
      show _ = (List.range n).map (fun _ => Value.int (0 : Int32))
      rw [List.map_const', List.length_range]
    exact e2 ▸ q
  refine lpo4 hw hn ne_a_b1 sz_b1 n 0 T1 h1 .unset X1 One.u (by omega) (by omega) Va_1 Vb0 (fun T7 h7 s7 X7 Va7 Vb7 => ?_)
  refine X7.aloadN (pc' := 63) d4_62 rfl rfl rfl ?_
  exact X7.areturn rfl rfl rfl rfl d4_63 (by decide) (by decide) ⟨b1, rfl, sz_b1, Vb7⟩
set_option maxRecDepth 65536 in
set_option maxHeartbeats 40000000 in
theorem lpf {p : Program} {l : Launch} {e : Env} {R : Room} {s : State} {m : MethodId} {args : Array Value} {below : List Frame} {meth : Method} {c : Code} {ret : Option FieldType} {Z : State} {h0 : Heap} {ws : List Addr} {G : Outcome → State → Prop} {a0 : Array Value} (hw : ∀ d ∈ tables_1, d.before a0 Z = true) {pa ta fa : Addr} {P : Nat → Int32} {tab : Nat → Nat} {n : Nat} {cells slots : Nat} (hn : n ≤ 6) (ht : ∀ j, tab j ≤ j) (hpf : pa ≠ fa) (htf : ta ≠ fa) (sz_fa : h0.size ≤ fa) :
    ∀ (d i : Nat) (T : State) (h : Heap) (s4 : Slot) (fb : Nat → Int32), Here p l e R s m args below meth c y6 prog_1_method_15_code 5 ret Z h0 ws T cells slots h → One s4 → n ≤ i + d → i ≤ n → Lst Z h pa .int (own_tn n P) → Lst Z h ta .int (own_tn n fun t => (tab t).toInt32) → Lst Z h fa .int (own_tn n fb) → (∀ t, t < i → -1 ≤ (fb t).toInt ∧ (fb t).toInt < (t : Int)) → (∀ T' h' s4' fb', Here p l e R s m args below meth c y6 prog_1_method_15_code 5 ret Z h0 ws T' cells slots h' → Lst Z h' fa .int (own_tn n fb') → (∀ t, t < n → -1 ≤ (fb' t).toInt ∧ (fb' t).toInt < (t : Int)) → Runs p e below (T'.setTop (mkF m 61 #[.val (.ref pa), .val (.ref ta), .val (.ref fa), .val (.int n.toInt32), s4'] [])) G) → Runs p e below (T.setTop (mkF m 7 #[.val (.ref pa), .val (.ref ta), .val (.ref fa), .val (.int i.toInt32), s4] [])) G := by
  intro d
  induction d with
  | zero =>
    intro i T h s4 fb X hs4 hd hle Vp Vt Vf hb kx
    refine X.iloadN (pc' := 8) d6_7 rfl rfl ?_
    refine X.aloadN (pc' := 9) d6_8 rfl rfl rfl ?_
    refine X.arraylength (pc' := 10) (n := n.toInt32) Vp (by rw [own_tn_len]) d6_9 rfl ?_
    refine X.icmpYes (pc' := 61) d6_10 (flt (fun q => absurd ((own_lt32 (by omega) (by omega)).mp q) (by omega))).2.1 (by decide) (by decide) ?_
    obtain rfl : i = n := by omega
    exact kx _ _ _ _ X Vf hb
  | succ d ih =>
    intro i T h s4 fb X hs4 hd hle Vp Vt Vf hb kx
    by_cases hi : i < n
    · refine X.iloadN (pc' := 8) d6_7 rfl rfl ?_
      refine X.aloadN (pc' := 9) d6_8 rfl rfl rfl ?_
      refine X.arraylength (pc' := 10) (n := n.toInt32) Vp (by rw [own_tn_len]) d6_9 rfl ?_
      refine X.icmpNo (pc' := 13) d6_10 (tlt ((own_lt32 (by omega) (by omega)).mpr (by omega))).2.1 rfl ?_
      refine X.iloadN (pc' := 14) d6_13 rfl rfl ?_
      by_cases hc1 : i.toInt32 = (0 : Int32)
      · refine X.ifNo (pc' := 17) d6_14 (teq hc1).2 rfl ?_
        refine X.iconst (pc' := 18) (z := -1) d6_17 rfl rfl ?_
        refine X.goto (pc' := 26) d6_18 (by decide) (by decide) ?_
        refine X.istore (pc' := 28) (l' := #[.val (.ref pa), .val (.ref ta), .val (.ref fa), .val (.int i.toInt32), .val (.int (-1 : Int32))]) d6_26 (XS.store1 rfl hs4 rfl) rfl ?_
        refine X.aloadN (pc' := 29) d6_28 rfl rfl rfl ?_
        refine X.iloadN (pc' := 30) d6_29 rfl rfl ?_
        refine X.iload (pc' := 32) d6_30 rfl rfl ?_
        refine X.ifYes (pc' := 52) d6_32 (by decide) (by decide) (by decide) ?_
        refine X.iload (pc' := 54) d6_52 rfl rfl ?_
        refine X.iastore (pc' := 55) Vf (own_il (own_i32 (by omega)) hi) d6_54 rfl (Or.inr sz_fa) (fun T2 h2 X2 W2 => ?_)
        have V2 : Lst Z h2 fa .int (own_tn n (own_upd fb i (-1 : Int32))) := (own_tn_updz (i := i) (own_i32 (n := i) (by omega))) ▸ Vf.set W2
        have Vp_2 := Vp.other W2 hpf
        have Vt_2 := Vt.other W2 htf
        refine X2.iinc (pc' := 58) (z := 1) (l' := #[.val (.ref pa), .val (.ref ta), .val (.ref fa), .val (.int (i + 1).toInt32), .val (.int (-1 : Int32))]) d6_55 rfl rfl (by rw [own_inc]; rfl) rfl ?_
        refine X2.goto (pc' := 7) d6_58 (by decide) (by decide) ?_
        exact ih (i + 1) T2 h2 (.val (.int (-1 : Int32))) _ X2 (One.val rfl) (by omega) (by omega) Vp_2 Vt_2 V2 (own_fbu hb ⟨by decide, by rw [show (-1 : Int32).toInt = -1 from rfl]; omega⟩) kx
      · refine X.ifYes (pc' := 21) d6_14 (feq hc1).2 (by decide) (by decide) ?_
        have hi0 : 0 < i := own_pz hc1
        have hti := ht (i - 1)
        refine X.aloadN (pc' := 22) d6_21 rfl rfl rfl ?_
        refine X.iloadN (pc' := 23) d6_22 rfl rfl ?_
        refine X.iconst (pc' := 24) (z := 1) d6_23 rfl rfl ?_
        refine X.isub (pc' := 25) d6_24 rfl ?_
        refine X.iaload (pc' := 26) (v := (.int (tab (i - 1)).toInt32)) Vt (own_il (own_dec (by omega) (by omega)) (by omega : i - 1 < n)) (own_tn_at (v := fun t => (tab t).toInt32) (own_ilt (own_dec (by omega) (by omega))) (by omega : i - 1 < n)) d6_25 rfl ?_
        refine X.istore (pc' := 28) (l' := #[.val (.ref pa), .val (.ref ta), .val (.ref fa), .val (.int i.toInt32), .val (.int (tab (i - 1)).toInt32)]) d6_26 (XS.store1 rfl hs4 rfl) rfl ?_
        refine X.aloadN (pc' := 29) d6_28 rfl rfl rfl ?_
        refine X.iloadN (pc' := 30) d6_29 rfl rfl ?_
        refine X.iload (pc' := 32) d6_30 rfl rfl ?_
        refine X.ifNo (pc' := 35) d6_32 (flt (own_nneg (by omega))).1 rfl ?_
        refine X.aloadN (pc' := 36) d6_35 rfl rfl rfl ?_
        refine X.iload (pc' := 38) d6_36 rfl rfl ?_
        refine X.iaload (pc' := 39) (v := (.int (P (tab (i - 1))))) Vp (own_il (own_i32 (by omega)) (by omega : tab (i - 1) < n)) (own_tn_at (own_ilt (own_i32 (by omega))) (by omega : tab (i - 1) < n)) d6_38 rfl ?_
        refine X.aloadN (pc' := 40) d6_39 rfl rfl rfl ?_
        refine X.iloadN (pc' := 41) d6_40 rfl rfl ?_
        refine X.iaload (pc' := 42) (v := (.int (P i))) Vp (own_il (own_i32 (by omega)) hi) (own_tn_at (own_ilt (own_i32 (by omega))) hi) d6_41 rfl ?_
        by_cases hc3 : (P (tab (i - 1))) = (P i)
        · refine X.icmpNo (pc' := 45) d6_42 (teq hc3).2 rfl ?_
          refine X.aloadN (pc' := 46) d6_45 rfl rfl rfl ?_
          refine X.iload (pc' := 48) d6_46 rfl rfl ?_
          refine X.iaload (pc' := 49) (v := (.int (fb (tab (i - 1))))) Vf (own_il (own_i32 (by omega)) (by omega : tab (i - 1) < n)) (own_tn_at (own_ilt (own_i32 (by omega))) (by omega : tab (i - 1) < n)) d6_48 rfl ?_
          refine X.goto (pc' := 54) d6_49 (by decide) (by decide) ?_
          refine X.iastore (pc' := 55) Vf (own_il (own_i32 (by omega)) hi) d6_54 rfl (Or.inr sz_fa) (fun T4 h4 X4 W4 => ?_)
          have V4 : Lst Z h4 fa .int (own_tn n (own_upd fb i (fb (tab (i - 1))))) := (own_tn_updz (i := i) (own_i32 (n := i) (by omega))) ▸ Vf.set W4
          have Vp_4 := Vp.other W4 hpf
          have Vt_4 := Vt.other W4 htf
          refine X4.iinc (pc' := 58) (z := 1) (l' := #[.val (.ref pa), .val (.ref ta), .val (.ref fa), .val (.int (i + 1).toInt32), .val (.int (tab (i - 1)).toInt32)]) d6_55 rfl rfl (by rw [own_inc]; rfl) rfl ?_
          refine X4.goto (pc' := 7) d6_58 (by decide) (by decide) ?_
          exact ih (i + 1) T4 h4 (.val (.int (tab (i - 1)).toInt32)) _ X4 (One.val rfl) (by omega) (by omega) Vp_4 Vt_4 V4 (own_fbu hb (by have q := hb (tab (i - 1)) (by omega); omega)) kx
        · refine X.icmpYes (pc' := 52) d6_42 (feq hc3).2 (by decide) (by decide) ?_
          refine X.iload (pc' := 54) d6_52 rfl rfl ?_
          refine X.iastore (pc' := 55) Vf (own_il (own_i32 (by omega)) hi) d6_54 rfl (Or.inr sz_fa) (fun T5 h5 X5 W5 => ?_)
          have V5 : Lst Z h5 fa .int (own_tn n (own_upd fb i (tab (i - 1)).toInt32)) := (own_tn_updz (i := i) (own_i32 (n := i) (by omega))) ▸ Vf.set W5
          have Vp_5 := Vp.other W5 hpf
          have Vt_5 := Vt.other W5 htf
          refine X5.iinc (pc' := 58) (z := 1) (l' := #[.val (.ref pa), .val (.ref ta), .val (.ref fa), .val (.int (i + 1).toInt32), .val (.int (tab (i - 1)).toInt32)]) d6_55 rfl rfl (by rw [own_inc]; rfl) rfl ?_
          refine X5.goto (pc' := 7) d6_58 (by decide) (by decide) ?_
          exact ih (i + 1) T5 h5 (.val (.int (tab (i - 1)).toInt32)) _ X5 (One.val rfl) (by omega) (by omega) Vp_5 Vt_5 V5 (own_fbu hb (by rw [own_i32 (by omega)]; omega)) kx
    · refine X.iloadN (pc' := 8) d6_7 rfl rfl ?_
      refine X.aloadN (pc' := 9) d6_8 rfl rfl rfl ?_
      refine X.arraylength (pc' := 10) (n := n.toInt32) Vp (by rw [own_tn_len]) d6_9 rfl ?_
      refine X.icmpYes (pc' := 61) d6_10 (flt (fun q => absurd ((own_lt32 (by omega) (by omega)).mp q) (by omega))).2.1 (by decide) (by decide) ?_
      obtain rfl : i = n := by omega
      exact kx _ _ _ _ X Vf hb
set_option maxRecDepth 65536 in
set_option maxHeartbeats 40000000 in
theorem ctFb (l : Launch) (Z : State) (a0 : Array Value) (hw : ∀ d ∈ tables_1, d.before a0 Z = true) (pa ta : Addr) (P : Nat → Int32) (tab : Nat → Nat) (n : Nat) (h0 : Heap) (Vp : Lst Z h0 pa .int (own_tn n P)) (Vt : Lst Z h0 ta .int (own_tn n fun t => (tab t).toInt32)) (hn : n ≤ 6) (ht : ∀ j, tab j ≤ j) :
    Ct l Z y6 prog_1_method_15_code 5 (some (.array .int)) ({ frames := 0, cells := 1, slots := 6, locals := 0 } : Room) #[(.ref pa), (.ref ta)] h0 [] (fun v h => ∃ b, v = some (.ref b) ∧ h0.size ≤ b ∧ ∃ fb : Nat → Int32, Lst Z h b .int (own_tn n fb) ∧ ∀ t, t < n → -1 ≤ (fb t).toInt ∧ (fb t).toInt < (t : Int)) := by
  refine Ct.of (plainFor_of_name (by first | (simp [plainName, overriddenIn]; done) | decide +kernel)) ?_
  intro p e s m below meth c T0 X0
  refine Runs.top (g' := mkF m 0 #[.val (.ref pa), .val (.ref ta), .unset, .unset, .unset] []) (by first | (simp [entryFrame, mkF, argsToLocals, Value.category]; done) | rfl) ?_
  refine X0.aloadN (pc' := 1) d6_0 rfl rfl rfl ?_
  refine X0.arraylength (pc' := 2) (n := n.toInt32) Vp (by rw [own_tn_len]) d6_1 rfl ?_
  refine X0.newarray (pc' := 4) (ty := .int) rfl (wd_2 hw) d6_2 rfl (cap := 6) ⟨by rw [own_i32 (by omega)]; omega, by rw [own_i32 (by omega)]; omega⟩ (by decide) (by decide) (by decide) (fun T1 h1 b1 X1 g1 E1 V1 => ?_)
  have sz_b1 : h0.size ≤ b1 := g1 ▸ X0.size
  have ne_pa_b1 : pa ≠ b1 := Nat.ne_of_lt (g1 ▸ Vp.lt)
  have ne_ta_b1 : ta ≠ b1 := Nat.ne_of_lt (g1 ▸ Vt.lt)
  have Vp_1 := Vp.ext E1
  have Vt_1 := Vt.ext E1
  refine X1.astoreN (pc' := 5) (l' := #[.val (.ref pa), .val (.ref ta), .val (.ref b1), .unset, .unset]) d6_4 rfl rfl rfl ?_
  refine X1.iconst (pc' := 6) (z := 0) d6_5 rfl rfl ?_
  refine X1.istoreN (pc' := 7) (l' := #[.val (.ref pa), .val (.ref ta), .val (.ref b1), .val (.int (0 : Int32)), .unset]) d6_6 rfl rfl ?_
  refine lpf hw hn ht ne_pa_b1 ne_ta_b1 sz_b1 n 0 T1 h1 .unset (fun _ => (0 : Int32)) X1 One.u (by omega) (by omega) Vp_1 Vt_1 (own_repz (own_i32 (by omega)) V1) (fun t q => absurd q (by omega)) (fun T7 h7 s7 fb X7 Vf7 hb7 => ?_)
  refine X7.aloadN (pc' := 62) d6_61 rfl rfl rfl ?_
  exact X7.areturn rfl rfl rfl rfl d6_62 (by decide) (by decide) ⟨_, rfl, sz_b1, fb, Vf7, hb7⟩
set_option maxRecDepth 65536 in
set_option maxHeartbeats 40000000 in
theorem lpa {p : Program} {l : Launch} {e : Env} {R : Room} {s : State} {m : MethodId} {args : Array Value} {below : List Frame} {meth : Method} {c : Code} {ret : Option FieldType} {Z : State} {h0 : Heap} {ws : List Addr} {G : Outcome → State → Prop} {a0 : Array Value} (hw : ∀ d ∈ tables_1, d.before a0 Z = true) {pa fa : Addr} {P fb : Nat → Int32} {n : Nat} {sym : Int32} {cells slots : Nat} {h : Heap} (Vp : Lst Z h pa .int (own_tn n P)) (Vf : Lst Z h fa .int (own_tn n fb)) (hn : n ≤ 6) (hfb : ∀ t, t < n → -1 ≤ (fb t).toInt ∧ (fb t).toInt < (t : Int)) :
    ∀ (d : Nat) (x : Int32) (T : State), Here p l e R s m args below meth c y14 prog_1_method_14_code 4 ret Z h0 ws T cells slots h → -1 ≤ x.toInt → x.toInt < (d : Int) → d ≤ n → (∀ T' x', Here p l e R s m args below meth c y14 prog_1_method_14_code 4 ret Z h0 ws T' cells slots h → -1 ≤ x'.toInt → x'.toInt < (n : Int) → Runs p e below (T'.setTop (mkF m 18 #[.val (.ref pa), .val (.ref fa), .val (.int x'), .val (.int sym)] [])) G) → Runs p e below (T.setTop (mkF m 0 #[.val (.ref pa), .val (.ref fa), .val (.int x), .val (.int sym)] [])) G := by
  intro d
  induction d with
  | zero =>
    intro x T X h1 h2 h3 kx
    have hx : x.toInt < 0 := by omega
    refine X.iloadN (pc' := 1) d14_0 rfl rfl ?_
    refine X.ifYes (pc' := 18) d14_1 (tlt (own_m0.mpr hx)).1 (by decide) (by decide) ?_
    exact kx _ _ X (by omega) (by omega)
  | succ d ih =>
    intro x T X h1 h2 h3 kx
    by_cases hx : x.toInt < 0
    · refine X.iloadN (pc' := 1) d14_0 rfl rfl ?_
      refine X.ifYes (pc' := 18) d14_1 (tlt (own_m0.mpr hx)).1 (by decide) (by decide) ?_
      exact kx _ _ X (by omega) (by omega)
    · refine X.iloadN (pc' := 1) d14_0 rfl rfl ?_
      refine X.ifNo (pc' := 4) d14_1 (flt (fun q => hx (own_m0.mp q))).1 rfl ?_
      refine X.aloadN (pc' := 5) d14_4 rfl rfl rfl ?_
      refine X.iloadN (pc' := 6) d14_5 rfl rfl ?_
      refine X.iaload (pc' := 7) (v := (.int (P x.toInt.toNat))) Vp (own_il (by omega : x.toInt = ((x.toInt.toNat : Nat) : Int)) (by omega : x.toInt.toNat < n)) (own_tn_at (own_ilt (by omega : x.toInt = ((x.toInt.toNat : Nat) : Int))) (by omega : x.toInt.toNat < n)) d14_6 rfl ?_
      refine X.iloadN (pc' := 8) d14_7 rfl rfl ?_
      by_cases hc1 : (P x.toInt.toNat) = sym
      · refine X.icmpYes (pc' := 18) d14_8 (teq hc1).1 (by decide) (by decide) ?_
        exact kx _ _ X (by omega) (by omega)
      · refine X.icmpNo (pc' := 11) d14_8 (feq hc1).1 rfl ?_
        refine X.aloadN (pc' := 12) d14_11 rfl rfl rfl ?_
        refine X.iloadN (pc' := 13) d14_12 rfl rfl ?_
        refine X.iaload (pc' := 14) (v := (.int (fb x.toInt.toNat))) Vf (own_il (by omega : x.toInt = ((x.toInt.toNat : Nat) : Int)) (by omega : x.toInt.toNat < n)) (own_tn_at (own_ilt (by omega : x.toInt = ((x.toInt.toNat : Nat) : Int))) (by omega : x.toInt.toNat < n)) d14_13 rfl ?_
        refine X.istoreN (pc' := 15) (l' := #[.val (.ref pa), .val (.ref fa), .val (.int (fb x.toInt.toNat)), .val (.int sym)]) d14_14 rfl rfl ?_
        refine X.goto (pc' := 0) d14_15 (by decide) (by decide) ?_
        have q := hfb x.toInt.toNat (by omega)
        exact ih _ T X (by omega) (by omega) (by omega) kx
set_option maxRecDepth 65536 in
set_option maxHeartbeats 40000000 in
theorem ctAd (l : Launch) (Z : State) (a0 : Array Value) (hw : ∀ d ∈ tables_1, d.before a0 Z = true) (pa fa : Addr) (P fb : Nat → Int32) (n st : Nat) (sym : Int32) (h0 : Heap) (Vp : Lst Z h0 pa .int (own_tn n P)) (Vf : Lst Z h0 fa .int (own_tn n fb)) (hn : n ≤ 6) (hfb : ∀ t, t < n → -1 ≤ (fb t).toInt ∧ (fb t).toInt < (t : Int)) (hst : st < n) :
    Ct l Z y14 prog_1_method_14_code 4 (some .int) ({ frames := 0, cells := 0, slots := 0, locals := 0 } : Room) #[(.ref pa), (.ref fa), (.int st.toInt32), (.int sym)] h0 [] (fun v h => ∃ r : Nat, r ≤ n ∧ v = some (.int r.toInt32) ∧ h0 = h) := by
  refine Ct.of (plainFor_of_name (by first | (simp [plainName, overriddenIn]; done) | decide +kernel)) ?_
  intro p e s m below meth c T0 X0
  refine Runs.top (g' := mkF m 0 #[.val (.ref pa), .val (.ref fa), .val (.int st.toInt32), .val (.int sym)] []) (by first | (simp [entryFrame, mkF, argsToLocals, Value.category]; done) | rfl) ?_
  refine lpa hw Vp Vf hn hfb n st.toInt32 T0 X0 (by rw [own_i32 (by omega)]; omega) (by rw [own_i32 (by omega)]; omega) (Nat.le_refl _) (fun T7 x7 X7 h7 h8 => ?_)
  refine X7.iloadN (pc' := 19) d14_18 rfl rfl ?_
  refine X7.iconst (pc' := 20) (z := 1) d14_19 rfl rfl ?_
  refine X7.iadd (pc' := 21) d14_20 rfl ?_
  exact X7.ireturn rfl d14_21 (by decide) (by decide) ⟨(x7.toInt + 1).toNat, by omega, by rw [own_x1 h7 (by omega)], rfl⟩
set_option maxRecDepth 65536 in
set_option maxHeartbeats 40000000 in
theorem ctLm (l : Launch) (Z : State) (a0 : Array Value) (hw : ∀ d ∈ tables_1, d.before a0 Z = true) (pa fa : Addr) (P fb : Nat → Int32) (n st : Nat) (sym : Int32) (h0 : Heap) (Vp : Lst Z h0 pa .int (own_tn n P)) (Vf : Lst Z h0 fa .int (own_tn n fb)) (hn : n ≤ 6) (hfb : ∀ t, t < n → -1 ≤ (fb t).toInt ∧ (fb t).toInt < (t : Int)) (hst : st < n) :
    Ct l Z y13 prog_1_method_17_code 4 (some .int) ({ frames := 1, cells := 0, slots := 0, locals := 15 } : Room) #[(.ref pa), (.ref fa), (.int st.toInt32), (.int sym)] h0 [] (fun v h => ∃ r : Nat, r ≤ n ∧ v = some (.int r.toInt32) ∧ h0 = h) := by
  refine Ct.of (plainFor_of_name (by first | (simp [plainName, overriddenIn]; done) | decide +kernel)) ?_
  intro p e s m below meth c T0 X0
  refine Runs.top (g' := mkF m 0 #[.val (.ref pa), .val (.ref fa), .val (.int st.toInt32), .val (.int sym)] []) (by first | (simp [entryFrame, mkF, argsToLocals, Value.category]; done) | rfl) ?_
  refine X0.aloadN (pc' := 1) d13_0 rfl rfl rfl ?_
  refine X0.aloadN (pc' := 2) d13_1 rfl rfl rfl ?_
  refine X0.iloadN (pc' := 3) d13_2 rfl rfl ?_
  refine X0.iloadN (pc' := 4) d13_3 rfl rfl ?_
  refine X0.callS (pc' := 7) (W := 0) (argsL := [(.ref pa), (.ref fa), (.int st.toInt32), (.int sym)]) (rest := []) (ctAd l Z a0 hw pa fa P fb n st sym h0 Vp Vf hn hfb hst) (wd_69 hw) (wd_70 hw) (wd_12 hw) (wd_71 hw) (by decide) pd_0 rfl rfl rfl rfl d13_4 rfl (by decide) rfl (by decide) (by decide) (by decide) allWs0 (fun T1 h1 v1 X1 K1 Q1 => ?_)
  obtain ⟨r1, hr1, rfl, rfl⟩ := Q1
  show Runs p e below (T1.setTop (mkF m 7 #[.val (.ref pa), .val (.ref fa), .val (.int st.toInt32), .val (.int sym)] [(.int r1.toInt32)])) _
  exact X1.ireturn rfl d13_7 (by decide) (by decide) ⟨_, hr1, rfl, rfl⟩
set_option maxRecDepth 65536 in
set_option maxHeartbeats 40000000 in
theorem ctPi (l : Launch) (Z : State) (a0 : Array Value) (hw : ∀ d ∈ tables_1, d.before a0 Z = true) (a cb st : Addr) (n1 n2 n3 : Int32) (h0 : Heap) (E_a : Exa Z h0 a "com/example/rummage/rummage/PairSteps") (Flength_a : Fld Z h0 a "com/example/rummage/rummage/PairSteps" "length" "I" (.int (0 : Int32))) (Fclasses_a : Fld Z h0 a "com/example/rummage/rummage/PairSteps" "classes" "[B" .null) (FclassCount_a : Fld Z h0 a "com/example/rummage/rummage/PairSteps" "classCount" "I" (.int (0 : Int32))) (Fshift_a : Fld Z h0 a "com/example/rummage/rummage/PairSteps" "shift" "I" (.int (0 : Int32))) (Fsteps_a : Fld Z h0 a "com/example/rummage/rummage/PairSteps" "steps" "[I" .null) :
    Ct l Z y15 prog_19_method_1_code 6 none ({ frames := 1, cells := 0, slots := 0, locals := 12 } : Room) #[(.ref a), (.int n1), (.ref cb), (.int n2), (.int n3), (.ref st)] h0 [a] (fun v h => v = none) := by
  refine Ct.of (plainFor_of_name (by first | (simp [plainName, overriddenIn]; done) | decide +kernel)) ?_
  intro p e s m below meth c T0 X0
  refine Runs.top (g' := mkF m 0 #[.val (.ref a), .val (.int n1), .val (.ref cb), .val (.int n2), .val (.int n3), .val (.ref st)] []) (by first | (simp [entryFrame, mkF, argsToLocals, Value.category]; done) | rfl) ?_
  refine X0.aloadN (pc' := 1) d15_0 rfl rfl rfl ?_
  refine X0.initObj (pc' := 4) (W := 0) (wd_77 hw) (wd_41 hw) (wd_42 hw) rfl d15_1 rfl (by decide) rfl (by decide) (fun T1 X1 => ?_)
  refine X1.aloadN (pc' := 5) d15_4 rfl rfl rfl ?_
  refine X1.iloadN (pc' := 6) d15_5 rfl rfl ?_
  refine X1.putfield (pc' := 9) (host := "") (Or.inl (wd_78 hw)) Via.refl Flength_a E_a (Or.inr ⟨(wd_79 hw), rfl, rfl⟩) (wd_73 hw) (ty := .int) (by decide) rfl rfl d15_6 rfl (Or.inl (by simp)) (fun T2 h2 X2 W2 => ?_)
  have Fw2 := Fld.same W2 Flength_a
  have E_a_2 := Exa.wr W2 E_a
  have Fclasses_a_2 := Fld.other W2 Fclasses_a (Or.inr (slot_ne (Or.inr (wd_81 hw)) (Or.inr (wd_79 hw)) (by decide) (t := (.array .byte)) (t' := .int) (by decide) (by decide)))
  have FclassCount_a_2 := Fld.other W2 FclassCount_a (Or.inr (slot_ne (Or.inr (wd_83 hw)) (Or.inr (wd_79 hw)) (by decide) (t := .int) (t' := .int) (by decide) (by decide)))
  have Fshift_a_2 := Fld.other W2 Fshift_a (Or.inr (slot_ne (Or.inr (wd_85 hw)) (Or.inr (wd_79 hw)) (by decide) (t := .int) (t' := .int) (by decide) (by decide)))
  have Fsteps_a_2 := Fld.other W2 Fsteps_a (Or.inr (slot_ne (Or.inr (wd_87 hw)) (Or.inr (wd_79 hw)) (by decide) (t := (.array .int)) (t' := .int) (by decide) (by decide)))
  refine X2.aloadN (pc' := 10) d15_9 rfl rfl rfl ?_
  refine X2.aloadN (pc' := 11) d15_10 rfl rfl rfl ?_
  refine X2.putfield (pc' := 14) (host := "") (Or.inl (wd_80 hw)) Via.refl Fclasses_a_2 E_a_2 (Or.inr ⟨(wd_81 hw), rfl, rfl⟩) (wd_73 hw) (ty := (.array .byte)) (by decide) rfl rfl d15_11 rfl (Or.inl (by simp)) (fun T3 h3 X3 W3 => ?_)
  have Fw3 := Fld.same W3 Fclasses_a_2
  have E_a_3 := Exa.wr W3 E_a_2
  have Fw2_3 := Fld.other W3 Fw2 (Or.inr (slot_ne (Or.inr (wd_79 hw)) (Or.inr (wd_81 hw)) (by decide) (t := .int) (t' := (.array .byte)) (by decide) (by decide)))
  have FclassCount_a_3 := Fld.other W3 FclassCount_a_2 (Or.inr (slot_ne (Or.inr (wd_83 hw)) (Or.inr (wd_81 hw)) (by decide) (t := .int) (t' := (.array .byte)) (by decide) (by decide)))
  have Fshift_a_3 := Fld.other W3 Fshift_a_2 (Or.inr (slot_ne (Or.inr (wd_85 hw)) (Or.inr (wd_81 hw)) (by decide) (t := .int) (t' := (.array .byte)) (by decide) (by decide)))
  have Fsteps_a_3 := Fld.other W3 Fsteps_a_2 (Or.inr (slot_ne (Or.inr (wd_87 hw)) (Or.inr (wd_81 hw)) (by decide) (t := (.array .int)) (t' := (.array .byte)) (by decide) (by decide)))
  refine X3.aloadN (pc' := 15) d15_14 rfl rfl rfl ?_
  refine X3.iloadN (pc' := 16) d15_15 rfl rfl ?_
  refine X3.putfield (pc' := 19) (host := "") (Or.inl (wd_82 hw)) Via.refl FclassCount_a_3 E_a_3 (Or.inr ⟨(wd_83 hw), rfl, rfl⟩) (wd_73 hw) (ty := .int) (by decide) rfl rfl d15_16 rfl (Or.inl (by simp)) (fun T4 h4 X4 W4 => ?_)
  have Fw4 := Fld.same W4 FclassCount_a_3
  have E_a_4 := Exa.wr W4 E_a_3
  have Fw2_4 := Fld.other W4 Fw2_3 (Or.inr (slot_ne (Or.inr (wd_79 hw)) (Or.inr (wd_83 hw)) (by decide) (t := .int) (t' := .int) (by decide) (by decide)))
  have Fw3_4 := Fld.other W4 Fw3 (Or.inr (slot_ne (Or.inr (wd_81 hw)) (Or.inr (wd_83 hw)) (by decide) (t := (.array .byte)) (t' := .int) (by decide) (by decide)))
  have Fshift_a_4 := Fld.other W4 Fshift_a_3 (Or.inr (slot_ne (Or.inr (wd_85 hw)) (Or.inr (wd_83 hw)) (by decide) (t := .int) (t' := .int) (by decide) (by decide)))
  have Fsteps_a_4 := Fld.other W4 Fsteps_a_3 (Or.inr (slot_ne (Or.inr (wd_87 hw)) (Or.inr (wd_83 hw)) (by decide) (t := (.array .int)) (t' := .int) (by decide) (by decide)))
  refine X4.aloadN (pc' := 20) d15_19 rfl rfl rfl ?_
  refine X4.iload (pc' := 22) d15_20 rfl rfl ?_
  refine X4.putfield (pc' := 25) (host := "") (Or.inl (wd_84 hw)) Via.refl Fshift_a_4 E_a_4 (Or.inr ⟨(wd_85 hw), rfl, rfl⟩) (wd_73 hw) (ty := .int) (by decide) rfl rfl d15_22 rfl (Or.inl (by simp)) (fun T5 h5 X5 W5 => ?_)
  have Fw5 := Fld.same W5 Fshift_a_4
  have E_a_5 := Exa.wr W5 E_a_4
  have Fw2_5 := Fld.other W5 Fw2_4 (Or.inr (slot_ne (Or.inr (wd_79 hw)) (Or.inr (wd_85 hw)) (by decide) (t := .int) (t' := .int) (by decide) (by decide)))
  have Fw3_5 := Fld.other W5 Fw3_4 (Or.inr (slot_ne (Or.inr (wd_81 hw)) (Or.inr (wd_85 hw)) (by decide) (t := (.array .byte)) (t' := .int) (by decide) (by decide)))
  have Fw4_5 := Fld.other W5 Fw4 (Or.inr (slot_ne (Or.inr (wd_83 hw)) (Or.inr (wd_85 hw)) (by decide) (t := .int) (t' := .int) (by decide) (by decide)))
  have Fsteps_a_5 := Fld.other W5 Fsteps_a_4 (Or.inr (slot_ne (Or.inr (wd_87 hw)) (Or.inr (wd_85 hw)) (by decide) (t := (.array .int)) (t' := .int) (by decide) (by decide)))
  refine X5.aloadN (pc' := 26) d15_25 rfl rfl rfl ?_
  refine X5.aload (pc' := 28) d15_26 rfl rfl rfl ?_
  refine X5.putfield (pc' := 31) (host := "") (Or.inl (wd_86 hw)) Via.refl Fsteps_a_5 E_a_5 (Or.inr ⟨(wd_87 hw), rfl, rfl⟩) (wd_73 hw) (ty := (.array .int)) (by decide) rfl rfl d15_28 rfl (Or.inl (by simp)) (fun T6 h6 X6 W6 => ?_)
  have Fw6 := Fld.same W6 Fsteps_a_5
  have E_a_6 := Exa.wr W6 E_a_5
  have Fw2_6 := Fld.other W6 Fw2_5 (Or.inr (slot_ne (Or.inr (wd_79 hw)) (Or.inr (wd_87 hw)) (by decide) (t := .int) (t' := (.array .int)) (by decide) (by decide)))
  have Fw3_6 := Fld.other W6 Fw3_5 (Or.inr (slot_ne (Or.inr (wd_81 hw)) (Or.inr (wd_87 hw)) (by decide) (t := (.array .byte)) (t' := (.array .int)) (by decide) (by decide)))
  have Fw4_6 := Fld.other W6 Fw4_5 (Or.inr (slot_ne (Or.inr (wd_83 hw)) (Or.inr (wd_87 hw)) (by decide) (t := .int) (t' := (.array .int)) (by decide) (by decide)))
  have Fw5_6 := Fld.other W6 Fw5 (Or.inr (slot_ne (Or.inr (wd_85 hw)) (Or.inr (wd_87 hw)) (by decide) (t := .int) (t' := (.array .int)) (by decide) (by decide)))
  exact X6.vreturn rfl d15_31 (by decide) (by decide) rfl
set_option maxRecDepth 65536 in
set_option maxHeartbeats 40000000 in
theorem lpn {p : Program} {l : Launch} {e : Env} {R : Room} {s : State} {m : MethodId} {args : Array Value} {below : List Frame} {meth : Method} {c : Code} {ret : Option FieldType} {Z : State} {h0 : Heap} {ws : List Addr} {G : Outcome → State → Prop} {a0 : Array Value} (hw : ∀ d ∈ tables_1, d.before a0 Z = true) {pa : Addr} {P : Nat → Int32} {n : Nat} {cells slots : Nat} {h : Heap} (Vp : Lst Z h pa .int (own_tn n P)) (hn : n ≤ 6) :
    ∀ (d i : Nat) (T : State), Here p l e R s m args below meth c y11 prog_1_method_16_code 2 ret Z h0 ws T cells slots h → n ≤ i + d → i ≤ n → (∀ T' i', Here p l e R s m args below meth c y11 prog_1_method_16_code 2 ret Z h0 ws T' cells slots h → i' ≤ n → Runs p e below (T'.setTop (mkF m 23 #[.val (.ref pa), .val (.int i'.toInt32)] [])) G) → Runs p e below (T.setTop (mkF m 2 #[.val (.ref pa), .val (.int i.toInt32)] [])) G := by
  intro d
  induction d with
  | zero =>
    intro i T X hd hle kx
    refine X.iloadN (pc' := 3) d11_2 rfl rfl ?_
    refine X.aloadN (pc' := 4) d11_3 rfl rfl rfl ?_
    refine X.arraylength (pc' := 5) (n := n.toInt32) Vp (by rw [own_tn_len]) d11_4 rfl ?_
    refine X.icmpYes (pc' := 23) d11_5 (flt (fun q => absurd ((own_lt32 (by omega) (by omega)).mp q) (by omega))).2.1 (by decide) (by decide) ?_
    exact kx _ i X (by omega)
  | succ d ih =>
    intro i T X hd hle kx
    by_cases hi : i < n
    · refine X.iloadN (pc' := 3) d11_2 rfl rfl ?_
      refine X.aloadN (pc' := 4) d11_3 rfl rfl rfl ?_
      refine X.arraylength (pc' := 5) (n := n.toInt32) Vp (by rw [own_tn_len]) d11_4 rfl ?_
      refine X.icmpNo (pc' := 8) d11_5 (tlt ((own_lt32 (by omega) (by omega)).mpr (by omega))).2.1 rfl ?_
      refine X.aloadN (pc' := 9) d11_8 rfl rfl rfl ?_
      refine X.iloadN (pc' := 10) d11_9 rfl rfl ?_
      refine X.iaload (pc' := 11) (v := (.int (P i))) Vp (own_il (own_i32 (by omega)) hi) (own_tn_at (own_ilt (own_i32 (by omega))) hi) d11_10 rfl ?_
      refine X.aloadN (pc' := 12) d11_11 rfl rfl rfl ?_
      refine X.iconst (pc' := 13) (z := 0) d11_12 rfl rfl ?_
      refine X.iaload (pc' := 14) (v := (.int (P 0))) Vp (own_il (z := (0 : Int32)) (j := 0) rfl (by omega)) (own_tn_at (z := (0 : Int32)) (j := 0) rfl (by omega)) d11_13 rfl ?_
      by_cases hc1 : (P i) = (P 0)
      · refine X.icmpNo (pc' := 17) d11_14 (teq hc1).2 rfl ?_
        refine X.iinc (pc' := 20) (z := 1) (l' := #[.val (.ref pa), .val (.int (i + 1).toInt32)]) d11_17 rfl rfl (by rw [own_inc]; rfl) rfl ?_
        refine X.goto (pc' := 2) d11_20 (by decide) (by decide) ?_
        exact ih (i + 1) T X (by omega) (by omega) kx
      · refine X.icmpYes (pc' := 23) d11_14 (feq hc1).2 (by decide) (by decide) ?_
        exact kx _ i X (by omega)
    · refine X.iloadN (pc' := 3) d11_2 rfl rfl ?_
      refine X.aloadN (pc' := 4) d11_3 rfl rfl rfl ?_
      refine X.arraylength (pc' := 5) (n := n.toInt32) Vp (by rw [own_tn_len]) d11_4 rfl ?_
      refine X.icmpYes (pc' := 23) d11_5 (flt (fun q => absurd ((own_lt32 (by omega) (by omega)).mp q) (by omega))).2.1 (by decide) (by decide) ?_
      exact kx _ i X (by omega)
set_option maxRecDepth 65536 in
set_option maxHeartbeats 40000000 in
theorem ctRn (l : Launch) (Z : State) (a0 : Array Value) (hw : ∀ d ∈ tables_1, d.before a0 Z = true) (pa : Addr) (P : Nat → Int32) (n : Nat) (h0 : Heap) (Vp : Lst Z h0 pa .int (own_tn n P)) (hn : n ≤ 6) :
    Ct l Z y11 prog_1_method_16_code 2 (some .int) ({ frames := 0, cells := 0, slots := 0, locals := 0 } : Room) #[(.ref pa)] h0 [] (fun v h => (∃ r, v = some (.int r)) ∧ h0 = h) := by
  refine Ct.of (plainFor_of_name (by first | (simp [plainName, overriddenIn]; done) | decide +kernel)) ?_
  intro p e s m below meth c T0 X0
  refine Runs.top (g' := mkF m 0 #[.val (.ref pa), .unset] []) (by first | (simp [entryFrame, mkF, argsToLocals, Value.category]; done) | rfl) ?_
  refine X0.iconst (pc' := 1) (z := 0) d11_0 rfl rfl ?_
  refine X0.istoreN (pc' := 2) (l' := #[.val (.ref pa), .val (.int (0 : Int32))]) d11_1 rfl rfl ?_
  refine lpn hw Vp hn n 0 T0 X0 (by omega) (by omega) (fun T7 i7 X7 h7 => ?_)
  refine X7.iloadN (pc' := 24) d11_23 rfl rfl ?_
  refine X7.aloadN (pc' := 25) d11_24 rfl rfl rfl ?_
  refine X7.arraylength (pc' := 26) (n := n.toInt32) Vp (by rw [own_tn_len]) d11_25 rfl ?_
  by_cases hc1 : i7.toInt32 < n.toInt32
  · refine X7.icmpNo (pc' := 29) d11_26 (tlt hc1).2.1 rfl ?_
    refine X7.iloadN (pc' := 30) d11_29 rfl rfl ?_
    refine X7.goto (pc' := 34) d11_30 (by decide) (by decide) ?_
    exact X7.ireturn rfl d11_34 (by decide) (by decide) ⟨⟨_, rfl⟩, rfl⟩
  · refine X7.icmpYes (pc' := 33) d11_26 (flt hc1).2.1 (by decide) (by decide) ?_
    refine X7.iconst (pc' := 34) (z := -1) d11_33 rfl rfl ?_
    exact X7.ireturn rfl d11_34 (by decide) (by decide) ⟨⟨_, rfl⟩, rfl⟩
abbrev own_sg : Jvm.Lambda.Shape := (Jvm.Lambda.Shape.mk "java/util/function/IntBinaryOperator" "applyAsInt" (Jvm.ClassFile.MethodDescriptor.mk ([Jvm.ClassFile.FieldType.int, Jvm.ClassFile.FieldType.int] : List Jvm.ClassFile.FieldType) (Option.some Jvm.ClassFile.FieldType.int)) ([(Jvm.ClassFile.FieldType.array Jvm.ClassFile.FieldType.int), (Jvm.ClassFile.FieldType.array Jvm.ClassFile.FieldType.int)] : List Jvm.ClassFile.FieldType) (6 : Nat) "com/example/rummage/rummage/Automaton" "lambda$new$0" (Jvm.ClassFile.MethodDescriptor.mk ([(Jvm.ClassFile.FieldType.array Jvm.ClassFile.FieldType.int), (Jvm.ClassFile.FieldType.array Jvm.ClassFile.FieldType.int), Jvm.ClassFile.FieldType.int, Jvm.ClassFile.FieldType.int] : List Jvm.ClassFile.FieldType) (Option.some Jvm.ClassFile.FieldType.int)) false (Jvm.ClassFile.MethodDescriptor.mk ([Jvm.ClassFile.FieldType.int, Jvm.ClassFile.FieldType.int] : List Jvm.ClassFile.FieldType) (Option.some Jvm.ClassFile.FieldType.int)))
abbrev own_xi : MethodName := ⟨"java/util/function/IntBinaryOperator", "applyAsInt", "(II)I"⟩
def own_fc : ByteArray := ⟨#[0x2a, 0xb4, 0x00, 0x10, 0x2a, 0xb4, 0x00, 0x12, 0x1b, 0x1c, 0xb8, 0x00, 0x1a, 0xac]⟩
theorem fwd : Jvm.LamKit.fwdOK own_sg "com/example/rummage/rummage/Automaton" own_fc 3 (some .int) 26 22 = true := by decide +kernel
theorem cap0 : Jvm.LamKit.capOK own_sg "com/example/rummage/rummage/Automaton" 16 0 = true := by decide +kernel
theorem cap1 : Jvm.LamKit.capOK own_sg "com/example/rummage/rummage/Automaton" 18 1 = true := by decide +kernel
theorem fw0 : decode own_fc 0 = .ok (.aload_n 0, 1) := by decide +kernel
theorem fw1 : decode own_fc 1 = .ok (.getfield 16, 3) := by decide +kernel
theorem fw4 : decode own_fc 4 = .ok (.aload_n 0, 1) := by decide +kernel
theorem fw5 : decode own_fc 5 = .ok (.getfield 18, 3) := by decide +kernel
theorem fw8 : decode own_fc 8 = .ok (.iload_n 1, 1) := by decide +kernel
theorem fw9 : decode own_fc 9 = .ok (.iload_n 2, 1) := by decide +kernel
theorem fw10 : decode own_fc 10 = .ok (.invokestatic 26, 3) := by decide +kernel
theorem fw13 : decode own_fc 13 = .ok (.ireturn, 1) := by decide +kernel
theorem own_fn1 : own_xi.cls = own_sg.iface ∧ own_xi.name = own_sg.name ∧ own_xi.desc = own_sg.sam.toString := by decide +kernel
theorem own_fn2 : y13.cls = own_sg.implClass ∧ y13.name = own_sg.implName ∧ y13.desc = own_sg.implDesc.toString := by decide +kernel
theorem own_fn3 : (own_xi.cls ≠ "java/lang/invoke/MethodHandle" ∧ own_xi.cls ≠ "java/lang/invoke/VarHandle") ∧ y13.cls ≠ "java/lang/invoke/MethodHandle" ∧ y13.cls ≠ "java/lang/invoke/VarHandle" := by decide +kernel
theorem own_fn4 : ((Jvm.Cond.interfaceMethod own_xi.cls own_xi.cls own_xi.name own_xi.desc).onTables && (Jvm.Cond.interfaceMethod own_xi.cls own_xi.cls own_xi.name own_xi.desc).keepsFace) = true := by decide +kernel
theorem own_l2 {a b : Value} : ∀ sig, parseMethodDescriptor own_xi.desc = some sig → [a, b].length = sig.parameters.length := fun sig h => by
  cases (by decide +kernel : parseMethodDescriptor own_xi.desc = some ⟨[.int, .int], some .int⟩).symm.trans h; rfl
theorem own_l4 {a b c d : Value} : ∀ sig, parseMethodDescriptor y13.desc = some sig → [a, b, c, d].length = sig.parameters.length := fun sig h => by
  cases (by decide +kernel : parseMethodDescriptor y13.desc = some ⟨[.array .int, .array .int, .int, .int], some .int⟩).symm.trans h; rfl
theorem own_ro {n : Nat} {H : Heap} : ∀ v h', (∃ r : Nat, r ≤ n ∧ v = some (Value.int r.toInt32) ∧ H = h') → Jvm.LamKit.RetOK (some .int) .ireturn v := fun v h' q => by
  obtain ⟨r, -, e, -⟩ := q
  subst e
  exact Or.inl ⟨.int, _, rfl, Or.inl rfl, rfl, rfl, rfl⟩
theorem own_fit {pa fa : Addr} : ∀ (i : Nat) t v, own_sg.captured[i]? = some t → [Value.ref pa, Value.ref fa][i]? = some v → narrow t v = v ∧ fits t v = true := by
  intro i t v h1 h2
  match i, h1, h2 with
  | 0, h1, h2 => cases h1; cases h2; exact ⟨rfl, rfl⟩
  | 1, h1, h2 => cases h1; cases h2; exact ⟨rfl, rfl⟩
  | i + 2, h1, h2 => cases h2
theorem own_load {p : Program} {e : Env} {Z s' U target : State} {a0 : Array Value} {ck : Code} {bl : List Frame} {cK : ClassId} {la pa fa : Addr} {i j : Int32} (wO : (Jvm.Cond.instantiable "java/lang/Object" (0 : Nat)).before a0 Z = true) (hm : Jvm.LamKit.Made s' "com/example/rummage/rummage/Automaton" own_sg cK) (hZ : Z.WarmedH s'.vm) (hx : p.tables.exec = Jvm.exec) (hU : At U ⟨cK, 1⟩ ck bl) (hck : ck.code = own_fc) (F : Fn U.heap la cK #[.ref pa, .ref fa]) (hW : s'.WarmedH U.vm)
    (k : Steps p.tables e bl (U.setTop { method := ⟨cK, 1⟩, pc := 10, locals := #[.val (.ref la), .val (.int i), .val (.int j)], stack := [.ref pa, .ref fa, .int i, .int j].reverse, locked := none }) target) : Steps p.tables e bl (U.setTop { method := ⟨cK, 1⟩, pc := 0, locals := #[.val (.ref la), .val (.int i), .val (.int j)], stack := [], locked := none }) target :=
  XS.aloadN hU hx rfl (hb hck fw0) rfl rfl (Jvm.LamKit.getCap (args := #[]) hx hU hW hm cap0 (mvT hZ.wide wO) F rfl (v := .ref pa) rfl rfl rfl (hb hck fw1) (XS.aloadN hU hx rfl (hb hck fw4) rfl rfl (Jvm.LamKit.getCap (args := #[]) hx hU hW hm cap1 (mvT hZ.wide wO) F rfl (v := .ref fa) rfl rfl rfl (hb hck fw5) (XS.iloadN hU hx rfl (hb hck fw8) rfl (XS.iloadN hU hx rfl (hb hck fw9) rfl k)))))
abbrev own_RP : Room := { frames := 4, cells := 4, slots := 652, locals := 120 }
theorem own_4096 {n sh : Nat} (hn : n ≤ 6) (hs : sh ≤ 6) : ¬ (4096 : Int32) < (n.toInt32 <<< (sh.toInt32 &&& 31)) := by
  have := own_shb hn hs
  rw [Int32.lt_iff_toInt_lt, own_shl hn hs, show (4096 : Int32).toInt = 4096 from rfl]; omega
theorem own_1024 {n : Nat} (hn : n ≤ 6) : ¬ (1024 : Int32) < n.toInt32 := by
  rw [Int32.lt_iff_toInt_lt, own_i32 (by omega), show (1024 : Int32).toInt = 1024 from rfl]; omega
theorem own_256 {x : Int32} (h : x < (256 : Int32)) : x.toInt < 256 := by
  rw [Int32.lt_iff_toInt_lt, show (256 : Int32).toInt = 256 from rfl] at h; exact h
theorem own_mid {r n : Nat} (h : ¬ r.toInt32 = n.toInt32) (hr : r ≤ n) : r < n := by
  rcases Nat.lt_or_eq_of_le hr with q | q
  · exact q
  · exact absurd (by rw [q]) h
theorem own_inci {n : Nat} (h : n + 1 < 2147483648) : (n.toInt32 + (1 : Int32)).toInt = ((n + 1 : Nat) : Int) := by rw [own_inc]; exact own_i32 h

set_option maxRecDepth 65536 in
set_option maxHeartbeats 40000000 in
theorem lp91 {p : Program} {l : Launch} {e : Env} {s : State} {m : MethodId} {args : Array Value} {below : List Frame} {meth : Method} {c : Code} {Z : State} {h0 : Heap} {G : Outcome → State → Prop} {pa la cb sy : Addr} {n i cnt : Nat} {v9 : Int32} {T : State} {h : Heap} {cells slots : Nat} (X : Here p l e own_RP s m args below meth c y8 prog_19_method_2_code 13 (some (.object "com/example/rummage/rummage/PairSteps")) Z h0 [] T cells slots h) (hc : cnt ≤ 7) :
    ∀ (d sh : Nat), 6 ≤ sh + d → ∀ (hs : sh ≤ 6), (∀ sh', sh' ≤ 6 → cnt * cnt ≤ 2 ^ sh' → Runs p e below (T.setTop (mkF m 109 #[.val (.ref pa), .val (.ref la), .val (.ref cb), .val (.ref sy), .val (.int cnt.toInt32), .val (.int sh'.toInt32), .val (.ref pa), .val (.int n.toInt32), .val (.int i.toInt32), .val (.int v9), .unset, .unset, .unset] [])) G) → Runs p e below (T.setTop (mkF m 91 #[.val (.ref pa), .val (.ref la), .val (.ref cb), .val (.ref sy), .val (.int cnt.toInt32), .val (.int sh.toInt32), .val (.ref pa), .val (.int n.toInt32), .val (.int i.toInt32), .val (.int v9), .unset, .unset, .unset] [])) G := by
  have h49 := own_sq49 hc
  intro d
  induction d with
  | zero =>
    intro sh hd hs kx
    have hsh : sh = 6 := by omega
    have hge : ¬ 2 ^ sh < cnt * cnt := by rw [hsh]; show ¬ 64 < _; omega
    refine X.iconst (pc' := 92) (z := 1) d8_91 rfl rfl ?_
    refine X.iload (pc' := 94) d8_92 rfl rfl ?_
    refine X.ishl (pc' := 95) d8_94 rfl ?_
    refine X.iload (pc' := 97) d8_95 rfl rfl ?_
    refine X.iload (pc' := 99) d8_97 rfl rfl ?_
    refine X.imul (pc' := 100) d8_99 rfl ?_
    refine X.icmpYes (pc' := 109) d8_100 (flt (fun q => hge ((own_sq hc hs).mp q))).2.1 (by decide) (by decide) ?_
    exact kx sh hs (by omega)
  | succ d ih =>
    intro sh hd hs kx
    by_cases hlt : 2 ^ sh < cnt * cnt
    · have hs5 : sh < 6 := by
        rcases Nat.lt_or_eq_of_le hs with q | q
        · exact q
        · rw [q] at hlt; exact absurd hlt (by show ¬ 64 < _; omega)
      refine X.iconst (pc' := 92) (z := 1) d8_91 rfl rfl ?_
      refine X.iload (pc' := 94) d8_92 rfl rfl ?_
      refine X.ishl (pc' := 95) d8_94 rfl ?_
      refine X.iload (pc' := 97) d8_95 rfl rfl ?_
      refine X.iload (pc' := 99) d8_97 rfl rfl ?_
      refine X.imul (pc' := 100) d8_99 rfl ?_
      refine X.icmpNo (pc' := 103) d8_100 (tlt ((own_sq hc hs).mpr hlt)).2.1 rfl ?_
      refine X.iinc (pc' := 106) (z := 1) (l' := #[.val (.ref pa), .val (.ref la), .val (.ref cb), .val (.ref sy), .val (.int cnt.toInt32), .val (.int (sh + 1).toInt32), .val (.ref pa), .val (.int n.toInt32), .val (.int i.toInt32), .val (.int v9), .unset, .unset, .unset]) d8_103 rfl rfl (by rw [own_inc]; rfl) rfl ?_
      refine X.goto (pc' := 91) d8_106 (by decide) (by decide) ?_
      exact ih (sh + 1) (by omega) (by omega) kx
    · have hge := hlt
      refine X.iconst (pc' := 92) (z := 1) d8_91 rfl rfl ?_
      refine X.iload (pc' := 94) d8_92 rfl rfl ?_
      refine X.ishl (pc' := 95) d8_94 rfl ?_
      refine X.iload (pc' := 97) d8_95 rfl rfl ?_
      refine X.iload (pc' := 99) d8_97 rfl rfl ?_
      refine X.imul (pc' := 100) d8_99 rfl ?_
      refine X.icmpYes (pc' := 109) d8_100 (flt (fun q => hge ((own_sq hc hs).mp q))).2.1 (by decide) (by decide) ?_
      exact kx sh hs (by omega)
set_option maxRecDepth 65536 in
set_option maxHeartbeats 40000000 in
theorem lp45 {p : Program} {l : Launch} {e : Env} {s : State} {m : MethodId} {args : Array Value} {below : List Frame} {meth : Method} {c : Code} {Z : State} {h0 : Heap} {a0 : Array Value} (hw : ∀ d ∈ tables_1, d.before a0 Z = true) {pa la fa cb sy : Addr} {cK : ClassId} {P fb : Nat → Int32} {n : Nat} (hn0 : 0 < n) (hn : n ≤ 6) (hfb : ∀ t, t < n → -1 ≤ (fb t).toInt ∧ (fb t).toInt < (t : Int)) (hmd : Jvm.LamKit.Made Z "com/example/rummage/rummage/Automaton" own_sg cK) (hP : ∀ t, t < n → 0 ≤ (P t).toInt) (n1 : pa ≠ cb) (n2 : pa ≠ sy) (n3 : fa ≠ cb) (n4 : fa ≠ sy) (n5 : la ≠ cb) (n6 : la ≠ sy) (n7 : cb ≠ sy) (sz_cb : h0.size ≤ cb) (sz_sy : h0.size ≤ sy) :
    ∀ (d i cnt sh : Nat) (T : State) (h : Heap) (s9 : Slot) (B S : Nat → Int32), Here p l e own_RP s m args below meth c y8 prog_19_method_2_code 13 (some (.object "com/example/rummage/rummage/PairSteps")) Z h0 [] T 2 263 h → One s9 → n ≤ i + d → i ≤ n → 1 ≤ cnt → cnt ≤ i + 1 → sh ≤ 6 → (0 < i → cnt * cnt ≤ 2 ^ sh) → Lst Z h pa .int (own_tn n P) → Lst Z h fa .int (own_tn n fb) → Fn h la cK #[.ref pa, .ref fa] → Lst Z h cb .byte (own_tn 256 B) → Lst Z h sy .int (own_tn (n + 1) S) →
    (∀ (T' : State) (h' : Heap) (cnt' sh' : Nat) (s9' : Slot) (S' : Nat → Int32), Here p l e own_RP s m args below meth c y8 prog_19_method_2_code 13 (some (.object "com/example/rummage/rummage/PairSteps")) Z h0 [] T' 2 263 h' → One s9' → 1 ≤ cnt' → cnt' ≤ n + 1 → sh' ≤ 6 → cnt' * cnt' ≤ 2 ^ sh' → Lst Z h' pa .int (own_tn n P) → Lst Z h' fa .int (own_tn n fb) → Fn h' la cK #[.ref pa, .ref fa] → Lst Z h' sy .int (own_tn (n + 1) S') → Runs p e below (T'.setTop (mkF m 128 #[.val (.ref pa), .val (.ref la), .val (.ref cb), .val (.ref sy), .val (.int cnt'.toInt32), .val (.int sh'.toInt32), .val (.ref pa), .val (.int n.toInt32), .val (.int n.toInt32), s9', .unset, .unset, .unset] [])) (Jvm.Own.Out s h0 [] own_RP (fun v h => ∃ vv, v = some vv ∧ (vv = Value.null ∨ ∃ b, vv = .ref b)))) → Runs p e below (T.setTop (mkF m 45 #[.val (.ref pa), .val (.ref la), .val (.ref cb), .val (.ref sy), .val (.int cnt.toInt32), .val (.int sh.toInt32), .val (.ref pa), .val (.int n.toInt32), .val (.int i.toInt32), s9, .unset, .unset, .unset] [])) (Jvm.Own.Out s h0 [] own_RP (fun v h => ∃ vv, v = some vv ∧ (vv = Value.null ∨ ∃ b, vv = .ref b))) := by
  intro d
  induction d with
  | zero =>
    intro i cnt sh T h s9 B S X hs9 hd hle hc1 hc2 hs hq Vp Vf Fl Vc Vs kx
    refine X.iload (pc' := 47) d8_45 rfl rfl ?_
    refine X.iload (pc' := 49) d8_47 rfl rfl ?_
    refine X.icmpYes (pc' := 128) d8_49 (flt (fun q => absurd ((own_lt32 (by omega) (by omega)).mp q) (by omega))).2.1 (by decide) (by decide) ?_
    obtain rfl : i = n := by omega
    exact kx _ _ _ _ _ _ X hs9 hc1 hc2 hs (hq hn0) Vp Vf Fl Vs
  | succ d ih =>
    intro i cnt sh T h s9 B S X hs9 hd hle hc1 hc2 hs hq Vp Vf Fl Vc Vs kx
    by_cases hi : i < n
    · refine X.iload (pc' := 47) d8_45 rfl rfl ?_
      refine X.iload (pc' := 49) d8_47 rfl rfl ?_
      refine X.icmpNo (pc' := 52) d8_49 (tlt ((own_lt32 (by omega) (by omega)).mpr (by omega))).2.1 rfl ?_
      refine X.aload (pc' := 54) d8_52 rfl rfl rfl ?_
      refine X.iload (pc' := 56) d8_54 rfl rfl ?_
      refine X.iaload (pc' := 57) (v := (.int (P i))) Vp (own_il (own_i32 (by omega)) hi) (own_tn_at (own_ilt (own_i32 (by omega))) hi) d8_56 rfl ?_
      refine X.istore (pc' := 59) (l' := #[.val (.ref pa), .val (.ref la), .val (.ref cb), .val (.ref sy), .val (.int cnt.toInt32), .val (.int sh.toInt32), .val (.ref pa), .val (.int n.toInt32), .val (.int i.toInt32), .val (.int (P i)), .unset, .unset, .unset]) d8_57 (XS.store1 rfl hs9 rfl) rfl ?_
      refine X.iload (pc' := 61) d8_59 rfl rfl ?_
      refine X.aloadN (pc' := 62) d8_61 rfl rfl rfl ?_
      refine X.arraylength (pc' := 63) (n := (256 : Int32)) Vc (by rw [own_tn_len]; rfl) d8_62 rfl ?_
      by_cases hc1 : (P i) < (256 : Int32)
      · refine X.icmpYes (pc' := 68) d8_63 (tlt hc1).1 (by decide) (by decide) ?_
        have hx := hP i hi
        have hx2 := own_256 hc1
        refine X.aloadN (pc' := 69) d8_68 rfl rfl rfl ?_
        refine X.iload (pc' := 71) d8_69 rfl rfl ?_
        refine X.baload (pc' := 72) (v := (.int (B (P i).toInt.toNat))) Vc (own_il (by omega : (P i).toInt = (((P i).toInt.toNat : Nat) : Int)) (by omega : (P i).toInt.toNat < 256)) (own_tn_at (own_ilt (by omega : (P i).toInt = (((P i).toInt.toNat : Nat) : Int))) (by omega : (P i).toInt.toNat < 256)) d8_71 rfl ?_
        by_cases hc2 : (B (P i).toInt.toNat) = (0 : Int32)
        · refine X.ifNo (pc' := 75) d8_72 (teq hc2).2 rfl ?_
          refine X.aloadN (pc' := 76) d8_75 rfl rfl rfl ?_
          refine X.iload (pc' := 78) d8_76 rfl rfl ?_
          refine X.iload (pc' := 80) d8_78 rfl rfl ?_
          refine X.i2b (pc' := 81) d8_80 rfl ?_
          refine X.bastore (pc' := 82) Vc (own_il (by omega : (P i).toInt = (((P i).toInt.toNat : Nat) : Int)) (by omega : (P i).toInt.toNat < 256)) d8_81 rfl (Or.inr sz_cb) (fun T3 h3 X3 W3 => ?_)
          have V3 : Lst Z h3 cb .byte (own_tn 256 (own_upd B (P i).toInt.toNat ((cnt.toInt32.toInt8.toInt32).toInt8.toInt32))) := (own_tn_updz (by omega : (P i).toInt = (((P i).toInt.toNat : Nat) : Int))) ▸ Vc.set W3
          have Vp_3 := Vp.other W3 n1
          have Vf_3 := Vf.other W3 n3
          have Fl_3 := Fl.other W3 n5
          have Vs_3 := Vs.other W3 (Ne.symm n7)
          refine X3.aloadN (pc' := 83) d8_82 rfl rfl rfl ?_
          refine X3.iload (pc' := 85) d8_83 rfl rfl ?_
          refine X3.iinc (pc' := 88) (z := 1) (l' := #[.val (.ref pa), .val (.ref la), .val (.ref cb), .val (.ref sy), .val (.int (cnt + 1).toInt32), .val (.int sh.toInt32), .val (.ref pa), .val (.int n.toInt32), .val (.int i.toInt32), .val (.int (P i)), .unset, .unset, .unset]) d8_85 rfl rfl (by rw [own_inc]; rfl) rfl ?_
          refine X3.iload (pc' := 90) d8_88 rfl rfl ?_
          refine X3.iastore (pc' := 91) Vs_3 (own_il (own_i32 (by omega)) (by omega : cnt < n + 1)) d8_90 rfl (Or.inr sz_sy) (fun T4 h4 X4 W4 => ?_)
          have V4 : Lst Z h4 sy .int (own_tn (n + 1) (own_upd S cnt (P i))) := (own_tn_updz (i := cnt) (own_i32 (n := cnt) (by omega))) ▸ Vs_3.set W4
          have Vp_4 := Vp_3.other W4 n2
          have Vf_4 := Vf_3.other W4 n4
          have Fl_4 := Fl_3.other W4 n6
          have V3_4 := V3.other W4 n7
          refine lp91 (cnt := (cnt + 1)) X4 (by omega) 6 sh (by omega) hs (fun sh7 hs7 hq7 => ?_)
          refine X4.aloadN (pc' := 110) d8_109 rfl rfl rfl ?_
          refine X4.arraylength (pc' := 111) (n := n.toInt32) Vp_4 (by rw [own_tn_len]) d8_110 rfl ?_
          refine X4.iload (pc' := 113) d8_111 rfl rfl ?_
          refine X4.ishl (pc' := 114) d8_113 rfl ?_
          refine X4.sipush (pc' := 117) (z := 4096) d8_114 rfl rfl ?_
          refine X4.icmpYes (pc' := 122) d8_117 (flt (own_4096 hn hs7)).2.2.2 (by decide) (by decide) ?_
          refine X4.iinc (pc' := 125) (z := 1) (l' := #[.val (.ref pa), .val (.ref la), .val (.ref cb), .val (.ref sy), .val (.int (cnt + 1).toInt32), .val (.int sh7.toInt32), .val (.ref pa), .val (.int n.toInt32), .val (.int (i + 1).toInt32), .val (.int (P i)), .unset, .unset, .unset]) d8_122 rfl rfl (by rw [own_inc]; rfl) rfl ?_
          refine X4.goto (pc' := 45) d8_125 (by decide) (by decide) ?_
          exact ih (i + 1) _ _ T4 h4 _ _ _ X4 (One.val rfl) (by omega) (by omega) (by omega) (by omega) hs7 (fun _ => hq7) Vp_4 Vf_4 Fl_4 V3_4 V4 kx
        · refine X.ifYes (pc' := 91) d8_72 (feq hc2).2 (by decide) (by decide) ?_
          refine lp91 (cnt := cnt) X (by omega) 6 sh (by omega) hs (fun sh7 hs7 hq7 => ?_)
          refine X.aloadN (pc' := 110) d8_109 rfl rfl rfl ?_
          refine X.arraylength (pc' := 111) (n := n.toInt32) Vp (by rw [own_tn_len]) d8_110 rfl ?_
          refine X.iload (pc' := 113) d8_111 rfl rfl ?_
          refine X.ishl (pc' := 114) d8_113 rfl ?_
          refine X.sipush (pc' := 117) (z := 4096) d8_114 rfl rfl ?_
          refine X.icmpYes (pc' := 122) d8_117 (flt (own_4096 hn hs7)).2.2.2 (by decide) (by decide) ?_
          refine X.iinc (pc' := 125) (z := 1) (l' := #[.val (.ref pa), .val (.ref la), .val (.ref cb), .val (.ref sy), .val (.int cnt.toInt32), .val (.int sh7.toInt32), .val (.ref pa), .val (.int n.toInt32), .val (.int (i + 1).toInt32), .val (.int (P i)), .unset, .unset, .unset]) d8_122 rfl rfl (by rw [own_inc]; rfl) rfl ?_
          refine X.goto (pc' := 45) d8_125 (by decide) (by decide) ?_
          exact ih (i + 1) _ _ T h _ _ _ X (One.val rfl) (by omega) (by omega) (by omega) (by omega) hs7 (fun _ => hq7) Vp Vf Fl Vc Vs kx
      · refine X.icmpNo (pc' := 66) d8_63 (flt hc1).1 rfl ?_
        refine X.aconstNull (pc' := 67) d8_66 rfl ?_
        exact X.areturn rfl rfl rfl rfl d8_67 (by decide) (by decide) ⟨_, rfl, Or.inl rfl⟩
    · refine X.iload (pc' := 47) d8_45 rfl rfl ?_
      refine X.iload (pc' := 49) d8_47 rfl rfl ?_
      refine X.icmpYes (pc' := 128) d8_49 (flt (fun q => absurd ((own_lt32 (by omega) (by omega)).mp q) (by omega))).2.1 (by decide) (by decide) ?_
      obtain rfl : i = n := by omega
      exact kx _ _ _ _ _ _ X hs9 hc1 hc2 hs (hq hn0) Vp Vf Fl Vs
set_option maxRecDepth 65536 in
set_option maxHeartbeats 40000000 in
theorem lp183 {p : Program} {l : Launch} {e : Env} {s : State} {m : MethodId} {args : Array Value} {below : List Frame} {meth : Method} {c : Code} {Z : State} {h0 : Heap} {G : Outcome → State → Prop} {a0 : Array Value} (hw : ∀ d ∈ tables_1, d.before a0 Z = true) {pa la fa cb sy sp : Addr} {cK : ClassId} {P fb S : Nat → Int32} {n : Nat} (hn0 : 0 < n) (hn : n ≤ 6) (hfb : ∀ t, t < n → -1 ≤ (fb t).toInt ∧ (fb t).toInt < (t : Int)) (hmd : Jvm.LamKit.Made Z "com/example/rummage/rummage/Automaton" own_sg cK) {cnt sh : Nat} (hc2 : cnt ≤ n + 1) (hs : sh ≤ 6) (hq : cnt * cnt ≤ 2 ^ sh) (n1 : pa ≠ sp) (n2 : fa ≠ sp) (n3 : la ≠ sp) (n4 : sy ≠ sp) (sz_sp : h0.size ≤ sp) {st x mid : Nat} (hst : st < n) (hx : x < cnt) (hm : mid ≤ n) :
    ∀ (d y : Nat) (T : State) (h : Heap) (s11 s12 : Slot) (W : Nat → Int32), Here p l e own_RP s m args below meth c y8 prog_19_method_2_code 13 (some (.object "com/example/rummage/rummage/PairSteps")) Z h0 [] T 3 647 h → One s11 → One s12 → cnt ≤ y + d → y ≤ cnt → Lst Z h pa .int (own_tn n P) → Lst Z h fa .int (own_tn n fb) → Fn h la cK #[.ref pa, .ref fa] → Lst Z h sy .int (own_tn (n + 1) S) → Lst Z h sp .int (own_tn (n * 2 ^ sh) W) → (∀ (T' : State) (h' : Heap) (s11' s12' : Slot) (W' : Nat → Int32), Here p l e own_RP s m args below meth c y8 prog_19_method_2_code 13 (some (.object "com/example/rummage/rummage/PairSteps")) Z h0 [] T' 3 647 h' → One s11' → One s12' → Lst Z h' pa .int (own_tn n P) → Lst Z h' fa .int (own_tn n fb) → Fn h' la cK #[.ref pa, .ref fa] → Lst Z h' sy .int (own_tn (n + 1) S) → Lst Z h' sp .int (own_tn (n * 2 ^ sh) W') → Runs p e below (T'.setTop (mkF m 270 #[.val (.ref pa), .val (.ref la), .val (.ref cb), .val (.ref sy), .val (.int cnt.toInt32), .val (.int sh.toInt32), .val (.ref sp), .val (.int st.toInt32), .val (.int x.toInt32), .val (.int mid.toInt32), .val (.int cnt.toInt32), s11', s12'] [])) G) → Runs p e below (T.setTop (mkF m 183 #[.val (.ref pa), .val (.ref la), .val (.ref cb), .val (.ref sy), .val (.int cnt.toInt32), .val (.int sh.toInt32), .val (.ref sp), .val (.int st.toInt32), .val (.int x.toInt32), .val (.int mid.toInt32), .val (.int y.toInt32), s11, s12] [])) G := by
  intro d
  induction d with
  | zero =>
    intro y T h s11 s12 W X hs11 hs12 hd hle Vp Vf Fl Vs Vw kx
    refine X.iload (pc' := 185) d8_183 rfl rfl ?_
    refine X.iload (pc' := 187) d8_185 rfl rfl ?_
    refine X.icmpYes (pc' := 270) d8_187 (flt (fun q => absurd ((own_lt32 (by omega) (by omega)).mp q) (by omega))).2.1 (by decide) (by decide) ?_
    obtain rfl : y = cnt := by omega
    exact kx _ _ _ _ _ X hs11 hs12 Vp Vf Fl Vs Vw
  | succ d ih =>
    intro y T h s11 s12 W X hs11 hs12 hd hle Vp Vf Fl Vs Vw kx
    by_cases hy : y < cnt
    · refine X.iload (pc' := 185) d8_183 rfl rfl ?_
      refine X.iload (pc' := 187) d8_185 rfl rfl ?_
      refine X.icmpNo (pc' := 190) d8_187 (tlt ((own_lt32 (by omega) (by omega)).mpr (by omega))).2.1 rfl ?_
      refine X.iload (pc' := 192) d8_190 rfl rfl ?_
      refine X.aloadN (pc' := 193) d8_192 rfl rfl rfl ?_
      refine X.arraylength (pc' := 194) (n := n.toInt32) Vp (by rw [own_tn_len]) d8_193 rfl ?_
      by_cases hc1 : mid.toInt32 = n.toInt32
      · refine X.icmpNo (pc' := 197) d8_194 (teq hc1).2 rfl ?_
        refine X.iconst (pc' := 198) (z := -1) d8_197 rfl rfl ?_
        refine X.istore (pc' := 200) (l' := #[.val (.ref pa), .val (.ref la), .val (.ref cb), .val (.ref sy), .val (.int cnt.toInt32), .val (.int sh.toInt32), .val (.ref sp), .val (.int st.toInt32), .val (.int x.toInt32), .val (.int mid.toInt32), .val (.int y.toInt32), .val (.int (-1 : Int32)), s12]) d8_198 (XS.store1 rfl hs11 rfl) rfl ?_
        refine X.goto (pc' := 245) d8_200 (by decide) (by decide) ?_
        refine X.aload (pc' := 247) d8_245 rfl rfl rfl ?_
        refine X.iload (pc' := 249) d8_247 rfl rfl ?_
        refine X.iload (pc' := 251) d8_249 rfl rfl ?_
        refine X.ishl (pc' := 252) d8_251 rfl ?_
        refine X.iload (pc' := 254) d8_252 rfl rfl ?_
        refine X.iload (pc' := 256) d8_254 rfl rfl ?_
        refine X.imul (pc' := 257) d8_256 rfl ?_
        refine X.iadd (pc' := 258) d8_257 rfl ?_
        refine X.iload (pc' := 260) d8_258 rfl rfl ?_
        refine X.iadd (pc' := 261) d8_260 rfl ?_
        refine X.iload (pc' := 263) d8_261 rfl rfl ?_
        refine X.iastore (pc' := 264) Vw (own_il (own_ix hn hs (by omega) hst hx (by omega) hq) (own_ixn hst hx (by omega) hq)) d8_263 rfl (Or.inr sz_sp) (fun T2 h2 X2 W2 => ?_)
        have V2 : Lst Z h2 sp .int (own_tn (n * 2 ^ sh) (own_upd W (st * 2 ^ sh + x * cnt + y) (-1 : Int32))) := (own_tn_updz (own_ix hn hs (by omega) hst hx (by omega) hq)) ▸ Vw.set W2
        have Vp_2 := Vp.other W2 n1
        have Vf_2 := Vf.other W2 n2
        have Fl_2 := Fl.other W2 n3
        have Vs_2 := Vs.other W2 n4
        refine X2.iinc (pc' := 267) (z := 1) (l' := #[.val (.ref pa), .val (.ref la), .val (.ref cb), .val (.ref sy), .val (.int cnt.toInt32), .val (.int sh.toInt32), .val (.ref sp), .val (.int st.toInt32), .val (.int x.toInt32), .val (.int mid.toInt32), .val (.int (y + 1).toInt32), .val (.int (-1 : Int32)), s12]) d8_264 rfl rfl (by rw [own_inc]; rfl) rfl ?_
        refine X2.goto (pc' := 183) d8_267 (by decide) (by decide) ?_
        exact ih (y + 1) T2 h2 (.val (.int (-1 : Int32))) s12 _ X2 (One.val rfl) hs12 (by omega) (by omega) Vp_2 Vf_2 Fl_2 Vs_2 V2 kx
      · refine X.icmpYes (pc' := 203) d8_194 (feq hc1).2 (by decide) (by decide) ?_
        refine X.iload (pc' := 205) d8_203 rfl rfl ?_
        by_cases hc3 : y.toInt32 = (0 : Int32)
        · refine X.ifNo (pc' := 208) d8_205 (teq hc3).2 rfl ?_
          refine X.iconst (pc' := 209) (z := 0) d8_208 rfl rfl ?_
          refine X.goto (pc' := 224) d8_209 (by decide) (by decide) ?_
          refine X.istore (pc' := 226) (l' := #[.val (.ref pa), .val (.ref la), .val (.ref cb), .val (.ref sy), .val (.int cnt.toInt32), .val (.int sh.toInt32), .val (.ref sp), .val (.int st.toInt32), .val (.int x.toInt32), .val (.int mid.toInt32), .val (.int y.toInt32), s11, .val (.int (0 : Int32))]) d8_224 (XS.store1 rfl hs12 rfl) rfl ?_
          refine X.iload (pc' := 228) d8_226 rfl rfl ?_
          refine X.aloadN (pc' := 229) d8_228 rfl rfl rfl ?_
          refine X.arraylength (pc' := 230) (n := n.toInt32) Vp (by rw [own_tn_len]) d8_229 rfl ?_
          by_cases hc4 : (0 : Int32) = n.toInt32
          · refine X.icmpNo (pc' := 233) d8_230 (teq hc4).2 rfl ?_
            refine X.bipush (pc' := 235) (z := -2) d8_233 rfl rfl ?_
            refine X.goto (pc' := 243) d8_235 (by decide) (by decide) ?_
            refine X.istore (pc' := 245) (l' := #[.val (.ref pa), .val (.ref la), .val (.ref cb), .val (.ref sy), .val (.int cnt.toInt32), .val (.int sh.toInt32), .val (.ref sp), .val (.int st.toInt32), .val (.int x.toInt32), .val (.int mid.toInt32), .val (.int y.toInt32), .val (.int (-2 : Int32)), .val (.int (0 : Int32))]) d8_243 (XS.store1 rfl hs11 rfl) rfl ?_
            refine X.aload (pc' := 247) d8_245 rfl rfl rfl ?_
            refine X.iload (pc' := 249) d8_247 rfl rfl ?_
            refine X.iload (pc' := 251) d8_249 rfl rfl ?_
            refine X.ishl (pc' := 252) d8_251 rfl ?_
            refine X.iload (pc' := 254) d8_252 rfl rfl ?_
            refine X.iload (pc' := 256) d8_254 rfl rfl ?_
            refine X.imul (pc' := 257) d8_256 rfl ?_
            refine X.iadd (pc' := 258) d8_257 rfl ?_
            refine X.iload (pc' := 260) d8_258 rfl rfl ?_
            refine X.iadd (pc' := 261) d8_260 rfl ?_
            refine X.iload (pc' := 263) d8_261 rfl rfl ?_
            refine X.iastore (pc' := 264) Vw (own_il (own_ix hn hs (by omega) hst hx (by omega) hq) (own_ixn hst hx (by omega) hq)) d8_263 rfl (Or.inr sz_sp) (fun T5 h5 X5 W5 => ?_)
            have V5 : Lst Z h5 sp .int (own_tn (n * 2 ^ sh) (own_upd W (st * 2 ^ sh + x * cnt + y) (-2 : Int32))) := (own_tn_updz (own_ix hn hs (by omega) hst hx (by omega) hq)) ▸ Vw.set W5
            have Vp_5 := Vp.other W5 n1
            have Vf_5 := Vf.other W5 n2
            have Fl_5 := Fl.other W5 n3
            have Vs_5 := Vs.other W5 n4
            refine X5.iinc (pc' := 267) (z := 1) (l' := #[.val (.ref pa), .val (.ref la), .val (.ref cb), .val (.ref sy), .val (.int cnt.toInt32), .val (.int sh.toInt32), .val (.ref sp), .val (.int st.toInt32), .val (.int x.toInt32), .val (.int mid.toInt32), .val (.int (y + 1).toInt32), .val (.int (-2 : Int32)), .val (.int (0 : Int32))]) d8_264 rfl rfl (by rw [own_inc]; rfl) rfl ?_
            refine X5.goto (pc' := 183) d8_267 (by decide) (by decide) ?_
            exact ih (y + 1) T5 h5 (.val (.int (-2 : Int32))) (.val (.int (0 : Int32))) _ X5 (One.val rfl) (One.val rfl) (by omega) (by omega) Vp_5 Vf_5 Fl_5 Vs_5 V5 kx
          · refine X.icmpYes (pc' := 238) d8_230 (feq hc4).2 (by decide) (by decide) ?_
            refine X.iload (pc' := 240) d8_238 rfl rfl ?_
            refine X.iload (pc' := 242) d8_240 rfl rfl ?_
            refine X.ishl (pc' := 243) d8_242 rfl ?_
            refine X.istore (pc' := 245) (l' := #[.val (.ref pa), .val (.ref la), .val (.ref cb), .val (.ref sy), .val (.int cnt.toInt32), .val (.int sh.toInt32), .val (.ref sp), .val (.int st.toInt32), .val (.int x.toInt32), .val (.int mid.toInt32), .val (.int y.toInt32), .val (.int ((0 : Int32) <<< (sh.toInt32 &&& 31))), .val (.int (0 : Int32))]) d8_243 (XS.store1 rfl hs11 rfl) rfl ?_
            refine X.aload (pc' := 247) d8_245 rfl rfl rfl ?_
            refine X.iload (pc' := 249) d8_247 rfl rfl ?_
            refine X.iload (pc' := 251) d8_249 rfl rfl ?_
            refine X.ishl (pc' := 252) d8_251 rfl ?_
            refine X.iload (pc' := 254) d8_252 rfl rfl ?_
            refine X.iload (pc' := 256) d8_254 rfl rfl ?_
            refine X.imul (pc' := 257) d8_256 rfl ?_
            refine X.iadd (pc' := 258) d8_257 rfl ?_
            refine X.iload (pc' := 260) d8_258 rfl rfl ?_
            refine X.iadd (pc' := 261) d8_260 rfl ?_
            refine X.iload (pc' := 263) d8_261 rfl rfl ?_
            refine X.iastore (pc' := 264) Vw (own_il (own_ix hn hs (by omega) hst hx (by omega) hq) (own_ixn hst hx (by omega) hq)) d8_263 rfl (Or.inr sz_sp) (fun T6 h6 X6 W6 => ?_)
            have V6 : Lst Z h6 sp .int (own_tn (n * 2 ^ sh) (own_upd W (st * 2 ^ sh + x * cnt + y) ((0 : Int32) <<< (sh.toInt32 &&& 31)))) := (own_tn_updz (own_ix hn hs (by omega) hst hx (by omega) hq)) ▸ Vw.set W6
            have Vp_6 := Vp.other W6 n1
            have Vf_6 := Vf.other W6 n2
            have Fl_6 := Fl.other W6 n3
            have Vs_6 := Vs.other W6 n4
            refine X6.iinc (pc' := 267) (z := 1) (l' := #[.val (.ref pa), .val (.ref la), .val (.ref cb), .val (.ref sy), .val (.int cnt.toInt32), .val (.int sh.toInt32), .val (.ref sp), .val (.int st.toInt32), .val (.int x.toInt32), .val (.int mid.toInt32), .val (.int (y + 1).toInt32), .val (.int ((0 : Int32) <<< (sh.toInt32 &&& 31))), .val (.int (0 : Int32))]) d8_264 rfl rfl (by rw [own_inc]; rfl) rfl ?_
            refine X6.goto (pc' := 183) d8_267 (by decide) (by decide) ?_
            exact ih (y + 1) T6 h6 (.val (.int ((0 : Int32) <<< (sh.toInt32 &&& 31)))) (.val (.int (0 : Int32))) _ X6 (One.val rfl) (One.val rfl) (by omega) (by omega) Vp_6 Vf_6 Fl_6 Vs_6 V6 kx
        · refine X.ifYes (pc' := 212) d8_205 (feq hc3).2 (by decide) (by decide) ?_
          refine X.aloadN (pc' := 213) d8_212 rfl rfl rfl ?_
          refine X.iload (pc' := 215) d8_213 rfl rfl ?_
          refine X.aloadN (pc' := 216) d8_215 rfl rfl rfl ?_
          refine X.iload (pc' := 218) d8_216 rfl rfl ?_
          refine X.iaload (pc' := 219) (v := (.int (S y))) Vs (own_il (own_i32 (by omega)) (by omega : y < n + 1)) (own_tn_at (own_ilt (own_i32 (by omega))) (by omega : y < n + 1)) d8_218 rfl ?_
          refine X.lam (pc' := 224) (argsL := [.int mid.toInt32, .int (S y)]) (argsT := [.ref pa, .ref fa, .int mid.toInt32, .int (S y)]) (rest := []) (L0 := #[.val (.ref la), .val (.int mid.toInt32), .val (.int (S y))]) (ctLm l Z a0 hw pa fa P fb n mid (S y) h Vp Vf hn hfb (own_mid hc1 hm)) hmd Fl (wd_64 hw) (wd_65 hw) (wd_66 hw) own_fn4 (wd_68 hw) (wd_67 hw) (wd_12 hw) own_fn1 own_fn2 own_fn3 fwd fw10 fw13 own_l2 own_l4 rfl rfl d8_219 rfl (fun _ => rfl) rfl (fun U ck bl target q1 q2 q3 q4 q5 q6 q7 k => own_load (wd_32 hw) q1 q2 q3 q4 q5 q6 q7 k) own_ro (by decide) (W := 0) rfl (by decide) (by decide) (by decide) (fun T7 h7 v7 X7 K7 Q7 => ?_)
          obtain ⟨r7, hr7, rfl, rfl⟩ := Q7
          show Runs p e below (T7.setTop (mkF m 224 #[.val (.ref pa), .val (.ref la), .val (.ref cb), .val (.ref sy), .val (.int cnt.toInt32), .val (.int sh.toInt32), .val (.ref sp), .val (.int st.toInt32), .val (.int x.toInt32), .val (.int mid.toInt32), .val (.int y.toInt32), s11, s12] [(.int r7.toInt32)])) _
          refine X7.istore (pc' := 226) (l' := #[.val (.ref pa), .val (.ref la), .val (.ref cb), .val (.ref sy), .val (.int cnt.toInt32), .val (.int sh.toInt32), .val (.ref sp), .val (.int st.toInt32), .val (.int x.toInt32), .val (.int mid.toInt32), .val (.int y.toInt32), s11, .val (.int r7.toInt32)]) d8_224 (XS.store1 rfl hs12 rfl) rfl ?_
          refine X7.iload (pc' := 228) d8_226 rfl rfl ?_
          refine X7.aloadN (pc' := 229) d8_228 rfl rfl rfl ?_
          refine X7.arraylength (pc' := 230) (n := n.toInt32) Vp (by rw [own_tn_len]) d8_229 rfl ?_
          by_cases hc8 : r7.toInt32 = n.toInt32
          · refine X7.icmpNo (pc' := 233) d8_230 (teq hc8).2 rfl ?_
            refine X7.bipush (pc' := 235) (z := -2) d8_233 rfl rfl ?_
            refine X7.goto (pc' := 243) d8_235 (by decide) (by decide) ?_
            refine X7.istore (pc' := 245) (l' := #[.val (.ref pa), .val (.ref la), .val (.ref cb), .val (.ref sy), .val (.int cnt.toInt32), .val (.int sh.toInt32), .val (.ref sp), .val (.int st.toInt32), .val (.int x.toInt32), .val (.int mid.toInt32), .val (.int y.toInt32), .val (.int (-2 : Int32)), .val (.int r7.toInt32)]) d8_243 (XS.store1 rfl hs11 rfl) rfl ?_
            refine X7.aload (pc' := 247) d8_245 rfl rfl rfl ?_
            refine X7.iload (pc' := 249) d8_247 rfl rfl ?_
            refine X7.iload (pc' := 251) d8_249 rfl rfl ?_
            refine X7.ishl (pc' := 252) d8_251 rfl ?_
            refine X7.iload (pc' := 254) d8_252 rfl rfl ?_
            refine X7.iload (pc' := 256) d8_254 rfl rfl ?_
            refine X7.imul (pc' := 257) d8_256 rfl ?_
            refine X7.iadd (pc' := 258) d8_257 rfl ?_
            refine X7.iload (pc' := 260) d8_258 rfl rfl ?_
            refine X7.iadd (pc' := 261) d8_260 rfl ?_
            refine X7.iload (pc' := 263) d8_261 rfl rfl ?_
            refine X7.iastore (pc' := 264) Vw (own_il (own_ix hn hs (by omega) hst hx (by omega) hq) (own_ixn hst hx (by omega) hq)) d8_263 rfl (Or.inr sz_sp) (fun T9 h9 X9 W9 => ?_)
            have V9 : Lst Z h9 sp .int (own_tn (n * 2 ^ sh) (own_upd W (st * 2 ^ sh + x * cnt + y) (-2 : Int32))) := (own_tn_updz (own_ix hn hs (by omega) hst hx (by omega) hq)) ▸ Vw.set W9
            have Vp_9 := Vp.other W9 n1
            have Vf_9 := Vf.other W9 n2
            have Fl_9 := Fl.other W9 n3
            have Vs_9 := Vs.other W9 n4
            refine X9.iinc (pc' := 267) (z := 1) (l' := #[.val (.ref pa), .val (.ref la), .val (.ref cb), .val (.ref sy), .val (.int cnt.toInt32), .val (.int sh.toInt32), .val (.ref sp), .val (.int st.toInt32), .val (.int x.toInt32), .val (.int mid.toInt32), .val (.int (y + 1).toInt32), .val (.int (-2 : Int32)), .val (.int r7.toInt32)]) d8_264 rfl rfl (by rw [own_inc]; rfl) rfl ?_
            refine X9.goto (pc' := 183) d8_267 (by decide) (by decide) ?_
            exact ih (y + 1) T9 h9 (.val (.int (-2 : Int32))) (.val (.int r7.toInt32)) _ X9 (One.val rfl) (One.val rfl) (by omega) (by omega) Vp_9 Vf_9 Fl_9 Vs_9 V9 kx
          · refine X7.icmpYes (pc' := 238) d8_230 (feq hc8).2 (by decide) (by decide) ?_
            refine X7.iload (pc' := 240) d8_238 rfl rfl ?_
            refine X7.iload (pc' := 242) d8_240 rfl rfl ?_
            refine X7.ishl (pc' := 243) d8_242 rfl ?_
            refine X7.istore (pc' := 245) (l' := #[.val (.ref pa), .val (.ref la), .val (.ref cb), .val (.ref sy), .val (.int cnt.toInt32), .val (.int sh.toInt32), .val (.ref sp), .val (.int st.toInt32), .val (.int x.toInt32), .val (.int mid.toInt32), .val (.int y.toInt32), .val (.int (r7.toInt32 <<< (sh.toInt32 &&& 31))), .val (.int r7.toInt32)]) d8_243 (XS.store1 rfl hs11 rfl) rfl ?_
            refine X7.aload (pc' := 247) d8_245 rfl rfl rfl ?_
            refine X7.iload (pc' := 249) d8_247 rfl rfl ?_
            refine X7.iload (pc' := 251) d8_249 rfl rfl ?_
            refine X7.ishl (pc' := 252) d8_251 rfl ?_
            refine X7.iload (pc' := 254) d8_252 rfl rfl ?_
            refine X7.iload (pc' := 256) d8_254 rfl rfl ?_
            refine X7.imul (pc' := 257) d8_256 rfl ?_
            refine X7.iadd (pc' := 258) d8_257 rfl ?_
            refine X7.iload (pc' := 260) d8_258 rfl rfl ?_
            refine X7.iadd (pc' := 261) d8_260 rfl ?_
            refine X7.iload (pc' := 263) d8_261 rfl rfl ?_
            refine X7.iastore (pc' := 264) Vw (own_il (own_ix hn hs (by omega) hst hx (by omega) hq) (own_ixn hst hx (by omega) hq)) d8_263 rfl (Or.inr sz_sp) (fun T10 h10 X10 W10 => ?_)
            have V10 : Lst Z h10 sp .int (own_tn (n * 2 ^ sh) (own_upd W (st * 2 ^ sh + x * cnt + y) (r7.toInt32 <<< (sh.toInt32 &&& 31)))) := (own_tn_updz (own_ix hn hs (by omega) hst hx (by omega) hq)) ▸ Vw.set W10
            have Vp_10 := Vp.other W10 n1
            have Vf_10 := Vf.other W10 n2
            have Fl_10 := Fl.other W10 n3
            have Vs_10 := Vs.other W10 n4
            refine X10.iinc (pc' := 267) (z := 1) (l' := #[.val (.ref pa), .val (.ref la), .val (.ref cb), .val (.ref sy), .val (.int cnt.toInt32), .val (.int sh.toInt32), .val (.ref sp), .val (.int st.toInt32), .val (.int x.toInt32), .val (.int mid.toInt32), .val (.int (y + 1).toInt32), .val (.int (r7.toInt32 <<< (sh.toInt32 &&& 31))), .val (.int r7.toInt32)]) d8_264 rfl rfl (by rw [own_inc]; rfl) rfl ?_
            refine X10.goto (pc' := 183) d8_267 (by decide) (by decide) ?_
            exact ih (y + 1) T10 h10 (.val (.int (r7.toInt32 <<< (sh.toInt32 &&& 31)))) (.val (.int r7.toInt32)) _ X10 (One.val rfl) (One.val rfl) (by omega) (by omega) Vp_10 Vf_10 Fl_10 Vs_10 V10 kx
    · refine X.iload (pc' := 185) d8_183 rfl rfl ?_
      refine X.iload (pc' := 187) d8_185 rfl rfl ?_
      refine X.icmpYes (pc' := 270) d8_187 (flt (fun q => absurd ((own_lt32 (by omega) (by omega)).mp q) (by omega))).2.1 (by decide) (by decide) ?_
      obtain rfl : y = cnt := by omega
      exact kx _ _ _ _ _ X hs11 hs12 Vp Vf Fl Vs Vw
set_option maxRecDepth 65536 in
set_option maxHeartbeats 40000000 in
theorem lp150 {p : Program} {l : Launch} {e : Env} {s : State} {m : MethodId} {args : Array Value} {below : List Frame} {meth : Method} {c : Code} {Z : State} {h0 : Heap} {G : Outcome → State → Prop} {a0 : Array Value} (hw : ∀ d ∈ tables_1, d.before a0 Z = true) {pa la fa cb sy sp : Addr} {cK : ClassId} {P fb S : Nat → Int32} {n : Nat} (hn0 : 0 < n) (hn : n ≤ 6) (hfb : ∀ t, t < n → -1 ≤ (fb t).toInt ∧ (fb t).toInt < (t : Int)) (hmd : Jvm.LamKit.Made Z "com/example/rummage/rummage/Automaton" own_sg cK) {cnt sh : Nat} (hc2 : cnt ≤ n + 1) (hs : sh ≤ 6) (hq : cnt * cnt ≤ 2 ^ sh) (n1 : pa ≠ sp) (n2 : fa ≠ sp) (n3 : la ≠ sp) (n4 : sy ≠ sp) (sz_sp : h0.size ≤ sp) {st : Nat} (hst : st < n) :
    ∀ (d x : Nat) (T : State) (h : Heap) (s9 s10 s11 s12 : Slot) (W : Nat → Int32), Here p l e own_RP s m args below meth c y8 prog_19_method_2_code 13 (some (.object "com/example/rummage/rummage/PairSteps")) Z h0 [] T 3 647 h → One s9 → One s10 → One s11 → One s12 → cnt ≤ x + d → x ≤ cnt → Lst Z h pa .int (own_tn n P) → Lst Z h fa .int (own_tn n fb) → Fn h la cK #[.ref pa, .ref fa] → Lst Z h sy .int (own_tn (n + 1) S) → Lst Z h sp .int (own_tn (n * 2 ^ sh) W) → (∀ (T' : State) (h' : Heap) (s9' s10' s11' s12' : Slot) (W' : Nat → Int32), Here p l e own_RP s m args below meth c y8 prog_19_method_2_code 13 (some (.object "com/example/rummage/rummage/PairSteps")) Z h0 [] T' 3 647 h' → One s9' → One s10' → One s11' → One s12' → Lst Z h' pa .int (own_tn n P) → Lst Z h' fa .int (own_tn n fb) → Fn h' la cK #[.ref pa, .ref fa] → Lst Z h' sy .int (own_tn (n + 1) S) → Lst Z h' sp .int (own_tn (n * 2 ^ sh) W') → Runs p e below (T'.setTop (mkF m 276 #[.val (.ref pa), .val (.ref la), .val (.ref cb), .val (.ref sy), .val (.int cnt.toInt32), .val (.int sh.toInt32), .val (.ref sp), .val (.int st.toInt32), .val (.int cnt.toInt32), s9', s10', s11', s12'] [])) G) → Runs p e below (T.setTop (mkF m 150 #[.val (.ref pa), .val (.ref la), .val (.ref cb), .val (.ref sy), .val (.int cnt.toInt32), .val (.int sh.toInt32), .val (.ref sp), .val (.int st.toInt32), .val (.int x.toInt32), s9, s10, s11, s12] [])) G := by
  intro d
  induction d with
  | zero =>
    intro x T h s9 s10 s11 s12 W X hs9 hs10 hs11 hs12 hd hle Vp Vf Fl Vs Vw kx
    refine X.iload (pc' := 152) d8_150 rfl rfl ?_
    refine X.iload (pc' := 154) d8_152 rfl rfl ?_
    refine X.icmpYes (pc' := 276) d8_154 (flt (fun q => absurd ((own_lt32 (by omega) (by omega)).mp q) (by omega))).2.1 (by decide) (by decide) ?_
    obtain rfl : x = cnt := by omega
    exact kx _ _ _ _ _ _ _ X hs9 hs10 hs11 hs12 Vp Vf Fl Vs Vw
  | succ d ih =>
    intro x T h s9 s10 s11 s12 W X hs9 hs10 hs11 hs12 hd hle Vp Vf Fl Vs Vw kx
    by_cases hx : x < cnt
    · refine X.iload (pc' := 152) d8_150 rfl rfl ?_
      refine X.iload (pc' := 154) d8_152 rfl rfl ?_
      refine X.icmpNo (pc' := 157) d8_154 (tlt ((own_lt32 (by omega) (by omega)).mpr (by omega))).2.1 rfl ?_
      refine X.iload (pc' := 159) d8_157 rfl rfl ?_
      by_cases hc1 : x.toInt32 = (0 : Int32)
      · refine X.ifNo (pc' := 162) d8_159 (teq hc1).2 rfl ?_
        refine X.iconst (pc' := 163) (z := 0) d8_162 rfl rfl ?_
        refine X.goto (pc' := 178) d8_163 (by decide) (by decide) ?_
        refine X.istore (pc' := 180) (l' := #[.val (.ref pa), .val (.ref la), .val (.ref cb), .val (.ref sy), .val (.int cnt.toInt32), .val (.int sh.toInt32), .val (.ref sp), .val (.int st.toInt32), .val (.int x.toInt32), .val (.int (0 : Int32)), s10, s11, s12]) d8_178 (XS.store1 rfl hs9 rfl) rfl ?_
        refine X.iconst (pc' := 181) (z := 0) d8_180 rfl rfl ?_
        refine X.istore (pc' := 183) (l' := #[.val (.ref pa), .val (.ref la), .val (.ref cb), .val (.ref sy), .val (.int cnt.toInt32), .val (.int sh.toInt32), .val (.ref sp), .val (.int st.toInt32), .val (.int x.toInt32), .val (.int (0 : Int32)), .val (.int (0 : Int32)), s11, s12]) d8_181 (XS.store1 rfl hs10 rfl) rfl ?_
        refine lp183 (st := st) (x := x) (mid := 0) (cb := cb) hw hn0 hn hfb hmd hc2 hs hq n1 n2 n3 n4 sz_sp hst hx (Nat.zero_le _) cnt 0 T h s11 s12 _ X hs11 hs12 (by omega) (by omega) Vp Vf Fl Vs Vw (fun T2 h2 s112 s122 W2 X2 hs112 hs122 Vp2 Vf2 Fl2 Vs2 Vw2 => ?_)
        refine X2.iinc (pc' := 273) (z := 1) (l' := #[.val (.ref pa), .val (.ref la), .val (.ref cb), .val (.ref sy), .val (.int cnt.toInt32), .val (.int sh.toInt32), .val (.ref sp), .val (.int st.toInt32), .val (.int (x + 1).toInt32), .val (.int (0 : Nat).toInt32), .val (.int cnt.toInt32), s112, s122]) d8_270 rfl rfl (by rw [own_inc]; rfl) rfl ?_
        refine X2.goto (pc' := 150) d8_273 (by decide) (by decide) ?_
        exact ih (x + 1) T2 h2 (.val (.int (0 : Nat).toInt32)) (.val (.int cnt.toInt32)) s112 s122 _ X2 (One.val rfl) (One.val rfl) hs112 hs122 (by omega) (by omega) Vp2 Vf2 Fl2 Vs2 Vw2 kx
      · refine X.ifYes (pc' := 166) d8_159 (feq hc1).2 (by decide) (by decide) ?_
        refine X.aloadN (pc' := 167) d8_166 rfl rfl rfl ?_
        refine X.iload (pc' := 169) d8_167 rfl rfl ?_
        refine X.aloadN (pc' := 170) d8_169 rfl rfl rfl ?_
        refine X.iload (pc' := 172) d8_170 rfl rfl ?_
        refine X.iaload (pc' := 173) (v := (.int (S x))) Vs (own_il (own_i32 (by omega)) (by omega : x < n + 1)) (own_tn_at (own_ilt (own_i32 (by omega))) (by omega : x < n + 1)) d8_172 rfl ?_
        refine X.lam (pc' := 178) (argsL := [.int st.toInt32, .int (S x)]) (argsT := [.ref pa, .ref fa, .int st.toInt32, .int (S x)]) (rest := []) (L0 := #[.val (.ref la), .val (.int st.toInt32), .val (.int (S x))]) (ctLm l Z a0 hw pa fa P fb n st (S x) h Vp Vf hn hfb hst) hmd Fl (wd_64 hw) (wd_65 hw) (wd_66 hw) own_fn4 (wd_68 hw) (wd_67 hw) (wd_12 hw) own_fn1 own_fn2 own_fn3 fwd fw10 fw13 own_l2 own_l4 rfl rfl d8_173 rfl (fun _ => rfl) rfl (fun U ck bl target q1 q2 q3 q4 q5 q6 q7 k => own_load (wd_32 hw) q1 q2 q3 q4 q5 q6 q7 k) own_ro (by decide) (W := 0) rfl (by decide) (by decide) (by decide) (fun T3 h3 v3 X3 K3 Q3 => ?_)
        obtain ⟨r3, hr3, rfl, rfl⟩ := Q3
        show Runs p e below (T3.setTop (mkF m 178 #[.val (.ref pa), .val (.ref la), .val (.ref cb), .val (.ref sy), .val (.int cnt.toInt32), .val (.int sh.toInt32), .val (.ref sp), .val (.int st.toInt32), .val (.int x.toInt32), s9, s10, s11, s12] [(.int r3.toInt32)])) _
        refine X3.istore (pc' := 180) (l' := #[.val (.ref pa), .val (.ref la), .val (.ref cb), .val (.ref sy), .val (.int cnt.toInt32), .val (.int sh.toInt32), .val (.ref sp), .val (.int st.toInt32), .val (.int x.toInt32), .val (.int r3.toInt32), s10, s11, s12]) d8_178 (XS.store1 rfl hs9 rfl) rfl ?_
        refine X3.iconst (pc' := 181) (z := 0) d8_180 rfl rfl ?_
        refine X3.istore (pc' := 183) (l' := #[.val (.ref pa), .val (.ref la), .val (.ref cb), .val (.ref sy), .val (.int cnt.toInt32), .val (.int sh.toInt32), .val (.ref sp), .val (.int st.toInt32), .val (.int x.toInt32), .val (.int r3.toInt32), .val (.int (0 : Int32)), s11, s12]) d8_181 (XS.store1 rfl hs10 rfl) rfl ?_
        refine lp183 (st := st) (x := x) (mid := r3) (cb := cb) hw hn0 hn hfb hmd hc2 hs hq n1 n2 n3 n4 sz_sp hst hx hr3 cnt 0 T3 h s11 s12 _ X3 hs11 hs12 (by omega) (by omega) Vp Vf Fl Vs Vw (fun T4 h4 s114 s124 W4 X4 hs114 hs124 Vp4 Vf4 Fl4 Vs4 Vw4 => ?_)
        refine X4.iinc (pc' := 273) (z := 1) (l' := #[.val (.ref pa), .val (.ref la), .val (.ref cb), .val (.ref sy), .val (.int cnt.toInt32), .val (.int sh.toInt32), .val (.ref sp), .val (.int st.toInt32), .val (.int (x + 1).toInt32), .val (.int r3.toInt32), .val (.int cnt.toInt32), s114, s124]) d8_270 rfl rfl (by rw [own_inc]; rfl) rfl ?_
        refine X4.goto (pc' := 150) d8_273 (by decide) (by decide) ?_
        exact ih (x + 1) T4 h4 (.val (.int r3.toInt32)) (.val (.int cnt.toInt32)) s114 s124 _ X4 (One.val rfl) (One.val rfl) hs114 hs124 (by omega) (by omega) Vp4 Vf4 Fl4 Vs4 Vw4 kx
    · refine X.iload (pc' := 152) d8_150 rfl rfl ?_
      refine X.iload (pc' := 154) d8_152 rfl rfl ?_
      refine X.icmpYes (pc' := 276) d8_154 (flt (fun q => absurd ((own_lt32 (by omega) (by omega)).mp q) (by omega))).2.1 (by decide) (by decide) ?_
      obtain rfl : x = cnt := by omega
      exact kx _ _ _ _ _ _ _ X hs9 hs10 hs11 hs12 Vp Vf Fl Vs Vw
set_option maxRecDepth 65536 in
set_option maxHeartbeats 40000000 in
theorem lp140 {p : Program} {l : Launch} {e : Env} {s : State} {m : MethodId} {args : Array Value} {below : List Frame} {meth : Method} {c : Code} {Z : State} {h0 : Heap} {G : Outcome → State → Prop} {a0 : Array Value} (hw : ∀ d ∈ tables_1, d.before a0 Z = true) {pa la fa cb sy sp : Addr} {cK : ClassId} {P fb S : Nat → Int32} {n : Nat} (hn0 : 0 < n) (hn : n ≤ 6) (hfb : ∀ t, t < n → -1 ≤ (fb t).toInt ∧ (fb t).toInt < (t : Int)) (hmd : Jvm.LamKit.Made Z "com/example/rummage/rummage/Automaton" own_sg cK) {cnt sh : Nat} (hc2 : cnt ≤ n + 1) (hs : sh ≤ 6) (hq : cnt * cnt ≤ 2 ^ sh) (n1 : pa ≠ sp) (n2 : fa ≠ sp) (n3 : la ≠ sp) (n4 : sy ≠ sp) (sz_sp : h0.size ≤ sp) :
    ∀ (d st : Nat) (T : State) (h : Heap) (s8 s9 s10 s11 s12 : Slot) (W : Nat → Int32), Here p l e own_RP s m args below meth c y8 prog_19_method_2_code 13 (some (.object "com/example/rummage/rummage/PairSteps")) Z h0 [] T 3 647 h → One s8 → One s9 → One s10 → One s11 → One s12 → n ≤ st + d → st ≤ n → Lst Z h pa .int (own_tn n P) → Lst Z h fa .int (own_tn n fb) → Fn h la cK #[.ref pa, .ref fa] → Lst Z h sy .int (own_tn (n + 1) S) → Lst Z h sp .int (own_tn (n * 2 ^ sh) W) → (∀ T' h' s8' s9' s10' s11' s12', Here p l e own_RP s m args below meth c y8 prog_19_method_2_code 13 (some (.object "com/example/rummage/rummage/PairSteps")) Z h0 [] T' 3 647 h' → Lst Z h' pa .int (own_tn n P) → Runs p e below (T'.setTop (mkF m 282 #[.val (.ref pa), .val (.ref la), .val (.ref cb), .val (.ref sy), .val (.int cnt.toInt32), .val (.int sh.toInt32), .val (.ref sp), .val (.int n.toInt32), s8', s9', s10', s11', s12'] [])) G) → Runs p e below (T.setTop (mkF m 140 #[.val (.ref pa), .val (.ref la), .val (.ref cb), .val (.ref sy), .val (.int cnt.toInt32), .val (.int sh.toInt32), .val (.ref sp), .val (.int st.toInt32), s8, s9, s10, s11, s12] [])) G := by
  intro d
  induction d with
  | zero =>
    intro st T h s8 s9 s10 s11 s12 W X hs8 hs9 hs10 hs11 hs12 hd hle Vp Vf Fl Vs Vw kx
    refine X.iload (pc' := 142) d8_140 rfl rfl ?_
    refine X.aloadN (pc' := 143) d8_142 rfl rfl rfl ?_
    refine X.arraylength (pc' := 144) (n := n.toInt32) Vp (by rw [own_tn_len]) d8_143 rfl ?_
    refine X.icmpYes (pc' := 282) d8_144 (flt (fun q => absurd ((own_lt32 (by omega) (by omega)).mp q) (by omega))).2.1 (by decide) (by decide) ?_
    obtain rfl : st = n := by omega
    exact kx _ _ _ _ _ _ _ X Vp
  | succ d ih =>
    intro st T h s8 s9 s10 s11 s12 W X hs8 hs9 hs10 hs11 hs12 hd hle Vp Vf Fl Vs Vw kx
    by_cases hst : st < n
    · refine X.iload (pc' := 142) d8_140 rfl rfl ?_
      refine X.aloadN (pc' := 143) d8_142 rfl rfl rfl ?_
      refine X.arraylength (pc' := 144) (n := n.toInt32) Vp (by rw [own_tn_len]) d8_143 rfl ?_
      refine X.icmpNo (pc' := 147) d8_144 (tlt ((own_lt32 (by omega) (by omega)).mpr (by omega))).2.1 rfl ?_
      refine X.iconst (pc' := 148) (z := 0) d8_147 rfl rfl ?_
      refine X.istore (pc' := 150) (l' := #[.val (.ref pa), .val (.ref la), .val (.ref cb), .val (.ref sy), .val (.int cnt.toInt32), .val (.int sh.toInt32), .val (.ref sp), .val (.int st.toInt32), .val (.int (0 : Int32)), s9, s10, s11, s12]) d8_148 (XS.store1 rfl hs8 rfl) rfl ?_
      refine lp150 (st := st) (cb := cb) hw hn0 hn hfb hmd hc2 hs hq n1 n2 n3 n4 sz_sp hst cnt 0 T h s9 s10 s11 s12 _ X hs9 hs10 hs11 hs12 (by omega) (by omega) Vp Vf Fl Vs Vw (fun T1 h1 s91 s101 s111 s121 W1 X1 hs91 hs101 hs111 hs121 Vp1 Vf1 Fl1 Vs1 Vw1 => ?_)
      refine X1.iinc (pc' := 279) (z := 1) (l' := #[.val (.ref pa), .val (.ref la), .val (.ref cb), .val (.ref sy), .val (.int cnt.toInt32), .val (.int sh.toInt32), .val (.ref sp), .val (.int (st + 1).toInt32), .val (.int cnt.toInt32), s91, s101, s111, s121]) d8_276 rfl rfl (by rw [own_inc]; rfl) rfl ?_
      refine X1.goto (pc' := 140) d8_279 (by decide) (by decide) ?_
      exact ih (st + 1) T1 h1 (.val (.int cnt.toInt32)) s91 s101 s111 s121 _ X1 (One.val rfl) hs91 hs101 hs111 hs121 (by omega) (by omega) Vp1 Vf1 Fl1 Vs1 Vw1 kx
    · refine X.iload (pc' := 142) d8_140 rfl rfl ?_
      refine X.aloadN (pc' := 143) d8_142 rfl rfl rfl ?_
      refine X.arraylength (pc' := 144) (n := n.toInt32) Vp (by rw [own_tn_len]) d8_143 rfl ?_
      refine X.icmpYes (pc' := 282) d8_144 (flt (fun q => absurd ((own_lt32 (by omega) (by omega)).mp q) (by omega))).2.1 (by decide) (by decide) ?_
      obtain rfl : st = n := by omega
      exact kx _ _ _ _ _ _ _ X Vp
set_option maxRecDepth 65536 in
set_option maxHeartbeats 40000000 in
theorem ctPo (l : Launch) (Z : State) (a0 : Array Value) (hw : ∀ d ∈ tables_1, d.before a0 Z = true) (pa la fa : Addr) (cK : ClassId) (P fb : Nat → Int32) (n : Nat) (h0 : Heap) (Vp : Lst Z h0 pa .int (own_tn n P)) (Vf : Lst Z h0 fa .int (own_tn n fb)) (Fl : Fn h0 la cK #[.ref pa, .ref fa]) (hn : n ≤ 6) (hP : ∀ t, t < n → 0 ≤ (P t).toInt) (hfb : ∀ t, t < n → -1 ≤ (fb t).toInt ∧ (fb t).toInt < (t : Int)) (hmd : Jvm.LamKit.Made Z "com/example/rummage/rummage/Automaton" own_sg cK) :
    Ct l Z y8 prog_19_method_2_code 13 (some (.object "com/example/rummage/rummage/PairSteps")) ({ frames := 4, cells := 4, slots := 652, locals := 120 } : Room) #[(.ref pa), (.ref la)] h0 [] (fun v h => ∃ vv, v = some vv ∧ (vv = Value.null ∨ ∃ b, vv = .ref b)) := by
  refine Ct.of (plainFor_of_name (by first | (simp [plainName, overriddenIn]; done) | decide +kernel)) ?_
  intro p e s m below meth c T0 X0
  refine Runs.top (g' := mkF m 0 #[.val (.ref pa), .val (.ref la), .unset, .unset, .unset, .unset, .unset, .unset, .unset, .unset, .unset, .unset, .unset] []) (by first | (simp [entryFrame, mkF, argsToLocals, Value.category]; done) | rfl) ?_
  refine X0.aloadN (pc' := 1) d8_0 rfl rfl rfl ?_
  refine X0.arraylength (pc' := 2) (n := n.toInt32) Vp (by rw [own_tn_len]) d8_1 rfl ?_
  by_cases hc1 : n.toInt32 = (0 : Int32)
  · refine X0.ifYes (pc' := 13) d8_2 (teq hc1).1 (by decide) (by decide) ?_
    refine X0.aconstNull (pc' := 14) d8_13 rfl ?_
    exact X0.areturn rfl rfl rfl rfl d8_14 (by decide) (by decide) ⟨_, rfl, Or.inl rfl⟩
  · refine X0.ifNo (pc' := 5) d8_2 (feq hc1).1 rfl ?_
    refine X0.aloadN (pc' := 6) d8_5 rfl rfl rfl ?_
    refine X0.arraylength (pc' := 7) (n := n.toInt32) Vp (by rw [own_tn_len]) d8_6 rfl ?_
    refine X0.sipush (pc' := 10) (z := 1024) d8_7 rfl rfl ?_
    refine X0.icmpYes (pc' := 15) d8_10 (flt (own_1024 hn)).2.2.2 (by decide) (by decide) ?_
    refine X0.sipush (pc' := 18) (z := 256) d8_15 rfl rfl ?_
    refine X0.newarray (pc' := 20) (ty := .byte) rfl (wd_63 hw) d8_18 rfl (cap := 256) ⟨by decide, by decide⟩ (by decide) (by decide) (by decide) (fun T2 h2 b2 X2 g2 E2 V2 => ?_)
    have sz_b2 : h0.size ≤ b2 := g2 ▸ X0.size
    have ne_pa_b2 : pa ≠ b2 := Nat.ne_of_lt (g2 ▸ Vp.lt)
    have ne_fa_b2 : fa ≠ b2 := Nat.ne_of_lt (g2 ▸ Vf.lt)
    have ne_la_b2 : la ≠ b2 := Nat.ne_of_lt (g2 ▸ Fl.lt)
    have Vp_2 := Vp.ext E2
    have Vf_2 := Vf.ext E2
    have Fl_2 := Fl.ext E2
    refine X2.astoreN (pc' := 21) (l' := #[.val (.ref pa), .val (.ref la), .val (.ref b2), .unset, .unset, .unset, .unset, .unset, .unset, .unset, .unset, .unset, .unset]) d8_20 rfl rfl rfl ?_
    refine X2.aloadN (pc' := 22) d8_21 rfl rfl rfl ?_
    refine X2.arraylength (pc' := 23) (n := n.toInt32) Vp_2 (by rw [own_tn_len]) d8_22 rfl ?_
    refine X2.iconst (pc' := 24) (z := 1) d8_23 rfl rfl ?_
    refine X2.iadd (pc' := 25) d8_24 rfl ?_
    refine X2.newarray (pc' := 27) (ty := .int) rfl (wd_2 hw) d8_25 rfl (cap := 7) ⟨by rw [own_inci (by omega)]; omega, by rw [own_inci (by omega)]; omega⟩ (by decide) (by decide) (by decide) (fun T3 h3 b3 X3 g3 E3 V3 => ?_)
    have sz_b3 : h0.size ≤ b3 := g3 ▸ X2.size
    have ne_pa_b3 : pa ≠ b3 := Nat.ne_of_lt (g3 ▸ Vp_2.lt)
    have ne_fa_b3 : fa ≠ b3 := Nat.ne_of_lt (g3 ▸ Vf_2.lt)
    have ne_la_b3 : la ≠ b3 := Nat.ne_of_lt (g3 ▸ Fl_2.lt)
    have ne_b2_b3 : b2 ≠ b3 := Nat.ne_of_lt (g3 ▸ V2.lt)
    have Vp_3 := Vp_2.ext E3
    have Vf_3 := Vf_2.ext E3
    have Fl_3 := Fl_2.ext E3
    have V2_3 := V2.ext E3
    refine X3.astoreN (pc' := 28) (l' := #[.val (.ref pa), .val (.ref la), .val (.ref b2), .val (.ref b3), .unset, .unset, .unset, .unset, .unset, .unset, .unset, .unset, .unset]) d8_27 rfl rfl rfl ?_
    refine X3.iconst (pc' := 29) (z := 1) d8_28 rfl rfl ?_
    refine X3.istore (pc' := 31) (l' := #[.val (.ref pa), .val (.ref la), .val (.ref b2), .val (.ref b3), .val (.int (1 : Int32)), .unset, .unset, .unset, .unset, .unset, .unset, .unset, .unset]) d8_29 rfl rfl ?_
    refine X3.iconst (pc' := 32) (z := 0) d8_31 rfl rfl ?_
    refine X3.istore (pc' := 34) (l' := #[.val (.ref pa), .val (.ref la), .val (.ref b2), .val (.ref b3), .val (.int (1 : Int32)), .val (.int (0 : Int32)), .unset, .unset, .unset, .unset, .unset, .unset, .unset]) d8_32 rfl rfl ?_
    refine X3.aloadN (pc' := 35) d8_34 rfl rfl rfl ?_
    refine X3.astore (pc' := 37) (l' := #[.val (.ref pa), .val (.ref la), .val (.ref b2), .val (.ref b3), .val (.int (1 : Int32)), .val (.int (0 : Int32)), .val (.ref pa), .unset, .unset, .unset, .unset, .unset, .unset]) d8_35 rfl rfl rfl ?_
    refine X3.aload (pc' := 39) d8_37 rfl rfl rfl ?_
    refine X3.arraylength (pc' := 40) (n := n.toInt32) Vp_3 (by rw [own_tn_len]) d8_39 rfl ?_
    refine X3.istore (pc' := 42) (l' := #[.val (.ref pa), .val (.ref la), .val (.ref b2), .val (.ref b3), .val (.int (1 : Int32)), .val (.int (0 : Int32)), .val (.ref pa), .val (.int n.toInt32), .unset, .unset, .unset, .unset, .unset]) d8_40 rfl rfl ?_
    refine X3.iconst (pc' := 43) (z := 0) d8_42 rfl rfl ?_
    refine X3.istore (pc' := 45) (l' := #[.val (.ref pa), .val (.ref la), .val (.ref b2), .val (.ref b3), .val (.int (1 : Int32)), .val (.int (0 : Int32)), .val (.ref pa), .val (.int n.toInt32), .val (.int (0 : Int32)), .unset, .unset, .unset, .unset]) d8_43 rfl rfl ?_
    have hn0 : 0 < n := own_pz hc1
    refine lp45 (cb := b2) (sy := b3) hw hn0 hn hfb hmd hP ne_pa_b2 ne_pa_b3 ne_fa_b2 ne_fa_b3 ne_la_b2 ne_la_b3 ne_b2_b3 sz_b2 sz_b3 n 0 1 0 T3 h3 .unset _ _ X3 One.u (by omega) (by omega) (by omega) (by omega) (by omega) (fun q => absurd q (by omega)) Vp_3 Vf_3 Fl_3 (own_repz (n := 256) rfl V2_3) (own_repz (own_inci (by omega)) V3) (fun T7 h7 cnt sh s9 S X7 hs9 hc1 hc2 hs hq Vp7 Vf7 Fl7 Vs7 => ?_)
    refine X7.aloadN (pc' := 129) d8_128 rfl rfl rfl ?_
    refine X7.arraylength (pc' := 130) (n := n.toInt32) Vp7 (by rw [own_tn_len]) d8_129 rfl ?_
    refine X7.iload (pc' := 132) d8_130 rfl rfl ?_
    refine X7.ishl (pc' := 133) d8_132 rfl ?_
    refine X7.newarray (pc' := 135) (ty := .int) rfl (wd_2 hw) d8_133 rfl (cap := 384) ⟨by rw [own_shl hn hs]; omega, by have := own_shb hn hs; rw [own_shl hn hs]; omega⟩ (by decide) (by decide) (by decide) (fun T4 h4 b4 X4 g4 E4 V4 => ?_)
    have sz_b4 : h0.size ≤ b4 := g4 ▸ X7.size
    have ne_pa_b4 : pa ≠ b4 := Nat.ne_of_lt (g4 ▸ Vp7.lt)
    have ne_fa_b4 : fa ≠ b4 := Nat.ne_of_lt (g4 ▸ Vf7.lt)
    have ne_la_b4 : la ≠ b4 := Nat.ne_of_lt (g4 ▸ Fl7.lt)
    have ne_b3_b4 : b3 ≠ b4 := Nat.ne_of_lt (g4 ▸ Vs7.lt)
    have Vp7_4 := Vp7.ext E4
    have Vf7_4 := Vf7.ext E4
    have Fl7_4 := Fl7.ext E4
    have Vs7_4 := Vs7.ext E4
    refine X4.astore (pc' := 137) (l' := #[.val (.ref pa), .val (.ref la), .val (.ref b2), .val (.ref b3), .val (.int cnt.toInt32), .val (.int sh.toInt32), .val (.ref b4), .val (.int n.toInt32), .val (.int n.toInt32), s9, .unset, .unset, .unset]) d8_135 rfl rfl rfl ?_
    refine X4.iconst (pc' := 138) (z := 0) d8_137 rfl rfl ?_
    refine X4.istore (pc' := 140) (l' := #[.val (.ref pa), .val (.ref la), .val (.ref b2), .val (.ref b3), .val (.int cnt.toInt32), .val (.int sh.toInt32), .val (.ref b4), .val (.int (0 : Int32)), .val (.int n.toInt32), s9, .unset, .unset, .unset]) d8_138 rfl rfl ?_
    refine lp140 (cb := b2) (sy := b3) (sp := b4) hw hn0 hn hfb hmd hc2 hs hq ne_pa_b4 ne_fa_b4 ne_la_b4 ne_b3_b4 sz_b4 n 0 T4 h4 _ _ _ _ _ _ X4 (One.val rfl) hs9 One.u One.u One.u (by omega) (by omega) Vp7_4 Vf7_4 Fl7_4 Vs7_4 (own_repz (own_shl hn hs) V4) (fun T8 h8 s8 s9' s10 s11 s12 X8 Vp8 => ?_)
    refine X8.new (pc' := 285) (wd_72 hw) (wd_73 hw) (wd_35 hw) d8_282 rfl (by decide) (by decide) (fun T5 h5 b5 X5 g5 E5 A5 D5 => ?_)
    have sz_b5 : h0.size ≤ b5 := g5 ▸ X8.size
    have ne_pa_b5 : pa ≠ b5 := Nat.ne_of_lt (g5 ▸ Vp8.lt)
    have Vp8_5 := Vp8.ext E5
    have Flength_b5 : Fld Z h5 b5 "com/example/rummage/rummage/PairSteps" "length" "I" (.int (0 : Int32)) := D5 (Or.inr (wd_79 hw)) (ty := .int) (by decide)
    have Fclasses_b5 : Fld Z h5 b5 "com/example/rummage/rummage/PairSteps" "classes" "[B" .null := D5 (Or.inr (wd_81 hw)) (ty := (.array .byte)) (by decide)
    have FclassCount_b5 : Fld Z h5 b5 "com/example/rummage/rummage/PairSteps" "classCount" "I" (.int (0 : Int32)) := D5 (Or.inr (wd_83 hw)) (ty := .int) (by decide)
    have Fshift_b5 : Fld Z h5 b5 "com/example/rummage/rummage/PairSteps" "shift" "I" (.int (0 : Int32)) := D5 (Or.inr (wd_85 hw)) (ty := .int) (by decide)
    have Fsteps_b5 : Fld Z h5 b5 "com/example/rummage/rummage/PairSteps" "steps" "[I" .null := D5 (Or.inr (wd_87 hw)) (ty := (.array .int)) (by decide)
    refine X5.dup (pc' := 286) d8_285 rfl rfl ?_
    refine X5.aloadN (pc' := 287) d8_286 rfl rfl rfl ?_
    refine X5.arraylength (pc' := 288) (n := n.toInt32) Vp8_5 (by rw [own_tn_len]) d8_287 rfl ?_
    refine X5.aloadN (pc' := 289) d8_288 rfl rfl rfl ?_
    refine X5.iload (pc' := 291) d8_289 rfl rfl ?_
    refine X5.iload (pc' := 293) d8_291 rfl rfl ?_
    refine X5.aload (pc' := 295) d8_293 rfl rfl rfl ?_
    refine X5.special (pc' := 298) (W := 1) (a := b5) (argsL := [(.int n.toInt32), (.ref b2), (.int cnt.toInt32), (.int sh.toInt32), (.ref b4)]) (rest := [(.ref b5)]) (ctPi l Z a0 hw b5 b2 b4 n.toInt32 cnt.toInt32 sh.toInt32 h5 A5 Flength_b5 Fclasses_b5 FclassCount_b5 Fshift_b5 Fsteps_b5) rfl (wd_74 hw) (wd_75 hw) (wd_35 hw) (wd_76 hw) (by decide) pd_1 rfl rfl rfl rfl d8_295 rfl (by decide) rfl (by decide) (by decide) (by decide) ((allS (Or.inr sz_b5) all0)) (fun T6 h6 v6 X6 K6 Q6 => ?_)
    have Vp8_6 := Vp8_5.keep K6 (ninS ne_pa_b5 nin0)
    have A5_6 := A5.keep K6
    obtain rfl := Q6
    show Runs p e below (T6.setTop (mkF m 298 #[.val (.ref pa), .val (.ref la), .val (.ref b2), .val (.ref b3), .val (.int cnt.toInt32), .val (.int sh.toInt32), .val (.ref b4), .val (.int n.toInt32), s8, s9', s10, s11, s12] [(.ref b5)])) _
    exact X6.areturn rfl rfl rfl rfl d8_298 (by decide) (by decide) ⟨_, rfl, Or.inr ⟨_, rfl⟩⟩
theorem own_p0 {n : Nat} (h : (0 : Int32) < n.toInt32) : 0 < n := by
  rcases Nat.eq_zero_or_pos n with rfl | q
  · exact absurd h (by decide)
  · exact q
theorem own_p1 {n : Nat} (h : (0 : Int32) < n.toInt32) : n - 1 < n := by have := own_p0 h; omega

set_option maxRecDepth 65536 in
set_option maxHeartbeats 40000000 in
theorem ctA5_n (l : Launch) (Z : State) (a0 : Array Value) (hw : ∀ d ∈ tables_1, d.before a0 Z = true) (a pa ta fa : Addr) (P F : Nat → Int32) (n : Nat) (h0 : Heap) (E_a : Exa Z h0 a "com/example/rummage/rummage/Automaton") (Fpattern_a : Fld Z h0 a "com/example/rummage/rummage/Automaton" "pattern" "[I" .null) (Ftable_a : Fld Z h0 a "com/example/rummage/rummage/Automaton" "table" "[I" .null) (Ffallback_a : Fld Z h0 a "com/example/rummage/rummage/Automaton" "fallback" "[I" .null) (FpairSteps_a : Fld Z h0 a "com/example/rummage/rummage/Automaton" "pairSteps" "Lcom/example/rummage/rummage/PairSteps;" .null) (FafterHit_a : Fld Z h0 a "com/example/rummage/rummage/Automaton" "afterHit" "I" (.int (0 : Int32))) (Frun_a : Fld Z h0 a "com/example/rummage/rummage/Automaton" "run" "I" (.int (0 : Int32))) (Vp : Lst Z h0 pa .int (own_tn n P)) (Vt : Lst Z h0 ta .int (own_tn n F)) (hn : n ≤ 6) (hpa : pa ≠ a) (hta : ta ≠ a) :
    Ct l Z y9 prog_1_method_4_code 6 none ({ frames := 1, cells := 0, slots := 0, locals := 14 } : Room) #[(.ref a), (.ref pa), (.ref ta), (.ref fa), .null, (.int (1 : Int32))] h0 [a] (fun v h => v = none ∧ Exa Z h a "com/example/rummage/rummage/Automaton" ∧ Fld Z h a "com/example/rummage/rummage/Automaton" "pattern" "[I" (.ref pa) ∧ Fld Z h a "com/example/rummage/rummage/Automaton" "table" "[I" (.ref ta)) := by
  refine Ct.of (plainFor_of_name (by first | (simp [plainName, overriddenIn]; done) | decide +kernel)) ?_
  intro p e s m below meth c T0 X0
  refine Runs.top (g' := mkF m 0 #[.val (.ref a), .val (.ref pa), .val (.ref ta), .val (.ref fa), .val .null, .val (.int (1 : Int32))] []) (by first | (simp [entryFrame, mkF, argsToLocals, Value.category]; done) | rfl) ?_
  refine X0.aloadN (pc' := 1) d9_0 rfl rfl rfl ?_
  refine X0.initObj (pc' := 4) (W := 0) (wd_40 hw) (wd_41 hw) (wd_42 hw) rfl d9_1 rfl (by decide) rfl (by decide) (fun T1 X1 => ?_)
  refine X1.aloadN (pc' := 5) d9_4 rfl rfl rfl ?_
  refine X1.aloadN (pc' := 6) d9_5 rfl rfl rfl ?_
  refine X1.putfield (pc' := 9) (host := "") (Or.inl (wd_43 hw)) Via.refl Fpattern_a E_a (Or.inr ⟨(wd_44 hw), rfl, rfl⟩) (wd_11 hw) (ty := (.array .int)) (by decide) rfl rfl d9_6 rfl (Or.inl (by simp)) (fun T2 h2 X2 W2 => ?_)
  have Fw2 := Fld.same W2 Fpattern_a
  have E_a_2 := Exa.wr W2 E_a
  have Ftable_a_2 := Fld.other W2 Ftable_a (Or.inr (slot_ne (Or.inr (wd_46 hw)) (Or.inr (wd_44 hw)) (by decide) (t := (.array .int)) (t' := (.array .int)) (by decide) (by decide)))
  have Ffallback_a_2 := Fld.other W2 Ffallback_a (Or.inr (slot_ne (Or.inr (wd_48 hw)) (Or.inr (wd_44 hw)) (by decide) (t := (.array .int)) (t' := (.array .int)) (by decide) (by decide)))
  have FpairSteps_a_2 := Fld.other W2 FpairSteps_a (Or.inr (slot_ne (Or.inr (wd_50 hw)) (Or.inr (wd_44 hw)) (by decide) (t := (.object "com/example/rummage/rummage/PairSteps")) (t' := (.array .int)) (by decide) (by decide)))
  have FafterHit_a_2 := Fld.other W2 FafterHit_a (Or.inr (slot_ne (Or.inr (wd_52 hw)) (Or.inr (wd_44 hw)) (by decide) (t := .int) (t' := (.array .int)) (by decide) (by decide)))
  have Frun_a_2 := Fld.other W2 Frun_a (Or.inr (slot_ne (Or.inr (wd_57 hw)) (Or.inr (wd_44 hw)) (by decide) (t := .int) (t' := (.array .int)) (by decide) (by decide)))
  have Vp_2 := Vp.other W2 hpa
  have Vt_2 := Vt.other W2 hta
  refine X2.aloadN (pc' := 10) d9_9 rfl rfl rfl ?_
  refine X2.aloadN (pc' := 11) d9_10 rfl rfl rfl ?_
  refine X2.putfield (pc' := 14) (host := "") (Or.inl (wd_45 hw)) Via.refl Ftable_a_2 E_a_2 (Or.inr ⟨(wd_46 hw), rfl, rfl⟩) (wd_11 hw) (ty := (.array .int)) (by decide) rfl rfl d9_11 rfl (Or.inl (by simp)) (fun T3 h3 X3 W3 => ?_)
  have Fw3 := Fld.same W3 Ftable_a_2
  have E_a_3 := Exa.wr W3 E_a_2
  have Fw2_3 := Fld.other W3 Fw2 (Or.inr (slot_ne (Or.inr (wd_44 hw)) (Or.inr (wd_46 hw)) (by decide) (t := (.array .int)) (t' := (.array .int)) (by decide) (by decide)))
  have Ffallback_a_3 := Fld.other W3 Ffallback_a_2 (Or.inr (slot_ne (Or.inr (wd_48 hw)) (Or.inr (wd_46 hw)) (by decide) (t := (.array .int)) (t' := (.array .int)) (by decide) (by decide)))
  have FpairSteps_a_3 := Fld.other W3 FpairSteps_a_2 (Or.inr (slot_ne (Or.inr (wd_50 hw)) (Or.inr (wd_46 hw)) (by decide) (t := (.object "com/example/rummage/rummage/PairSteps")) (t' := (.array .int)) (by decide) (by decide)))
  have FafterHit_a_3 := Fld.other W3 FafterHit_a_2 (Or.inr (slot_ne (Or.inr (wd_52 hw)) (Or.inr (wd_46 hw)) (by decide) (t := .int) (t' := (.array .int)) (by decide) (by decide)))
  have Frun_a_3 := Fld.other W3 Frun_a_2 (Or.inr (slot_ne (Or.inr (wd_57 hw)) (Or.inr (wd_46 hw)) (by decide) (t := .int) (t' := (.array .int)) (by decide) (by decide)))
  have Vp_3 := Vp_2.other W3 hpa
  have Vt_3 := Vt_2.other W3 hta
  refine X3.aloadN (pc' := 15) d9_14 rfl rfl rfl ?_
  refine X3.aloadN (pc' := 16) d9_15 rfl rfl rfl ?_
  refine X3.putfield (pc' := 19) (host := "") (Or.inl (wd_47 hw)) Via.refl Ffallback_a_3 E_a_3 (Or.inr ⟨(wd_48 hw), rfl, rfl⟩) (wd_11 hw) (ty := (.array .int)) (by decide) rfl rfl d9_16 rfl (Or.inl (by simp)) (fun T4 h4 X4 W4 => ?_)
  have Fw4 := Fld.same W4 Ffallback_a_3
  have E_a_4 := Exa.wr W4 E_a_3
  have Fw2_4 := Fld.other W4 Fw2_3 (Or.inr (slot_ne (Or.inr (wd_44 hw)) (Or.inr (wd_48 hw)) (by decide) (t := (.array .int)) (t' := (.array .int)) (by decide) (by decide)))
  have Fw3_4 := Fld.other W4 Fw3 (Or.inr (slot_ne (Or.inr (wd_46 hw)) (Or.inr (wd_48 hw)) (by decide) (t := (.array .int)) (t' := (.array .int)) (by decide) (by decide)))
  have FpairSteps_a_4 := Fld.other W4 FpairSteps_a_3 (Or.inr (slot_ne (Or.inr (wd_50 hw)) (Or.inr (wd_48 hw)) (by decide) (t := (.object "com/example/rummage/rummage/PairSteps")) (t' := (.array .int)) (by decide) (by decide)))
  have FafterHit_a_4 := Fld.other W4 FafterHit_a_3 (Or.inr (slot_ne (Or.inr (wd_52 hw)) (Or.inr (wd_48 hw)) (by decide) (t := .int) (t' := (.array .int)) (by decide) (by decide)))
  have Frun_a_4 := Fld.other W4 Frun_a_3 (Or.inr (slot_ne (Or.inr (wd_57 hw)) (Or.inr (wd_48 hw)) (by decide) (t := .int) (t' := (.array .int)) (by decide) (by decide)))
  have Vp_4 := Vp_3.other W4 hpa
  have Vt_4 := Vt_3.other W4 hta
  refine X4.aloadN (pc' := 20) d9_19 rfl rfl rfl ?_
  refine X4.aload (pc' := 22) d9_20 rfl rfl rfl ?_
  refine X4.putfield (pc' := 25) (host := "") (Or.inl (wd_49 hw)) Via.refl FpairSteps_a_4 E_a_4 (Or.inr ⟨(wd_50 hw), rfl, rfl⟩) (wd_11 hw) (ty := (.object "com/example/rummage/rummage/PairSteps")) (by decide) rfl rfl d9_22 rfl (Or.inl (by simp)) (fun T5 h5 X5 W5 => ?_)
  have Fw5 := Fld.same W5 FpairSteps_a_4
  have E_a_5 := Exa.wr W5 E_a_4
  have Fw2_5 := Fld.other W5 Fw2_4 (Or.inr (slot_ne (Or.inr (wd_44 hw)) (Or.inr (wd_50 hw)) (by decide) (t := (.array .int)) (t' := (.object "com/example/rummage/rummage/PairSteps")) (by decide) (by decide)))
  have Fw3_5 := Fld.other W5 Fw3_4 (Or.inr (slot_ne (Or.inr (wd_46 hw)) (Or.inr (wd_50 hw)) (by decide) (t := (.array .int)) (t' := (.object "com/example/rummage/rummage/PairSteps")) (by decide) (by decide)))
  have Fw4_5 := Fld.other W5 Fw4 (Or.inr (slot_ne (Or.inr (wd_48 hw)) (Or.inr (wd_50 hw)) (by decide) (t := (.array .int)) (t' := (.object "com/example/rummage/rummage/PairSteps")) (by decide) (by decide)))
  have FafterHit_a_5 := Fld.other W5 FafterHit_a_4 (Or.inr (slot_ne (Or.inr (wd_52 hw)) (Or.inr (wd_50 hw)) (by decide) (t := .int) (t' := (.object "com/example/rummage/rummage/PairSteps")) (by decide) (by decide)))
  have Frun_a_5 := Fld.other W5 Frun_a_4 (Or.inr (slot_ne (Or.inr (wd_57 hw)) (Or.inr (wd_50 hw)) (by decide) (t := .int) (t' := (.object "com/example/rummage/rummage/PairSteps")) (by decide) (by decide)))
  have Vp_5 := Vp_4.other W5 hpa
  have Vt_5 := Vt_4.other W5 hta
  refine X5.aloadN (pc' := 26) d9_25 rfl rfl rfl ?_
  refine X5.iload (pc' := 28) d9_26 rfl rfl ?_
  refine X5.ifNo (pc' := 31) d9_28 (by decide) rfl ?_
  refine X5.aloadN (pc' := 32) d9_31 rfl rfl rfl ?_
  refine X5.arraylength (pc' := 33) (n := n.toInt32) Vp_5 (by rw [own_tn_len]) d9_32 rfl ?_
  by_cases hc6 : (0 : Int32) < n.toInt32
  · refine X5.ifNo (pc' := 36) d9_33 (tlt hc6).2.2.2 rfl ?_
    refine X5.aloadN (pc' := 37) d9_36 rfl rfl rfl ?_
    refine X5.aloadN (pc' := 38) d9_37 rfl rfl rfl ?_
    refine X5.arraylength (pc' := 39) (n := n.toInt32) Vp_5 (by rw [own_tn_len]) d9_38 rfl ?_
    refine X5.iconst (pc' := 40) (z := 1) d9_39 rfl rfl ?_
    refine X5.isub (pc' := 41) d9_40 rfl ?_
    refine X5.iaload (pc' := 42) (v := (.int (F (n - 1)))) Vt_5 (own_il (own_dec (own_p0 hc6) (by omega)) (own_p1 hc6)) (own_tn_at (own_ilt (own_dec (own_p0 hc6) (by omega))) (own_p1 hc6)) d9_41 rfl ?_
    refine X5.goto (pc' := 46) d9_42 (by decide) (by decide) ?_
    refine X5.putfield (pc' := 49) (host := "") (Or.inl (wd_51 hw)) Via.refl FafterHit_a_5 E_a_5 (Or.inr ⟨(wd_52 hw), rfl, rfl⟩) (wd_11 hw) (ty := .int) (by decide) rfl rfl d9_46 rfl (Or.inl (by simp)) (fun T7 h7 X7 W7 => ?_)
    have Fw7 := Fld.same W7 FafterHit_a_5
    have E_a_7 := Exa.wr W7 E_a_5
    have Fw2_7 := Fld.other W7 Fw2_5 (Or.inr (slot_ne (Or.inr (wd_44 hw)) (Or.inr (wd_52 hw)) (by decide) (t := (.array .int)) (t' := .int) (by decide) (by decide)))
    have Fw3_7 := Fld.other W7 Fw3_5 (Or.inr (slot_ne (Or.inr (wd_46 hw)) (Or.inr (wd_52 hw)) (by decide) (t := (.array .int)) (t' := .int) (by decide) (by decide)))
    have Fw4_7 := Fld.other W7 Fw4_5 (Or.inr (slot_ne (Or.inr (wd_48 hw)) (Or.inr (wd_52 hw)) (by decide) (t := (.array .int)) (t' := .int) (by decide) (by decide)))
    have Fw5_7 := Fld.other W7 Fw5 (Or.inr (slot_ne (Or.inr (wd_50 hw)) (Or.inr (wd_52 hw)) (by decide) (t := (.object "com/example/rummage/rummage/PairSteps")) (t' := .int) (by decide) (by decide)))
    have Frun_a_7 := Fld.other W7 Frun_a_5 (Or.inr (slot_ne (Or.inr (wd_57 hw)) (Or.inr (wd_52 hw)) (by decide) (t := .int) (t' := .int) (by decide) (by decide)))
    have Vp_7 := Vp_5.other W7 hpa
    have Vt_7 := Vt_5.other W7 hta
    refine X7.aloadN (pc' := 50) d9_49 rfl rfl rfl ?_
    refine X7.aloadN (pc' := 51) d9_50 rfl rfl rfl ?_
    refine X7.callS (pc' := 54) (W := 1) (argsL := [(.ref pa)]) (rest := [(.ref a)]) (ctRn l Z a0 hw pa P n h7 Vp_7 hn) (wd_53 hw) (wd_54 hw) (wd_12 hw) (wd_55 hw) (by decide) pd_2 rfl rfl rfl rfl d9_51 rfl (by decide) rfl (by decide) (by decide) (by decide) allWs0 (fun T8 h8 v8 X8 K8 Q8 => ?_)
    obtain ⟨⟨r8, rfl⟩, rfl⟩ := Q8
    show Runs p e below (T8.setTop (mkF m 54 #[.val (.ref a), .val (.ref pa), .val (.ref ta), .val (.ref fa), .val .null, .val (.int (1 : Int32))] [(.int r8), (.ref a)])) _
    refine X8.putfield (pc' := 57) (host := "") (Or.inl (wd_56 hw)) Via.refl Frun_a_7 E_a_7 (Or.inr ⟨(wd_57 hw), rfl, rfl⟩) (wd_11 hw) (ty := .int) (by decide) rfl rfl d9_54 rfl (Or.inl (by simp)) (fun T9 h9 X9 W9 => ?_)
    have Fw9 := Fld.same W9 Frun_a_7
    have E_a_9 := Exa.wr W9 E_a_7
    have Fw2_9 := Fld.other W9 Fw2_7 (Or.inr (slot_ne (Or.inr (wd_44 hw)) (Or.inr (wd_57 hw)) (by decide) (t := (.array .int)) (t' := .int) (by decide) (by decide)))
    have Fw3_9 := Fld.other W9 Fw3_7 (Or.inr (slot_ne (Or.inr (wd_46 hw)) (Or.inr (wd_57 hw)) (by decide) (t := (.array .int)) (t' := .int) (by decide) (by decide)))
    have Fw4_9 := Fld.other W9 Fw4_7 (Or.inr (slot_ne (Or.inr (wd_48 hw)) (Or.inr (wd_57 hw)) (by decide) (t := (.array .int)) (t' := .int) (by decide) (by decide)))
    have Fw5_9 := Fld.other W9 Fw5_7 (Or.inr (slot_ne (Or.inr (wd_50 hw)) (Or.inr (wd_57 hw)) (by decide) (t := (.object "com/example/rummage/rummage/PairSteps")) (t' := .int) (by decide) (by decide)))
    have Fw7_9 := Fld.other W9 Fw7 (Or.inr (slot_ne (Or.inr (wd_52 hw)) (Or.inr (wd_57 hw)) (by decide) (t := .int) (t' := .int) (by decide) (by decide)))
    have Vp_9 := Vp_7.other W9 hpa
    have Vt_9 := Vt_7.other W9 hta
    exact X9.vreturn rfl d9_57 (by decide) (by decide) ⟨rfl, E_a_9, Fw2_9, Fw3_9⟩
  · refine X5.ifYes (pc' := 45) d9_33 (flt hc6).2.2.2 (by decide) (by decide) ?_
    refine X5.iconst (pc' := 46) (z := 0) d9_45 rfl rfl ?_
    refine X5.putfield (pc' := 49) (host := "") (Or.inl (wd_51 hw)) Via.refl FafterHit_a_5 E_a_5 (Or.inr ⟨(wd_52 hw), rfl, rfl⟩) (wd_11 hw) (ty := .int) (by decide) rfl rfl d9_46 rfl (Or.inl (by simp)) (fun T10 h10 X10 W10 => ?_)
    have Fw10 := Fld.same W10 FafterHit_a_5
    have E_a_10 := Exa.wr W10 E_a_5
    have Fw2_10 := Fld.other W10 Fw2_5 (Or.inr (slot_ne (Or.inr (wd_44 hw)) (Or.inr (wd_52 hw)) (by decide) (t := (.array .int)) (t' := .int) (by decide) (by decide)))
    have Fw3_10 := Fld.other W10 Fw3_5 (Or.inr (slot_ne (Or.inr (wd_46 hw)) (Or.inr (wd_52 hw)) (by decide) (t := (.array .int)) (t' := .int) (by decide) (by decide)))
    have Fw4_10 := Fld.other W10 Fw4_5 (Or.inr (slot_ne (Or.inr (wd_48 hw)) (Or.inr (wd_52 hw)) (by decide) (t := (.array .int)) (t' := .int) (by decide) (by decide)))
    have Fw5_10 := Fld.other W10 Fw5 (Or.inr (slot_ne (Or.inr (wd_50 hw)) (Or.inr (wd_52 hw)) (by decide) (t := (.object "com/example/rummage/rummage/PairSteps")) (t' := .int) (by decide) (by decide)))
    have Frun_a_10 := Fld.other W10 Frun_a_5 (Or.inr (slot_ne (Or.inr (wd_57 hw)) (Or.inr (wd_52 hw)) (by decide) (t := .int) (t' := .int) (by decide) (by decide)))
    have Vp_10 := Vp_5.other W10 hpa
    have Vt_10 := Vt_5.other W10 hta
    refine X10.aloadN (pc' := 50) d9_49 rfl rfl rfl ?_
    refine X10.aloadN (pc' := 51) d9_50 rfl rfl rfl ?_
    refine X10.callS (pc' := 54) (W := 1) (argsL := [(.ref pa)]) (rest := [(.ref a)]) (ctRn l Z a0 hw pa P n h10 Vp_10 hn) (wd_53 hw) (wd_54 hw) (wd_12 hw) (wd_55 hw) (by decide) pd_2 rfl rfl rfl rfl d9_51 rfl (by decide) rfl (by decide) (by decide) (by decide) allWs0 (fun T11 h11 v11 X11 K11 Q11 => ?_)
    obtain ⟨⟨r11, rfl⟩, rfl⟩ := Q11
    show Runs p e below (T11.setTop (mkF m 54 #[.val (.ref a), .val (.ref pa), .val (.ref ta), .val (.ref fa), .val .null, .val (.int (1 : Int32))] [(.int r11), (.ref a)])) _
    refine X11.putfield (pc' := 57) (host := "") (Or.inl (wd_56 hw)) Via.refl Frun_a_10 E_a_10 (Or.inr ⟨(wd_57 hw), rfl, rfl⟩) (wd_11 hw) (ty := .int) (by decide) rfl rfl d9_54 rfl (Or.inl (by simp)) (fun T12 h12 X12 W12 => ?_)
    have Fw12 := Fld.same W12 Frun_a_10
    have E_a_12 := Exa.wr W12 E_a_10
    have Fw2_12 := Fld.other W12 Fw2_10 (Or.inr (slot_ne (Or.inr (wd_44 hw)) (Or.inr (wd_57 hw)) (by decide) (t := (.array .int)) (t' := .int) (by decide) (by decide)))
    have Fw3_12 := Fld.other W12 Fw3_10 (Or.inr (slot_ne (Or.inr (wd_46 hw)) (Or.inr (wd_57 hw)) (by decide) (t := (.array .int)) (t' := .int) (by decide) (by decide)))
    have Fw4_12 := Fld.other W12 Fw4_10 (Or.inr (slot_ne (Or.inr (wd_48 hw)) (Or.inr (wd_57 hw)) (by decide) (t := (.array .int)) (t' := .int) (by decide) (by decide)))
    have Fw5_12 := Fld.other W12 Fw5_10 (Or.inr (slot_ne (Or.inr (wd_50 hw)) (Or.inr (wd_57 hw)) (by decide) (t := (.object "com/example/rummage/rummage/PairSteps")) (t' := .int) (by decide) (by decide)))
    have Fw10_12 := Fld.other W12 Fw10 (Or.inr (slot_ne (Or.inr (wd_52 hw)) (Or.inr (wd_57 hw)) (by decide) (t := .int) (t' := .int) (by decide) (by decide)))
    have Vp_12 := Vp_10.other W12 hpa
    have Vt_12 := Vt_10.other W12 hta
    exact X12.vreturn rfl d9_57 (by decide) (by decide) ⟨rfl, E_a_12, Fw2_12, Fw3_12⟩
set_option maxRecDepth 65536 in
set_option maxHeartbeats 40000000 in
theorem ctA5_r (l : Launch) (Z : State) (a0 : Array Value) (hw : ∀ d ∈ tables_1, d.before a0 Z = true) (a pa ta fa ps : Addr) (P F : Nat → Int32) (n : Nat) (h0 : Heap) (E_a : Exa Z h0 a "com/example/rummage/rummage/Automaton") (Fpattern_a : Fld Z h0 a "com/example/rummage/rummage/Automaton" "pattern" "[I" .null) (Ftable_a : Fld Z h0 a "com/example/rummage/rummage/Automaton" "table" "[I" .null) (Ffallback_a : Fld Z h0 a "com/example/rummage/rummage/Automaton" "fallback" "[I" .null) (FpairSteps_a : Fld Z h0 a "com/example/rummage/rummage/Automaton" "pairSteps" "Lcom/example/rummage/rummage/PairSteps;" .null) (FafterHit_a : Fld Z h0 a "com/example/rummage/rummage/Automaton" "afterHit" "I" (.int (0 : Int32))) (Frun_a : Fld Z h0 a "com/example/rummage/rummage/Automaton" "run" "I" (.int (0 : Int32))) (Vp : Lst Z h0 pa .int (own_tn n P)) (Vt : Lst Z h0 ta .int (own_tn n F)) (hn : n ≤ 6) (hpa : pa ≠ a) (hta : ta ≠ a) :
    Ct l Z y9 prog_1_method_4_code 6 none ({ frames := 1, cells := 0, slots := 0, locals := 14 } : Room) #[(.ref a), (.ref pa), (.ref ta), (.ref fa), (.ref ps), (.int (1 : Int32))] h0 [a] (fun v h => v = none ∧ Exa Z h a "com/example/rummage/rummage/Automaton" ∧ Fld Z h a "com/example/rummage/rummage/Automaton" "pattern" "[I" (.ref pa) ∧ Fld Z h a "com/example/rummage/rummage/Automaton" "table" "[I" (.ref ta)) := by
  refine Ct.of (plainFor_of_name (by first | (simp [plainName, overriddenIn]; done) | decide +kernel)) ?_
  intro p e s m below meth c T0 X0
  refine Runs.top (g' := mkF m 0 #[.val (.ref a), .val (.ref pa), .val (.ref ta), .val (.ref fa), .val (.ref ps), .val (.int (1 : Int32))] []) (by first | (simp [entryFrame, mkF, argsToLocals, Value.category]; done) | rfl) ?_
  refine X0.aloadN (pc' := 1) d9_0 rfl rfl rfl ?_
  refine X0.initObj (pc' := 4) (W := 0) (wd_40 hw) (wd_41 hw) (wd_42 hw) rfl d9_1 rfl (by decide) rfl (by decide) (fun T1 X1 => ?_)
  refine X1.aloadN (pc' := 5) d9_4 rfl rfl rfl ?_
  refine X1.aloadN (pc' := 6) d9_5 rfl rfl rfl ?_
  refine X1.putfield (pc' := 9) (host := "") (Or.inl (wd_43 hw)) Via.refl Fpattern_a E_a (Or.inr ⟨(wd_44 hw), rfl, rfl⟩) (wd_11 hw) (ty := (.array .int)) (by decide) rfl rfl d9_6 rfl (Or.inl (by simp)) (fun T2 h2 X2 W2 => ?_)
  have Fw2 := Fld.same W2 Fpattern_a
  have E_a_2 := Exa.wr W2 E_a
  have Ftable_a_2 := Fld.other W2 Ftable_a (Or.inr (slot_ne (Or.inr (wd_46 hw)) (Or.inr (wd_44 hw)) (by decide) (t := (.array .int)) (t' := (.array .int)) (by decide) (by decide)))
  have Ffallback_a_2 := Fld.other W2 Ffallback_a (Or.inr (slot_ne (Or.inr (wd_48 hw)) (Or.inr (wd_44 hw)) (by decide) (t := (.array .int)) (t' := (.array .int)) (by decide) (by decide)))
  have FpairSteps_a_2 := Fld.other W2 FpairSteps_a (Or.inr (slot_ne (Or.inr (wd_50 hw)) (Or.inr (wd_44 hw)) (by decide) (t := (.object "com/example/rummage/rummage/PairSteps")) (t' := (.array .int)) (by decide) (by decide)))
  have FafterHit_a_2 := Fld.other W2 FafterHit_a (Or.inr (slot_ne (Or.inr (wd_52 hw)) (Or.inr (wd_44 hw)) (by decide) (t := .int) (t' := (.array .int)) (by decide) (by decide)))
  have Frun_a_2 := Fld.other W2 Frun_a (Or.inr (slot_ne (Or.inr (wd_57 hw)) (Or.inr (wd_44 hw)) (by decide) (t := .int) (t' := (.array .int)) (by decide) (by decide)))
  have Vp_2 := Vp.other W2 hpa
  have Vt_2 := Vt.other W2 hta
  refine X2.aloadN (pc' := 10) d9_9 rfl rfl rfl ?_
  refine X2.aloadN (pc' := 11) d9_10 rfl rfl rfl ?_
  refine X2.putfield (pc' := 14) (host := "") (Or.inl (wd_45 hw)) Via.refl Ftable_a_2 E_a_2 (Or.inr ⟨(wd_46 hw), rfl, rfl⟩) (wd_11 hw) (ty := (.array .int)) (by decide) rfl rfl d9_11 rfl (Or.inl (by simp)) (fun T3 h3 X3 W3 => ?_)
  have Fw3 := Fld.same W3 Ftable_a_2
  have E_a_3 := Exa.wr W3 E_a_2
  have Fw2_3 := Fld.other W3 Fw2 (Or.inr (slot_ne (Or.inr (wd_44 hw)) (Or.inr (wd_46 hw)) (by decide) (t := (.array .int)) (t' := (.array .int)) (by decide) (by decide)))
  have Ffallback_a_3 := Fld.other W3 Ffallback_a_2 (Or.inr (slot_ne (Or.inr (wd_48 hw)) (Or.inr (wd_46 hw)) (by decide) (t := (.array .int)) (t' := (.array .int)) (by decide) (by decide)))
  have FpairSteps_a_3 := Fld.other W3 FpairSteps_a_2 (Or.inr (slot_ne (Or.inr (wd_50 hw)) (Or.inr (wd_46 hw)) (by decide) (t := (.object "com/example/rummage/rummage/PairSteps")) (t' := (.array .int)) (by decide) (by decide)))
  have FafterHit_a_3 := Fld.other W3 FafterHit_a_2 (Or.inr (slot_ne (Or.inr (wd_52 hw)) (Or.inr (wd_46 hw)) (by decide) (t := .int) (t' := (.array .int)) (by decide) (by decide)))
  have Frun_a_3 := Fld.other W3 Frun_a_2 (Or.inr (slot_ne (Or.inr (wd_57 hw)) (Or.inr (wd_46 hw)) (by decide) (t := .int) (t' := (.array .int)) (by decide) (by decide)))
  have Vp_3 := Vp_2.other W3 hpa
  have Vt_3 := Vt_2.other W3 hta
  refine X3.aloadN (pc' := 15) d9_14 rfl rfl rfl ?_
  refine X3.aloadN (pc' := 16) d9_15 rfl rfl rfl ?_
  refine X3.putfield (pc' := 19) (host := "") (Or.inl (wd_47 hw)) Via.refl Ffallback_a_3 E_a_3 (Or.inr ⟨(wd_48 hw), rfl, rfl⟩) (wd_11 hw) (ty := (.array .int)) (by decide) rfl rfl d9_16 rfl (Or.inl (by simp)) (fun T4 h4 X4 W4 => ?_)
  have Fw4 := Fld.same W4 Ffallback_a_3
  have E_a_4 := Exa.wr W4 E_a_3
  have Fw2_4 := Fld.other W4 Fw2_3 (Or.inr (slot_ne (Or.inr (wd_44 hw)) (Or.inr (wd_48 hw)) (by decide) (t := (.array .int)) (t' := (.array .int)) (by decide) (by decide)))
  have Fw3_4 := Fld.other W4 Fw3 (Or.inr (slot_ne (Or.inr (wd_46 hw)) (Or.inr (wd_48 hw)) (by decide) (t := (.array .int)) (t' := (.array .int)) (by decide) (by decide)))
  have FpairSteps_a_4 := Fld.other W4 FpairSteps_a_3 (Or.inr (slot_ne (Or.inr (wd_50 hw)) (Or.inr (wd_48 hw)) (by decide) (t := (.object "com/example/rummage/rummage/PairSteps")) (t' := (.array .int)) (by decide) (by decide)))
  have FafterHit_a_4 := Fld.other W4 FafterHit_a_3 (Or.inr (slot_ne (Or.inr (wd_52 hw)) (Or.inr (wd_48 hw)) (by decide) (t := .int) (t' := (.array .int)) (by decide) (by decide)))
  have Frun_a_4 := Fld.other W4 Frun_a_3 (Or.inr (slot_ne (Or.inr (wd_57 hw)) (Or.inr (wd_48 hw)) (by decide) (t := .int) (t' := (.array .int)) (by decide) (by decide)))
  have Vp_4 := Vp_3.other W4 hpa
  have Vt_4 := Vt_3.other W4 hta
  refine X4.aloadN (pc' := 20) d9_19 rfl rfl rfl ?_
  refine X4.aload (pc' := 22) d9_20 rfl rfl rfl ?_
  refine X4.putfield (pc' := 25) (host := "") (Or.inl (wd_49 hw)) Via.refl FpairSteps_a_4 E_a_4 (Or.inr ⟨(wd_50 hw), rfl, rfl⟩) (wd_11 hw) (ty := (.object "com/example/rummage/rummage/PairSteps")) (by decide) rfl rfl d9_22 rfl (Or.inl (by simp)) (fun T5 h5 X5 W5 => ?_)
  have Fw5 := Fld.same W5 FpairSteps_a_4
  have E_a_5 := Exa.wr W5 E_a_4
  have Fw2_5 := Fld.other W5 Fw2_4 (Or.inr (slot_ne (Or.inr (wd_44 hw)) (Or.inr (wd_50 hw)) (by decide) (t := (.array .int)) (t' := (.object "com/example/rummage/rummage/PairSteps")) (by decide) (by decide)))
  have Fw3_5 := Fld.other W5 Fw3_4 (Or.inr (slot_ne (Or.inr (wd_46 hw)) (Or.inr (wd_50 hw)) (by decide) (t := (.array .int)) (t' := (.object "com/example/rummage/rummage/PairSteps")) (by decide) (by decide)))
  have Fw4_5 := Fld.other W5 Fw4 (Or.inr (slot_ne (Or.inr (wd_48 hw)) (Or.inr (wd_50 hw)) (by decide) (t := (.array .int)) (t' := (.object "com/example/rummage/rummage/PairSteps")) (by decide) (by decide)))
  have FafterHit_a_5 := Fld.other W5 FafterHit_a_4 (Or.inr (slot_ne (Or.inr (wd_52 hw)) (Or.inr (wd_50 hw)) (by decide) (t := .int) (t' := (.object "com/example/rummage/rummage/PairSteps")) (by decide) (by decide)))
  have Frun_a_5 := Fld.other W5 Frun_a_4 (Or.inr (slot_ne (Or.inr (wd_57 hw)) (Or.inr (wd_50 hw)) (by decide) (t := .int) (t' := (.object "com/example/rummage/rummage/PairSteps")) (by decide) (by decide)))
  have Vp_5 := Vp_4.other W5 hpa
  have Vt_5 := Vt_4.other W5 hta
  refine X5.aloadN (pc' := 26) d9_25 rfl rfl rfl ?_
  refine X5.iload (pc' := 28) d9_26 rfl rfl ?_
  refine X5.ifNo (pc' := 31) d9_28 (by decide) rfl ?_
  refine X5.aloadN (pc' := 32) d9_31 rfl rfl rfl ?_
  refine X5.arraylength (pc' := 33) (n := n.toInt32) Vp_5 (by rw [own_tn_len]) d9_32 rfl ?_
  by_cases hc6 : (0 : Int32) < n.toInt32
  · refine X5.ifNo (pc' := 36) d9_33 (tlt hc6).2.2.2 rfl ?_
    refine X5.aloadN (pc' := 37) d9_36 rfl rfl rfl ?_
    refine X5.aloadN (pc' := 38) d9_37 rfl rfl rfl ?_
    refine X5.arraylength (pc' := 39) (n := n.toInt32) Vp_5 (by rw [own_tn_len]) d9_38 rfl ?_
    refine X5.iconst (pc' := 40) (z := 1) d9_39 rfl rfl ?_
    refine X5.isub (pc' := 41) d9_40 rfl ?_
    refine X5.iaload (pc' := 42) (v := (.int (F (n - 1)))) Vt_5 (own_il (own_dec (own_p0 hc6) (by omega)) (own_p1 hc6)) (own_tn_at (own_ilt (own_dec (own_p0 hc6) (by omega))) (own_p1 hc6)) d9_41 rfl ?_
    refine X5.goto (pc' := 46) d9_42 (by decide) (by decide) ?_
    refine X5.putfield (pc' := 49) (host := "") (Or.inl (wd_51 hw)) Via.refl FafterHit_a_5 E_a_5 (Or.inr ⟨(wd_52 hw), rfl, rfl⟩) (wd_11 hw) (ty := .int) (by decide) rfl rfl d9_46 rfl (Or.inl (by simp)) (fun T7 h7 X7 W7 => ?_)
    have Fw7 := Fld.same W7 FafterHit_a_5
    have E_a_7 := Exa.wr W7 E_a_5
    have Fw2_7 := Fld.other W7 Fw2_5 (Or.inr (slot_ne (Or.inr (wd_44 hw)) (Or.inr (wd_52 hw)) (by decide) (t := (.array .int)) (t' := .int) (by decide) (by decide)))
    have Fw3_7 := Fld.other W7 Fw3_5 (Or.inr (slot_ne (Or.inr (wd_46 hw)) (Or.inr (wd_52 hw)) (by decide) (t := (.array .int)) (t' := .int) (by decide) (by decide)))
    have Fw4_7 := Fld.other W7 Fw4_5 (Or.inr (slot_ne (Or.inr (wd_48 hw)) (Or.inr (wd_52 hw)) (by decide) (t := (.array .int)) (t' := .int) (by decide) (by decide)))
    have Fw5_7 := Fld.other W7 Fw5 (Or.inr (slot_ne (Or.inr (wd_50 hw)) (Or.inr (wd_52 hw)) (by decide) (t := (.object "com/example/rummage/rummage/PairSteps")) (t' := .int) (by decide) (by decide)))
    have Frun_a_7 := Fld.other W7 Frun_a_5 (Or.inr (slot_ne (Or.inr (wd_57 hw)) (Or.inr (wd_52 hw)) (by decide) (t := .int) (t' := .int) (by decide) (by decide)))
    have Vp_7 := Vp_5.other W7 hpa
    have Vt_7 := Vt_5.other W7 hta
    refine X7.aloadN (pc' := 50) d9_49 rfl rfl rfl ?_
    refine X7.aloadN (pc' := 51) d9_50 rfl rfl rfl ?_
    refine X7.callS (pc' := 54) (W := 1) (argsL := [(.ref pa)]) (rest := [(.ref a)]) (ctRn l Z a0 hw pa P n h7 Vp_7 hn) (wd_53 hw) (wd_54 hw) (wd_12 hw) (wd_55 hw) (by decide) pd_2 rfl rfl rfl rfl d9_51 rfl (by decide) rfl (by decide) (by decide) (by decide) allWs0 (fun T8 h8 v8 X8 K8 Q8 => ?_)
    obtain ⟨⟨r8, rfl⟩, rfl⟩ := Q8
    show Runs p e below (T8.setTop (mkF m 54 #[.val (.ref a), .val (.ref pa), .val (.ref ta), .val (.ref fa), .val (.ref ps), .val (.int (1 : Int32))] [(.int r8), (.ref a)])) _
    refine X8.putfield (pc' := 57) (host := "") (Or.inl (wd_56 hw)) Via.refl Frun_a_7 E_a_7 (Or.inr ⟨(wd_57 hw), rfl, rfl⟩) (wd_11 hw) (ty := .int) (by decide) rfl rfl d9_54 rfl (Or.inl (by simp)) (fun T9 h9 X9 W9 => ?_)
    have Fw9 := Fld.same W9 Frun_a_7
    have E_a_9 := Exa.wr W9 E_a_7
    have Fw2_9 := Fld.other W9 Fw2_7 (Or.inr (slot_ne (Or.inr (wd_44 hw)) (Or.inr (wd_57 hw)) (by decide) (t := (.array .int)) (t' := .int) (by decide) (by decide)))
    have Fw3_9 := Fld.other W9 Fw3_7 (Or.inr (slot_ne (Or.inr (wd_46 hw)) (Or.inr (wd_57 hw)) (by decide) (t := (.array .int)) (t' := .int) (by decide) (by decide)))
    have Fw4_9 := Fld.other W9 Fw4_7 (Or.inr (slot_ne (Or.inr (wd_48 hw)) (Or.inr (wd_57 hw)) (by decide) (t := (.array .int)) (t' := .int) (by decide) (by decide)))
    have Fw5_9 := Fld.other W9 Fw5_7 (Or.inr (slot_ne (Or.inr (wd_50 hw)) (Or.inr (wd_57 hw)) (by decide) (t := (.object "com/example/rummage/rummage/PairSteps")) (t' := .int) (by decide) (by decide)))
    have Fw7_9 := Fld.other W9 Fw7 (Or.inr (slot_ne (Or.inr (wd_52 hw)) (Or.inr (wd_57 hw)) (by decide) (t := .int) (t' := .int) (by decide) (by decide)))
    have Vp_9 := Vp_7.other W9 hpa
    have Vt_9 := Vt_7.other W9 hta
    exact X9.vreturn rfl d9_57 (by decide) (by decide) ⟨rfl, E_a_9, Fw2_9, Fw3_9⟩
  · refine X5.ifYes (pc' := 45) d9_33 (flt hc6).2.2.2 (by decide) (by decide) ?_
    refine X5.iconst (pc' := 46) (z := 0) d9_45 rfl rfl ?_
    refine X5.putfield (pc' := 49) (host := "") (Or.inl (wd_51 hw)) Via.refl FafterHit_a_5 E_a_5 (Or.inr ⟨(wd_52 hw), rfl, rfl⟩) (wd_11 hw) (ty := .int) (by decide) rfl rfl d9_46 rfl (Or.inl (by simp)) (fun T10 h10 X10 W10 => ?_)
    have Fw10 := Fld.same W10 FafterHit_a_5
    have E_a_10 := Exa.wr W10 E_a_5
    have Fw2_10 := Fld.other W10 Fw2_5 (Or.inr (slot_ne (Or.inr (wd_44 hw)) (Or.inr (wd_52 hw)) (by decide) (t := (.array .int)) (t' := .int) (by decide) (by decide)))
    have Fw3_10 := Fld.other W10 Fw3_5 (Or.inr (slot_ne (Or.inr (wd_46 hw)) (Or.inr (wd_52 hw)) (by decide) (t := (.array .int)) (t' := .int) (by decide) (by decide)))
    have Fw4_10 := Fld.other W10 Fw4_5 (Or.inr (slot_ne (Or.inr (wd_48 hw)) (Or.inr (wd_52 hw)) (by decide) (t := (.array .int)) (t' := .int) (by decide) (by decide)))
    have Fw5_10 := Fld.other W10 Fw5 (Or.inr (slot_ne (Or.inr (wd_50 hw)) (Or.inr (wd_52 hw)) (by decide) (t := (.object "com/example/rummage/rummage/PairSteps")) (t' := .int) (by decide) (by decide)))
    have Frun_a_10 := Fld.other W10 Frun_a_5 (Or.inr (slot_ne (Or.inr (wd_57 hw)) (Or.inr (wd_52 hw)) (by decide) (t := .int) (t' := .int) (by decide) (by decide)))
    have Vp_10 := Vp_5.other W10 hpa
    have Vt_10 := Vt_5.other W10 hta
    refine X10.aloadN (pc' := 50) d9_49 rfl rfl rfl ?_
    refine X10.aloadN (pc' := 51) d9_50 rfl rfl rfl ?_
    refine X10.callS (pc' := 54) (W := 1) (argsL := [(.ref pa)]) (rest := [(.ref a)]) (ctRn l Z a0 hw pa P n h10 Vp_10 hn) (wd_53 hw) (wd_54 hw) (wd_12 hw) (wd_55 hw) (by decide) pd_2 rfl rfl rfl rfl d9_51 rfl (by decide) rfl (by decide) (by decide) (by decide) allWs0 (fun T11 h11 v11 X11 K11 Q11 => ?_)
    obtain ⟨⟨r11, rfl⟩, rfl⟩ := Q11
    show Runs p e below (T11.setTop (mkF m 54 #[.val (.ref a), .val (.ref pa), .val (.ref ta), .val (.ref fa), .val (.ref ps), .val (.int (1 : Int32))] [(.int r11), (.ref a)])) _
    refine X11.putfield (pc' := 57) (host := "") (Or.inl (wd_56 hw)) Via.refl Frun_a_10 E_a_10 (Or.inr ⟨(wd_57 hw), rfl, rfl⟩) (wd_11 hw) (ty := .int) (by decide) rfl rfl d9_54 rfl (Or.inl (by simp)) (fun T12 h12 X12 W12 => ?_)
    have Fw12 := Fld.same W12 Frun_a_10
    have E_a_12 := Exa.wr W12 E_a_10
    have Fw2_12 := Fld.other W12 Fw2_10 (Or.inr (slot_ne (Or.inr (wd_44 hw)) (Or.inr (wd_57 hw)) (by decide) (t := (.array .int)) (t' := .int) (by decide) (by decide)))
    have Fw3_12 := Fld.other W12 Fw3_10 (Or.inr (slot_ne (Or.inr (wd_46 hw)) (Or.inr (wd_57 hw)) (by decide) (t := (.array .int)) (t' := .int) (by decide) (by decide)))
    have Fw4_12 := Fld.other W12 Fw4_10 (Or.inr (slot_ne (Or.inr (wd_48 hw)) (Or.inr (wd_57 hw)) (by decide) (t := (.array .int)) (t' := .int) (by decide) (by decide)))
    have Fw5_12 := Fld.other W12 Fw5_10 (Or.inr (slot_ne (Or.inr (wd_50 hw)) (Or.inr (wd_57 hw)) (by decide) (t := (.object "com/example/rummage/rummage/PairSteps")) (t' := .int) (by decide) (by decide)))
    have Fw10_12 := Fld.other W12 Fw10 (Or.inr (slot_ne (Or.inr (wd_52 hw)) (Or.inr (wd_57 hw)) (by decide) (t := .int) (t' := .int) (by decide) (by decide)))
    have Vp_12 := Vp_10.other W12 hpa
    have Vt_12 := Vt_10.other W12 hta
    exact X12.vreturn rfl d9_57 (by decide) (by decide) ⟨rfl, E_a_12, Fw2_12, Fw3_12⟩
set_option maxRecDepth 65536 in
set_option maxHeartbeats 40000000 in
theorem ctA3 (l : Launch) (Z : State) (a0 : Array Value) (hw : ∀ d ∈ tables_1, d.before a0 Z = true) (a pa ta fa : Addr) (P F fb : Nat → Int32) (n : Nat) (h0 : Heap) (E_a : Exa Z h0 a "com/example/rummage/rummage/Automaton") (Fpattern_a : Fld Z h0 a "com/example/rummage/rummage/Automaton" "pattern" "[I" .null) (Ftable_a : Fld Z h0 a "com/example/rummage/rummage/Automaton" "table" "[I" .null) (Ffallback_a : Fld Z h0 a "com/example/rummage/rummage/Automaton" "fallback" "[I" .null) (FpairSteps_a : Fld Z h0 a "com/example/rummage/rummage/Automaton" "pairSteps" "Lcom/example/rummage/rummage/PairSteps;" .null) (FafterHit_a : Fld Z h0 a "com/example/rummage/rummage/Automaton" "afterHit" "I" (.int (0 : Int32))) (Frun_a : Fld Z h0 a "com/example/rummage/rummage/Automaton" "run" "I" (.int (0 : Int32))) (Vp : Lst Z h0 pa .int (own_tn n P)) (Vt : Lst Z h0 ta .int (own_tn n F)) (Vf : Lst Z h0 fa .int (own_tn n fb)) (hn : n ≤ 6) (hP : ∀ t, t < n → 0 ≤ (P t).toInt) (hfb : ∀ t, t < n → -1 ≤ (fb t).toInt ∧ (fb t).toInt < (t : Int)) (hpa : pa ≠ a) (hta : ta ≠ a) (hfa : fa ≠ a) :
    Ct l Z y7 prog_1_method_3_code 4 none ({ frames := 5, cells := 5, slots := 654, locals := 3079 } : Room) #[(.ref a), (.ref pa), (.ref ta), (.ref fa)] h0 [a] (fun v h => v = none ∧ Exa Z h a "com/example/rummage/rummage/Automaton" ∧ Fld Z h a "com/example/rummage/rummage/Automaton" "pattern" "[I" (.ref pa) ∧ Fld Z h a "com/example/rummage/rummage/Automaton" "table" "[I" (.ref ta)) := by
  refine Ct.of (plainFor_of_name (by first | (simp [plainName, overriddenIn]; done) | decide +kernel)) ?_
  intro p e s m below meth c T0 X0
  refine Runs.top (g' := mkF m 0 #[.val (.ref a), .val (.ref pa), .val (.ref ta), .val (.ref fa)] []) (by first | (simp [entryFrame, mkF, argsToLocals, Value.category]; done) | rfl) ?_
  refine X0.aloadN (pc' := 1) d7_0 rfl rfl rfl ?_
  refine X0.aloadN (pc' := 2) d7_1 rfl rfl rfl ?_
  refine X0.aloadN (pc' := 3) d7_2 rfl rfl rfl ?_
  refine X0.aloadN (pc' := 4) d7_3 rfl rfl rfl ?_
  refine X0.aloadN (pc' := 5) d7_4 rfl rfl rfl ?_
  refine X0.aloadN (pc' := 6) d7_5 rfl rfl rfl ?_
  refine X0.aloadN (pc' := 7) d7_6 rfl rfl rfl ?_
  refine X0.makes (pc' := 12) (fi := 16) (vals := [.ref pa, .ref fa]) (rest := [(.ref pa), (.ref fa), (.ref ta), (.ref pa), (.ref a)]) (wd_29 hw) (by decide) cap0 (wd_32 hw) d7_7 rfl rfl rfl rfl (nv := 2) rfl own_fit (W := 7) rfl (by decide) (by decide) (by decide) (fun T1 h1 la cK X1 g1 E1 hmd Fl => ?_)
  have sz_la : h0.size ≤ la := g1 ▸ X0.size
  have ne_a_la : a ≠ la := Nat.ne_of_lt (g1 ▸ E_a.lt)
  have ne_pa_la : pa ≠ la := Nat.ne_of_lt (g1 ▸ Vp.lt)
  have ne_fa_la : fa ≠ la := Nat.ne_of_lt (g1 ▸ Vf.lt)
  have ne_ta_la : ta ≠ la := Nat.ne_of_lt (g1 ▸ Vt.lt)
  have E_a_1 := Exa.ext E1 E_a
  have Fpattern_a_1 := Fld.ext E1 Fpattern_a
  have Ftable_a_1 := Fld.ext E1 Ftable_a
  have Ffallback_a_1 := Fld.ext E1 Ffallback_a
  have FpairSteps_a_1 := Fld.ext E1 FpairSteps_a
  have FafterHit_a_1 := Fld.ext E1 FafterHit_a
  have Frun_a_1 := Fld.ext E1 Frun_a
  have Vp_1 := Vp.ext E1
  have Vf_1 := Vf.ext E1
  have Vt_1 := Vt.ext E1
  refine X1.callS (pc' := 15) (W := 4) (argsL := [(.ref pa), (.ref la)]) (rest := [(.ref fa), (.ref ta), (.ref pa), (.ref a)]) (ctPo l Z a0 hw pa la fa cK P fb n h1 Vp_1 Vf_1 Fl hn hP hfb hmd) (wd_33 hw) (wd_34 hw) (wd_35 hw) (wd_36 hw) (by decide) pd_3 rfl rfl rfl rfl d7_12 rfl (by decide) rfl (by decide) (by decide) (by decide) allWs0 (fun T2 h2 v2 X2 K2 Q2 => ?_)
  have E_a_2 := E_a_1.keep K2
  have Fpattern_a_2 := Fpattern_a_1.keep K2 nin0
  have Ftable_a_2 := Ftable_a_1.keep K2 nin0
  have Ffallback_a_2 := Ffallback_a_1.keep K2 nin0
  have FpairSteps_a_2 := FpairSteps_a_1.keep K2 nin0
  have FafterHit_a_2 := FafterHit_a_1.keep K2 nin0
  have Frun_a_2 := Frun_a_1.keep K2 nin0
  have Vp_2 := Vp_1.keep K2 nin0
  have Vf_2 := Vf_1.keep K2 nin0
  have Vt_2 := Vt_1.keep K2 nin0
  have Fl_2 := Fl.keep K2 nin0
  obtain ⟨vv, rfl, hvv⟩ := Q2
  show Runs p e below (T2.setTop (mkF m 15 #[.val (.ref a), .val (.ref pa), .val (.ref ta), .val (.ref fa)] [vv, (.ref fa), (.ref ta), (.ref pa), (.ref a)])) _
  rcases hvv with rfl | ⟨ps, rfl⟩
  · refine X2.iconst (pc' := 16) (z := 1) d7_15 rfl rfl ?_
    refine X2.special (pc' := 19) (W := 0) (a := a) (argsL := [(.ref pa), (.ref ta), (.ref fa), .null, (.int (1 : Int32))]) (rest := []) (ctA5_n l Z a0 hw a pa ta fa P F n h2 E_a_2 Fpattern_a_2 Ftable_a_2 Ffallback_a_2 FpairSteps_a_2 FafterHit_a_2 Frun_a_2 Vp_2 Vt_2 hn hpa hta) rfl (wd_37 hw) (wd_38 hw) (wd_12 hw) (wd_39 hw) (by decide) pd_4 rfl rfl rfl rfl d7_16 rfl (by decide) rfl (by decide) (by decide) (by decide) ((allS (Or.inl (by simp)) all0)) (fun T3 h3 v3 X3 K3 Q3 => ?_)
    have E_a_3 := E_a_2.keep K3
    have Vp_3 := Vp_2.keep K3 (ninS hpa nin0)
    have Vf_3 := Vf_2.keep K3 (ninS hfa nin0)
    have Vt_3 := Vt_2.keep K3 (ninS hta nin0)
    have Fl_3 := Fl_2.keep K3 (ninS (Ne.symm ne_a_la) nin0)
    obtain ⟨rfl, QQ⟩ := Q3
    show Runs p e below (T3.setTop (mkF m 19 #[.val (.ref a), .val (.ref pa), .val (.ref ta), .val (.ref fa)] [])) _
    exact X3.vreturn rfl d7_19 (by decide) (by decide) ⟨rfl, QQ⟩
  · refine X2.iconst (pc' := 16) (z := 1) d7_15 rfl rfl ?_
    refine X2.special (pc' := 19) (W := 0) (a := a) (argsL := [(.ref pa), (.ref ta), (.ref fa), (.ref ps), (.int (1 : Int32))]) (rest := []) (ctA5_r l Z a0 hw a pa ta fa ps P F n h2 E_a_2 Fpattern_a_2 Ftable_a_2 Ffallback_a_2 FpairSteps_a_2 FafterHit_a_2 Frun_a_2 Vp_2 Vt_2 hn hpa hta) rfl (wd_37 hw) (wd_38 hw) (wd_12 hw) (wd_39 hw) (by decide) pd_4 rfl rfl rfl rfl d7_16 rfl (by decide) rfl (by decide) (by decide) (by decide) ((allS (Or.inl (by simp)) all0)) (fun T4 h4 v4 X4 K4 Q4 => ?_)
    have E_a_4 := E_a_2.keep K4
    have Vp_4 := Vp_2.keep K4 (ninS hpa nin0)
    have Vf_4 := Vf_2.keep K4 (ninS hfa nin0)
    have Vt_4 := Vt_2.keep K4 (ninS hta nin0)
    have Fl_4 := Fl_2.keep K4 (ninS (Ne.symm ne_a_la) nin0)
    obtain ⟨rfl, QQ⟩ := Q4
    show Runs p e below (T4.setTop (mkF m 19 #[.val (.ref a), .val (.ref pa), .val (.ref ta), .val (.ref fa)] [])) _
    exact X4.vreturn rfl d7_19 (by decide) (by decide) ⟨rfl, QQ⟩
set_option maxRecDepth 65536 in
set_option maxHeartbeats 40000000 in
theorem ctA2 (l : Launch) (Z : State) (a0 : Array Value) (hw : ∀ d ∈ tables_1, d.before a0 Z = true) (a pa ta : Addr) (P : Nat → Int32) (n : Nat) (h0 : Heap) (E_a : Exa Z h0 a "com/example/rummage/rummage/Automaton") (Fpattern_a : Fld Z h0 a "com/example/rummage/rummage/Automaton" "pattern" "[I" .null) (Ftable_a : Fld Z h0 a "com/example/rummage/rummage/Automaton" "table" "[I" .null) (Ffallback_a : Fld Z h0 a "com/example/rummage/rummage/Automaton" "fallback" "[I" .null) (FpairSteps_a : Fld Z h0 a "com/example/rummage/rummage/Automaton" "pairSteps" "Lcom/example/rummage/rummage/PairSteps;" .null) (FafterHit_a : Fld Z h0 a "com/example/rummage/rummage/Automaton" "afterHit" "I" (.int (0 : Int32))) (Frun_a : Fld Z h0 a "com/example/rummage/rummage/Automaton" "run" "I" (.int (0 : Int32))) (Vp : Lst Z h0 pa .int (own_tn n P)) (Vt : Lst Z h0 ta .int (own_tn n (own_tb P n))) (hn : n ≤ 6) (hP : ∀ t, t < n → 0 ≤ (P t).toInt) (hpa : pa ≠ a) (hta : ta ≠ a) :
    Ct l Z y5 prog_1_method_2_code 3 none ({ frames := 6, cells := 6, slots := 660, locals := 3094 } : Room) #[(.ref a), (.ref pa), (.ref ta)] h0 [a] (fun v h => v = none ∧ Exa Z h a "com/example/rummage/rummage/Automaton" ∧ Fld Z h a "com/example/rummage/rummage/Automaton" "pattern" "[I" (.ref pa) ∧ Fld Z h a "com/example/rummage/rummage/Automaton" "table" "[I" (.ref ta)) := by
  refine Ct.of (plainFor_of_name (by first | (simp [plainName, overriddenIn]; done) | decide +kernel)) ?_
  intro p e s m below meth c T0 X0
  refine Runs.top (g' := mkF m 0 #[.val (.ref a), .val (.ref pa), .val (.ref ta)] []) (by first | (simp [entryFrame, mkF, argsToLocals, Value.category]; done) | rfl) ?_
  refine X0.aloadN (pc' := 1) d5_0 rfl rfl rfl ?_
  refine X0.aloadN (pc' := 2) d5_1 rfl rfl rfl ?_
  refine X0.aloadN (pc' := 3) d5_2 rfl rfl rfl ?_
  refine X0.aloadN (pc' := 4) d5_3 rfl rfl rfl ?_
  refine X0.aloadN (pc' := 5) d5_4 rfl rfl rfl ?_
  refine X0.callS (pc' := 8) (W := 3) (argsL := [(.ref pa), (.ref ta)]) (rest := [(.ref ta), (.ref pa), (.ref a)]) (ctFb l Z a0 hw pa ta P (own_kmp (own_eqf P) (n - 1)).2 n h0 Vp Vt hn (own_kmp_le _ _).2) (wd_23 hw) (wd_24 hw) (wd_12 hw) (wd_25 hw) (by decide) pd_5 rfl rfl rfl rfl d5_5 rfl (by decide) rfl (by decide) (by decide) (by decide) allWs0 (fun T1 h1 v1 X1 K1 Q1 => ?_)
  have E_a_1 := E_a.keep K1
  have Fpattern_a_1 := Fpattern_a.keep K1 nin0
  have Ftable_a_1 := Ftable_a.keep K1 nin0
  have Ffallback_a_1 := Ffallback_a.keep K1 nin0
  have FpairSteps_a_1 := FpairSteps_a.keep K1 nin0
  have FafterHit_a_1 := FafterHit_a.keep K1 nin0
  have Frun_a_1 := Frun_a.keep K1 nin0
  have Vp_1 := Vp.keep K1 nin0
  have Vt_1 := Vt.keep K1 nin0
  obtain ⟨fa, rfl, szf, fb, Vf, hfb⟩ := Q1
  have sz_fa : h0.size ≤ fa := Nat.le_trans X0.size szf
  have ne_a_fa : a ≠ fa := Nat.ne_of_lt (Nat.lt_of_lt_of_le E_a.lt szf)
  have ne_pa_fa : pa ≠ fa := Nat.ne_of_lt (Nat.lt_of_lt_of_le Vp.lt szf)
  have ne_ta_fa : ta ≠ fa := Nat.ne_of_lt (Nat.lt_of_lt_of_le Vt.lt szf)
  show Runs p e below (T1.setTop (mkF m 8 #[.val (.ref a), .val (.ref pa), .val (.ref ta)] [(.ref fa), (.ref ta), (.ref pa), (.ref a)])) _
  refine X1.special (pc' := 11) (W := 0) (a := a) (argsL := [(.ref pa), (.ref ta), (.ref fa)]) (rest := []) (ctA3 l Z a0 hw a pa ta fa P (own_tb P n) fb n h1 E_a_1 Fpattern_a_1 Ftable_a_1 Ffallback_a_1 FpairSteps_a_1 FafterHit_a_1 Frun_a_1 Vp_1 Vt_1 Vf hn hP hfb hpa hta (Ne.symm ne_a_fa)) rfl (wd_26 hw) (wd_27 hw) (wd_12 hw) (wd_28 hw) (by decide) pd_6 rfl rfl rfl rfl d5_8 rfl (by decide) rfl (by decide) (by decide) (by decide) ((allS (Or.inl (by simp)) all0)) (fun T2 h2 v2 X2 K2 Q2 => ?_)
  have E_a_2 := E_a_1.keep K2
  have Vp_2 := Vp_1.keep K2 (ninS hpa nin0)
  have Vt_2 := Vt_1.keep K2 (ninS hta nin0)
  have Vf_2 := Vf.keep K2 (ninS (Ne.symm ne_a_fa) nin0)
  obtain ⟨rfl, QQ⟩ := Q2
  show Runs p e below (T2.setTop (mkF m 11 #[.val (.ref a), .val (.ref pa), .val (.ref ta)] [])) _
  exact X2.vreturn rfl d5_11 (by decide) (by decide) ⟨rfl, QQ⟩
set_option maxRecDepth 65536 in
set_option maxHeartbeats 40000000 in
theorem ctA1 (l : Launch) (Z : State) (a0 : Array Value) (hw : ∀ d ∈ tables_1, d.before a0 Z = true) (a pa : Addr) (P : Nat → Int32) (n : Nat) (h0 : Heap) (E_a : Exa Z h0 a "com/example/rummage/rummage/Automaton") (Fpattern_a : Fld Z h0 a "com/example/rummage/rummage/Automaton" "pattern" "[I" .null) (Ftable_a : Fld Z h0 a "com/example/rummage/rummage/Automaton" "table" "[I" .null) (Ffallback_a : Fld Z h0 a "com/example/rummage/rummage/Automaton" "fallback" "[I" .null) (FpairSteps_a : Fld Z h0 a "com/example/rummage/rummage/Automaton" "pairSteps" "Lcom/example/rummage/rummage/PairSteps;" .null) (FafterHit_a : Fld Z h0 a "com/example/rummage/rummage/Automaton" "afterHit" "I" (.int (0 : Int32))) (Frun_a : Fld Z h0 a "com/example/rummage/rummage/Automaton" "run" "I" (.int (0 : Int32))) (Vp : Lst Z h0 pa .int (own_tn n P)) (hn : n ≤ 6) (hP : ∀ t, t < n → 0 ≤ (P t).toInt) (hpa : pa ≠ a) :
    Ct l Z y3 prog_1_method_1_code 2 none ({ frames := 7, cells := 7, slots := 666, locals := 3108 } : Room) #[(.ref a), (.ref pa)] h0 [a] (fun v h => v = none ∧ ∃ ta, Exa Z h a "com/example/rummage/rummage/Automaton" ∧ Fld Z h a "com/example/rummage/rummage/Automaton" "pattern" "[I" (.ref pa) ∧ Fld Z h a "com/example/rummage/rummage/Automaton" "table" "[I" (.ref ta) ∧ Lst Z h ta .int (own_tn n (own_tb P n))) := by
  refine Ct.of (plainFor_of_name (by first | (simp [plainName, overriddenIn]; done) | decide +kernel)) ?_
  intro p e s m below meth c T0 X0
  refine Runs.top (g' := mkF m 0 #[.val (.ref a), .val (.ref pa)] []) (by first | (simp [entryFrame, mkF, argsToLocals, Value.category]; done) | rfl) ?_
  refine X0.aloadN (pc' := 1) d3_0 rfl rfl rfl ?_
  refine X0.aloadN (pc' := 2) d3_1 rfl rfl rfl ?_
  refine X0.aloadN (pc' := 3) d3_2 rfl rfl rfl ?_
  refine X0.callS (pc' := 6) (W := 2) (argsL := [(.ref pa)]) (rest := [(.ref pa), (.ref a)]) (ctOf l Z a0 hw pa P n h0 hn Vp) (wd_16 hw) (wd_17 hw) (wd_18 hw) (wd_19 hw) (by decide) pd_7 rfl rfl rfl rfl d3_3 rfl (by decide) rfl (by decide) (by decide) (by decide) allWs0 (fun T1 h1 v1 X1 K1 Q1 => ?_)
  have E_a_1 := E_a.keep K1
  have Fpattern_a_1 := Fpattern_a.keep K1 nin0
  have Ftable_a_1 := Ftable_a.keep K1 nin0
  have Ffallback_a_1 := Ffallback_a.keep K1 nin0
  have FpairSteps_a_1 := FpairSteps_a.keep K1 nin0
  have FafterHit_a_1 := FafterHit_a.keep K1 nin0
  have Frun_a_1 := Frun_a.keep K1 nin0
  have Vp_1 := Vp.keep K1 nin0
  obtain ⟨ta, rfl, szt, Vt⟩ := Q1
  have sz_ta : h0.size ≤ ta := Nat.le_trans X0.size szt
  have ne_a_ta : a ≠ ta := Nat.ne_of_lt (Nat.lt_of_lt_of_le E_a.lt szt)
  have ne_pa_ta : pa ≠ ta := Nat.ne_of_lt (Nat.lt_of_lt_of_le Vp.lt szt)
  show Runs p e below (T1.setTop (mkF m 6 #[.val (.ref a), .val (.ref pa)] [(.ref ta), (.ref pa), (.ref a)])) _
  refine X1.special (pc' := 9) (W := 0) (a := a) (argsL := [(.ref pa), (.ref ta)]) (rest := []) (ctA2 l Z a0 hw a pa ta P n h1 E_a_1 Fpattern_a_1 Ftable_a_1 Ffallback_a_1 FpairSteps_a_1 FafterHit_a_1 Frun_a_1 Vp_1 Vt hn hP hpa (Ne.symm ne_a_ta)) rfl (wd_20 hw) (wd_21 hw) (wd_12 hw) (wd_22 hw) (by decide) pd_8 rfl rfl rfl rfl d3_6 rfl (by decide) rfl (by decide) (by decide) (by decide) ((allS (Or.inl (by simp)) all0)) (fun T2 h2 v2 X2 K2 Q2 => ?_)
  have E_a_2 := E_a_1.keep K2
  have Vp_2 := Vp_1.keep K2 (ninS hpa nin0)
  have Vt_2 := Vt.keep K2 (ninS (Ne.symm ne_a_ta) nin0)
  obtain ⟨rfl, QQ⟩ := Q2
  show Runs p e below (T2.setTop (mkF m 9 #[.val (.ref a), .val (.ref pa)] [])) _
  exact X2.vreturn rfl d3_9 (by decide) (by decide) ⟨rfl, ta, QQ.1, QQ.2.1, QQ.2.2, Vt_2⟩
set_option maxRecDepth 65536 in
set_option maxHeartbeats 40000000 in
theorem ctBd (l : Launch) (Z : State) (a0 : Array Value) (hw : ∀ d ∈ tables_1, d.before a0 Z = true) (a pa ta : Addr) (P F : Nat → Int32) (n : Nat) (h0 : Heap) (Fp : Fld Z h0 a "com/example/rummage/rummage/Automaton" "pattern" "[I" (.ref pa)) (Ft : Fld Z h0 a "com/example/rummage/rummage/Automaton" "table" "[I" (.ref ta)) (Vp : Lst Z h0 pa .int (own_tn n P)) (Vt : Lst Z h0 ta .int (own_tn n F)) (hn : n ≤ 6) :
    Ct l Z y12 prog_1_method_9_code 1 (some .int) ({ frames := 0, cells := 0, slots := 0, locals := 0 } : Room) #[(.ref a)] h0 [] (fun v h => v = some (.int (if (0 : Int32) < n.toInt32 then F (n - 1) else (0 : Int32))) ∧ h0 = h) := by
  refine Ct.of (plainFor_of_name (by first | (simp [plainName, overriddenIn]; done) | decide +kernel)) ?_
  intro p e s m below meth c T0 X0
  refine Runs.top (g' := mkF m 0 #[.val (.ref a)] []) (by first | (simp [entryFrame, mkF, argsToLocals, Value.category]; done) | rfl) ?_
  refine X0.aloadN (pc' := 1) d12_0 rfl rfl rfl ?_
  refine X0.getfield (pc' := 4) (host := "") (Or.inl (wd_43 hw)) Via.refl Fp d12_1 rfl (fun T1 X1 => ?_)
  refine X1.arraylength (pc' := 5) (n := n.toInt32) Vp (by rw [own_tn_len]) d12_4 rfl ?_
  by_cases hc2 : (0 : Int32) < n.toInt32
  · refine X1.ifNo (pc' := 8) d12_5 (tlt hc2).2.2.2 rfl ?_
    refine X1.aloadN (pc' := 9) d12_8 rfl rfl rfl ?_
    refine X1.getfield (pc' := 12) (host := "") (Or.inl (wd_45 hw)) Via.refl Ft d12_9 rfl (fun T3 X3 => ?_)
    refine X3.aloadN (pc' := 13) d12_12 rfl rfl rfl ?_
    refine X3.getfield (pc' := 16) (host := "") (Or.inl (wd_43 hw)) Via.refl Fp d12_13 rfl (fun T4 X4 => ?_)
    refine X4.arraylength (pc' := 17) (n := n.toInt32) Vp (by rw [own_tn_len]) d12_16 rfl ?_
    refine X4.iconst (pc' := 18) (z := 1) d12_17 rfl rfl ?_
    refine X4.isub (pc' := 19) d12_18 rfl ?_
    refine X4.iaload (pc' := 20) (v := (.int (F (n - 1)))) Vt (own_il (own_dec (own_p0 hc2) (by omega)) (own_p1 hc2)) (own_tn_at (own_ilt (own_dec (own_p0 hc2) (by omega))) (own_p1 hc2)) d12_19 rfl ?_
    refine X4.goto (pc' := 24) d12_20 (by decide) (by decide) ?_
    exact X4.ireturn rfl d12_24 (by decide) (by decide) ⟨by rw [if_pos hc2], rfl⟩
  · refine X1.ifYes (pc' := 23) d12_5 (flt hc2).2.2.2 (by decide) (by decide) ?_
    refine X1.iconst (pc' := 24) (z := 0) d12_23 rfl rfl ?_
    exact X1.ireturn rfl d12_24 (by decide) (by decide) ⟨by rw [if_neg hc2], rfl⟩
def own_pf (s0 s1 s2 s3 s4 s5 : Int32) : Nat → Int32
  | 0 => s0
  | 1 => s1
  | 2 => s2
  | 3 => s3
  | 4 => s4
  | _ => s5
theorem own_pf5 (s0 s1 s2 s3 s4 s5 : Int32) : ∀ i, 5 ≤ i → own_pf s0 s1 s2 s3 s4 s5 i = own_pf s0 s1 s2 s3 s4 s5 5
  | 0, h | 1, h | 2, h | 3, h | 4, h => absurd h (by decide)
  | n + 5, _ => rfl
theorem own_pfn {s0 s1 s2 s3 s4 s5 : Int32} (h0 : 0 ≤ s0.toInt) (h1 : 0 ≤ s1.toInt) (h2 : 0 ≤ s2.toInt) (h3 : 0 ≤ s3.toInt) (h4 : 0 ≤ s4.toInt) (h5 : 0 ≤ s5.toInt) : ∀ t, 0 ≤ (own_pf s0 s1 s2 s3 s4 s5 t).toInt
  | 0 => h0
  | 1 => h1
  | 2 => h2
  | 3 => h3
  | 4 => h4
  | _ + 5 => h5
theorem own_sev (q : Int32) : ∃ n : Nat, n ≤ 6 ∧ (q &&& (2147483647 : Int32)) % (7 : Int32) = n.toInt32 := by
  have h1 := c_mask q (2147483647 : Int32) 31 (by decide) (by decide)
  have h2 := (c_iremV (q &&& (2147483647 : Int32)) (7 : Int32)).1 (by omega) (by decide)
  rw [show (7 : Int32).toInt = 7 from rfl] at h2
  refine ⟨((q &&& (2147483647 : Int32)) % (7 : Int32)).toInt.toNat, by omega, ?_⟩
  rw [← Int32.toInt_inj, own_i32 (by omega)]; omega
theorem own_ch (x : Int32) : 0 ≤ (x &&& (65535 : Int32)).toInt := by
  have h := c_mask x (65535 : Int32) 16 (by decide) (by decide)
  omega
def own_brd (P : Nat → Int32) (n k : Nat) : Prop := k < n ∧ own_eqs (own_eqf P) (n - 1) k = true
theorem own_end {P : Nat → Int32} (hp : ∀ i, 5 ≤ i → P i = P 5) {n r : Nat} (hn : n ≤ 6) (h : (if 5 < n ∧ own_eqs (own_eqf P) (n - 1) 5 = true then 5 else if 4 < n ∧ own_eqs (own_eqf P) (n - 1) 4 = true then 4 else if 3 < n ∧ own_eqs (own_eqf P) (n - 1) 3 = true then 3 else if 2 < n ∧ own_eqs (own_eqf P) (n - 1) 2 = true then 2 else if 1 < n ∧ own_eqs (own_eqf P) (n - 1) 1 = true then 1 else 0) = r) :
    (if (0 : Int32) < n.toInt32 then own_tb P n (n - 1) else (0 : Int32)) = r.toInt32 := by
  by_cases h0 : (0 : Int32) < n.toInt32
  · rw [if_pos h0]
    have hn0 := own_p0 h0
    unfold own_tb
    rw [own_tab_bd P hp (by omega : n - 1 ≤ 5) (Nat.le_refl _)]
    congr 1
    rw [← h]
    unfold own_bd
    simp only [show ∀ k, (k + 1 ≤ n - 1 ↔ k + 1 < n) from fun k => by omega, show (5 ≤ n - 1 ↔ 5 < n) by omega, show (4 ≤ n - 1 ↔ 4 < n) by omega, show (3 ≤ n - 1 ↔ 3 < n) by omega, show (2 ≤ n - 1 ↔ 2 < n) by omega, show (1 ≤ n - 1 ↔ 1 < n) by omega]
  · rw [if_neg h0]
    have hn0 : n = 0 := by
      rcases Nat.eq_zero_or_pos n with q | q
      · exact q
      · refine absurd ?_ h0
        rw [Int32.lt_iff_toInt_lt, own_i32 (by omega), show (0 : Int32).toInt = 0 from rfl]; omega
    subst hn0
    simp at h
    subst h
    rfl

set_option maxRecDepth 65536 in
set_option maxHeartbeats 40000000 in
theorem ct0 (l : Launch) (Z : State) (a0 : Array Value) (hw : ∀ d ∈ tables_1, d.before a0 Z = true) (i0 i1 i2 i3 : Int32) (h0 : Heap)  :
    Ct l Z x code maxLocals ret room_1 #[(.int i0), (.int i1), (.int i2), (.int i3)] h0 [] (fun v h => v = some (.int 1)) := by
  refine Ct.of (plainFor_of_name (by first | (simp [plainName, overriddenIn]; done) | decide +kernel)) ?_
  intro p e s m below meth c T0 X0
  refine Runs.top (g' := mkF m 0 #[.val (.int i0), .val (.int i1), .val (.int i2), .val (.int i3), .unset, .unset, .unset, .unset, .unset, .unset, .unset] []) (by first | (simp [entryFrame, mkF, argsToLocals, Value.category, maxLocals]; done) | rfl) ?_
  refine X0.iloadN (pc' := 1) at_0 rfl rfl ?_
  refine X0.ldcInt (pc' := 3) (wd_0 hw) at_1 rfl ?_
  refine X0.iand (pc' := 4) at_3 rfl ?_
  refine X0.bipush (pc' := 6) (z := 7) at_4 rfl rfl ?_
  refine X0.irem (pc' := 7) at_6 (by decide) rfl ?_
  obtain ⟨n, hn, en⟩ := own_sev i0
  rw [en]
  refine X0.istore (pc' := 9) (l' := #[.val (.int i0), .val (.int i1), .val (.int i2), .val (.int i3), .val (.int n.toInt32), .unset, .unset, .unset, .unset, .unset, .unset]) at_7 rfl rfl ?_
  refine X0.iloadN (pc' := 10) at_9 rfl rfl ?_
  refine X0.ldcInt (pc' := 12) (wd_1 hw) at_10 rfl ?_
  refine X0.iand (pc' := 13) at_12 rfl ?_
  refine X0.istore (pc' := 15) (l' := #[.val (.int i0), .val (.int i1), .val (.int i2), .val (.int i3), .val (.int n.toInt32), .val (.int (i2 &&& (65535 : Int32))), .unset, .unset, .unset, .unset, .unset]) at_13 rfl rfl ?_
  refine X0.iloadN (pc' := 16) at_15 rfl rfl ?_
  refine X0.ldcInt (pc' := 18) (wd_1 hw) at_16 rfl ?_
  refine X0.iand (pc' := 19) at_18 rfl ?_
  refine X0.istore (pc' := 21) (l' := #[.val (.int i0), .val (.int i1), .val (.int i2), .val (.int i3), .val (.int n.toInt32), .val (.int (i2 &&& (65535 : Int32))), .val (.int (i3 &&& (65535 : Int32))), .unset, .unset, .unset, .unset]) at_19 rfl rfl ?_
  refine X0.bipush (pc' := 23) (z := 6) at_21 rfl rfl ?_
  refine X0.newarray (pc' := 25) (ty := .int) rfl (wd_2 hw) at_23 rfl (cap := 6) ⟨by decide, by decide⟩ (by decide) (by decide) (by decide) (fun T1 h1 b1 X1 g1 E1 V1 => ?_)
  have sz_b1 : h0.size ≤ b1 := g1 ▸ X0.size
  have V1' : Lst Z h1 b1 .int [(.int (0 : Int32)), (.int (0 : Int32)), (.int (0 : Int32)), (.int (0 : Int32)), (.int (0 : Int32)), (.int (0 : Int32))] := V1
  refine X1.astore (pc' := 27) (l' := #[.val (.int i0), .val (.int i1), .val (.int i2), .val (.int i3), .val (.int n.toInt32), .val (.int (i2 &&& (65535 : Int32))), .val (.int (i3 &&& (65535 : Int32))), .val (.ref b1), .unset, .unset, .unset]) at_25 rfl rfl rfl ?_
  refine X1.aload (pc' := 29) at_27 rfl rfl rfl ?_
  refine X1.iconst (pc' := 30) (z := 0) at_29 rfl rfl ?_
  refine X1.iloadN (pc' := 31) at_30 rfl rfl ?_
  refine X1.iconst (pc' := 32) (z := 1) at_31 rfl rfl ?_
  refine X1.iand (pc' := 33) at_32 rfl ?_
  have KK0 : ∀ v0 : Int32, 0 ≤ v0.toInt → Runs p e below (T1.setTop (mkF m 43 #[.val (.int i0), .val (.int i1), .val (.int i2), .val (.int i3), .val (.int n.toInt32), .val (.int (i2 &&& (65535 : Int32))), .val (.int (i3 &&& (65535 : Int32))), .val (.ref b1), .unset, .unset, .unset] [(.int v0), (.int (0 : Int32)), (.ref b1)])) (Jvm.Own.Out s h0 [] room_1 (fun v h => v = some (.int 1))) := by
    intro v0 hv0
    refine X1.iastore (pc' := 44) V1' (show Inb (0 : Int32) 6 from ⟨by decide, by decide⟩) at_43 rfl (Or.inr sz_b1) (fun T2 h2 X2 W2 => ?_)
    have V2 : Lst Z h2 b1 .int [(.int v0), (.int (0 : Int32)), (.int (0 : Int32)), (.int (0 : Int32)), (.int (0 : Int32)), (.int (0 : Int32))] := V1'.set W2
    refine X2.aload (pc' := 46) at_44 rfl rfl rfl ?_
    refine X2.iconst (pc' := 47) (z := 1) at_46 rfl rfl ?_
    refine X2.iloadN (pc' := 48) at_47 rfl rfl ?_
    refine X2.iconst (pc' := 49) (z := 2) at_48 rfl rfl ?_
    refine X2.iand (pc' := 50) at_49 rfl ?_
    have KK1 : ∀ v1 : Int32, 0 ≤ v1.toInt → Runs p e below (T2.setTop (mkF m 60 #[.val (.int i0), .val (.int i1), .val (.int i2), .val (.int i3), .val (.int n.toInt32), .val (.int (i2 &&& (65535 : Int32))), .val (.int (i3 &&& (65535 : Int32))), .val (.ref b1), .unset, .unset, .unset] [(.int v1), (.int (1 : Int32)), (.ref b1)])) (Jvm.Own.Out s h0 [] room_1 (fun v h => v = some (.int 1))) := by
      intro v1 hv1
      refine X2.iastore (pc' := 61) V2 (show Inb (1 : Int32) 6 from ⟨by decide, by decide⟩) at_60 rfl (Or.inr sz_b1) (fun T3 h3 X3 W3 => ?_)
      have V3 : Lst Z h3 b1 .int [(.int v0), (.int v1), (.int (0 : Int32)), (.int (0 : Int32)), (.int (0 : Int32)), (.int (0 : Int32))] := V2.set W3
      refine X3.aload (pc' := 63) at_61 rfl rfl rfl ?_
      refine X3.iconst (pc' := 64) (z := 2) at_63 rfl rfl ?_
      refine X3.iloadN (pc' := 65) at_64 rfl rfl ?_
      refine X3.iconst (pc' := 66) (z := 4) at_65 rfl rfl ?_
      refine X3.iand (pc' := 67) at_66 rfl ?_
      have KK2 : ∀ v2 : Int32, 0 ≤ v2.toInt → Runs p e below (T3.setTop (mkF m 77 #[.val (.int i0), .val (.int i1), .val (.int i2), .val (.int i3), .val (.int n.toInt32), .val (.int (i2 &&& (65535 : Int32))), .val (.int (i3 &&& (65535 : Int32))), .val (.ref b1), .unset, .unset, .unset] [(.int v2), (.int (2 : Int32)), (.ref b1)])) (Jvm.Own.Out s h0 [] room_1 (fun v h => v = some (.int 1))) := by
        intro v2 hv2
        refine X3.iastore (pc' := 78) V3 (show Inb (2 : Int32) 6 from ⟨by decide, by decide⟩) at_77 rfl (Or.inr sz_b1) (fun T4 h4 X4 W4 => ?_)
        have V4 : Lst Z h4 b1 .int [(.int v0), (.int v1), (.int v2), (.int (0 : Int32)), (.int (0 : Int32)), (.int (0 : Int32))] := V3.set W4
        refine X4.aload (pc' := 80) at_78 rfl rfl rfl ?_
        refine X4.iconst (pc' := 81) (z := 3) at_80 rfl rfl ?_
        refine X4.iloadN (pc' := 82) at_81 rfl rfl ?_
        refine X4.bipush (pc' := 84) (z := 8) at_82 rfl rfl ?_
        refine X4.iand (pc' := 85) at_84 rfl ?_
        have KK3 : ∀ v3 : Int32, 0 ≤ v3.toInt → Runs p e below (T4.setTop (mkF m 95 #[.val (.int i0), .val (.int i1), .val (.int i2), .val (.int i3), .val (.int n.toInt32), .val (.int (i2 &&& (65535 : Int32))), .val (.int (i3 &&& (65535 : Int32))), .val (.ref b1), .unset, .unset, .unset] [(.int v3), (.int (3 : Int32)), (.ref b1)])) (Jvm.Own.Out s h0 [] room_1 (fun v h => v = some (.int 1))) := by
          intro v3 hv3
          refine X4.iastore (pc' := 96) V4 (show Inb (3 : Int32) 6 from ⟨by decide, by decide⟩) at_95 rfl (Or.inr sz_b1) (fun T5 h5 X5 W5 => ?_)
          have V5 : Lst Z h5 b1 .int [(.int v0), (.int v1), (.int v2), (.int v3), (.int (0 : Int32)), (.int (0 : Int32))] := V4.set W5
          refine X5.aload (pc' := 98) at_96 rfl rfl rfl ?_
          refine X5.iconst (pc' := 99) (z := 4) at_98 rfl rfl ?_
          refine X5.iloadN (pc' := 100) at_99 rfl rfl ?_
          refine X5.bipush (pc' := 102) (z := 16) at_100 rfl rfl ?_
          refine X5.iand (pc' := 103) at_102 rfl ?_
          have KK4 : ∀ v4 : Int32, 0 ≤ v4.toInt → Runs p e below (T5.setTop (mkF m 113 #[.val (.int i0), .val (.int i1), .val (.int i2), .val (.int i3), .val (.int n.toInt32), .val (.int (i2 &&& (65535 : Int32))), .val (.int (i3 &&& (65535 : Int32))), .val (.ref b1), .unset, .unset, .unset] [(.int v4), (.int (4 : Int32)), (.ref b1)])) (Jvm.Own.Out s h0 [] room_1 (fun v h => v = some (.int 1))) := by
            intro v4 hv4
            refine X5.iastore (pc' := 114) V5 (show Inb (4 : Int32) 6 from ⟨by decide, by decide⟩) at_113 rfl (Or.inr sz_b1) (fun T6 h6 X6 W6 => ?_)
            have V6 : Lst Z h6 b1 .int [(.int v0), (.int v1), (.int v2), (.int v3), (.int v4), (.int (0 : Int32))] := V5.set W6
            refine X6.aload (pc' := 116) at_114 rfl rfl rfl ?_
            refine X6.iconst (pc' := 117) (z := 5) at_116 rfl rfl ?_
            refine X6.iloadN (pc' := 118) at_117 rfl rfl ?_
            refine X6.bipush (pc' := 120) (z := 32) at_118 rfl rfl ?_
            refine X6.iand (pc' := 121) at_120 rfl ?_
            have KK5 : ∀ v5 : Int32, 0 ≤ v5.toInt → Runs p e below (T6.setTop (mkF m 131 #[.val (.int i0), .val (.int i1), .val (.int i2), .val (.int i3), .val (.int n.toInt32), .val (.int (i2 &&& (65535 : Int32))), .val (.int (i3 &&& (65535 : Int32))), .val (.ref b1), .unset, .unset, .unset] [(.int v5), (.int (5 : Int32)), (.ref b1)])) (Jvm.Own.Out s h0 [] room_1 (fun v h => v = some (.int 1))) := by
              intro v5 hv5
              refine X6.iastore (pc' := 132) V6 (show Inb (5 : Int32) 6 from ⟨by decide, by decide⟩) at_131 rfl (Or.inr sz_b1) (fun T7 h7 X7 W7 => ?_)
              have V7 : Lst Z h7 b1 .int [(.int v0), (.int v1), (.int v2), (.int v3), (.int v4), (.int v5)] := V6.set W7
              obtain ⟨P, hPd⟩ : ∃ P, P = (own_pf v0 v1 v2 v3 v4 v5) := ⟨_, rfl⟩
              have VsP : Lst Z h7 b1 .int (own_tn 6 P) := by rw [hPd]; exact V7
              have hP5 : ∀ i, 5 ≤ i → P i = P 5 := by rw [hPd]; exact own_pf5 _ _ _ _ _ _
              have hPn : ∀ t, 0 ≤ (P t).toInt := by rw [hPd]; exact own_pfn hv0 hv1 hv2 hv3 hv4 hv5
              refine X7.aload (pc' := 134) at_132 rfl rfl rfl ?_
              refine X7.iload (pc' := 136) at_134 rfl rfl ?_
              refine X7.callS (pc' := 139) (W := 0) (argsL := [(.ref b1), (.int n.toInt32)]) (rest := []) (ctMk l Z a0 hw b1 P n h7 VsP hn) (wd_3 hw) (wd_4 hw) (wd_5 hw) (wd_6 hw) (by decide) pd_9 rfl rfl rfl rfl at_136 rfl (by decide) rfl (by decide) (by decide) (by decide) allWs0 (fun T8 h8 v8 X8 K8 Q8 => ?_)
              have VsP_8 := VsP.keep K8 nin0
              obtain ⟨pa, rfl, szp, Vp⟩ := Q8
              have sz_pa : h0.size ≤ pa := Nat.le_trans X7.size szp
              have ne_b1_pa : b1 ≠ pa := Nat.ne_of_lt (Nat.lt_of_lt_of_le VsP.lt szp)
              show Runs p e below (T8.setTop (mkF m 139 #[.val (.int i0), .val (.int i1), .val (.int i2), .val (.int i3), .val (.int n.toInt32), .val (.int (i2 &&& (65535 : Int32))), .val (.int (i3 &&& (65535 : Int32))), .val (.ref b1), .unset, .unset, .unset] [(.ref pa)])) _
              refine X8.astore (pc' := 141) (l' := #[.val (.int i0), .val (.int i1), .val (.int i2), .val (.int i3), .val (.int n.toInt32), .val (.int (i2 &&& (65535 : Int32))), .val (.int (i3 &&& (65535 : Int32))), .val (.ref b1), .val (.ref pa), .unset, .unset]) at_139 rfl rfl rfl ?_
              refine X8.aload (pc' := 143) at_141 rfl rfl rfl ?_
              refine X8.iload (pc' := 145) at_143 rfl rfl ?_
              refine X8.iconst (pc' := 146) (z := 5) at_145 rfl rfl ?_
              refine X8.callS (pc' := 149) (W := 0) (argsL := [(.ref b1), (.int n.toInt32), (.int (5 : Int32))]) (rest := []) (ctIs5 l Z a0 hw b1 P n h8 VsP_8 hn) (wd_7 hw) (wd_8 hw) (wd_5 hw) (wd_9 hw) (by decide) pd_10 rfl rfl rfl rfl at_146 rfl (by decide) rfl (by decide) (by decide) (by decide) allWs0 (fun T9 h9 v9 X9 K9 Q9 => ?_)
              obtain ⟨rfl, rfl⟩ := Q9
              show Runs p e below (T9.setTop (mkF m 149 #[.val (.int i0), .val (.int i1), .val (.int i2), .val (.int i3), .val (.int n.toInt32), .val (.int (i2 &&& (65535 : Int32))), .val (.int (i3 &&& (65535 : Int32))), .val (.ref b1), .val (.ref pa), .unset, .unset] [(.int (if 5 < n ∧ own_eqs (own_eqf P) (n - 1) 5 = true then (1 : Int32) else 0))])) _
              by_cases hc10 : 5 < n ∧ own_eqs (own_eqf P) (n - 1) 5 = true
              · refine X9.ifNo (pc' := 152) at_149 (by rw [if_pos hc10]; decide) rfl ?_
                refine X9.iconst (pc' := 153) (z := 5) at_152 rfl rfl ?_
                refine X9.goto (pc' := 217) at_153 (by decide) (by decide) ?_
                refine X9.istore (pc' := 219) (l' := #[.val (.int i0), .val (.int i1), .val (.int i2), .val (.int i3), .val (.int n.toInt32), .val (.int (i2 &&& (65535 : Int32))), .val (.int (i3 &&& (65535 : Int32))), .val (.ref b1), .val (.ref pa), .val (.int (5 : Int32)), .unset]) at_217 rfl rfl ?_
                refine X9.new (pc' := 222) (wd_10 hw) (wd_11 hw) (wd_12 hw) at_219 rfl (by decide) (by decide) (fun T11 h11 b11 X11 g11 E11 A11 D11 => ?_)
                have sz_b11 : h0.size ≤ b11 := g11 ▸ X9.size
                have ne_b1_b11 : b1 ≠ b11 := Nat.ne_of_lt (g11 ▸ VsP_8.lt)
                have ne_pa_b11 : pa ≠ b11 := Nat.ne_of_lt (g11 ▸ Vp.lt)
                have VsP_11 := VsP_8.ext E11
                have Vp_11 := Vp.ext E11
                have Fpattern_b11 : Fld Z h11 b11 "com/example/rummage/rummage/Automaton" "pattern" "[I" .null := D11 (Or.inr (wd_44 hw)) (ty := (.array .int)) (by decide)
                have Ftable_b11 : Fld Z h11 b11 "com/example/rummage/rummage/Automaton" "table" "[I" .null := D11 (Or.inr (wd_46 hw)) (ty := (.array .int)) (by decide)
                have Ffallback_b11 : Fld Z h11 b11 "com/example/rummage/rummage/Automaton" "fallback" "[I" .null := D11 (Or.inr (wd_48 hw)) (ty := (.array .int)) (by decide)
                have FpairSteps_b11 : Fld Z h11 b11 "com/example/rummage/rummage/Automaton" "pairSteps" "Lcom/example/rummage/rummage/PairSteps;" .null := D11 (Or.inr (wd_50 hw)) (ty := (.object "com/example/rummage/rummage/PairSteps")) (by decide)
                have FafterHit_b11 : Fld Z h11 b11 "com/example/rummage/rummage/Automaton" "afterHit" "I" (.int (0 : Int32)) := D11 (Or.inr (wd_52 hw)) (ty := .int) (by decide)
                have Frun_b11 : Fld Z h11 b11 "com/example/rummage/rummage/Automaton" "run" "I" (.int (0 : Int32)) := D11 (Or.inr (wd_57 hw)) (ty := .int) (by decide)
                refine X11.dup (pc' := 223) at_222 rfl rfl ?_
                refine X11.aload (pc' := 225) at_223 rfl rfl rfl ?_
                refine X11.special (pc' := 228) (W := 1) (a := b11) (argsL := [(.ref pa)]) (rest := [(.ref b11)]) (ctA1 l Z a0 hw b11 pa P n h11 A11 Fpattern_b11 Ftable_b11 Ffallback_b11 FpairSteps_b11 FafterHit_b11 Frun_b11 Vp_11 hn (fun t _ => hPn t) ne_pa_b11) rfl (wd_13 hw) (wd_14 hw) (wd_12 hw) (wd_15 hw) (by decide) pd_11 rfl rfl rfl rfl at_225 rfl (by decide) rfl (by decide) (by decide) (by decide) ((allS (Or.inr sz_b11) all0)) (fun T12 h12 v12 X12 K12 Q12 => ?_)
                have VsP_12 := VsP_11.keep K12 (ninS ne_b1_b11 nin0)
                have Vp_12 := Vp_11.keep K12 (ninS ne_pa_b11 nin0)
                have A11_12 := A11.keep K12
                obtain ⟨rfl, ta, Ea, Fp, Ft, Vt⟩ := Q12
                show Runs p e below (T12.setTop (mkF m 228 #[.val (.int i0), .val (.int i1), .val (.int i2), .val (.int i3), .val (.int n.toInt32), .val (.int (i2 &&& (65535 : Int32))), .val (.int (i3 &&& (65535 : Int32))), .val (.ref b1), .val (.ref pa), .val (.int (5 : Int32)), .unset] [(.ref b11)])) _
                refine X12.astore (pc' := 230) (l' := #[.val (.int i0), .val (.int i1), .val (.int i2), .val (.int i3), .val (.int n.toInt32), .val (.int (i2 &&& (65535 : Int32))), .val (.int (i3 &&& (65535 : Int32))), .val (.ref b1), .val (.ref pa), .val (.int (5 : Int32)), .val (.ref b11)]) at_228 rfl rfl rfl ?_
                refine X12.aload (pc' := 232) at_230 rfl rfl rfl ?_
                have eR := own_end hP5 hn (r := 5) (by rw [if_pos hc10])
                refine X12.virtual (pc' := 235) (W := 0) (a := b11) (argsL := []) (rest := []) (ctBd l Z a0 hw b11 pa ta P (own_tb P n) n h12 Fp Ft Vp_12 Vt hn) (wd_58 hw) (wd_59 hw) (fun _ q => notFace_of_selects q) (wd_61 hw) (wd_60 hw) (wd_12 hw) (wd_62 hw) (by decide) Ea pd_12 rfl rfl rfl rfl at_232 rfl (by decide) rfl (by decide) (by decide) (by decide) allWs0 (fun T13 h13 v13 X13 K13 Q13 => ?_)
                obtain ⟨eV13, rfl⟩ := Q13
                rw [eR] at eV13
                obtain rfl := eV13
                show Runs p e below (T13.setTop (mkF m 235 #[.val (.int i0), .val (.int i1), .val (.int i2), .val (.int i3), .val (.int n.toInt32), .val (.int (i2 &&& (65535 : Int32))), .val (.int (i3 &&& (65535 : Int32))), .val (.ref b1), .val (.ref pa), .val (.int (5 : Int32)), .val (.ref b11)] [(.int (5 : Int32))])) _
                refine X13.iload (pc' := 237) at_235 rfl rfl ?_
                refine X13.icmpNo (pc' := 240) at_237 (by decide) rfl ?_
                refine X13.iconst (pc' := 241) (z := 1) at_240 rfl rfl ?_
                refine X13.goto (pc' := 245) at_241 (by decide) (by decide) ?_
                exact X13.zreturn (z' := (1 : Int32)) rfl (by simp) at_245 rfl (by decide) (by decide) rfl
              · refine X9.ifYes (pc' := 156) at_149 (by rw [if_neg hc10]; decide) (by decide) (by decide) ?_
                refine X9.aload (pc' := 158) at_156 rfl rfl rfl ?_
                refine X9.iload (pc' := 160) at_158 rfl rfl ?_
                refine X9.iconst (pc' := 161) (z := 4) at_160 rfl rfl ?_
                refine X9.callS (pc' := 164) (W := 0) (argsL := [(.ref b1), (.int n.toInt32), (.int (4 : Int32))]) (rest := []) (ctIs4 l Z a0 hw b1 P n h8 VsP_8 hn) (wd_7 hw) (wd_8 hw) (wd_5 hw) (wd_9 hw) (by decide) pd_10 rfl rfl rfl rfl at_161 rfl (by decide) rfl (by decide) (by decide) (by decide) allWs0 (fun T14 h14 v14 X14 K14 Q14 => ?_)
                obtain ⟨rfl, rfl⟩ := Q14
                show Runs p e below (T14.setTop (mkF m 164 #[.val (.int i0), .val (.int i1), .val (.int i2), .val (.int i3), .val (.int n.toInt32), .val (.int (i2 &&& (65535 : Int32))), .val (.int (i3 &&& (65535 : Int32))), .val (.ref b1), .val (.ref pa), .unset, .unset] [(.int (if 4 < n ∧ own_eqs (own_eqf P) (n - 1) 4 = true then (1 : Int32) else 0))])) _
                by_cases hc15 : 4 < n ∧ own_eqs (own_eqf P) (n - 1) 4 = true
                · refine X14.ifNo (pc' := 167) at_164 (by rw [if_pos hc15]; decide) rfl ?_
                  refine X14.iconst (pc' := 168) (z := 4) at_167 rfl rfl ?_
                  refine X14.goto (pc' := 217) at_168 (by decide) (by decide) ?_
                  refine X14.istore (pc' := 219) (l' := #[.val (.int i0), .val (.int i1), .val (.int i2), .val (.int i3), .val (.int n.toInt32), .val (.int (i2 &&& (65535 : Int32))), .val (.int (i3 &&& (65535 : Int32))), .val (.ref b1), .val (.ref pa), .val (.int (4 : Int32)), .unset]) at_217 rfl rfl ?_
                  refine X14.new (pc' := 222) (wd_10 hw) (wd_11 hw) (wd_12 hw) at_219 rfl (by decide) (by decide) (fun T16 h16 b16 X16 g16 E16 A16 D16 => ?_)
                  have sz_b16 : h0.size ≤ b16 := g16 ▸ X14.size
                  have ne_b1_b16 : b1 ≠ b16 := Nat.ne_of_lt (g16 ▸ VsP_8.lt)
                  have ne_pa_b16 : pa ≠ b16 := Nat.ne_of_lt (g16 ▸ Vp.lt)
                  have VsP_16 := VsP_8.ext E16
                  have Vp_16 := Vp.ext E16
                  have Fpattern_b16 : Fld Z h16 b16 "com/example/rummage/rummage/Automaton" "pattern" "[I" .null := D16 (Or.inr (wd_44 hw)) (ty := (.array .int)) (by decide)
                  have Ftable_b16 : Fld Z h16 b16 "com/example/rummage/rummage/Automaton" "table" "[I" .null := D16 (Or.inr (wd_46 hw)) (ty := (.array .int)) (by decide)
                  have Ffallback_b16 : Fld Z h16 b16 "com/example/rummage/rummage/Automaton" "fallback" "[I" .null := D16 (Or.inr (wd_48 hw)) (ty := (.array .int)) (by decide)
                  have FpairSteps_b16 : Fld Z h16 b16 "com/example/rummage/rummage/Automaton" "pairSteps" "Lcom/example/rummage/rummage/PairSteps;" .null := D16 (Or.inr (wd_50 hw)) (ty := (.object "com/example/rummage/rummage/PairSteps")) (by decide)
                  have FafterHit_b16 : Fld Z h16 b16 "com/example/rummage/rummage/Automaton" "afterHit" "I" (.int (0 : Int32)) := D16 (Or.inr (wd_52 hw)) (ty := .int) (by decide)
                  have Frun_b16 : Fld Z h16 b16 "com/example/rummage/rummage/Automaton" "run" "I" (.int (0 : Int32)) := D16 (Or.inr (wd_57 hw)) (ty := .int) (by decide)
                  refine X16.dup (pc' := 223) at_222 rfl rfl ?_
                  refine X16.aload (pc' := 225) at_223 rfl rfl rfl ?_
                  refine X16.special (pc' := 228) (W := 1) (a := b16) (argsL := [(.ref pa)]) (rest := [(.ref b16)]) (ctA1 l Z a0 hw b16 pa P n h16 A16 Fpattern_b16 Ftable_b16 Ffallback_b16 FpairSteps_b16 FafterHit_b16 Frun_b16 Vp_16 hn (fun t _ => hPn t) ne_pa_b16) rfl (wd_13 hw) (wd_14 hw) (wd_12 hw) (wd_15 hw) (by decide) pd_11 rfl rfl rfl rfl at_225 rfl (by decide) rfl (by decide) (by decide) (by decide) ((allS (Or.inr sz_b16) all0)) (fun T17 h17 v17 X17 K17 Q17 => ?_)
                  have VsP_17 := VsP_16.keep K17 (ninS ne_b1_b16 nin0)
                  have Vp_17 := Vp_16.keep K17 (ninS ne_pa_b16 nin0)
                  have A16_17 := A16.keep K17
                  obtain ⟨rfl, ta, Ea, Fp, Ft, Vt⟩ := Q17
                  show Runs p e below (T17.setTop (mkF m 228 #[.val (.int i0), .val (.int i1), .val (.int i2), .val (.int i3), .val (.int n.toInt32), .val (.int (i2 &&& (65535 : Int32))), .val (.int (i3 &&& (65535 : Int32))), .val (.ref b1), .val (.ref pa), .val (.int (4 : Int32)), .unset] [(.ref b16)])) _
                  refine X17.astore (pc' := 230) (l' := #[.val (.int i0), .val (.int i1), .val (.int i2), .val (.int i3), .val (.int n.toInt32), .val (.int (i2 &&& (65535 : Int32))), .val (.int (i3 &&& (65535 : Int32))), .val (.ref b1), .val (.ref pa), .val (.int (4 : Int32)), .val (.ref b16)]) at_228 rfl rfl rfl ?_
                  refine X17.aload (pc' := 232) at_230 rfl rfl rfl ?_
                  have eR := own_end hP5 hn (r := 4) (by rw [if_neg hc10, if_pos hc15])
                  refine X17.virtual (pc' := 235) (W := 0) (a := b16) (argsL := []) (rest := []) (ctBd l Z a0 hw b16 pa ta P (own_tb P n) n h17 Fp Ft Vp_17 Vt hn) (wd_58 hw) (wd_59 hw) (fun _ q => notFace_of_selects q) (wd_61 hw) (wd_60 hw) (wd_12 hw) (wd_62 hw) (by decide) Ea pd_12 rfl rfl rfl rfl at_232 rfl (by decide) rfl (by decide) (by decide) (by decide) allWs0 (fun T18 h18 v18 X18 K18 Q18 => ?_)
                  obtain ⟨eV18, rfl⟩ := Q18
                  rw [eR] at eV18
                  obtain rfl := eV18
                  show Runs p e below (T18.setTop (mkF m 235 #[.val (.int i0), .val (.int i1), .val (.int i2), .val (.int i3), .val (.int n.toInt32), .val (.int (i2 &&& (65535 : Int32))), .val (.int (i3 &&& (65535 : Int32))), .val (.ref b1), .val (.ref pa), .val (.int (4 : Int32)), .val (.ref b16)] [(.int (4 : Int32))])) _
                  refine X18.iload (pc' := 237) at_235 rfl rfl ?_
                  refine X18.icmpNo (pc' := 240) at_237 (by decide) rfl ?_
                  refine X18.iconst (pc' := 241) (z := 1) at_240 rfl rfl ?_
                  refine X18.goto (pc' := 245) at_241 (by decide) (by decide) ?_
                  exact X18.zreturn (z' := (1 : Int32)) rfl (by simp) at_245 rfl (by decide) (by decide) rfl
                · refine X14.ifYes (pc' := 171) at_164 (by rw [if_neg hc15]; decide) (by decide) (by decide) ?_
                  refine X14.aload (pc' := 173) at_171 rfl rfl rfl ?_
                  refine X14.iload (pc' := 175) at_173 rfl rfl ?_
                  refine X14.iconst (pc' := 176) (z := 3) at_175 rfl rfl ?_
                  refine X14.callS (pc' := 179) (W := 0) (argsL := [(.ref b1), (.int n.toInt32), (.int (3 : Int32))]) (rest := []) (ctIs3 l Z a0 hw b1 P n h8 VsP_8 hn) (wd_7 hw) (wd_8 hw) (wd_5 hw) (wd_9 hw) (by decide) pd_10 rfl rfl rfl rfl at_176 rfl (by decide) rfl (by decide) (by decide) (by decide) allWs0 (fun T19 h19 v19 X19 K19 Q19 => ?_)
                  obtain ⟨rfl, rfl⟩ := Q19
                  show Runs p e below (T19.setTop (mkF m 179 #[.val (.int i0), .val (.int i1), .val (.int i2), .val (.int i3), .val (.int n.toInt32), .val (.int (i2 &&& (65535 : Int32))), .val (.int (i3 &&& (65535 : Int32))), .val (.ref b1), .val (.ref pa), .unset, .unset] [(.int (if 3 < n ∧ own_eqs (own_eqf P) (n - 1) 3 = true then (1 : Int32) else 0))])) _
                  by_cases hc20 : 3 < n ∧ own_eqs (own_eqf P) (n - 1) 3 = true
                  · refine X19.ifNo (pc' := 182) at_179 (by rw [if_pos hc20]; decide) rfl ?_
                    refine X19.iconst (pc' := 183) (z := 3) at_182 rfl rfl ?_
                    refine X19.goto (pc' := 217) at_183 (by decide) (by decide) ?_
                    refine X19.istore (pc' := 219) (l' := #[.val (.int i0), .val (.int i1), .val (.int i2), .val (.int i3), .val (.int n.toInt32), .val (.int (i2 &&& (65535 : Int32))), .val (.int (i3 &&& (65535 : Int32))), .val (.ref b1), .val (.ref pa), .val (.int (3 : Int32)), .unset]) at_217 rfl rfl ?_
                    refine X19.new (pc' := 222) (wd_10 hw) (wd_11 hw) (wd_12 hw) at_219 rfl (by decide) (by decide) (fun T21 h21 b21 X21 g21 E21 A21 D21 => ?_)
                    have sz_b21 : h0.size ≤ b21 := g21 ▸ X19.size
                    have ne_b1_b21 : b1 ≠ b21 := Nat.ne_of_lt (g21 ▸ VsP_8.lt)
                    have ne_pa_b21 : pa ≠ b21 := Nat.ne_of_lt (g21 ▸ Vp.lt)
                    have VsP_21 := VsP_8.ext E21
                    have Vp_21 := Vp.ext E21
                    have Fpattern_b21 : Fld Z h21 b21 "com/example/rummage/rummage/Automaton" "pattern" "[I" .null := D21 (Or.inr (wd_44 hw)) (ty := (.array .int)) (by decide)
                    have Ftable_b21 : Fld Z h21 b21 "com/example/rummage/rummage/Automaton" "table" "[I" .null := D21 (Or.inr (wd_46 hw)) (ty := (.array .int)) (by decide)
                    have Ffallback_b21 : Fld Z h21 b21 "com/example/rummage/rummage/Automaton" "fallback" "[I" .null := D21 (Or.inr (wd_48 hw)) (ty := (.array .int)) (by decide)
                    have FpairSteps_b21 : Fld Z h21 b21 "com/example/rummage/rummage/Automaton" "pairSteps" "Lcom/example/rummage/rummage/PairSteps;" .null := D21 (Or.inr (wd_50 hw)) (ty := (.object "com/example/rummage/rummage/PairSteps")) (by decide)
                    have FafterHit_b21 : Fld Z h21 b21 "com/example/rummage/rummage/Automaton" "afterHit" "I" (.int (0 : Int32)) := D21 (Or.inr (wd_52 hw)) (ty := .int) (by decide)
                    have Frun_b21 : Fld Z h21 b21 "com/example/rummage/rummage/Automaton" "run" "I" (.int (0 : Int32)) := D21 (Or.inr (wd_57 hw)) (ty := .int) (by decide)
                    refine X21.dup (pc' := 223) at_222 rfl rfl ?_
                    refine X21.aload (pc' := 225) at_223 rfl rfl rfl ?_
                    refine X21.special (pc' := 228) (W := 1) (a := b21) (argsL := [(.ref pa)]) (rest := [(.ref b21)]) (ctA1 l Z a0 hw b21 pa P n h21 A21 Fpattern_b21 Ftable_b21 Ffallback_b21 FpairSteps_b21 FafterHit_b21 Frun_b21 Vp_21 hn (fun t _ => hPn t) ne_pa_b21) rfl (wd_13 hw) (wd_14 hw) (wd_12 hw) (wd_15 hw) (by decide) pd_11 rfl rfl rfl rfl at_225 rfl (by decide) rfl (by decide) (by decide) (by decide) ((allS (Or.inr sz_b21) all0)) (fun T22 h22 v22 X22 K22 Q22 => ?_)
                    have VsP_22 := VsP_21.keep K22 (ninS ne_b1_b21 nin0)
                    have Vp_22 := Vp_21.keep K22 (ninS ne_pa_b21 nin0)
                    have A21_22 := A21.keep K22
                    obtain ⟨rfl, ta, Ea, Fp, Ft, Vt⟩ := Q22
                    show Runs p e below (T22.setTop (mkF m 228 #[.val (.int i0), .val (.int i1), .val (.int i2), .val (.int i3), .val (.int n.toInt32), .val (.int (i2 &&& (65535 : Int32))), .val (.int (i3 &&& (65535 : Int32))), .val (.ref b1), .val (.ref pa), .val (.int (3 : Int32)), .unset] [(.ref b21)])) _
                    refine X22.astore (pc' := 230) (l' := #[.val (.int i0), .val (.int i1), .val (.int i2), .val (.int i3), .val (.int n.toInt32), .val (.int (i2 &&& (65535 : Int32))), .val (.int (i3 &&& (65535 : Int32))), .val (.ref b1), .val (.ref pa), .val (.int (3 : Int32)), .val (.ref b21)]) at_228 rfl rfl rfl ?_
                    refine X22.aload (pc' := 232) at_230 rfl rfl rfl ?_
                    have eR := own_end hP5 hn (r := 3) (by rw [if_neg hc10, if_neg hc15, if_pos hc20])
                    refine X22.virtual (pc' := 235) (W := 0) (a := b21) (argsL := []) (rest := []) (ctBd l Z a0 hw b21 pa ta P (own_tb P n) n h22 Fp Ft Vp_22 Vt hn) (wd_58 hw) (wd_59 hw) (fun _ q => notFace_of_selects q) (wd_61 hw) (wd_60 hw) (wd_12 hw) (wd_62 hw) (by decide) Ea pd_12 rfl rfl rfl rfl at_232 rfl (by decide) rfl (by decide) (by decide) (by decide) allWs0 (fun T23 h23 v23 X23 K23 Q23 => ?_)
                    obtain ⟨eV23, rfl⟩ := Q23
                    rw [eR] at eV23
                    obtain rfl := eV23
                    show Runs p e below (T23.setTop (mkF m 235 #[.val (.int i0), .val (.int i1), .val (.int i2), .val (.int i3), .val (.int n.toInt32), .val (.int (i2 &&& (65535 : Int32))), .val (.int (i3 &&& (65535 : Int32))), .val (.ref b1), .val (.ref pa), .val (.int (3 : Int32)), .val (.ref b21)] [(.int (3 : Int32))])) _
                    refine X23.iload (pc' := 237) at_235 rfl rfl ?_
                    refine X23.icmpNo (pc' := 240) at_237 (by decide) rfl ?_
                    refine X23.iconst (pc' := 241) (z := 1) at_240 rfl rfl ?_
                    refine X23.goto (pc' := 245) at_241 (by decide) (by decide) ?_
                    exact X23.zreturn (z' := (1 : Int32)) rfl (by simp) at_245 rfl (by decide) (by decide) rfl
                  · refine X19.ifYes (pc' := 186) at_179 (by rw [if_neg hc20]; decide) (by decide) (by decide) ?_
                    refine X19.aload (pc' := 188) at_186 rfl rfl rfl ?_
                    refine X19.iload (pc' := 190) at_188 rfl rfl ?_
                    refine X19.iconst (pc' := 191) (z := 2) at_190 rfl rfl ?_
                    refine X19.callS (pc' := 194) (W := 0) (argsL := [(.ref b1), (.int n.toInt32), (.int (2 : Int32))]) (rest := []) (ctIs2 l Z a0 hw b1 P n h8 VsP_8 hn) (wd_7 hw) (wd_8 hw) (wd_5 hw) (wd_9 hw) (by decide) pd_10 rfl rfl rfl rfl at_191 rfl (by decide) rfl (by decide) (by decide) (by decide) allWs0 (fun T24 h24 v24 X24 K24 Q24 => ?_)
                    obtain ⟨rfl, rfl⟩ := Q24
                    show Runs p e below (T24.setTop (mkF m 194 #[.val (.int i0), .val (.int i1), .val (.int i2), .val (.int i3), .val (.int n.toInt32), .val (.int (i2 &&& (65535 : Int32))), .val (.int (i3 &&& (65535 : Int32))), .val (.ref b1), .val (.ref pa), .unset, .unset] [(.int (if 2 < n ∧ own_eqs (own_eqf P) (n - 1) 2 = true then (1 : Int32) else 0))])) _
                    by_cases hc25 : 2 < n ∧ own_eqs (own_eqf P) (n - 1) 2 = true
                    · refine X24.ifNo (pc' := 197) at_194 (by rw [if_pos hc25]; decide) rfl ?_
                      refine X24.iconst (pc' := 198) (z := 2) at_197 rfl rfl ?_
                      refine X24.goto (pc' := 217) at_198 (by decide) (by decide) ?_
                      refine X24.istore (pc' := 219) (l' := #[.val (.int i0), .val (.int i1), .val (.int i2), .val (.int i3), .val (.int n.toInt32), .val (.int (i2 &&& (65535 : Int32))), .val (.int (i3 &&& (65535 : Int32))), .val (.ref b1), .val (.ref pa), .val (.int (2 : Int32)), .unset]) at_217 rfl rfl ?_
                      refine X24.new (pc' := 222) (wd_10 hw) (wd_11 hw) (wd_12 hw) at_219 rfl (by decide) (by decide) (fun T26 h26 b26 X26 g26 E26 A26 D26 => ?_)
                      have sz_b26 : h0.size ≤ b26 := g26 ▸ X24.size
                      have ne_b1_b26 : b1 ≠ b26 := Nat.ne_of_lt (g26 ▸ VsP_8.lt)
                      have ne_pa_b26 : pa ≠ b26 := Nat.ne_of_lt (g26 ▸ Vp.lt)
                      have VsP_26 := VsP_8.ext E26
                      have Vp_26 := Vp.ext E26
                      have Fpattern_b26 : Fld Z h26 b26 "com/example/rummage/rummage/Automaton" "pattern" "[I" .null := D26 (Or.inr (wd_44 hw)) (ty := (.array .int)) (by decide)
                      have Ftable_b26 : Fld Z h26 b26 "com/example/rummage/rummage/Automaton" "table" "[I" .null := D26 (Or.inr (wd_46 hw)) (ty := (.array .int)) (by decide)
                      have Ffallback_b26 : Fld Z h26 b26 "com/example/rummage/rummage/Automaton" "fallback" "[I" .null := D26 (Or.inr (wd_48 hw)) (ty := (.array .int)) (by decide)
                      have FpairSteps_b26 : Fld Z h26 b26 "com/example/rummage/rummage/Automaton" "pairSteps" "Lcom/example/rummage/rummage/PairSteps;" .null := D26 (Or.inr (wd_50 hw)) (ty := (.object "com/example/rummage/rummage/PairSteps")) (by decide)
                      have FafterHit_b26 : Fld Z h26 b26 "com/example/rummage/rummage/Automaton" "afterHit" "I" (.int (0 : Int32)) := D26 (Or.inr (wd_52 hw)) (ty := .int) (by decide)
                      have Frun_b26 : Fld Z h26 b26 "com/example/rummage/rummage/Automaton" "run" "I" (.int (0 : Int32)) := D26 (Or.inr (wd_57 hw)) (ty := .int) (by decide)
                      refine X26.dup (pc' := 223) at_222 rfl rfl ?_
                      refine X26.aload (pc' := 225) at_223 rfl rfl rfl ?_
                      refine X26.special (pc' := 228) (W := 1) (a := b26) (argsL := [(.ref pa)]) (rest := [(.ref b26)]) (ctA1 l Z a0 hw b26 pa P n h26 A26 Fpattern_b26 Ftable_b26 Ffallback_b26 FpairSteps_b26 FafterHit_b26 Frun_b26 Vp_26 hn (fun t _ => hPn t) ne_pa_b26) rfl (wd_13 hw) (wd_14 hw) (wd_12 hw) (wd_15 hw) (by decide) pd_11 rfl rfl rfl rfl at_225 rfl (by decide) rfl (by decide) (by decide) (by decide) ((allS (Or.inr sz_b26) all0)) (fun T27 h27 v27 X27 K27 Q27 => ?_)
                      have VsP_27 := VsP_26.keep K27 (ninS ne_b1_b26 nin0)
                      have Vp_27 := Vp_26.keep K27 (ninS ne_pa_b26 nin0)
                      have A26_27 := A26.keep K27
                      obtain ⟨rfl, ta, Ea, Fp, Ft, Vt⟩ := Q27
                      show Runs p e below (T27.setTop (mkF m 228 #[.val (.int i0), .val (.int i1), .val (.int i2), .val (.int i3), .val (.int n.toInt32), .val (.int (i2 &&& (65535 : Int32))), .val (.int (i3 &&& (65535 : Int32))), .val (.ref b1), .val (.ref pa), .val (.int (2 : Int32)), .unset] [(.ref b26)])) _
                      refine X27.astore (pc' := 230) (l' := #[.val (.int i0), .val (.int i1), .val (.int i2), .val (.int i3), .val (.int n.toInt32), .val (.int (i2 &&& (65535 : Int32))), .val (.int (i3 &&& (65535 : Int32))), .val (.ref b1), .val (.ref pa), .val (.int (2 : Int32)), .val (.ref b26)]) at_228 rfl rfl rfl ?_
                      refine X27.aload (pc' := 232) at_230 rfl rfl rfl ?_
                      have eR := own_end hP5 hn (r := 2) (by rw [if_neg hc10, if_neg hc15, if_neg hc20, if_pos hc25])
                      refine X27.virtual (pc' := 235) (W := 0) (a := b26) (argsL := []) (rest := []) (ctBd l Z a0 hw b26 pa ta P (own_tb P n) n h27 Fp Ft Vp_27 Vt hn) (wd_58 hw) (wd_59 hw) (fun _ q => notFace_of_selects q) (wd_61 hw) (wd_60 hw) (wd_12 hw) (wd_62 hw) (by decide) Ea pd_12 rfl rfl rfl rfl at_232 rfl (by decide) rfl (by decide) (by decide) (by decide) allWs0 (fun T28 h28 v28 X28 K28 Q28 => ?_)
                      obtain ⟨eV28, rfl⟩ := Q28
                      rw [eR] at eV28
                      obtain rfl := eV28
                      show Runs p e below (T28.setTop (mkF m 235 #[.val (.int i0), .val (.int i1), .val (.int i2), .val (.int i3), .val (.int n.toInt32), .val (.int (i2 &&& (65535 : Int32))), .val (.int (i3 &&& (65535 : Int32))), .val (.ref b1), .val (.ref pa), .val (.int (2 : Int32)), .val (.ref b26)] [(.int (2 : Int32))])) _
                      refine X28.iload (pc' := 237) at_235 rfl rfl ?_
                      refine X28.icmpNo (pc' := 240) at_237 (by decide) rfl ?_
                      refine X28.iconst (pc' := 241) (z := 1) at_240 rfl rfl ?_
                      refine X28.goto (pc' := 245) at_241 (by decide) (by decide) ?_
                      exact X28.zreturn (z' := (1 : Int32)) rfl (by simp) at_245 rfl (by decide) (by decide) rfl
                    · refine X24.ifYes (pc' := 201) at_194 (by rw [if_neg hc25]; decide) (by decide) (by decide) ?_
                      refine X24.aload (pc' := 203) at_201 rfl rfl rfl ?_
                      refine X24.iload (pc' := 205) at_203 rfl rfl ?_
                      refine X24.iconst (pc' := 206) (z := 1) at_205 rfl rfl ?_
                      refine X24.callS (pc' := 209) (W := 0) (argsL := [(.ref b1), (.int n.toInt32), (.int (1 : Int32))]) (rest := []) (ctIs1 l Z a0 hw b1 P n h8 VsP_8 hn) (wd_7 hw) (wd_8 hw) (wd_5 hw) (wd_9 hw) (by decide) pd_10 rfl rfl rfl rfl at_206 rfl (by decide) rfl (by decide) (by decide) (by decide) allWs0 (fun T29 h29 v29 X29 K29 Q29 => ?_)
                      obtain ⟨rfl, rfl⟩ := Q29
                      show Runs p e below (T29.setTop (mkF m 209 #[.val (.int i0), .val (.int i1), .val (.int i2), .val (.int i3), .val (.int n.toInt32), .val (.int (i2 &&& (65535 : Int32))), .val (.int (i3 &&& (65535 : Int32))), .val (.ref b1), .val (.ref pa), .unset, .unset] [(.int (if 1 < n ∧ own_eqs (own_eqf P) (n - 1) 1 = true then (1 : Int32) else 0))])) _
                      by_cases hc30 : 1 < n ∧ own_eqs (own_eqf P) (n - 1) 1 = true
                      · refine X29.ifNo (pc' := 212) at_209 (by rw [if_pos hc30]; decide) rfl ?_
                        refine X29.iconst (pc' := 213) (z := 1) at_212 rfl rfl ?_
                        refine X29.goto (pc' := 217) at_213 (by decide) (by decide) ?_
                        refine X29.istore (pc' := 219) (l' := #[.val (.int i0), .val (.int i1), .val (.int i2), .val (.int i3), .val (.int n.toInt32), .val (.int (i2 &&& (65535 : Int32))), .val (.int (i3 &&& (65535 : Int32))), .val (.ref b1), .val (.ref pa), .val (.int (1 : Int32)), .unset]) at_217 rfl rfl ?_
                        refine X29.new (pc' := 222) (wd_10 hw) (wd_11 hw) (wd_12 hw) at_219 rfl (by decide) (by decide) (fun T31 h31 b31 X31 g31 E31 A31 D31 => ?_)
                        have sz_b31 : h0.size ≤ b31 := g31 ▸ X29.size
                        have ne_b1_b31 : b1 ≠ b31 := Nat.ne_of_lt (g31 ▸ VsP_8.lt)
                        have ne_pa_b31 : pa ≠ b31 := Nat.ne_of_lt (g31 ▸ Vp.lt)
                        have VsP_31 := VsP_8.ext E31
                        have Vp_31 := Vp.ext E31
                        have Fpattern_b31 : Fld Z h31 b31 "com/example/rummage/rummage/Automaton" "pattern" "[I" .null := D31 (Or.inr (wd_44 hw)) (ty := (.array .int)) (by decide)
                        have Ftable_b31 : Fld Z h31 b31 "com/example/rummage/rummage/Automaton" "table" "[I" .null := D31 (Or.inr (wd_46 hw)) (ty := (.array .int)) (by decide)
                        have Ffallback_b31 : Fld Z h31 b31 "com/example/rummage/rummage/Automaton" "fallback" "[I" .null := D31 (Or.inr (wd_48 hw)) (ty := (.array .int)) (by decide)
                        have FpairSteps_b31 : Fld Z h31 b31 "com/example/rummage/rummage/Automaton" "pairSteps" "Lcom/example/rummage/rummage/PairSteps;" .null := D31 (Or.inr (wd_50 hw)) (ty := (.object "com/example/rummage/rummage/PairSteps")) (by decide)
                        have FafterHit_b31 : Fld Z h31 b31 "com/example/rummage/rummage/Automaton" "afterHit" "I" (.int (0 : Int32)) := D31 (Or.inr (wd_52 hw)) (ty := .int) (by decide)
                        have Frun_b31 : Fld Z h31 b31 "com/example/rummage/rummage/Automaton" "run" "I" (.int (0 : Int32)) := D31 (Or.inr (wd_57 hw)) (ty := .int) (by decide)
                        refine X31.dup (pc' := 223) at_222 rfl rfl ?_
                        refine X31.aload (pc' := 225) at_223 rfl rfl rfl ?_
                        refine X31.special (pc' := 228) (W := 1) (a := b31) (argsL := [(.ref pa)]) (rest := [(.ref b31)]) (ctA1 l Z a0 hw b31 pa P n h31 A31 Fpattern_b31 Ftable_b31 Ffallback_b31 FpairSteps_b31 FafterHit_b31 Frun_b31 Vp_31 hn (fun t _ => hPn t) ne_pa_b31) rfl (wd_13 hw) (wd_14 hw) (wd_12 hw) (wd_15 hw) (by decide) pd_11 rfl rfl rfl rfl at_225 rfl (by decide) rfl (by decide) (by decide) (by decide) ((allS (Or.inr sz_b31) all0)) (fun T32 h32 v32 X32 K32 Q32 => ?_)
                        have VsP_32 := VsP_31.keep K32 (ninS ne_b1_b31 nin0)
                        have Vp_32 := Vp_31.keep K32 (ninS ne_pa_b31 nin0)
                        have A31_32 := A31.keep K32
                        obtain ⟨rfl, ta, Ea, Fp, Ft, Vt⟩ := Q32
                        show Runs p e below (T32.setTop (mkF m 228 #[.val (.int i0), .val (.int i1), .val (.int i2), .val (.int i3), .val (.int n.toInt32), .val (.int (i2 &&& (65535 : Int32))), .val (.int (i3 &&& (65535 : Int32))), .val (.ref b1), .val (.ref pa), .val (.int (1 : Int32)), .unset] [(.ref b31)])) _
                        refine X32.astore (pc' := 230) (l' := #[.val (.int i0), .val (.int i1), .val (.int i2), .val (.int i3), .val (.int n.toInt32), .val (.int (i2 &&& (65535 : Int32))), .val (.int (i3 &&& (65535 : Int32))), .val (.ref b1), .val (.ref pa), .val (.int (1 : Int32)), .val (.ref b31)]) at_228 rfl rfl rfl ?_
                        refine X32.aload (pc' := 232) at_230 rfl rfl rfl ?_
                        have eR := own_end hP5 hn (r := 1) (by rw [if_neg hc10, if_neg hc15, if_neg hc20, if_neg hc25, if_pos hc30])
                        refine X32.virtual (pc' := 235) (W := 0) (a := b31) (argsL := []) (rest := []) (ctBd l Z a0 hw b31 pa ta P (own_tb P n) n h32 Fp Ft Vp_32 Vt hn) (wd_58 hw) (wd_59 hw) (fun _ q => notFace_of_selects q) (wd_61 hw) (wd_60 hw) (wd_12 hw) (wd_62 hw) (by decide) Ea pd_12 rfl rfl rfl rfl at_232 rfl (by decide) rfl (by decide) (by decide) (by decide) allWs0 (fun T33 h33 v33 X33 K33 Q33 => ?_)
                        obtain ⟨eV33, rfl⟩ := Q33
                        rw [eR] at eV33
                        obtain rfl := eV33
                        show Runs p e below (T33.setTop (mkF m 235 #[.val (.int i0), .val (.int i1), .val (.int i2), .val (.int i3), .val (.int n.toInt32), .val (.int (i2 &&& (65535 : Int32))), .val (.int (i3 &&& (65535 : Int32))), .val (.ref b1), .val (.ref pa), .val (.int (1 : Int32)), .val (.ref b31)] [(.int (1 : Int32))])) _
                        refine X33.iload (pc' := 237) at_235 rfl rfl ?_
                        refine X33.icmpNo (pc' := 240) at_237 (by decide) rfl ?_
                        refine X33.iconst (pc' := 241) (z := 1) at_240 rfl rfl ?_
                        refine X33.goto (pc' := 245) at_241 (by decide) (by decide) ?_
                        exact X33.zreturn (z' := (1 : Int32)) rfl (by simp) at_245 rfl (by decide) (by decide) rfl
                      · refine X29.ifYes (pc' := 216) at_209 (by rw [if_neg hc30]; decide) (by decide) (by decide) ?_
                        refine X29.iconst (pc' := 217) (z := 0) at_216 rfl rfl ?_
                        refine X29.istore (pc' := 219) (l' := #[.val (.int i0), .val (.int i1), .val (.int i2), .val (.int i3), .val (.int n.toInt32), .val (.int (i2 &&& (65535 : Int32))), .val (.int (i3 &&& (65535 : Int32))), .val (.ref b1), .val (.ref pa), .val (.int (0 : Int32)), .unset]) at_217 rfl rfl ?_
                        refine X29.new (pc' := 222) (wd_10 hw) (wd_11 hw) (wd_12 hw) at_219 rfl (by decide) (by decide) (fun T34 h34 b34 X34 g34 E34 A34 D34 => ?_)
                        have sz_b34 : h0.size ≤ b34 := g34 ▸ X29.size
                        have ne_b1_b34 : b1 ≠ b34 := Nat.ne_of_lt (g34 ▸ VsP_8.lt)
                        have ne_pa_b34 : pa ≠ b34 := Nat.ne_of_lt (g34 ▸ Vp.lt)
                        have VsP_34 := VsP_8.ext E34
                        have Vp_34 := Vp.ext E34
                        have Fpattern_b34 : Fld Z h34 b34 "com/example/rummage/rummage/Automaton" "pattern" "[I" .null := D34 (Or.inr (wd_44 hw)) (ty := (.array .int)) (by decide)
                        have Ftable_b34 : Fld Z h34 b34 "com/example/rummage/rummage/Automaton" "table" "[I" .null := D34 (Or.inr (wd_46 hw)) (ty := (.array .int)) (by decide)
                        have Ffallback_b34 : Fld Z h34 b34 "com/example/rummage/rummage/Automaton" "fallback" "[I" .null := D34 (Or.inr (wd_48 hw)) (ty := (.array .int)) (by decide)
                        have FpairSteps_b34 : Fld Z h34 b34 "com/example/rummage/rummage/Automaton" "pairSteps" "Lcom/example/rummage/rummage/PairSteps;" .null := D34 (Or.inr (wd_50 hw)) (ty := (.object "com/example/rummage/rummage/PairSteps")) (by decide)
                        have FafterHit_b34 : Fld Z h34 b34 "com/example/rummage/rummage/Automaton" "afterHit" "I" (.int (0 : Int32)) := D34 (Or.inr (wd_52 hw)) (ty := .int) (by decide)
                        have Frun_b34 : Fld Z h34 b34 "com/example/rummage/rummage/Automaton" "run" "I" (.int (0 : Int32)) := D34 (Or.inr (wd_57 hw)) (ty := .int) (by decide)
                        refine X34.dup (pc' := 223) at_222 rfl rfl ?_
                        refine X34.aload (pc' := 225) at_223 rfl rfl rfl ?_
                        refine X34.special (pc' := 228) (W := 1) (a := b34) (argsL := [(.ref pa)]) (rest := [(.ref b34)]) (ctA1 l Z a0 hw b34 pa P n h34 A34 Fpattern_b34 Ftable_b34 Ffallback_b34 FpairSteps_b34 FafterHit_b34 Frun_b34 Vp_34 hn (fun t _ => hPn t) ne_pa_b34) rfl (wd_13 hw) (wd_14 hw) (wd_12 hw) (wd_15 hw) (by decide) pd_11 rfl rfl rfl rfl at_225 rfl (by decide) rfl (by decide) (by decide) (by decide) ((allS (Or.inr sz_b34) all0)) (fun T35 h35 v35 X35 K35 Q35 => ?_)
                        have VsP_35 := VsP_34.keep K35 (ninS ne_b1_b34 nin0)
                        have Vp_35 := Vp_34.keep K35 (ninS ne_pa_b34 nin0)
                        have A34_35 := A34.keep K35
                        obtain ⟨rfl, ta, Ea, Fp, Ft, Vt⟩ := Q35
                        show Runs p e below (T35.setTop (mkF m 228 #[.val (.int i0), .val (.int i1), .val (.int i2), .val (.int i3), .val (.int n.toInt32), .val (.int (i2 &&& (65535 : Int32))), .val (.int (i3 &&& (65535 : Int32))), .val (.ref b1), .val (.ref pa), .val (.int (0 : Int32)), .unset] [(.ref b34)])) _
                        refine X35.astore (pc' := 230) (l' := #[.val (.int i0), .val (.int i1), .val (.int i2), .val (.int i3), .val (.int n.toInt32), .val (.int (i2 &&& (65535 : Int32))), .val (.int (i3 &&& (65535 : Int32))), .val (.ref b1), .val (.ref pa), .val (.int (0 : Int32)), .val (.ref b34)]) at_228 rfl rfl rfl ?_
                        refine X35.aload (pc' := 232) at_230 rfl rfl rfl ?_
                        have eR := own_end hP5 hn (r := 0) (by rw [if_neg hc10, if_neg hc15, if_neg hc20, if_neg hc25, if_neg hc30])
                        refine X35.virtual (pc' := 235) (W := 0) (a := b34) (argsL := []) (rest := []) (ctBd l Z a0 hw b34 pa ta P (own_tb P n) n h35 Fp Ft Vp_35 Vt hn) (wd_58 hw) (wd_59 hw) (fun _ q => notFace_of_selects q) (wd_61 hw) (wd_60 hw) (wd_12 hw) (wd_62 hw) (by decide) Ea pd_12 rfl rfl rfl rfl at_232 rfl (by decide) rfl (by decide) (by decide) (by decide) allWs0 (fun T36 h36 v36 X36 K36 Q36 => ?_)
                        obtain ⟨eV36, rfl⟩ := Q36
                        rw [eR] at eV36
                        obtain rfl := eV36
                        show Runs p e below (T36.setTop (mkF m 235 #[.val (.int i0), .val (.int i1), .val (.int i2), .val (.int i3), .val (.int n.toInt32), .val (.int (i2 &&& (65535 : Int32))), .val (.int (i3 &&& (65535 : Int32))), .val (.ref b1), .val (.ref pa), .val (.int (0 : Int32)), .val (.ref b34)] [(.int (0 : Int32))])) _
                        refine X36.iload (pc' := 237) at_235 rfl rfl ?_
                        refine X36.icmpNo (pc' := 240) at_237 (by decide) rfl ?_
                        refine X36.iconst (pc' := 241) (z := 1) at_240 rfl rfl ?_
                        refine X36.goto (pc' := 245) at_241 (by decide) (by decide) ?_
                        exact X36.zreturn (z' := (1 : Int32)) rfl (by simp) at_245 rfl (by decide) (by decide) rfl
            by_cases hc37 : (i1 &&& (32 : Int32)) = (0 : Int32)
            · refine X6.ifYes (pc' := 129) at_121 (teq hc37).1 (by decide) (by decide) ?_
              refine X6.iload (pc' := 131) at_129 rfl rfl ?_
              exact KK5 _ (own_ch _)
            · refine X6.ifNo (pc' := 124) at_121 (feq hc37).1 rfl ?_
              refine X6.iload (pc' := 126) at_124 rfl rfl ?_
              refine X6.goto (pc' := 131) at_126 (by decide) (by decide) ?_
              exact KK5 _ (own_ch _)
          by_cases hc38 : (i1 &&& (16 : Int32)) = (0 : Int32)
          · refine X5.ifYes (pc' := 111) at_103 (teq hc38).1 (by decide) (by decide) ?_
            refine X5.iload (pc' := 113) at_111 rfl rfl ?_
            exact KK4 _ (own_ch _)
          · refine X5.ifNo (pc' := 106) at_103 (feq hc38).1 rfl ?_
            refine X5.iload (pc' := 108) at_106 rfl rfl ?_
            refine X5.goto (pc' := 113) at_108 (by decide) (by decide) ?_
            exact KK4 _ (own_ch _)
        by_cases hc39 : (i1 &&& (8 : Int32)) = (0 : Int32)
        · refine X4.ifYes (pc' := 93) at_85 (teq hc39).1 (by decide) (by decide) ?_
          refine X4.iload (pc' := 95) at_93 rfl rfl ?_
          exact KK3 _ (own_ch _)
        · refine X4.ifNo (pc' := 88) at_85 (feq hc39).1 rfl ?_
          refine X4.iload (pc' := 90) at_88 rfl rfl ?_
          refine X4.goto (pc' := 95) at_90 (by decide) (by decide) ?_
          exact KK3 _ (own_ch _)
      by_cases hc40 : (i1 &&& (4 : Int32)) = (0 : Int32)
      · refine X3.ifYes (pc' := 75) at_67 (teq hc40).1 (by decide) (by decide) ?_
        refine X3.iload (pc' := 77) at_75 rfl rfl ?_
        exact KK2 _ (own_ch _)
      · refine X3.ifNo (pc' := 70) at_67 (feq hc40).1 rfl ?_
        refine X3.iload (pc' := 72) at_70 rfl rfl ?_
        refine X3.goto (pc' := 77) at_72 (by decide) (by decide) ?_
        exact KK2 _ (own_ch _)
    by_cases hc41 : (i1 &&& (2 : Int32)) = (0 : Int32)
    · refine X2.ifYes (pc' := 58) at_50 (teq hc41).1 (by decide) (by decide) ?_
      refine X2.iload (pc' := 60) at_58 rfl rfl ?_
      exact KK1 _ (own_ch _)
    · refine X2.ifNo (pc' := 53) at_50 (feq hc41).1 rfl ?_
      refine X2.iload (pc' := 55) at_53 rfl rfl ?_
      refine X2.goto (pc' := 60) at_55 (by decide) (by decide) ?_
      exact KK1 _ (own_ch _)
  by_cases hc42 : (i1 &&& (1 : Int32)) = (0 : Int32)
  · refine X1.ifYes (pc' := 41) at_33 (teq hc42).1 (by decide) (by decide) ?_
    refine X1.iload (pc' := 43) at_41 rfl rfl ?_
    exact KK0 _ (own_ch _)
  · refine X1.ifNo (pc' := 36) at_33 (feq hc42).1 rfl ?_
    refine X1.iload (pc' := 38) at_36 rfl rfl ?_
    refine X1.goto (pc' := 43) at_38 (by decide) (by decide) ?_
    exact KK0 _ (own_ch _)
set_option maxRecDepth 65536 in
set_option maxHeartbeats 40000000 in
theorem comes_1 {Post : Tables → Env → Array Value → State → Outcome → State → Prop} (hpost : ∀ tb e args s v u, (limb_1_1.after args s (.returned v) u = true ∧ limb_1_2.after args s (.returned v) u = true ∧ True) → FrameEnd s (.returned v) u (Jvm.fieldLocs frame_1_writes args s ++ Jvm.arrayLocs frame_1_arrays args s ++ Jvm.staticLocs frame_1_statics s) 32 896 → Post tb e args s (.returned v) u) :
    ArmFor flags0 classFile x code maxLocals ret World_1 tables_1 room_1 Calls_1 rest_1 Pre_1 Post := by
  intro l hfl _ _ p e ha hc hk s m args below hf hA hF happ hP
  obtain ⟨hcalls, hrest, hpre⟩ := hP
  obtain ⟨-, -, -, hnamed, -, -, -, hat⟩ := (Spec.applies_iff hf).mp happ
  obtain ⟨hg, hn⟩ := and_e (Cond.before_iff.mp (show (Jvm.Cond.and given_1 narrow_1).before args s = true from hpre))
  obtain ⟨g1, g2⟩ := and_e hg
  obtain ⟨g3, g4⟩ := and_e g2
  obtain ⟨g5, g6⟩ := and_e g4
  obtain ⟨g7, g8⟩ := and_e g6
  obtain ⟨w0, w1, w2, w3, rfl⟩ : ∃ w0 w1 w2 w3 : Value, args = #[w0, w1, w2, w3] := by
    have hs : args.size = 4 := by simpa [Cond.value, given_1] using g1
    obtain ⟨L⟩ := args
    match L, hs with
    | [w0, w1, w2, w3], _ => exact ⟨w0, w1, w2, w3, rfl⟩
  have hw := fun d (hd : d ∈ tables_1) => atoms_spec (ws := Jvm.Cond.code x code maxLocals ret :: tables_1) hat d (List.mem_cons_of_mem _ hd)
  obtain ⟨i0, ei0⟩ := is_v g3
  obtain rfl : w0 = (.int i0) := Option.some.inj ei0
  obtain ⟨i1, ei1⟩ := is_v g5
  obtain rfl : w1 = (.int i1) := Option.some.inj ei1
  obtain ⟨i2, ei2⟩ := is_v g7
  obtain rfl : w2 = (.int i2) := Option.some.inj ei2
  obtain ⟨i3, ei3⟩ := is_v g8
  obtain rfl : w3 = (.int i3) := Option.some.inj ei3
  obtain ⟨n, o, h1, h2, h3, _, L, rfl, ⟨rfl, -, N⟩, hq⟩ := ct0 l s _ hw i0 i1 i2 i3 s.heap tables_1 p e ha hc hk s m _ below hf ((Spec.applies_iff_loose hf).mp happ).1 ⟨rfl, State.WarmedH.refl s, rfl⟩ trivial
  refine ⟨n, _, h1, h2, h3, hpost _ _ _ _ _ _ ⟨Cond.after_iff.mpr rfl, Cond.after_iff.mpr (eq_i res_at (Term.int_eval (1)) rfl), trivial⟩ ⟨hq.1, hq.2.1, (hq.2.2.sift fun y hy => Or.inr ((N y hy).elim (fun z => nomatch z) id)).mono (by decide) (by decide)⟩⟩
theorem main_1_1 : Claimed_1_1 := comes_1 fun _ _ _ _ _ _ h hF => ⟨h.1, Jvm.LamKit.wideOf hF⟩
theorem main_1_2 : Claimed_1_2 := comes_1 fun _ _ _ _ _ _ h hF => ⟨h.2.1, Jvm.LamKit.wideOf hF⟩
end Jvm.Pilot.@@N@@
namespace Jvm.Pilot.@@N@@
open Jvm Jvm.ClassFile Sem Op Lib Jvm.Free Jvm.Stand Jvm.Pilot.@@N@@.Jvm.D
/-! MADE BY PROGRAM (witnessworld.py) out of the Statement's table words and the real class files: 13 classes; the members and pool entries that the words name. The judged class is class 1, her method 1. -/
namespace start1
open Jvm.ClassFile
def u (s : String) : CpInfo := .utf8 (stringToUtf16 s)
/-- a pool by its gaps: so many unusable entries, then the entry; so many at the end -/
def gap : Nat → List CpInfo → List CpInfo
  | 0, r => r
  | n + 1, r => .unusable :: gap n r
def poolList (es : List (Nat × CpInfo)) (last : Nat) : List CpInfo := es.foldr (fun e r => gap e.1 (e.2 :: r)) (gap last [])
def pool (es : List (Nat × CpInfo)) (last : Nat) : Array CpInfo := ⟨poolList es last⟩
def fileOf (pool : Array CpInfo) (this : Nat) (attrs : Array Attribute := #[]) (ms : Array MethodInfo := #[]) (fl : Nat := 33) (sup : Nat := 0) (ifs : Array Nat := #[]) (fds : Array FieldInfo := #[]) : ClassFile where
  minorVersion := 0
  majorVersion := 65
  constantPool := pool
  accessFlags := fl
  thisClass := this
  superClass := sup
  interfaces := ifs
  fields := fds
  methods := ms
  attributes := attrs
def plain (name : String) (sup : Option ClassId) : Class where
  name := name
  kind := .ordinary
  loader := none
  accessFlags := 33
  super := sup
  interfaces := #[]
  cf := none
  fields := #[]
  methods := #[]
  instanceTypes := #[]
  staticTypes := #[]
  resolved := #[]
  callSites := []
  init := .initialized
  statics := none
  mirror := none

def pool0 : Array CpInfo := pool [(5, u "<init>"), (0, u "()V"), (1, .class_ 10), (1, u "java/lang/Object")] 113

def k0c0 : Code := { maxStack := 0, maxLocals := 1, code := object_method_1_code, exceptionTable := #[], attributes := #[] }
def k0m0 : Method := { name := "<init>", desc := "()V", sig := { parameters := [], returnType := none }, accessFlags := 1, code := some k0c0 }
/-- java/lang/Object -/
def k0 : Class := { plain "java/lang/Object" none with
  accessFlags := 33
  interfaces := #[]
  cf := some (fileOf pool0 8 #[] #[{ accessFlags := 1, nameIndex := 5, descriptorIndex := 6, attributes := #[] }] 33 0 #[] #[])
  fields := #[]
  methods := #[k0m0]
  instanceTypes := #[]
  staticTypes := #[]
  resolved := Array.replicate 124 none
  statics := none }

def pool1 : Array CpInfo := pool [(2, .class_ 4), (1, u "java/lang/Object"), (0, u "<init>"), (0, u "()V"), (0, .integer 2147483647), (0, .integer 65535), (0, .methodref 10 11), (0, .class_ 12), (0, .nameAndType 13 14), (0, u "com/example/rummage/rummage/AutomatonBorderPinLaw"), (0, u "make"), (0, u "([II)[I"), (0, .methodref 10 16), (0, .nameAndType 17 18), (0, u "isBorder"), (0, u "([III)Z"), (0, .class_ 20), (0, u "com/example/rummage/rummage/Automaton"), (0, .methodref 19 22), (0, .nameAndType 5 23), (0, u "([I)V"), (0, .methodref 19 25), (0, .nameAndType 26 27), (0, u "border"), (0, u "()I"), (2, u "law"), (0, u "(IIII)Z")] 5

def k1m0 : Method := { name := "<init>", desc := "()V", sig := { parameters := [], returnType := none }, accessFlags := 1, code := none }
def k1c1 : Code := { maxStack := 4, maxLocals := 11, code := code, exceptionTable := #[], attributes := #[] }
def k1m1 : Method := { name := "law", desc := "(IIII)Z", sig := { parameters := [.int, .int, .int, .int], returnType := some .boolean }, accessFlags := 9, code := some k1c1 }
def k1c2 : Code := { maxStack := 5, maxLocals := 2, code := method_3_code, exceptionTable := #[], attributes := #[] }
def k1m2 : Method := { name := "make", desc := "([II)[I", sig := { parameters := [(.array .int), .int], returnType := some (.array .int) }, accessFlags := 10, code := some k1c2 }
def k1c3 : Code := { maxStack := 4, maxLocals := 4, code := method_4_code, exceptionTable := #[], attributes := #[] }
def k1m3 : Method := { name := "isBorder", desc := "([III)Z", sig := { parameters := [(.array .int), .int, .int], returnType := some .boolean }, accessFlags := 10, code := some k1c3 }
/-- com/example/rummage/rummage/AutomatonBorderPinLaw -/
def k1 : Class := { plain "com/example/rummage/rummage/AutomatonBorderPinLaw" (some 0) with
  accessFlags := 49
  interfaces := #[]
  cf := some (fileOf pool1 10 #[] #[{ accessFlags := 1, nameIndex := 5, descriptorIndex := 6, attributes := #[] }, { accessFlags := 9, nameIndex := 30, descriptorIndex := 31, attributes := #[] }, { accessFlags := 10, nameIndex := 13, descriptorIndex := 14, attributes := #[] }, { accessFlags := 10, nameIndex := 17, descriptorIndex := 18, attributes := #[] }] 49 2 #[] #[])
  fields := #[]
  methods := #[k1m0, k1m1, k1m2, k1m3]
  instanceTypes := #[]
  staticTypes := #[]
  resolved := Array.replicate 37 none
  statics := none }

def pool2 : Array CpInfo := pool [(1, .methodref 2 3), (0, .class_ 4), (0, .nameAndType 5 6), (0, u "com/example/rummage/rummage/PrefixTable"), (0, u "of"), (0, u "([I)[I"), (0, .methodref 8 9), (0, .class_ 10), (0, .nameAndType 11 12), (0, u "com/example/rummage/rummage/Automaton"), (0, u "<init>"), (0, u "([I[I)V"), (0, .methodref 8 14), (0, .nameAndType 15 16), (0, u "fallbacks"), (0, u "([I[I)[I"), (0, .methodref 8 18), (0, .nameAndType 11 19), (0, u "([I[I[I)V"), (0, .invokeDynamic 0 21), (0, .nameAndType 22 23), (0, u "applyAsInt"), (0, u "([I[I)Ljava/util/function/IntBinaryOperator;"), (0, .methodref 25 26), (0, .class_ 27), (0, .nameAndType 5 28), (0, u "com/example/rummage/rummage/PairSteps"), (0, u "([ILjava/util/function/IntBinaryOperator;)Lcom/example/rummage/rummage/PairSteps;"), (0, .methodref 8 30), (0, .nameAndType 11 31), (0, u "([I[I[ILcom/example/rummage/rummage/PairSteps;Z)V"), (0, .methodref 33 34), (0, .class_ 35), (0, .nameAndType 11 36), (0, u "java/lang/Object"), (0, u "()V"), (0, .fieldref 8 38), (0, .nameAndType 39 40), (0, u "pattern"), (0, u "[I"), (0, .fieldref 8 42), (0, .nameAndType 43 40), (0, u "table"), (0, .fieldref 8 45), (0, .nameAndType 46 40), (0, u "fallback"), (0, .fieldref 8 48), (0, .nameAndType 49 50), (0, u "pairSteps"), (0, u "Lcom/example/rummage/rummage/PairSteps;"), (0, .fieldref 8 52), (0, .nameAndType 53 54), (0, u "afterHit"), (0, u "I"), (0, .methodref 8 56), (0, .nameAndType 57 58), (0, u "openingRun"), (0, u "([I)I"), (0, .fieldref 8 60), (0, .nameAndType 61 54), (0, u "run"), (5, .methodref 8 68), (0, .nameAndType 69 70), (0, u "advance"), (0, u "([I[III)I"), (0, u "([I)V"), (6, u "()I"), (2, u "border"), (1, u "(II)I"), (0, u "lambda$new$0"), (3, .methodType 83), (0, .methodHandle 6 90), (0, .methodref 8 91), (0, .nameAndType 84 70), (0, .methodHandle 6 93), (0, .methodref 94 95), (0, .class_ 96), (0, .nameAndType 97 98), (0, u "java/lang/invoke/LambdaMetafactory"), (0, u "metafactory"), (0, u "(Ljava/lang/invoke/MethodHandles$Lookup;Ljava/lang/String;Ljava/lang/invoke/MethodType;Ljava/lang/invoke/MethodType;Ljava/lang/invoke/MethodHandle;Ljava/lang/invoke/MethodType;)Ljava/lang/invoke/CallSite;")] 6

def k2c0 : Code := { maxStack := 3, maxLocals := 2, code := prog_1_method_1_code, exceptionTable := #[], attributes := #[] }
def k2m0 : Method := { name := "<init>", desc := "([I)V", sig := { parameters := [(.array .int)], returnType := none }, accessFlags := 0, code := some k2c0 }
def k2c1 : Code := { maxStack := 5, maxLocals := 3, code := prog_1_method_2_code, exceptionTable := #[], attributes := #[] }
def k2m1 : Method := { name := "<init>", desc := "([I[I)V", sig := { parameters := [(.array .int), (.array .int)], returnType := none }, accessFlags := 2, code := some k2c1 }
def k2c2 : Code := { maxStack := 7, maxLocals := 4, code := prog_1_method_3_code, exceptionTable := #[], attributes := #[] }
def k2m2 : Method := { name := "<init>", desc := "([I[I[I)V", sig := { parameters := [(.array .int), (.array .int), (.array .int)], returnType := none }, accessFlags := 2, code := some k2c2 }
def k2c3 : Code := { maxStack := 4, maxLocals := 6, code := prog_1_method_4_code, exceptionTable := #[], attributes := #[] }
def k2m3 : Method := { name := "<init>", desc := "([I[I[ILcom/example/rummage/rummage/PairSteps;Z)V", sig := { parameters := [(.array .int), (.array .int), (.array .int), (.object "com/example/rummage/rummage/PairSteps"), .boolean], returnType := none }, accessFlags := 2, code := some k2c3 }
def k2c4 : Code := { maxStack := 3, maxLocals := 1, code := prog_1_method_9_code, exceptionTable := #[], attributes := #[] }
def k2m4 : Method := { name := "border", desc := "()I", sig := { parameters := [], returnType := some .int }, accessFlags := 0, code := some k2c4 }
def k2c5 : Code := { maxStack := 2, maxLocals := 4, code := prog_1_method_14_code, exceptionTable := #[], attributes := #[] }
def k2m5 : Method := { name := "advance", desc := "([I[III)I", sig := { parameters := [(.array .int), (.array .int), .int, .int], returnType := some .int }, accessFlags := 10, code := some k2c5 }
def k2c6 : Code := { maxStack := 5, maxLocals := 5, code := prog_1_method_15_code, exceptionTable := #[], attributes := #[] }
def k2m6 : Method := { name := "fallbacks", desc := "([I[I)[I", sig := { parameters := [(.array .int), (.array .int)], returnType := some (.array .int) }, accessFlags := 10, code := some k2c6 }
def k2c7 : Code := { maxStack := 3, maxLocals := 2, code := prog_1_method_16_code, exceptionTable := #[], attributes := #[] }
def k2m7 : Method := { name := "openingRun", desc := "([I)I", sig := { parameters := [(.array .int)], returnType := some .int }, accessFlags := 10, code := some k2c7 }
def k2c8 : Code := { maxStack := 4, maxLocals := 4, code := prog_1_method_17_code, exceptionTable := #[], attributes := #[] }
def k2m8 : Method := { name := "lambda$new$0", desc := "([I[III)I", sig := { parameters := [(.array .int), (.array .int), .int, .int], returnType := some .int }, accessFlags := 4106, code := some k2c8 }
/-- com/example/rummage/rummage/Automaton -/
def k2 : Class := { plain "com/example/rummage/rummage/Automaton" (some 0) with
  accessFlags := 48
  interfaces := #[]
  cf := some (fileOf pool2 8 #[.bootstrapMethods #[⟨92, #[88, 89, 88]⟩]] #[{ accessFlags := 0, nameIndex := 11, descriptorIndex := 71, attributes := #[] }, { accessFlags := 2, nameIndex := 11, descriptorIndex := 12, attributes := #[] }, { accessFlags := 2, nameIndex := 11, descriptorIndex := 19, attributes := #[] }, { accessFlags := 2, nameIndex := 11, descriptorIndex := 31, attributes := #[] }, { accessFlags := 0, nameIndex := 81, descriptorIndex := 78, attributes := #[] }, { accessFlags := 10, nameIndex := 69, descriptorIndex := 70, attributes := #[] }, { accessFlags := 10, nameIndex := 15, descriptorIndex := 16, attributes := #[] }, { accessFlags := 10, nameIndex := 57, descriptorIndex := 58, attributes := #[] }, { accessFlags := 4106, nameIndex := 84, descriptorIndex := 70, attributes := #[] }] 48 33 #[] #[{ accessFlags := 18, nameIndex := 39, descriptorIndex := 40, attributes := #[] }, { accessFlags := 18, nameIndex := 43, descriptorIndex := 40, attributes := #[] }, { accessFlags := 18, nameIndex := 46, descriptorIndex := 40, attributes := #[] }, { accessFlags := 18, nameIndex := 49, descriptorIndex := 50, attributes := #[] }, { accessFlags := 18, nameIndex := 53, descriptorIndex := 54, attributes := #[] }, { accessFlags := 18, nameIndex := 61, descriptorIndex := 54, attributes := #[] }])
  fields := #[{ name := "pattern", type := (.array .int), accessFlags := 18, slot := 0, constantValue := 0 }, { name := "table", type := (.array .int), accessFlags := 18, slot := 1, constantValue := 0 }, { name := "fallback", type := (.array .int), accessFlags := 18, slot := 2, constantValue := 0 }, { name := "pairSteps", type := (.object "com/example/rummage/rummage/PairSteps"), accessFlags := 18, slot := 3, constantValue := 0 }, { name := "afterHit", type := .int, accessFlags := 18, slot := 4, constantValue := 0 }, { name := "run", type := .int, accessFlags := 18, slot := 5, constantValue := 0 }]
  methods := #[k2m0, k2m1, k2m2, k2m3, k2m4, k2m5, k2m6, k2m7, k2m8]
  instanceTypes := #[(.array .int), (.array .int), (.array .int), (.object "com/example/rummage/rummage/PairSteps"), .int, .int]
  staticTypes := #[]
  resolved := Array.replicate 105 none
  callSites := [(2, 7, .makes 12)]
  statics := none }

def pool3 : Array CpInfo := pool [(2, .class_ 4), (1, u "java/lang/Object"), (0, u "<init>"), (0, u "()V"), (0, .class_ 8), (0, u "com/example/rummage/rummage/PrefixTable"), (2, u "of"), (0, u "([I)[I")] 5

def k3m0 : Method := { name := "<init>", desc := "()V", sig := { parameters := [], returnType := none }, accessFlags := 2, code := none }
def k3c1 : Code := { maxStack := 3, maxLocals := 5, code := prog_20_method_2_code, exceptionTable := #[], attributes := #[] }
def k3m1 : Method := { name := "of", desc := "([I)[I", sig := { parameters := [(.array .int)], returnType := some (.array .int) }, accessFlags := 8, code := some k3c1 }
/-- com/example/rummage/rummage/PrefixTable -/
def k3 : Class := { plain "com/example/rummage/rummage/PrefixTable" (some 0) with
  accessFlags := 48
  interfaces := #[]
  cf := some (fileOf pool3 7 #[] #[{ accessFlags := 2, nameIndex := 5, descriptorIndex := 6, attributes := #[] }, { accessFlags := 8, nameIndex := 11, descriptorIndex := 12, attributes := #[] }] 48 2 #[] #[])
  fields := #[]
  methods := #[k3m0, k3m1]
  instanceTypes := #[]
  staticTypes := #[]
  resolved := Array.replicate 18 none
  statics := none }

def pool4 : Array CpInfo := pool [(1, .class_ 2), (0, u "java/util/function/IntBinaryOperator"), (0, .class_ 4), (0, u "java/lang/Object"), (0, u "applyAsInt"), (0, u "(II)I")] 4

def k4m0 : Method := { name := "applyAsInt", desc := "(II)I", sig := { parameters := [.int, .int], returnType := some .int }, accessFlags := 1025, code := none }
/-- java/util/function/IntBinaryOperator -/
def k4 : Class := { plain "java/util/function/IntBinaryOperator" (some 0) with
  accessFlags := 1537
  interfaces := #[]
  cf := some (fileOf pool4 1 #[] #[{ accessFlags := 1025, nameIndex := 5, descriptorIndex := 6, attributes := #[] }] 1537 3 #[] #[])
  fields := #[]
  methods := #[k4m0]
  instanceTypes := #[]
  staticTypes := #[]
  resolved := Array.replicate 11 none
  statics := none }

def pool5 : Array CpInfo := pool [(1, .methodref 2 3), (0, .class_ 4), (0, .nameAndType 5 6), (0, u "java/lang/Object"), (0, u "<init>"), (0, u "()V"), (0, .fieldref 8 9), (0, .class_ 10), (0, .nameAndType 11 12), (0, u "com/example/rummage/rummage/PairSteps"), (0, u "length"), (0, u "I"), (0, .fieldref 8 14), (0, .nameAndType 15 16), (0, u "classes"), (0, u "[B"), (0, .fieldref 8 18), (0, .nameAndType 19 12), (0, u "classCount"), (0, .fieldref 8 21), (0, .nameAndType 22 12), (0, u "shift"), (0, .fieldref 8 24), (0, .nameAndType 25 26), (0, u "steps"), (0, u "[I"), (0, .interfaceMethodref 28 29), (0, .class_ 30), (0, .nameAndType 31 32), (0, u "java/util/function/IntBinaryOperator"), (0, u "applyAsInt"), (0, u "(II)I"), (0, .methodref 8 34), (0, .nameAndType 5 35), (0, u "(I[BII[I)V"), (29, u "MOST_STEPS"), (2, u "FIRST_ENDS"), (1, u "SECOND_ENDS"), (1, u "STOPPED"), (2, u "of"), (0, u "([ILjava/util/function/IntBinaryOperator;)Lcom/example/rummage/rummage/PairSteps;")] 15

def k5c0 : Code := { maxStack := 2, maxLocals := 6, code := prog_19_method_1_code, exceptionTable := #[], attributes := #[] }
def k5m0 : Method := { name := "<init>", desc := "(I[BII[I)V", sig := { parameters := [.int, (.array .byte), .int, .int, (.array .int)], returnType := none }, accessFlags := 2, code := some k5c0 }
def k5c1 : Code := { maxStack := 7, maxLocals := 13, code := prog_19_method_2_code, exceptionTable := #[], attributes := #[] }
def k5m1 : Method := { name := "of", desc := "([ILjava/util/function/IntBinaryOperator;)Lcom/example/rummage/rummage/PairSteps;", sig := { parameters := [(.array .int), (.object "java/util/function/IntBinaryOperator")], returnType := some (.object "com/example/rummage/rummage/PairSteps") }, accessFlags := 8, code := some k5c1 }
/-- com/example/rummage/rummage/PairSteps -/
def k5 : Class := { plain "com/example/rummage/rummage/PairSteps" (some 0) with
  accessFlags := 48
  interfaces := #[]
  cf := some (fileOf pool5 8 #[] #[{ accessFlags := 2, nameIndex := 5, descriptorIndex := 35, attributes := #[] }, { accessFlags := 8, nameIndex := 75, descriptorIndex := 76, attributes := #[] }] 48 2 #[] #[{ accessFlags := 26, nameIndex := 65, descriptorIndex := 12, attributes := #[] }, { accessFlags := 26, nameIndex := 68, descriptorIndex := 12, attributes := #[] }, { accessFlags := 26, nameIndex := 70, descriptorIndex := 12, attributes := #[] }, { accessFlags := 24, nameIndex := 72, descriptorIndex := 12, attributes := #[] }, { accessFlags := 18, nameIndex := 11, descriptorIndex := 12, attributes := #[] }, { accessFlags := 18, nameIndex := 15, descriptorIndex := 16, attributes := #[] }, { accessFlags := 18, nameIndex := 19, descriptorIndex := 12, attributes := #[] }, { accessFlags := 18, nameIndex := 22, descriptorIndex := 12, attributes := #[] }, { accessFlags := 18, nameIndex := 25, descriptorIndex := 26, attributes := #[] }])
  fields := #[{ name := "MOST_STEPS", type := .int, accessFlags := 26, slot := 0, constantValue := 0 }, { name := "FIRST_ENDS", type := .int, accessFlags := 26, slot := 1, constantValue := 0 }, { name := "SECOND_ENDS", type := .int, accessFlags := 26, slot := 2, constantValue := 0 }, { name := "STOPPED", type := .int, accessFlags := 24, slot := 3, constantValue := 0 }, { name := "length", type := .int, accessFlags := 18, slot := 0, constantValue := 0 }, { name := "classes", type := (.array .byte), accessFlags := 18, slot := 1, constantValue := 0 }, { name := "classCount", type := .int, accessFlags := 18, slot := 2, constantValue := 0 }, { name := "shift", type := .int, accessFlags := 18, slot := 3, constantValue := 0 }, { name := "steps", type := (.array .int), accessFlags := 18, slot := 4, constantValue := 0 }]
  methods := #[k5m0, k5m1]
  instanceTypes := #[.int, (.array .byte), .int, .int, (.array .int)]
  staticTypes := #[.int, .int, .int, .int]
  resolved := Array.replicate 92 none
  statics := none }

def pool6 : Array CpInfo := pool [(1, u "java/lang/Cloneable"), (0, .class_ 1), (0, u "java/lang/Object"), (0, .class_ 3)] 3

/-- java/lang/Cloneable -/
def k6 : Class := { plain "java/lang/Cloneable" (some 0) with
  accessFlags := 1537
  interfaces := #[]
  cf := some (fileOf pool6 2 #[] #[] 1537 4 #[] #[])
  fields := #[]
  methods := #[]
  instanceTypes := #[]
  staticTypes := #[]
  resolved := Array.replicate 8 none
  statics := none }

def pool7 : Array CpInfo := pool [(1, u "java/io/Serializable"), (0, .class_ 1), (0, u "java/lang/Object"), (0, .class_ 3)] 3

/-- java/io/Serializable -/
def k7 : Class := { plain "java/io/Serializable" (some 0) with
  accessFlags := 1537
  interfaces := #[]
  cf := some (fileOf pool7 2 #[] #[] 1537 4 #[] #[])
  fields := #[]
  methods := #[]
  instanceTypes := #[]
  staticTypes := #[]
  resolved := Array.replicate 8 none
  statics := none }

/-- the primitive byte -/
def k8 : Class := { plain "byte" none with kind := .primitive 'B', accessFlags := 0x411 }
/-- [B -/
def k9 : Class := { plain "[B" (some 0) with kind := .array 8 .byte, interfaces := #[6, 7], accessFlags := 1041 }

/-- the primitive int -/
def k10 : Class := { plain "int" none with kind := .primitive 'I', accessFlags := 0x411 }
/-- [I -/
def k11 : Class := { plain "[I" (some 0) with kind := .array 10 .int, interfaces := #[6, 7], accessFlags := 1041 }

def classes0 : Array Class := #[k0, k1, k2, k3, k4, k5, k6, k7, k8, k9, k10, k11]
/-- the class that the rule has made for the site at 7 of com/example/rummage/rummage/Automaton.<init> -/
def k12 : Class := Jvm.LamKit.madeRec { classes := classes0 } "com/example/rummage/rummage/Automaton" (Jvm.Lambda.Shape.mk "java/util/function/IntBinaryOperator" "applyAsInt" (Jvm.ClassFile.MethodDescriptor.mk ([Jvm.ClassFile.FieldType.int, Jvm.ClassFile.FieldType.int] : List Jvm.ClassFile.FieldType) (Option.some Jvm.ClassFile.FieldType.int)) ([(Jvm.ClassFile.FieldType.array Jvm.ClassFile.FieldType.int), (Jvm.ClassFile.FieldType.array Jvm.ClassFile.FieldType.int)] : List Jvm.ClassFile.FieldType) (6 : Nat) "com/example/rummage/rummage/Automaton" "lambda$new$0" (Jvm.ClassFile.MethodDescriptor.mk ([(Jvm.ClassFile.FieldType.array Jvm.ClassFile.FieldType.int), (Jvm.ClassFile.FieldType.array Jvm.ClassFile.FieldType.int), Jvm.ClassFile.FieldType.int, Jvm.ClassFile.FieldType.int] : List Jvm.ClassFile.FieldType) (Option.some Jvm.ClassFile.FieldType.int)) false (Jvm.ClassFile.MethodDescriptor.mk ([Jvm.ClassFile.FieldType.int, Jvm.ClassFile.FieldType.int] : List Jvm.ClassFile.FieldType) (Option.some Jvm.ClassFile.FieldType.int))) 12

def heap : Heap := #[]
def classes : Array Class := #[k0, k1, k2, k3, k4, k5, k6, k7, k8, k9, k10, k11, k12]
def interned : List (Array UInt16 × Addr) := []
def slotsUsed : Nat := 0
def theMethod : MethodId := ⟨1, 1⟩
def args0 : Array Value := #[.int 5, .int 7, .int 9, .int 11]
def aboutOver (below : List Frame) : State where
  vm := { classes := classes, interned := interned.toArray }
  heap := heap
  slotsUsed := slotsUsed
  threads := #[{ frames := .invoking theMethod args0 :: below }]
def below0 : List Frame := [.native { method := ⟨0, 0⟩, args := #[] }]
def about1 : State := aboutOver below0
def p0 : Program := .bare "" "" ""
def e0 : Env := launch0.env 0 0 0
theorem w_frames : about1.frames = Frame.invoking theMethod args0 :: below0 := rfl
set_option maxRecDepth 65536 in
theorem w_args : argsFit about1.vm theMethod args0 = true := by decide +kernel
set_option maxRecDepth 65536 in
theorem w_heap : heapFits about1 = true := by decide +kernel
set_option maxRecDepth 65536 in
theorem w_runnable : about1.curStatus? = some .runnable := by decide +kernel
set_option maxRecDepth 65536 in
theorem w_alone : about1.alone = true := by decide +kernel
set_option maxRecDepth 65536 in
theorem w_named : about1.methodNamed? x = some theMethod := by decide +kernel
set_option maxRecDepth 65536 in
theorem w_hears : about1.hears theMethod below0 = true := by decide +kernel
set_option maxRecDepth 65536 in
theorem w_ripe : about1.ripe theMethod args0 below0 = true := by decide +kernel
theorem w_running : about1.status = .running := rfl
set_option maxRecDepth 65536 in
theorem w_room : about1.hasRoom e0.platform room_1 = true :=
  launch0.hasRoom_least _ room_1 (by decide +kernel) (by decide +kernel) (by decide +kernel) (by decide +kernel) (by decide +kernel) (by decide +kernel)
theorem allAtoms_all (ts : List Jvm.Cond) (a : Array Jvm.Value) (st : Jvm.State) : (allAtoms ts).before a st = ts.all (fun c => c.before a st) := by
  induction ts with
  | nil => rfl
  | cons c t ih =>
    show (Jvm.Cond.and c (allAtoms t)).before a st = _
    rw [Jvm.Cond.before_and, ih, List.all_cons]
def words1 : List Jvm.Cond := Jvm.Cond.code x code maxLocals ret :: tables_1
/-- a 'code' word, met by the world's own term for the bytes: nothing is compared byte by byte -/
theorem code_word {y : MethodName} {bytes : ByteArray} {mx : Nat} {rt : Option FieldType} {a : Array Value} {s : State} {m : MethodId} {meth : Method} {c : Code} (h1 : s.methodNamed? y = some m) (h2 : s.vm.method? m = some meth) (h3 : meth.code = some c) (h4 : c.code = bytes)
    (h5 : (c.maxLocals == mx && c.exceptionTable.isEmpty && decide (c.maxStack ≤ mostOperands) && decide (meth.sig.returnType = rt) && !meth.locks && decide (parseMethodDescriptor y.desc = some meth.sig)) = true) : (Jvm.Cond.code y bytes mx rt).before a s = true := by
  simp only [Bool.and_eq_true, beq_iff_eq, Bool.not_eq_true', decide_eq_true_eq] at h5
  obtain ⟨⟨⟨⟨⟨g1, g2⟩, g3⟩, g4⟩, g5⟩, g6⟩ := h5
  simp [Cond.before, Cond.holds, Cond.value, h1, h2, h3, h4, g1, g2, g3, g4, g5, g6]
def isCode : Jvm.Cond → Bool
  | .code _ _ _ _ => true
  | _ => false
theorem all_split {L : List Jvm.Cond} {P : Jvm.Cond → Bool} (h1 : L.all (fun c => isCode c || P c) = true) (h2 : ∀ c ∈ L.filter isCode, P c = true) : L.all P = true := by
  refine List.all_eq_true.mpr fun c hc => ?_
  have h := List.all_eq_true.mp h1 c hc
  rcases Bool.eq_false_or_eq_true (isCode c) with hi | hi
  · exact h2 c (List.mem_filter.mpr ⟨hc, hi⟩)
  · simpa [hi] using h
set_option maxRecDepth 65536 in
theorem w_c0 : (Jvm.Cond.code x code maxLocals ret).before args0 about1 = true := code_word (m := ⟨1, 1⟩) (meth := k1m1) (c := k1c1) (by decide +kernel) rfl rfl rfl (by decide +kernel)
set_option maxRecDepth 65536 in
theorem w_c1 : (Jvm.Cond.code ({ cls := "com/example/rummage/rummage/AutomatonBorderPinLaw", name := "make", desc := "([II)[I" } : Jvm.MethodName) method_3_code (2 : Nat) (Option.some (Jvm.ClassFile.FieldType.array Jvm.ClassFile.FieldType.int))).before args0 about1 = true := code_word (m := ⟨1, 2⟩) (meth := k1m2) (c := k1c2) (by decide +kernel) rfl rfl rfl (by decide +kernel)
set_option maxRecDepth 65536 in
theorem w_c2 : (Jvm.Cond.code ({ cls := "com/example/rummage/rummage/AutomatonBorderPinLaw", name := "isBorder", desc := "([III)Z" } : Jvm.MethodName) method_4_code (4 : Nat) (Option.some Jvm.ClassFile.FieldType.boolean)).before args0 about1 = true := code_word (m := ⟨1, 3⟩) (meth := k1m3) (c := k1c3) (by decide +kernel) rfl rfl rfl (by decide +kernel)
set_option maxRecDepth 65536 in
theorem w_c3 : (Jvm.Cond.code ({ cls := "com/example/rummage/rummage/Automaton", name := "<init>", desc := "([I)V" } : Jvm.MethodName) prog_1_method_1_code (2 : Nat) (Option.none : Option Jvm.ClassFile.FieldType)).before args0 about1 = true := code_word (m := ⟨2, 0⟩) (meth := k2m0) (c := k2c0) (by decide +kernel) rfl rfl rfl (by decide +kernel)
set_option maxRecDepth 65536 in
theorem w_c4 : (Jvm.Cond.code ({ cls := "com/example/rummage/rummage/PrefixTable", name := "of", desc := "([I)[I" } : Jvm.MethodName) prog_20_method_2_code (5 : Nat) (Option.some (Jvm.ClassFile.FieldType.array Jvm.ClassFile.FieldType.int))).before args0 about1 = true := code_word (m := ⟨3, 1⟩) (meth := k3m1) (c := k3c1) (by decide +kernel) rfl rfl rfl (by decide +kernel)
set_option maxRecDepth 65536 in
theorem w_c5 : (Jvm.Cond.code ({ cls := "com/example/rummage/rummage/Automaton", name := "<init>", desc := "([I[I)V" } : Jvm.MethodName) prog_1_method_2_code (3 : Nat) (Option.none : Option Jvm.ClassFile.FieldType)).before args0 about1 = true := code_word (m := ⟨2, 1⟩) (meth := k2m1) (c := k2c1) (by decide +kernel) rfl rfl rfl (by decide +kernel)
set_option maxRecDepth 65536 in
theorem w_c6 : (Jvm.Cond.code ({ cls := "com/example/rummage/rummage/Automaton", name := "fallbacks", desc := "([I[I)[I" } : Jvm.MethodName) prog_1_method_15_code (5 : Nat) (Option.some (Jvm.ClassFile.FieldType.array Jvm.ClassFile.FieldType.int))).before args0 about1 = true := code_word (m := ⟨2, 6⟩) (meth := k2m6) (c := k2c6) (by decide +kernel) rfl rfl rfl (by decide +kernel)
set_option maxRecDepth 65536 in
theorem w_c7 : (Jvm.Cond.code ({ cls := "com/example/rummage/rummage/Automaton", name := "<init>", desc := "([I[I[I)V" } : Jvm.MethodName) prog_1_method_3_code (4 : Nat) (Option.none : Option Jvm.ClassFile.FieldType)).before args0 about1 = true := code_word (m := ⟨2, 2⟩) (meth := k2m2) (c := k2c2) (by decide +kernel) rfl rfl rfl (by decide +kernel)
set_option maxRecDepth 65536 in
theorem w_c8 : (Jvm.Cond.code ({ cls := "com/example/rummage/rummage/PairSteps", name := "of", desc := "([ILjava/util/function/IntBinaryOperator;)Lcom/example/rummage/rummage/PairSteps;" } : Jvm.MethodName) prog_19_method_2_code (13 : Nat) (Option.some (Jvm.ClassFile.FieldType.object "com/example/rummage/rummage/PairSteps"))).before args0 about1 = true := code_word (m := ⟨5, 1⟩) (meth := k5m1) (c := k5c1) (by decide +kernel) rfl rfl rfl (by decide +kernel)
set_option maxRecDepth 65536 in
theorem w_c9 : (Jvm.Cond.code ({ cls := "com/example/rummage/rummage/Automaton", name := "<init>", desc := "([I[I[ILcom/example/rummage/rummage/PairSteps;Z)V" } : Jvm.MethodName) prog_1_method_4_code (6 : Nat) (Option.none : Option Jvm.ClassFile.FieldType)).before args0 about1 = true := code_word (m := ⟨2, 3⟩) (meth := k2m3) (c := k2c3) (by decide +kernel) rfl rfl rfl (by decide +kernel)
set_option maxRecDepth 65536 in
theorem w_c10 : (Jvm.Cond.code ({ cls := "java/lang/Object", name := "<init>", desc := "()V" } : Jvm.MethodName) object_method_1_code (1 : Nat) (Option.none : Option Jvm.ClassFile.FieldType)).before args0 about1 = true := code_word (m := ⟨0, 0⟩) (meth := k0m0) (c := k0c0) (by decide +kernel) rfl rfl rfl (by decide +kernel)
set_option maxRecDepth 65536 in
theorem w_c11 : (Jvm.Cond.code ({ cls := "com/example/rummage/rummage/Automaton", name := "openingRun", desc := "([I)I" } : Jvm.MethodName) prog_1_method_16_code (2 : Nat) (Option.some Jvm.ClassFile.FieldType.int)).before args0 about1 = true := code_word (m := ⟨2, 7⟩) (meth := k2m7) (c := k2c7) (by decide +kernel) rfl rfl rfl (by decide +kernel)
set_option maxRecDepth 65536 in
theorem w_c12 : (Jvm.Cond.code ({ cls := "com/example/rummage/rummage/Automaton", name := "border", desc := "()I" } : Jvm.MethodName) prog_1_method_9_code (1 : Nat) (Option.some Jvm.ClassFile.FieldType.int)).before args0 about1 = true := code_word (m := ⟨2, 4⟩) (meth := k2m4) (c := k2c4) (by decide +kernel) rfl rfl rfl (by decide +kernel)
set_option maxRecDepth 65536 in
theorem w_c13 : (Jvm.Cond.code ({ cls := "com/example/rummage/rummage/Automaton", name := "lambda$new$0", desc := "([I[III)I" } : Jvm.MethodName) prog_1_method_17_code (4 : Nat) (Option.some Jvm.ClassFile.FieldType.int)).before args0 about1 = true := code_word (m := ⟨2, 8⟩) (meth := k2m8) (c := k2c8) (by decide +kernel) rfl rfl rfl (by decide +kernel)
set_option maxRecDepth 65536 in
theorem w_c14 : (Jvm.Cond.code ({ cls := "com/example/rummage/rummage/Automaton", name := "advance", desc := "([I[III)I" } : Jvm.MethodName) prog_1_method_14_code (4 : Nat) (Option.some Jvm.ClassFile.FieldType.int)).before args0 about1 = true := code_word (m := ⟨2, 5⟩) (meth := k2m5) (c := k2c5) (by decide +kernel) rfl rfl rfl (by decide +kernel)
set_option maxRecDepth 65536 in
theorem w_c15 : (Jvm.Cond.code ({ cls := "com/example/rummage/rummage/PairSteps", name := "<init>", desc := "(I[BII[I)V" } : Jvm.MethodName) prog_19_method_1_code (6 : Nat) (Option.none : Option Jvm.ClassFile.FieldType)).before args0 about1 = true := code_word (m := ⟨5, 0⟩) (meth := k5m0) (c := k5c0) (by decide +kernel) rfl rfl rfl (by decide +kernel)
def codes1 : List Jvm.Cond := [Jvm.Cond.code x code maxLocals ret, Jvm.Cond.code ({ cls := "com/example/rummage/rummage/AutomatonBorderPinLaw", name := "make", desc := "([II)[I" } : Jvm.MethodName) method_3_code (2 : Nat) (Option.some (Jvm.ClassFile.FieldType.array Jvm.ClassFile.FieldType.int)), Jvm.Cond.code ({ cls := "com/example/rummage/rummage/AutomatonBorderPinLaw", name := "isBorder", desc := "([III)Z" } : Jvm.MethodName) method_4_code (4 : Nat) (Option.some Jvm.ClassFile.FieldType.boolean), Jvm.Cond.code ({ cls := "com/example/rummage/rummage/Automaton", name := "<init>", desc := "([I)V" } : Jvm.MethodName) prog_1_method_1_code (2 : Nat) (Option.none : Option Jvm.ClassFile.FieldType), Jvm.Cond.code ({ cls := "com/example/rummage/rummage/PrefixTable", name := "of", desc := "([I)[I" } : Jvm.MethodName) prog_20_method_2_code (5 : Nat) (Option.some (Jvm.ClassFile.FieldType.array Jvm.ClassFile.FieldType.int)), Jvm.Cond.code ({ cls := "com/example/rummage/rummage/Automaton", name := "<init>", desc := "([I[I)V" } : Jvm.MethodName) prog_1_method_2_code (3 : Nat) (Option.none : Option Jvm.ClassFile.FieldType), Jvm.Cond.code ({ cls := "com/example/rummage/rummage/Automaton", name := "fallbacks", desc := "([I[I)[I" } : Jvm.MethodName) prog_1_method_15_code (5 : Nat) (Option.some (Jvm.ClassFile.FieldType.array Jvm.ClassFile.FieldType.int)), Jvm.Cond.code ({ cls := "com/example/rummage/rummage/Automaton", name := "<init>", desc := "([I[I[I)V" } : Jvm.MethodName) prog_1_method_3_code (4 : Nat) (Option.none : Option Jvm.ClassFile.FieldType), Jvm.Cond.code ({ cls := "com/example/rummage/rummage/PairSteps", name := "of", desc := "([ILjava/util/function/IntBinaryOperator;)Lcom/example/rummage/rummage/PairSteps;" } : Jvm.MethodName) prog_19_method_2_code (13 : Nat) (Option.some (Jvm.ClassFile.FieldType.object "com/example/rummage/rummage/PairSteps")), Jvm.Cond.code ({ cls := "com/example/rummage/rummage/Automaton", name := "<init>", desc := "([I[I[ILcom/example/rummage/rummage/PairSteps;Z)V" } : Jvm.MethodName) prog_1_method_4_code (6 : Nat) (Option.none : Option Jvm.ClassFile.FieldType), Jvm.Cond.code ({ cls := "java/lang/Object", name := "<init>", desc := "()V" } : Jvm.MethodName) object_method_1_code (1 : Nat) (Option.none : Option Jvm.ClassFile.FieldType), Jvm.Cond.code ({ cls := "com/example/rummage/rummage/Automaton", name := "openingRun", desc := "([I)I" } : Jvm.MethodName) prog_1_method_16_code (2 : Nat) (Option.some Jvm.ClassFile.FieldType.int), Jvm.Cond.code ({ cls := "com/example/rummage/rummage/Automaton", name := "border", desc := "()I" } : Jvm.MethodName) prog_1_method_9_code (1 : Nat) (Option.some Jvm.ClassFile.FieldType.int), Jvm.Cond.code ({ cls := "com/example/rummage/rummage/Automaton", name := "lambda$new$0", desc := "([I[III)I" } : Jvm.MethodName) prog_1_method_17_code (4 : Nat) (Option.some Jvm.ClassFile.FieldType.int), Jvm.Cond.code ({ cls := "com/example/rummage/rummage/Automaton", name := "advance", desc := "([I[III)I" } : Jvm.MethodName) prog_1_method_14_code (4 : Nat) (Option.some Jvm.ClassFile.FieldType.int), Jvm.Cond.code ({ cls := "com/example/rummage/rummage/PairSteps", name := "<init>", desc := "(I[BII[I)V" } : Jvm.MethodName) prog_19_method_1_code (6 : Nat) (Option.none : Option Jvm.ClassFile.FieldType)]
set_option maxRecDepth 65536 in
theorem codes_eq : words1.filter isCode = codes1 := rfl
theorem w_codes : ∀ c ∈ words1.filter isCode, c.before args0 about1 = true := by
  rw [codes_eq]
  intro c hc
  simp only [codes1, List.mem_cons, List.not_mem_nil, or_false] at hc
  rcases hc with rfl | rfl | rfl | rfl | rfl | rfl | rfl | rfl | rfl | rfl | rfl | rfl | rfl | rfl | rfl | rfl
  · exact w_c0
  · exact w_c1
  · exact w_c2
  · exact w_c3
  · exact w_c4
  · exact w_c5
  · exact w_c6
  · exact w_c7
  · exact w_c8
  · exact w_c9
  · exact w_c10
  · exact w_c11
  · exact w_c12
  · exact w_c13
  · exact w_c14
  · exact w_c15
set_option maxRecDepth 65536 in
theorem w_t1 : (words1.take 24).all (fun c => isCode c || c.before args0 about1) = true := by decide +kernel
set_option maxRecDepth 65536 in
theorem w_t2 : ((words1.drop 24).take 24).all (fun c => isCode c || c.before args0 about1) = true := by decide +kernel
set_option maxRecDepth 65536 in
theorem w_t3 : (((words1.drop 24).drop 24).take 24).all (fun c => isCode c || c.before args0 about1) = true := by decide +kernel
set_option maxRecDepth 65536 in
theorem w_t4 : (((words1.drop 24).drop 24).drop 24).all (fun c => isCode c || c.before args0 about1) = true := by decide +kernel
theorem w_tables : (allAtoms (Jvm.Cond.code x code maxLocals ret :: tables_1)).before args0 about1 = true := by
  rw [allAtoms_all]
  show words1.all (fun c => c.before args0 about1) = true
  refine all_split ?_ w_codes
  rw [← List.take_append_drop 24 words1, List.all_append, w_t1, ← List.take_append_drop 24 (words1.drop 24), List.all_append, w_t2, ← List.take_append_drop 24 ((words1.drop 24).drop 24), List.all_append, w_t3, w_t4]
  rfl
set_option maxRecDepth 65536 in
theorem w_case : (Jvm.Cond.and given_1 narrow_1).before args0 about1 = true := by decide +kernel
theorem w_applies : (headSpec (Jvm.Cond.code x code maxLocals ret :: tables_1) room_1).applies x e0.platform about1 = true :=
  (Spec.applies_iff w_frames).mpr ⟨w_running, w_runnable, w_alone, w_named, w_hears, w_ripe, w_room, w_tables⟩
theorem atStart : AtStart classFile x code maxLocals ret World_1 tables_1 room_1 Calls_1 rest_1 Pre_1 launch0 p0 e0 about1 theMethod args0 below0 :=
  ⟨lists_1, trivial, launch0.admits_env _ _ _, launch0.least_env, fairChoices_fair.cas, fairChoices_fair.clock, w_frames, w_args, w_heap, w_applies, trivial, trivial, w_case⟩
end start1
theorem witness_1 : WitnessClaimed_1 := ⟨start1.p0, start1.e0, start1.about1, start1.theMethod, start1.args0, start1.below0, start1.atStart⟩
end Jvm.Pilot.@@N@@
