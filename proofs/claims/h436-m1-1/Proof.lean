import JvmDerived
import JvmDerived.Pilot.@@N@@Statement
import JvmDerived.Pilot.@@N@@Code
set_option linter.unusedVariables false
set_option linter.unusedSimpArgs false
namespace Jvm.Own
open Jvm Jvm.ClassFile Sem Op Lib Jvm.Free Jvm.Stand Jvm.LawKit Jvm.RoadKit
/-- the run from A ends, and G holds of its end -/
def Runs (p : Program) (e : Env) (below : List Frame) (A : State) (G : Outcome → State → Prop) : Prop :=
  ∃ s₂ o, Steps p.tables e below A s₂ ∧ s₂.status = .running ∧ Ended s₂ below o ∧ G o s₂
section A
variable {p : Program} {e : Env} {below : List Frame} {A B : State} {G : Outcome → State → Prop}
theorem Runs.of (k : Runs p e below B G) (h : ∀ t, Steps p.tables e below B t → Steps p.tables e below A t) : Runs p e below A G := by
  obtain ⟨t, o, hs, r⟩ := k
  exact ⟨t, o, h t hs, r⟩
theorem Runs.dia {P : Prop} [Decidable P] {B : Int32 → State} {vt vf : Int32} (ht : P → Runs p e below (B vt) G → Runs p e below A G) (hf : ¬ P → Runs p e below (B vf) G → Runs p e below A G) (k : Runs p e below (B (if P then vt else vf)) G) : Runs p e below A G := by
  by_cases hc : P
  · rw [if_pos hc] at k; exact ht hc k
  · rw [if_neg hc] at k; exact hf hc k
theorem Runs.via (k : Runs p e below B G) (h : Steps p.tables e below A B) : Runs p e below A G := k.of fun _ q => h.trans q
end A
/-- what stood at h0 is written at ws alone -/
def Wrote (h0 : Heap) (ws : List Addr) (L : List Loc) : Prop := ∀ y ∈ L, y.base ∈ ws ∨ h0.size ≤ y.base
theorem Wrote.nil {h0 : Heap} {ws : List Addr} : Wrote h0 ws [] := fun _ q => nomatch q
theorem Wrote.app {h0 h : Heap} {ws ws' : List Addr} {L L' : List Loc} (N : Wrote h0 ws L) (N' : Wrote h ws' L') (hs : h0.size ≤ h.size) (hw : ∀ x ∈ ws', x ∈ ws ∨ h0.size ≤ x) : Wrote h0 ws (L ++ L') := fun y q =>
  (List.mem_append.mp q).elim (N y) fun r => (N' y r).elim (hw _) fun z => Or.inr (Nat.le_trans hs z)
theorem Wrote.snoc {h0 : Heap} {ws : List Addr} {L : List Loc} {a : Addr} {i : Nat} (N : Wrote h0 ws L) (q : a ∈ ws ∨ h0.size ≤ a) : Wrote h0 ws (L ++ [⟨a, i⟩]) := fun y r =>
  (List.mem_append.mp r).elim (N y) fun z => by cases List.mem_singleton.mp z; exact q
/-- where a walk stands: the method's own facts, the heap as it is now, what was written since h0 -/
def Here (p : Program) (l : Launch) (e : Env) (R : Room) (s : State) (m : MethodId) (args : Array Value) (below : List Frame) (meth : Method) (c : Code)
    (y : MethodName) (bytes : ByteArray) (maxL : Nat) (ret : Option FieldType) (Z : State) (h0 : Heap) (ws : List Addr) (T : State) (cells slots : Nat) (h : Heap) : Prop :=
  (p.tables.exec = Jvm.exec ∧ Z.Warmed39 s.vm ∧ c.code = bytes ∧ c.maxLocals = maxL ∧ s.vm.findClass y.cls = some m.cls ∧ meth.name = y.name ∧ meth.sig.returnType = ret ∧ meth.locks = false) ∧
  T.heap = h ∧ Keep h0 h ws ∧ ∃ locs, Stand p l e R s m args below meth c T locs cells slots ∧ Wrote h0 ws locs
/-- how a walk must end: it returns, Q holds of the result and the heap, what stood at h0 is written at ws alone -/
def Out (s : State) (h0 : Heap) (ws : List Addr) (rm : Room) (Q : Option Value → Heap → Prop) (o : Outcome) (U : State) : Prop :=
  ∃ v L, o = .returned v ∧ (Q v U.heap ∧ Keep h0 U.heap ws ∧ Wrote h0 ws L) ∧ FrameEnd s o U L rm.cells rm.slots
/-- a method's contract at the heap h0 and these arguments -/
def Ct (l : Launch) (Z : State) (y : MethodName) (bytes : ByteArray) (maxL : Nat) (ret : Option FieldType) (rm : Room) (as : Array Value) (h0 : Heap) (ws : List Addr) (Q : Option Value → Heap → Prop) : Prop :=
  ∀ wz, MetFree l y (head1 (Jvm.Cond.code y bytes maxL ret :: wz) rm) (fun a U => a = as ∧ Z.Warmed39 U.vm ∧ U.heap = h0) (fun _ _ _ _ _ => True)
    (fun _ U o U' => ∃ v L, o = .returned v ∧ (Q v U'.heap ∧ Keep h0 U'.heap ws ∧ Wrote h0 ws L) ∧ FrameEnd U o U' L rm.cells rm.slots)
section B
variable {p : Program} {l : Launch} {e : Env} {R : Room} {s : State} {m : MethodId} {args : Array Value} {below : List Frame} {meth : Method} {c : Code} {y : MethodName} {bytes : ByteArray} {maxL : Nat} {ret : Option FieldType} {Z : State} {h0 : Heap} {ws : List Addr} {T : State} {cells slots : Nat} {h : Heap} {G : Outcome → State → Prop} {a0 : Array Value}
theorem Ct.of {rm : Room} {as : Array Value} {Q : Option Value → Heap → Prop} (hp : plainFor y = true)
    (body : ∀ p e s m below meth c T, Here p l e rm s m as below meth c y bytes maxL ret Z h0 ws T 0 0 h0 → Runs p e below (T.setTop (entryFrame m as maxL)) (Out s h0 ws rm Q)) :
    Ct l Z y bytes maxL ret rm as h0 ws Q := fun wz => by
  refine MetFree.of_bodySF hp hisR ?_
  intro p e s m args below meth c s₁ Bd hml0 hP hK
  obtain ⟨rfl, hZ, hh⟩ := hP
  have e0 : s₁.heap = h0 := by rw [← hh, Bd.state]; rfl
  exact body p e s m below meth c s₁ ⟨⟨Bd.exec, hZ, Bd.bytes, hml0, findClass_of_methodNamed Bd.named, (name_of_methodNamed Bd.named Bd.method).1, Bd.returns, BodyLoose.notSynchronized Bd⟩, e0, Keep.refl _ _, [], Stand.of_body Bd, Wrote.nil⟩
theorem Ct.mono {rm : Room} {as : Array Value} {Q Q' : Option Value → Heap → Prop} (h : Ct l Z y bytes maxL ret rm as h0 ws Q) (hq : ∀ v h, Q v h → Q' v h) : Ct l Z y bytes maxL ret rm as h0 ws Q' := fun wz => by
  intro p e ha hc hk s m args below hf happ hP hK
  obtain ⟨n, o, w1, w2, w3, v, L, q1, q2, q3⟩ := h wz p e ha hc hk s m args below hf happ hP hK
  exact ⟨n, o, w1, w2, w3, v, L, q1, ⟨hq _ _ q2.1, q2.2⟩, q3⟩
/-- from one frame to another that is the same -/
theorem Runs.top {g g' : JFrame} (q : g = g') (k : Runs p e below (T.setTop g') G) : Runs p e below (T.setTop g) G := q ▸ k
theorem Here.keep (X : Here p l e R s m args below meth c y bytes maxL ret Z h0 ws T cells slots h) : Keep h0 h ws := X.2.2.1
theorem Here.hZ (X : Here p l e R s m args below meth c y bytes maxL ret Z h0 ws T cells slots h) : Z.Warmed39 s.vm := X.1.2.1
theorem Here.size (X : Here p l e R s m args below meth c y bytes maxL ret Z h0 ws T cells slots h) : h0.size ≤ h.size := X.2.2.1.1
/-- a plain step -/
theorem Here.step (X : Here p l e R s m args below meth c y bytes maxL ret Z h0 ws T cells slots h) {g g' : JFrame}
    (st : ∀ locs, p.tables.exec = Jvm.exec → c.code = bytes → Z.Warmed39 s.vm → s.vm.findClass y.cls = some m.cls → T.heap = h → Stand p l e R s m args below meth c T locs cells slots → ∀ t, Steps p.tables e below (T.setTop g') t → Steps p.tables e below (T.setTop g) t)
    (k : Runs p e below (T.setTop g') G) : Runs p e below (T.setTop g) G := by
  obtain ⟨⟨x1, x2, x3, x4, x5, x6, x7, x8⟩, x9, x10, locs, S, N⟩ := X
  exact k.of (st locs x1 x3 x2 x5 x9 S)
/-- a step that leaves the heap as it is -/
theorem Here.stepT (X : Here p l e R s m args below meth c y bytes maxL ret Z h0 ws T cells slots h) {g g' : JFrame}
    (st : ∀ locs, p.tables.exec = Jvm.exec → c.code = bytes → c.maxLocals = maxL → Z.Warmed39 s.vm → s.vm.findClass y.cls = some m.cls → T.heap = h → Stand p l e R s m args below meth c T locs cells slots → ∃ T', Stand p l e R s m args below meth c T' locs cells slots ∧ T'.heap = h ∧ ∀ t, Steps p.tables e below (T'.setTop g') t → Steps p.tables e below (T.setTop g) t)
    (k : ∀ T', Here p l e R s m args below meth c y bytes maxL ret Z h0 ws T' cells slots h → Runs p e below (T'.setTop g') G) : Runs p e below (T.setTop g) G := by
  obtain ⟨⟨x1, x2, x3, x4, x5, x6, x7, x8⟩, x9, x10, locs, S, N⟩ := X
  obtain ⟨T', S', e', q⟩ := st locs x1 x3 x4 x2 x5 x9 S
  exact (k T' ⟨⟨x1, x2, x3, x4, x5, x6, x7, x8⟩, e', x10, locs, S', N⟩).of q
/-- a step that writes one slot -/
theorem Here.stepW (X : Here p l e R s m args below meth c y bytes maxL ret Z h0 ws T cells slots h) {g g' : JFrame} {a : Addr} {i : Nat} {v : Value} (hn : a ∈ ws ∨ h0.size ≤ a)
    (st : ∀ locs, p.tables.exec = Jvm.exec → c.code = bytes → meth.name = y.name → Z.Warmed39 s.vm → s.vm.findClass y.cls = some m.cls → T.heap = h → Stand p l e R s m args below meth c T locs cells slots → ∃ T' h', Stand p l e R s m args below meth c T' (locs ++ [⟨a, i⟩]) cells slots ∧ T'.heap = h' ∧ Wr h h' a i v ∧ ∀ t, Steps p.tables e below (T'.setTop g') t → Steps p.tables e below (T.setTop g) t)
    (k : ∀ T' h', Here p l e R s m args below meth c y bytes maxL ret Z h0 ws T' cells slots h' → Wr h h' a i v → Runs p e below (T'.setTop g') G) : Runs p e below (T.setTop g) G := by
  obtain ⟨⟨x1, x2, x3, x4, x5, x6, x7, x8⟩, x9, x10, locs, S, N⟩ := X
  obtain ⟨T', h', S', e', W, q⟩ := st locs x1 x3 x6 x2 x5 x9 S
  exact (k T' h' ⟨⟨x1, x2, x3, x4, x5, x6, x7, x8⟩, e', x10.wr W hn, _, S', N.snoc hn⟩ W).of q
theorem Here.iload (X : Here p l e R s m args below meth c y bytes maxL ret Z h0 ws T cells slots h) {pc pc' : Nat} {Ls : Array Slot} {St : List Value} {i : Nat} {v : Int32} (hd : decode bytes pc = .ok (.iload i, 2)) (hl : Ls[i]? = some (.val (.int v))) (hp : pc + 2 = pc') (k : Runs p e below (T.setTop (mkF m pc' Ls (.int v :: St))) G) : Runs p e below (T.setTop (mkF m pc Ls (St))) G := by
  subst hp
  exact X.step (fun _ hx hb' _ hown _ S t q => XS.iload S.here hx rfl (hb hb' hd) hl q) k
theorem Here.iloadN (X : Here p l e R s m args below meth c y bytes maxL ret Z h0 ws T cells slots h) {pc pc' : Nat} {Ls : Array Slot} {St : List Value} {i : Fin 4} {v : Int32} (hd : decode bytes pc = .ok (.iload_n i, 1)) (hl : Ls[i.val]? = some (.val (.int v))) (hp : pc + 1 = pc') (k : Runs p e below (T.setTop (mkF m pc' Ls (.int v :: St))) G) : Runs p e below (T.setTop (mkF m pc Ls (St))) G := by
  subst hp
  exact X.step (fun _ hx hb' _ hown _ S t q => XS.iloadN S.here hx rfl (hb hb' hd) hl q) k
theorem Here.lload (X : Here p l e R s m args below meth c y bytes maxL ret Z h0 ws T cells slots h) {pc pc' : Nat} {Ls : Array Slot} {St : List Value} {i : Nat} {v : Int64} (hd : decode bytes pc = .ok (.lload i, 2)) (hl : Ls[i]? = some (.val (.long v))) (hp : pc + 2 = pc') (k : Runs p e below (T.setTop (mkF m pc' Ls (.long v :: St))) G) : Runs p e below (T.setTop (mkF m pc Ls (St))) G := by
  subst hp
  exact X.step (fun _ hx hb' _ hown _ S t q => XS.lload S.here hx rfl (hb hb' hd) hl q) k
theorem Here.lloadN (X : Here p l e R s m args below meth c y bytes maxL ret Z h0 ws T cells slots h) {pc pc' : Nat} {Ls : Array Slot} {St : List Value} {i : Fin 4} {v : Int64} (hd : decode bytes pc = .ok (.lload_n i, 1)) (hl : Ls[i.val]? = some (.val (.long v))) (hp : pc + 1 = pc') (k : Runs p e below (T.setTop (mkF m pc' Ls (.long v :: St))) G) : Runs p e below (T.setTop (mkF m pc Ls (St))) G := by
  subst hp
  exact X.step (fun _ hx hb' _ hown _ S t q => XS.lloadN S.here hx rfl (hb hb' hd) hl q) k
theorem Here.aload (X : Here p l e R s m args below meth c y bytes maxL ret Z h0 ws T cells slots h) {pc pc' : Nat} {Ls : Array Slot} {St : List Value} {i : Nat} {v : Value} (hd : decode bytes pc = .ok (.aload i, 2)) (hl : Ls[i]? = some (.val v)) (hv : v.isRef = true) (hp : pc + 2 = pc') (k : Runs p e below (T.setTop (mkF m pc' Ls (v :: St))) G) : Runs p e below (T.setTop (mkF m pc Ls (St))) G := by
  subst hp
  exact X.step (fun _ hx hb' _ hown _ S t q => XS.aload S.here hx rfl (hb hb' hd) hl hv q) k
theorem Here.aloadN (X : Here p l e R s m args below meth c y bytes maxL ret Z h0 ws T cells slots h) {pc pc' : Nat} {Ls : Array Slot} {St : List Value} {i : Fin 4} {v : Value} (hd : decode bytes pc = .ok (.aload_n i, 1)) (hl : Ls[i.val]? = some (.val v)) (hv : v.isRef = true) (hp : pc + 1 = pc') (k : Runs p e below (T.setTop (mkF m pc' Ls (v :: St))) G) : Runs p e below (T.setTop (mkF m pc Ls (St))) G := by
  subst hp
  exact X.step (fun _ hx hb' _ hown _ S t q => XS.aloadN S.here hx rfl (hb hb' hd) hl hv q) k
theorem Here.istore (X : Here p l e R s m args below meth c y bytes maxL ret Z h0 ws T cells slots h) {pc pc' : Nat} {Ls : Array Slot} {St : List Value} {i : Nat} {v : Int32} {l' : Array Slot} (hd : decode bytes pc = .ok (.istore i, 2)) (hl : storeLocals Ls i (.int v) = some l') (hp : pc + 2 = pc') (k : Runs p e below (T.setTop (mkF m pc' l' (St))) G) : Runs p e below (T.setTop (mkF m pc Ls (.int v :: St))) G := by
  subst hp
  exact X.step (fun _ hx hb' _ hown _ S t q => XS.istore S.here hx rfl (hb hb' hd) rfl hl q) k
theorem Here.istoreN (X : Here p l e R s m args below meth c y bytes maxL ret Z h0 ws T cells slots h) {pc pc' : Nat} {Ls : Array Slot} {St : List Value} {i : Fin 4} {v : Int32} {l' : Array Slot} (hd : decode bytes pc = .ok (.istore_n i, 1)) (hl : storeLocals Ls i.val (.int v) = some l') (hp : pc + 1 = pc') (k : Runs p e below (T.setTop (mkF m pc' l' (St))) G) : Runs p e below (T.setTop (mkF m pc Ls (.int v :: St))) G := by
  subst hp
  exact X.step (fun _ hx hb' _ hown _ S t q => XS.istoreN S.here hx rfl (hb hb' hd) rfl hl q) k
theorem Here.lstore (X : Here p l e R s m args below meth c y bytes maxL ret Z h0 ws T cells slots h) {pc pc' : Nat} {Ls : Array Slot} {St : List Value} {i : Nat} {v : Int64} {l' : Array Slot} (hd : decode bytes pc = .ok (.lstore i, 2)) (hl : storeLocals Ls i (.long v) = some l') (hp : pc + 2 = pc') (k : Runs p e below (T.setTop (mkF m pc' l' (St))) G) : Runs p e below (T.setTop (mkF m pc Ls (.long v :: St))) G := by
  subst hp
  exact X.step (fun _ hx hb' _ hown _ S t q => XS.lstore S.here hx rfl (hb hb' hd) rfl hl q) k
theorem Here.lstoreN (X : Here p l e R s m args below meth c y bytes maxL ret Z h0 ws T cells slots h) {pc pc' : Nat} {Ls : Array Slot} {St : List Value} {i : Fin 4} {v : Int64} {l' : Array Slot} (hd : decode bytes pc = .ok (.lstore_n i, 1)) (hl : storeLocals Ls i.val (.long v) = some l') (hp : pc + 1 = pc') (k : Runs p e below (T.setTop (mkF m pc' l' (St))) G) : Runs p e below (T.setTop (mkF m pc Ls (.long v :: St))) G := by
  subst hp
  exact X.step (fun _ hx hb' _ hown _ S t q => XS.lstoreN S.here hx rfl (hb hb' hd) rfl hl q) k
theorem Here.astore (X : Here p l e R s m args below meth c y bytes maxL ret Z h0 ws T cells slots h) {pc pc' : Nat} {Ls : Array Slot} {St : List Value} {i : Nat} {v : Value} {l' : Array Slot} (hd : decode bytes pc = .ok (.astore i, 2)) (hv : v.isRef = true) (hl : storeLocals Ls i v = some l') (hp : pc + 2 = pc') (k : Runs p e below (T.setTop (mkF m pc' l' (St))) G) : Runs p e below (T.setTop (mkF m pc Ls (v :: St))) G := by
  subst hp
  exact X.step (fun _ hx hb' _ hown _ S t q => XS.astore S.here hx rfl (hb hb' hd) rfl hv hl q) k
theorem Here.astoreN (X : Here p l e R s m args below meth c y bytes maxL ret Z h0 ws T cells slots h) {pc pc' : Nat} {Ls : Array Slot} {St : List Value} {i : Fin 4} {v : Value} {l' : Array Slot} (hd : decode bytes pc = .ok (.astore_n i, 1)) (hv : v.isRef = true) (hl : storeLocals Ls i.val v = some l') (hp : pc + 1 = pc') (k : Runs p e below (T.setTop (mkF m pc' l' (St))) G) : Runs p e below (T.setTop (mkF m pc Ls (v :: St))) G := by
  subst hp
  exact X.step (fun _ hx hb' _ hown _ S t q => XS.astoreN S.here hx rfl (hb hb' hd) rfl hv hl q) k
theorem Here.iconst (X : Here p l e R s m args below meth c y bytes maxL ret Z h0 ws T cells slots h) {pc pc' : Nat} {Ls : Array Slot} {St : List Value} {i : Int} {z : Int32} (hd : decode bytes pc = .ok (.iconst i, 1)) (hz : Int32.ofInt i = z) (hp : pc + 1 = pc') (k : Runs p e below (T.setTop (mkF m pc' Ls (.int z :: St))) G) : Runs p e below (T.setTop (mkF m pc Ls (St))) G := by
  subst hp
  exact X.step (fun _ hx hb' _ hown _ S t q => XS.iconst S.here hx rfl (hb hb' hd) (hz ▸ q)) k
theorem Here.bipush (X : Here p l e R s m args below meth c y bytes maxL ret Z h0 ws T cells slots h) {pc pc' : Nat} {Ls : Array Slot} {St : List Value} {i : Int} {z : Int32} (hd : decode bytes pc = .ok (.bipush i, 2)) (hz : (Int8.ofInt i).toInt32 = z) (hp : pc + 2 = pc') (k : Runs p e below (T.setTop (mkF m pc' Ls (.int z :: St))) G) : Runs p e below (T.setTop (mkF m pc Ls (St))) G := by
  subst hp
  exact X.step (fun _ hx hb' _ hown _ S t q => XS.bipush S.here hx rfl (hb hb' hd) (hz ▸ q)) k
theorem Here.sipush (X : Here p l e R s m args below meth c y bytes maxL ret Z h0 ws T cells slots h) {pc pc' : Nat} {Ls : Array Slot} {St : List Value} {i : Int} {z : Int32} (hd : decode bytes pc = .ok (.sipush i, 3)) (hz : (Int16.ofInt i).toInt32 = z) (hp : pc + 3 = pc') (k : Runs p e below (T.setTop (mkF m pc' Ls (.int z :: St))) G) : Runs p e below (T.setTop (mkF m pc Ls (St))) G := by
  subst hp
  exact X.step (fun _ hx hb' _ hown _ S t q => XS.sipush S.here hx rfl (hb hb' hd) (hz ▸ q)) k
theorem Here.lconst0 (X : Here p l e R s m args below meth c y bytes maxL ret Z h0 ws T cells slots h) {pc pc' : Nat} {Ls : Array Slot} {St : List Value}  (hd : decode bytes pc = .ok (.lconst 0, 1))  (hp : pc + 1 = pc') (k : Runs p e below (T.setTop (mkF m pc' Ls (.long 0 :: St))) G) : Runs p e below (T.setTop (mkF m pc Ls (St))) G := by
  subst hp
  exact X.step (fun _ hx hb' _ hown _ S t q => XS.lconst S.here hx rfl (hb hb' hd) q) k
theorem Here.lconst1 (X : Here p l e R s m args below meth c y bytes maxL ret Z h0 ws T cells slots h) {pc pc' : Nat} {Ls : Array Slot} {St : List Value}  (hd : decode bytes pc = .ok (.lconst 1, 1))  (hp : pc + 1 = pc') (k : Runs p e below (T.setTop (mkF m pc' Ls (.long 1 :: St))) G) : Runs p e below (T.setTop (mkF m pc Ls (St))) G := by
  subst hp
  exact X.step (fun _ hx hb' _ hown _ S t q => XS.lconst S.here hx rfl (hb hb' hd) q) k
theorem Here.aconstNull (X : Here p l e R s m args below meth c y bytes maxL ret Z h0 ws T cells slots h) {pc pc' : Nat} {Ls : Array Slot} {St : List Value}  (hd : decode bytes pc = .ok (.aconst_null, 1))  (hp : pc + 1 = pc') (k : Runs p e below (T.setTop (mkF m pc' Ls (.null :: St))) G) : Runs p e below (T.setTop (mkF m pc Ls (St))) G := by
  subst hp
  exact X.step (fun _ hx hb' _ hown _ S t q => XS.aconstNull S.here hx rfl (hb hb' hd) q) k
theorem Here.iadd (X : Here p l e R s m args below meth c y bytes maxL ret Z h0 ws T cells slots h) {pc pc' : Nat} {Ls : Array Slot} {St : List Value} {a b : Int32} (hd : decode bytes pc = .ok (.iadd, 1))  (hp : pc + 1 = pc') (k : Runs p e below (T.setTop (mkF m pc' Ls (.int (a + b) :: St))) G) : Runs p e below (T.setTop (mkF m pc Ls (.int b :: .int a :: St))) G := by
  subst hp
  exact X.step (fun _ hx hb' _ hown _ S t q => XS.iadd S.here hx rfl (hb hb' hd) rfl q) k
theorem Here.isub (X : Here p l e R s m args below meth c y bytes maxL ret Z h0 ws T cells slots h) {pc pc' : Nat} {Ls : Array Slot} {St : List Value} {a b : Int32} (hd : decode bytes pc = .ok (.isub, 1))  (hp : pc + 1 = pc') (k : Runs p e below (T.setTop (mkF m pc' Ls (.int (a - b) :: St))) G) : Runs p e below (T.setTop (mkF m pc Ls (.int b :: .int a :: St))) G := by
  subst hp
  exact X.step (fun _ hx hb' _ hown _ S t q => XS.isub S.here hx rfl (hb hb' hd) rfl q) k
theorem Here.imul (X : Here p l e R s m args below meth c y bytes maxL ret Z h0 ws T cells slots h) {pc pc' : Nat} {Ls : Array Slot} {St : List Value} {a b : Int32} (hd : decode bytes pc = .ok (.imul, 1))  (hp : pc + 1 = pc') (k : Runs p e below (T.setTop (mkF m pc' Ls (.int (a * b) :: St))) G) : Runs p e below (T.setTop (mkF m pc Ls (.int b :: .int a :: St))) G := by
  subst hp
  exact X.step (fun _ hx hb' _ hown _ S t q => XS.imul S.here hx rfl (hb hb' hd) rfl q) k
theorem Here.iand (X : Here p l e R s m args below meth c y bytes maxL ret Z h0 ws T cells slots h) {pc pc' : Nat} {Ls : Array Slot} {St : List Value} {a b : Int32} (hd : decode bytes pc = .ok (.iand, 1))  (hp : pc + 1 = pc') (k : Runs p e below (T.setTop (mkF m pc' Ls (.int (a &&& b) :: St))) G) : Runs p e below (T.setTop (mkF m pc Ls (.int b :: .int a :: St))) G := by
  subst hp
  exact X.step (fun _ hx hb' _ hown _ S t q => XS.iand S.here hx rfl (hb hb' hd) rfl q) k
theorem Here.ior (X : Here p l e R s m args below meth c y bytes maxL ret Z h0 ws T cells slots h) {pc pc' : Nat} {Ls : Array Slot} {St : List Value} {a b : Int32} (hd : decode bytes pc = .ok (.ior, 1))  (hp : pc + 1 = pc') (k : Runs p e below (T.setTop (mkF m pc' Ls (.int (a ||| b) :: St))) G) : Runs p e below (T.setTop (mkF m pc Ls (.int b :: .int a :: St))) G := by
  subst hp
  exact X.step (fun _ hx hb' _ hown _ S t q => XS.ior S.here hx rfl (hb hb' hd) rfl q) k
theorem Here.ixor (X : Here p l e R s m args below meth c y bytes maxL ret Z h0 ws T cells slots h) {pc pc' : Nat} {Ls : Array Slot} {St : List Value} {a b : Int32} (hd : decode bytes pc = .ok (.ixor, 1))  (hp : pc + 1 = pc') (k : Runs p e below (T.setTop (mkF m pc' Ls (.int (a ^^^ b) :: St))) G) : Runs p e below (T.setTop (mkF m pc Ls (.int b :: .int a :: St))) G := by
  subst hp
  exact X.step (fun _ hx hb' _ hown _ S t q => XS.ixor S.here hx rfl (hb hb' hd) rfl q) k
theorem Here.ladd (X : Here p l e R s m args below meth c y bytes maxL ret Z h0 ws T cells slots h) {pc pc' : Nat} {Ls : Array Slot} {St : List Value} {a b : Int64} (hd : decode bytes pc = .ok (.ladd, 1))  (hp : pc + 1 = pc') (k : Runs p e below (T.setTop (mkF m pc' Ls (.long (a + b) :: St))) G) : Runs p e below (T.setTop (mkF m pc Ls (.long b :: .long a :: St))) G := by
  subst hp
  exact X.step (fun _ hx hb' _ hown _ S t q => XS.ladd S.here hx rfl (hb hb' hd) rfl q) k
theorem Here.lsub (X : Here p l e R s m args below meth c y bytes maxL ret Z h0 ws T cells slots h) {pc pc' : Nat} {Ls : Array Slot} {St : List Value} {a b : Int64} (hd : decode bytes pc = .ok (.lsub, 1))  (hp : pc + 1 = pc') (k : Runs p e below (T.setTop (mkF m pc' Ls (.long (a - b) :: St))) G) : Runs p e below (T.setTop (mkF m pc Ls (.long b :: .long a :: St))) G := by
  subst hp
  exact X.step (fun _ hx hb' _ hown _ S t q => XS.lsub S.here hx rfl (hb hb' hd) rfl q) k
theorem Here.lmul (X : Here p l e R s m args below meth c y bytes maxL ret Z h0 ws T cells slots h) {pc pc' : Nat} {Ls : Array Slot} {St : List Value} {a b : Int64} (hd : decode bytes pc = .ok (.lmul, 1))  (hp : pc + 1 = pc') (k : Runs p e below (T.setTop (mkF m pc' Ls (.long (a * b) :: St))) G) : Runs p e below (T.setTop (mkF m pc Ls (.long b :: .long a :: St))) G := by
  subst hp
  exact X.step (fun _ hx hb' _ hown _ S t q => XS.lmul S.here hx rfl (hb hb' hd) rfl q) k
theorem Here.land (X : Here p l e R s m args below meth c y bytes maxL ret Z h0 ws T cells slots h) {pc pc' : Nat} {Ls : Array Slot} {St : List Value} {a b : Int64} (hd : decode bytes pc = .ok (.land, 1))  (hp : pc + 1 = pc') (k : Runs p e below (T.setTop (mkF m pc' Ls (.long (a &&& b) :: St))) G) : Runs p e below (T.setTop (mkF m pc Ls (.long b :: .long a :: St))) G := by
  subst hp
  exact X.step (fun _ hx hb' _ hown _ S t q => XS.land S.here hx rfl (hb hb' hd) rfl q) k
theorem Here.lor (X : Here p l e R s m args below meth c y bytes maxL ret Z h0 ws T cells slots h) {pc pc' : Nat} {Ls : Array Slot} {St : List Value} {a b : Int64} (hd : decode bytes pc = .ok (.lor, 1))  (hp : pc + 1 = pc') (k : Runs p e below (T.setTop (mkF m pc' Ls (.long (a ||| b) :: St))) G) : Runs p e below (T.setTop (mkF m pc Ls (.long b :: .long a :: St))) G := by
  subst hp
  exact X.step (fun _ hx hb' _ hown _ S t q => XS.lor S.here hx rfl (hb hb' hd) rfl q) k
theorem Here.lxor (X : Here p l e R s m args below meth c y bytes maxL ret Z h0 ws T cells slots h) {pc pc' : Nat} {Ls : Array Slot} {St : List Value} {a b : Int64} (hd : decode bytes pc = .ok (.lxor, 1))  (hp : pc + 1 = pc') (k : Runs p e below (T.setTop (mkF m pc' Ls (.long (a ^^^ b) :: St))) G) : Runs p e below (T.setTop (mkF m pc Ls (.long b :: .long a :: St))) G := by
  subst hp
  exact X.step (fun _ hx hb' _ hown _ S t q => XS.lxor S.here hx rfl (hb hb' hd) rfl q) k
theorem Here.ishl (X : Here p l e R s m args below meth c y bytes maxL ret Z h0 ws T cells slots h) {pc pc' : Nat} {Ls : Array Slot} {St : List Value} {a b : Int32} (hd : decode bytes pc = .ok (.ishl, 1))  (hp : pc + 1 = pc') (k : Runs p e below (T.setTop (mkF m pc' Ls (.int (a <<< (b &&& 31)) :: St))) G) : Runs p e below (T.setTop (mkF m pc Ls (.int b :: .int a :: St))) G := by
  subst hp
  exact X.step (fun _ hx hb' _ hown _ S t q => XS.ishl S.here hx rfl (hb hb' hd) rfl q) k
theorem Here.ishr (X : Here p l e R s m args below meth c y bytes maxL ret Z h0 ws T cells slots h) {pc pc' : Nat} {Ls : Array Slot} {St : List Value} {a b : Int32} (hd : decode bytes pc = .ok (.ishr, 1))  (hp : pc + 1 = pc') (k : Runs p e below (T.setTop (mkF m pc' Ls (.int (a >>> (b &&& 31)) :: St))) G) : Runs p e below (T.setTop (mkF m pc Ls (.int b :: .int a :: St))) G := by
  subst hp
  exact X.step (fun _ hx hb' _ hown _ S t q => XS.ishr S.here hx rfl (hb hb' hd) rfl q) k
theorem Here.iushr (X : Here p l e R s m args below meth c y bytes maxL ret Z h0 ws T cells slots h) {pc pc' : Nat} {Ls : Array Slot} {St : List Value} {a b : Int32} (hd : decode bytes pc = .ok (.iushr, 1))  (hp : pc + 1 = pc') (k : Runs p e below (T.setTop (mkF m pc' Ls (.int ((a.toUInt32 >>> (b &&& 31).toUInt32).toInt32) :: St))) G) : Runs p e below (T.setTop (mkF m pc Ls (.int b :: .int a :: St))) G := by
  subst hp
  exact X.step (fun _ hx hb' _ hown _ S t q => XS.iushr S.here hx rfl (hb hb' hd) rfl q) k
theorem Here.lshl (X : Here p l e R s m args below meth c y bytes maxL ret Z h0 ws T cells slots h) {pc pc' : Nat} {Ls : Array Slot} {St : List Value} {a : Int64} {b : Int32} (hd : decode bytes pc = .ok (.lshl, 1))  (hp : pc + 1 = pc') (k : Runs p e below (T.setTop (mkF m pc' Ls (.long (a <<< (b &&& 0x3f).toInt64) :: St))) G) : Runs p e below (T.setTop (mkF m pc Ls (.int b :: .long a :: St))) G := by
  subst hp
  exact X.step (fun _ hx hb' _ hown _ S t q => XS.lshl S.here hx rfl (hb hb' hd) rfl q) k
theorem Here.lshr (X : Here p l e R s m args below meth c y bytes maxL ret Z h0 ws T cells slots h) {pc pc' : Nat} {Ls : Array Slot} {St : List Value} {a : Int64} {b : Int32} (hd : decode bytes pc = .ok (.lshr, 1))  (hp : pc + 1 = pc') (k : Runs p e below (T.setTop (mkF m pc' Ls (.long (a >>> (b &&& 0x3f).toInt64) :: St))) G) : Runs p e below (T.setTop (mkF m pc Ls (.int b :: .long a :: St))) G := by
  subst hp
  exact X.step (fun _ hx hb' _ hown _ S t q => XS.lshr S.here hx rfl (hb hb' hd) rfl q) k
theorem Here.lushr (X : Here p l e R s m args below meth c y bytes maxL ret Z h0 ws T cells slots h) {pc pc' : Nat} {Ls : Array Slot} {St : List Value} {a : Int64} {b : Int32} (hd : decode bytes pc = .ok (.lushr, 1))  (hp : pc + 1 = pc') (k : Runs p e below (T.setTop (mkF m pc' Ls (.long ((a.toUInt64 >>> (b &&& 0x3f).toInt64.toUInt64).toInt64) :: St))) G) : Runs p e below (T.setTop (mkF m pc Ls (.int b :: .long a :: St))) G := by
  subst hp
  exact X.step (fun _ hx hb' _ hown _ S t q => XS.lushr S.here hx rfl (hb hb' hd) rfl q) k
theorem Here.ineg (X : Here p l e R s m args below meth c y bytes maxL ret Z h0 ws T cells slots h) {pc pc' : Nat} {Ls : Array Slot} {St : List Value} {a : Int32} (hd : decode bytes pc = .ok (.ineg, 1))  (hp : pc + 1 = pc') (k : Runs p e below (T.setTop (mkF m pc' Ls (.int (-a) :: St))) G) : Runs p e below (T.setTop (mkF m pc Ls (.int a :: St))) G := by
  subst hp
  exact X.step (fun _ hx hb' _ hown _ S t q => XS.ineg S.here hx rfl (hb hb' hd) rfl q) k
theorem Here.lneg (X : Here p l e R s m args below meth c y bytes maxL ret Z h0 ws T cells slots h) {pc pc' : Nat} {Ls : Array Slot} {St : List Value} {a : Int64} (hd : decode bytes pc = .ok (.lneg, 1))  (hp : pc + 1 = pc') (k : Runs p e below (T.setTop (mkF m pc' Ls (.long (-a) :: St))) G) : Runs p e below (T.setTop (mkF m pc Ls (.long a :: St))) G := by
  subst hp
  exact X.step (fun _ hx hb' _ hown _ S t q => XS.lneg S.here hx rfl (hb hb' hd) rfl q) k
theorem Here.lcmp (X : Here p l e R s m args below meth c y bytes maxL ret Z h0 ws T cells slots h) {pc pc' : Nat} {Ls : Array Slot} {St : List Value} {a b : Int64} (hd : decode bytes pc = .ok (.lcmp, 1))  (hp : pc + 1 = pc') (k : Runs p e below (T.setTop (mkF m pc' Ls (.int (lcmpW a b) :: St))) G) : Runs p e below (T.setTop (mkF m pc Ls (.long b :: .long a :: St))) G := by
  subst hp
  exact X.step (fun _ hx hb' _ hown _ S t q => XS.lcmp S.here hx rfl (hb hb' hd) rfl q) k
theorem Here.i2l (X : Here p l e R s m args below meth c y bytes maxL ret Z h0 ws T cells slots h) {pc pc' : Nat} {Ls : Array Slot} {St : List Value} {a : Int32} (hd : decode bytes pc = .ok (.i2l, 1))  (hp : pc + 1 = pc') (k : Runs p e below (T.setTop (mkF m pc' Ls (.long a.toInt64 :: St))) G) : Runs p e below (T.setTop (mkF m pc Ls (.int a :: St))) G := by
  subst hp
  exact X.step (fun _ hx hb' _ hown _ S t q => XS.i2l S.here hx rfl (hb hb' hd) rfl q) k
theorem Here.l2i (X : Here p l e R s m args below meth c y bytes maxL ret Z h0 ws T cells slots h) {pc pc' : Nat} {Ls : Array Slot} {St : List Value} {a : Int64} (hd : decode bytes pc = .ok (.l2i, 1))  (hp : pc + 1 = pc') (k : Runs p e below (T.setTop (mkF m pc' Ls (.int a.toInt32 :: St))) G) : Runs p e below (T.setTop (mkF m pc Ls (.long a :: St))) G := by
  subst hp
  exact X.step (fun _ hx hb' _ hown _ S t q => XS.l2i S.here hx rfl (hb hb' hd) rfl q) k
theorem Here.i2b (X : Here p l e R s m args below meth c y bytes maxL ret Z h0 ws T cells slots h) {pc pc' : Nat} {Ls : Array Slot} {St : List Value} {a : Int32} (hd : decode bytes pc = .ok (.i2b, 1))  (hp : pc + 1 = pc') (k : Runs p e below (T.setTop (mkF m pc' Ls (.int a.toInt8.toInt32 :: St))) G) : Runs p e below (T.setTop (mkF m pc Ls (.int a :: St))) G := by
  subst hp
  exact X.step (fun _ hx hb' _ hown _ S t q => XS.i2b S.here hx rfl (hb hb' hd) rfl q) k
theorem Here.i2s (X : Here p l e R s m args below meth c y bytes maxL ret Z h0 ws T cells slots h) {pc pc' : Nat} {Ls : Array Slot} {St : List Value} {a : Int32} (hd : decode bytes pc = .ok (.i2s, 1))  (hp : pc + 1 = pc') (k : Runs p e below (T.setTop (mkF m pc' Ls (.int a.toInt16.toInt32 :: St))) G) : Runs p e below (T.setTop (mkF m pc Ls (.int a :: St))) G := by
  subst hp
  exact X.step (fun _ hx hb' _ hown _ S t q => XS.i2s S.here hx rfl (hb hb' hd) rfl q) k
theorem Here.i2c (X : Here p l e R s m args below meth c y bytes maxL ret Z h0 ws T cells slots h) {pc pc' : Nat} {Ls : Array Slot} {St : List Value} {a : Int32} (hd : decode bytes pc = .ok (.i2c, 1))  (hp : pc + 1 = pc') (k : Runs p e below (T.setTop (mkF m pc' Ls (.int a.toUInt32.toUInt16.toUInt32.toInt32 :: St))) G) : Runs p e below (T.setTop (mkF m pc Ls (.int a :: St))) G := by
  subst hp
  exact X.step (fun _ hx hb' _ hown _ S t q => XS.i2c S.here hx rfl (hb hb' hd) rfl q) k
theorem Here.irem (X : Here p l e R s m args below meth c y bytes maxL ret Z h0 ws T cells slots h) {pc pc' : Nat} {Ls : Array Slot} {St : List Value} {a b : Int32} (hd : decode bytes pc = .ok (.irem, 1)) (hy : b ≠ 0) (hp : pc + 1 = pc') (k : Runs p e below (T.setTop (mkF m pc' Ls (.int (a % b) :: St))) G) : Runs p e below (T.setTop (mkF m pc Ls (.int b :: .int a :: St))) G := by
  subst hp
  exact X.step (fun _ hx hb' _ hown _ S t q => iremM S hx rfl (hb hb' hd) rfl hy q) k
theorem Here.idiv (X : Here p l e R s m args below meth c y bytes maxL ret Z h0 ws T cells slots h) {pc pc' : Nat} {Ls : Array Slot} {St : List Value} {a b : Int32} (hd : decode bytes pc = .ok (.idiv, 1)) (hy : b ≠ 0) (hp : pc + 1 = pc') (k : Runs p e below (T.setTop (mkF m pc' Ls (.int (a / b) :: St))) G) : Runs p e below (T.setTop (mkF m pc Ls (.int b :: .int a :: St))) G := by
  subst hp
  exact X.step (fun _ hx hb' _ hown _ S t q => XS.idiv S.here hx rfl (hb hb' hd) rfl hy q) k
theorem Here.iinc (X : Here p l e R s m args below meth c y bytes maxL ret Z h0 ws T cells slots h) {pc pc' : Nat} {Ls : Array Slot} {St : List Value} {i : Nat} {cst : Int} {v z : Int32} {l' : Array Slot} (hd : decode bytes pc = .ok (.iinc i cst, 3)) (hl : Ls[i]? = some (.val (.int v))) (hz : Int32.ofInt cst = z) (hl' : storeLocals Ls i (.int (v + z)) = some l') (hp : pc + 3 = pc') (k : Runs p e below (T.setTop (mkF m pc' l' (St))) G) : Runs p e below (T.setTop (mkF m pc Ls (St))) G := by
  subst hp
  exact X.step (fun _ hx hb' _ hown _ S t q => XS.iinc S.here hx rfl (hb hb' hd) hl (hz ▸ hl') q) k
theorem Here.dup (X : Here p l e R s m args below meth c y bytes maxL ret Z h0 ws T cells slots h) {pc pc' : Nat} {Ls : Array Slot} {St : List Value} {v : Value} (hd : decode bytes pc = .ok (.dup, 1)) (hv : v.category = 1) (hp : pc + 1 = pc') (k : Runs p e below (T.setTop (mkF m pc' Ls (v :: v :: St))) G) : Runs p e below (T.setTop (mkF m pc Ls (v :: St))) G := by
  subst hp
  exact X.step (fun _ hx hb' _ hown _ S t q => XS.dup S.here hx rfl (hb hb' hd) rfl hv q) k
theorem Here.dupX1 (X : Here p l e R s m args below meth c y bytes maxL ret Z h0 ws T cells slots h) {pc pc' : Nat} {Ls : Array Slot} {St : List Value} {v w : Value} (hd : decode bytes pc = .ok (.dup_x1, 1)) (hv : v.category = 1) (hw : w.category = 1) (hp : pc + 1 = pc') (k : Runs p e below (T.setTop (mkF m pc' Ls (v :: w :: v :: St))) G) : Runs p e below (T.setTop (mkF m pc Ls (v :: w :: St))) G := by
  subst hp
  exact X.step (fun _ hx hb' _ hown _ S t q => XS.dupX1 S.here hx rfl (hb hb' hd) rfl hv hw q) k
theorem Here.dup2 (X : Here p l e R s m args below meth c y bytes maxL ret Z h0 ws T cells slots h) {pc pc' : Nat} {Ls : Array Slot} {St : List Value} {v w : Value} (hd : decode bytes pc = .ok (.dup2, 1)) (hv : v.category = 1) (hw : w.category = 1) (hp : pc + 1 = pc') (k : Runs p e below (T.setTop (mkF m pc' Ls (v :: w :: v :: w :: St))) G) : Runs p e below (T.setTop (mkF m pc Ls (v :: w :: St))) G := by
  subst hp
  exact X.step (fun _ hx hb' _ hown _ S t q => Jvm.Free.XT.dup2 S.here hx rfl (hb hb' hd) rfl hv hw q) k
theorem Here.dup2L (X : Here p l e R s m args below meth c y bytes maxL ret Z h0 ws T cells slots h) {pc pc' : Nat} {Ls : Array Slot} {St : List Value} {v : Int64} (hd : decode bytes pc = .ok (.dup2, 1))  (hp : pc + 1 = pc') (k : Runs p e below (T.setTop (mkF m pc' Ls (.long v :: .long v :: St))) G) : Runs p e below (T.setTop (mkF m pc Ls (.long v :: St))) G := by
  subst hp
  exact X.step (fun _ hx hb' _ hown _ S t q => Jvm.Free.XT.dup2L S.here hx rfl (hb hb' hd) rfl q) k
theorem Here.pop (X : Here p l e R s m args below meth c y bytes maxL ret Z h0 ws T cells slots h) {pc pc' : Nat} {Ls : Array Slot} {St : List Value} {v : Value} (hd : decode bytes pc = .ok (.pop, 1)) (hv : v.category = 1) (hp : pc + 1 = pc') (k : Runs p e below (T.setTop (mkF m pc' Ls (St))) G) : Runs p e below (T.setTop (mkF m pc Ls (v :: St))) G := by
  subst hp
  exact X.step (fun _ hx hb' _ hown _ S t q => XS.pop S.here hx rfl (hb hb' hd) rfl hv q) k
theorem Here.ldcInt (X : Here p l e R s m args below meth c y bytes maxL ret Z h0 ws T cells slots h) {pc pc' : Nat} {Ls : Array Slot} {St : List Value} {i : Nat} {v : Int32} (w : (Jvm.Cond.constant y.cls i v).before a0 Z = true) (hd : decode bytes pc = .ok (.ldc i, 2)) (hp : pc + 2 = pc') (k : Runs p e below (T.setTop (mkF m pc' Ls (.int v :: St))) G) : Runs p e below (T.setTop (mkF m pc Ls St)) G := by
  subst hp
  exact X.step (fun _ hx hb' hZ hown _ S t q => S.ldcInt hx hown (mvT hZ w) (g := mkF m pc Ls St) rfl (hb hb' hd) t q) k
theorem Here.ldcwInt (X : Here p l e R s m args below meth c y bytes maxL ret Z h0 ws T cells slots h) {pc pc' : Nat} {Ls : Array Slot} {St : List Value} {i : Nat} {v : Int32} (w : (Jvm.Cond.constant y.cls i v).before a0 Z = true) (hd : decode bytes pc = .ok (.ldc_w i, 3)) (hp : pc + 3 = pc') (k : Runs p e below (T.setTop (mkF m pc' Ls (.int v :: St))) G) : Runs p e below (T.setTop (mkF m pc Ls St)) G := by
  subst hp
  exact X.step (fun _ hx hb' hZ hown _ S t q => S.ldcwInt hx hown (mvT hZ w) (g := mkF m pc Ls St) rfl (hb hb' hd) t q) k
theorem Here.ldc2 (X : Here p l e R s m args below meth c y bytes maxL ret Z h0 ws T cells slots h) {pc pc' : Nat} {Ls : Array Slot} {St : List Value} {i : Nat} {v : Int64} (w : (Jvm.Cond.constantLong y.cls i v).before a0 Z = true) (hd : decode bytes pc = .ok (.ldc2_w i, 3)) (hp : pc + 3 = pc') (k : Runs p e below (T.setTop (mkF m pc' Ls (.long v :: St))) G) : Runs p e below (T.setTop (mkF m pc Ls St)) G := by
  subst hp
  exact X.step (fun _ hx hb' hZ hown _ S t q => S.ldc2Long hx hown (mvT hZ w) (g := mkF m pc Ls St) rfl (hb hb' hd) t q) k
theorem Here.goto (X : Here p l e R s m args below meth c y bytes maxL ret Z h0 ws T cells slots h) {pc pc' : Nat} {Ls : Array Slot} {St : List Value} {o : Int}  (hd : decode bytes pc = .ok (.goto o, 3))  (ho : 0 ≤ (pc : Int) + o) (hp : ((pc : Int) + o).toNat = pc') (k : Runs p e below (T.setTop (mkF m pc' Ls St)) G) : Runs p e below (T.setTop (mkF m pc Ls (St))) G := by
  exact X.step (fun _ hx hb' _ hown _ S t q => XS.goto S.here hx rfl rfl (hb hb' hd) ho hp q) k
theorem Here.ifYes (X : Here p l e R s m args below meth c y bytes maxL ret Z h0 ws T cells slots h) {pc pc' : Nat} {Ls : Array Slot} {St : List Value} {o : Int} {cd : ClassFile.Cond} {a : Int32} (hd : decode bytes pc = .ok (.ifCond cd o, 3)) (hc : if_icmp.holds cd a 0 = true) (ho : 0 ≤ (pc : Int) + o) (hp : ((pc : Int) + o).toNat = pc') (k : Runs p e below (T.setTop (mkF m pc' Ls St)) G) : Runs p e below (T.setTop (mkF m pc Ls (.int a :: St))) G := by
  exact X.step (fun _ hx hb' _ hown _ S t q => XS.ifYes S.here hx rfl rfl (hb hb' hd) rfl ((if0 _ _).trans hc) ho hp q) k
theorem Here.icmpYes (X : Here p l e R s m args below meth c y bytes maxL ret Z h0 ws T cells slots h) {pc pc' : Nat} {Ls : Array Slot} {St : List Value} {o : Int} {cd : ClassFile.Cond} {a b : Int32} (hd : decode bytes pc = .ok (.if_icmp cd o, 3)) (hc : if_icmp.holds cd a b = true) (ho : 0 ≤ (pc : Int) + o) (hp : ((pc : Int) + o).toNat = pc') (k : Runs p e below (T.setTop (mkF m pc' Ls St)) G) : Runs p e below (T.setTop (mkF m pc Ls (.int b :: .int a :: St))) G := by
  exact X.step (fun _ hx hb' _ hown _ S t q => XS.icmpYes S.here hx rfl rfl (hb hb' hd) rfl hc ho hp q) k
theorem Here.ifnullYes (X : Here p l e R s m args below meth c y bytes maxL ret Z h0 ws T cells slots h) {pc pc' : Nat} {Ls : Array Slot} {St : List Value} {o : Int}  (hd : decode bytes pc = .ok (.ifnull o, 3))  (ho : 0 ≤ (pc : Int) + o) (hp : ((pc : Int) + o).toNat = pc') (k : Runs p e below (T.setTop (mkF m pc' Ls St)) G) : Runs p e below (T.setTop (mkF m pc Ls (.null :: St))) G := by
  exact X.step (fun _ hx hb' _ hown _ S t q => XS.ifnullYes S.here hx rfl rfl (hb hb' hd) rfl ho hp q) k
theorem Here.ifnonnullYes (X : Here p l e R s m args below meth c y bytes maxL ret Z h0 ws T cells slots h) {pc pc' : Nat} {Ls : Array Slot} {St : List Value} {o : Int} {b : Addr} (hd : decode bytes pc = .ok (.ifnonnull o, 3))  (ho : 0 ≤ (pc : Int) + o) (hp : ((pc : Int) + o).toNat = pc') (k : Runs p e below (T.setTop (mkF m pc' Ls St)) G) : Runs p e below (T.setTop (mkF m pc Ls (.ref b :: St))) G := by
  exact X.step (fun _ hx hb' _ hown _ S t q => XS.ifnonnullYes S.here hx rfl rfl (hb hb' hd) rfl ho hp q) k
theorem Here.ifNo (X : Here p l e R s m args below meth c y bytes maxL ret Z h0 ws T cells slots h) {pc pc' : Nat} {Ls : Array Slot} {St : List Value} {o : Int} {cd : ClassFile.Cond} {a : Int32} (hd : decode bytes pc = .ok (.ifCond cd o, 3)) (hc : if_icmp.holds cd a 0 = false) (hp : pc + 3 = pc') (k : Runs p e below (T.setTop (mkF m pc' Ls (St))) G) : Runs p e below (T.setTop (mkF m pc Ls (.int a :: St))) G := by
  subst hp
  exact X.step (fun _ hx hb' _ hown _ S t q => XS.ifNo S.here hx rfl (hb hb' hd) rfl ((if0 _ _).trans hc) q) k
theorem Here.icmpNo (X : Here p l e R s m args below meth c y bytes maxL ret Z h0 ws T cells slots h) {pc pc' : Nat} {Ls : Array Slot} {St : List Value} {o : Int} {cd : ClassFile.Cond} {a b : Int32} (hd : decode bytes pc = .ok (.if_icmp cd o, 3)) (hc : if_icmp.holds cd a b = false) (hp : pc + 3 = pc') (k : Runs p e below (T.setTop (mkF m pc' Ls (St))) G) : Runs p e below (T.setTop (mkF m pc Ls (.int b :: .int a :: St))) G := by
  subst hp
  exact X.step (fun _ hx hb' _ hown _ S t q => XS.icmpNo S.here hx rfl (hb hb' hd) rfl hc q) k
theorem Here.ifnullNo (X : Here p l e R s m args below meth c y bytes maxL ret Z h0 ws T cells slots h) {pc pc' : Nat} {Ls : Array Slot} {St : List Value} {o : Int} {b : Addr} (hd : decode bytes pc = .ok (.ifnull o, 3))  (hp : pc + 3 = pc') (k : Runs p e below (T.setTop (mkF m pc' Ls (St))) G) : Runs p e below (T.setTop (mkF m pc Ls (.ref b :: St))) G := by
  subst hp
  exact X.step (fun _ hx hb' _ hown _ S t q => XS.ifnullNo S.here hx rfl (hb hb' hd) rfl q) k
theorem Here.ifnonnullNo (X : Here p l e R s m args below meth c y bytes maxL ret Z h0 ws T cells slots h) {pc pc' : Nat} {Ls : Array Slot} {St : List Value} {o : Int} (hd : decode bytes pc = .ok (.ifnonnull o, 3))  (hp : pc + 3 = pc') (k : Runs p e below (T.setTop (mkF m pc' Ls (St))) G) : Runs p e below (T.setTop (mkF m pc Ls (.null :: St))) G := by
  subst hp
  exact X.step (fun _ hx hb' _ hown _ S t q => XS.ifnonnullNo S.here hx rfl (hb hb' hd) rfl q) k
theorem Here.acmp (X : Here p l e R s m args below meth c y bytes maxL ret Z h0 ws T cells slots h) {pc pc' : Nat} {Ls : Array Slot} {St : List Value} {o : Int} {cd : ACond} {u v : Value} {same : Bool} (hd : decode bytes pc = .ok (.if_acmp cd o, 3)) (hu : u.isRef = true) (hv : v.isRef = true) (hq : decide (u = v) = same) (ho : 0 ≤ (pc : Int) + o) (hp : pc' = if acV cd same = true then ((pc : Int) + o).toNat else pc + 3) (k : Runs p e below (T.setTop (mkF m pc' Ls St)) G) : Runs p e below (T.setTop (mkF m pc Ls (v :: u :: St))) G := by
  exact X.step (fun _ hx hb' _ hown _ S t q => Jvm.RoadKit.acmp (g := mkF m pc Ls (v :: u :: St)) S hx rfl hu hv rfl (hb hb' hd) rfl hq ho hp q) k
theorem Here.getfield (X : Here p l e R s m args below meth c y bytes maxL ret Z h0 ws T cells slots h) {pc pc' : Nat} {Ls : Array Slot} {St : List Value} {R0 O n d host : String} {i : Nat} {a : Addr} {v : Value} (w : (Jvm.Cond.fieldLink y.cls i R0 n d).before a0 Z = true ∨ (Jvm.Cond.fieldLinkNest y.cls i R0 n d host).before a0 Z = true) (via : Via Z R0 O n d) (F : Fld Z h a O n d v) (hd : decode bytes pc = .ok (.getfield i, 3)) (hp : pc + 3 = pc')
    (k : ∀ T', Here p l e R s m args below meth c y bytes maxL ret Z h0 ws T' cells slots h → Runs p e below (T'.setTop (mkF m pc' Ls (v :: St))) G) : Runs p e below (T.setTop (mkF m pc Ls (.ref a :: St))) G := by
  subst hp
  exact X.stepT (fun _ hx hb' _ hZ hown eT S => getF S hx hZ hown w via eT F (g := mkF m pc Ls (.ref a :: St)) rfl rfl (hb hb' hd)) k
theorem Here.getstatic (X : Here p l e R s m args below meth c y bytes maxL ret Z h0 ws T cells slots h) {pc pc' : Nat} {Ls : Array Slot} {St : List Value} {R0 O n d host : String} {i : Nat} {v : Value} (w : (Jvm.Cond.fieldLink y.cls i R0 n d).before a0 Z = true ∨ (Jvm.Cond.fieldLinkNest y.cls i R0 n d host).before a0 Z = true) (via : Via Z R0 O n d) (F : Sta Z h O n d v) (hd : decode bytes pc = .ok (.getstatic i, 3)) (hp : pc + 3 = pc')
    (k : ∀ T', Here p l e R s m args below meth c y bytes maxL ret Z h0 ws T' cells slots h → Runs p e below (T'.setTop (mkF m pc' Ls (v :: St))) G) : Runs p e below (T.setTop (mkF m pc Ls St)) G := by
  subst hp
  exact X.stepT (fun _ hx hb' _ hZ hown eT S => getS2 S hx hZ hown w via eT F (g := mkF m pc Ls St) rfl (hb hb' hd)) k
theorem Here.putfield (X : Here p l e R s m args below meth c y bytes maxL ret Z h0 ws T cells slots h) {pc pc' : Nat} {Ls : Array Slot} {St : List Value} {R0 O n d host C : String} {i kk : Nat} {ty : FieldType} {a : Addr} {v old : Value} (w : (Jvm.Cond.fieldLink y.cls i R0 n d).before a0 Z = true ∨ (Jvm.Cond.fieldLinkNest y.cls i R0 n d host).before a0 Z = true) (via : Via Z R0 O n d) (F : Fld Z h a O n d old) (E : Exa Z h a C)
    (L : (Jvm.Cond.lays C O n d).before a0 Z = true ∨ ((Jvm.Cond.laysFinal C O n d).before a0 Z = true ∧ y.cls = O ∧ y.name = "<init>")) (wi : (Jvm.Cond.instantiable C kk).before a0 Z = true) (hty : parseFieldDescriptor d = some ty) (hn : narrow ty v = v) (hf : fits ty v = true) (hd : decode bytes pc = .ok (.putfield i, 3)) (hp : pc + 3 = pc') (hws : a ∈ ws ∨ h0.size ≤ a)
    (k : ∀ T' h', Here p l e R s m args below meth c y bytes maxL ret Z h0 ws T' cells slots h' → Wr h h' a (Jvm.RoadKit.slotOf Z O n d) v → Runs p e below (T'.setTop (mkF m pc' Ls St)) G) : Runs p e below (T.setTop (mkF m pc Ls (v :: .ref a :: St))) G := by
  subst hp
  exact X.stepW hws (fun _ hx hb' hnm hZ hown eT S => putF S hx hZ hown w via eT F E (L.imp id fun q => ⟨q.1, q.2.1, hnm.trans q.2.2⟩) wi hty hn hf (g := mkF m pc Ls (v :: .ref a :: St)) rfl rfl (hb hb' hd)) k
theorem Here.putfieldN (X : Here p l e R s m args below meth c y bytes maxL ret Z h0 ws T cells slots h) {pc pc' : Nat} {Ls : Array Slot} {St : List Value} {R0 O n d C : String} {i kk : Nat} {ty : FieldType} {a : Addr} {v v' old : Value} (w : (Jvm.Cond.fieldLink y.cls i R0 n d).before a0 Z = true) (via : Via Z R0 O n d) (F : Fld Z h a O n d old) (E : Exa Z h a C)
    (L : (Jvm.Cond.lays C O n d).before a0 Z = true ∨ ((Jvm.Cond.laysFinal C O n d).before a0 Z = true ∧ y.cls = O ∧ y.name = "<init>")) (wi : (Jvm.Cond.instantiable C kk).before a0 Z = true) (hty : parseFieldDescriptor d = some ty) (hn : narrow ty v = v') (hf : fits ty v' = true) (hd : decode bytes pc = .ok (.putfield i, 3)) (hp : pc + 3 = pc') (hws : a ∈ ws ∨ h0.size ≤ a)
    (k : ∀ T' h', Here p l e R s m args below meth c y bytes maxL ret Z h0 ws T' cells slots h' → Wr h h' a (Jvm.RoadKit.slotOf Z O n d) v' → Runs p e below (T'.setTop (mkF m pc' Ls St)) G) : Runs p e below (T.setTop (mkF m pc Ls (v :: .ref a :: St))) G := by
  subst hp
  exact X.stepW hws (fun _ hx hb' hnm hZ hown eT S => putFN S hx hZ hown w via eT F E (L.imp id fun q => ⟨q.1, q.2.1, hnm.trans q.2.2⟩) wi hty hn hf (g := mkF m pc Ls (v :: .ref a :: St)) rfl rfl (hb hb' hd)) k
theorem Here.new (X : Here p l e R s m args below meth c y bytes maxL ret Z h0 ws T cells slots h) {pc pc' : Nat} {Ls : Array Slot} {St : List Value} {C : String} {i n : Nat} (w : (Jvm.Cond.classLink y.cls i C).before a0 Z = true) (wi : (Jvm.Cond.instantiable C n).before a0 Z = true) (wz : (Jvm.Cond.initialized C).before a0 Z = true) (hd : decode bytes pc = .ok (.new i, 3)) (hp : pc + 3 = pc') (hc : cells + 1 ≤ R.cells) (hl : slots + n ≤ R.slots)
    (k : ∀ T' h' b, Here p l e R s m args below meth c y bytes maxL ret Z h0 ws T' (cells + 1) (slots + n) h' → b = h.size → Ext h h' → Exa Z h' b C → (∀ {O nm d : String} {ty : FieldType}, Laid Z a0 C O nm d → parseFieldDescriptor d = some ty → Fld Z h' b O nm d (defaultValue ty)) → Runs p e below (T'.setTop (mkF m pc' Ls (.ref b :: St))) G) : Runs p e below (T.setTop (mkF m pc Ls St)) G := by
  subst hp
  obtain ⟨⟨x1, x2, x3, x4, x5, x6, x7, x8⟩, x9, x10, locs, S, N⟩ := X
  obtain ⟨T', h', S', e', E, A, D, -, st⟩ := newO S x1 x2 x5 w wi wz x9 (g := mkF m pc Ls St) rfl (hb x3 hd) hc hl
  exact (k T' h' _ ⟨⟨x1, x2, x3, x4, x5, x6, x7, x8⟩, e', x10.ext E, _, S', N⟩ rfl E A D).of st
theorem Here.initObj (X : Here p l e R s m args below meth c y bytes maxL ret Z h0 ws T cells slots h) {pc pc' : Nat} {Ls : Array Slot} {St : List Value} {i : Nat} {a : Addr} (w1 : (Jvm.Cond.methodLink y.cls i Lib.objectInit).before a0 Z = true) (w2 : (Jvm.Cond.instanceMethod Lib.objectInit).before a0 Z = true) (w3 : (Jvm.Cond.code Lib.objectInit ⟨#[0xb1]⟩ 1 none).before a0 Z = true) (hsz : Ls.size = maxL) (hd : decode bytes pc = .ok (.invokespecial i, 3)) (hp : pc + 3 = pc') (hf : 1 ≤ R.frames) {W : Nat} (hW : (St.map fun v => v.category).sum = W) (hl : W + 12 ≤ R.locals)
    (k : ∀ T', Here p l e R s m args below meth c y bytes maxL ret Z h0 ws T' cells slots h → Runs p e below (T'.setTop (mkF m pc' Ls St)) G) : Runs p e below (T.setTop (mkF m pc Ls (.ref a :: St))) G := by
  subst hp
  exact X.stepT (fun _ hx hb' hml hZ hown eT S => initO S hx hZ hown w1 w2 w3 eT (g := mkF m pc Ls (.ref a :: St)) rfl (hsz.trans hml.symm) rfl (hb hb' hd) hf (W := W) (by show 2 * 0 + _ ≤ _; rw [hW]; omega) hl) k
theorem Here.castYes (X : Here p l e R s m args below meth c y bytes maxL ret Z h0 ws T cells slots h) {pc pc' : Nat} {Ls : Array Slot} {St : List Value} {K : String} {i : Nat} {a : Addr} (w : (Jvm.Cond.classLink y.cls i K).before a0 Z = true) (F : Jvm.RoadKit.Ins Z h a K true) (hd : decode bytes pc = .ok (.checkcast i, 3)) (hp : pc + 3 = pc')
    (k : ∀ T', Here p l e R s m args below meth c y bytes maxL ret Z h0 ws T' cells slots h → Runs p e below (T'.setTop (mkF m pc' Ls (.ref a :: St))) G) : Runs p e below (T.setTop (mkF m pc Ls (.ref a :: St))) G := by
  subst hp
  exact X.stepT (fun _ hx hb' _ hZ hown eT S => castY S hx hZ hown w eT F (g := mkF m pc Ls (.ref a :: St)) rfl rfl (hb hb' hd)) k
theorem Here.instYes (X : Here p l e R s m args below meth c y bytes maxL ret Z h0 ws T cells slots h) {pc pc' : Nat} {Ls : Array Slot} {St : List Value} {K : String} {i : Nat} {a : Addr} (w : (Jvm.Cond.classLink y.cls i K).before a0 Z = true) (F : Jvm.RoadKit.Ins Z h a K true) (hd : decode bytes pc = .ok (.instanceof i, 3)) (hp : pc + 3 = pc')
    (k : ∀ T', Here p l e R s m args below meth c y bytes maxL ret Z h0 ws T' cells slots h → Runs p e below (T'.setTop (mkF m pc' Ls (.int (1 : Int32) :: St))) G) : Runs p e below (T.setTop (mkF m pc Ls (.ref a :: St))) G := by
  subst hp
  exact X.stepT (fun _ hx hb' _ hZ hown eT S => instY S hx hZ hown w eT F (g := mkF m pc Ls (.ref a :: St)) rfl rfl (hb hb' hd)) k
theorem Here.instNo (X : Here p l e R s m args below meth c y bytes maxL ret Z h0 ws T cells slots h) {pc pc' : Nat} {Ls : Array Slot} {St : List Value} {C K : String} {i : Nat} {a : Addr} (w : (Jvm.Cond.classLink y.cls i K).before a0 Z = true) (E : Exa Z h a C) (F : ∃ c t, Z.vm.findClass C = some c ∧ Z.vm.findClass K = some t ∧ Z.vm.assignable c t = false) (hd : decode bytes pc = .ok (.instanceof i, 3)) (hp : pc + 3 = pc')
    (k : ∀ T', Here p l e R s m args below meth c y bytes maxL ret Z h0 ws T' cells slots h → Runs p e below (T'.setTop (mkF m pc' Ls (.int (0 : Int32) :: St))) G) : Runs p e below (T.setTop (mkF m pc Ls (.ref a :: St))) G := by
  subst hp
  exact X.stepT (fun _ hx hb' _ hZ hown eT S => Jvm.RoadKit.instNo S hx hZ hown w eT E F (g := mkF m pc Ls (.ref a :: St)) rfl rfl (hb hb' hd)) k
theorem Here.checkcastNull (X : Here p l e R s m args below meth c y bytes maxL ret Z h0 ws T cells slots h) {pc pc' : Nat} {Ls : Array Slot} {St : List Value} {i : Nat} (hd : decode bytes pc = .ok (.checkcast i, 3)) (hp : pc + 3 = pc') (k : Runs p e below (T.setTop (mkF m pc' Ls (.null :: St))) G) : Runs p e below (T.setTop (mkF m pc Ls (.null :: St))) G := by
  subst hp
  exact X.step (fun _ hx hb' _ _ _ S t q => S.checkcastNull hx (g := mkF m pc Ls (.null :: St)) rfl rfl (hb hb' hd) t q) k
theorem Here.instanceofNull (X : Here p l e R s m args below meth c y bytes maxL ret Z h0 ws T cells slots h) {pc pc' : Nat} {Ls : Array Slot} {St : List Value} {i : Nat} (hd : decode bytes pc = .ok (.instanceof i, 3)) (hp : pc + 3 = pc') (k : Runs p e below (T.setTop (mkF m pc' Ls (.int (0 : Int32) :: St))) G) : Runs p e below (T.setTop (mkF m pc Ls (.null :: St))) G := by
  subst hp
  exact X.step (fun _ hx hb' _ _ _ S t q => S.instanceofNull hx (g := mkF m pc Ls (.null :: St)) rfl rfl (hb hb' hd) t q) k
theorem Here.aaload (X : Here p l e R s m args below meth c y bytes maxL ret Z h0 ws T cells slots h) {pc pc' : Nat} {Ls : Array Slot} {St : List Value} {a : Addr} {cl : Cell} {ty : FieldType} {j : Int32} {v : Value} (A : Arr Z h a cl ty) (hty : ty.isReference = true) (hj : ¬ (j < 0 ∨ cl.slots.size ≤ j.toNatClampNeg)) (hv : cl.slots[j.toNatClampNeg]? = some v) (hd : decode bytes pc = .ok (.aaload, 1)) (hp : pc + 1 = pc')
    (k : Runs p e below (T.setTop (mkF m pc' Ls (v :: St))) G) : Runs p e below (T.setTop (mkF m pc Ls (.int j :: .ref a :: St))) G := by
  subst hp
  exact X.step (fun _ hx hb' hZ _ eT S t q => S.aaload hx (j := j) (v := v) (by rw [eT]; exact A.1) (State.isArrayOf_alike hZ.alike A.2.1) hty A.2.2 hj hv (g := mkF m pc Ls (.int j :: .ref a :: St)) rfl rfl (hb hb' hd) t q) k
theorem sta_keep0 {C n d : String} {v : Value} {h' : Heap} (F : Sta Z h C n d v) (K : Keep h h' []) : Sta Z h' C n d v := by
  obtain ⟨cf, i, k, f, st, cell, h1, h2, h3, h4, h5, r⟩ := F
  exact ⟨cf, i, k, f, st, cell, h1, h2, h3, h4, K.2.1 _ _ h5 nin0, r⟩
theorem arr_keep0 {a : Addr} {cl : Cell} {ty : FieldType} {h' : Heap} (F : Arr Z h a cl ty) (K : Keep h h' []) : Arr Z h' a cl ty := ⟨K.2.1 _ _ F.1 nin0, F.2⟩
theorem allWs0 {P : Addr → Prop} : ∀ x ∈ ([] : List Addr), P x := fun _ q => nomatch q
/-! arrays: the list of their values -/
/-- the array at a holds just these values -/
def Lst (Z : State) (h : Heap) (a : Addr) (ty : FieldType) (vs : List Value) : Prop := ∃ cl : Cell, Arr Z h a cl ty ∧ cl.slots = vs.toArray ∧ vs.length < 2 ^ 31
section L
variable {a b : Addr} {ty : FieldType} {vs : List Value} {h' : Heap} {sl : Nat} {v : Value} {ws' : List Addr} {C' : String}
theorem Lst.lt (F : Lst Z h a ty vs) : a < h.size := by obtain ⟨c, A, -⟩ := F; exact A.lt
theorem Lst.len (F : Lst Z h a ty vs) : vs.length < 2 ^ 31 := by obtain ⟨c, A, -, q⟩ := F; exact q
theorem Lst.ext (F : Lst Z h a ty vs) (E : Ext h h') : Lst Z h' a ty vs := by obtain ⟨c, A, r⟩ := F; exact ⟨c, A.ext E, r⟩
theorem Lst.other (F : Lst Z h b ty vs) (W : Wr h h' a sl v) (q : b ≠ a) : Lst Z h' b ty vs := by obtain ⟨c, A, r⟩ := F; exact ⟨c, A.other W q, r⟩
theorem Lst.keep (F : Lst Z h a ty vs) (K : Keep h h' ws') (q : a ∉ ws') : Lst Z h' a ty vs := by obtain ⟨c, A, r⟩ := F; exact ⟨c, ⟨K.2.1 a c A.1 q, A.2⟩, r⟩
theorem Lst.set (F : Lst Z h a ty vs) (W : Wr h h' a sl v) : Lst Z h' a ty (vs.set sl v) := by
  obtain ⟨c, A, r, q⟩ := F
  exact ⟨_, A.same W, by simp [Cell.setSlot, r], by simpa using q⟩
theorem Lst.ne (F : Lst Z h a ty vs) (wi : (Jvm.Cond.instantiable C' sl).before a0 Z = true) (G : Exa Z h b C') : b ≠ a := by obtain ⟨c, A, -⟩ := F; exact ne_arr G wi A
end L
/-- the place j lies inside a list -/
def Inb (j : Int32) (n : Nat) : Prop := 0 ≤ j.toInt ∧ j.toInt < (n : Int)
theorem nat_of_ins {j : Int32} {n : Nat} (q : Inb j n) : j.toNatClampNeg = j.toInt.toNat ∧ j.toInt.toNat < n ∧ ¬ j < 0 := by
  obtain ⟨q1, q2⟩ := q
  refine ⟨rfl, by omega, fun z => ?_⟩
  have : j.toInt < (0 : Int32).toInt := Int32.lt_iff_toInt_lt.mp z
  simp at this; omega
theorem in_of_ins {cl : Cell} {vs : List Value} {j : Int32} (r : cl.slots = vs.toArray) (q : Inb j vs.length) : ¬ (j < 0 ∨ cl.slots.size ≤ j.toNatClampNeg) := by
  obtain ⟨q1, q2, q3⟩ := nat_of_ins q
  rw [q1, r]; simp only [List.size_toArray]; intro z; rcases z with z | z
  · exact q3 z
  · omega
theorem at_of_ins {cl : Cell} {vs : List Value} {j : Int32} {v : Value} (r : cl.slots = vs.toArray) (hv : vs[j.toInt.toNat]? = some v) : cl.slots[j.toNatClampNeg]? = some v := by
  rw [r]; exact (by simpa using hv : vs.toArray[j.toInt.toNat]? = some v)
theorem Here.newarray (X : Here p l e R s m args below meth c y bytes maxL ret Z h0 ws T cells slots h) {pc pc' : Nat} {Ls : Array Slot} {St : List Value} {aty : ArrayType} {ty : FieldType} {n : Int32} (hty : newarray.typeOf aty = ty) (w : (Jvm.Cond.arrayClass ty).before a0 Z = true) (hd : decode bytes pc = .ok (.newarray aty, 2)) (hp : pc + 2 = pc') {cap : Nat} (hn : Inb n (cap + 1)) (hb8 : cap * 8 ≤ 536870912) (hc : cells + 1 ≤ R.cells) (hl : slots + cap ≤ R.slots)
    (k : ∀ T' h' b, Here p l e R s m args below meth c y bytes maxL ret Z h0 ws T' (cells + 1) (slots + cap) h' → b = h.size → Ext h h' → Lst Z h' b ty (List.replicate n.toInt.toNat (defaultValue ty)) → Runs p e below (T'.setTop (mkF m pc' Ls (.ref b :: St))) G) : Runs p e below (T.setTop (mkF m pc Ls (.int n :: St))) G := by
  subst hp; subst hty
  obtain ⟨n1, n2, n3⟩ := nat_of_ins hn
  obtain ⟨⟨x1, x2, x3, x4, x5, x6, x7, x8⟩, x9, x10, locs, S, N⟩ := X
  obtain ⟨T', h', cA, S', e', E, A, st⟩ := newP S x1 x2 w x9 (g := mkF m pc Ls (.int n :: St)) rfl (hb x3 hd) rfl n3 (cap := cap) (by rw [n1]; omega) hb8 hc hl
  exact (k T' h' _ ⟨⟨x1, x2, x3, x4, x5, x6, x7, x8⟩, e', x10.ext E, _, S', N⟩ rfl E ⟨_, A, by show Array.replicate n.toNatClampNeg _ = _; rw [n1, List.toArray_replicate], by rw [List.length_replicate]; omega⟩).of st
theorem Here.arraylength (X : Here p l e R s m args below meth c y bytes maxL ret Z h0 ws T cells slots h) {pc pc' : Nat} {Ls : Array Slot} {St : List Value} {a : Addr} {ty : FieldType} {vs : List Value} {n : Int32} (F : Lst Z h a ty vs) (hn : vs.length.toInt32 = n) (hd : decode bytes pc = .ok (.arraylength, 1)) (hp : pc + 1 = pc')
    (k : Runs p e below (T.setTop (mkF m pc' Ls (.int n :: St))) G) : Runs p e below (T.setTop (mkF m pc Ls (.ref a :: St))) G := by
  subst hp
  obtain ⟨cl, A, r, -⟩ := F
  exact X.step (fun _ hx hb' hZ _ eT S t q => S.arraylength hx (by rw [eT]; exact A.1) (State.isArrayOf_alike hZ.alike A.2.1) (g := mkF m pc Ls (.ref a :: St)) rfl rfl (hb hb' hd) t (by rw [r, List.size_toArray, hn]; exact q)) k
theorem Here.iaload (X : Here p l e R s m args below meth c y bytes maxL ret Z h0 ws T cells slots h) {pc pc' : Nat} {Ls : Array Slot} {St : List Value} {a : Addr} {vs : List Value} {j : Int32} {v : Value} (F : Lst Z h a .int vs) (hj : Inb j vs.length) (hv : vs[j.toInt.toNat]? = some v) (hd : decode bytes pc = .ok (.iaload, 1)) (hp : pc + 1 = pc')
    (k : Runs p e below (T.setTop (mkF m pc' Ls (v :: St))) G) : Runs p e below (T.setTop (mkF m pc Ls (.int j :: .ref a :: St))) G := by
  subst hp
  obtain ⟨cl, A, r, -⟩ := F
  exact X.step (fun _ hx hb' hZ _ eT S t q => S.iaload hx (j := j) (v := v) (by rw [eT]; exact A.1) (State.isArrayOf_alike hZ.alike A.2.1) A.2.2 (in_of_ins r hj) (at_of_ins r hv) (g := mkF m pc Ls (.int j :: .ref a :: St)) rfl rfl (hb hb' hd) t q) k
theorem Here.laload (X : Here p l e R s m args below meth c y bytes maxL ret Z h0 ws T cells slots h) {pc pc' : Nat} {Ls : Array Slot} {St : List Value} {a : Addr} {vs : List Value} {j : Int32} {v : Value} (F : Lst Z h a .long vs) (hj : Inb j vs.length) (hv : vs[j.toInt.toNat]? = some v) (hd : decode bytes pc = .ok (.laload, 1)) (hp : pc + 1 = pc')
    (k : Runs p e below (T.setTop (mkF m pc' Ls (v :: St))) G) : Runs p e below (T.setTop (mkF m pc Ls (.int j :: .ref a :: St))) G := by
  subst hp
  obtain ⟨cl, A, r, -⟩ := F
  exact X.step (fun _ hx hb' hZ _ eT S t q => S.laload hx (j := j) (v := v) (by rw [eT]; exact A.1) (State.isArrayOf_alike hZ.alike A.2.1) A.2.2 (in_of_ins r hj) (at_of_ins r hv) (g := mkF m pc Ls (.int j :: .ref a :: St)) rfl rfl (hb hb' hd) t q) k
theorem Here.caload (X : Here p l e R s m args below meth c y bytes maxL ret Z h0 ws T cells slots h) {pc pc' : Nat} {Ls : Array Slot} {St : List Value} {a : Addr} {vs : List Value} {j : Int32} {v : Value} (F : Lst Z h a .char vs) (hj : Inb j vs.length) (hv : vs[j.toInt.toNat]? = some v) (hd : decode bytes pc = .ok (.caload, 1)) (hp : pc + 1 = pc')
    (k : Runs p e below (T.setTop (mkF m pc' Ls (v :: St))) G) : Runs p e below (T.setTop (mkF m pc Ls (.int j :: .ref a :: St))) G := by
  subst hp
  obtain ⟨cl, A, r, -⟩ := F
  exact X.step (fun _ hx hb' hZ _ eT S t q => S.caload hx (j := j) (v := v) (by rw [eT]; exact A.1) (State.isArrayOf_alike hZ.alike A.2.1) A.2.2 (in_of_ins r hj) (at_of_ins r hv) (g := mkF m pc Ls (.int j :: .ref a :: St)) rfl rfl (hb hb' hd) t q) k
theorem Here.baload (X : Here p l e R s m args below meth c y bytes maxL ret Z h0 ws T cells slots h) {pc pc' : Nat} {Ls : Array Slot} {St : List Value} {a : Addr} {vs : List Value} {j : Int32} {v : Value} (F : Lst Z h a .byte vs) (hj : Inb j vs.length) (hv : vs[j.toInt.toNat]? = some v) (hd : decode bytes pc = .ok (.baload, 1)) (hp : pc + 1 = pc')
    (k : Runs p e below (T.setTop (mkF m pc' Ls (v :: St))) G) : Runs p e below (T.setTop (mkF m pc Ls (.int j :: .ref a :: St))) G := by
  subst hp
  obtain ⟨cl, A, r, -⟩ := F
  exact X.step (fun _ hx hb' hZ _ eT S t q => S.baloadBytes hx (j := j) (v := v) (by rw [eT]; exact A.1) (State.isArrayOf_alike hZ.alike A.2.1) A.2.2 (in_of_ins r hj) (at_of_ins r hv) (g := mkF m pc Ls (.int j :: .ref a :: St)) rfl rfl (hb hb' hd) t q) k
theorem Here.iastore (X : Here p l e R s m args below meth c y bytes maxL ret Z h0 ws T cells slots h) {pc pc' : Nat} {Ls : Array Slot} {St : List Value} {a : Addr} {vs : List Value} {j : Int32} {x : Int32} (F : Lst Z h a .int vs) (hj : Inb j vs.length) (hd : decode bytes pc = .ok (.iastore, 1)) (hp : pc + 1 = pc') (hws : a ∈ ws ∨ h0.size ≤ a)
    (k : ∀ T' h', Here p l e R s m args below meth c y bytes maxL ret Z h0 ws T' cells slots h' → Wr h h' a j.toInt.toNat (.int x) → Runs p e below (T'.setTop (mkF m pc' Ls St)) G) : Runs p e below (T.setTop (mkF m pc Ls (.int x :: .int j :: .ref a :: St))) G := by
  subst hp
  obtain ⟨cl, A, r, -⟩ := F
  exact X.stepW hws (fun _ hx hb' _ hZ _ eT S => stI S hx hZ eT A (j := j) (in_of_ins r hj) (g := mkF m pc Ls (.int x :: .int j :: .ref a :: St)) rfl rfl (hb hb' hd)) k
theorem Here.lastore (X : Here p l e R s m args below meth c y bytes maxL ret Z h0 ws T cells slots h) {pc pc' : Nat} {Ls : Array Slot} {St : List Value} {a : Addr} {vs : List Value} {j : Int32} {x : Int64} (F : Lst Z h a .long vs) (hj : Inb j vs.length) (hd : decode bytes pc = .ok (.lastore, 1)) (hp : pc + 1 = pc') (hws : a ∈ ws ∨ h0.size ≤ a)
    (k : ∀ T' h', Here p l e R s m args below meth c y bytes maxL ret Z h0 ws T' cells slots h' → Wr h h' a j.toInt.toNat (.long x) → Runs p e below (T'.setTop (mkF m pc' Ls St)) G) : Runs p e below (T.setTop (mkF m pc Ls (.long x :: .int j :: .ref a :: St))) G := by
  subst hp
  obtain ⟨cl, A, r, -⟩ := F
  exact X.stepW hws (fun _ hx hb' _ hZ _ eT S => stJ S hx hZ eT A (j := j) (in_of_ins r hj) (g := mkF m pc Ls (.long x :: .int j :: .ref a :: St)) rfl rfl (hb hb' hd)) k
theorem Here.castore (X : Here p l e R s m args below meth c y bytes maxL ret Z h0 ws T cells slots h) {pc pc' : Nat} {Ls : Array Slot} {St : List Value} {a : Addr} {vs : List Value} {j : Int32} {x : Int32} (F : Lst Z h a .char vs) (hj : Inb j vs.length) (hd : decode bytes pc = .ok (.castore, 1)) (hp : pc + 1 = pc') (hws : a ∈ ws ∨ h0.size ≤ a)
    (k : ∀ T' h', Here p l e R s m args below meth c y bytes maxL ret Z h0 ws T' cells slots h' → Wr h h' a j.toInt.toNat (.int (nar .char x)) → Runs p e below (T'.setTop (mkF m pc' Ls St)) G) : Runs p e below (T.setTop (mkF m pc Ls (.int x :: .int j :: .ref a :: St))) G := by
  subst hp
  obtain ⟨cl, A, r, -⟩ := F
  exact X.stepW hws (fun _ hx hb' _ hZ _ eT S => stC S hx hZ eT A (j := j) (in_of_ins r hj) (g := mkF m pc Ls (.int x :: .int j :: .ref a :: St)) rfl rfl (hb hb' hd)) k
theorem Here.bastore (X : Here p l e R s m args below meth c y bytes maxL ret Z h0 ws T cells slots h) {pc pc' : Nat} {Ls : Array Slot} {St : List Value} {a : Addr} {vs : List Value} {j : Int32} {x : Int32} (F : Lst Z h a .byte vs) (hj : Inb j vs.length) (hd : decode bytes pc = .ok (.bastore, 1)) (hp : pc + 1 = pc') (hws : a ∈ ws ∨ h0.size ≤ a)
    (k : ∀ T' h', Here p l e R s m args below meth c y bytes maxL ret Z h0 ws T' cells slots h' → Wr h h' a j.toInt.toNat (.int x.toInt8.toInt32) → Runs p e below (T'.setTop (mkF m pc' Ls St)) G) : Runs p e below (T.setTop (mkF m pc Ls (.int x :: .int j :: .ref a :: St))) G := by
  subst hp
  obtain ⟨cl, A, r, -⟩ := F
  exact X.stepW hws (fun _ hx hb' _ hZ _ eT S => stB S hx hZ eT A (j := j) (in_of_ins r hj) (g := mkF m pc Ls (.int x :: .int j :: .ref a :: St)) rfl rfl (hb hb' hd)) k
/-! calls by a contract -/
variable {y' : MethodName} {bytes' : ByteArray} {maxL' : Nat} {ret' : Option FieldType} {rm : Room} {as : Array Value} {ws' : List Addr} {Q : Option Value → Heap → Prop}
theorem backCt (X : Here p l e R s m args below meth c y bytes maxL ret Z h0 ws T cells slots h) {len W : Nat} (hM : Ct l Z y' bytes' maxL' ret' rm as h ws' Q) (wc : (Jvm.Cond.code y' bytes' maxL' ret').before a0 Z = true) (wz : (Jvm.Cond.initialized y'.cls).before a0 Z = true) (hf : rm.frames + 1 ≤ R.frames) (hl : W + (maxL' + 11) + rm.locals ≤ R.locals) :
    Back l R p e below s args y' len W (fun A a => a = as ∧ A.U.heap = h ∧ A.cells + rm.cells ≤ R.cells ∧ A.slots + rm.slots ≤ R.slots)
      (fun A _ v B => ∃ L, (Q v B.U.heap ∧ Keep h B.U.heap ws' ∧ Wrote h ws' L) ∧ B.locs = A.locs ++ L ∧ B.cells = A.cells + rm.cells ∧ B.slots = A.slots + rm.slots) :=
  backOf (Q := fun v h' L => Q v h' ∧ Keep h h' ws' ∧ Wrote h ws' L) (hM []) X.hZ wc wz hf hl
theorem Here.back (X : Here p l e R s m args below meth c y bytes maxL ret Z h0 ws T cells slots h) {U : State} {locs : List Loc} {h' : Heap} {L : List Loc} (N : Wrote h0 ws locs) (hU : Stand p l e R s m args below meth c U (locs ++ L) (cells + rm.cells) (slots + rm.slots)) (e' : U.heap = h') (K : Keep h h' ws') (N' : Wrote h ws' L) (hws : ∀ x ∈ ws', x ∈ ws ∨ h0.size ≤ x) :
    Here p l e R s m args below meth c y bytes maxL ret Z h0 ws U (cells + rm.cells) (slots + rm.slots) h' :=
  ⟨X.1, e', X.keep.trans K hws, _, hU, N.app N' X.size hws⟩
theorem Here.callS (X : Here p l e R s m args below meth c y bytes maxL ret Z h0 ws T cells slots h) {pc pc' : Nat} {Ls : Array Slot} {St : List Value} {i : Nat} {sig : MethodDescriptor} {argsL rest : List Value} (hM : Ct l Z y' bytes' maxL' ret' rm as h ws' Q) (w1 : (Jvm.Cond.methodLink y.cls i y').before a0 Z = true) (w2 : (Jvm.Cond.static y').before a0 Z = true) (w3 : (Jvm.Cond.initialized y'.cls).before a0 Z = true) (w4 : (Jvm.Cond.code y' bytes' maxL' ret').before a0 Z = true)
    (hy : y'.cls ≠ "java/lang/invoke/MethodHandle" ∧ y'.cls ≠ "java/lang/invoke/VarHandle") (hsig : parseMethodDescriptor y'.desc = some sig) (hlen : argsL.length = sig.parameters.length) (has : argsL.toArray = as) (hst : St = argsL.reverse ++ rest) (hsz : Ls.size = maxL) (hd : decode bytes pc = .ok (.invokestatic i, 3)) (hp : pc + 3 = pc')
    (hf : rm.frames + 1 ≤ R.frames) {W : Nat} (hW : (rest.map fun v => v.category).sum = W) (hl : W + (maxL' + 11) + rm.locals ≤ R.locals) (hc : cells + rm.cells ≤ R.cells) (hs : slots + rm.slots ≤ R.slots) (hws : ∀ x ∈ ws', x ∈ ws ∨ h0.size ≤ x)
    (k : ∀ T' h' v, Here p l e R s m args below meth c y bytes maxL ret Z h0 ws T' (cells + rm.cells) (slots + rm.slots) h' → Keep h h' ws' → Q v h' → Runs p e below (T'.setTop (mkF m pc' Ls (v.toList ++ rest))) G) : Runs p e below (T.setTop (mkF m pc Ls St)) G := by
  subst hp hst
  have X' := X
  obtain ⟨⟨x1, x2, x3, x4, x5, x6, x7, x8⟩, x9, x10, locs, S, N⟩ := X
  obtain ⟨v, vm₁, ⟨U, lo, ce, sl⟩, -, SU, ⟨Lc, hQ, z1, z2, z3⟩, st⟩ := Jvm.LawKit.callS S x1 (y := y') x5 (mvT x2 w1) (mvT x2 w2) (mvT x2 w3) (mvT x2 w4) hy (backCt X' hM w4 w3 hf hl) (g := mkF m pc Ls (argsL.reverse ++ rest)) rfl (hsz.trans x4.symm) (argsL := argsL) (rest := rest) (lenOf hsig hlen) rfl (by show 2 * 0 + _ ≤ _; rw [hW]; omega) (hb x3 hd) (fun _ _ => ⟨has, x9, hc, hs⟩)
  dsimp only [Pt.U, Pt.locs, Pt.cells, Pt.slots] at SU z1 z2 z3 st hQ
  subst z1 z2 z3
  exact (k U _ v (X'.back N SU rfl hQ.2.1 hQ.2.2 hws) hQ.2.1 hQ.1).of st
theorem Here.special (X : Here p l e R s m args below meth c y bytes maxL ret Z h0 ws T cells slots h) {pc pc' : Nat} {Ls : Array Slot} {St : List Value} {i : Nat} {sig : MethodDescriptor} {a : Addr} {argsL rest : List Value} (hM : Ct l Z y' bytes' maxL' none rm as h ws' Q) (hin : y'.name = "<init>") (w1 : (Jvm.Cond.methodLink y.cls i y').before a0 Z = true) (w2 : (Jvm.Cond.instanceMethod y').before a0 Z = true) (w3 : (Jvm.Cond.initialized y'.cls).before a0 Z = true) (w4 : (Jvm.Cond.code y' bytes' maxL' none).before a0 Z = true)
    (hy : y'.cls ≠ "java/lang/invoke/MethodHandle" ∧ y'.cls ≠ "java/lang/invoke/VarHandle") (hsig : parseMethodDescriptor y'.desc = some sig) (hlen : argsL.length = sig.parameters.length) (has : (.ref a :: argsL).toArray = as) (hst : St = argsL.reverse ++ .ref a :: rest) (hsz : Ls.size = maxL) (hd : decode bytes pc = .ok (.invokespecial i, 3)) (hp : pc + 3 = pc')
    (hf : rm.frames + 1 ≤ R.frames) {W : Nat} (hW : (rest.map fun v => v.category).sum = W) (hl : W + (maxL' + 11) + rm.locals ≤ R.locals) (hc : cells + rm.cells ≤ R.cells) (hs : slots + rm.slots ≤ R.slots) (hws : ∀ x ∈ ws', x ∈ ws ∨ h0.size ≤ x)
    (k : ∀ T' h' v, Here p l e R s m args below meth c y bytes maxL ret Z h0 ws T' (cells + rm.cells) (slots + rm.slots) h' → Keep h h' ws' → Q v h' → Runs p e below (T'.setTop (mkF m pc' Ls (v.toList ++ rest))) G) : Runs p e below (T.setTop (mkF m pc Ls St)) G := by
  subst hp hst
  have X' := X
  obtain ⟨⟨x1, x2, x3, x4, x5, x6, x7, x8⟩, x9, x10, locs, S, N⟩ := X
  obtain ⟨v, vm₁, ⟨U, lo, ce, sl⟩, -, SU, ⟨Lc, hQ, z1, z2, z3⟩, st⟩ := S.specialBack x1 (y := y') hin x5 (mvT x2 w1) (mvT x2 w2) (mvT x2 w4) hy (backCt X' hM w4 w3 hf hl) (g := mkF m pc Ls (argsL.reverse ++ .ref a :: rest)) rfl (hsz.trans x4.symm) (Steps.refl _) (a := a) (argsL := argsL) (rest := rest) (lenOf hsig hlen) rfl (by show 2 * 0 + _ ≤ _; rw [hW]; omega) (hb x3 hd) (fun _ _ => ⟨has, x9, hc, hs⟩)
  dsimp only [Pt.U, Pt.locs, Pt.cells, Pt.slots] at SU z1 z2 z3 st hQ
  subst z1 z2 z3
  exact (k U _ v (X'.back N SU rfl hQ.2.1 hQ.2.2 hws) hQ.2.1 hQ.1).via st
theorem Here.virtual (X : Here p l e R s m args below meth c y bytes maxL ret Z h0 ws T cells slots h) {pc pc' : Nat} {Ls : Array Slot} {St : List Value} {i : Nat} {yr : MethodName} {C : String} {sig : MethodDescriptor} {a : Addr} {argsL rest : List Value} (hM : Ct l Z y' bytes' maxL' ret' rm as h ws' Q) (w1 : (Jvm.Cond.methodLink y.cls i yr).before a0 Z = true) (w5 : (Jvm.Cond.declares yr).before a0 Z = true) (nf : ∀ args, (Jvm.Cond.selects C yr y').before args s = true → NotFace s yr) (w6 : (Jvm.Cond.selects C yr y').before a0 Z = true) (w2 : (Jvm.Cond.instanceMethod y').before a0 Z = true) (w3 : (Jvm.Cond.initialized y'.cls).before a0 Z = true) (w4 : (Jvm.Cond.code y' bytes' maxL' ret').before a0 Z = true)
    (hy : yr.cls ≠ "java/lang/invoke/MethodHandle" ∧ yr.cls ≠ "java/lang/invoke/VarHandle") (E : Exa Z h a C) (hsig : parseMethodDescriptor yr.desc = some sig) (hlen : argsL.length = sig.parameters.length) (has : (.ref a :: argsL).toArray = as) (hst : St = argsL.reverse ++ .ref a :: rest) (hsz : Ls.size = maxL) (hd : decode bytes pc = .ok (.invokevirtual i, 3)) (hp : pc + 3 = pc')
    (hf : rm.frames + 1 ≤ R.frames) {W : Nat} (hW : (rest.map fun v => v.category).sum = W) (hl : W + (maxL' + 11) + rm.locals ≤ R.locals) (hc : cells + rm.cells ≤ R.cells) (hs : slots + rm.slots ≤ R.slots) (hws : ∀ x ∈ ws', x ∈ ws ∨ h0.size ≤ x)
    (k : ∀ T' h' v, Here p l e R s m args below meth c y bytes maxL ret Z h0 ws T' (cells + rm.cells) (slots + rm.slots) h' → Keep h h' ws' → Q v h' → Runs p e below (T'.setTop (mkF m pc' Ls (v.toList ++ rest))) G) : Runs p e below (T.setTop (mkF m pc Ls St)) G := by
  subst hp hst
  have X' := X
  obtain ⟨⟨x1, x2, x3, x4, x5, x6, x7, x8⟩, x9, x10, locs, S, N⟩ := X
  obtain ⟨cq, kq, q1, q2, q3⟩ := isOf (T := T) x2 x9 E
  obtain ⟨v, vm₁, ⟨U, lo, ce, sl⟩, -, SU, ⟨Lc, hQ, z1, z2, z3⟩, st⟩ := S.virtualBack x1 (y := yr) (z := y') x5 (mvT x2 w1) (mvT x2 w5) (nf args (mvT x2 w6)) (mvT x2 w6) (mvT x2 w2) hy (backCt X' hM w4 w3 hf hl) q1 q3 (g := mkF m pc Ls (argsL.reverse ++ .ref a :: rest)) rfl (hsz.trans x4.symm) (Steps.refl _) (argsL := argsL) (rest := rest) (lenOf hsig hlen) rfl (by show 2 * 0 + _ ≤ _; rw [hW]; omega) (hb x3 hd) (fun _ _ => ⟨has, x9, hc, hs⟩)
  dsimp only [Pt.U, Pt.locs, Pt.cells, Pt.slots] at SU z1 z2 z3 st hQ
  subst z1 z2 z3
  exact (k U _ v (X'.back N SU rfl hQ.2.1 hQ.2.2 hws) hQ.2.1 hQ.1).via st
theorem Here.priv (X : Here p l e R s m args below meth c y bytes maxL ret Z h0 ws T cells slots h) {pc pc' : Nat} {Ls : Array Slot} {St : List Value} {i : Nat} {C : String} {sig : MethodDescriptor} {a : Addr} {argsL rest : List Value} (hM : Ct l Z y' bytes' maxL' ret' rm as h ws' Q) (w1 : (Jvm.Cond.methodLink y.cls i y').before a0 Z = true) (w6 : (Jvm.Cond.selects y'.cls y' y').before a0 Z = true) (w7 : (Jvm.Cond.privateMethod y').before a0 Z = true) (w2 : (Jvm.Cond.instanceMethod y').before a0 Z = true) (w3 : (Jvm.Cond.initialized y'.cls).before a0 Z = true) (w4 : (Jvm.Cond.code y' bytes' maxL' ret').before a0 Z = true)
    (hy : y'.cls ≠ "java/lang/invoke/MethodHandle" ∧ y'.cls ≠ "java/lang/invoke/VarHandle") (E : Exa Z h a C) (hsig : parseMethodDescriptor y'.desc = some sig) (hlen : argsL.length = sig.parameters.length) (has : (.ref a :: argsL).toArray = as) (hst : St = argsL.reverse ++ .ref a :: rest) (hsz : Ls.size = maxL) (hd : decode bytes pc = .ok (.invokevirtual i, 3)) (hp : pc + 3 = pc')
    (hf : rm.frames + 1 ≤ R.frames) {W : Nat} (hW : (rest.map fun v => v.category).sum = W) (hl : W + (maxL' + 11) + rm.locals ≤ R.locals) (hc : cells + rm.cells ≤ R.cells) (hs : slots + rm.slots ≤ R.slots) (hws : ∀ x ∈ ws', x ∈ ws ∨ h0.size ≤ x)
    (k : ∀ T' h' v, Here p l e R s m args below meth c y bytes maxL ret Z h0 ws T' (cells + rm.cells) (slots + rm.slots) h' → Keep h h' ws' → Q v h' → Runs p e below (T'.setTop (mkF m pc' Ls (v.toList ++ rest))) G) : Runs p e below (T.setTop (mkF m pc Ls St)) G := by
  subst hp hst
  have X' := X
  obtain ⟨⟨x1, x2, x3, x4, x5, x6, x7, x8⟩, x9, x10, locs, S, N⟩ := X
  obtain ⟨cq, q1, q2⟩ := E.cell
  obtain ⟨v, vm₁, ⟨U, lo, ce, sl⟩, -, SU, ⟨Lc, hQ, z1, z2, z3⟩, st⟩ := S.privateBack x1 (y := y') x5 (mvT x2 w1) (mvT x2 w2) (mvT x2 w6) (Cond.privateMethod_at (mvP x2 w7 (args := #[]))) (mvT x2 w4) hy (backCt X' hM w4 w3 hf hl) (g := mkF m pc Ls (argsL.reverse ++ .ref a :: rest)) rfl (hsz.trans x4.symm) (Steps.refl _) (a := a) (by rw [x9]; exact q1) q2 (argsL := argsL) (rest := rest) (lenOf hsig hlen) rfl (by show 2 * 0 + _ ≤ _; rw [hW]; omega) (hb x3 hd) (fun _ _ => ⟨has, x9, hc, hs⟩)
  dsimp only [Pt.U, Pt.locs, Pt.cells, Pt.slots] at SU z1 z2 z3 st hQ
  subst z1 z2 z3
  exact (k U _ v (X'.back N SU rfl hQ.2.1 hQ.2.2 hws) hQ.2.1 hQ.1).via st

/-! the returns -/
theorem Here.leave (X : Here p l e R s m args below meth c y bytes maxL ret Z h0 ws T cells slots h) {Q : Option Value → Heap → Prop} {rm : Room} {g : JFrame} {v : Option Value} (hv : ret = none → v = none) (hc : cells ≤ rm.cells) (hs : slots ≤ rm.slots) (hq : Q v h)
    (st : ∀ locs fs, p.tables.exec = Jvm.exec → c.code = bytes → meth.sig.returnType = ret → Stand p l e R s m args below meth c T locs cells slots → (∀ (f : JFrame) (acts : List Action), f.method = m → f.locked = none → f.entered = [] → (doReturn e (T.setTop f) acts v).1 = T.setFrames fs) → Steps p.tables e below (T.setTop g) (T.setFrames fs)) :
    Runs p e below (T.setTop g) (Out s h0 ws rm Q) := by
  obtain ⟨⟨x1, x2, x3, x4, x5, x6, x7, x8⟩, x9, x10, locs, S, N⟩ := X
  obtain ⟨fs, hr, hrun, hended, hW, hsame⟩ := S.leave (v := v) (fun h => hv (x7 ▸ h)) x8
  refine ⟨_, _, st locs fs x1 x3 x7 S hr, hrun, hended, v, locs, rfl, ⟨?_, ?_, N⟩, ⟨_, rfl⟩, hW, hsame.mono hc hs⟩
  · show Q v T.heap; rw [x9]; exact hq
  · show Keep h0 T.heap ws; rw [x9]; exact x10
theorem Here.ireturn (X : Here p l e R s m args below meth c y bytes maxL ret Z h0 ws T cells slots h) {Q : Option Value → Heap → Prop} {rm : Room} {pc : Nat} {Ls : Array Slot} {St : List Value} {z : Int32} (hr : ret = some .int) (hd : decode bytes pc = .ok (.ireturn, 1)) (hc : cells ≤ rm.cells) (hs : slots ≤ rm.slots) (hq : Q (some (.int z)) h) : Runs p e below (T.setTop (mkF m pc Ls (.int z :: St))) (Out s h0 ws rm Q) := by
  subst hr
  exact X.leave (fun h => nomatch h) hc hs hq fun _ _ hx hb' hret S hl => retOut S hx hret rfl (Or.inl ⟨rfl, Or.inl rfl, _, rfl⟩) (hb hb' hd) hl
theorem Here.zreturn (X : Here p l e R s m args below meth c y bytes maxL ret Z h0 ws T cells slots h) {Q : Option Value → Heap → Prop} {rm : Room} {pc : Nat} {Ls : Array Slot} {St : List Value} {z z' : Int32} {t : FieldType} (hr : ret = some t) (ht : t = .boolean ∨ t = .byte ∨ t = .char ∨ t = .short) (hd : decode bytes pc = .ok (.ireturn, 1)) (hz : nar t z = z') (hc : cells ≤ rm.cells) (hs : slots ≤ rm.slots) (hq : Q (some (.int z')) h) : Runs p e below (T.setTop (mkF m pc Ls (.int z :: St))) (Out s h0 ws rm Q) := by
  subst hr hz
  exact X.leave (fun h => nomatch h) hc hs hq fun _ _ hx hb' hret S hl => retN S hx hret ht (hb hb' hd) hl
theorem Here.lreturn (X : Here p l e R s m args below meth c y bytes maxL ret Z h0 ws T cells slots h) {Q : Option Value → Heap → Prop} {rm : Room} {pc : Nat} {Ls : Array Slot} {St : List Value} {z : Int64} (hr : ret = some .long) (hd : decode bytes pc = .ok (.lreturn, 1)) (hc : cells ≤ rm.cells) (hs : slots ≤ rm.slots) (hq : Q (some (.long z)) h) : Runs p e below (T.setTop (mkF m pc Ls (.long z :: St))) (Out s h0 ws rm Q) := by
  subst hr
  exact X.leave (fun h => nomatch h) hc hs hq fun _ _ hx hb' hret S hl => retOut S hx hret rfl (Or.inr (Or.inl ⟨rfl, rfl, _, rfl⟩)) (hb hb' hd) hl
theorem Here.areturn (X : Here p l e R s m args below meth c y bytes maxL ret Z h0 ws T cells slots h) {Q : Option Value → Heap → Prop} {rm : Room} {pc : Nat} {Ls : Array Slot} {St : List Value} {v : Value} {t : FieldType} (hr : ret = some t) (ht : t.isReference = true) (hv : v.isRef = true) (hn : narrow t v = v) (hd : decode bytes pc = .ok (.areturn, 1)) (hc : cells ≤ rm.cells) (hs : slots ≤ rm.slots) (hq : Q (some v) h) : Runs p e below (T.setTop (mkF m pc Ls (v :: St))) (Out s h0 ws rm Q) := by
  subst hr
  exact X.leave (fun h => nomatch h) hc hs hq fun _ _ hx hb' hret S hl => retOut S hx hret hn (Or.inr (Or.inr (Or.inr (Or.inr ⟨rfl, ht, hv⟩)))) (hb hb' hd) hl
theorem Here.vreturn (X : Here p l e R s m args below meth c y bytes maxL ret Z h0 ws T cells slots h) {Q : Option Value → Heap → Prop} {rm : Room} {pc : Nat} {Ls : Array Slot} (hr : ret = none) (hd : decode bytes pc = .ok (.return_, 1)) (hc : cells ≤ rm.cells) (hs : slots ≤ rm.slots) (hq : Q none h) : Runs p e below (T.setTop (mkF m pc Ls [])) (Out s h0 ws rm Q) := by
  subst hr
  exact X.leave (fun _ => rfl) hc hs hq fun _ _ hx hb' hret S hl => S.returnOut hx hret (hb hb' hd) hl
end B
end Jvm.Own
namespace Jvm.Pilot.@@N@@
open Jvm Jvm.ClassFile Sem Op Lib Jvm.Free Jvm.Stand Jvm.LawKit Jvm.RoadKit Bundle Jvm.Own Jvm.Pilot.@@N@@.Jvm.D
abbrev y1 : MethodName := ⟨"com/example/stacks_in_time/stacksintime/KindBranchesPinLaw", "pick", "(I)Lcom/example/stacks_in_time/stacksintime/Instruction$Kind;"⟩
abbrev y2 : MethodName := ⟨"com/example/stacks_in_time/stacksintime/Instruction$Kind", "branches", "()Z"⟩
theorem pd_0 : parseMethodDescriptor "(I)Lcom/example/stacks_in_time/stacksintime/Instruction$Kind;" = some ⟨[.int], some (.object "com/example/stacks_in_time/stacksintime/Instruction$Kind")⟩ := by decide +kernel
theorem pd_1 : parseMethodDescriptor "()Z" = some ⟨[], some .boolean⟩ := by decide +kernel
theorem wd_0 {a0 : Array Value} {Z : State} (hw : ∀ d ∈ tables_1, d.before a0 Z = true) : (Jvm.Cond.constant "com/example/stacks_in_time/stacksintime/KindBranchesPinLaw" (40 : Nat) (2147483647 : Int32)).before a0 Z = true := hw _ (List.mem_of_getElem? (i := 0) rfl)
theorem wd_1 {a0 : Array Value} {Z : State} (hw : ∀ d ∈ tables_1, d.before a0 Z = true) : (Jvm.Cond.methodLink "com/example/stacks_in_time/stacksintime/KindBranchesPinLaw" (41 : Nat) ({ cls := "com/example/stacks_in_time/stacksintime/KindBranchesPinLaw", name := "pick", desc := "(I)Lcom/example/stacks_in_time/stacksintime/Instruction$Kind;" } : Jvm.MethodName)).before a0 Z = true := hw _ (List.mem_of_getElem? (i := 1) rfl)
theorem wd_2 {a0 : Array Value} {Z : State} (hw : ∀ d ∈ tables_1, d.before a0 Z = true) : (Jvm.Cond.static ({ cls := "com/example/stacks_in_time/stacksintime/KindBranchesPinLaw", name := "pick", desc := "(I)Lcom/example/stacks_in_time/stacksintime/Instruction$Kind;" } : Jvm.MethodName)).before a0 Z = true := hw _ (List.mem_of_getElem? (i := 2) rfl)
theorem wd_3 {a0 : Array Value} {Z : State} (hw : ∀ d ∈ tables_1, d.before a0 Z = true) : (Jvm.Cond.initialized "com/example/stacks_in_time/stacksintime/KindBranchesPinLaw").before a0 Z = true := hw _ (List.mem_of_getElem? (i := 3) rfl)
theorem wd_4 {a0 : Array Value} {Z : State} (hw : ∀ d ∈ tables_1, d.before a0 Z = true) : (Jvm.Cond.code ({ cls := "com/example/stacks_in_time/stacksintime/KindBranchesPinLaw", name := "pick", desc := "(I)Lcom/example/stacks_in_time/stacksintime/Instruction$Kind;" } : Jvm.MethodName) method_2_code (1 : Nat) (Option.some (Jvm.ClassFile.FieldType.object "com/example/stacks_in_time/stacksintime/Instruction$Kind"))).before a0 Z = true := hw _ (List.mem_of_getElem? (i := 4) rfl)
theorem wd_5 {a0 : Array Value} {Z : State} (hw : ∀ d ∈ tables_1, d.before a0 Z = true) : (Jvm.Cond.fieldLink "com/example/stacks_in_time/stacksintime/KindBranchesPinLaw" (7 : Nat) "com/example/stacks_in_time/stacksintime/Instruction$Kind" "PUSH" "Lcom/example/stacks_in_time/stacksintime/Instruction$Kind;").before a0 Z = true := hw _ (List.mem_of_getElem? (i := 5) rfl)
theorem wd_6 {a0 : Array Value} {Z : State} (hw : ∀ d ∈ tables_1, d.before a0 Z = true) : (Jvm.Cond.initialized "com/example/stacks_in_time/stacksintime/Instruction$Kind").before a0 Z = true := hw _ (List.mem_of_getElem? (i := 6) rfl)
theorem wd_7 {a0 : Array Value} {Z : State} (hw : ∀ d ∈ tables_1, d.before a0 Z = true) : (Jvm.Cond.laysStatic "com/example/stacks_in_time/stacksintime/Instruction$Kind" "PUSH" "Lcom/example/stacks_in_time/stacksintime/Instruction$Kind;").before a0 Z = true := hw _ (List.mem_of_getElem? (i := 7) rfl)
theorem wd_8 {a0 : Array Value} {Z : State} (hw : ∀ d ∈ tables_1, d.before a0 Z = true) : (Jvm.Cond.methodLink "com/example/stacks_in_time/stacksintime/KindBranchesPinLaw" (47 : Nat) ({ cls := "com/example/stacks_in_time/stacksintime/Instruction$Kind", name := "branches", desc := "()Z" } : Jvm.MethodName)).before a0 Z = true := hw _ (List.mem_of_getElem? (i := 8) rfl)
theorem wd_9 {a0 : Array Value} {Z : State} (hw : ∀ d ∈ tables_1, d.before a0 Z = true) : (Jvm.Cond.declares ({ cls := "com/example/stacks_in_time/stacksintime/Instruction$Kind", name := "branches", desc := "()Z" } : Jvm.MethodName)).before a0 Z = true := hw _ (List.mem_of_getElem? (i := 9) rfl)
theorem wd_10 {a0 : Array Value} {Z : State} (hw : ∀ d ∈ tables_1, d.before a0 Z = true) : (Jvm.Cond.instanceMethod ({ cls := "com/example/stacks_in_time/stacksintime/Instruction$Kind", name := "branches", desc := "()Z" } : Jvm.MethodName)).before a0 Z = true := hw _ (List.mem_of_getElem? (i := 10) rfl)
theorem wd_11 {a0 : Array Value} {Z : State} (hw : ∀ d ∈ tables_1, d.before a0 Z = true) : (Jvm.Cond.selects "com/example/stacks_in_time/stacksintime/Instruction$Kind" ({ cls := "com/example/stacks_in_time/stacksintime/Instruction$Kind", name := "branches", desc := "()Z" } : Jvm.MethodName) ({ cls := "com/example/stacks_in_time/stacksintime/Instruction$Kind", name := "branches", desc := "()Z" } : Jvm.MethodName)).before a0 Z = true := hw _ (List.mem_of_getElem? (i := 11) rfl)
theorem wd_12 {a0 : Array Value} {Z : State} (hw : ∀ d ∈ tables_1, d.before a0 Z = true) : (Jvm.Cond.code ({ cls := "com/example/stacks_in_time/stacksintime/Instruction$Kind", name := "branches", desc := "()Z" } : Jvm.MethodName) prog_67_method_5_code (1 : Nat) (Option.some Jvm.ClassFile.FieldType.boolean)).before a0 Z = true := hw _ (List.mem_of_getElem? (i := 12) rfl)
theorem wd_13 {a0 : Array Value} {Z : State} (hw : ∀ d ∈ tables_1, d.before a0 Z = true) : (Jvm.Cond.fieldLink "com/example/stacks_in_time/stacksintime/Instruction$Kind" (16 : Nat) "com/example/stacks_in_time/stacksintime/Instruction$Kind" "CALL" "Lcom/example/stacks_in_time/stacksintime/Instruction$Kind;").before a0 Z = true := hw _ (List.mem_of_getElem? (i := 13) rfl)
theorem wd_14 {a0 : Array Value} {Z : State} (hw : ∀ d ∈ tables_1, d.before a0 Z = true) : (Jvm.Cond.laysStatic "com/example/stacks_in_time/stacksintime/Instruction$Kind" "CALL" "Lcom/example/stacks_in_time/stacksintime/Instruction$Kind;").before a0 Z = true := hw _ (List.mem_of_getElem? (i := 14) rfl)
theorem wd_15 {a0 : Array Value} {Z : State} (hw : ∀ d ∈ tables_1, d.before a0 Z = true) : (Jvm.Cond.fieldLink "com/example/stacks_in_time/stacksintime/Instruction$Kind" (22 : Nat) "com/example/stacks_in_time/stacksintime/Instruction$Kind" "JUMP" "Lcom/example/stacks_in_time/stacksintime/Instruction$Kind;").before a0 Z = true := hw _ (List.mem_of_getElem? (i := 15) rfl)
theorem wd_16 {a0 : Array Value} {Z : State} (hw : ∀ d ∈ tables_1, d.before a0 Z = true) : (Jvm.Cond.laysStatic "com/example/stacks_in_time/stacksintime/Instruction$Kind" "JUMP" "Lcom/example/stacks_in_time/stacksintime/Instruction$Kind;").before a0 Z = true := hw _ (List.mem_of_getElem? (i := 16) rfl)
theorem wd_17 {a0 : Array Value} {Z : State} (hw : ∀ d ∈ tables_1, d.before a0 Z = true) : (Jvm.Cond.fieldLink "com/example/stacks_in_time/stacksintime/Instruction$Kind" (25 : Nat) "com/example/stacks_in_time/stacksintime/Instruction$Kind" "CONDITIONAL_JUMP" "Lcom/example/stacks_in_time/stacksintime/Instruction$Kind;").before a0 Z = true := hw _ (List.mem_of_getElem? (i := 17) rfl)
theorem wd_18 {a0 : Array Value} {Z : State} (hw : ∀ d ∈ tables_1, d.before a0 Z = true) : (Jvm.Cond.laysStatic "com/example/stacks_in_time/stacksintime/Instruction$Kind" "CONDITIONAL_JUMP" "Lcom/example/stacks_in_time/stacksintime/Instruction$Kind;").before a0 Z = true := hw _ (List.mem_of_getElem? (i := 18) rfl)
theorem wd_19 {a0 : Array Value} {Z : State} (hw : ∀ d ∈ tables_1, d.before a0 Z = true) : (Jvm.Cond.fieldLink "com/example/stacks_in_time/stacksintime/KindBranchesPinLaw" (19 : Nat) "com/example/stacks_in_time/stacksintime/Instruction$Kind" "RESTORE" "Lcom/example/stacks_in_time/stacksintime/Instruction$Kind;").before a0 Z = true := hw _ (List.mem_of_getElem? (i := 19) rfl)
theorem wd_20 {a0 : Array Value} {Z : State} (hw : ∀ d ∈ tables_1, d.before a0 Z = true) : (Jvm.Cond.laysStatic "com/example/stacks_in_time/stacksintime/Instruction$Kind" "RESTORE" "Lcom/example/stacks_in_time/stacksintime/Instruction$Kind;").before a0 Z = true := hw _ (List.mem_of_getElem? (i := 20) rfl)
theorem wd_21 {a0 : Array Value} {Z : State} (hw : ∀ d ∈ tables_1, d.before a0 Z = true) : (Jvm.Cond.fieldLink "com/example/stacks_in_time/stacksintime/KindBranchesPinLaw" (13 : Nat) "com/example/stacks_in_time/stacksintime/Instruction$Kind" "POP" "Lcom/example/stacks_in_time/stacksintime/Instruction$Kind;").before a0 Z = true := hw _ (List.mem_of_getElem? (i := 21) rfl)
theorem wd_22 {a0 : Array Value} {Z : State} (hw : ∀ d ∈ tables_1, d.before a0 Z = true) : (Jvm.Cond.laysStatic "com/example/stacks_in_time/stacksintime/Instruction$Kind" "POP" "Lcom/example/stacks_in_time/stacksintime/Instruction$Kind;").before a0 Z = true := hw _ (List.mem_of_getElem? (i := 22) rfl)
theorem wd_23 {a0 : Array Value} {Z : State} (hw : ∀ d ∈ tables_1, d.before a0 Z = true) : (Jvm.Cond.fieldLink "com/example/stacks_in_time/stacksintime/KindBranchesPinLaw" (22 : Nat) "com/example/stacks_in_time/stacksintime/Instruction$Kind" "CALL" "Lcom/example/stacks_in_time/stacksintime/Instruction$Kind;").before a0 Z = true := hw _ (List.mem_of_getElem? (i := 23) rfl)
theorem wd_24 {a0 : Array Value} {Z : State} (hw : ∀ d ∈ tables_1, d.before a0 Z = true) : (Jvm.Cond.fieldLink "com/example/stacks_in_time/stacksintime/KindBranchesPinLaw" (31 : Nat) "com/example/stacks_in_time/stacksintime/Instruction$Kind" "CONDITIONAL_JUMP" "Lcom/example/stacks_in_time/stacksintime/Instruction$Kind;").before a0 Z = true := hw _ (List.mem_of_getElem? (i := 24) rfl)
theorem wd_25 {a0 : Array Value} {Z : State} (hw : ∀ d ∈ tables_1, d.before a0 Z = true) : (Jvm.Cond.fieldLink "com/example/stacks_in_time/stacksintime/KindBranchesPinLaw" (16 : Nat) "com/example/stacks_in_time/stacksintime/Instruction$Kind" "ADJUST" "Lcom/example/stacks_in_time/stacksintime/Instruction$Kind;").before a0 Z = true := hw _ (List.mem_of_getElem? (i := 25) rfl)
theorem wd_26 {a0 : Array Value} {Z : State} (hw : ∀ d ∈ tables_1, d.before a0 Z = true) : (Jvm.Cond.laysStatic "com/example/stacks_in_time/stacksintime/Instruction$Kind" "ADJUST" "Lcom/example/stacks_in_time/stacksintime/Instruction$Kind;").before a0 Z = true := hw _ (List.mem_of_getElem? (i := 26) rfl)
theorem wd_27 {a0 : Array Value} {Z : State} (hw : ∀ d ∈ tables_1, d.before a0 Z = true) : (Jvm.Cond.fieldLink "com/example/stacks_in_time/stacksintime/KindBranchesPinLaw" (34 : Nat) "com/example/stacks_in_time/stacksintime/Instruction$Kind" "HALT" "Lcom/example/stacks_in_time/stacksintime/Instruction$Kind;").before a0 Z = true := hw _ (List.mem_of_getElem? (i := 27) rfl)
theorem wd_28 {a0 : Array Value} {Z : State} (hw : ∀ d ∈ tables_1, d.before a0 Z = true) : (Jvm.Cond.laysStatic "com/example/stacks_in_time/stacksintime/Instruction$Kind" "HALT" "Lcom/example/stacks_in_time/stacksintime/Instruction$Kind;").before a0 Z = true := hw _ (List.mem_of_getElem? (i := 28) rfl)
theorem wd_29 {a0 : Array Value} {Z : State} (hw : ∀ d ∈ tables_1, d.before a0 Z = true) : (Jvm.Cond.fieldLink "com/example/stacks_in_time/stacksintime/KindBranchesPinLaw" (37 : Nat) "com/example/stacks_in_time/stacksintime/Instruction$Kind" "OTHER" "Lcom/example/stacks_in_time/stacksintime/Instruction$Kind;").before a0 Z = true := hw _ (List.mem_of_getElem? (i := 29) rfl)
theorem wd_30 {a0 : Array Value} {Z : State} (hw : ∀ d ∈ tables_1, d.before a0 Z = true) : (Jvm.Cond.laysStatic "com/example/stacks_in_time/stacksintime/Instruction$Kind" "OTHER" "Lcom/example/stacks_in_time/stacksintime/Instruction$Kind;").before a0 Z = true := hw _ (List.mem_of_getElem? (i := 30) rfl)
theorem wd_31 {a0 : Array Value} {Z : State} (hw : ∀ d ∈ tables_1, d.before a0 Z = true) : (Jvm.Cond.fieldLink "com/example/stacks_in_time/stacksintime/KindBranchesPinLaw" (25 : Nat) "com/example/stacks_in_time/stacksintime/Instruction$Kind" "RET" "Lcom/example/stacks_in_time/stacksintime/Instruction$Kind;").before a0 Z = true := hw _ (List.mem_of_getElem? (i := 31) rfl)
theorem wd_32 {a0 : Array Value} {Z : State} (hw : ∀ d ∈ tables_1, d.before a0 Z = true) : (Jvm.Cond.laysStatic "com/example/stacks_in_time/stacksintime/Instruction$Kind" "RET" "Lcom/example/stacks_in_time/stacksintime/Instruction$Kind;").before a0 Z = true := hw _ (List.mem_of_getElem? (i := 32) rfl)
theorem wd_33 {a0 : Array Value} {Z : State} (hw : ∀ d ∈ tables_1, d.before a0 Z = true) : (Jvm.Cond.fieldLink "com/example/stacks_in_time/stacksintime/KindBranchesPinLaw" (28 : Nat) "com/example/stacks_in_time/stacksintime/Instruction$Kind" "JUMP" "Lcom/example/stacks_in_time/stacksintime/Instruction$Kind;").before a0 Z = true := hw _ (List.mem_of_getElem? (i := 33) rfl)
theorem d1_0 : decode method_2_code 0 = .ok (.iload_n 0, 1) := by decide +kernel
theorem d1_1 : decode method_2_code 1 = .ok (.ifCond .ne 7, 3) := by decide +kernel
theorem d1_4 : decode method_2_code 4 = .ok (.getstatic 7, 3) := by decide +kernel
theorem d1_7 : decode method_2_code 7 = .ok (.areturn, 1) := by decide +kernel
theorem d1_8 : decode method_2_code 8 = .ok (.iload_n 0, 1) := by decide +kernel
theorem d1_9 : decode method_2_code 9 = .ok (.iconst 1, 1) := by decide +kernel
theorem d1_10 : decode method_2_code 10 = .ok (.if_icmp .ne 7, 3) := by decide +kernel
theorem d1_13 : decode method_2_code 13 = .ok (.getstatic 13, 3) := by decide +kernel
theorem d1_16 : decode method_2_code 16 = .ok (.areturn, 1) := by decide +kernel
theorem d1_17 : decode method_2_code 17 = .ok (.iload_n 0, 1) := by decide +kernel
theorem d1_18 : decode method_2_code 18 = .ok (.iconst 2, 1) := by decide +kernel
theorem d1_19 : decode method_2_code 19 = .ok (.if_icmp .ne 7, 3) := by decide +kernel
theorem d1_22 : decode method_2_code 22 = .ok (.getstatic 16, 3) := by decide +kernel
theorem d1_25 : decode method_2_code 25 = .ok (.areturn, 1) := by decide +kernel
theorem d1_26 : decode method_2_code 26 = .ok (.iload_n 0, 1) := by decide +kernel
theorem d1_27 : decode method_2_code 27 = .ok (.iconst 3, 1) := by decide +kernel
theorem d1_28 : decode method_2_code 28 = .ok (.if_icmp .ne 7, 3) := by decide +kernel
theorem d1_31 : decode method_2_code 31 = .ok (.getstatic 19, 3) := by decide +kernel
theorem d1_34 : decode method_2_code 34 = .ok (.areturn, 1) := by decide +kernel
theorem d1_35 : decode method_2_code 35 = .ok (.iload_n 0, 1) := by decide +kernel
theorem d1_36 : decode method_2_code 36 = .ok (.iconst 4, 1) := by decide +kernel
theorem d1_37 : decode method_2_code 37 = .ok (.if_icmp .ne 7, 3) := by decide +kernel
theorem d1_40 : decode method_2_code 40 = .ok (.getstatic 22, 3) := by decide +kernel
theorem d1_43 : decode method_2_code 43 = .ok (.areturn, 1) := by decide +kernel
theorem d1_44 : decode method_2_code 44 = .ok (.iload_n 0, 1) := by decide +kernel
theorem d1_45 : decode method_2_code 45 = .ok (.iconst 5, 1) := by decide +kernel
theorem d1_46 : decode method_2_code 46 = .ok (.if_icmp .ne 7, 3) := by decide +kernel
theorem d1_49 : decode method_2_code 49 = .ok (.getstatic 25, 3) := by decide +kernel
theorem d1_52 : decode method_2_code 52 = .ok (.areturn, 1) := by decide +kernel
theorem d1_53 : decode method_2_code 53 = .ok (.iload_n 0, 1) := by decide +kernel
theorem d1_54 : decode method_2_code 54 = .ok (.bipush 6, 2) := by decide +kernel
theorem d1_56 : decode method_2_code 56 = .ok (.if_icmp .ne 7, 3) := by decide +kernel
theorem d1_59 : decode method_2_code 59 = .ok (.getstatic 28, 3) := by decide +kernel
theorem d1_62 : decode method_2_code 62 = .ok (.areturn, 1) := by decide +kernel
theorem d1_63 : decode method_2_code 63 = .ok (.iload_n 0, 1) := by decide +kernel
theorem d1_64 : decode method_2_code 64 = .ok (.bipush 7, 2) := by decide +kernel
theorem d1_66 : decode method_2_code 66 = .ok (.if_icmp .ne 7, 3) := by decide +kernel
theorem d1_69 : decode method_2_code 69 = .ok (.getstatic 31, 3) := by decide +kernel
theorem d1_72 : decode method_2_code 72 = .ok (.areturn, 1) := by decide +kernel
theorem d1_73 : decode method_2_code 73 = .ok (.iload_n 0, 1) := by decide +kernel
theorem d1_74 : decode method_2_code 74 = .ok (.bipush 8, 2) := by decide +kernel
theorem d1_76 : decode method_2_code 76 = .ok (.if_icmp .ne 7, 3) := by decide +kernel
theorem d1_79 : decode method_2_code 79 = .ok (.getstatic 34, 3) := by decide +kernel
theorem d1_82 : decode method_2_code 82 = .ok (.areturn, 1) := by decide +kernel
theorem d1_83 : decode method_2_code 83 = .ok (.getstatic 37, 3) := by decide +kernel
theorem d1_86 : decode method_2_code 86 = .ok (.areturn, 1) := by decide +kernel
theorem d2_0 : decode prog_67_method_5_code 0 = .ok (.aload_n 0, 1) := by decide +kernel
theorem d2_1 : decode prog_67_method_5_code 1 = .ok (.getstatic 16, 3) := by decide +kernel
theorem d2_4 : decode prog_67_method_5_code 4 = .ok (.if_acmp .eq 17, 3) := by decide +kernel
theorem d2_7 : decode prog_67_method_5_code 7 = .ok (.aload_n 0, 1) := by decide +kernel
theorem d2_8 : decode prog_67_method_5_code 8 = .ok (.getstatic 22, 3) := by decide +kernel
theorem d2_11 : decode prog_67_method_5_code 11 = .ok (.if_acmp .eq 10, 3) := by decide +kernel
theorem d2_14 : decode prog_67_method_5_code 14 = .ok (.aload_n 0, 1) := by decide +kernel
theorem d2_15 : decode prog_67_method_5_code 15 = .ok (.getstatic 25, 3) := by decide +kernel
theorem d2_18 : decode prog_67_method_5_code 18 = .ok (.if_acmp .ne 7, 3) := by decide +kernel
theorem d2_21 : decode prog_67_method_5_code 21 = .ok (.iconst 1, 1) := by decide +kernel
theorem d2_22 : decode prog_67_method_5_code 22 = .ok (.goto 4, 3) := by decide +kernel
theorem d2_25 : decode prog_67_method_5_code 25 = .ok (.iconst 0, 1) := by decide +kernel
theorem d2_26 : decode prog_67_method_5_code 26 = .ok (.ireturn, 1) := by decide +kernel
def own_K (Z : State) (h : Heap) (k0 k1 k2 k3 k4 k5 k6 k7 k8 k9 : Addr) : Prop := (Sta Z h "com/example/stacks_in_time/stacksintime/Instruction$Kind" "PUSH" "Lcom/example/stacks_in_time/stacksintime/Instruction$Kind;" (.ref k0) ∧ Exa Z h k0 "com/example/stacks_in_time/stacksintime/Instruction$Kind" ∧ Fld Z h k0 "java/lang/Enum" "ordinal" "I" (.int (0 : Int32))) ∧ (Sta Z h "com/example/stacks_in_time/stacksintime/Instruction$Kind" "POP" "Lcom/example/stacks_in_time/stacksintime/Instruction$Kind;" (.ref k1) ∧ Exa Z h k1 "com/example/stacks_in_time/stacksintime/Instruction$Kind" ∧ Fld Z h k1 "java/lang/Enum" "ordinal" "I" (.int (1 : Int32))) ∧ (Sta Z h "com/example/stacks_in_time/stacksintime/Instruction$Kind" "ADJUST" "Lcom/example/stacks_in_time/stacksintime/Instruction$Kind;" (.ref k2) ∧ Exa Z h k2 "com/example/stacks_in_time/stacksintime/Instruction$Kind" ∧ Fld Z h k2 "java/lang/Enum" "ordinal" "I" (.int (2 : Int32))) ∧ (Sta Z h "com/example/stacks_in_time/stacksintime/Instruction$Kind" "RESTORE" "Lcom/example/stacks_in_time/stacksintime/Instruction$Kind;" (.ref k3) ∧ Exa Z h k3 "com/example/stacks_in_time/stacksintime/Instruction$Kind" ∧ Fld Z h k3 "java/lang/Enum" "ordinal" "I" (.int (3 : Int32))) ∧ (Sta Z h "com/example/stacks_in_time/stacksintime/Instruction$Kind" "CALL" "Lcom/example/stacks_in_time/stacksintime/Instruction$Kind;" (.ref k4) ∧ Exa Z h k4 "com/example/stacks_in_time/stacksintime/Instruction$Kind" ∧ Fld Z h k4 "java/lang/Enum" "ordinal" "I" (.int (4 : Int32))) ∧ (Sta Z h "com/example/stacks_in_time/stacksintime/Instruction$Kind" "RET" "Lcom/example/stacks_in_time/stacksintime/Instruction$Kind;" (.ref k5) ∧ Exa Z h k5 "com/example/stacks_in_time/stacksintime/Instruction$Kind" ∧ Fld Z h k5 "java/lang/Enum" "ordinal" "I" (.int (5 : Int32))) ∧ (Sta Z h "com/example/stacks_in_time/stacksintime/Instruction$Kind" "JUMP" "Lcom/example/stacks_in_time/stacksintime/Instruction$Kind;" (.ref k6) ∧ Exa Z h k6 "com/example/stacks_in_time/stacksintime/Instruction$Kind" ∧ Fld Z h k6 "java/lang/Enum" "ordinal" "I" (.int (6 : Int32))) ∧ (Sta Z h "com/example/stacks_in_time/stacksintime/Instruction$Kind" "CONDITIONAL_JUMP" "Lcom/example/stacks_in_time/stacksintime/Instruction$Kind;" (.ref k7) ∧ Exa Z h k7 "com/example/stacks_in_time/stacksintime/Instruction$Kind" ∧ Fld Z h k7 "java/lang/Enum" "ordinal" "I" (.int (7 : Int32))) ∧ (Sta Z h "com/example/stacks_in_time/stacksintime/Instruction$Kind" "HALT" "Lcom/example/stacks_in_time/stacksintime/Instruction$Kind;" (.ref k8) ∧ Exa Z h k8 "com/example/stacks_in_time/stacksintime/Instruction$Kind" ∧ Fld Z h k8 "java/lang/Enum" "ordinal" "I" (.int (8 : Int32))) ∧ (Sta Z h "com/example/stacks_in_time/stacksintime/Instruction$Kind" "OTHER" "Lcom/example/stacks_in_time/stacksintime/Instruction$Kind;" (.ref k9) ∧ Exa Z h k9 "com/example/stacks_in_time/stacksintime/Instruction$Kind" ∧ Fld Z h k9 "java/lang/Enum" "ordinal" "I" (.int (9 : Int32)))
theorem own_ex {Z : State} {args : Array Value} {t : Term} {C : String} (h : (Jvm.Cond.exactly t C).value args Z none Z [] = some true) : ∃ a, t.eval args Z none [] Z = some (.ref a) ∧ Exa Z Z.heap a C := by
  obtain ⟨a, _, _, _, e1, -⟩ := Cond.exactly_spec (Cond.before_iff.mpr h)
  exact ⟨a, e1, Exa.start e1 h⟩
theorem own_fl {Z : State} {args : Array Value} {t : Term} {C n d : String} {k : Int32} {a : Addr} (ev : t.eval args Z none [] Z = some (.ref a)) (h : (Jvm.Cond.eq (.field t C n d) (.int k)).value args Z none Z [] = some true) : Fld Z Z.heap a C n d (.int k) := by
  obtain ⟨x, y, hx, hy, -, hk⟩ := cmp_v (Or.inl h)
  obtain rfl : y = .int k := (Option.some.inj ((Term.int_eval k).symm.trans hy)).symm
  obtain ⟨z, rfl⟩ := hk
  have : z = k := by simpa [Cond.value, hx, hy] using h
  subst this
  exact Fld.start ((fld_at ev).symm.trans hx)
theorem own_ten (q : Int32) : ∀ z, z = (q &&& (2147483647 : Int32)) % (10 : Int32) → z = (0 : Int32) ∨ z = (1 : Int32) ∨ z = (2 : Int32) ∨ z = (3 : Int32) ∨ z = (4 : Int32) ∨ z = (5 : Int32) ∨ z = (6 : Int32) ∨ z = (7 : Int32) ∨ z = (8 : Int32) ∨ z = (9 : Int32) := by
  intro z hz
  have h1 := c_mask q (2147483647 : Int32) 31 (by decide) (by decide)
  have h2 := (c_iremV (q &&& (2147483647 : Int32)) (10 : Int32)).1 (by omega) (by decide)
  rw [← hz] at h2
  have e : (10 : Int32).toInt = 10 := rfl
  rw [e] at h2
  have : z.toInt = 0 ∨ z.toInt = 1 ∨ z.toInt = 2 ∨ z.toInt = 3 ∨ z.toInt = 4 ∨ z.toInt = 5 ∨ z.toInt = 6 ∨ z.toInt = 7 ∨ z.toInt = 8 ∨ z.toInt = 9 := by omega
  rcases this with h | h | h | h | h | h | h | h | h | h <;> simp [← Int32.toInt_inj, h]

set_option maxRecDepth 65536 in
set_option maxHeartbeats 40000000 in
theorem ct1_0 (l : Launch) (Z : State) (a0 : Array Value) (hw : ∀ d ∈ tables_1, d.before a0 Z = true) (k0 k1 k2 k3 k4 k5 k6 k7 k8 k9 : Addr) (h0 : Heap) (HK : own_K Z h0 k0 k1 k2 k3 k4 k5 k6 k7 k8 k9) :
    Ct l Z y1 method_2_code 1 (some (.object "com/example/stacks_in_time/stacksintime/Instruction$Kind")) ({ frames := 0, cells := 0, slots := 0, locals := 0 } : Room) #[(.int (0 : Int32))] h0 [] (fun v h => v = some (.ref k0) ∧ h0 = h) := by
  refine Ct.of (plainFor_of_name (by first | (simp [plainName, overriddenIn]; done) | decide +kernel)) ?_
  intro p e s m below meth c T0 X0
  refine Runs.top (g' := mkF m 0 #[.val (.int (0 : Int32))] []) (by first | (simp [entryFrame, mkF, argsToLocals, Value.category]; done) | rfl) ?_
  obtain ⟨⟨S0, E0, F0⟩, ⟨S1, E1, F1⟩, ⟨S2, E2, F2⟩, ⟨S3, E3, F3⟩, ⟨S4, E4, F4⟩, ⟨S5, E5, F5⟩, ⟨S6, E6, F6⟩, ⟨S7, E7, F7⟩, ⟨S8, E8, F8⟩, ⟨S9, E9, F9⟩⟩ := HK
  refine X0.iloadN (pc' := 1) d1_0 rfl rfl ?_
  refine X0.ifNo (pc' := 4) d1_1 (by decide) rfl ?_
  refine X0.getstatic (pc' := 7) (host := "") (Or.inl (wd_5 hw)) Via.refl S0 d1_4 rfl (fun T1 X1 => ?_)
  exact X1.areturn rfl rfl rfl rfl d1_7 (by decide) (by decide) ⟨rfl, rfl⟩
set_option maxRecDepth 65536 in
set_option maxHeartbeats 40000000 in
theorem ct1_1 (l : Launch) (Z : State) (a0 : Array Value) (hw : ∀ d ∈ tables_1, d.before a0 Z = true) (k0 k1 k2 k3 k4 k5 k6 k7 k8 k9 : Addr) (h0 : Heap) (HK : own_K Z h0 k0 k1 k2 k3 k4 k5 k6 k7 k8 k9) :
    Ct l Z y1 method_2_code 1 (some (.object "com/example/stacks_in_time/stacksintime/Instruction$Kind")) ({ frames := 0, cells := 0, slots := 0, locals := 0 } : Room) #[(.int (1 : Int32))] h0 [] (fun v h => v = some (.ref k1) ∧ h0 = h) := by
  refine Ct.of (plainFor_of_name (by first | (simp [plainName, overriddenIn]; done) | decide +kernel)) ?_
  intro p e s m below meth c T0 X0
  refine Runs.top (g' := mkF m 0 #[.val (.int (1 : Int32))] []) (by first | (simp [entryFrame, mkF, argsToLocals, Value.category]; done) | rfl) ?_
  obtain ⟨⟨S0, E0, F0⟩, ⟨S1, E1, F1⟩, ⟨S2, E2, F2⟩, ⟨S3, E3, F3⟩, ⟨S4, E4, F4⟩, ⟨S5, E5, F5⟩, ⟨S6, E6, F6⟩, ⟨S7, E7, F7⟩, ⟨S8, E8, F8⟩, ⟨S9, E9, F9⟩⟩ := HK
  refine X0.iloadN (pc' := 1) d1_0 rfl rfl ?_
  refine X0.ifYes (pc' := 8) d1_1 (by decide) (by decide) (by decide) ?_
  refine X0.iloadN (pc' := 9) d1_8 rfl rfl ?_
  refine X0.iconst (pc' := 10) (z := 1) d1_9 rfl rfl ?_
  refine X0.icmpNo (pc' := 13) d1_10 (by decide) rfl ?_
  refine X0.getstatic (pc' := 16) (host := "") (Or.inl (wd_21 hw)) Via.refl S1 d1_13 rfl (fun T1 X1 => ?_)
  exact X1.areturn rfl rfl rfl rfl d1_16 (by decide) (by decide) ⟨rfl, rfl⟩
set_option maxRecDepth 65536 in
set_option maxHeartbeats 40000000 in
theorem ct1_2 (l : Launch) (Z : State) (a0 : Array Value) (hw : ∀ d ∈ tables_1, d.before a0 Z = true) (k0 k1 k2 k3 k4 k5 k6 k7 k8 k9 : Addr) (h0 : Heap) (HK : own_K Z h0 k0 k1 k2 k3 k4 k5 k6 k7 k8 k9) :
    Ct l Z y1 method_2_code 1 (some (.object "com/example/stacks_in_time/stacksintime/Instruction$Kind")) ({ frames := 0, cells := 0, slots := 0, locals := 0 } : Room) #[(.int (2 : Int32))] h0 [] (fun v h => v = some (.ref k2) ∧ h0 = h) := by
  refine Ct.of (plainFor_of_name (by first | (simp [plainName, overriddenIn]; done) | decide +kernel)) ?_
  intro p e s m below meth c T0 X0
  refine Runs.top (g' := mkF m 0 #[.val (.int (2 : Int32))] []) (by first | (simp [entryFrame, mkF, argsToLocals, Value.category]; done) | rfl) ?_
  obtain ⟨⟨S0, E0, F0⟩, ⟨S1, E1, F1⟩, ⟨S2, E2, F2⟩, ⟨S3, E3, F3⟩, ⟨S4, E4, F4⟩, ⟨S5, E5, F5⟩, ⟨S6, E6, F6⟩, ⟨S7, E7, F7⟩, ⟨S8, E8, F8⟩, ⟨S9, E9, F9⟩⟩ := HK
  refine X0.iloadN (pc' := 1) d1_0 rfl rfl ?_
  refine X0.ifYes (pc' := 8) d1_1 (by decide) (by decide) (by decide) ?_
  refine X0.iloadN (pc' := 9) d1_8 rfl rfl ?_
  refine X0.iconst (pc' := 10) (z := 1) d1_9 rfl rfl ?_
  refine X0.icmpYes (pc' := 17) d1_10 (by decide) (by decide) (by decide) ?_
  refine X0.iloadN (pc' := 18) d1_17 rfl rfl ?_
  refine X0.iconst (pc' := 19) (z := 2) d1_18 rfl rfl ?_
  refine X0.icmpNo (pc' := 22) d1_19 (by decide) rfl ?_
  refine X0.getstatic (pc' := 25) (host := "") (Or.inl (wd_25 hw)) Via.refl S2 d1_22 rfl (fun T1 X1 => ?_)
  exact X1.areturn rfl rfl rfl rfl d1_25 (by decide) (by decide) ⟨rfl, rfl⟩
set_option maxRecDepth 65536 in
set_option maxHeartbeats 40000000 in
theorem ct1_3 (l : Launch) (Z : State) (a0 : Array Value) (hw : ∀ d ∈ tables_1, d.before a0 Z = true) (k0 k1 k2 k3 k4 k5 k6 k7 k8 k9 : Addr) (h0 : Heap) (HK : own_K Z h0 k0 k1 k2 k3 k4 k5 k6 k7 k8 k9) :
    Ct l Z y1 method_2_code 1 (some (.object "com/example/stacks_in_time/stacksintime/Instruction$Kind")) ({ frames := 0, cells := 0, slots := 0, locals := 0 } : Room) #[(.int (3 : Int32))] h0 [] (fun v h => v = some (.ref k3) ∧ h0 = h) := by
  refine Ct.of (plainFor_of_name (by first | (simp [plainName, overriddenIn]; done) | decide +kernel)) ?_
  intro p e s m below meth c T0 X0
  refine Runs.top (g' := mkF m 0 #[.val (.int (3 : Int32))] []) (by first | (simp [entryFrame, mkF, argsToLocals, Value.category]; done) | rfl) ?_
  obtain ⟨⟨S0, E0, F0⟩, ⟨S1, E1, F1⟩, ⟨S2, E2, F2⟩, ⟨S3, E3, F3⟩, ⟨S4, E4, F4⟩, ⟨S5, E5, F5⟩, ⟨S6, E6, F6⟩, ⟨S7, E7, F7⟩, ⟨S8, E8, F8⟩, ⟨S9, E9, F9⟩⟩ := HK
  refine X0.iloadN (pc' := 1) d1_0 rfl rfl ?_
  refine X0.ifYes (pc' := 8) d1_1 (by decide) (by decide) (by decide) ?_
  refine X0.iloadN (pc' := 9) d1_8 rfl rfl ?_
  refine X0.iconst (pc' := 10) (z := 1) d1_9 rfl rfl ?_
  refine X0.icmpYes (pc' := 17) d1_10 (by decide) (by decide) (by decide) ?_
  refine X0.iloadN (pc' := 18) d1_17 rfl rfl ?_
  refine X0.iconst (pc' := 19) (z := 2) d1_18 rfl rfl ?_
  refine X0.icmpYes (pc' := 26) d1_19 (by decide) (by decide) (by decide) ?_
  refine X0.iloadN (pc' := 27) d1_26 rfl rfl ?_
  refine X0.iconst (pc' := 28) (z := 3) d1_27 rfl rfl ?_
  refine X0.icmpNo (pc' := 31) d1_28 (by decide) rfl ?_
  refine X0.getstatic (pc' := 34) (host := "") (Or.inl (wd_19 hw)) Via.refl S3 d1_31 rfl (fun T1 X1 => ?_)
  exact X1.areturn rfl rfl rfl rfl d1_34 (by decide) (by decide) ⟨rfl, rfl⟩
set_option maxRecDepth 65536 in
set_option maxHeartbeats 40000000 in
theorem ct1_4 (l : Launch) (Z : State) (a0 : Array Value) (hw : ∀ d ∈ tables_1, d.before a0 Z = true) (k0 k1 k2 k3 k4 k5 k6 k7 k8 k9 : Addr) (h0 : Heap) (HK : own_K Z h0 k0 k1 k2 k3 k4 k5 k6 k7 k8 k9) :
    Ct l Z y1 method_2_code 1 (some (.object "com/example/stacks_in_time/stacksintime/Instruction$Kind")) ({ frames := 0, cells := 0, slots := 0, locals := 0 } : Room) #[(.int (4 : Int32))] h0 [] (fun v h => v = some (.ref k4) ∧ h0 = h) := by
  refine Ct.of (plainFor_of_name (by first | (simp [plainName, overriddenIn]; done) | decide +kernel)) ?_
  intro p e s m below meth c T0 X0
  refine Runs.top (g' := mkF m 0 #[.val (.int (4 : Int32))] []) (by first | (simp [entryFrame, mkF, argsToLocals, Value.category]; done) | rfl) ?_
  obtain ⟨⟨S0, E0, F0⟩, ⟨S1, E1, F1⟩, ⟨S2, E2, F2⟩, ⟨S3, E3, F3⟩, ⟨S4, E4, F4⟩, ⟨S5, E5, F5⟩, ⟨S6, E6, F6⟩, ⟨S7, E7, F7⟩, ⟨S8, E8, F8⟩, ⟨S9, E9, F9⟩⟩ := HK
  refine X0.iloadN (pc' := 1) d1_0 rfl rfl ?_
  refine X0.ifYes (pc' := 8) d1_1 (by decide) (by decide) (by decide) ?_
  refine X0.iloadN (pc' := 9) d1_8 rfl rfl ?_
  refine X0.iconst (pc' := 10) (z := 1) d1_9 rfl rfl ?_
  refine X0.icmpYes (pc' := 17) d1_10 (by decide) (by decide) (by decide) ?_
  refine X0.iloadN (pc' := 18) d1_17 rfl rfl ?_
  refine X0.iconst (pc' := 19) (z := 2) d1_18 rfl rfl ?_
  refine X0.icmpYes (pc' := 26) d1_19 (by decide) (by decide) (by decide) ?_
  refine X0.iloadN (pc' := 27) d1_26 rfl rfl ?_
  refine X0.iconst (pc' := 28) (z := 3) d1_27 rfl rfl ?_
  refine X0.icmpYes (pc' := 35) d1_28 (by decide) (by decide) (by decide) ?_
  refine X0.iloadN (pc' := 36) d1_35 rfl rfl ?_
  refine X0.iconst (pc' := 37) (z := 4) d1_36 rfl rfl ?_
  refine X0.icmpNo (pc' := 40) d1_37 (by decide) rfl ?_
  refine X0.getstatic (pc' := 43) (host := "") (Or.inl (wd_23 hw)) Via.refl S4 d1_40 rfl (fun T1 X1 => ?_)
  exact X1.areturn rfl rfl rfl rfl d1_43 (by decide) (by decide) ⟨rfl, rfl⟩
set_option maxRecDepth 65536 in
set_option maxHeartbeats 40000000 in
theorem ct1_5 (l : Launch) (Z : State) (a0 : Array Value) (hw : ∀ d ∈ tables_1, d.before a0 Z = true) (k0 k1 k2 k3 k4 k5 k6 k7 k8 k9 : Addr) (h0 : Heap) (HK : own_K Z h0 k0 k1 k2 k3 k4 k5 k6 k7 k8 k9) :
    Ct l Z y1 method_2_code 1 (some (.object "com/example/stacks_in_time/stacksintime/Instruction$Kind")) ({ frames := 0, cells := 0, slots := 0, locals := 0 } : Room) #[(.int (5 : Int32))] h0 [] (fun v h => v = some (.ref k5) ∧ h0 = h) := by
  refine Ct.of (plainFor_of_name (by first | (simp [plainName, overriddenIn]; done) | decide +kernel)) ?_
  intro p e s m below meth c T0 X0
  refine Runs.top (g' := mkF m 0 #[.val (.int (5 : Int32))] []) (by first | (simp [entryFrame, mkF, argsToLocals, Value.category]; done) | rfl) ?_
  obtain ⟨⟨S0, E0, F0⟩, ⟨S1, E1, F1⟩, ⟨S2, E2, F2⟩, ⟨S3, E3, F3⟩, ⟨S4, E4, F4⟩, ⟨S5, E5, F5⟩, ⟨S6, E6, F6⟩, ⟨S7, E7, F7⟩, ⟨S8, E8, F8⟩, ⟨S9, E9, F9⟩⟩ := HK
  refine X0.iloadN (pc' := 1) d1_0 rfl rfl ?_
  refine X0.ifYes (pc' := 8) d1_1 (by decide) (by decide) (by decide) ?_
  refine X0.iloadN (pc' := 9) d1_8 rfl rfl ?_
  refine X0.iconst (pc' := 10) (z := 1) d1_9 rfl rfl ?_
  refine X0.icmpYes (pc' := 17) d1_10 (by decide) (by decide) (by decide) ?_
  refine X0.iloadN (pc' := 18) d1_17 rfl rfl ?_
  refine X0.iconst (pc' := 19) (z := 2) d1_18 rfl rfl ?_
  refine X0.icmpYes (pc' := 26) d1_19 (by decide) (by decide) (by decide) ?_
  refine X0.iloadN (pc' := 27) d1_26 rfl rfl ?_
  refine X0.iconst (pc' := 28) (z := 3) d1_27 rfl rfl ?_
  refine X0.icmpYes (pc' := 35) d1_28 (by decide) (by decide) (by decide) ?_
  refine X0.iloadN (pc' := 36) d1_35 rfl rfl ?_
  refine X0.iconst (pc' := 37) (z := 4) d1_36 rfl rfl ?_
  refine X0.icmpYes (pc' := 44) d1_37 (by decide) (by decide) (by decide) ?_
  refine X0.iloadN (pc' := 45) d1_44 rfl rfl ?_
  refine X0.iconst (pc' := 46) (z := 5) d1_45 rfl rfl ?_
  refine X0.icmpNo (pc' := 49) d1_46 (by decide) rfl ?_
  refine X0.getstatic (pc' := 52) (host := "") (Or.inl (wd_31 hw)) Via.refl S5 d1_49 rfl (fun T1 X1 => ?_)
  exact X1.areturn rfl rfl rfl rfl d1_52 (by decide) (by decide) ⟨rfl, rfl⟩
set_option maxRecDepth 65536 in
set_option maxHeartbeats 40000000 in
theorem ct1_6 (l : Launch) (Z : State) (a0 : Array Value) (hw : ∀ d ∈ tables_1, d.before a0 Z = true) (k0 k1 k2 k3 k4 k5 k6 k7 k8 k9 : Addr) (h0 : Heap) (HK : own_K Z h0 k0 k1 k2 k3 k4 k5 k6 k7 k8 k9) :
    Ct l Z y1 method_2_code 1 (some (.object "com/example/stacks_in_time/stacksintime/Instruction$Kind")) ({ frames := 0, cells := 0, slots := 0, locals := 0 } : Room) #[(.int (6 : Int32))] h0 [] (fun v h => v = some (.ref k6) ∧ h0 = h) := by
  refine Ct.of (plainFor_of_name (by first | (simp [plainName, overriddenIn]; done) | decide +kernel)) ?_
  intro p e s m below meth c T0 X0
  refine Runs.top (g' := mkF m 0 #[.val (.int (6 : Int32))] []) (by first | (simp [entryFrame, mkF, argsToLocals, Value.category]; done) | rfl) ?_
  obtain ⟨⟨S0, E0, F0⟩, ⟨S1, E1, F1⟩, ⟨S2, E2, F2⟩, ⟨S3, E3, F3⟩, ⟨S4, E4, F4⟩, ⟨S5, E5, F5⟩, ⟨S6, E6, F6⟩, ⟨S7, E7, F7⟩, ⟨S8, E8, F8⟩, ⟨S9, E9, F9⟩⟩ := HK
  refine X0.iloadN (pc' := 1) d1_0 rfl rfl ?_
  refine X0.ifYes (pc' := 8) d1_1 (by decide) (by decide) (by decide) ?_
  refine X0.iloadN (pc' := 9) d1_8 rfl rfl ?_
  refine X0.iconst (pc' := 10) (z := 1) d1_9 rfl rfl ?_
  refine X0.icmpYes (pc' := 17) d1_10 (by decide) (by decide) (by decide) ?_
  refine X0.iloadN (pc' := 18) d1_17 rfl rfl ?_
  refine X0.iconst (pc' := 19) (z := 2) d1_18 rfl rfl ?_
  refine X0.icmpYes (pc' := 26) d1_19 (by decide) (by decide) (by decide) ?_
  refine X0.iloadN (pc' := 27) d1_26 rfl rfl ?_
  refine X0.iconst (pc' := 28) (z := 3) d1_27 rfl rfl ?_
  refine X0.icmpYes (pc' := 35) d1_28 (by decide) (by decide) (by decide) ?_
  refine X0.iloadN (pc' := 36) d1_35 rfl rfl ?_
  refine X0.iconst (pc' := 37) (z := 4) d1_36 rfl rfl ?_
  refine X0.icmpYes (pc' := 44) d1_37 (by decide) (by decide) (by decide) ?_
  refine X0.iloadN (pc' := 45) d1_44 rfl rfl ?_
  refine X0.iconst (pc' := 46) (z := 5) d1_45 rfl rfl ?_
  refine X0.icmpYes (pc' := 53) d1_46 (by decide) (by decide) (by decide) ?_
  refine X0.iloadN (pc' := 54) d1_53 rfl rfl ?_
  refine X0.bipush (pc' := 56) (z := 6) d1_54 rfl rfl ?_
  refine X0.icmpNo (pc' := 59) d1_56 (by decide) rfl ?_
  refine X0.getstatic (pc' := 62) (host := "") (Or.inl (wd_33 hw)) Via.refl S6 d1_59 rfl (fun T1 X1 => ?_)
  exact X1.areturn rfl rfl rfl rfl d1_62 (by decide) (by decide) ⟨rfl, rfl⟩
set_option maxRecDepth 65536 in
set_option maxHeartbeats 40000000 in
theorem ct1_7 (l : Launch) (Z : State) (a0 : Array Value) (hw : ∀ d ∈ tables_1, d.before a0 Z = true) (k0 k1 k2 k3 k4 k5 k6 k7 k8 k9 : Addr) (h0 : Heap) (HK : own_K Z h0 k0 k1 k2 k3 k4 k5 k6 k7 k8 k9) :
    Ct l Z y1 method_2_code 1 (some (.object "com/example/stacks_in_time/stacksintime/Instruction$Kind")) ({ frames := 0, cells := 0, slots := 0, locals := 0 } : Room) #[(.int (7 : Int32))] h0 [] (fun v h => v = some (.ref k7) ∧ h0 = h) := by
  refine Ct.of (plainFor_of_name (by first | (simp [plainName, overriddenIn]; done) | decide +kernel)) ?_
  intro p e s m below meth c T0 X0
  refine Runs.top (g' := mkF m 0 #[.val (.int (7 : Int32))] []) (by first | (simp [entryFrame, mkF, argsToLocals, Value.category]; done) | rfl) ?_
  obtain ⟨⟨S0, E0, F0⟩, ⟨S1, E1, F1⟩, ⟨S2, E2, F2⟩, ⟨S3, E3, F3⟩, ⟨S4, E4, F4⟩, ⟨S5, E5, F5⟩, ⟨S6, E6, F6⟩, ⟨S7, E7, F7⟩, ⟨S8, E8, F8⟩, ⟨S9, E9, F9⟩⟩ := HK
  refine X0.iloadN (pc' := 1) d1_0 rfl rfl ?_
  refine X0.ifYes (pc' := 8) d1_1 (by decide) (by decide) (by decide) ?_
  refine X0.iloadN (pc' := 9) d1_8 rfl rfl ?_
  refine X0.iconst (pc' := 10) (z := 1) d1_9 rfl rfl ?_
  refine X0.icmpYes (pc' := 17) d1_10 (by decide) (by decide) (by decide) ?_
  refine X0.iloadN (pc' := 18) d1_17 rfl rfl ?_
  refine X0.iconst (pc' := 19) (z := 2) d1_18 rfl rfl ?_
  refine X0.icmpYes (pc' := 26) d1_19 (by decide) (by decide) (by decide) ?_
  refine X0.iloadN (pc' := 27) d1_26 rfl rfl ?_
  refine X0.iconst (pc' := 28) (z := 3) d1_27 rfl rfl ?_
  refine X0.icmpYes (pc' := 35) d1_28 (by decide) (by decide) (by decide) ?_
  refine X0.iloadN (pc' := 36) d1_35 rfl rfl ?_
  refine X0.iconst (pc' := 37) (z := 4) d1_36 rfl rfl ?_
  refine X0.icmpYes (pc' := 44) d1_37 (by decide) (by decide) (by decide) ?_
  refine X0.iloadN (pc' := 45) d1_44 rfl rfl ?_
  refine X0.iconst (pc' := 46) (z := 5) d1_45 rfl rfl ?_
  refine X0.icmpYes (pc' := 53) d1_46 (by decide) (by decide) (by decide) ?_
  refine X0.iloadN (pc' := 54) d1_53 rfl rfl ?_
  refine X0.bipush (pc' := 56) (z := 6) d1_54 rfl rfl ?_
  refine X0.icmpYes (pc' := 63) d1_56 (by decide) (by decide) (by decide) ?_
  refine X0.iloadN (pc' := 64) d1_63 rfl rfl ?_
  refine X0.bipush (pc' := 66) (z := 7) d1_64 rfl rfl ?_
  refine X0.icmpNo (pc' := 69) d1_66 (by decide) rfl ?_
  refine X0.getstatic (pc' := 72) (host := "") (Or.inl (wd_24 hw)) Via.refl S7 d1_69 rfl (fun T1 X1 => ?_)
  exact X1.areturn rfl rfl rfl rfl d1_72 (by decide) (by decide) ⟨rfl, rfl⟩
set_option maxRecDepth 65536 in
set_option maxHeartbeats 40000000 in
theorem ct1_8 (l : Launch) (Z : State) (a0 : Array Value) (hw : ∀ d ∈ tables_1, d.before a0 Z = true) (k0 k1 k2 k3 k4 k5 k6 k7 k8 k9 : Addr) (h0 : Heap) (HK : own_K Z h0 k0 k1 k2 k3 k4 k5 k6 k7 k8 k9) :
    Ct l Z y1 method_2_code 1 (some (.object "com/example/stacks_in_time/stacksintime/Instruction$Kind")) ({ frames := 0, cells := 0, slots := 0, locals := 0 } : Room) #[(.int (8 : Int32))] h0 [] (fun v h => v = some (.ref k8) ∧ h0 = h) := by
  refine Ct.of (plainFor_of_name (by first | (simp [plainName, overriddenIn]; done) | decide +kernel)) ?_
  intro p e s m below meth c T0 X0
  refine Runs.top (g' := mkF m 0 #[.val (.int (8 : Int32))] []) (by first | (simp [entryFrame, mkF, argsToLocals, Value.category]; done) | rfl) ?_
  obtain ⟨⟨S0, E0, F0⟩, ⟨S1, E1, F1⟩, ⟨S2, E2, F2⟩, ⟨S3, E3, F3⟩, ⟨S4, E4, F4⟩, ⟨S5, E5, F5⟩, ⟨S6, E6, F6⟩, ⟨S7, E7, F7⟩, ⟨S8, E8, F8⟩, ⟨S9, E9, F9⟩⟩ := HK
  refine X0.iloadN (pc' := 1) d1_0 rfl rfl ?_
  refine X0.ifYes (pc' := 8) d1_1 (by decide) (by decide) (by decide) ?_
  refine X0.iloadN (pc' := 9) d1_8 rfl rfl ?_
  refine X0.iconst (pc' := 10) (z := 1) d1_9 rfl rfl ?_
  refine X0.icmpYes (pc' := 17) d1_10 (by decide) (by decide) (by decide) ?_
  refine X0.iloadN (pc' := 18) d1_17 rfl rfl ?_
  refine X0.iconst (pc' := 19) (z := 2) d1_18 rfl rfl ?_
  refine X0.icmpYes (pc' := 26) d1_19 (by decide) (by decide) (by decide) ?_
  refine X0.iloadN (pc' := 27) d1_26 rfl rfl ?_
  refine X0.iconst (pc' := 28) (z := 3) d1_27 rfl rfl ?_
  refine X0.icmpYes (pc' := 35) d1_28 (by decide) (by decide) (by decide) ?_
  refine X0.iloadN (pc' := 36) d1_35 rfl rfl ?_
  refine X0.iconst (pc' := 37) (z := 4) d1_36 rfl rfl ?_
  refine X0.icmpYes (pc' := 44) d1_37 (by decide) (by decide) (by decide) ?_
  refine X0.iloadN (pc' := 45) d1_44 rfl rfl ?_
  refine X0.iconst (pc' := 46) (z := 5) d1_45 rfl rfl ?_
  refine X0.icmpYes (pc' := 53) d1_46 (by decide) (by decide) (by decide) ?_
  refine X0.iloadN (pc' := 54) d1_53 rfl rfl ?_
  refine X0.bipush (pc' := 56) (z := 6) d1_54 rfl rfl ?_
  refine X0.icmpYes (pc' := 63) d1_56 (by decide) (by decide) (by decide) ?_
  refine X0.iloadN (pc' := 64) d1_63 rfl rfl ?_
  refine X0.bipush (pc' := 66) (z := 7) d1_64 rfl rfl ?_
  refine X0.icmpYes (pc' := 73) d1_66 (by decide) (by decide) (by decide) ?_
  refine X0.iloadN (pc' := 74) d1_73 rfl rfl ?_
  refine X0.bipush (pc' := 76) (z := 8) d1_74 rfl rfl ?_
  refine X0.icmpNo (pc' := 79) d1_76 (by decide) rfl ?_
  refine X0.getstatic (pc' := 82) (host := "") (Or.inl (wd_27 hw)) Via.refl S8 d1_79 rfl (fun T1 X1 => ?_)
  exact X1.areturn rfl rfl rfl rfl d1_82 (by decide) (by decide) ⟨rfl, rfl⟩
set_option maxRecDepth 65536 in
set_option maxHeartbeats 40000000 in
theorem ct1_9 (l : Launch) (Z : State) (a0 : Array Value) (hw : ∀ d ∈ tables_1, d.before a0 Z = true) (k0 k1 k2 k3 k4 k5 k6 k7 k8 k9 : Addr) (h0 : Heap) (HK : own_K Z h0 k0 k1 k2 k3 k4 k5 k6 k7 k8 k9) :
    Ct l Z y1 method_2_code 1 (some (.object "com/example/stacks_in_time/stacksintime/Instruction$Kind")) ({ frames := 0, cells := 0, slots := 0, locals := 0 } : Room) #[(.int (9 : Int32))] h0 [] (fun v h => v = some (.ref k9) ∧ h0 = h) := by
  refine Ct.of (plainFor_of_name (by first | (simp [plainName, overriddenIn]; done) | decide +kernel)) ?_
  intro p e s m below meth c T0 X0
  refine Runs.top (g' := mkF m 0 #[.val (.int (9 : Int32))] []) (by first | (simp [entryFrame, mkF, argsToLocals, Value.category]; done) | rfl) ?_
  obtain ⟨⟨S0, E0, F0⟩, ⟨S1, E1, F1⟩, ⟨S2, E2, F2⟩, ⟨S3, E3, F3⟩, ⟨S4, E4, F4⟩, ⟨S5, E5, F5⟩, ⟨S6, E6, F6⟩, ⟨S7, E7, F7⟩, ⟨S8, E8, F8⟩, ⟨S9, E9, F9⟩⟩ := HK
  refine X0.iloadN (pc' := 1) d1_0 rfl rfl ?_
  refine X0.ifYes (pc' := 8) d1_1 (by decide) (by decide) (by decide) ?_
  refine X0.iloadN (pc' := 9) d1_8 rfl rfl ?_
  refine X0.iconst (pc' := 10) (z := 1) d1_9 rfl rfl ?_
  refine X0.icmpYes (pc' := 17) d1_10 (by decide) (by decide) (by decide) ?_
  refine X0.iloadN (pc' := 18) d1_17 rfl rfl ?_
  refine X0.iconst (pc' := 19) (z := 2) d1_18 rfl rfl ?_
  refine X0.icmpYes (pc' := 26) d1_19 (by decide) (by decide) (by decide) ?_
  refine X0.iloadN (pc' := 27) d1_26 rfl rfl ?_
  refine X0.iconst (pc' := 28) (z := 3) d1_27 rfl rfl ?_
  refine X0.icmpYes (pc' := 35) d1_28 (by decide) (by decide) (by decide) ?_
  refine X0.iloadN (pc' := 36) d1_35 rfl rfl ?_
  refine X0.iconst (pc' := 37) (z := 4) d1_36 rfl rfl ?_
  refine X0.icmpYes (pc' := 44) d1_37 (by decide) (by decide) (by decide) ?_
  refine X0.iloadN (pc' := 45) d1_44 rfl rfl ?_
  refine X0.iconst (pc' := 46) (z := 5) d1_45 rfl rfl ?_
  refine X0.icmpYes (pc' := 53) d1_46 (by decide) (by decide) (by decide) ?_
  refine X0.iloadN (pc' := 54) d1_53 rfl rfl ?_
  refine X0.bipush (pc' := 56) (z := 6) d1_54 rfl rfl ?_
  refine X0.icmpYes (pc' := 63) d1_56 (by decide) (by decide) (by decide) ?_
  refine X0.iloadN (pc' := 64) d1_63 rfl rfl ?_
  refine X0.bipush (pc' := 66) (z := 7) d1_64 rfl rfl ?_
  refine X0.icmpYes (pc' := 73) d1_66 (by decide) (by decide) (by decide) ?_
  refine X0.iloadN (pc' := 74) d1_73 rfl rfl ?_
  refine X0.bipush (pc' := 76) (z := 8) d1_74 rfl rfl ?_
  refine X0.icmpYes (pc' := 83) d1_76 (by decide) (by decide) (by decide) ?_
  refine X0.getstatic (pc' := 86) (host := "") (Or.inl (wd_29 hw)) Via.refl S9 d1_83 rfl (fun T1 X1 => ?_)
  exact X1.areturn rfl rfl rfl rfl d1_86 (by decide) (by decide) ⟨rfl, rfl⟩
set_option maxRecDepth 65536 in
set_option maxHeartbeats 40000000 in
theorem ct2_0 (l : Launch) (Z : State) (a0 : Array Value) (hw : ∀ d ∈ tables_1, d.before a0 Z = true) (k0 k1 k2 k3 k4 k5 k6 k7 k8 k9 : Addr) (h0 : Heap) (HK : own_K Z h0 k0 k1 k2 k3 k4 k5 k6 k7 k8 k9) :
    Ct l Z y2 prog_67_method_5_code 1 (some .boolean) ({ frames := 0, cells := 0, slots := 0, locals := 0 } : Room) #[(.ref k0)] h0 [] (fun v h => v = some (.int (0 : Int32)) ∧ h0 = h) := by
  refine Ct.of (plainFor_of_name (by first | (simp [plainName, overriddenIn]; done) | decide +kernel)) ?_
  intro p e s m below meth c T0 X0
  refine Runs.top (g' := mkF m 0 #[.val (.ref k0)] []) (by first | (simp [entryFrame, mkF, argsToLocals, Value.category]; done) | rfl) ?_
  obtain ⟨⟨S0, E0, F0⟩, ⟨S1, E1, F1⟩, ⟨S2, E2, F2⟩, ⟨S3, E3, F3⟩, ⟨S4, E4, F4⟩, ⟨S5, E5, F5⟩, ⟨S6, E6, F6⟩, ⟨S7, E7, F7⟩, ⟨S8, E8, F8⟩, ⟨S9, E9, F9⟩⟩ := HK
  refine X0.aloadN (pc' := 1) d2_0 rfl rfl rfl ?_
  refine X0.getstatic (pc' := 4) (host := "") (Or.inl (wd_13 hw)) Via.refl S4 d2_1 rfl (fun T1 X1 => ?_)
  refine X1.acmp (pc' := 7) (u := (.ref k0)) (v := (.ref k4)) (same := false) d2_4 rfl rfl (decide_eq_false fun q => (Fld.ne F0 F4 (by decide)) (Value.ref.inj q)) (by decide) (by decide) ?_
  refine X1.aloadN (pc' := 8) d2_7 rfl rfl rfl ?_
  refine X1.getstatic (pc' := 11) (host := "") (Or.inl (wd_15 hw)) Via.refl S6 d2_8 rfl (fun T2 X2 => ?_)
  refine X2.acmp (pc' := 14) (u := (.ref k0)) (v := (.ref k6)) (same := false) d2_11 rfl rfl (decide_eq_false fun q => (Fld.ne F0 F6 (by decide)) (Value.ref.inj q)) (by decide) (by decide) ?_
  refine X2.aloadN (pc' := 15) d2_14 rfl rfl rfl ?_
  refine X2.getstatic (pc' := 18) (host := "") (Or.inl (wd_17 hw)) Via.refl S7 d2_15 rfl (fun T3 X3 => ?_)
  refine X3.acmp (pc' := 25) (u := (.ref k0)) (v := (.ref k7)) (same := false) d2_18 rfl rfl (decide_eq_false fun q => (Fld.ne F0 F7 (by decide)) (Value.ref.inj q)) (by decide) (by decide) ?_
  refine X3.iconst (pc' := 26) (z := 0) d2_25 rfl rfl ?_
  exact X3.zreturn (z' := (0 : Int32)) rfl (by simp) d2_26 rfl (by decide) (by decide) ⟨rfl, rfl⟩
set_option maxRecDepth 65536 in
set_option maxHeartbeats 40000000 in
theorem ct2_1 (l : Launch) (Z : State) (a0 : Array Value) (hw : ∀ d ∈ tables_1, d.before a0 Z = true) (k0 k1 k2 k3 k4 k5 k6 k7 k8 k9 : Addr) (h0 : Heap) (HK : own_K Z h0 k0 k1 k2 k3 k4 k5 k6 k7 k8 k9) :
    Ct l Z y2 prog_67_method_5_code 1 (some .boolean) ({ frames := 0, cells := 0, slots := 0, locals := 0 } : Room) #[(.ref k1)] h0 [] (fun v h => v = some (.int (0 : Int32)) ∧ h0 = h) := by
  refine Ct.of (plainFor_of_name (by first | (simp [plainName, overriddenIn]; done) | decide +kernel)) ?_
  intro p e s m below meth c T0 X0
  refine Runs.top (g' := mkF m 0 #[.val (.ref k1)] []) (by first | (simp [entryFrame, mkF, argsToLocals, Value.category]; done) | rfl) ?_
  obtain ⟨⟨S0, E0, F0⟩, ⟨S1, E1, F1⟩, ⟨S2, E2, F2⟩, ⟨S3, E3, F3⟩, ⟨S4, E4, F4⟩, ⟨S5, E5, F5⟩, ⟨S6, E6, F6⟩, ⟨S7, E7, F7⟩, ⟨S8, E8, F8⟩, ⟨S9, E9, F9⟩⟩ := HK
  refine X0.aloadN (pc' := 1) d2_0 rfl rfl rfl ?_
  refine X0.getstatic (pc' := 4) (host := "") (Or.inl (wd_13 hw)) Via.refl S4 d2_1 rfl (fun T1 X1 => ?_)
  refine X1.acmp (pc' := 7) (u := (.ref k1)) (v := (.ref k4)) (same := false) d2_4 rfl rfl (decide_eq_false fun q => (Fld.ne F1 F4 (by decide)) (Value.ref.inj q)) (by decide) (by decide) ?_
  refine X1.aloadN (pc' := 8) d2_7 rfl rfl rfl ?_
  refine X1.getstatic (pc' := 11) (host := "") (Or.inl (wd_15 hw)) Via.refl S6 d2_8 rfl (fun T2 X2 => ?_)
  refine X2.acmp (pc' := 14) (u := (.ref k1)) (v := (.ref k6)) (same := false) d2_11 rfl rfl (decide_eq_false fun q => (Fld.ne F1 F6 (by decide)) (Value.ref.inj q)) (by decide) (by decide) ?_
  refine X2.aloadN (pc' := 15) d2_14 rfl rfl rfl ?_
  refine X2.getstatic (pc' := 18) (host := "") (Or.inl (wd_17 hw)) Via.refl S7 d2_15 rfl (fun T3 X3 => ?_)
  refine X3.acmp (pc' := 25) (u := (.ref k1)) (v := (.ref k7)) (same := false) d2_18 rfl rfl (decide_eq_false fun q => (Fld.ne F1 F7 (by decide)) (Value.ref.inj q)) (by decide) (by decide) ?_
  refine X3.iconst (pc' := 26) (z := 0) d2_25 rfl rfl ?_
  exact X3.zreturn (z' := (0 : Int32)) rfl (by simp) d2_26 rfl (by decide) (by decide) ⟨rfl, rfl⟩
set_option maxRecDepth 65536 in
set_option maxHeartbeats 40000000 in
theorem ct2_2 (l : Launch) (Z : State) (a0 : Array Value) (hw : ∀ d ∈ tables_1, d.before a0 Z = true) (k0 k1 k2 k3 k4 k5 k6 k7 k8 k9 : Addr) (h0 : Heap) (HK : own_K Z h0 k0 k1 k2 k3 k4 k5 k6 k7 k8 k9) :
    Ct l Z y2 prog_67_method_5_code 1 (some .boolean) ({ frames := 0, cells := 0, slots := 0, locals := 0 } : Room) #[(.ref k2)] h0 [] (fun v h => v = some (.int (0 : Int32)) ∧ h0 = h) := by
  refine Ct.of (plainFor_of_name (by first | (simp [plainName, overriddenIn]; done) | decide +kernel)) ?_
  intro p e s m below meth c T0 X0
  refine Runs.top (g' := mkF m 0 #[.val (.ref k2)] []) (by first | (simp [entryFrame, mkF, argsToLocals, Value.category]; done) | rfl) ?_
  obtain ⟨⟨S0, E0, F0⟩, ⟨S1, E1, F1⟩, ⟨S2, E2, F2⟩, ⟨S3, E3, F3⟩, ⟨S4, E4, F4⟩, ⟨S5, E5, F5⟩, ⟨S6, E6, F6⟩, ⟨S7, E7, F7⟩, ⟨S8, E8, F8⟩, ⟨S9, E9, F9⟩⟩ := HK
  refine X0.aloadN (pc' := 1) d2_0 rfl rfl rfl ?_
  refine X0.getstatic (pc' := 4) (host := "") (Or.inl (wd_13 hw)) Via.refl S4 d2_1 rfl (fun T1 X1 => ?_)
  refine X1.acmp (pc' := 7) (u := (.ref k2)) (v := (.ref k4)) (same := false) d2_4 rfl rfl (decide_eq_false fun q => (Fld.ne F2 F4 (by decide)) (Value.ref.inj q)) (by decide) (by decide) ?_
  refine X1.aloadN (pc' := 8) d2_7 rfl rfl rfl ?_
  refine X1.getstatic (pc' := 11) (host := "") (Or.inl (wd_15 hw)) Via.refl S6 d2_8 rfl (fun T2 X2 => ?_)
  refine X2.acmp (pc' := 14) (u := (.ref k2)) (v := (.ref k6)) (same := false) d2_11 rfl rfl (decide_eq_false fun q => (Fld.ne F2 F6 (by decide)) (Value.ref.inj q)) (by decide) (by decide) ?_
  refine X2.aloadN (pc' := 15) d2_14 rfl rfl rfl ?_
  refine X2.getstatic (pc' := 18) (host := "") (Or.inl (wd_17 hw)) Via.refl S7 d2_15 rfl (fun T3 X3 => ?_)
  refine X3.acmp (pc' := 25) (u := (.ref k2)) (v := (.ref k7)) (same := false) d2_18 rfl rfl (decide_eq_false fun q => (Fld.ne F2 F7 (by decide)) (Value.ref.inj q)) (by decide) (by decide) ?_
  refine X3.iconst (pc' := 26) (z := 0) d2_25 rfl rfl ?_
  exact X3.zreturn (z' := (0 : Int32)) rfl (by simp) d2_26 rfl (by decide) (by decide) ⟨rfl, rfl⟩
set_option maxRecDepth 65536 in
set_option maxHeartbeats 40000000 in
theorem ct2_3 (l : Launch) (Z : State) (a0 : Array Value) (hw : ∀ d ∈ tables_1, d.before a0 Z = true) (k0 k1 k2 k3 k4 k5 k6 k7 k8 k9 : Addr) (h0 : Heap) (HK : own_K Z h0 k0 k1 k2 k3 k4 k5 k6 k7 k8 k9) :
    Ct l Z y2 prog_67_method_5_code 1 (some .boolean) ({ frames := 0, cells := 0, slots := 0, locals := 0 } : Room) #[(.ref k3)] h0 [] (fun v h => v = some (.int (0 : Int32)) ∧ h0 = h) := by
  refine Ct.of (plainFor_of_name (by first | (simp [plainName, overriddenIn]; done) | decide +kernel)) ?_
  intro p e s m below meth c T0 X0
  refine Runs.top (g' := mkF m 0 #[.val (.ref k3)] []) (by first | (simp [entryFrame, mkF, argsToLocals, Value.category]; done) | rfl) ?_
  obtain ⟨⟨S0, E0, F0⟩, ⟨S1, E1, F1⟩, ⟨S2, E2, F2⟩, ⟨S3, E3, F3⟩, ⟨S4, E4, F4⟩, ⟨S5, E5, F5⟩, ⟨S6, E6, F6⟩, ⟨S7, E7, F7⟩, ⟨S8, E8, F8⟩, ⟨S9, E9, F9⟩⟩ := HK
  refine X0.aloadN (pc' := 1) d2_0 rfl rfl rfl ?_
  refine X0.getstatic (pc' := 4) (host := "") (Or.inl (wd_13 hw)) Via.refl S4 d2_1 rfl (fun T1 X1 => ?_)
  refine X1.acmp (pc' := 7) (u := (.ref k3)) (v := (.ref k4)) (same := false) d2_4 rfl rfl (decide_eq_false fun q => (Fld.ne F3 F4 (by decide)) (Value.ref.inj q)) (by decide) (by decide) ?_
  refine X1.aloadN (pc' := 8) d2_7 rfl rfl rfl ?_
  refine X1.getstatic (pc' := 11) (host := "") (Or.inl (wd_15 hw)) Via.refl S6 d2_8 rfl (fun T2 X2 => ?_)
  refine X2.acmp (pc' := 14) (u := (.ref k3)) (v := (.ref k6)) (same := false) d2_11 rfl rfl (decide_eq_false fun q => (Fld.ne F3 F6 (by decide)) (Value.ref.inj q)) (by decide) (by decide) ?_
  refine X2.aloadN (pc' := 15) d2_14 rfl rfl rfl ?_
  refine X2.getstatic (pc' := 18) (host := "") (Or.inl (wd_17 hw)) Via.refl S7 d2_15 rfl (fun T3 X3 => ?_)
  refine X3.acmp (pc' := 25) (u := (.ref k3)) (v := (.ref k7)) (same := false) d2_18 rfl rfl (decide_eq_false fun q => (Fld.ne F3 F7 (by decide)) (Value.ref.inj q)) (by decide) (by decide) ?_
  refine X3.iconst (pc' := 26) (z := 0) d2_25 rfl rfl ?_
  exact X3.zreturn (z' := (0 : Int32)) rfl (by simp) d2_26 rfl (by decide) (by decide) ⟨rfl, rfl⟩
set_option maxRecDepth 65536 in
set_option maxHeartbeats 40000000 in
theorem ct2_4 (l : Launch) (Z : State) (a0 : Array Value) (hw : ∀ d ∈ tables_1, d.before a0 Z = true) (k0 k1 k2 k3 k4 k5 k6 k7 k8 k9 : Addr) (h0 : Heap) (HK : own_K Z h0 k0 k1 k2 k3 k4 k5 k6 k7 k8 k9) :
    Ct l Z y2 prog_67_method_5_code 1 (some .boolean) ({ frames := 0, cells := 0, slots := 0, locals := 0 } : Room) #[(.ref k4)] h0 [] (fun v h => v = some (.int (1 : Int32)) ∧ h0 = h) := by
  refine Ct.of (plainFor_of_name (by first | (simp [plainName, overriddenIn]; done) | decide +kernel)) ?_
  intro p e s m below meth c T0 X0
  refine Runs.top (g' := mkF m 0 #[.val (.ref k4)] []) (by first | (simp [entryFrame, mkF, argsToLocals, Value.category]; done) | rfl) ?_
  obtain ⟨⟨S0, E0, F0⟩, ⟨S1, E1, F1⟩, ⟨S2, E2, F2⟩, ⟨S3, E3, F3⟩, ⟨S4, E4, F4⟩, ⟨S5, E5, F5⟩, ⟨S6, E6, F6⟩, ⟨S7, E7, F7⟩, ⟨S8, E8, F8⟩, ⟨S9, E9, F9⟩⟩ := HK
  refine X0.aloadN (pc' := 1) d2_0 rfl rfl rfl ?_
  refine X0.getstatic (pc' := 4) (host := "") (Or.inl (wd_13 hw)) Via.refl S4 d2_1 rfl (fun T1 X1 => ?_)
  refine X1.acmp (pc' := 21) (u := (.ref k4)) (v := (.ref k4)) (same := true) d2_4 rfl rfl (decide_eq_true rfl) (by decide) (by decide) ?_
  refine X1.iconst (pc' := 22) (z := 1) d2_21 rfl rfl ?_
  refine X1.goto (pc' := 26) d2_22 (by decide) (by decide) ?_
  exact X1.zreturn (z' := (1 : Int32)) rfl (by simp) d2_26 rfl (by decide) (by decide) ⟨rfl, rfl⟩
set_option maxRecDepth 65536 in
set_option maxHeartbeats 40000000 in
theorem ct2_5 (l : Launch) (Z : State) (a0 : Array Value) (hw : ∀ d ∈ tables_1, d.before a0 Z = true) (k0 k1 k2 k3 k4 k5 k6 k7 k8 k9 : Addr) (h0 : Heap) (HK : own_K Z h0 k0 k1 k2 k3 k4 k5 k6 k7 k8 k9) :
    Ct l Z y2 prog_67_method_5_code 1 (some .boolean) ({ frames := 0, cells := 0, slots := 0, locals := 0 } : Room) #[(.ref k5)] h0 [] (fun v h => v = some (.int (0 : Int32)) ∧ h0 = h) := by
  refine Ct.of (plainFor_of_name (by first | (simp [plainName, overriddenIn]; done) | decide +kernel)) ?_
  intro p e s m below meth c T0 X0
  refine Runs.top (g' := mkF m 0 #[.val (.ref k5)] []) (by first | (simp [entryFrame, mkF, argsToLocals, Value.category]; done) | rfl) ?_
  obtain ⟨⟨S0, E0, F0⟩, ⟨S1, E1, F1⟩, ⟨S2, E2, F2⟩, ⟨S3, E3, F3⟩, ⟨S4, E4, F4⟩, ⟨S5, E5, F5⟩, ⟨S6, E6, F6⟩, ⟨S7, E7, F7⟩, ⟨S8, E8, F8⟩, ⟨S9, E9, F9⟩⟩ := HK
  refine X0.aloadN (pc' := 1) d2_0 rfl rfl rfl ?_
  refine X0.getstatic (pc' := 4) (host := "") (Or.inl (wd_13 hw)) Via.refl S4 d2_1 rfl (fun T1 X1 => ?_)
  refine X1.acmp (pc' := 7) (u := (.ref k5)) (v := (.ref k4)) (same := false) d2_4 rfl rfl (decide_eq_false fun q => (Fld.ne F5 F4 (by decide)) (Value.ref.inj q)) (by decide) (by decide) ?_
  refine X1.aloadN (pc' := 8) d2_7 rfl rfl rfl ?_
  refine X1.getstatic (pc' := 11) (host := "") (Or.inl (wd_15 hw)) Via.refl S6 d2_8 rfl (fun T2 X2 => ?_)
  refine X2.acmp (pc' := 14) (u := (.ref k5)) (v := (.ref k6)) (same := false) d2_11 rfl rfl (decide_eq_false fun q => (Fld.ne F5 F6 (by decide)) (Value.ref.inj q)) (by decide) (by decide) ?_
  refine X2.aloadN (pc' := 15) d2_14 rfl rfl rfl ?_
  refine X2.getstatic (pc' := 18) (host := "") (Or.inl (wd_17 hw)) Via.refl S7 d2_15 rfl (fun T3 X3 => ?_)
  refine X3.acmp (pc' := 25) (u := (.ref k5)) (v := (.ref k7)) (same := false) d2_18 rfl rfl (decide_eq_false fun q => (Fld.ne F5 F7 (by decide)) (Value.ref.inj q)) (by decide) (by decide) ?_
  refine X3.iconst (pc' := 26) (z := 0) d2_25 rfl rfl ?_
  exact X3.zreturn (z' := (0 : Int32)) rfl (by simp) d2_26 rfl (by decide) (by decide) ⟨rfl, rfl⟩
set_option maxRecDepth 65536 in
set_option maxHeartbeats 40000000 in
theorem ct2_6 (l : Launch) (Z : State) (a0 : Array Value) (hw : ∀ d ∈ tables_1, d.before a0 Z = true) (k0 k1 k2 k3 k4 k5 k6 k7 k8 k9 : Addr) (h0 : Heap) (HK : own_K Z h0 k0 k1 k2 k3 k4 k5 k6 k7 k8 k9) :
    Ct l Z y2 prog_67_method_5_code 1 (some .boolean) ({ frames := 0, cells := 0, slots := 0, locals := 0 } : Room) #[(.ref k6)] h0 [] (fun v h => v = some (.int (1 : Int32)) ∧ h0 = h) := by
  refine Ct.of (plainFor_of_name (by first | (simp [plainName, overriddenIn]; done) | decide +kernel)) ?_
  intro p e s m below meth c T0 X0
  refine Runs.top (g' := mkF m 0 #[.val (.ref k6)] []) (by first | (simp [entryFrame, mkF, argsToLocals, Value.category]; done) | rfl) ?_
  obtain ⟨⟨S0, E0, F0⟩, ⟨S1, E1, F1⟩, ⟨S2, E2, F2⟩, ⟨S3, E3, F3⟩, ⟨S4, E4, F4⟩, ⟨S5, E5, F5⟩, ⟨S6, E6, F6⟩, ⟨S7, E7, F7⟩, ⟨S8, E8, F8⟩, ⟨S9, E9, F9⟩⟩ := HK
  refine X0.aloadN (pc' := 1) d2_0 rfl rfl rfl ?_
  refine X0.getstatic (pc' := 4) (host := "") (Or.inl (wd_13 hw)) Via.refl S4 d2_1 rfl (fun T1 X1 => ?_)
  refine X1.acmp (pc' := 7) (u := (.ref k6)) (v := (.ref k4)) (same := false) d2_4 rfl rfl (decide_eq_false fun q => (Fld.ne F6 F4 (by decide)) (Value.ref.inj q)) (by decide) (by decide) ?_
  refine X1.aloadN (pc' := 8) d2_7 rfl rfl rfl ?_
  refine X1.getstatic (pc' := 11) (host := "") (Or.inl (wd_15 hw)) Via.refl S6 d2_8 rfl (fun T2 X2 => ?_)
  refine X2.acmp (pc' := 21) (u := (.ref k6)) (v := (.ref k6)) (same := true) d2_11 rfl rfl (decide_eq_true rfl) (by decide) (by decide) ?_
  refine X2.iconst (pc' := 22) (z := 1) d2_21 rfl rfl ?_
  refine X2.goto (pc' := 26) d2_22 (by decide) (by decide) ?_
  exact X2.zreturn (z' := (1 : Int32)) rfl (by simp) d2_26 rfl (by decide) (by decide) ⟨rfl, rfl⟩
set_option maxRecDepth 65536 in
set_option maxHeartbeats 40000000 in
theorem ct2_7 (l : Launch) (Z : State) (a0 : Array Value) (hw : ∀ d ∈ tables_1, d.before a0 Z = true) (k0 k1 k2 k3 k4 k5 k6 k7 k8 k9 : Addr) (h0 : Heap) (HK : own_K Z h0 k0 k1 k2 k3 k4 k5 k6 k7 k8 k9) :
    Ct l Z y2 prog_67_method_5_code 1 (some .boolean) ({ frames := 0, cells := 0, slots := 0, locals := 0 } : Room) #[(.ref k7)] h0 [] (fun v h => v = some (.int (1 : Int32)) ∧ h0 = h) := by
  refine Ct.of (plainFor_of_name (by first | (simp [plainName, overriddenIn]; done) | decide +kernel)) ?_
  intro p e s m below meth c T0 X0
  refine Runs.top (g' := mkF m 0 #[.val (.ref k7)] []) (by first | (simp [entryFrame, mkF, argsToLocals, Value.category]; done) | rfl) ?_
  obtain ⟨⟨S0, E0, F0⟩, ⟨S1, E1, F1⟩, ⟨S2, E2, F2⟩, ⟨S3, E3, F3⟩, ⟨S4, E4, F4⟩, ⟨S5, E5, F5⟩, ⟨S6, E6, F6⟩, ⟨S7, E7, F7⟩, ⟨S8, E8, F8⟩, ⟨S9, E9, F9⟩⟩ := HK
  refine X0.aloadN (pc' := 1) d2_0 rfl rfl rfl ?_
  refine X0.getstatic (pc' := 4) (host := "") (Or.inl (wd_13 hw)) Via.refl S4 d2_1 rfl (fun T1 X1 => ?_)
  refine X1.acmp (pc' := 7) (u := (.ref k7)) (v := (.ref k4)) (same := false) d2_4 rfl rfl (decide_eq_false fun q => (Fld.ne F7 F4 (by decide)) (Value.ref.inj q)) (by decide) (by decide) ?_
  refine X1.aloadN (pc' := 8) d2_7 rfl rfl rfl ?_
  refine X1.getstatic (pc' := 11) (host := "") (Or.inl (wd_15 hw)) Via.refl S6 d2_8 rfl (fun T2 X2 => ?_)
  refine X2.acmp (pc' := 14) (u := (.ref k7)) (v := (.ref k6)) (same := false) d2_11 rfl rfl (decide_eq_false fun q => (Fld.ne F7 F6 (by decide)) (Value.ref.inj q)) (by decide) (by decide) ?_
  refine X2.aloadN (pc' := 15) d2_14 rfl rfl rfl ?_
  refine X2.getstatic (pc' := 18) (host := "") (Or.inl (wd_17 hw)) Via.refl S7 d2_15 rfl (fun T3 X3 => ?_)
  refine X3.acmp (pc' := 21) (u := (.ref k7)) (v := (.ref k7)) (same := true) d2_18 rfl rfl (decide_eq_true rfl) (by decide) (by decide) ?_
  refine X3.iconst (pc' := 22) (z := 1) d2_21 rfl rfl ?_
  refine X3.goto (pc' := 26) d2_22 (by decide) (by decide) ?_
  exact X3.zreturn (z' := (1 : Int32)) rfl (by simp) d2_26 rfl (by decide) (by decide) ⟨rfl, rfl⟩
set_option maxRecDepth 65536 in
set_option maxHeartbeats 40000000 in
theorem ct2_8 (l : Launch) (Z : State) (a0 : Array Value) (hw : ∀ d ∈ tables_1, d.before a0 Z = true) (k0 k1 k2 k3 k4 k5 k6 k7 k8 k9 : Addr) (h0 : Heap) (HK : own_K Z h0 k0 k1 k2 k3 k4 k5 k6 k7 k8 k9) :
    Ct l Z y2 prog_67_method_5_code 1 (some .boolean) ({ frames := 0, cells := 0, slots := 0, locals := 0 } : Room) #[(.ref k8)] h0 [] (fun v h => v = some (.int (0 : Int32)) ∧ h0 = h) := by
  refine Ct.of (plainFor_of_name (by first | (simp [plainName, overriddenIn]; done) | decide +kernel)) ?_
  intro p e s m below meth c T0 X0
  refine Runs.top (g' := mkF m 0 #[.val (.ref k8)] []) (by first | (simp [entryFrame, mkF, argsToLocals, Value.category]; done) | rfl) ?_
  obtain ⟨⟨S0, E0, F0⟩, ⟨S1, E1, F1⟩, ⟨S2, E2, F2⟩, ⟨S3, E3, F3⟩, ⟨S4, E4, F4⟩, ⟨S5, E5, F5⟩, ⟨S6, E6, F6⟩, ⟨S7, E7, F7⟩, ⟨S8, E8, F8⟩, ⟨S9, E9, F9⟩⟩ := HK
  refine X0.aloadN (pc' := 1) d2_0 rfl rfl rfl ?_
  refine X0.getstatic (pc' := 4) (host := "") (Or.inl (wd_13 hw)) Via.refl S4 d2_1 rfl (fun T1 X1 => ?_)
  refine X1.acmp (pc' := 7) (u := (.ref k8)) (v := (.ref k4)) (same := false) d2_4 rfl rfl (decide_eq_false fun q => (Fld.ne F8 F4 (by decide)) (Value.ref.inj q)) (by decide) (by decide) ?_
  refine X1.aloadN (pc' := 8) d2_7 rfl rfl rfl ?_
  refine X1.getstatic (pc' := 11) (host := "") (Or.inl (wd_15 hw)) Via.refl S6 d2_8 rfl (fun T2 X2 => ?_)
  refine X2.acmp (pc' := 14) (u := (.ref k8)) (v := (.ref k6)) (same := false) d2_11 rfl rfl (decide_eq_false fun q => (Fld.ne F8 F6 (by decide)) (Value.ref.inj q)) (by decide) (by decide) ?_
  refine X2.aloadN (pc' := 15) d2_14 rfl rfl rfl ?_
  refine X2.getstatic (pc' := 18) (host := "") (Or.inl (wd_17 hw)) Via.refl S7 d2_15 rfl (fun T3 X3 => ?_)
  refine X3.acmp (pc' := 25) (u := (.ref k8)) (v := (.ref k7)) (same := false) d2_18 rfl rfl (decide_eq_false fun q => (Fld.ne F8 F7 (by decide)) (Value.ref.inj q)) (by decide) (by decide) ?_
  refine X3.iconst (pc' := 26) (z := 0) d2_25 rfl rfl ?_
  exact X3.zreturn (z' := (0 : Int32)) rfl (by simp) d2_26 rfl (by decide) (by decide) ⟨rfl, rfl⟩
set_option maxRecDepth 65536 in
set_option maxHeartbeats 40000000 in
theorem ct2_9 (l : Launch) (Z : State) (a0 : Array Value) (hw : ∀ d ∈ tables_1, d.before a0 Z = true) (k0 k1 k2 k3 k4 k5 k6 k7 k8 k9 : Addr) (h0 : Heap) (HK : own_K Z h0 k0 k1 k2 k3 k4 k5 k6 k7 k8 k9) :
    Ct l Z y2 prog_67_method_5_code 1 (some .boolean) ({ frames := 0, cells := 0, slots := 0, locals := 0 } : Room) #[(.ref k9)] h0 [] (fun v h => v = some (.int (0 : Int32)) ∧ h0 = h) := by
  refine Ct.of (plainFor_of_name (by first | (simp [plainName, overriddenIn]; done) | decide +kernel)) ?_
  intro p e s m below meth c T0 X0
  refine Runs.top (g' := mkF m 0 #[.val (.ref k9)] []) (by first | (simp [entryFrame, mkF, argsToLocals, Value.category]; done) | rfl) ?_
  obtain ⟨⟨S0, E0, F0⟩, ⟨S1, E1, F1⟩, ⟨S2, E2, F2⟩, ⟨S3, E3, F3⟩, ⟨S4, E4, F4⟩, ⟨S5, E5, F5⟩, ⟨S6, E6, F6⟩, ⟨S7, E7, F7⟩, ⟨S8, E8, F8⟩, ⟨S9, E9, F9⟩⟩ := HK
  refine X0.aloadN (pc' := 1) d2_0 rfl rfl rfl ?_
  refine X0.getstatic (pc' := 4) (host := "") (Or.inl (wd_13 hw)) Via.refl S4 d2_1 rfl (fun T1 X1 => ?_)
  refine X1.acmp (pc' := 7) (u := (.ref k9)) (v := (.ref k4)) (same := false) d2_4 rfl rfl (decide_eq_false fun q => (Fld.ne F9 F4 (by decide)) (Value.ref.inj q)) (by decide) (by decide) ?_
  refine X1.aloadN (pc' := 8) d2_7 rfl rfl rfl ?_
  refine X1.getstatic (pc' := 11) (host := "") (Or.inl (wd_15 hw)) Via.refl S6 d2_8 rfl (fun T2 X2 => ?_)
  refine X2.acmp (pc' := 14) (u := (.ref k9)) (v := (.ref k6)) (same := false) d2_11 rfl rfl (decide_eq_false fun q => (Fld.ne F9 F6 (by decide)) (Value.ref.inj q)) (by decide) (by decide) ?_
  refine X2.aloadN (pc' := 15) d2_14 rfl rfl rfl ?_
  refine X2.getstatic (pc' := 18) (host := "") (Or.inl (wd_17 hw)) Via.refl S7 d2_15 rfl (fun T3 X3 => ?_)
  refine X3.acmp (pc' := 25) (u := (.ref k9)) (v := (.ref k7)) (same := false) d2_18 rfl rfl (decide_eq_false fun q => (Fld.ne F9 F7 (by decide)) (Value.ref.inj q)) (by decide) (by decide) ?_
  refine X3.iconst (pc' := 26) (z := 0) d2_25 rfl rfl ?_
  exact X3.zreturn (z' := (0 : Int32)) rfl (by simp) d2_26 rfl (by decide) (by decide) ⟨rfl, rfl⟩
set_option maxRecDepth 65536 in
set_option maxHeartbeats 40000000 in
theorem ct0 (l : Launch) (Z : State) (a0 : Array Value) (hw : ∀ d ∈ tables_1, d.before a0 Z = true) (q1 : Int32) (k0 k1 k2 k3 k4 k5 k6 k7 k8 k9 : Addr) (h0 : Heap) (HK : own_K Z h0 k0 k1 k2 k3 k4 k5 k6 k7 k8 k9) :
    Ct l Z x code maxLocals ret room_1 #[(.int q1)] h0 [] (fun v h => v = some (.int 1)) := by
  refine Ct.of (plainFor_of_name (by first | (simp [plainName, overriddenIn]; done) | decide +kernel)) ?_
  intro p e s m below meth c T0 X0
  refine Runs.top (g' := mkF m 0 #[.val (.int q1), .unset, .unset, .unset] []) (by first | (simp [entryFrame, mkF, argsToLocals, Value.category, maxLocals]; done) | rfl) ?_
  have HK0 := HK
  obtain ⟨⟨S0, E0, F0⟩, ⟨S1, E1, F1⟩, ⟨S2, E2, F2⟩, ⟨S3, E3, F3⟩, ⟨S4, E4, F4⟩, ⟨S5, E5, F5⟩, ⟨S6, E6, F6⟩, ⟨S7, E7, F7⟩, ⟨S8, E8, F8⟩, ⟨S9, E9, F9⟩⟩ := HK
  refine X0.iloadN (pc' := 1) at_0 rfl rfl ?_
  refine X0.ldcInt (pc' := 3) (wd_0 hw) at_1 rfl ?_
  refine X0.iand (pc' := 4) at_3 rfl ?_
  refine X0.bipush (pc' := 6) (z := 10) at_4 rfl rfl ?_
  refine X0.irem (pc' := 7) at_6 (by decide) rfl ?_
  have hz := own_ten q1 _ rfl
  generalize ((q1 &&& (2147483647 : Int32)) % (10 : Int32)) = z at hz ⊢
  rcases hz with rfl | rfl | rfl | rfl | rfl | rfl | rfl | rfl | rfl | rfl
  · refine X0.istoreN (pc' := 8) (l' := #[.val (.int q1), .val (.int (0 : Int32)), .unset, .unset]) at_7 rfl rfl ?_
    refine X0.iloadN (pc' := 9) at_8 rfl rfl ?_
    refine X0.callS (pc' := 12) (W := 0) (argsL := [(.int (0 : Int32))]) (rest := []) (ct1_0 l Z a0 hw k0 k1 k2 k3 k4 k5 k6 k7 k8 k9 h0 HK0) (wd_1 hw) (wd_2 hw) (wd_3 hw) (wd_4 hw) (by decide) pd_0 rfl rfl rfl rfl at_9 rfl (by decide) rfl (by decide) (by decide) (by decide) allWs0 (fun T1 h1 v1 X1 K1 Q1 => ?_)
    obtain ⟨rfl, rfl⟩ := Q1
    show Runs p e below (T1.setTop (mkF m 12 #[.val (.int q1), .val (.int (0 : Int32)), .unset, .unset] [(.ref k0)])) _
    refine X1.astoreN (pc' := 13) (l' := #[.val (.int q1), .val (.int (0 : Int32)), .val (.ref k0), .unset]) at_12 rfl rfl rfl ?_
    refine X1.iloadN (pc' := 14) at_13 rfl rfl ?_
    refine X1.iconst (pc' := 15) (z := 4) at_14 rfl rfl ?_
    refine X1.icmpNo (pc' := 18) at_15 (by decide) rfl ?_
    refine X1.iloadN (pc' := 19) at_18 rfl rfl ?_
    refine X1.bipush (pc' := 21) (z := 6) at_19 rfl rfl ?_
    refine X1.icmpNo (pc' := 24) at_21 (by decide) rfl ?_
    refine X1.iloadN (pc' := 25) at_24 rfl rfl ?_
    refine X1.bipush (pc' := 27) (z := 7) at_25 rfl rfl ?_
    refine X1.icmpYes (pc' := 34) at_27 (by decide) (by decide) (by decide) ?_
    refine X1.iconst (pc' := 35) (z := 0) at_34 rfl rfl ?_
    refine X1.istoreN (pc' := 36) (l' := #[.val (.int q1), .val (.int (0 : Int32)), .val (.ref k0), .val (.int (0 : Int32))]) at_35 rfl rfl ?_
    refine X1.aloadN (pc' := 37) at_36 rfl rfl rfl ?_
    refine X1.virtual (pc' := 40) (W := 0) (a := k0) (argsL := []) (rest := []) (ct2_0 l Z a0 hw k0 k1 k2 k3 k4 k5 k6 k7 k8 k9 h0 HK0) (wd_8 hw) (wd_9 hw) (fun _ q => notFace_of_selects q) (wd_11 hw) (wd_10 hw) (wd_6 hw) (wd_12 hw) (by decide) E0 pd_1 rfl rfl rfl rfl at_37 rfl (by decide) rfl (by decide) (by decide) (by decide) allWs0 (fun T2 h2 v2 X2 K2 Q2 => ?_)
    obtain ⟨rfl, rfl⟩ := Q2
    show Runs p e below (T2.setTop (mkF m 40 #[.val (.int q1), .val (.int (0 : Int32)), .val (.ref k0), .val (.int (0 : Int32))] [(.int (0 : Int32))])) _
    refine X2.iloadN (pc' := 41) at_40 rfl rfl ?_
    refine X2.icmpNo (pc' := 44) at_41 (by decide) rfl ?_
    refine X2.iconst (pc' := 45) (z := 1) at_44 rfl rfl ?_
    refine X2.goto (pc' := 49) at_45 (by decide) (by decide) ?_
    exact X2.zreturn (z' := (1 : Int32)) rfl (by simp) at_49 rfl (by decide) (by decide) rfl
  · refine X0.istoreN (pc' := 8) (l' := #[.val (.int q1), .val (.int (1 : Int32)), .unset, .unset]) at_7 rfl rfl ?_
    refine X0.iloadN (pc' := 9) at_8 rfl rfl ?_
    refine X0.callS (pc' := 12) (W := 0) (argsL := [(.int (1 : Int32))]) (rest := []) (ct1_1 l Z a0 hw k0 k1 k2 k3 k4 k5 k6 k7 k8 k9 h0 HK0) (wd_1 hw) (wd_2 hw) (wd_3 hw) (wd_4 hw) (by decide) pd_0 rfl rfl rfl rfl at_9 rfl (by decide) rfl (by decide) (by decide) (by decide) allWs0 (fun T3 h3 v3 X3 K3 Q3 => ?_)
    obtain ⟨rfl, rfl⟩ := Q3
    show Runs p e below (T3.setTop (mkF m 12 #[.val (.int q1), .val (.int (1 : Int32)), .unset, .unset] [(.ref k1)])) _
    refine X3.astoreN (pc' := 13) (l' := #[.val (.int q1), .val (.int (1 : Int32)), .val (.ref k1), .unset]) at_12 rfl rfl rfl ?_
    refine X3.iloadN (pc' := 14) at_13 rfl rfl ?_
    refine X3.iconst (pc' := 15) (z := 4) at_14 rfl rfl ?_
    refine X3.icmpNo (pc' := 18) at_15 (by decide) rfl ?_
    refine X3.iloadN (pc' := 19) at_18 rfl rfl ?_
    refine X3.bipush (pc' := 21) (z := 6) at_19 rfl rfl ?_
    refine X3.icmpNo (pc' := 24) at_21 (by decide) rfl ?_
    refine X3.iloadN (pc' := 25) at_24 rfl rfl ?_
    refine X3.bipush (pc' := 27) (z := 7) at_25 rfl rfl ?_
    refine X3.icmpYes (pc' := 34) at_27 (by decide) (by decide) (by decide) ?_
    refine X3.iconst (pc' := 35) (z := 0) at_34 rfl rfl ?_
    refine X3.istoreN (pc' := 36) (l' := #[.val (.int q1), .val (.int (1 : Int32)), .val (.ref k1), .val (.int (0 : Int32))]) at_35 rfl rfl ?_
    refine X3.aloadN (pc' := 37) at_36 rfl rfl rfl ?_
    refine X3.virtual (pc' := 40) (W := 0) (a := k1) (argsL := []) (rest := []) (ct2_1 l Z a0 hw k0 k1 k2 k3 k4 k5 k6 k7 k8 k9 h0 HK0) (wd_8 hw) (wd_9 hw) (fun _ q => notFace_of_selects q) (wd_11 hw) (wd_10 hw) (wd_6 hw) (wd_12 hw) (by decide) E1 pd_1 rfl rfl rfl rfl at_37 rfl (by decide) rfl (by decide) (by decide) (by decide) allWs0 (fun T4 h4 v4 X4 K4 Q4 => ?_)
    obtain ⟨rfl, rfl⟩ := Q4
    show Runs p e below (T4.setTop (mkF m 40 #[.val (.int q1), .val (.int (1 : Int32)), .val (.ref k1), .val (.int (0 : Int32))] [(.int (0 : Int32))])) _
    refine X4.iloadN (pc' := 41) at_40 rfl rfl ?_
    refine X4.icmpNo (pc' := 44) at_41 (by decide) rfl ?_
    refine X4.iconst (pc' := 45) (z := 1) at_44 rfl rfl ?_
    refine X4.goto (pc' := 49) at_45 (by decide) (by decide) ?_
    exact X4.zreturn (z' := (1 : Int32)) rfl (by simp) at_49 rfl (by decide) (by decide) rfl
  · refine X0.istoreN (pc' := 8) (l' := #[.val (.int q1), .val (.int (2 : Int32)), .unset, .unset]) at_7 rfl rfl ?_
    refine X0.iloadN (pc' := 9) at_8 rfl rfl ?_
    refine X0.callS (pc' := 12) (W := 0) (argsL := [(.int (2 : Int32))]) (rest := []) (ct1_2 l Z a0 hw k0 k1 k2 k3 k4 k5 k6 k7 k8 k9 h0 HK0) (wd_1 hw) (wd_2 hw) (wd_3 hw) (wd_4 hw) (by decide) pd_0 rfl rfl rfl rfl at_9 rfl (by decide) rfl (by decide) (by decide) (by decide) allWs0 (fun T5 h5 v5 X5 K5 Q5 => ?_)
    obtain ⟨rfl, rfl⟩ := Q5
    show Runs p e below (T5.setTop (mkF m 12 #[.val (.int q1), .val (.int (2 : Int32)), .unset, .unset] [(.ref k2)])) _
    refine X5.astoreN (pc' := 13) (l' := #[.val (.int q1), .val (.int (2 : Int32)), .val (.ref k2), .unset]) at_12 rfl rfl rfl ?_
    refine X5.iloadN (pc' := 14) at_13 rfl rfl ?_
    refine X5.iconst (pc' := 15) (z := 4) at_14 rfl rfl ?_
    refine X5.icmpNo (pc' := 18) at_15 (by decide) rfl ?_
    refine X5.iloadN (pc' := 19) at_18 rfl rfl ?_
    refine X5.bipush (pc' := 21) (z := 6) at_19 rfl rfl ?_
    refine X5.icmpNo (pc' := 24) at_21 (by decide) rfl ?_
    refine X5.iloadN (pc' := 25) at_24 rfl rfl ?_
    refine X5.bipush (pc' := 27) (z := 7) at_25 rfl rfl ?_
    refine X5.icmpYes (pc' := 34) at_27 (by decide) (by decide) (by decide) ?_
    refine X5.iconst (pc' := 35) (z := 0) at_34 rfl rfl ?_
    refine X5.istoreN (pc' := 36) (l' := #[.val (.int q1), .val (.int (2 : Int32)), .val (.ref k2), .val (.int (0 : Int32))]) at_35 rfl rfl ?_
    refine X5.aloadN (pc' := 37) at_36 rfl rfl rfl ?_
    refine X5.virtual (pc' := 40) (W := 0) (a := k2) (argsL := []) (rest := []) (ct2_2 l Z a0 hw k0 k1 k2 k3 k4 k5 k6 k7 k8 k9 h0 HK0) (wd_8 hw) (wd_9 hw) (fun _ q => notFace_of_selects q) (wd_11 hw) (wd_10 hw) (wd_6 hw) (wd_12 hw) (by decide) E2 pd_1 rfl rfl rfl rfl at_37 rfl (by decide) rfl (by decide) (by decide) (by decide) allWs0 (fun T6 h6 v6 X6 K6 Q6 => ?_)
    obtain ⟨rfl, rfl⟩ := Q6
    show Runs p e below (T6.setTop (mkF m 40 #[.val (.int q1), .val (.int (2 : Int32)), .val (.ref k2), .val (.int (0 : Int32))] [(.int (0 : Int32))])) _
    refine X6.iloadN (pc' := 41) at_40 rfl rfl ?_
    refine X6.icmpNo (pc' := 44) at_41 (by decide) rfl ?_
    refine X6.iconst (pc' := 45) (z := 1) at_44 rfl rfl ?_
    refine X6.goto (pc' := 49) at_45 (by decide) (by decide) ?_
    exact X6.zreturn (z' := (1 : Int32)) rfl (by simp) at_49 rfl (by decide) (by decide) rfl
  · refine X0.istoreN (pc' := 8) (l' := #[.val (.int q1), .val (.int (3 : Int32)), .unset, .unset]) at_7 rfl rfl ?_
    refine X0.iloadN (pc' := 9) at_8 rfl rfl ?_
    refine X0.callS (pc' := 12) (W := 0) (argsL := [(.int (3 : Int32))]) (rest := []) (ct1_3 l Z a0 hw k0 k1 k2 k3 k4 k5 k6 k7 k8 k9 h0 HK0) (wd_1 hw) (wd_2 hw) (wd_3 hw) (wd_4 hw) (by decide) pd_0 rfl rfl rfl rfl at_9 rfl (by decide) rfl (by decide) (by decide) (by decide) allWs0 (fun T7 h7 v7 X7 K7 Q7 => ?_)
    obtain ⟨rfl, rfl⟩ := Q7
    show Runs p e below (T7.setTop (mkF m 12 #[.val (.int q1), .val (.int (3 : Int32)), .unset, .unset] [(.ref k3)])) _
    refine X7.astoreN (pc' := 13) (l' := #[.val (.int q1), .val (.int (3 : Int32)), .val (.ref k3), .unset]) at_12 rfl rfl rfl ?_
    refine X7.iloadN (pc' := 14) at_13 rfl rfl ?_
    refine X7.iconst (pc' := 15) (z := 4) at_14 rfl rfl ?_
    refine X7.icmpNo (pc' := 18) at_15 (by decide) rfl ?_
    refine X7.iloadN (pc' := 19) at_18 rfl rfl ?_
    refine X7.bipush (pc' := 21) (z := 6) at_19 rfl rfl ?_
    refine X7.icmpNo (pc' := 24) at_21 (by decide) rfl ?_
    refine X7.iloadN (pc' := 25) at_24 rfl rfl ?_
    refine X7.bipush (pc' := 27) (z := 7) at_25 rfl rfl ?_
    refine X7.icmpYes (pc' := 34) at_27 (by decide) (by decide) (by decide) ?_
    refine X7.iconst (pc' := 35) (z := 0) at_34 rfl rfl ?_
    refine X7.istoreN (pc' := 36) (l' := #[.val (.int q1), .val (.int (3 : Int32)), .val (.ref k3), .val (.int (0 : Int32))]) at_35 rfl rfl ?_
    refine X7.aloadN (pc' := 37) at_36 rfl rfl rfl ?_
    refine X7.virtual (pc' := 40) (W := 0) (a := k3) (argsL := []) (rest := []) (ct2_3 l Z a0 hw k0 k1 k2 k3 k4 k5 k6 k7 k8 k9 h0 HK0) (wd_8 hw) (wd_9 hw) (fun _ q => notFace_of_selects q) (wd_11 hw) (wd_10 hw) (wd_6 hw) (wd_12 hw) (by decide) E3 pd_1 rfl rfl rfl rfl at_37 rfl (by decide) rfl (by decide) (by decide) (by decide) allWs0 (fun T8 h8 v8 X8 K8 Q8 => ?_)
    obtain ⟨rfl, rfl⟩ := Q8
    show Runs p e below (T8.setTop (mkF m 40 #[.val (.int q1), .val (.int (3 : Int32)), .val (.ref k3), .val (.int (0 : Int32))] [(.int (0 : Int32))])) _
    refine X8.iloadN (pc' := 41) at_40 rfl rfl ?_
    refine X8.icmpNo (pc' := 44) at_41 (by decide) rfl ?_
    refine X8.iconst (pc' := 45) (z := 1) at_44 rfl rfl ?_
    refine X8.goto (pc' := 49) at_45 (by decide) (by decide) ?_
    exact X8.zreturn (z' := (1 : Int32)) rfl (by simp) at_49 rfl (by decide) (by decide) rfl
  · refine X0.istoreN (pc' := 8) (l' := #[.val (.int q1), .val (.int (4 : Int32)), .unset, .unset]) at_7 rfl rfl ?_
    refine X0.iloadN (pc' := 9) at_8 rfl rfl ?_
    refine X0.callS (pc' := 12) (W := 0) (argsL := [(.int (4 : Int32))]) (rest := []) (ct1_4 l Z a0 hw k0 k1 k2 k3 k4 k5 k6 k7 k8 k9 h0 HK0) (wd_1 hw) (wd_2 hw) (wd_3 hw) (wd_4 hw) (by decide) pd_0 rfl rfl rfl rfl at_9 rfl (by decide) rfl (by decide) (by decide) (by decide) allWs0 (fun T9 h9 v9 X9 K9 Q9 => ?_)
    obtain ⟨rfl, rfl⟩ := Q9
    show Runs p e below (T9.setTop (mkF m 12 #[.val (.int q1), .val (.int (4 : Int32)), .unset, .unset] [(.ref k4)])) _
    refine X9.astoreN (pc' := 13) (l' := #[.val (.int q1), .val (.int (4 : Int32)), .val (.ref k4), .unset]) at_12 rfl rfl rfl ?_
    refine X9.iloadN (pc' := 14) at_13 rfl rfl ?_
    refine X9.iconst (pc' := 15) (z := 4) at_14 rfl rfl ?_
    refine X9.icmpYes (pc' := 30) at_15 (by decide) (by decide) (by decide) ?_
    refine X9.iconst (pc' := 31) (z := 1) at_30 rfl rfl ?_
    refine X9.goto (pc' := 35) at_31 (by decide) (by decide) ?_
    refine X9.istoreN (pc' := 36) (l' := #[.val (.int q1), .val (.int (4 : Int32)), .val (.ref k4), .val (.int (1 : Int32))]) at_35 rfl rfl ?_
    refine X9.aloadN (pc' := 37) at_36 rfl rfl rfl ?_
    refine X9.virtual (pc' := 40) (W := 0) (a := k4) (argsL := []) (rest := []) (ct2_4 l Z a0 hw k0 k1 k2 k3 k4 k5 k6 k7 k8 k9 h0 HK0) (wd_8 hw) (wd_9 hw) (fun _ q => notFace_of_selects q) (wd_11 hw) (wd_10 hw) (wd_6 hw) (wd_12 hw) (by decide) E4 pd_1 rfl rfl rfl rfl at_37 rfl (by decide) rfl (by decide) (by decide) (by decide) allWs0 (fun T10 h10 v10 X10 K10 Q10 => ?_)
    obtain ⟨rfl, rfl⟩ := Q10
    show Runs p e below (T10.setTop (mkF m 40 #[.val (.int q1), .val (.int (4 : Int32)), .val (.ref k4), .val (.int (1 : Int32))] [(.int (1 : Int32))])) _
    refine X10.iloadN (pc' := 41) at_40 rfl rfl ?_
    refine X10.icmpNo (pc' := 44) at_41 (by decide) rfl ?_
    refine X10.iconst (pc' := 45) (z := 1) at_44 rfl rfl ?_
    refine X10.goto (pc' := 49) at_45 (by decide) (by decide) ?_
    exact X10.zreturn (z' := (1 : Int32)) rfl (by simp) at_49 rfl (by decide) (by decide) rfl
  · refine X0.istoreN (pc' := 8) (l' := #[.val (.int q1), .val (.int (5 : Int32)), .unset, .unset]) at_7 rfl rfl ?_
    refine X0.iloadN (pc' := 9) at_8 rfl rfl ?_
    refine X0.callS (pc' := 12) (W := 0) (argsL := [(.int (5 : Int32))]) (rest := []) (ct1_5 l Z a0 hw k0 k1 k2 k3 k4 k5 k6 k7 k8 k9 h0 HK0) (wd_1 hw) (wd_2 hw) (wd_3 hw) (wd_4 hw) (by decide) pd_0 rfl rfl rfl rfl at_9 rfl (by decide) rfl (by decide) (by decide) (by decide) allWs0 (fun T11 h11 v11 X11 K11 Q11 => ?_)
    obtain ⟨rfl, rfl⟩ := Q11
    show Runs p e below (T11.setTop (mkF m 12 #[.val (.int q1), .val (.int (5 : Int32)), .unset, .unset] [(.ref k5)])) _
    refine X11.astoreN (pc' := 13) (l' := #[.val (.int q1), .val (.int (5 : Int32)), .val (.ref k5), .unset]) at_12 rfl rfl rfl ?_
    refine X11.iloadN (pc' := 14) at_13 rfl rfl ?_
    refine X11.iconst (pc' := 15) (z := 4) at_14 rfl rfl ?_
    refine X11.icmpNo (pc' := 18) at_15 (by decide) rfl ?_
    refine X11.iloadN (pc' := 19) at_18 rfl rfl ?_
    refine X11.bipush (pc' := 21) (z := 6) at_19 rfl rfl ?_
    refine X11.icmpNo (pc' := 24) at_21 (by decide) rfl ?_
    refine X11.iloadN (pc' := 25) at_24 rfl rfl ?_
    refine X11.bipush (pc' := 27) (z := 7) at_25 rfl rfl ?_
    refine X11.icmpYes (pc' := 34) at_27 (by decide) (by decide) (by decide) ?_
    refine X11.iconst (pc' := 35) (z := 0) at_34 rfl rfl ?_
    refine X11.istoreN (pc' := 36) (l' := #[.val (.int q1), .val (.int (5 : Int32)), .val (.ref k5), .val (.int (0 : Int32))]) at_35 rfl rfl ?_
    refine X11.aloadN (pc' := 37) at_36 rfl rfl rfl ?_
    refine X11.virtual (pc' := 40) (W := 0) (a := k5) (argsL := []) (rest := []) (ct2_5 l Z a0 hw k0 k1 k2 k3 k4 k5 k6 k7 k8 k9 h0 HK0) (wd_8 hw) (wd_9 hw) (fun _ q => notFace_of_selects q) (wd_11 hw) (wd_10 hw) (wd_6 hw) (wd_12 hw) (by decide) E5 pd_1 rfl rfl rfl rfl at_37 rfl (by decide) rfl (by decide) (by decide) (by decide) allWs0 (fun T12 h12 v12 X12 K12 Q12 => ?_)
    obtain ⟨rfl, rfl⟩ := Q12
    show Runs p e below (T12.setTop (mkF m 40 #[.val (.int q1), .val (.int (5 : Int32)), .val (.ref k5), .val (.int (0 : Int32))] [(.int (0 : Int32))])) _
    refine X12.iloadN (pc' := 41) at_40 rfl rfl ?_
    refine X12.icmpNo (pc' := 44) at_41 (by decide) rfl ?_
    refine X12.iconst (pc' := 45) (z := 1) at_44 rfl rfl ?_
    refine X12.goto (pc' := 49) at_45 (by decide) (by decide) ?_
    exact X12.zreturn (z' := (1 : Int32)) rfl (by simp) at_49 rfl (by decide) (by decide) rfl
  · refine X0.istoreN (pc' := 8) (l' := #[.val (.int q1), .val (.int (6 : Int32)), .unset, .unset]) at_7 rfl rfl ?_
    refine X0.iloadN (pc' := 9) at_8 rfl rfl ?_
    refine X0.callS (pc' := 12) (W := 0) (argsL := [(.int (6 : Int32))]) (rest := []) (ct1_6 l Z a0 hw k0 k1 k2 k3 k4 k5 k6 k7 k8 k9 h0 HK0) (wd_1 hw) (wd_2 hw) (wd_3 hw) (wd_4 hw) (by decide) pd_0 rfl rfl rfl rfl at_9 rfl (by decide) rfl (by decide) (by decide) (by decide) allWs0 (fun T13 h13 v13 X13 K13 Q13 => ?_)
    obtain ⟨rfl, rfl⟩ := Q13
    show Runs p e below (T13.setTop (mkF m 12 #[.val (.int q1), .val (.int (6 : Int32)), .unset, .unset] [(.ref k6)])) _
    refine X13.astoreN (pc' := 13) (l' := #[.val (.int q1), .val (.int (6 : Int32)), .val (.ref k6), .unset]) at_12 rfl rfl rfl ?_
    refine X13.iloadN (pc' := 14) at_13 rfl rfl ?_
    refine X13.iconst (pc' := 15) (z := 4) at_14 rfl rfl ?_
    refine X13.icmpNo (pc' := 18) at_15 (by decide) rfl ?_
    refine X13.iloadN (pc' := 19) at_18 rfl rfl ?_
    refine X13.bipush (pc' := 21) (z := 6) at_19 rfl rfl ?_
    refine X13.icmpYes (pc' := 30) at_21 (by decide) (by decide) (by decide) ?_
    refine X13.iconst (pc' := 31) (z := 1) at_30 rfl rfl ?_
    refine X13.goto (pc' := 35) at_31 (by decide) (by decide) ?_
    refine X13.istoreN (pc' := 36) (l' := #[.val (.int q1), .val (.int (6 : Int32)), .val (.ref k6), .val (.int (1 : Int32))]) at_35 rfl rfl ?_
    refine X13.aloadN (pc' := 37) at_36 rfl rfl rfl ?_
    refine X13.virtual (pc' := 40) (W := 0) (a := k6) (argsL := []) (rest := []) (ct2_6 l Z a0 hw k0 k1 k2 k3 k4 k5 k6 k7 k8 k9 h0 HK0) (wd_8 hw) (wd_9 hw) (fun _ q => notFace_of_selects q) (wd_11 hw) (wd_10 hw) (wd_6 hw) (wd_12 hw) (by decide) E6 pd_1 rfl rfl rfl rfl at_37 rfl (by decide) rfl (by decide) (by decide) (by decide) allWs0 (fun T14 h14 v14 X14 K14 Q14 => ?_)
    obtain ⟨rfl, rfl⟩ := Q14
    show Runs p e below (T14.setTop (mkF m 40 #[.val (.int q1), .val (.int (6 : Int32)), .val (.ref k6), .val (.int (1 : Int32))] [(.int (1 : Int32))])) _
    refine X14.iloadN (pc' := 41) at_40 rfl rfl ?_
    refine X14.icmpNo (pc' := 44) at_41 (by decide) rfl ?_
    refine X14.iconst (pc' := 45) (z := 1) at_44 rfl rfl ?_
    refine X14.goto (pc' := 49) at_45 (by decide) (by decide) ?_
    exact X14.zreturn (z' := (1 : Int32)) rfl (by simp) at_49 rfl (by decide) (by decide) rfl
  · refine X0.istoreN (pc' := 8) (l' := #[.val (.int q1), .val (.int (7 : Int32)), .unset, .unset]) at_7 rfl rfl ?_
    refine X0.iloadN (pc' := 9) at_8 rfl rfl ?_
    refine X0.callS (pc' := 12) (W := 0) (argsL := [(.int (7 : Int32))]) (rest := []) (ct1_7 l Z a0 hw k0 k1 k2 k3 k4 k5 k6 k7 k8 k9 h0 HK0) (wd_1 hw) (wd_2 hw) (wd_3 hw) (wd_4 hw) (by decide) pd_0 rfl rfl rfl rfl at_9 rfl (by decide) rfl (by decide) (by decide) (by decide) allWs0 (fun T15 h15 v15 X15 K15 Q15 => ?_)
    obtain ⟨rfl, rfl⟩ := Q15
    show Runs p e below (T15.setTop (mkF m 12 #[.val (.int q1), .val (.int (7 : Int32)), .unset, .unset] [(.ref k7)])) _
    refine X15.astoreN (pc' := 13) (l' := #[.val (.int q1), .val (.int (7 : Int32)), .val (.ref k7), .unset]) at_12 rfl rfl rfl ?_
    refine X15.iloadN (pc' := 14) at_13 rfl rfl ?_
    refine X15.iconst (pc' := 15) (z := 4) at_14 rfl rfl ?_
    refine X15.icmpNo (pc' := 18) at_15 (by decide) rfl ?_
    refine X15.iloadN (pc' := 19) at_18 rfl rfl ?_
    refine X15.bipush (pc' := 21) (z := 6) at_19 rfl rfl ?_
    refine X15.icmpNo (pc' := 24) at_21 (by decide) rfl ?_
    refine X15.iloadN (pc' := 25) at_24 rfl rfl ?_
    refine X15.bipush (pc' := 27) (z := 7) at_25 rfl rfl ?_
    refine X15.icmpNo (pc' := 30) at_27 (by decide) rfl ?_
    refine X15.iconst (pc' := 31) (z := 1) at_30 rfl rfl ?_
    refine X15.goto (pc' := 35) at_31 (by decide) (by decide) ?_
    refine X15.istoreN (pc' := 36) (l' := #[.val (.int q1), .val (.int (7 : Int32)), .val (.ref k7), .val (.int (1 : Int32))]) at_35 rfl rfl ?_
    refine X15.aloadN (pc' := 37) at_36 rfl rfl rfl ?_
    refine X15.virtual (pc' := 40) (W := 0) (a := k7) (argsL := []) (rest := []) (ct2_7 l Z a0 hw k0 k1 k2 k3 k4 k5 k6 k7 k8 k9 h0 HK0) (wd_8 hw) (wd_9 hw) (fun _ q => notFace_of_selects q) (wd_11 hw) (wd_10 hw) (wd_6 hw) (wd_12 hw) (by decide) E7 pd_1 rfl rfl rfl rfl at_37 rfl (by decide) rfl (by decide) (by decide) (by decide) allWs0 (fun T16 h16 v16 X16 K16 Q16 => ?_)
    obtain ⟨rfl, rfl⟩ := Q16
    show Runs p e below (T16.setTop (mkF m 40 #[.val (.int q1), .val (.int (7 : Int32)), .val (.ref k7), .val (.int (1 : Int32))] [(.int (1 : Int32))])) _
    refine X16.iloadN (pc' := 41) at_40 rfl rfl ?_
    refine X16.icmpNo (pc' := 44) at_41 (by decide) rfl ?_
    refine X16.iconst (pc' := 45) (z := 1) at_44 rfl rfl ?_
    refine X16.goto (pc' := 49) at_45 (by decide) (by decide) ?_
    exact X16.zreturn (z' := (1 : Int32)) rfl (by simp) at_49 rfl (by decide) (by decide) rfl
  · refine X0.istoreN (pc' := 8) (l' := #[.val (.int q1), .val (.int (8 : Int32)), .unset, .unset]) at_7 rfl rfl ?_
    refine X0.iloadN (pc' := 9) at_8 rfl rfl ?_
    refine X0.callS (pc' := 12) (W := 0) (argsL := [(.int (8 : Int32))]) (rest := []) (ct1_8 l Z a0 hw k0 k1 k2 k3 k4 k5 k6 k7 k8 k9 h0 HK0) (wd_1 hw) (wd_2 hw) (wd_3 hw) (wd_4 hw) (by decide) pd_0 rfl rfl rfl rfl at_9 rfl (by decide) rfl (by decide) (by decide) (by decide) allWs0 (fun T17 h17 v17 X17 K17 Q17 => ?_)
    obtain ⟨rfl, rfl⟩ := Q17
    show Runs p e below (T17.setTop (mkF m 12 #[.val (.int q1), .val (.int (8 : Int32)), .unset, .unset] [(.ref k8)])) _
    refine X17.astoreN (pc' := 13) (l' := #[.val (.int q1), .val (.int (8 : Int32)), .val (.ref k8), .unset]) at_12 rfl rfl rfl ?_
    refine X17.iloadN (pc' := 14) at_13 rfl rfl ?_
    refine X17.iconst (pc' := 15) (z := 4) at_14 rfl rfl ?_
    refine X17.icmpNo (pc' := 18) at_15 (by decide) rfl ?_
    refine X17.iloadN (pc' := 19) at_18 rfl rfl ?_
    refine X17.bipush (pc' := 21) (z := 6) at_19 rfl rfl ?_
    refine X17.icmpNo (pc' := 24) at_21 (by decide) rfl ?_
    refine X17.iloadN (pc' := 25) at_24 rfl rfl ?_
    refine X17.bipush (pc' := 27) (z := 7) at_25 rfl rfl ?_
    refine X17.icmpYes (pc' := 34) at_27 (by decide) (by decide) (by decide) ?_
    refine X17.iconst (pc' := 35) (z := 0) at_34 rfl rfl ?_
    refine X17.istoreN (pc' := 36) (l' := #[.val (.int q1), .val (.int (8 : Int32)), .val (.ref k8), .val (.int (0 : Int32))]) at_35 rfl rfl ?_
    refine X17.aloadN (pc' := 37) at_36 rfl rfl rfl ?_
    refine X17.virtual (pc' := 40) (W := 0) (a := k8) (argsL := []) (rest := []) (ct2_8 l Z a0 hw k0 k1 k2 k3 k4 k5 k6 k7 k8 k9 h0 HK0) (wd_8 hw) (wd_9 hw) (fun _ q => notFace_of_selects q) (wd_11 hw) (wd_10 hw) (wd_6 hw) (wd_12 hw) (by decide) E8 pd_1 rfl rfl rfl rfl at_37 rfl (by decide) rfl (by decide) (by decide) (by decide) allWs0 (fun T18 h18 v18 X18 K18 Q18 => ?_)
    obtain ⟨rfl, rfl⟩ := Q18
    show Runs p e below (T18.setTop (mkF m 40 #[.val (.int q1), .val (.int (8 : Int32)), .val (.ref k8), .val (.int (0 : Int32))] [(.int (0 : Int32))])) _
    refine X18.iloadN (pc' := 41) at_40 rfl rfl ?_
    refine X18.icmpNo (pc' := 44) at_41 (by decide) rfl ?_
    refine X18.iconst (pc' := 45) (z := 1) at_44 rfl rfl ?_
    refine X18.goto (pc' := 49) at_45 (by decide) (by decide) ?_
    exact X18.zreturn (z' := (1 : Int32)) rfl (by simp) at_49 rfl (by decide) (by decide) rfl
  · refine X0.istoreN (pc' := 8) (l' := #[.val (.int q1), .val (.int (9 : Int32)), .unset, .unset]) at_7 rfl rfl ?_
    refine X0.iloadN (pc' := 9) at_8 rfl rfl ?_
    refine X0.callS (pc' := 12) (W := 0) (argsL := [(.int (9 : Int32))]) (rest := []) (ct1_9 l Z a0 hw k0 k1 k2 k3 k4 k5 k6 k7 k8 k9 h0 HK0) (wd_1 hw) (wd_2 hw) (wd_3 hw) (wd_4 hw) (by decide) pd_0 rfl rfl rfl rfl at_9 rfl (by decide) rfl (by decide) (by decide) (by decide) allWs0 (fun T19 h19 v19 X19 K19 Q19 => ?_)
    obtain ⟨rfl, rfl⟩ := Q19
    show Runs p e below (T19.setTop (mkF m 12 #[.val (.int q1), .val (.int (9 : Int32)), .unset, .unset] [(.ref k9)])) _
    refine X19.astoreN (pc' := 13) (l' := #[.val (.int q1), .val (.int (9 : Int32)), .val (.ref k9), .unset]) at_12 rfl rfl rfl ?_
    refine X19.iloadN (pc' := 14) at_13 rfl rfl ?_
    refine X19.iconst (pc' := 15) (z := 4) at_14 rfl rfl ?_
    refine X19.icmpNo (pc' := 18) at_15 (by decide) rfl ?_
    refine X19.iloadN (pc' := 19) at_18 rfl rfl ?_
    refine X19.bipush (pc' := 21) (z := 6) at_19 rfl rfl ?_
    refine X19.icmpNo (pc' := 24) at_21 (by decide) rfl ?_
    refine X19.iloadN (pc' := 25) at_24 rfl rfl ?_
    refine X19.bipush (pc' := 27) (z := 7) at_25 rfl rfl ?_
    refine X19.icmpYes (pc' := 34) at_27 (by decide) (by decide) (by decide) ?_
    refine X19.iconst (pc' := 35) (z := 0) at_34 rfl rfl ?_
    refine X19.istoreN (pc' := 36) (l' := #[.val (.int q1), .val (.int (9 : Int32)), .val (.ref k9), .val (.int (0 : Int32))]) at_35 rfl rfl ?_
    refine X19.aloadN (pc' := 37) at_36 rfl rfl rfl ?_
    refine X19.virtual (pc' := 40) (W := 0) (a := k9) (argsL := []) (rest := []) (ct2_9 l Z a0 hw k0 k1 k2 k3 k4 k5 k6 k7 k8 k9 h0 HK0) (wd_8 hw) (wd_9 hw) (fun _ q => notFace_of_selects q) (wd_11 hw) (wd_10 hw) (wd_6 hw) (wd_12 hw) (by decide) E9 pd_1 rfl rfl rfl rfl at_37 rfl (by decide) rfl (by decide) (by decide) (by decide) allWs0 (fun T20 h20 v20 X20 K20 Q20 => ?_)
    obtain ⟨rfl, rfl⟩ := Q20
    show Runs p e below (T20.setTop (mkF m 40 #[.val (.int q1), .val (.int (9 : Int32)), .val (.ref k9), .val (.int (0 : Int32))] [(.int (0 : Int32))])) _
    refine X20.iloadN (pc' := 41) at_40 rfl rfl ?_
    refine X20.icmpNo (pc' := 44) at_41 (by decide) rfl ?_
    refine X20.iconst (pc' := 45) (z := 1) at_44 rfl rfl ?_
    refine X20.goto (pc' := 49) at_45 (by decide) (by decide) ?_
    exact X20.zreturn (z' := (1 : Int32)) rfl (by simp) at_49 rfl (by decide) (by decide) rfl
set_option maxRecDepth 65536 in
set_option maxHeartbeats 40000000 in
theorem comes_1 {Post : Tables → Env → Array Value → State → Outcome → State → Prop} (hpost : ∀ tb e args s v u, (limb_1_1.after args s (.returned v) u = true ∧ limb_1_2.after args s (.returned v) u = true ∧ True) → FrameEnd s (.returned v) u (Jvm.fieldLocs frame_1_writes args s ++ Jvm.arrayLocs frame_1_arrays args s ++ Jvm.staticLocs frame_1_statics s) 0 0 → Post tb e args s (.returned v) u) :
    ArmFor flags0 classFile x code maxLocals ret World_1 tables_1 room_1 Calls_1 rest_1 Pre_1 Post := by
  intro l hfl _ _ p e ha hc hk s m args below hf hA hF happ hP
  obtain ⟨hcalls, hrest, hpre⟩ := hP
  obtain ⟨-, -, -, hnamed, -, -, -, hat⟩ := (Spec.applies_iff hf).mp happ
  obtain ⟨hg, hn⟩ := and_e (Cond.before_iff.mp (show (Jvm.Cond.and given_1 narrow_1).before args s = true from hpre))
  obtain ⟨g1, g2⟩ := and_e hg
  obtain ⟨w0, rfl⟩ : ∃ w0 : Value, args = #[w0] := by
    have hs : args.size = 1 := by simpa [Cond.value, given_1] using g1
    obtain ⟨L⟩ := args
    match L, hs with
    | [w0], _ => exact ⟨w0, rfl⟩
  have hw := fun d (hd : d ∈ tables_1) => atoms_spec (ws := Jvm.Cond.code x code maxLocals ret :: tables_1) hat d (List.mem_cons_of_mem _ hd)
  obtain ⟨n1a, n1b⟩ := and_e hn
  obtain ⟨n2a, n2b⟩ := and_e n1b
  obtain ⟨n3a, n3b⟩ := and_e n2b
  obtain ⟨n4a, n4b⟩ := and_e n3b
  obtain ⟨n5a, n5b⟩ := and_e n4b
  obtain ⟨n6a, n6b⟩ := and_e n5b
  obtain ⟨n7a, n7b⟩ := and_e n6b
  obtain ⟨n8a, n8b⟩ := and_e n7b
  obtain ⟨n9a, n9b⟩ := and_e n8b
  obtain ⟨n10a, n10b⟩ := and_e n9b
  obtain ⟨n11a, n11b⟩ := and_e n10b
  obtain ⟨n12a, n12b⟩ := and_e n11b
  obtain ⟨n13a, n13b⟩ := and_e n12b
  obtain ⟨n14a, n14b⟩ := and_e n13b
  obtain ⟨n15a, n15b⟩ := and_e n14b
  obtain ⟨n16a, n16b⟩ := and_e n15b
  obtain ⟨n17a, n17b⟩ := and_e n16b
  obtain ⟨n18a, n18b⟩ := and_e n17b
  obtain ⟨n19a, n19b⟩ := and_e n18b
  obtain ⟨k0, v0, E0⟩ := own_ex n1a
  have F0 := own_fl v0 n3a
  have S0 := Sta.start v0 (Or.inr ⟨(wd_6 hw), (wd_7 hw)⟩)
  obtain ⟨k1, v1, E1⟩ := own_ex n11a
  have F1 := own_fl v1 n12a
  have S1 := Sta.start v1 (Or.inr ⟨(wd_6 hw), (wd_22 hw)⟩)
  obtain ⟨k2, v2, E2⟩ := own_ex n13a
  have F2 := own_fl v2 n14a
  have S2 := Sta.start v2 (Or.inr ⟨(wd_6 hw), (wd_26 hw)⟩)
  obtain ⟨k3, v3, E3⟩ := own_ex n9a
  have F3 := own_fl v3 n10a
  have S3 := Sta.start v3 (Or.inr ⟨(wd_6 hw), (wd_20 hw)⟩)
  obtain ⟨k4, v4, E4⟩ := own_ex n2a
  have F4 := own_fl v4 n4a
  have S4 := Sta.start v4 (Or.inr ⟨(wd_6 hw), (wd_14 hw)⟩)
  obtain ⟨k5, v5, E5⟩ := own_ex n19a
  have F5 := own_fl v5 n19b
  have S5 := Sta.start v5 (Or.inr ⟨(wd_6 hw), (wd_32 hw)⟩)
  obtain ⟨k6, v6, E6⟩ := own_ex n5a
  have F6 := own_fl v6 n6a
  have S6 := Sta.start v6 (Or.inr ⟨(wd_6 hw), (wd_16 hw)⟩)
  obtain ⟨k7, v7, E7⟩ := own_ex n7a
  have F7 := own_fl v7 n8a
  have S7 := Sta.start v7 (Or.inr ⟨(wd_6 hw), (wd_18 hw)⟩)
  obtain ⟨k8, v8, E8⟩ := own_ex n15a
  have F8 := own_fl v8 n16a
  have S8 := Sta.start v8 (Or.inr ⟨(wd_6 hw), (wd_28 hw)⟩)
  obtain ⟨k9, v9, E9⟩ := own_ex n17a
  have F9 := own_fl v9 n18a
  have S9 := Sta.start v9 (Or.inr ⟨(wd_6 hw), (wd_30 hw)⟩)
  obtain ⟨i0, ei0⟩ := is_v g2
  obtain rfl : w0 = (.int i0) := Option.some.inj ei0
  obtain ⟨n, o, h1, h2, h3, _, L, rfl, ⟨rfl, -, N⟩, hq⟩ := ct0 l s _ hw i0 k0 k1 k2 k3 k4 k5 k6 k7 k8 k9 s.heap ⟨⟨S0, E0, F0⟩, ⟨S1, E1, F1⟩, ⟨S2, E2, F2⟩, ⟨S3, E3, F3⟩, ⟨S4, E4, F4⟩, ⟨S5, E5, F5⟩, ⟨S6, E6, F6⟩, ⟨S7, E7, F7⟩, ⟨S8, E8, F8⟩, ⟨S9, E9, F9⟩⟩ tables_1 p e ha hc hk s m _ below hf ((Spec.applies_iff_loose hf).mp happ).1 ⟨rfl, State.Warmed39.refl s, rfl⟩ trivial
  refine ⟨n, _, h1, h2, h3, hpost _ _ _ _ _ _ ⟨Cond.after_iff.mpr rfl, Cond.after_iff.mpr (eq_i res_at (Term.int_eval (1)) rfl), trivial⟩ ⟨hq.1, hq.2.1, (hq.2.2.sift fun y hy => Or.inr ((N y hy).elim (fun z => nomatch z) id)).mono (by decide) (by decide)⟩⟩
theorem main_1_1 : Claimed_1_1 := comes_1 fun _ _ _ _ _ _ h hF => ⟨h.1, hF⟩
theorem main_1_2 : Claimed_1_2 := comes_1 fun _ _ _ _ _ _ h hF => ⟨h.2.1, hF⟩
end Jvm.Pilot.@@N@@
namespace Jvm.Pilot.@@N@@
open Jvm Jvm.ClassFile Sem Op Lib Jvm.Free Jvm.Stand Jvm.Pilot.@@N@@.Jvm.D
/-! MADE BY PROGRAM (witnessworld.py) out of the Statement's table words and the real class files: 12 classes; the members and pool entries that the words name. The judged class is class 1, her method 2. -/
namespace start1
open Jvm.ClassFile
def u (s : String) : CpInfo := .utf8 (stringToUtf16 s)
/-- a pool by its gaps: so many unusable entries, then the entry; so many at the end -/
def gap : Nat → List CpInfo → List CpInfo
  | 0, r => r
  | n + 1, r => .unusable :: gap n r
def poolList (es : List (Nat × CpInfo)) (last : Nat) : List CpInfo := es.foldr (fun e r => gap e.1 (e.2 :: r)) (gap last [])
def pool (es : List (Nat × CpInfo)) (last : Nat) : Array CpInfo := ⟨poolList es last⟩
def fileOf (pool : Array CpInfo) (this : Nat) (attrs : Array Attribute := #[]) (ms : Array MethodInfo := #[]) (fl : Nat := 33) (sup : Nat := 0) (ifs : Array Nat := #[]) (fds : Array FieldInfo := #[]) : ClassFile where
  minorVersion := 0
  majorVersion := 65
  constantPool := pool
  accessFlags := fl
  thisClass := this
  superClass := sup
  interfaces := ifs
  fields := fds
  methods := ms
  attributes := attrs
def plain (name : String) (sup : Option ClassId) : Class where
  name := name
  kind := .ordinary
  loader := none
  accessFlags := 33
  super := sup
  interfaces := #[]
  cf := none
  fields := #[]
  methods := #[]
  instanceTypes := #[]
  staticTypes := #[]
  resolved := #[]
  callSites := []
  init := .initialized
  statics := none
  mirror := none

def pool0 : Array CpInfo := pool [(5, u "<init>"), (0, u "()V"), (1, .class_ 10), (1, u "java/lang/Object")] 113

def k0m0 : Method := { name := "<init>", desc := "()V", sig := { parameters := [], returnType := none }, accessFlags := 1, code := none }
/-- java/lang/Object -/
def k0 : Class := { plain "java/lang/Object" none with
  accessFlags := 33
  interfaces := #[]
  cf := some (fileOf pool0 8 #[] #[{ accessFlags := 1, nameIndex := 5, descriptorIndex := 6, attributes := #[] }] 33 0 #[] #[])
  fields := #[]
  methods := #[k0m0]
  instanceTypes := #[]
  staticTypes := #[]
  resolved := Array.replicate 124 none
  statics := none }

def pool1 : Array CpInfo := pool [(2, .class_ 4), (1, u "java/lang/Object"), (0, u "<init>"), (0, u "()V"), (0, .fieldref 8 9), (0, .class_ 10), (0, .nameAndType 11 12), (0, u "com/example/stacks_in_time/stacksintime/Instruction$Kind"), (0, u "PUSH"), (0, u "Lcom/example/stacks_in_time/stacksintime/Instruction$Kind;"), (0, .fieldref 8 14), (0, .nameAndType 15 12), (0, u "POP"), (0, .fieldref 8 17), (0, .nameAndType 18 12), (0, u "ADJUST"), (0, .fieldref 8 20), (0, .nameAndType 21 12), (0, u "RESTORE"), (0, .fieldref 8 23), (0, .nameAndType 24 12), (0, u "CALL"), (0, .fieldref 8 26), (0, .nameAndType 27 12), (0, u "RET"), (0, .fieldref 8 29), (0, .nameAndType 30 12), (0, u "JUMP"), (0, .fieldref 8 32), (0, .nameAndType 33 12), (0, u "CONDITIONAL_JUMP"), (0, .fieldref 8 35), (0, .nameAndType 36 12), (0, u "HALT"), (0, .fieldref 8 38), (0, .nameAndType 39 12), (0, u "OTHER"), (0, .integer 2147483647), (0, .methodref 42 43), (0, .class_ 44), (0, .nameAndType 45 46), (0, u "com/example/stacks_in_time/stacksintime/KindBranchesPinLaw"), (0, u "pick"), (0, u "(I)Lcom/example/stacks_in_time/stacksintime/Instruction$Kind;"), (0, .methodref 8 48), (0, .nameAndType 49 50), (0, u "branches"), (0, u "()Z"), (3, u "law"), (0, u "(I)Z")] 6

def k1m0 : Method := { name := "<init>", desc := "()V", sig := { parameters := [], returnType := none }, accessFlags := 2, code := none }
def k1c1 : Code := { maxStack := 2, maxLocals := 1, code := method_2_code, exceptionTable := #[], attributes := #[] }
def k1m1 : Method := { name := "pick", desc := "(I)Lcom/example/stacks_in_time/stacksintime/Instruction$Kind;", sig := { parameters := [.int], returnType := some (.object "com/example/stacks_in_time/stacksintime/Instruction$Kind") }, accessFlags := 10, code := some k1c1 }
def k1c2 : Code := { maxStack := 2, maxLocals := 4, code := code, exceptionTable := #[], attributes := #[] }
def k1m2 : Method := { name := "law", desc := "(I)Z", sig := { parameters := [.int], returnType := some .boolean }, accessFlags := 9, code := some k1c2 }
/-- com/example/stacks_in_time/stacksintime/KindBranchesPinLaw -/
def k1 : Class := { plain "com/example/stacks_in_time/stacksintime/KindBranchesPinLaw" (some 0) with
  accessFlags := 49
  interfaces := #[]
  cf := some (fileOf pool1 42 #[] #[{ accessFlags := 2, nameIndex := 5, descriptorIndex := 6, attributes := #[] }, { accessFlags := 10, nameIndex := 45, descriptorIndex := 46, attributes := #[] }, { accessFlags := 9, nameIndex := 54, descriptorIndex := 55, attributes := #[] }] 49 2 #[] #[])
  fields := #[]
  methods := #[k1m0, k1m1, k1m2]
  instanceTypes := #[]
  staticTypes := #[]
  resolved := Array.replicate 62 none
  statics := none }

def pool2 : Array CpInfo := pool [(1, .class_ 2), (0, u "java/lang/constant/Constable"), (0, .class_ 4), (0, u "java/lang/Object")] 6

/-- java/lang/constant/Constable -/
def k2 : Class := { plain "java/lang/constant/Constable" (some 0) with
  accessFlags := 1537
  interfaces := #[]
  cf := some (fileOf pool2 1 #[] #[] 1537 3 #[] #[])
  fields := #[]
  methods := #[]
  instanceTypes := #[]
  staticTypes := #[]
  resolved := Array.replicate 11 none
  statics := none }

def pool3 : Array CpInfo := pool [(1, .class_ 2), (0, u "java/lang/Comparable"), (0, .class_ 4), (0, u "java/lang/Object")] 7

/-- java/lang/Comparable -/
def k3 : Class := { plain "java/lang/Comparable" (some 0) with
  accessFlags := 1537
  interfaces := #[]
  cf := some (fileOf pool3 1 #[] #[] 1537 3 #[] #[])
  fields := #[]
  methods := #[]
  instanceTypes := #[]
  staticTypes := #[]
  resolved := Array.replicate 12 none
  statics := none }

def pool4 : Array CpInfo := pool [(1, .class_ 2), (0, u "java/io/Serializable"), (0, .class_ 4), (0, u "java/lang/Object")] 2

/-- java/io/Serializable -/
def k4 : Class := { plain "java/io/Serializable" (some 0) with
  accessFlags := 1537
  interfaces := #[]
  cf := some (fileOf pool4 1 #[] #[] 1537 3 #[] #[])
  fields := #[]
  methods := #[]
  instanceTypes := #[]
  staticTypes := #[]
  resolved := Array.replicate 7 none
  statics := none }

def pool5 : Array CpInfo := pool [(2, .class_ 4), (1, u "java/lang/Enum"), (0, u "name"), (0, u "Ljava/lang/String;"), (2, u "ordinal"), (0, u "I"), (1, .class_ 14), (1, u "java/lang/Object"), (4, u "hash"), (86, .class_ 108), (1, u "java/lang/Enum$EnumDesc"), (2, .class_ 112), (0, u "java/lang/constant/Constable"), (0, .class_ 114), (0, u "java/lang/Comparable"), (0, .class_ 116), (0, u "java/io/Serializable")] 87

/-- java/lang/Enum -/
def k5 : Class := { plain "java/lang/Enum" (some 0) with
  accessFlags := 1057
  interfaces := #[2, 3, 4]
  cf := some (fileOf pool5 2 #[.nestMembers #[106]] #[] 1057 12 #[111, 113, 115] #[{ accessFlags := 18, nameIndex := 5, descriptorIndex := 6, attributes := #[] }, { accessFlags := 18, nameIndex := 9, descriptorIndex := 10, attributes := #[] }, { accessFlags := 2, nameIndex := 19, descriptorIndex := 10, attributes := #[] }])
  fields := #[{ name := "name", type := (.object "java/lang/String"), accessFlags := 18, slot := 0, constantValue := 0 }, { name := "ordinal", type := .int, accessFlags := 18, slot := 1, constantValue := 0 }, { name := "hash", type := .int, accessFlags := 2, slot := 2, constantValue := 0 }]
  methods := #[]
  instanceTypes := #[(.object "java/lang/String"), .int, .int]
  staticTypes := #[]
  resolved := Array.replicate 204 none
  statics := none }

def pool6 : Array CpInfo := pool [(1, .class_ 2), (0, u "com/example/stacks_in_time/stacksintime/Instruction$Kind"), (2, u "PUSH"), (0, u "Lcom/example/stacks_in_time/stacksintime/Instruction$Kind;"), (2, u "POP"), (2, u "ADJUST"), (2, u "RESTORE"), (0, .fieldref 1 17), (0, .nameAndType 18 6), (0, u "CALL"), (2, u "RET"), (0, .fieldref 1 23), (0, .nameAndType 24 6), (0, u "JUMP"), (0, .fieldref 1 26), (0, .nameAndType 27 6), (0, u "CONDITIONAL_JUMP"), (2, u "HALT"), (2, u "OTHER"), (2, u "$VALUES"), (0, u "[Lcom/example/stacks_in_time/stacksintime/Instruction$Kind;"), (6, .class_ 46), (1, u "java/lang/Enum"), (68, u "branches"), (0, u "()Z"), (5, .class_ 123), (0, u "com/example/stacks_in_time/stacksintime/Instruction")] 2

def k6c0 : Code := { maxStack := 2, maxLocals := 1, code := prog_67_method_5_code, exceptionTable := #[], attributes := #[] }
def k6m0 : Method := { name := "branches", desc := "()Z", sig := { parameters := [], returnType := some .boolean }, accessFlags := 0, code := some k6c0 }
/-- com/example/stacks_in_time/stacksintime/Instruction$Kind -/
def k6 : Class := { plain "com/example/stacks_in_time/stacksintime/Instruction$Kind" (some 5) with
  accessFlags := 16432
  interfaces := #[]
  cf := some (fileOf pool6 1 #[.nestHost 122] #[{ accessFlags := 0, nameIndex := 115, descriptorIndex := 116, attributes := #[] }] 16432 44 #[] #[{ accessFlags := 16409, nameIndex := 5, descriptorIndex := 6, attributes := #[] }, { accessFlags := 16409, nameIndex := 9, descriptorIndex := 6, attributes := #[] }, { accessFlags := 16409, nameIndex := 12, descriptorIndex := 6, attributes := #[] }, { accessFlags := 16409, nameIndex := 15, descriptorIndex := 6, attributes := #[] }, { accessFlags := 16409, nameIndex := 18, descriptorIndex := 6, attributes := #[] }, { accessFlags := 16409, nameIndex := 21, descriptorIndex := 6, attributes := #[] }, { accessFlags := 16409, nameIndex := 24, descriptorIndex := 6, attributes := #[] }, { accessFlags := 16409, nameIndex := 27, descriptorIndex := 6, attributes := #[] }, { accessFlags := 16409, nameIndex := 30, descriptorIndex := 6, attributes := #[] }, { accessFlags := 16409, nameIndex := 33, descriptorIndex := 6, attributes := #[] }, { accessFlags := 4122, nameIndex := 36, descriptorIndex := 37, attributes := #[] }])
  fields := #[{ name := "PUSH", type := (.object "com/example/stacks_in_time/stacksintime/Instruction$Kind"), accessFlags := 16409, slot := 0, constantValue := 0 }, { name := "POP", type := (.object "com/example/stacks_in_time/stacksintime/Instruction$Kind"), accessFlags := 16409, slot := 1, constantValue := 0 }, { name := "ADJUST", type := (.object "com/example/stacks_in_time/stacksintime/Instruction$Kind"), accessFlags := 16409, slot := 2, constantValue := 0 }, { name := "RESTORE", type := (.object "com/example/stacks_in_time/stacksintime/Instruction$Kind"), accessFlags := 16409, slot := 3, constantValue := 0 }, { name := "CALL", type := (.object "com/example/stacks_in_time/stacksintime/Instruction$Kind"), accessFlags := 16409, slot := 4, constantValue := 0 }, { name := "RET", type := (.object "com/example/stacks_in_time/stacksintime/Instruction$Kind"), accessFlags := 16409, slot := 5, constantValue := 0 }, { name := "JUMP", type := (.object "com/example/stacks_in_time/stacksintime/Instruction$Kind"), accessFlags := 16409, slot := 6, constantValue := 0 }, { name := "CONDITIONAL_JUMP", type := (.object "com/example/stacks_in_time/stacksintime/Instruction$Kind"), accessFlags := 16409, slot := 7, constantValue := 0 }, { name := "HALT", type := (.object "com/example/stacks_in_time/stacksintime/Instruction$Kind"), accessFlags := 16409, slot := 8, constantValue := 0 }, { name := "OTHER", type := (.object "com/example/stacks_in_time/stacksintime/Instruction$Kind"), accessFlags := 16409, slot := 9, constantValue := 0 }, { name := "$VALUES", type := (.array (.object "com/example/stacks_in_time/stacksintime/Instruction$Kind")), accessFlags := 4122, slot := 10, constantValue := 0 }]
  methods := #[k6m0]
  instanceTypes := #[(.object "java/lang/String"), .int, .int]
  staticTypes := #[(.object "com/example/stacks_in_time/stacksintime/Instruction$Kind"), (.object "com/example/stacks_in_time/stacksintime/Instruction$Kind"), (.object "com/example/stacks_in_time/stacksintime/Instruction$Kind"), (.object "com/example/stacks_in_time/stacksintime/Instruction$Kind"), (.object "com/example/stacks_in_time/stacksintime/Instruction$Kind"), (.object "com/example/stacks_in_time/stacksintime/Instruction$Kind"), (.object "com/example/stacks_in_time/stacksintime/Instruction$Kind"), (.object "com/example/stacks_in_time/stacksintime/Instruction$Kind"), (.object "com/example/stacks_in_time/stacksintime/Instruction$Kind"), (.object "com/example/stacks_in_time/stacksintime/Instruction$Kind"), (.array (.object "com/example/stacks_in_time/stacksintime/Instruction$Kind"))]
  resolved := Array.replicate 126 none
  statics := some 0 }

def pool7 : Array CpInfo := pool [(1, u "java/lang/Cloneable"), (0, .class_ 1), (0, u "java/lang/Object"), (0, .class_ 3)] 3

/-- java/lang/Cloneable -/
def k7 : Class := { plain "java/lang/Cloneable" (some 0) with
  accessFlags := 1537
  interfaces := #[]
  cf := some (fileOf pool7 2 #[] #[] 1537 4 #[] #[])
  fields := #[]
  methods := #[]
  instanceTypes := #[]
  staticTypes := #[]
  resolved := Array.replicate 8 none
  statics := none }

/-- the primitive byte -/
def k8 : Class := { plain "byte" none with kind := .primitive 'B', accessFlags := 0x411 }
/-- [B -/
def k9 : Class := { plain "[B" (some 0) with kind := .array 8 .byte, interfaces := #[7, 4], accessFlags := 1041 }

/-- the primitive int -/
def k10 : Class := { plain "int" none with kind := .primitive 'I', accessFlags := 0x411 }
/-- [I -/
def k11 : Class := { plain "[I" (some 0) with kind := .array 10 .int, interfaces := #[7, 4], accessFlags := 1041 }

def heap : Heap := #[{ cls := 6, slots := #[.ref 1, .ref 2, .ref 3, .ref 4, .ref 5, .ref 6, .ref 7, .ref 8, .ref 9, .ref 10, .null], vm := .statics 6 },
  { cls := 6, slots := #[.null, .int 0, .int 0], vm := .none },
  { cls := 6, slots := #[.null, .int 1, .int 0], vm := .none },
  { cls := 6, slots := #[.null, .int 2, .int 0], vm := .none },
  { cls := 6, slots := #[.null, .int 3, .int 0], vm := .none },
  { cls := 6, slots := #[.null, .int 4, .int 0], vm := .none },
  { cls := 6, slots := #[.null, .int 5, .int 0], vm := .none },
  { cls := 6, slots := #[.null, .int 6, .int 0], vm := .none },
  { cls := 6, slots := #[.null, .int 7, .int 0], vm := .none },
  { cls := 6, slots := #[.null, .int 8, .int 0], vm := .none },
  { cls := 6, slots := #[.null, .int 9, .int 0], vm := .none }]
def classes : Array Class := #[k0, k1, k2, k3, k4, k5, k6, k7, k8, k9, k10, k11]
def interned : List (Array UInt16 × Addr) := []
def slotsUsed : Nat := 41
def theMethod : MethodId := ⟨1, 2⟩
def args0 : Array Value := #[.int 5]
def aboutOver (below : List Frame) : State where
  vm := { classes := classes, interned := interned.toArray }
  heap := heap
  slotsUsed := slotsUsed
  threads := #[{ frames := .invoking theMethod args0 :: below }]
def below0 : List Frame := [.native { method := ⟨0, 0⟩, args := #[] }]
def about1 : State := aboutOver below0
def p0 : Program := .bare "" "" ""
def e0 : Env := launch0.env 0 0 0
theorem w_frames : about1.frames = Frame.invoking theMethod args0 :: below0 := rfl
set_option maxRecDepth 65536 in
theorem w_args : argsFit about1.vm theMethod args0 = true := by decide +kernel
set_option maxRecDepth 65536 in
theorem w_heap : heapFits about1 = true := by decide +kernel
set_option maxRecDepth 65536 in
theorem w_runnable : about1.curStatus? = some .runnable := by decide +kernel
set_option maxRecDepth 65536 in
theorem w_alone : about1.alone = true := by decide +kernel
set_option maxRecDepth 65536 in
theorem w_named : about1.methodNamed? x = some theMethod := by decide +kernel
set_option maxRecDepth 65536 in
theorem w_hears : about1.hears theMethod below0 = true := by decide +kernel
set_option maxRecDepth 65536 in
theorem w_ripe : about1.ripe theMethod args0 below0 = true := by decide +kernel
theorem w_running : about1.status = .running := rfl
set_option maxRecDepth 65536 in
theorem w_room : about1.hasRoom e0.platform room_1 = true :=
  launch0.hasRoom_least _ room_1 (by decide +kernel) (by decide +kernel) (by decide +kernel) (by decide +kernel) (by decide +kernel) (by decide +kernel)
theorem allAtoms_all (ts : List Jvm.Cond) (a : Array Jvm.Value) (st : Jvm.State) : (allAtoms ts).before a st = ts.all (fun c => c.before a st) := by
  induction ts with
  | nil => rfl
  | cons c t ih =>
    show (Jvm.Cond.and c (allAtoms t)).before a st = _
    rw [Jvm.Cond.before_and, ih, List.all_cons]
def words1 : List Jvm.Cond := Jvm.Cond.code x code maxLocals ret :: tables_1
/-- a 'code' word, met by the world's own term for the bytes: nothing is compared byte by byte -/
theorem code_word {y : MethodName} {bytes : ByteArray} {mx : Nat} {rt : Option FieldType} {a : Array Value} {s : State} {m : MethodId} {meth : Method} {c : Code} (h1 : s.methodNamed? y = some m) (h2 : s.vm.method? m = some meth) (h3 : meth.code = some c) (h4 : c.code = bytes)
    (h5 : (c.maxLocals == mx && c.exceptionTable.isEmpty && decide (c.maxStack ≤ mostOperands) && decide (meth.sig.returnType = rt) && !meth.locks && decide (parseMethodDescriptor y.desc = some meth.sig)) = true) : (Jvm.Cond.code y bytes mx rt).before a s = true := by
  simp only [Bool.and_eq_true, beq_iff_eq, Bool.not_eq_true', decide_eq_true_eq] at h5
  obtain ⟨⟨⟨⟨⟨g1, g2⟩, g3⟩, g4⟩, g5⟩, g6⟩ := h5
  simp [Cond.before, Cond.holds, Cond.value, h1, h2, h3, h4, g1, g2, g3, g4, g5, g6]
def isCode : Jvm.Cond → Bool
  | .code _ _ _ _ => true
  | _ => false
theorem all_split {L : List Jvm.Cond} {P : Jvm.Cond → Bool} (h1 : L.all (fun c => isCode c || P c) = true) (h2 : ∀ c ∈ L.filter isCode, P c = true) : L.all P = true := by
  refine List.all_eq_true.mpr fun c hc => ?_
  have h := List.all_eq_true.mp h1 c hc
  rcases Bool.eq_false_or_eq_true (isCode c) with hi | hi
  · exact h2 c (List.mem_filter.mpr ⟨hc, hi⟩)
  · simpa [hi] using h
set_option maxRecDepth 65536 in
theorem w_c0 : (Jvm.Cond.code x code maxLocals ret).before args0 about1 = true := code_word (m := ⟨1, 2⟩) (meth := k1m2) (c := k1c2) (by decide +kernel) rfl rfl rfl (by decide +kernel)
set_option maxRecDepth 65536 in
theorem w_c1 : (Jvm.Cond.code ({ cls := "com/example/stacks_in_time/stacksintime/KindBranchesPinLaw", name := "pick", desc := "(I)Lcom/example/stacks_in_time/stacksintime/Instruction$Kind;" } : Jvm.MethodName) method_2_code (1 : Nat) (Option.some (Jvm.ClassFile.FieldType.object "com/example/stacks_in_time/stacksintime/Instruction$Kind"))).before args0 about1 = true := code_word (m := ⟨1, 1⟩) (meth := k1m1) (c := k1c1) (by decide +kernel) rfl rfl rfl (by decide +kernel)
set_option maxRecDepth 65536 in
theorem w_c2 : (Jvm.Cond.code ({ cls := "com/example/stacks_in_time/stacksintime/Instruction$Kind", name := "branches", desc := "()Z" } : Jvm.MethodName) prog_67_method_5_code (1 : Nat) (Option.some Jvm.ClassFile.FieldType.boolean)).before args0 about1 = true := code_word (m := ⟨6, 0⟩) (meth := k6m0) (c := k6c0) (by decide +kernel) rfl rfl rfl (by decide +kernel)
def codes1 : List Jvm.Cond := [Jvm.Cond.code x code maxLocals ret, Jvm.Cond.code ({ cls := "com/example/stacks_in_time/stacksintime/KindBranchesPinLaw", name := "pick", desc := "(I)Lcom/example/stacks_in_time/stacksintime/Instruction$Kind;" } : Jvm.MethodName) method_2_code (1 : Nat) (Option.some (Jvm.ClassFile.FieldType.object "com/example/stacks_in_time/stacksintime/Instruction$Kind")), Jvm.Cond.code ({ cls := "com/example/stacks_in_time/stacksintime/Instruction$Kind", name := "branches", desc := "()Z" } : Jvm.MethodName) prog_67_method_5_code (1 : Nat) (Option.some Jvm.ClassFile.FieldType.boolean)]
set_option maxRecDepth 65536 in
theorem codes_eq : words1.filter isCode = codes1 := rfl
theorem w_codes : ∀ c ∈ words1.filter isCode, c.before args0 about1 = true := by
  rw [codes_eq]
  intro c hc
  simp only [codes1, List.mem_cons, List.not_mem_nil, or_false] at hc
  rcases hc with rfl | rfl | rfl
  · exact w_c0
  · exact w_c1
  · exact w_c2
set_option maxRecDepth 65536 in
theorem w_t1 : (words1.take 24).all (fun c => isCode c || c.before args0 about1) = true := by decide +kernel
set_option maxRecDepth 65536 in
theorem w_t2 : (words1.drop 24).all (fun c => isCode c || c.before args0 about1) = true := by decide +kernel
theorem w_tables : (allAtoms (Jvm.Cond.code x code maxLocals ret :: tables_1)).before args0 about1 = true := by
  rw [allAtoms_all]
  show words1.all (fun c => c.before args0 about1) = true
  refine all_split ?_ w_codes
  rw [← List.take_append_drop 24 words1, List.all_append, w_t1, w_t2]
  rfl
set_option maxRecDepth 65536 in
theorem w_case : (Jvm.Cond.and given_1 narrow_1).before args0 about1 = true := by decide +kernel
theorem w_applies : (headSpec (Jvm.Cond.code x code maxLocals ret :: tables_1) room_1).applies x e0.platform about1 = true :=
  (Spec.applies_iff w_frames).mpr ⟨w_running, w_runnable, w_alone, w_named, w_hears, w_ripe, w_room, w_tables⟩
theorem atStart : AtStart classFile x code maxLocals ret World_1 tables_1 room_1 Calls_1 rest_1 Pre_1 launch0 p0 e0 about1 theMethod args0 below0 :=
  ⟨lists_1, trivial, launch0.admits_env _ _ _, launch0.least_env, fairChoices_fair.cas, fairChoices_fair.clock, w_frames, w_args, w_heap, w_applies, trivial, trivial, w_case⟩
end start1
theorem witness_1 : WitnessClaimed_1 := ⟨start1.p0, start1.e0, start1.about1, start1.theMethod, start1.args0, start1.below0, start1.atStart⟩
end Jvm.Pilot.@@N@@
