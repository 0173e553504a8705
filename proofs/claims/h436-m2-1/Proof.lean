import JvmDerived
import JvmDerived.Pilot.@@N@@Statement
import JvmDerived.Pilot.@@N@@Code
set_option linter.unusedVariables false
set_option linter.unusedSimpArgs false
namespace Jvm.Own
open Jvm Jvm.ClassFile Sem Op Lib Jvm.Free Jvm.Stand Jvm.LawKit Jvm.RoadKit
/-- the run from A ends, and G holds of its end -/
def Runs (p : Program) (e : Env) (below : List Frame) (A : State) (G : Outcome → State → Prop) : Prop :=
  ∃ s₂ o, Steps p.tables e below A s₂ ∧ s₂.status = .running ∧ Ended s₂ below o ∧ G o s₂
section A
variable {p : Program} {e : Env} {below : List Frame} {A B : State} {G : Outcome → State → Prop}
theorem Runs.of (k : Runs p e below B G) (h : ∀ t, Steps p.tables e below B t → Steps p.tables e below A t) : Runs p e below A G := by
  obtain ⟨t, o, hs, r⟩ := k
  exact ⟨t, o, h t hs, r⟩
theorem Runs.dia {P : Prop} [Decidable P] {B : Int32 → State} {vt vf : Int32} (ht : P → Runs p e below (B vt) G → Runs p e below A G) (hf : ¬ P → Runs p e below (B vf) G → Runs p e below A G) (k : Runs p e below (B (if P then vt else vf)) G) : Runs p e below A G := by
  by_cases hc : P
  · rw [if_pos hc] at k; exact ht hc k
  · rw [if_neg hc] at k; exact hf hc k
theorem Runs.via (k : Runs p e below B G) (h : Steps p.tables e below A B) : Runs p e below A G := k.of fun _ q => h.trans q
end A
/-- what stood at h0 is written at ws alone -/
def Wrote (h0 : Heap) (ws : List Addr) (L : List Loc) : Prop := ∀ y ∈ L, y.base ∈ ws ∨ h0.size ≤ y.base
theorem Wrote.nil {h0 : Heap} {ws : List Addr} : Wrote h0 ws [] := fun _ q => nomatch q
theorem Wrote.app {h0 h : Heap} {ws ws' : List Addr} {L L' : List Loc} (N : Wrote h0 ws L) (N' : Wrote h ws' L') (hs : h0.size ≤ h.size) (hw : ∀ x ∈ ws', x ∈ ws ∨ h0.size ≤ x) : Wrote h0 ws (L ++ L') := fun y q =>
  (List.mem_append.mp q).elim (N y) fun r => (N' y r).elim (hw _) fun z => Or.inr (Nat.le_trans hs z)
theorem Wrote.snoc {h0 : Heap} {ws : List Addr} {L : List Loc} {a : Addr} {i : Nat} (N : Wrote h0 ws L) (q : a ∈ ws ∨ h0.size ≤ a) : Wrote h0 ws (L ++ [⟨a, i⟩]) := fun y r =>
  (List.mem_append.mp r).elim (N y) fun z => by cases List.mem_singleton.mp z; exact q
/-- where a walk stands: the method's own facts, the heap as it is now, what was written since h0 -/
def Here (p : Program) (l : Launch) (e : Env) (R : Room) (s : State) (m : MethodId) (args : Array Value) (below : List Frame) (meth : Method) (c : Code)
    (y : MethodName) (bytes : ByteArray) (maxL : Nat) (ret : Option FieldType) (Z : State) (h0 : Heap) (ws : List Addr) (T : State) (cells slots : Nat) (h : Heap) : Prop :=
  (p.tables.exec = Jvm.exec ∧ Z.Warmed39 s.vm ∧ c.code = bytes ∧ c.maxLocals = maxL ∧ s.vm.findClass y.cls = some m.cls ∧ meth.name = y.name ∧ meth.sig.returnType = ret ∧ meth.locks = false) ∧
  T.heap = h ∧ Keep h0 h ws ∧ ∃ locs, Stand p l e R s m args below meth c T locs cells slots ∧ Wrote h0 ws locs
/-- how a walk must end: it returns, Q holds of the result and the heap, what stood at h0 is written at ws alone -/
def Out (s : State) (h0 : Heap) (ws : List Addr) (rm : Room) (Q : Option Value → Heap → Prop) (o : Outcome) (U : State) : Prop :=
  ∃ v L, o = .returned v ∧ (Q v U.heap ∧ Keep h0 U.heap ws ∧ Wrote h0 ws L) ∧ FrameEnd s o U L rm.cells rm.slots
/-- a method's contract at the heap h0 and these arguments -/
def Ct (l : Launch) (Z : State) (y : MethodName) (bytes : ByteArray) (maxL : Nat) (ret : Option FieldType) (rm : Room) (as : Array Value) (h0 : Heap) (ws : List Addr) (Q : Option Value → Heap → Prop) : Prop :=
  ∀ wz, MetFree l y (head1 (Jvm.Cond.code y bytes maxL ret :: wz) rm) (fun a U => a = as ∧ Z.Warmed39 U.vm ∧ U.heap = h0) (fun _ _ _ _ _ => True)
    (fun _ U o U' => ∃ v L, o = .returned v ∧ (Q v U'.heap ∧ Keep h0 U'.heap ws ∧ Wrote h0 ws L) ∧ FrameEnd U o U' L rm.cells rm.slots)
section B
variable {p : Program} {l : Launch} {e : Env} {R : Room} {s : State} {m : MethodId} {args : Array Value} {below : List Frame} {meth : Method} {c : Code} {y : MethodName} {bytes : ByteArray} {maxL : Nat} {ret : Option FieldType} {Z : State} {h0 : Heap} {ws : List Addr} {T : State} {cells slots : Nat} {h : Heap} {G : Outcome → State → Prop} {a0 : Array Value}
theorem Ct.of {rm : Room} {as : Array Value} {Q : Option Value → Heap → Prop} (hp : plainFor y = true)
    (body : ∀ p e s m below meth c T, Here p l e rm s m as below meth c y bytes maxL ret Z h0 ws T 0 0 h0 → Runs p e below (T.setTop (entryFrame m as maxL)) (Out s h0 ws rm Q)) :
    Ct l Z y bytes maxL ret rm as h0 ws Q := fun wz => by
  refine MetFree.of_bodySF hp hisR ?_
  intro p e s m args below meth c s₁ Bd hml0 hP hK
  obtain ⟨rfl, hZ, hh⟩ := hP
  have e0 : s₁.heap = h0 := by rw [← hh, Bd.state]; rfl
  exact body p e s m below meth c s₁ ⟨⟨Bd.exec, hZ, Bd.bytes, hml0, findClass_of_methodNamed Bd.named, (name_of_methodNamed Bd.named Bd.method).1, Bd.returns, BodyLoose.notSynchronized Bd⟩, e0, Keep.refl _ _, [], Stand.of_body Bd, Wrote.nil⟩
theorem Ct.mono {rm : Room} {as : Array Value} {Q Q' : Option Value → Heap → Prop} (h : Ct l Z y bytes maxL ret rm as h0 ws Q) (hq : ∀ v h, Q v h → Q' v h) : Ct l Z y bytes maxL ret rm as h0 ws Q' := fun wz => by
  intro p e ha hc hk s m args below hf happ hP hK
  obtain ⟨n, o, w1, w2, w3, v, L, q1, q2, q3⟩ := h wz p e ha hc hk s m args below hf happ hP hK
  exact ⟨n, o, w1, w2, w3, v, L, q1, ⟨hq _ _ q2.1, q2.2⟩, q3⟩
/-- from one frame to another that is the same -/
theorem Runs.top {g g' : JFrame} (q : g = g') (k : Runs p e below (T.setTop g') G) : Runs p e below (T.setTop g) G := q ▸ k
theorem Here.keep (X : Here p l e R s m args below meth c y bytes maxL ret Z h0 ws T cells slots h) : Keep h0 h ws := X.2.2.1
theorem Here.hZ (X : Here p l e R s m args below meth c y bytes maxL ret Z h0 ws T cells slots h) : Z.Warmed39 s.vm := X.1.2.1
theorem Here.size (X : Here p l e R s m args below meth c y bytes maxL ret Z h0 ws T cells slots h) : h0.size ≤ h.size := X.2.2.1.1
/-- a plain step -/
theorem Here.step (X : Here p l e R s m args below meth c y bytes maxL ret Z h0 ws T cells slots h) {g g' : JFrame}
    (st : ∀ locs, p.tables.exec = Jvm.exec → c.code = bytes → Z.Warmed39 s.vm → s.vm.findClass y.cls = some m.cls → T.heap = h → Stand p l e R s m args below meth c T locs cells slots → ∀ t, Steps p.tables e below (T.setTop g') t → Steps p.tables e below (T.setTop g) t)
    (k : Runs p e below (T.setTop g') G) : Runs p e below (T.setTop g) G := by
  obtain ⟨⟨x1, x2, x3, x4, x5, x6, x7, x8⟩, x9, x10, locs, S, N⟩ := X
  exact k.of (st locs x1 x3 x2 x5 x9 S)
/-- a step that leaves the heap as it is -/
theorem Here.stepT (X : Here p l e R s m args below meth c y bytes maxL ret Z h0 ws T cells slots h) {g g' : JFrame}
    (st : ∀ locs, p.tables.exec = Jvm.exec → c.code = bytes → c.maxLocals = maxL → Z.Warmed39 s.vm → s.vm.findClass y.cls = some m.cls → T.heap = h → Stand p l e R s m args below meth c T locs cells slots → ∃ T', Stand p l e R s m args below meth c T' locs cells slots ∧ T'.heap = h ∧ ∀ t, Steps p.tables e below (T'.setTop g') t → Steps p.tables e below (T.setTop g) t)
    (k : ∀ T', Here p l e R s m args below meth c y bytes maxL ret Z h0 ws T' cells slots h → Runs p e below (T'.setTop g') G) : Runs p e below (T.setTop g) G := by
  obtain ⟨⟨x1, x2, x3, x4, x5, x6, x7, x8⟩, x9, x10, locs, S, N⟩ := X
  obtain ⟨T', S', e', q⟩ := st locs x1 x3 x4 x2 x5 x9 S
  exact (k T' ⟨⟨x1, x2, x3, x4, x5, x6, x7, x8⟩, e', x10, locs, S', N⟩).of q
/-- a step that writes one slot -/
theorem Here.stepW (X : Here p l e R s m args below meth c y bytes maxL ret Z h0 ws T cells slots h) {g g' : JFrame} {a : Addr} {i : Nat} {v : Value} (hn : a ∈ ws ∨ h0.size ≤ a)
    (st : ∀ locs, p.tables.exec = Jvm.exec → c.code = bytes → meth.name = y.name → Z.Warmed39 s.vm → s.vm.findClass y.cls = some m.cls → T.heap = h → Stand p l e R s m args below meth c T locs cells slots → ∃ T' h', Stand p l e R s m args below meth c T' (locs ++ [⟨a, i⟩]) cells slots ∧ T'.heap = h' ∧ Wr h h' a i v ∧ ∀ t, Steps p.tables e below (T'.setTop g') t → Steps p.tables e below (T.setTop g) t)
    (k : ∀ T' h', Here p l e R s m args below meth c y bytes maxL ret Z h0 ws T' cells slots h' → Wr h h' a i v → Runs p e below (T'.setTop g') G) : Runs p e below (T.setTop g) G := by
  obtain ⟨⟨x1, x2, x3, x4, x5, x6, x7, x8⟩, x9, x10, locs, S, N⟩ := X
  obtain ⟨T', h', S', e', W, q⟩ := st locs x1 x3 x6 x2 x5 x9 S
  exact (k T' h' ⟨⟨x1, x2, x3, x4, x5, x6, x7, x8⟩, e', x10.wr W hn, _, S', N.snoc hn⟩ W).of q
theorem Here.iload (X : Here p l e R s m args below meth c y bytes maxL ret Z h0 ws T cells slots h) {pc pc' : Nat} {Ls : Array Slot} {St : List Value} {i : Nat} {v : Int32} (hd : decode bytes pc = .ok (.iload i, 2)) (hl : Ls[i]? = some (.val (.int v))) (hp : pc + 2 = pc') (k : Runs p e below (T.setTop (mkF m pc' Ls (.int v :: St))) G) : Runs p e below (T.setTop (mkF m pc Ls (St))) G := by
  subst hp
  exact X.step (fun _ hx hb' _ hown _ S t q => XS.iload S.here hx rfl (hb hb' hd) hl q) k
theorem Here.iloadN (X : Here p l e R s m args below meth c y bytes maxL ret Z h0 ws T cells slots h) {pc pc' : Nat} {Ls : Array Slot} {St : List Value} {i : Fin 4} {v : Int32} (hd : decode bytes pc = .ok (.iload_n i, 1)) (hl : Ls[i.val]? = some (.val (.int v))) (hp : pc + 1 = pc') (k : Runs p e below (T.setTop (mkF m pc' Ls (.int v :: St))) G) : Runs p e below (T.setTop (mkF m pc Ls (St))) G := by
  subst hp
  exact X.step (fun _ hx hb' _ hown _ S t q => XS.iloadN S.here hx rfl (hb hb' hd) hl q) k
theorem Here.lload (X : Here p l e R s m args below meth c y bytes maxL ret Z h0 ws T cells slots h) {pc pc' : Nat} {Ls : Array Slot} {St : List Value} {i : Nat} {v : Int64} (hd : decode bytes pc = .ok (.lload i, 2)) (hl : Ls[i]? = some (.val (.long v))) (hp : pc + 2 = pc') (k : Runs p e below (T.setTop (mkF m pc' Ls (.long v :: St))) G) : Runs p e below (T.setTop (mkF m pc Ls (St))) G := by
  subst hp
  exact X.step (fun _ hx hb' _ hown _ S t q => XS.lload S.here hx rfl (hb hb' hd) hl q) k
theorem Here.lloadN (X : Here p l e R s m args below meth c y bytes maxL ret Z h0 ws T cells slots h) {pc pc' : Nat} {Ls : Array Slot} {St : List Value} {i : Fin 4} {v : Int64} (hd : decode bytes pc = .ok (.lload_n i, 1)) (hl : Ls[i.val]? = some (.val (.long v))) (hp : pc + 1 = pc') (k : Runs p e below (T.setTop (mkF m pc' Ls (.long v :: St))) G) : Runs p e below (T.setTop (mkF m pc Ls (St))) G := by
  subst hp
  exact X.step (fun _ hx hb' _ hown _ S t q => XS.lloadN S.here hx rfl (hb hb' hd) hl q) k
theorem Here.aload (X : Here p l e R s m args below meth c y bytes maxL ret Z h0 ws T cells slots h) {pc pc' : Nat} {Ls : Array Slot} {St : List Value} {i : Nat} {v : Value} (hd : decode bytes pc = .ok (.aload i, 2)) (hl : Ls[i]? = some (.val v)) (hv : v.isRef = true) (hp : pc + 2 = pc') (k : Runs p e below (T.setTop (mkF m pc' Ls (v :: St))) G) : Runs p e below (T.setTop (mkF m pc Ls (St))) G := by
  subst hp
  exact X.step (fun _ hx hb' _ hown _ S t q => XS.aload S.here hx rfl (hb hb' hd) hl hv q) k
theorem Here.aloadN (X : Here p l e R s m args below meth c y bytes maxL ret Z h0 ws T cells slots h) {pc pc' : Nat} {Ls : Array Slot} {St : List Value} {i : Fin 4} {v : Value} (hd : decode bytes pc = .ok (.aload_n i, 1)) (hl : Ls[i.val]? = some (.val v)) (hv : v.isRef = true) (hp : pc + 1 = pc') (k : Runs p e below (T.setTop (mkF m pc' Ls (v :: St))) G) : Runs p e below (T.setTop (mkF m pc Ls (St))) G := by
  subst hp
  exact X.step (fun _ hx hb' _ hown _ S t q => XS.aloadN S.here hx rfl (hb hb' hd) hl hv q) k
theorem Here.istore (X : Here p l e R s m args below meth c y bytes maxL ret Z h0 ws T cells slots h) {pc pc' : Nat} {Ls : Array Slot} {St : List Value} {i : Nat} {v : Int32} {l' : Array Slot} (hd : decode bytes pc = .ok (.istore i, 2)) (hl : storeLocals Ls i (.int v) = some l') (hp : pc + 2 = pc') (k : Runs p e below (T.setTop (mkF m pc' l' (St))) G) : Runs p e below (T.setTop (mkF m pc Ls (.int v :: St))) G := by
  subst hp
  exact X.step (fun _ hx hb' _ hown _ S t q => XS.istore S.here hx rfl (hb hb' hd) rfl hl q) k
theorem Here.istoreN (X : Here p l e R s m args below meth c y bytes maxL ret Z h0 ws T cells slots h) {pc pc' : Nat} {Ls : Array Slot} {St : List Value} {i : Fin 4} {v : Int32} {l' : Array Slot} (hd : decode bytes pc = .ok (.istore_n i, 1)) (hl : storeLocals Ls i.val (.int v) = some l') (hp : pc + 1 = pc') (k : Runs p e below (T.setTop (mkF m pc' l' (St))) G) : Runs p e below (T.setTop (mkF m pc Ls (.int v :: St))) G := by
  subst hp
  exact X.step (fun _ hx hb' _ hown _ S t q => XS.istoreN S.here hx rfl (hb hb' hd) rfl hl q) k
theorem Here.lstore (X : Here p l e R s m args below meth c y bytes maxL ret Z h0 ws T cells slots h) {pc pc' : Nat} {Ls : Array Slot} {St : List Value} {i : Nat} {v : Int64} {l' : Array Slot} (hd : decode bytes pc = .ok (.lstore i, 2)) (hl : storeLocals Ls i (.long v) = some l') (hp : pc + 2 = pc') (k : Runs p e below (T.setTop (mkF m pc' l' (St))) G) : Runs p e below (T.setTop (mkF m pc Ls (.long v :: St))) G := by
  subst hp
  exact X.step (fun _ hx hb' _ hown _ S t q => XS.lstore S.here hx rfl (hb hb' hd) rfl hl q) k
theorem Here.lstoreN (X : Here p l e R s m args below meth c y bytes maxL ret Z h0 ws T cells slots h) {pc pc' : Nat} {Ls : Array Slot} {St : List Value} {i : Fin 4} {v : Int64} {l' : Array Slot} (hd : decode bytes pc = .ok (.lstore_n i, 1)) (hl : storeLocals Ls i.val (.long v) = some l') (hp : pc + 1 = pc') (k : Runs p e below (T.setTop (mkF m pc' l' (St))) G) : Runs p e below (T.setTop (mkF m pc Ls (.long v :: St))) G := by
  subst hp
  exact X.step (fun _ hx hb' _ hown _ S t q => XS.lstoreN S.here hx rfl (hb hb' hd) rfl hl q) k
theorem Here.astore (X : Here p l e R s m args below meth c y bytes maxL ret Z h0 ws T cells slots h) {pc pc' : Nat} {Ls : Array Slot} {St : List Value} {i : Nat} {v : Value} {l' : Array Slot} (hd : decode bytes pc = .ok (.astore i, 2)) (hv : v.isRef = true) (hl : storeLocals Ls i v = some l') (hp : pc + 2 = pc') (k : Runs p e below (T.setTop (mkF m pc' l' (St))) G) : Runs p e below (T.setTop (mkF m pc Ls (v :: St))) G := by
  subst hp
  exact X.step (fun _ hx hb' _ hown _ S t q => XS.astore S.here hx rfl (hb hb' hd) rfl hv hl q) k
theorem Here.astoreN (X : Here p l e R s m args below meth c y bytes maxL ret Z h0 ws T cells slots h) {pc pc' : Nat} {Ls : Array Slot} {St : List Value} {i : Fin 4} {v : Value} {l' : Array Slot} (hd : decode bytes pc = .ok (.astore_n i, 1)) (hv : v.isRef = true) (hl : storeLocals Ls i.val v = some l') (hp : pc + 1 = pc') (k : Runs p e below (T.setTop (mkF m pc' l' (St))) G) : Runs p e below (T.setTop (mkF m pc Ls (v :: St))) G := by
  subst hp
  exact X.step (fun _ hx hb' _ hown _ S t q => XS.astoreN S.here hx rfl (hb hb' hd) rfl hv hl q) k
theorem Here.iconst (X : Here p l e R s m args below meth c y bytes maxL ret Z h0 ws T cells slots h) {pc pc' : Nat} {Ls : Array Slot} {St : List Value} {i : Int} {z : Int32} (hd : decode bytes pc = .ok (.iconst i, 1)) (hz : Int32.ofInt i = z) (hp : pc + 1 = pc') (k : Runs p e below (T.setTop (mkF m pc' Ls (.int z :: St))) G) : Runs p e below (T.setTop (mkF m pc Ls (St))) G := by
  subst hp
  exact X.step (fun _ hx hb' _ hown _ S t q => XS.iconst S.here hx rfl (hb hb' hd) (hz ▸ q)) k
theorem Here.bipush (X : Here p l e R s m args below meth c y bytes maxL ret Z h0 ws T cells slots h) {pc pc' : Nat} {Ls : Array Slot} {St : List Value} {i : Int} {z : Int32} (hd : decode bytes pc = .ok (.bipush i, 2)) (hz : (Int8.ofInt i).toInt32 = z) (hp : pc + 2 = pc') (k : Runs p e below (T.setTop (mkF m pc' Ls (.int z :: St))) G) : Runs p e below (T.setTop (mkF m pc Ls (St))) G := by
  subst hp
  exact X.step (fun _ hx hb' _ hown _ S t q => XS.bipush S.here hx rfl (hb hb' hd) (hz ▸ q)) k
theorem Here.sipush (X : Here p l e R s m args below meth c y bytes maxL ret Z h0 ws T cells slots h) {pc pc' : Nat} {Ls : Array Slot} {St : List Value} {i : Int} {z : Int32} (hd : decode bytes pc = .ok (.sipush i, 3)) (hz : (Int16.ofInt i).toInt32 = z) (hp : pc + 3 = pc') (k : Runs p e below (T.setTop (mkF m pc' Ls (.int z :: St))) G) : Runs p e below (T.setTop (mkF m pc Ls (St))) G := by
  subst hp
  exact X.step (fun _ hx hb' _ hown _ S t q => XS.sipush S.here hx rfl (hb hb' hd) (hz ▸ q)) k
theorem Here.lconst0 (X : Here p l e R s m args below meth c y bytes maxL ret Z h0 ws T cells slots h) {pc pc' : Nat} {Ls : Array Slot} {St : List Value}  (hd : decode bytes pc = .ok (.lconst 0, 1))  (hp : pc + 1 = pc') (k : Runs p e below (T.setTop (mkF m pc' Ls (.long 0 :: St))) G) : Runs p e below (T.setTop (mkF m pc Ls (St))) G := by
  subst hp
  exact X.step (fun _ hx hb' _ hown _ S t q => XS.lconst S.here hx rfl (hb hb' hd) q) k
theorem Here.lconst1 (X : Here p l e R s m args below meth c y bytes maxL ret Z h0 ws T cells slots h) {pc pc' : Nat} {Ls : Array Slot} {St : List Value}  (hd : decode bytes pc = .ok (.lconst 1, 1))  (hp : pc + 1 = pc') (k : Runs p e below (T.setTop (mkF m pc' Ls (.long 1 :: St))) G) : Runs p e below (T.setTop (mkF m pc Ls (St))) G := by
  subst hp
  exact X.step (fun _ hx hb' _ hown _ S t q => XS.lconst S.here hx rfl (hb hb' hd) q) k
theorem Here.aconstNull (X : Here p l e R s m args below meth c y bytes maxL ret Z h0 ws T cells slots h) {pc pc' : Nat} {Ls : Array Slot} {St : List Value}  (hd : decode bytes pc = .ok (.aconst_null, 1))  (hp : pc + 1 = pc') (k : Runs p e below (T.setTop (mkF m pc' Ls (.null :: St))) G) : Runs p e below (T.setTop (mkF m pc Ls (St))) G := by
  subst hp
  exact X.step (fun _ hx hb' _ hown _ S t q => XS.aconstNull S.here hx rfl (hb hb' hd) q) k
theorem Here.iadd (X : Here p l e R s m args below meth c y bytes maxL ret Z h0 ws T cells slots h) {pc pc' : Nat} {Ls : Array Slot} {St : List Value} {a b : Int32} (hd : decode bytes pc = .ok (.iadd, 1))  (hp : pc + 1 = pc') (k : Runs p e below (T.setTop (mkF m pc' Ls (.int (a + b) :: St))) G) : Runs p e below (T.setTop (mkF m pc Ls (.int b :: .int a :: St))) G := by
  subst hp
  exact X.step (fun _ hx hb' _ hown _ S t q => XS.iadd S.here hx rfl (hb hb' hd) rfl q) k
theorem Here.isub (X : Here p l e R s m args below meth c y bytes maxL ret Z h0 ws T cells slots h) {pc pc' : Nat} {Ls : Array Slot} {St : List Value} {a b : Int32} (hd : decode bytes pc = .ok (.isub, 1))  (hp : pc + 1 = pc') (k : Runs p e below (T.setTop (mkF m pc' Ls (.int (a - b) :: St))) G) : Runs p e below (T.setTop (mkF m pc Ls (.int b :: .int a :: St))) G := by
  subst hp
  exact X.step (fun _ hx hb' _ hown _ S t q => XS.isub S.here hx rfl (hb hb' hd) rfl q) k
theorem Here.imul (X : Here p l e R s m args below meth c y bytes maxL ret Z h0 ws T cells slots h) {pc pc' : Nat} {Ls : Array Slot} {St : List Value} {a b : Int32} (hd : decode bytes pc = .ok (.imul, 1))  (hp : pc + 1 = pc') (k : Runs p e below (T.setTop (mkF m pc' Ls (.int (a * b) :: St))) G) : Runs p e below (T.setTop (mkF m pc Ls (.int b :: .int a :: St))) G := by
  subst hp
  exact X.step (fun _ hx hb' _ hown _ S t q => XS.imul S.here hx rfl (hb hb' hd) rfl q) k
theorem Here.iand (X : Here p l e R s m args below meth c y bytes maxL ret Z h0 ws T cells slots h) {pc pc' : Nat} {Ls : Array Slot} {St : List Value} {a b : Int32} (hd : decode bytes pc = .ok (.iand, 1))  (hp : pc + 1 = pc') (k : Runs p e below (T.setTop (mkF m pc' Ls (.int (a &&& b) :: St))) G) : Runs p e below (T.setTop (mkF m pc Ls (.int b :: .int a :: St))) G := by
  subst hp
  exact X.step (fun _ hx hb' _ hown _ S t q => XS.iand S.here hx rfl (hb hb' hd) rfl q) k
theorem Here.ior (X : Here p l e R s m args below meth c y bytes maxL ret Z h0 ws T cells slots h) {pc pc' : Nat} {Ls : Array Slot} {St : List Value} {a b : Int32} (hd : decode bytes pc = .ok (.ior, 1))  (hp : pc + 1 = pc') (k : Runs p e below (T.setTop (mkF m pc' Ls (.int (a ||| b) :: St))) G) : Runs p e below (T.setTop (mkF m pc Ls (.int b :: .int a :: St))) G := by
  subst hp
  exact X.step (fun _ hx hb' _ hown _ S t q => XS.ior S.here hx rfl (hb hb' hd) rfl q) k
theorem Here.ixor (X : Here p l e R s m args below meth c y bytes maxL ret Z h0 ws T cells slots h) {pc pc' : Nat} {Ls : Array Slot} {St : List Value} {a b : Int32} (hd : decode bytes pc = .ok (.ixor, 1))  (hp : pc + 1 = pc') (k : Runs p e below (T.setTop (mkF m pc' Ls (.int (a ^^^ b) :: St))) G) : Runs p e below (T.setTop (mkF m pc Ls (.int b :: .int a :: St))) G := by
  subst hp
  exact X.step (fun _ hx hb' _ hown _ S t q => XS.ixor S.here hx rfl (hb hb' hd) rfl q) k
theorem Here.ladd (X : Here p l e R s m args below meth c y bytes maxL ret Z h0 ws T cells slots h) {pc pc' : Nat} {Ls : Array Slot} {St : List Value} {a b : Int64} (hd : decode bytes pc = .ok (.ladd, 1))  (hp : pc + 1 = pc') (k : Runs p e below (T.setTop (mkF m pc' Ls (.long (a + b) :: St))) G) : Runs p e below (T.setTop (mkF m pc Ls (.long b :: .long a :: St))) G := by
  subst hp
  exact X.step (fun _ hx hb' _ hown _ S t q => XS.ladd S.here hx rfl (hb hb' hd) rfl q) k
theorem Here.lsub (X : Here p l e R s m args below meth c y bytes maxL ret Z h0 ws T cells slots h) {pc pc' : Nat} {Ls : Array Slot} {St : List Value} {a b : Int64} (hd : decode bytes pc = .ok (.lsub, 1))  (hp : pc + 1 = pc') (k : Runs p e below (T.setTop (mkF m pc' Ls (.long (a - b) :: St))) G) : Runs p e below (T.setTop (mkF m pc Ls (.long b :: .long a :: St))) G := by
  subst hp
  exact X.step (fun _ hx hb' _ hown _ S t q => XS.lsub S.here hx rfl (hb hb' hd) rfl q) k
theorem Here.lmul (X : Here p l e R s m args below meth c y bytes maxL ret Z h0 ws T cells slots h) {pc pc' : Nat} {Ls : Array Slot} {St : List Value} {a b : Int64} (hd : decode bytes pc = .ok (.lmul, 1))  (hp : pc + 1 = pc') (k : Runs p e below (T.setTop (mkF m pc' Ls (.long (a * b) :: St))) G) : Runs p e below (T.setTop (mkF m pc Ls (.long b :: .long a :: St))) G := by
  subst hp
  exact X.step (fun _ hx hb' _ hown _ S t q => XS.lmul S.here hx rfl (hb hb' hd) rfl q) k
theorem Here.land (X : Here p l e R s m args below meth c y bytes maxL ret Z h0 ws T cells slots h) {pc pc' : Nat} {Ls : Array Slot} {St : List Value} {a b : Int64} (hd : decode bytes pc = .ok (.land, 1))  (hp : pc + 1 = pc') (k : Runs p e below (T.setTop (mkF m pc' Ls (.long (a &&& b) :: St))) G) : Runs p e below (T.setTop (mkF m pc Ls (.long b :: .long a :: St))) G := by
  subst hp
  exact X.step (fun _ hx hb' _ hown _ S t q => XS.land S.here hx rfl (hb hb' hd) rfl q) k
theorem Here.lor (X : Here p l e R s m args below meth c y bytes maxL ret Z h0 ws T cells slots h) {pc pc' : Nat} {Ls : Array Slot} {St : List Value} {a b : Int64} (hd : decode bytes pc = .ok (.lor, 1))  (hp : pc + 1 = pc') (k : Runs p e below (T.setTop (mkF m pc' Ls (.long (a ||| b) :: St))) G) : Runs p e below (T.setTop (mkF m pc Ls (.long b :: .long a :: St))) G := by
  subst hp
  exact X.step (fun _ hx hb' _ hown _ S t q => XS.lor S.here hx rfl (hb hb' hd) rfl q) k
theorem Here.lxor (X : Here p l e R s m args below meth c y bytes maxL ret Z h0 ws T cells slots h) {pc pc' : Nat} {Ls : Array Slot} {St : List Value} {a b : Int64} (hd : decode bytes pc = .ok (.lxor, 1))  (hp : pc + 1 = pc') (k : Runs p e below (T.setTop (mkF m pc' Ls (.long (a ^^^ b) :: St))) G) : Runs p e below (T.setTop (mkF m pc Ls (.long b :: .long a :: St))) G := by
  subst hp
  exact X.step (fun _ hx hb' _ hown _ S t q => XS.lxor S.here hx rfl (hb hb' hd) rfl q) k
theorem Here.ishl (X : Here p l e R s m args below meth c y bytes maxL ret Z h0 ws T cells slots h) {pc pc' : Nat} {Ls : Array Slot} {St : List Value} {a b : Int32} (hd : decode bytes pc = .ok (.ishl, 1))  (hp : pc + 1 = pc') (k : Runs p e below (T.setTop (mkF m pc' Ls (.int (a <<< (b &&& 31)) :: St))) G) : Runs p e below (T.setTop (mkF m pc Ls (.int b :: .int a :: St))) G := by
  subst hp
  exact X.step (fun _ hx hb' _ hown _ S t q => XS.ishl S.here hx rfl (hb hb' hd) rfl q) k
theorem Here.ishr (X : Here p l e R s m args below meth c y bytes maxL ret Z h0 ws T cells slots h) {pc pc' : Nat} {Ls : Array Slot} {St : List Value} {a b : Int32} (hd : decode bytes pc = .ok (.ishr, 1))  (hp : pc + 1 = pc') (k : Runs p e below (T.setTop (mkF m pc' Ls (.int (a >>> (b &&& 31)) :: St))) G) : Runs p e below (T.setTop (mkF m pc Ls (.int b :: .int a :: St))) G := by
  subst hp
  exact X.step (fun _ hx hb' _ hown _ S t q => XS.ishr S.here hx rfl (hb hb' hd) rfl q) k
theorem Here.iushr (X : Here p l e R s m args below meth c y bytes maxL ret Z h0 ws T cells slots h) {pc pc' : Nat} {Ls : Array Slot} {St : List Value} {a b : Int32} (hd : decode bytes pc = .ok (.iushr, 1))  (hp : pc + 1 = pc') (k : Runs p e below (T.setTop (mkF m pc' Ls (.int ((a.toUInt32 >>> (b &&& 31).toUInt32).toInt32) :: St))) G) : Runs p e below (T.setTop (mkF m pc Ls (.int b :: .int a :: St))) G := by
  subst hp
  exact X.step (fun _ hx hb' _ hown _ S t q => XS.iushr S.here hx rfl (hb hb' hd) rfl q) k
theorem Here.lshl (X : Here p l e R s m args below meth c y bytes maxL ret Z h0 ws T cells slots h) {pc pc' : Nat} {Ls : Array Slot} {St : List Value} {a : Int64} {b : Int32} (hd : decode bytes pc = .ok (.lshl, 1))  (hp : pc + 1 = pc') (k : Runs p e below (T.setTop (mkF m pc' Ls (.long (a <<< (b &&& 0x3f).toInt64) :: St))) G) : Runs p e below (T.setTop (mkF m pc Ls (.int b :: .long a :: St))) G := by
  subst hp
  exact X.step (fun _ hx hb' _ hown _ S t q => XS.lshl S.here hx rfl (hb hb' hd) rfl q) k
theorem Here.lshr (X : Here p l e R s m args below meth c y bytes maxL ret Z h0 ws T cells slots h) {pc pc' : Nat} {Ls : Array Slot} {St : List Value} {a : Int64} {b : Int32} (hd : decode bytes pc = .ok (.lshr, 1))  (hp : pc + 1 = pc') (k : Runs p e below (T.setTop (mkF m pc' Ls (.long (a >>> (b &&& 0x3f).toInt64) :: St))) G) : Runs p e below (T.setTop (mkF m pc Ls (.int b :: .long a :: St))) G := by
  subst hp
  exact X.step (fun _ hx hb' _ hown _ S t q => XS.lshr S.here hx rfl (hb hb' hd) rfl q) k
theorem Here.lushr (X : Here p l e R s m args below meth c y bytes maxL ret Z h0 ws T cells slots h) {pc pc' : Nat} {Ls : Array Slot} {St : List Value} {a : Int64} {b : Int32} (hd : decode bytes pc = .ok (.lushr, 1))  (hp : pc + 1 = pc') (k : Runs p e below (T.setTop (mkF m pc' Ls (.long ((a.toUInt64 >>> (b &&& 0x3f).toInt64.toUInt64).toInt64) :: St))) G) : Runs p e below (T.setTop (mkF m pc Ls (.int b :: .long a :: St))) G := by
  subst hp
  exact X.step (fun _ hx hb' _ hown _ S t q => XS.lushr S.here hx rfl (hb hb' hd) rfl q) k
theorem Here.ineg (X : Here p l e R s m args below meth c y bytes maxL ret Z h0 ws T cells slots h) {pc pc' : Nat} {Ls : Array Slot} {St : List Value} {a : Int32} (hd : decode bytes pc = .ok (.ineg, 1))  (hp : pc + 1 = pc') (k : Runs p e below (T.setTop (mkF m pc' Ls (.int (-a) :: St))) G) : Runs p e below (T.setTop (mkF m pc Ls (.int a :: St))) G := by
  subst hp
  exact X.step (fun _ hx hb' _ hown _ S t q => XS.ineg S.here hx rfl (hb hb' hd) rfl q) k
theorem Here.lneg (X : Here p l e R s m args below meth c y bytes maxL ret Z h0 ws T cells slots h) {pc pc' : Nat} {Ls : Array Slot} {St : List Value} {a : Int64} (hd : decode bytes pc = .ok (.lneg, 1))  (hp : pc + 1 = pc') (k : Runs p e below (T.setTop (mkF m pc' Ls (.long (-a) :: St))) G) : Runs p e below (T.setTop (mkF m pc Ls (.long a :: St))) G := by
  subst hp
  exact X.step (fun _ hx hb' _ hown _ S t q => XS.lneg S.here hx rfl (hb hb' hd) rfl q) k
theorem Here.lcmp (X : Here p l e R s m args below meth c y bytes maxL ret Z h0 ws T cells slots h) {pc pc' : Nat} {Ls : Array Slot} {St : List Value} {a b : Int64} (hd : decode bytes pc = .ok (.lcmp, 1))  (hp : pc + 1 = pc') (k : Runs p e below (T.setTop (mkF m pc' Ls (.int (lcmpW a b) :: St))) G) : Runs p e below (T.setTop (mkF m pc Ls (.long b :: .long a :: St))) G := by
  subst hp
  exact X.step (fun _ hx hb' _ hown _ S t q => XS.lcmp S.here hx rfl (hb hb' hd) rfl q) k
theorem Here.i2l (X : Here p l e R s m args below meth c y bytes maxL ret Z h0 ws T cells slots h) {pc pc' : Nat} {Ls : Array Slot} {St : List Value} {a : Int32} (hd : decode bytes pc = .ok (.i2l, 1))  (hp : pc + 1 = pc') (k : Runs p e below (T.setTop (mkF m pc' Ls (.long a.toInt64 :: St))) G) : Runs p e below (T.setTop (mkF m pc Ls (.int a :: St))) G := by
  subst hp
  exact X.step (fun _ hx hb' _ hown _ S t q => XS.i2l S.here hx rfl (hb hb' hd) rfl q) k
theorem Here.l2i (X : Here p l e R s m args below meth c y bytes maxL ret Z h0 ws T cells slots h) {pc pc' : Nat} {Ls : Array Slot} {St : List Value} {a : Int64} (hd : decode bytes pc = .ok (.l2i, 1))  (hp : pc + 1 = pc') (k : Runs p e below (T.setTop (mkF m pc' Ls (.int a.toInt32 :: St))) G) : Runs p e below (T.setTop (mkF m pc Ls (.long a :: St))) G := by
  subst hp
  exact X.step (fun _ hx hb' _ hown _ S t q => XS.l2i S.here hx rfl (hb hb' hd) rfl q) k
theorem Here.i2b (X : Here p l e R s m args below meth c y bytes maxL ret Z h0 ws T cells slots h) {pc pc' : Nat} {Ls : Array Slot} {St : List Value} {a : Int32} (hd : decode bytes pc = .ok (.i2b, 1))  (hp : pc + 1 = pc') (k : Runs p e below (T.setTop (mkF m pc' Ls (.int a.toInt8.toInt32 :: St))) G) : Runs p e below (T.setTop (mkF m pc Ls (.int a :: St))) G := by
  subst hp
  exact X.step (fun _ hx hb' _ hown _ S t q => XS.i2b S.here hx rfl (hb hb' hd) rfl q) k
theorem Here.i2s (X : Here p l e R s m args below meth c y bytes maxL ret Z h0 ws T cells slots h) {pc pc' : Nat} {Ls : Array Slot} {St : List Value} {a : Int32} (hd : decode bytes pc = .ok (.i2s, 1))  (hp : pc + 1 = pc') (k : Runs p e below (T.setTop (mkF m pc' Ls (.int a.toInt16.toInt32 :: St))) G) : Runs p e below (T.setTop (mkF m pc Ls (.int a :: St))) G := by
  subst hp
  exact X.step (fun _ hx hb' _ hown _ S t q => XS.i2s S.here hx rfl (hb hb' hd) rfl q) k
theorem Here.i2c (X : Here p l e R s m args below meth c y bytes maxL ret Z h0 ws T cells slots h) {pc pc' : Nat} {Ls : Array Slot} {St : List Value} {a : Int32} (hd : decode bytes pc = .ok (.i2c, 1))  (hp : pc + 1 = pc') (k : Runs p e below (T.setTop (mkF m pc' Ls (.int a.toUInt32.toUInt16.toUInt32.toInt32 :: St))) G) : Runs p e below (T.setTop (mkF m pc Ls (.int a :: St))) G := by
  subst hp
  exact X.step (fun _ hx hb' _ hown _ S t q => XS.i2c S.here hx rfl (hb hb' hd) rfl q) k
theorem Here.irem (X : Here p l e R s m args below meth c y bytes maxL ret Z h0 ws T cells slots h) {pc pc' : Nat} {Ls : Array Slot} {St : List Value} {a b : Int32} (hd : decode bytes pc = .ok (.irem, 1)) (hy : b ≠ 0) (hp : pc + 1 = pc') (k : Runs p e below (T.setTop (mkF m pc' Ls (.int (a % b) :: St))) G) : Runs p e below (T.setTop (mkF m pc Ls (.int b :: .int a :: St))) G := by
  subst hp
  exact X.step (fun _ hx hb' _ hown _ S t q => iremM S hx rfl (hb hb' hd) rfl hy q) k
theorem Here.idiv (X : Here p l e R s m args below meth c y bytes maxL ret Z h0 ws T cells slots h) {pc pc' : Nat} {Ls : Array Slot} {St : List Value} {a b : Int32} (hd : decode bytes pc = .ok (.idiv, 1)) (hy : b ≠ 0) (hp : pc + 1 = pc') (k : Runs p e below (T.setTop (mkF m pc' Ls (.int (a / b) :: St))) G) : Runs p e below (T.setTop (mkF m pc Ls (.int b :: .int a :: St))) G := by
  subst hp
  exact X.step (fun _ hx hb' _ hown _ S t q => XS.idiv S.here hx rfl (hb hb' hd) rfl hy q) k
theorem Here.iinc (X : Here p l e R s m args below meth c y bytes maxL ret Z h0 ws T cells slots h) {pc pc' : Nat} {Ls : Array Slot} {St : List Value} {i : Nat} {cst : Int} {v z : Int32} {l' : Array Slot} (hd : decode bytes pc = .ok (.iinc i cst, 3)) (hl : Ls[i]? = some (.val (.int v))) (hz : Int32.ofInt cst = z) (hl' : storeLocals Ls i (.int (v + z)) = some l') (hp : pc + 3 = pc') (k : Runs p e below (T.setTop (mkF m pc' l' (St))) G) : Runs p e below (T.setTop (mkF m pc Ls (St))) G := by
  subst hp
  exact X.step (fun _ hx hb' _ hown _ S t q => XS.iinc S.here hx rfl (hb hb' hd) hl (hz ▸ hl') q) k
theorem Here.dup (X : Here p l e R s m args below meth c y bytes maxL ret Z h0 ws T cells slots h) {pc pc' : Nat} {Ls : Array Slot} {St : List Value} {v : Value} (hd : decode bytes pc = .ok (.dup, 1)) (hv : v.category = 1) (hp : pc + 1 = pc') (k : Runs p e below (T.setTop (mkF m pc' Ls (v :: v :: St))) G) : Runs p e below (T.setTop (mkF m pc Ls (v :: St))) G := by
  subst hp
  exact X.step (fun _ hx hb' _ hown _ S t q => XS.dup S.here hx rfl (hb hb' hd) rfl hv q) k
theorem Here.dupX1 (X : Here p l e R s m args below meth c y bytes maxL ret Z h0 ws T cells slots h) {pc pc' : Nat} {Ls : Array Slot} {St : List Value} {v w : Value} (hd : decode bytes pc = .ok (.dup_x1, 1)) (hv : v.category = 1) (hw : w.category = 1) (hp : pc + 1 = pc') (k : Runs p e below (T.setTop (mkF m pc' Ls (v :: w :: v :: St))) G) : Runs p e below (T.setTop (mkF m pc Ls (v :: w :: St))) G := by
  subst hp
  exact X.step (fun _ hx hb' _ hown _ S t q => XS.dupX1 S.here hx rfl (hb hb' hd) rfl hv hw q) k
theorem Here.dup2 (X : Here p l e R s m args below meth c y bytes maxL ret Z h0 ws T cells slots h) {pc pc' : Nat} {Ls : Array Slot} {St : List Value} {v w : Value} (hd : decode bytes pc = .ok (.dup2, 1)) (hv : v.category = 1) (hw : w.category = 1) (hp : pc + 1 = pc') (k : Runs p e below (T.setTop (mkF m pc' Ls (v :: w :: v :: w :: St))) G) : Runs p e below (T.setTop (mkF m pc Ls (v :: w :: St))) G := by
  subst hp
  exact X.step (fun _ hx hb' _ hown _ S t q => Jvm.Free.XT.dup2 S.here hx rfl (hb hb' hd) rfl hv hw q) k
theorem Here.dup2L (X : Here p l e R s m args below meth c y bytes maxL ret Z h0 ws T cells slots h) {pc pc' : Nat} {Ls : Array Slot} {St : List Value} {v : Int64} (hd : decode bytes pc = .ok (.dup2, 1))  (hp : pc + 1 = pc') (k : Runs p e below (T.setTop (mkF m pc' Ls (.long v :: .long v :: St))) G) : Runs p e below (T.setTop (mkF m pc Ls (.long v :: St))) G := by
  subst hp
  exact X.step (fun _ hx hb' _ hown _ S t q => Jvm.Free.XT.dup2L S.here hx rfl (hb hb' hd) rfl q) k
theorem Here.pop (X : Here p l e R s m args below meth c y bytes maxL ret Z h0 ws T cells slots h) {pc pc' : Nat} {Ls : Array Slot} {St : List Value} {v : Value} (hd : decode bytes pc = .ok (.pop, 1)) (hv : v.category = 1) (hp : pc + 1 = pc') (k : Runs p e below (T.setTop (mkF m pc' Ls (St))) G) : Runs p e below (T.setTop (mkF m pc Ls (v :: St))) G := by
  subst hp
  exact X.step (fun _ hx hb' _ hown _ S t q => XS.pop S.here hx rfl (hb hb' hd) rfl hv q) k
theorem Here.ldcInt (X : Here p l e R s m args below meth c y bytes maxL ret Z h0 ws T cells slots h) {pc pc' : Nat} {Ls : Array Slot} {St : List Value} {i : Nat} {v : Int32} (w : (Jvm.Cond.constant y.cls i v).before a0 Z = true) (hd : decode bytes pc = .ok (.ldc i, 2)) (hp : pc + 2 = pc') (k : Runs p e below (T.setTop (mkF m pc' Ls (.int v :: St))) G) : Runs p e below (T.setTop (mkF m pc Ls St)) G := by
  subst hp
  exact X.step (fun _ hx hb' hZ hown _ S t q => S.ldcInt hx hown (mvT hZ w) (g := mkF m pc Ls St) rfl (hb hb' hd) t q) k
theorem Here.ldcwInt (X : Here p l e R s m args below meth c y bytes maxL ret Z h0 ws T cells slots h) {pc pc' : Nat} {Ls : Array Slot} {St : List Value} {i : Nat} {v : Int32} (w : (Jvm.Cond.constant y.cls i v).before a0 Z = true) (hd : decode bytes pc = .ok (.ldc_w i, 3)) (hp : pc + 3 = pc') (k : Runs p e below (T.setTop (mkF m pc' Ls (.int v :: St))) G) : Runs p e below (T.setTop (mkF m pc Ls St)) G := by
  subst hp
  exact X.step (fun _ hx hb' hZ hown _ S t q => S.ldcwInt hx hown (mvT hZ w) (g := mkF m pc Ls St) rfl (hb hb' hd) t q) k
theorem Here.ldc2 (X : Here p l e R s m args below meth c y bytes maxL ret Z h0 ws T cells slots h) {pc pc' : Nat} {Ls : Array Slot} {St : List Value} {i : Nat} {v : Int64} (w : (Jvm.Cond.constantLong y.cls i v).before a0 Z = true) (hd : decode bytes pc = .ok (.ldc2_w i, 3)) (hp : pc + 3 = pc') (k : Runs p e below (T.setTop (mkF m pc' Ls (.long v :: St))) G) : Runs p e below (T.setTop (mkF m pc Ls St)) G := by
  subst hp
  exact X.step (fun _ hx hb' hZ hown _ S t q => S.ldc2Long hx hown (mvT hZ w) (g := mkF m pc Ls St) rfl (hb hb' hd) t q) k
theorem Here.goto (X : Here p l e R s m args below meth c y bytes maxL ret Z h0 ws T cells slots h) {pc pc' : Nat} {Ls : Array Slot} {St : List Value} {o : Int}  (hd : decode bytes pc = .ok (.goto o, 3))  (ho : 0 ≤ (pc : Int) + o) (hp : ((pc : Int) + o).toNat = pc') (k : Runs p e below (T.setTop (mkF m pc' Ls St)) G) : Runs p e below (T.setTop (mkF m pc Ls (St))) G := by
  exact X.step (fun _ hx hb' _ hown _ S t q => XS.goto S.here hx rfl rfl (hb hb' hd) ho hp q) k
theorem Here.ifYes (X : Here p l e R s m args below meth c y bytes maxL ret Z h0 ws T cells slots h) {pc pc' : Nat} {Ls : Array Slot} {St : List Value} {o : Int} {cd : ClassFile.Cond} {a : Int32} (hd : decode bytes pc = .ok (.ifCond cd o, 3)) (hc : if_icmp.holds cd a 0 = true) (ho : 0 ≤ (pc : Int) + o) (hp : ((pc : Int) + o).toNat = pc') (k : Runs p e below (T.setTop (mkF m pc' Ls St)) G) : Runs p e below (T.setTop (mkF m pc Ls (.int a :: St))) G := by
  exact X.step (fun _ hx hb' _ hown _ S t q => XS.ifYes S.here hx rfl rfl (hb hb' hd) rfl ((if0 _ _).trans hc) ho hp q) k
theorem Here.icmpYes (X : Here p l e R s m args below meth c y bytes maxL ret Z h0 ws T cells slots h) {pc pc' : Nat} {Ls : Array Slot} {St : List Value} {o : Int} {cd : ClassFile.Cond} {a b : Int32} (hd : decode bytes pc = .ok (.if_icmp cd o, 3)) (hc : if_icmp.holds cd a b = true) (ho : 0 ≤ (pc : Int) + o) (hp : ((pc : Int) + o).toNat = pc') (k : Runs p e below (T.setTop (mkF m pc' Ls St)) G) : Runs p e below (T.setTop (mkF m pc Ls (.int b :: .int a :: St))) G := by
  exact X.step (fun _ hx hb' _ hown _ S t q => XS.icmpYes S.here hx rfl rfl (hb hb' hd) rfl hc ho hp q) k
theorem Here.ifnullYes (X : Here p l e R s m args below meth c y bytes maxL ret Z h0 ws T cells slots h) {pc pc' : Nat} {Ls : Array Slot} {St : List Value} {o : Int}  (hd : decode bytes pc = .ok (.ifnull o, 3))  (ho : 0 ≤ (pc : Int) + o) (hp : ((pc : Int) + o).toNat = pc') (k : Runs p e below (T.setTop (mkF m pc' Ls St)) G) : Runs p e below (T.setTop (mkF m pc Ls (.null :: St))) G := by
  exact X.step (fun _ hx hb' _ hown _ S t q => XS.ifnullYes S.here hx rfl rfl (hb hb' hd) rfl ho hp q) k
theorem Here.ifnonnullYes (X : Here p l e R s m args below meth c y bytes maxL ret Z h0 ws T cells slots h) {pc pc' : Nat} {Ls : Array Slot} {St : List Value} {o : Int} {b : Addr} (hd : decode bytes pc = .ok (.ifnonnull o, 3))  (ho : 0 ≤ (pc : Int) + o) (hp : ((pc : Int) + o).toNat = pc') (k : Runs p e below (T.setTop (mkF m pc' Ls St)) G) : Runs p e below (T.setTop (mkF m pc Ls (.ref b :: St))) G := by
  exact X.step (fun _ hx hb' _ hown _ S t q => XS.ifnonnullYes S.here hx rfl rfl (hb hb' hd) rfl ho hp q) k
theorem Here.ifNo (X : Here p l e R s m args below meth c y bytes maxL ret Z h0 ws T cells slots h) {pc pc' : Nat} {Ls : Array Slot} {St : List Value} {o : Int} {cd : ClassFile.Cond} {a : Int32} (hd : decode bytes pc = .ok (.ifCond cd o, 3)) (hc : if_icmp.holds cd a 0 = false) (hp : pc + 3 = pc') (k : Runs p e below (T.setTop (mkF m pc' Ls (St))) G) : Runs p e below (T.setTop (mkF m pc Ls (.int a :: St))) G := by
  subst hp
  exact X.step (fun _ hx hb' _ hown _ S t q => XS.ifNo S.here hx rfl (hb hb' hd) rfl ((if0 _ _).trans hc) q) k
theorem Here.icmpNo (X : Here p l e R s m args below meth c y bytes maxL ret Z h0 ws T cells slots h) {pc pc' : Nat} {Ls : Array Slot} {St : List Value} {o : Int} {cd : ClassFile.Cond} {a b : Int32} (hd : decode bytes pc = .ok (.if_icmp cd o, 3)) (hc : if_icmp.holds cd a b = false) (hp : pc + 3 = pc') (k : Runs p e below (T.setTop (mkF m pc' Ls (St))) G) : Runs p e below (T.setTop (mkF m pc Ls (.int b :: .int a :: St))) G := by
  subst hp
  exact X.step (fun _ hx hb' _ hown _ S t q => XS.icmpNo S.here hx rfl (hb hb' hd) rfl hc q) k
theorem Here.ifnullNo (X : Here p l e R s m args below meth c y bytes maxL ret Z h0 ws T cells slots h) {pc pc' : Nat} {Ls : Array Slot} {St : List Value} {o : Int} {b : Addr} (hd : decode bytes pc = .ok (.ifnull o, 3))  (hp : pc + 3 = pc') (k : Runs p e below (T.setTop (mkF m pc' Ls (St))) G) : Runs p e below (T.setTop (mkF m pc Ls (.ref b :: St))) G := by
  subst hp
  exact X.step (fun _ hx hb' _ hown _ S t q => XS.ifnullNo S.here hx rfl (hb hb' hd) rfl q) k
theorem Here.ifnonnullNo (X : Here p l e R s m args below meth c y bytes maxL ret Z h0 ws T cells slots h) {pc pc' : Nat} {Ls : Array Slot} {St : List Value} {o : Int} (hd : decode bytes pc = .ok (.ifnonnull o, 3))  (hp : pc + 3 = pc') (k : Runs p e below (T.setTop (mkF m pc' Ls (St))) G) : Runs p e below (T.setTop (mkF m pc Ls (.null :: St))) G := by
  subst hp
  exact X.step (fun _ hx hb' _ hown _ S t q => XS.ifnonnullNo S.here hx rfl (hb hb' hd) rfl q) k
theorem Here.acmp (X : Here p l e R s m args below meth c y bytes maxL ret Z h0 ws T cells slots h) {pc pc' : Nat} {Ls : Array Slot} {St : List Value} {o : Int} {cd : ACond} {u v : Value} {same : Bool} (hd : decode bytes pc = .ok (.if_acmp cd o, 3)) (hu : u.isRef = true) (hv : v.isRef = true) (hq : decide (u = v) = same) (ho : 0 ≤ (pc : Int) + o) (hp : pc' = if acV cd same = true then ((pc : Int) + o).toNat else pc + 3) (k : Runs p e below (T.setTop (mkF m pc' Ls St)) G) : Runs p e below (T.setTop (mkF m pc Ls (v :: u :: St))) G := by
  exact X.step (fun _ hx hb' _ hown _ S t q => Jvm.RoadKit.acmp (g := mkF m pc Ls (v :: u :: St)) S hx rfl hu hv rfl (hb hb' hd) rfl hq ho hp q) k
theorem Here.getfield (X : Here p l e R s m args below meth c y bytes maxL ret Z h0 ws T cells slots h) {pc pc' : Nat} {Ls : Array Slot} {St : List Value} {R0 O n d host : String} {i : Nat} {a : Addr} {v : Value} (w : (Jvm.Cond.fieldLink y.cls i R0 n d).before a0 Z = true ∨ (Jvm.Cond.fieldLinkNest y.cls i R0 n d host).before a0 Z = true) (via : Via Z R0 O n d) (F : Fld Z h a O n d v) (hd : decode bytes pc = .ok (.getfield i, 3)) (hp : pc + 3 = pc')
    (k : ∀ T', Here p l e R s m args below meth c y bytes maxL ret Z h0 ws T' cells slots h → Runs p e below (T'.setTop (mkF m pc' Ls (v :: St))) G) : Runs p e below (T.setTop (mkF m pc Ls (.ref a :: St))) G := by
  subst hp
  exact X.stepT (fun _ hx hb' _ hZ hown eT S => getF S hx hZ hown w via eT F (g := mkF m pc Ls (.ref a :: St)) rfl rfl (hb hb' hd)) k
theorem Here.getstatic (X : Here p l e R s m args below meth c y bytes maxL ret Z h0 ws T cells slots h) {pc pc' : Nat} {Ls : Array Slot} {St : List Value} {R0 O n d host : String} {i : Nat} {v : Value} (w : (Jvm.Cond.fieldLink y.cls i R0 n d).before a0 Z = true ∨ (Jvm.Cond.fieldLinkNest y.cls i R0 n d host).before a0 Z = true) (via : Via Z R0 O n d) (F : Sta Z h O n d v) (hd : decode bytes pc = .ok (.getstatic i, 3)) (hp : pc + 3 = pc')
    (k : ∀ T', Here p l e R s m args below meth c y bytes maxL ret Z h0 ws T' cells slots h → Runs p e below (T'.setTop (mkF m pc' Ls (v :: St))) G) : Runs p e below (T.setTop (mkF m pc Ls St)) G := by
  subst hp
  exact X.stepT (fun _ hx hb' _ hZ hown eT S => getS2 S hx hZ hown w via eT F (g := mkF m pc Ls St) rfl (hb hb' hd)) k
theorem Here.putfield (X : Here p l e R s m args below meth c y bytes maxL ret Z h0 ws T cells slots h) {pc pc' : Nat} {Ls : Array Slot} {St : List Value} {R0 O n d host C : String} {i kk : Nat} {ty : FieldType} {a : Addr} {v old : Value} (w : (Jvm.Cond.fieldLink y.cls i R0 n d).before a0 Z = true ∨ (Jvm.Cond.fieldLinkNest y.cls i R0 n d host).before a0 Z = true) (via : Via Z R0 O n d) (F : Fld Z h a O n d old) (E : Exa Z h a C)
    (L : (Jvm.Cond.lays C O n d).before a0 Z = true ∨ ((Jvm.Cond.laysFinal C O n d).before a0 Z = true ∧ y.cls = O ∧ y.name = "<init>")) (wi : (Jvm.Cond.instantiable C kk).before a0 Z = true) (hty : parseFieldDescriptor d = some ty) (hn : narrow ty v = v) (hf : fits ty v = true) (hd : decode bytes pc = .ok (.putfield i, 3)) (hp : pc + 3 = pc') (hws : a ∈ ws ∨ h0.size ≤ a)
    (k : ∀ T' h', Here p l e R s m args below meth c y bytes maxL ret Z h0 ws T' cells slots h' → Wr h h' a (Jvm.RoadKit.slotOf Z O n d) v → Runs p e below (T'.setTop (mkF m pc' Ls St)) G) : Runs p e below (T.setTop (mkF m pc Ls (v :: .ref a :: St))) G := by
  subst hp
  exact X.stepW hws (fun _ hx hb' hnm hZ hown eT S => putF S hx hZ hown w via eT F E (L.imp id fun q => ⟨q.1, q.2.1, hnm.trans q.2.2⟩) wi hty hn hf (g := mkF m pc Ls (v :: .ref a :: St)) rfl rfl (hb hb' hd)) k
theorem Here.putfieldN (X : Here p l e R s m args below meth c y bytes maxL ret Z h0 ws T cells slots h) {pc pc' : Nat} {Ls : Array Slot} {St : List Value} {R0 O n d C : String} {i kk : Nat} {ty : FieldType} {a : Addr} {v v' old : Value} (w : (Jvm.Cond.fieldLink y.cls i R0 n d).before a0 Z = true) (via : Via Z R0 O n d) (F : Fld Z h a O n d old) (E : Exa Z h a C)
    (L : (Jvm.Cond.lays C O n d).before a0 Z = true ∨ ((Jvm.Cond.laysFinal C O n d).before a0 Z = true ∧ y.cls = O ∧ y.name = "<init>")) (wi : (Jvm.Cond.instantiable C kk).before a0 Z = true) (hty : parseFieldDescriptor d = some ty) (hn : narrow ty v = v') (hf : fits ty v' = true) (hd : decode bytes pc = .ok (.putfield i, 3)) (hp : pc + 3 = pc') (hws : a ∈ ws ∨ h0.size ≤ a)
    (k : ∀ T' h', Here p l e R s m args below meth c y bytes maxL ret Z h0 ws T' cells slots h' → Wr h h' a (Jvm.RoadKit.slotOf Z O n d) v' → Runs p e below (T'.setTop (mkF m pc' Ls St)) G) : Runs p e below (T.setTop (mkF m pc Ls (v :: .ref a :: St))) G := by
  subst hp
  exact X.stepW hws (fun _ hx hb' hnm hZ hown eT S => putFN S hx hZ hown w via eT F E (L.imp id fun q => ⟨q.1, q.2.1, hnm.trans q.2.2⟩) wi hty hn hf (g := mkF m pc Ls (v :: .ref a :: St)) rfl rfl (hb hb' hd)) k
theorem Here.new (X : Here p l e R s m args below meth c y bytes maxL ret Z h0 ws T cells slots h) {pc pc' : Nat} {Ls : Array Slot} {St : List Value} {C : String} {i n : Nat} (w : (Jvm.Cond.classLink y.cls i C).before a0 Z = true) (wi : (Jvm.Cond.instantiable C n).before a0 Z = true) (wz : (Jvm.Cond.initialized C).before a0 Z = true) (hd : decode bytes pc = .ok (.new i, 3)) (hp : pc + 3 = pc') (hc : cells + 1 ≤ R.cells) (hl : slots + n ≤ R.slots)
    (k : ∀ T' h' b, Here p l e R s m args below meth c y bytes maxL ret Z h0 ws T' (cells + 1) (slots + n) h' → b = h.size → Ext h h' → Exa Z h' b C → (∀ {O nm d : String} {ty : FieldType}, Laid Z a0 C O nm d → parseFieldDescriptor d = some ty → Fld Z h' b O nm d (defaultValue ty)) → Runs p e below (T'.setTop (mkF m pc' Ls (.ref b :: St))) G) : Runs p e below (T.setTop (mkF m pc Ls St)) G := by
  subst hp
  obtain ⟨⟨x1, x2, x3, x4, x5, x6, x7, x8⟩, x9, x10, locs, S, N⟩ := X
  obtain ⟨T', h', S', e', E, A, D, -, st⟩ := newO S x1 x2 x5 w wi wz x9 (g := mkF m pc Ls St) rfl (hb x3 hd) hc hl
  exact (k T' h' _ ⟨⟨x1, x2, x3, x4, x5, x6, x7, x8⟩, e', x10.ext E, _, S', N⟩ rfl E A D).of st
theorem Here.initObj (X : Here p l e R s m args below meth c y bytes maxL ret Z h0 ws T cells slots h) {pc pc' : Nat} {Ls : Array Slot} {St : List Value} {i : Nat} {a : Addr} (w1 : (Jvm.Cond.methodLink y.cls i Lib.objectInit).before a0 Z = true) (w2 : (Jvm.Cond.instanceMethod Lib.objectInit).before a0 Z = true) (w3 : (Jvm.Cond.code Lib.objectInit ⟨#[0xb1]⟩ 1 none).before a0 Z = true) (hsz : Ls.size = maxL) (hd : decode bytes pc = .ok (.invokespecial i, 3)) (hp : pc + 3 = pc') (hf : 1 ≤ R.frames) {W : Nat} (hW : (St.map fun v => v.category).sum = W) (hl : W + 12 ≤ R.locals)
    (k : ∀ T', Here p l e R s m args below meth c y bytes maxL ret Z h0 ws T' cells slots h → Runs p e below (T'.setTop (mkF m pc' Ls St)) G) : Runs p e below (T.setTop (mkF m pc Ls (.ref a :: St))) G := by
  subst hp
  exact X.stepT (fun _ hx hb' hml hZ hown eT S => initO S hx hZ hown w1 w2 w3 eT (g := mkF m pc Ls (.ref a :: St)) rfl (hsz.trans hml.symm) rfl (hb hb' hd) hf (W := W) (by show 2 * 0 + _ ≤ _; rw [hW]; omega) hl) k
theorem Here.castYes (X : Here p l e R s m args below meth c y bytes maxL ret Z h0 ws T cells slots h) {pc pc' : Nat} {Ls : Array Slot} {St : List Value} {K : String} {i : Nat} {a : Addr} (w : (Jvm.Cond.classLink y.cls i K).before a0 Z = true) (F : Jvm.RoadKit.Ins Z h a K true) (hd : decode bytes pc = .ok (.checkcast i, 3)) (hp : pc + 3 = pc')
    (k : ∀ T', Here p l e R s m args below meth c y bytes maxL ret Z h0 ws T' cells slots h → Runs p e below (T'.setTop (mkF m pc' Ls (.ref a :: St))) G) : Runs p e below (T.setTop (mkF m pc Ls (.ref a :: St))) G := by
  subst hp
  exact X.stepT (fun _ hx hb' _ hZ hown eT S => castY S hx hZ hown w eT F (g := mkF m pc Ls (.ref a :: St)) rfl rfl (hb hb' hd)) k
theorem Here.instYes (X : Here p l e R s m args below meth c y bytes maxL ret Z h0 ws T cells slots h) {pc pc' : Nat} {Ls : Array Slot} {St : List Value} {K : String} {i : Nat} {a : Addr} (w : (Jvm.Cond.classLink y.cls i K).before a0 Z = true) (F : Jvm.RoadKit.Ins Z h a K true) (hd : decode bytes pc = .ok (.instanceof i, 3)) (hp : pc + 3 = pc')
    (k : ∀ T', Here p l e R s m args below meth c y bytes maxL ret Z h0 ws T' cells slots h → Runs p e below (T'.setTop (mkF m pc' Ls (.int (1 : Int32) :: St))) G) : Runs p e below (T.setTop (mkF m pc Ls (.ref a :: St))) G := by
  subst hp
  exact X.stepT (fun _ hx hb' _ hZ hown eT S => instY S hx hZ hown w eT F (g := mkF m pc Ls (.ref a :: St)) rfl rfl (hb hb' hd)) k
theorem Here.instNo (X : Here p l e R s m args below meth c y bytes maxL ret Z h0 ws T cells slots h) {pc pc' : Nat} {Ls : Array Slot} {St : List Value} {C K : String} {i : Nat} {a : Addr} (w : (Jvm.Cond.classLink y.cls i K).before a0 Z = true) (E : Exa Z h a C) (F : ∃ c t, Z.vm.findClass C = some c ∧ Z.vm.findClass K = some t ∧ Z.vm.assignable c t = false) (hd : decode bytes pc = .ok (.instanceof i, 3)) (hp : pc + 3 = pc')
    (k : ∀ T', Here p l e R s m args below meth c y bytes maxL ret Z h0 ws T' cells slots h → Runs p e below (T'.setTop (mkF m pc' Ls (.int (0 : Int32) :: St))) G) : Runs p e below (T.setTop (mkF m pc Ls (.ref a :: St))) G := by
  subst hp
  exact X.stepT (fun _ hx hb' _ hZ hown eT S => Jvm.RoadKit.instNo S hx hZ hown w eT E F (g := mkF m pc Ls (.ref a :: St)) rfl rfl (hb hb' hd)) k
theorem Here.checkcastNull (X : Here p l e R s m args below meth c y bytes maxL ret Z h0 ws T cells slots h) {pc pc' : Nat} {Ls : Array Slot} {St : List Value} {i : Nat} (hd : decode bytes pc = .ok (.checkcast i, 3)) (hp : pc + 3 = pc') (k : Runs p e below (T.setTop (mkF m pc' Ls (.null :: St))) G) : Runs p e below (T.setTop (mkF m pc Ls (.null :: St))) G := by
  subst hp
  exact X.step (fun _ hx hb' _ _ _ S t q => S.checkcastNull hx (g := mkF m pc Ls (.null :: St)) rfl rfl (hb hb' hd) t q) k
theorem Here.instanceofNull (X : Here p l e R s m args below meth c y bytes maxL ret Z h0 ws T cells slots h) {pc pc' : Nat} {Ls : Array Slot} {St : List Value} {i : Nat} (hd : decode bytes pc = .ok (.instanceof i, 3)) (hp : pc + 3 = pc') (k : Runs p e below (T.setTop (mkF m pc' Ls (.int (0 : Int32) :: St))) G) : Runs p e below (T.setTop (mkF m pc Ls (.null :: St))) G := by
  subst hp
  exact X.step (fun _ hx hb' _ _ _ S t q => S.instanceofNull hx (g := mkF m pc Ls (.null :: St)) rfl rfl (hb hb' hd) t q) k
theorem Here.aaload (X : Here p l e R s m args below meth c y bytes maxL ret Z h0 ws T cells slots h) {pc pc' : Nat} {Ls : Array Slot} {St : List Value} {a : Addr} {cl : Cell} {ty : FieldType} {j : Int32} {v : Value} (A : Arr Z h a cl ty) (hty : ty.isReference = true) (hj : ¬ (j < 0 ∨ cl.slots.size ≤ j.toNatClampNeg)) (hv : cl.slots[j.toNatClampNeg]? = some v) (hd : decode bytes pc = .ok (.aaload, 1)) (hp : pc + 1 = pc')
    (k : Runs p e below (T.setTop (mkF m pc' Ls (v :: St))) G) : Runs p e below (T.setTop (mkF m pc Ls (.int j :: .ref a :: St))) G := by
  subst hp
  exact X.step (fun _ hx hb' hZ _ eT S t q => S.aaload hx (j := j) (v := v) (by rw [eT]; exact A.1) (State.isArrayOf_alike hZ.alike A.2.1) hty A.2.2 hj hv (g := mkF m pc Ls (.int j :: .ref a :: St)) rfl rfl (hb hb' hd) t q) k
theorem sta_keep0 {C n d : String} {v : Value} {h' : Heap} (F : Sta Z h C n d v) (K : Keep h h' []) : Sta Z h' C n d v := by
  obtain ⟨cf, i, k, f, st, cell, h1, h2, h3, h4, h5, r⟩ := F
  exact ⟨cf, i, k, f, st, cell, h1, h2, h3, h4, K.2.1 _ _ h5 nin0, r⟩
theorem arr_keep0 {a : Addr} {cl : Cell} {ty : FieldType} {h' : Heap} (F : Arr Z h a cl ty) (K : Keep h h' []) : Arr Z h' a cl ty := ⟨K.2.1 _ _ F.1 nin0, F.2⟩
theorem allWs0 {P : Addr → Prop} : ∀ x ∈ ([] : List Addr), P x := fun _ q => nomatch q
/-! arrays: the list of their values -/
/-- the array at a holds just these values -/
def Lst (Z : State) (h : Heap) (a : Addr) (ty : FieldType) (vs : List Value) : Prop := ∃ cl : Cell, Arr Z h a cl ty ∧ cl.slots = vs.toArray ∧ vs.length < 2 ^ 31
section L
variable {a b : Addr} {ty : FieldType} {vs : List Value} {h' : Heap} {sl : Nat} {v : Value} {ws' : List Addr} {C' : String}
theorem Lst.lt (F : Lst Z h a ty vs) : a < h.size := by obtain ⟨c, A, -⟩ := F; exact A.lt
theorem Lst.len (F : Lst Z h a ty vs) : vs.length < 2 ^ 31 := by obtain ⟨c, A, -, q⟩ := F; exact q
theorem Lst.ext (F : Lst Z h a ty vs) (E : Ext h h') : Lst Z h' a ty vs := by obtain ⟨c, A, r⟩ := F; exact ⟨c, A.ext E, r⟩
theorem Lst.other (F : Lst Z h b ty vs) (W : Wr h h' a sl v) (q : b ≠ a) : Lst Z h' b ty vs := by obtain ⟨c, A, r⟩ := F; exact ⟨c, A.other W q, r⟩
theorem Lst.keep (F : Lst Z h a ty vs) (K : Keep h h' ws') (q : a ∉ ws') : Lst Z h' a ty vs := by obtain ⟨c, A, r⟩ := F; exact ⟨c, ⟨K.2.1 a c A.1 q, A.2⟩, r⟩
theorem Lst.set (F : Lst Z h a ty vs) (W : Wr h h' a sl v) : Lst Z h' a ty (vs.set sl v) := by
  obtain ⟨c, A, r, q⟩ := F
  exact ⟨_, A.same W, by simp [Cell.setSlot, r], by simpa using q⟩
theorem Lst.ne (F : Lst Z h a ty vs) (wi : (Jvm.Cond.instantiable C' sl).before a0 Z = true) (G : Exa Z h b C') : b ≠ a := by obtain ⟨c, A, -⟩ := F; exact ne_arr G wi A
end L
/-- the place j lies inside a list -/
def Inb (j : Int32) (n : Nat) : Prop := 0 ≤ j.toInt ∧ j.toInt < (n : Int)
theorem nat_of_ins {j : Int32} {n : Nat} (q : Inb j n) : j.toNatClampNeg = j.toInt.toNat ∧ j.toInt.toNat < n ∧ ¬ j < 0 := by
  obtain ⟨q1, q2⟩ := q
  refine ⟨rfl, by omega, fun z => ?_⟩
  have : j.toInt < (0 : Int32).toInt := Int32.lt_iff_toInt_lt.mp z
  simp at this; omega
theorem in_of_ins {cl : Cell} {vs : List Value} {j : Int32} (r : cl.slots = vs.toArray) (q : Inb j vs.length) : ¬ (j < 0 ∨ cl.slots.size ≤ j.toNatClampNeg) := by
  obtain ⟨q1, q2, q3⟩ := nat_of_ins q
  rw [q1, r]; simp only [List.size_toArray]; intro z; rcases z with z | z
  · exact q3 z
  · omega
theorem at_of_ins {cl : Cell} {vs : List Value} {j : Int32} {v : Value} (r : cl.slots = vs.toArray) (hv : vs[j.toInt.toNat]? = some v) : cl.slots[j.toNatClampNeg]? = some v := by
  rw [r]; exact (by simpa using hv : vs.toArray[j.toInt.toNat]? = some v)
theorem Here.newarray (X : Here p l e R s m args below meth c y bytes maxL ret Z h0 ws T cells slots h) {pc pc' : Nat} {Ls : Array Slot} {St : List Value} {aty : ArrayType} {ty : FieldType} {n : Int32} (hty : newarray.typeOf aty = ty) (w : (Jvm.Cond.arrayClass ty).before a0 Z = true) (hd : decode bytes pc = .ok (.newarray aty, 2)) (hp : pc + 2 = pc') {cap : Nat} (hn : Inb n (cap + 1)) (hb8 : cap * 8 ≤ 536870912) (hc : cells + 1 ≤ R.cells) (hl : slots + cap ≤ R.slots)
    (k : ∀ T' h' b, Here p l e R s m args below meth c y bytes maxL ret Z h0 ws T' (cells + 1) (slots + cap) h' → b = h.size → Ext h h' → Lst Z h' b ty (List.replicate n.toInt.toNat (defaultValue ty)) → Runs p e below (T'.setTop (mkF m pc' Ls (.ref b :: St))) G) : Runs p e below (T.setTop (mkF m pc Ls (.int n :: St))) G := by
  subst hp; subst hty
  obtain ⟨n1, n2, n3⟩ := nat_of_ins hn
  obtain ⟨⟨x1, x2, x3, x4, x5, x6, x7, x8⟩, x9, x10, locs, S, N⟩ := X
  obtain ⟨T', h', cA, S', e', E, A, st⟩ := newP S x1 x2 w x9 (g := mkF m pc Ls (.int n :: St)) rfl (hb x3 hd) rfl n3 (cap := cap) (by rw [n1]; omega) hb8 hc hl
  exact (k T' h' _ ⟨⟨x1, x2, x3, x4, x5, x6, x7, x8⟩, e', x10.ext E, _, S', N⟩ rfl E ⟨_, A, by show Array.replicate n.toNatClampNeg _ = _; rw [n1, List.toArray_replicate], by rw [List.length_replicate]; omega⟩).of st
theorem Here.arraylength (X : Here p l e R s m args below meth c y bytes maxL ret Z h0 ws T cells slots h) {pc pc' : Nat} {Ls : Array Slot} {St : List Value} {a : Addr} {ty : FieldType} {vs : List Value} {n : Int32} (F : Lst Z h a ty vs) (hn : vs.length.toInt32 = n) (hd : decode bytes pc = .ok (.arraylength, 1)) (hp : pc + 1 = pc')
    (k : Runs p e below (T.setTop (mkF m pc' Ls (.int n :: St))) G) : Runs p e below (T.setTop (mkF m pc Ls (.ref a :: St))) G := by
  subst hp
  obtain ⟨cl, A, r, -⟩ := F
  exact X.step (fun _ hx hb' hZ _ eT S t q => S.arraylength hx (by rw [eT]; exact A.1) (State.isArrayOf_alike hZ.alike A.2.1) (g := mkF m pc Ls (.ref a :: St)) rfl rfl (hb hb' hd) t (by rw [r, List.size_toArray, hn]; exact q)) k
theorem Here.iaload (X : Here p l e R s m args below meth c y bytes maxL ret Z h0 ws T cells slots h) {pc pc' : Nat} {Ls : Array Slot} {St : List Value} {a : Addr} {vs : List Value} {j : Int32} {v : Value} (F : Lst Z h a .int vs) (hj : Inb j vs.length) (hv : vs[j.toInt.toNat]? = some v) (hd : decode bytes pc = .ok (.iaload, 1)) (hp : pc + 1 = pc')
    (k : Runs p e below (T.setTop (mkF m pc' Ls (v :: St))) G) : Runs p e below (T.setTop (mkF m pc Ls (.int j :: .ref a :: St))) G := by
  subst hp
  obtain ⟨cl, A, r, -⟩ := F
  exact X.step (fun _ hx hb' hZ _ eT S t q => S.iaload hx (j := j) (v := v) (by rw [eT]; exact A.1) (State.isArrayOf_alike hZ.alike A.2.1) A.2.2 (in_of_ins r hj) (at_of_ins r hv) (g := mkF m pc Ls (.int j :: .ref a :: St)) rfl rfl (hb hb' hd) t q) k
theorem Here.laload (X : Here p l e R s m args below meth c y bytes maxL ret Z h0 ws T cells slots h) {pc pc' : Nat} {Ls : Array Slot} {St : List Value} {a : Addr} {vs : List Value} {j : Int32} {v : Value} (F : Lst Z h a .long vs) (hj : Inb j vs.length) (hv : vs[j.toInt.toNat]? = some v) (hd : decode bytes pc = .ok (.laload, 1)) (hp : pc + 1 = pc')
    (k : Runs p e below (T.setTop (mkF m pc' Ls (v :: St))) G) : Runs p e below (T.setTop (mkF m pc Ls (.int j :: .ref a :: St))) G := by
  subst hp
  obtain ⟨cl, A, r, -⟩ := F
  exact X.step (fun _ hx hb' hZ _ eT S t q => S.laload hx (j := j) (v := v) (by rw [eT]; exact A.1) (State.isArrayOf_alike hZ.alike A.2.1) A.2.2 (in_of_ins r hj) (at_of_ins r hv) (g := mkF m pc Ls (.int j :: .ref a :: St)) rfl rfl (hb hb' hd) t q) k
theorem Here.caload (X : Here p l e R s m args below meth c y bytes maxL ret Z h0 ws T cells slots h) {pc pc' : Nat} {Ls : Array Slot} {St : List Value} {a : Addr} {vs : List Value} {j : Int32} {v : Value} (F : Lst Z h a .char vs) (hj : Inb j vs.length) (hv : vs[j.toInt.toNat]? = some v) (hd : decode bytes pc = .ok (.caload, 1)) (hp : pc + 1 = pc')
    (k : Runs p e below (T.setTop (mkF m pc' Ls (v :: St))) G) : Runs p e below (T.setTop (mkF m pc Ls (.int j :: .ref a :: St))) G := by
  subst hp
  obtain ⟨cl, A, r, -⟩ := F
  exact X.step (fun _ hx hb' hZ _ eT S t q => S.caload hx (j := j) (v := v) (by rw [eT]; exact A.1) (State.isArrayOf_alike hZ.alike A.2.1) A.2.2 (in_of_ins r hj) (at_of_ins r hv) (g := mkF m pc Ls (.int j :: .ref a :: St)) rfl rfl (hb hb' hd) t q) k
theorem Here.baload (X : Here p l e R s m args below meth c y bytes maxL ret Z h0 ws T cells slots h) {pc pc' : Nat} {Ls : Array Slot} {St : List Value} {a : Addr} {vs : List Value} {j : Int32} {v : Value} (F : Lst Z h a .byte vs) (hj : Inb j vs.length) (hv : vs[j.toInt.toNat]? = some v) (hd : decode bytes pc = .ok (.baload, 1)) (hp : pc + 1 = pc')
    (k : Runs p e below (T.setTop (mkF m pc' Ls (v :: St))) G) : Runs p e below (T.setTop (mkF m pc Ls (.int j :: .ref a :: St))) G := by
  subst hp
  obtain ⟨cl, A, r, -⟩ := F
  exact X.step (fun _ hx hb' hZ _ eT S t q => S.baloadBytes hx (j := j) (v := v) (by rw [eT]; exact A.1) (State.isArrayOf_alike hZ.alike A.2.1) A.2.2 (in_of_ins r hj) (at_of_ins r hv) (g := mkF m pc Ls (.int j :: .ref a :: St)) rfl rfl (hb hb' hd) t q) k
theorem Here.iastore (X : Here p l e R s m args below meth c y bytes maxL ret Z h0 ws T cells slots h) {pc pc' : Nat} {Ls : Array Slot} {St : List Value} {a : Addr} {vs : List Value} {j : Int32} {x : Int32} (F : Lst Z h a .int vs) (hj : Inb j vs.length) (hd : decode bytes pc = .ok (.iastore, 1)) (hp : pc + 1 = pc') (hws : a ∈ ws ∨ h0.size ≤ a)
    (k : ∀ T' h', Here p l e R s m args below meth c y bytes maxL ret Z h0 ws T' cells slots h' → Wr h h' a j.toInt.toNat (.int x) → Runs p e below (T'.setTop (mkF m pc' Ls St)) G) : Runs p e below (T.setTop (mkF m pc Ls (.int x :: .int j :: .ref a :: St))) G := by
  subst hp
  obtain ⟨cl, A, r, -⟩ := F
  exact X.stepW hws (fun _ hx hb' _ hZ _ eT S => stI S hx hZ eT A (j := j) (in_of_ins r hj) (g := mkF m pc Ls (.int x :: .int j :: .ref a :: St)) rfl rfl (hb hb' hd)) k
theorem Here.lastore (X : Here p l e R s m args below meth c y bytes maxL ret Z h0 ws T cells slots h) {pc pc' : Nat} {Ls : Array Slot} {St : List Value} {a : Addr} {vs : List Value} {j : Int32} {x : Int64} (F : Lst Z h a .long vs) (hj : Inb j vs.length) (hd : decode bytes pc = .ok (.lastore, 1)) (hp : pc + 1 = pc') (hws : a ∈ ws ∨ h0.size ≤ a)
    (k : ∀ T' h', Here p l e R s m args below meth c y bytes maxL ret Z h0 ws T' cells slots h' → Wr h h' a j.toInt.toNat (.long x) → Runs p e below (T'.setTop (mkF m pc' Ls St)) G) : Runs p e below (T.setTop (mkF m pc Ls (.long x :: .int j :: .ref a :: St))) G := by
  subst hp
  obtain ⟨cl, A, r, -⟩ := F
  exact X.stepW hws (fun _ hx hb' _ hZ _ eT S => stJ S hx hZ eT A (j := j) (in_of_ins r hj) (g := mkF m pc Ls (.long x :: .int j :: .ref a :: St)) rfl rfl (hb hb' hd)) k
theorem Here.castore (X : Here p l e R s m args below meth c y bytes maxL ret Z h0 ws T cells slots h) {pc pc' : Nat} {Ls : Array Slot} {St : List Value} {a : Addr} {vs : List Value} {j : Int32} {x : Int32} (F : Lst Z h a .char vs) (hj : Inb j vs.length) (hd : decode bytes pc = .ok (.castore, 1)) (hp : pc + 1 = pc') (hws : a ∈ ws ∨ h0.size ≤ a)
    (k : ∀ T' h', Here p l e R s m args below meth c y bytes maxL ret Z h0 ws T' cells slots h' → Wr h h' a j.toInt.toNat (.int (nar .char x)) → Runs p e below (T'.setTop (mkF m pc' Ls St)) G) : Runs p e below (T.setTop (mkF m pc Ls (.int x :: .int j :: .ref a :: St))) G := by
  subst hp
  obtain ⟨cl, A, r, -⟩ := F
  exact X.stepW hws (fun _ hx hb' _ hZ _ eT S => stC S hx hZ eT A (j := j) (in_of_ins r hj) (g := mkF m pc Ls (.int x :: .int j :: .ref a :: St)) rfl rfl (hb hb' hd)) k
theorem Here.bastore (X : Here p l e R s m args below meth c y bytes maxL ret Z h0 ws T cells slots h) {pc pc' : Nat} {Ls : Array Slot} {St : List Value} {a : Addr} {vs : List Value} {j : Int32} {x : Int32} (F : Lst Z h a .byte vs) (hj : Inb j vs.length) (hd : decode bytes pc = .ok (.bastore, 1)) (hp : pc + 1 = pc') (hws : a ∈ ws ∨ h0.size ≤ a)
    (k : ∀ T' h', Here p l e R s m args below meth c y bytes maxL ret Z h0 ws T' cells slots h' → Wr h h' a j.toInt.toNat (.int x.toInt8.toInt32) → Runs p e below (T'.setTop (mkF m pc' Ls St)) G) : Runs p e below (T.setTop (mkF m pc Ls (.int x :: .int j :: .ref a :: St))) G := by
  subst hp
  obtain ⟨cl, A, r, -⟩ := F
  exact X.stepW hws (fun _ hx hb' _ hZ _ eT S => stB S hx hZ eT A (j := j) (in_of_ins r hj) (g := mkF m pc Ls (.int x :: .int j :: .ref a :: St)) rfl rfl (hb hb' hd)) k
/-! calls by a contract -/
variable {y' : MethodName} {bytes' : ByteArray} {maxL' : Nat} {ret' : Option FieldType} {rm : Room} {as : Array Value} {ws' : List Addr} {Q : Option Value → Heap → Prop}
theorem backCt (X : Here p l e R s m args below meth c y bytes maxL ret Z h0 ws T cells slots h) {len W : Nat} (hM : Ct l Z y' bytes' maxL' ret' rm as h ws' Q) (wc : (Jvm.Cond.code y' bytes' maxL' ret').before a0 Z = true) (wz : (Jvm.Cond.initialized y'.cls).before a0 Z = true) (hf : rm.frames + 1 ≤ R.frames) (hl : W + (maxL' + 11) + rm.locals ≤ R.locals) :
    Back l R p e below s args y' len W (fun A a => a = as ∧ A.U.heap = h ∧ A.cells + rm.cells ≤ R.cells ∧ A.slots + rm.slots ≤ R.slots)
      (fun A _ v B => ∃ L, (Q v B.U.heap ∧ Keep h B.U.heap ws' ∧ Wrote h ws' L) ∧ B.locs = A.locs ++ L ∧ B.cells = A.cells + rm.cells ∧ B.slots = A.slots + rm.slots) :=
  backOf (Q := fun v h' L => Q v h' ∧ Keep h h' ws' ∧ Wrote h ws' L) (hM []) X.hZ wc wz hf hl
theorem Here.back (X : Here p l e R s m args below meth c y bytes maxL ret Z h0 ws T cells slots h) {U : State} {locs : List Loc} {h' : Heap} {L : List Loc} (N : Wrote h0 ws locs) (hU : Stand p l e R s m args below meth c U (locs ++ L) (cells + rm.cells) (slots + rm.slots)) (e' : U.heap = h') (K : Keep h h' ws') (N' : Wrote h ws' L) (hws : ∀ x ∈ ws', x ∈ ws ∨ h0.size ≤ x) :
    Here p l e R s m args below meth c y bytes maxL ret Z h0 ws U (cells + rm.cells) (slots + rm.slots) h' :=
  ⟨X.1, e', X.keep.trans K hws, _, hU, N.app N' X.size hws⟩
theorem Here.callS (X : Here p l e R s m args below meth c y bytes maxL ret Z h0 ws T cells slots h) {pc pc' : Nat} {Ls : Array Slot} {St : List Value} {i : Nat} {sig : MethodDescriptor} {argsL rest : List Value} (hM : Ct l Z y' bytes' maxL' ret' rm as h ws' Q) (w1 : (Jvm.Cond.methodLink y.cls i y').before a0 Z = true) (w2 : (Jvm.Cond.static y').before a0 Z = true) (w3 : (Jvm.Cond.initialized y'.cls).before a0 Z = true) (w4 : (Jvm.Cond.code y' bytes' maxL' ret').before a0 Z = true)
    (hy : y'.cls ≠ "java/lang/invoke/MethodHandle" ∧ y'.cls ≠ "java/lang/invoke/VarHandle") (hsig : parseMethodDescriptor y'.desc = some sig) (hlen : argsL.length = sig.parameters.length) (has : argsL.toArray = as) (hst : St = argsL.reverse ++ rest) (hsz : Ls.size = maxL) (hd : decode bytes pc = .ok (.invokestatic i, 3)) (hp : pc + 3 = pc')
    (hf : rm.frames + 1 ≤ R.frames) {W : Nat} (hW : (rest.map fun v => v.category).sum = W) (hl : W + (maxL' + 11) + rm.locals ≤ R.locals) (hc : cells + rm.cells ≤ R.cells) (hs : slots + rm.slots ≤ R.slots) (hws : ∀ x ∈ ws', x ∈ ws ∨ h0.size ≤ x)
    (k : ∀ T' h' v, Here p l e R s m args below meth c y bytes maxL ret Z h0 ws T' (cells + rm.cells) (slots + rm.slots) h' → Keep h h' ws' → Q v h' → Runs p e below (T'.setTop (mkF m pc' Ls (v.toList ++ rest))) G) : Runs p e below (T.setTop (mkF m pc Ls St)) G := by
  subst hp hst
  have X' := X
  obtain ⟨⟨x1, x2, x3, x4, x5, x6, x7, x8⟩, x9, x10, locs, S, N⟩ := X
  obtain ⟨v, vm₁, ⟨U, lo, ce, sl⟩, -, SU, ⟨Lc, hQ, z1, z2, z3⟩, st⟩ := Jvm.LawKit.callS S x1 (y := y') x5 (mvT x2 w1) (mvT x2 w2) (mvT x2 w3) (mvT x2 w4) hy (backCt X' hM w4 w3 hf hl) (g := mkF m pc Ls (argsL.reverse ++ rest)) rfl (hsz.trans x4.symm) (argsL := argsL) (rest := rest) (lenOf hsig hlen) rfl (by show 2 * 0 + _ ≤ _; rw [hW]; omega) (hb x3 hd) (fun _ _ => ⟨has, x9, hc, hs⟩)
  dsimp only [Pt.U, Pt.locs, Pt.cells, Pt.slots] at SU z1 z2 z3 st hQ
  subst z1 z2 z3
  exact (k U _ v (X'.back N SU rfl hQ.2.1 hQ.2.2 hws) hQ.2.1 hQ.1).of st
theorem Here.special (X : Here p l e R s m args below meth c y bytes maxL ret Z h0 ws T cells slots h) {pc pc' : Nat} {Ls : Array Slot} {St : List Value} {i : Nat} {sig : MethodDescriptor} {a : Addr} {argsL rest : List Value} (hM : Ct l Z y' bytes' maxL' none rm as h ws' Q) (hin : y'.name = "<init>") (w1 : (Jvm.Cond.methodLink y.cls i y').before a0 Z = true) (w2 : (Jvm.Cond.instanceMethod y').before a0 Z = true) (w3 : (Jvm.Cond.initialized y'.cls).before a0 Z = true) (w4 : (Jvm.Cond.code y' bytes' maxL' none).before a0 Z = true)
    (hy : y'.cls ≠ "java/lang/invoke/MethodHandle" ∧ y'.cls ≠ "java/lang/invoke/VarHandle") (hsig : parseMethodDescriptor y'.desc = some sig) (hlen : argsL.length = sig.parameters.length) (has : (.ref a :: argsL).toArray = as) (hst : St = argsL.reverse ++ .ref a :: rest) (hsz : Ls.size = maxL) (hd : decode bytes pc = .ok (.invokespecial i, 3)) (hp : pc + 3 = pc')
    (hf : rm.frames + 1 ≤ R.frames) {W : Nat} (hW : (rest.map fun v => v.category).sum = W) (hl : W + (maxL' + 11) + rm.locals ≤ R.locals) (hc : cells + rm.cells ≤ R.cells) (hs : slots + rm.slots ≤ R.slots) (hws : ∀ x ∈ ws', x ∈ ws ∨ h0.size ≤ x)
    (k : ∀ T' h' v, Here p l e R s m args below meth c y bytes maxL ret Z h0 ws T' (cells + rm.cells) (slots + rm.slots) h' → Keep h h' ws' → Q v h' → Runs p e below (T'.setTop (mkF m pc' Ls (v.toList ++ rest))) G) : Runs p e below (T.setTop (mkF m pc Ls St)) G := by
  subst hp hst
  have X' := X
  obtain ⟨⟨x1, x2, x3, x4, x5, x6, x7, x8⟩, x9, x10, locs, S, N⟩ := X
  obtain ⟨v, vm₁, ⟨U, lo, ce, sl⟩, -, SU, ⟨Lc, hQ, z1, z2, z3⟩, st⟩ := S.specialBack x1 (y := y') hin x5 (mvT x2 w1) (mvT x2 w2) (mvT x2 w4) hy (backCt X' hM w4 w3 hf hl) (g := mkF m pc Ls (argsL.reverse ++ .ref a :: rest)) rfl (hsz.trans x4.symm) (Steps.refl _) (a := a) (argsL := argsL) (rest := rest) (lenOf hsig hlen) rfl (by show 2 * 0 + _ ≤ _; rw [hW]; omega) (hb x3 hd) (fun _ _ => ⟨has, x9, hc, hs⟩)
  dsimp only [Pt.U, Pt.locs, Pt.cells, Pt.slots] at SU z1 z2 z3 st hQ
  subst z1 z2 z3
  exact (k U _ v (X'.back N SU rfl hQ.2.1 hQ.2.2 hws) hQ.2.1 hQ.1).via st
theorem Here.virtual (X : Here p l e R s m args below meth c y bytes maxL ret Z h0 ws T cells slots h) {pc pc' : Nat} {Ls : Array Slot} {St : List Value} {i : Nat} {yr : MethodName} {C : String} {sig : MethodDescriptor} {a : Addr} {argsL rest : List Value} (hM : Ct l Z y' bytes' maxL' ret' rm as h ws' Q) (w1 : (Jvm.Cond.methodLink y.cls i yr).before a0 Z = true) (w5 : (Jvm.Cond.declares yr).before a0 Z = true) (nf : ∀ args, (Jvm.Cond.selects C yr y').before args s = true → NotFace s yr) (w6 : (Jvm.Cond.selects C yr y').before a0 Z = true) (w2 : (Jvm.Cond.instanceMethod y').before a0 Z = true) (w3 : (Jvm.Cond.initialized y'.cls).before a0 Z = true) (w4 : (Jvm.Cond.code y' bytes' maxL' ret').before a0 Z = true)
    (hy : yr.cls ≠ "java/lang/invoke/MethodHandle" ∧ yr.cls ≠ "java/lang/invoke/VarHandle") (E : Exa Z h a C) (hsig : parseMethodDescriptor yr.desc = some sig) (hlen : argsL.length = sig.parameters.length) (has : (.ref a :: argsL).toArray = as) (hst : St = argsL.reverse ++ .ref a :: rest) (hsz : Ls.size = maxL) (hd : decode bytes pc = .ok (.invokevirtual i, 3)) (hp : pc + 3 = pc')
    (hf : rm.frames + 1 ≤ R.frames) {W : Nat} (hW : (rest.map fun v => v.category).sum = W) (hl : W + (maxL' + 11) + rm.locals ≤ R.locals) (hc : cells + rm.cells ≤ R.cells) (hs : slots + rm.slots ≤ R.slots) (hws : ∀ x ∈ ws', x ∈ ws ∨ h0.size ≤ x)
    (k : ∀ T' h' v, Here p l e R s m args below meth c y bytes maxL ret Z h0 ws T' (cells + rm.cells) (slots + rm.slots) h' → Keep h h' ws' → Q v h' → Runs p e below (T'.setTop (mkF m pc' Ls (v.toList ++ rest))) G) : Runs p e below (T.setTop (mkF m pc Ls St)) G := by
  subst hp hst
  have X' := X
  obtain ⟨⟨x1, x2, x3, x4, x5, x6, x7, x8⟩, x9, x10, locs, S, N⟩ := X
  obtain ⟨cq, kq, q1, q2, q3⟩ := isOf (T := T) x2 x9 E
  obtain ⟨v, vm₁, ⟨U, lo, ce, sl⟩, -, SU, ⟨Lc, hQ, z1, z2, z3⟩, st⟩ := S.virtualBack x1 (y := yr) (z := y') x5 (mvT x2 w1) (mvT x2 w5) (nf args (mvT x2 w6)) (mvT x2 w6) (mvT x2 w2) hy (backCt X' hM w4 w3 hf hl) q1 q3 (g := mkF m pc Ls (argsL.reverse ++ .ref a :: rest)) rfl (hsz.trans x4.symm) (Steps.refl _) (argsL := argsL) (rest := rest) (lenOf hsig hlen) rfl (by show 2 * 0 + _ ≤ _; rw [hW]; omega) (hb x3 hd) (fun _ _ => ⟨has, x9, hc, hs⟩)
  dsimp only [Pt.U, Pt.locs, Pt.cells, Pt.slots] at SU z1 z2 z3 st hQ
  subst z1 z2 z3
  exact (k U _ v (X'.back N SU rfl hQ.2.1 hQ.2.2 hws) hQ.2.1 hQ.1).via st
theorem Here.priv (X : Here p l e R s m args below meth c y bytes maxL ret Z h0 ws T cells slots h) {pc pc' : Nat} {Ls : Array Slot} {St : List Value} {i : Nat} {C : String} {sig : MethodDescriptor} {a : Addr} {argsL rest : List Value} (hM : Ct l Z y' bytes' maxL' ret' rm as h ws' Q) (w1 : (Jvm.Cond.methodLink y.cls i y').before a0 Z = true) (w6 : (Jvm.Cond.selects y'.cls y' y').before a0 Z = true) (w7 : (Jvm.Cond.privateMethod y').before a0 Z = true) (w2 : (Jvm.Cond.instanceMethod y').before a0 Z = true) (w3 : (Jvm.Cond.initialized y'.cls).before a0 Z = true) (w4 : (Jvm.Cond.code y' bytes' maxL' ret').before a0 Z = true)
    (hy : y'.cls ≠ "java/lang/invoke/MethodHandle" ∧ y'.cls ≠ "java/lang/invoke/VarHandle") (E : Exa Z h a C) (hsig : parseMethodDescriptor y'.desc = some sig) (hlen : argsL.length = sig.parameters.length) (has : (.ref a :: argsL).toArray = as) (hst : St = argsL.reverse ++ .ref a :: rest) (hsz : Ls.size = maxL) (hd : decode bytes pc = .ok (.invokevirtual i, 3)) (hp : pc + 3 = pc')
    (hf : rm.frames + 1 ≤ R.frames) {W : Nat} (hW : (rest.map fun v => v.category).sum = W) (hl : W + (maxL' + 11) + rm.locals ≤ R.locals) (hc : cells + rm.cells ≤ R.cells) (hs : slots + rm.slots ≤ R.slots) (hws : ∀ x ∈ ws', x ∈ ws ∨ h0.size ≤ x)
    (k : ∀ T' h' v, Here p l e R s m args below meth c y bytes maxL ret Z h0 ws T' (cells + rm.cells) (slots + rm.slots) h' → Keep h h' ws' → Q v h' → Runs p e below (T'.setTop (mkF m pc' Ls (v.toList ++ rest))) G) : Runs p e below (T.setTop (mkF m pc Ls St)) G := by
  subst hp hst
  have X' := X
  obtain ⟨⟨x1, x2, x3, x4, x5, x6, x7, x8⟩, x9, x10, locs, S, N⟩ := X
  obtain ⟨cq, q1, q2⟩ := E.cell
  obtain ⟨v, vm₁, ⟨U, lo, ce, sl⟩, -, SU, ⟨Lc, hQ, z1, z2, z3⟩, st⟩ := S.privateBack x1 (y := y') x5 (mvT x2 w1) (mvT x2 w2) (mvT x2 w6) (Cond.privateMethod_at (mvP x2 w7 (args := #[]))) (mvT x2 w4) hy (backCt X' hM w4 w3 hf hl) (g := mkF m pc Ls (argsL.reverse ++ .ref a :: rest)) rfl (hsz.trans x4.symm) (Steps.refl _) (a := a) (by rw [x9]; exact q1) q2 (argsL := argsL) (rest := rest) (lenOf hsig hlen) rfl (by show 2 * 0 + _ ≤ _; rw [hW]; omega) (hb x3 hd) (fun _ _ => ⟨has, x9, hc, hs⟩)
  dsimp only [Pt.U, Pt.locs, Pt.cells, Pt.slots] at SU z1 z2 z3 st hQ
  subst z1 z2 z3
  exact (k U _ v (X'.back N SU rfl hQ.2.1 hQ.2.2 hws) hQ.2.1 hQ.1).via st

/-! the returns -/
theorem Here.leave (X : Here p l e R s m args below meth c y bytes maxL ret Z h0 ws T cells slots h) {Q : Option Value → Heap → Prop} {rm : Room} {g : JFrame} {v : Option Value} (hv : ret = none → v = none) (hc : cells ≤ rm.cells) (hs : slots ≤ rm.slots) (hq : Q v h)
    (st : ∀ locs fs, p.tables.exec = Jvm.exec → c.code = bytes → meth.sig.returnType = ret → Stand p l e R s m args below meth c T locs cells slots → (∀ (f : JFrame) (acts : List Action), f.method = m → f.locked = none → f.entered = [] → (doReturn e (T.setTop f) acts v).1 = T.setFrames fs) → Steps p.tables e below (T.setTop g) (T.setFrames fs)) :
    Runs p e below (T.setTop g) (Out s h0 ws rm Q) := by
  obtain ⟨⟨x1, x2, x3, x4, x5, x6, x7, x8⟩, x9, x10, locs, S, N⟩ := X
  obtain ⟨fs, hr, hrun, hended, hW, hsame⟩ := S.leave (v := v) (fun h => hv (x7 ▸ h)) x8
  refine ⟨_, _, st locs fs x1 x3 x7 S hr, hrun, hended, v, locs, rfl, ⟨?_, ?_, N⟩, ⟨_, rfl⟩, hW, hsame.mono hc hs⟩
  · show Q v T.heap; rw [x9]; exact hq
  · show Keep h0 T.heap ws; rw [x9]; exact x10
theorem Here.ireturn (X : Here p l e R s m args below meth c y bytes maxL ret Z h0 ws T cells slots h) {Q : Option Value → Heap → Prop} {rm : Room} {pc : Nat} {Ls : Array Slot} {St : List Value} {z : Int32} (hr : ret = some .int) (hd : decode bytes pc = .ok (.ireturn, 1)) (hc : cells ≤ rm.cells) (hs : slots ≤ rm.slots) (hq : Q (some (.int z)) h) : Runs p e below (T.setTop (mkF m pc Ls (.int z :: St))) (Out s h0 ws rm Q) := by
  subst hr
  exact X.leave (fun h => nomatch h) hc hs hq fun _ _ hx hb' hret S hl => retOut S hx hret rfl (Or.inl ⟨rfl, Or.inl rfl, _, rfl⟩) (hb hb' hd) hl
theorem Here.zreturn (X : Here p l e R s m args below meth c y bytes maxL ret Z h0 ws T cells slots h) {Q : Option Value → Heap → Prop} {rm : Room} {pc : Nat} {Ls : Array Slot} {St : List Value} {z z' : Int32} {t : FieldType} (hr : ret = some t) (ht : t = .boolean ∨ t = .byte ∨ t = .char ∨ t = .short) (hd : decode bytes pc = .ok (.ireturn, 1)) (hz : nar t z = z') (hc : cells ≤ rm.cells) (hs : slots ≤ rm.slots) (hq : Q (some (.int z')) h) : Runs p e below (T.setTop (mkF m pc Ls (.int z :: St))) (Out s h0 ws rm Q) := by
  subst hr hz
  exact X.leave (fun h => nomatch h) hc hs hq fun _ _ hx hb' hret S hl => retN S hx hret ht (hb hb' hd) hl
theorem Here.lreturn (X : Here p l e R s m args below meth c y bytes maxL ret Z h0 ws T cells slots h) {Q : Option Value → Heap → Prop} {rm : Room} {pc : Nat} {Ls : Array Slot} {St : List Value} {z : Int64} (hr : ret = some .long) (hd : decode bytes pc = .ok (.lreturn, 1)) (hc : cells ≤ rm.cells) (hs : slots ≤ rm.slots) (hq : Q (some (.long z)) h) : Runs p e below (T.setTop (mkF m pc Ls (.long z :: St))) (Out s h0 ws rm Q) := by
  subst hr
  exact X.leave (fun h => nomatch h) hc hs hq fun _ _ hx hb' hret S hl => retOut S hx hret rfl (Or.inr (Or.inl ⟨rfl, rfl, _, rfl⟩)) (hb hb' hd) hl
theorem Here.areturn (X : Here p l e R s m args below meth c y bytes maxL ret Z h0 ws T cells slots h) {Q : Option Value → Heap → Prop} {rm : Room} {pc : Nat} {Ls : Array Slot} {St : List Value} {v : Value} {t : FieldType} (hr : ret = some t) (ht : t.isReference = true) (hv : v.isRef = true) (hn : narrow t v = v) (hd : decode bytes pc = .ok (.areturn, 1)) (hc : cells ≤ rm.cells) (hs : slots ≤ rm.slots) (hq : Q (some v) h) : Runs p e below (T.setTop (mkF m pc Ls (v :: St))) (Out s h0 ws rm Q) := by
  subst hr
  exact X.leave (fun h => nomatch h) hc hs hq fun _ _ hx hb' hret S hl => retOut S hx hret hn (Or.inr (Or.inr (Or.inr (Or.inr ⟨rfl, ht, hv⟩)))) (hb hb' hd) hl
theorem Here.vreturn (X : Here p l e R s m args below meth c y bytes maxL ret Z h0 ws T cells slots h) {Q : Option Value → Heap → Prop} {rm : Room} {pc : Nat} {Ls : Array Slot} (hr : ret = none) (hd : decode bytes pc = .ok (.return_, 1)) (hc : cells ≤ rm.cells) (hs : slots ≤ rm.slots) (hq : Q none h) : Runs p e below (T.setTop (mkF m pc Ls [])) (Out s h0 ws rm Q) := by
  subst hr
  exact X.leave (fun _ => rfl) hc hs hq fun _ _ hx hb' hret S hl => S.returnOut hx hret (hb hb' hd) hl
end B
end Jvm.Own
namespace Jvm.Pilot.@@N@@
open Jvm Jvm.ClassFile Sem Op Lib Jvm.Free Jvm.Stand Jvm.LawKit Jvm.RoadKit Bundle Jvm.Own Jvm.Pilot.@@N@@.Jvm.D
abbrev y1 : MethodName := ⟨"com/example/stacks_in_time/stacksintime/LongIntMap", "<init>", "()V"⟩
abbrev y2 : MethodName := ⟨"java/lang/Object", "<init>", "()V"⟩
abbrev y3 : MethodName := ⟨"java/util/Arrays", "fill", "([II)V"⟩
abbrev y4 : MethodName := ⟨"com/example/stacks_in_time/stacksintime/LongIntMapGetPinLaw", "expectedValue", "(JIJJJIII)I"⟩
abbrev y5 : MethodName := ⟨"com/example/stacks_in_time/stacksintime/LongIntMap", "get", "(J)I"⟩
abbrev y6 : MethodName := ⟨"com/example/stacks_in_time/stacksintime/LongIntMap", "slot", "(JI)I"⟩
abbrev y7 : MethodName := ⟨"com/example/stacks_in_time/stacksintime/LongIntMap", "putIfAbsent", "(JI)I"⟩
theorem pd_0 : parseMethodDescriptor "(JI)I" = some ⟨[.long, .int], some .int⟩ := by decide +kernel
theorem pd_1 : parseMethodDescriptor "([II)V" = some ⟨[(.array .int), .int], none⟩ := by decide +kernel
theorem pd_2 : parseMethodDescriptor "()V" = some ⟨[], none⟩ := by decide +kernel
theorem pd_3 : parseMethodDescriptor "(JIJJJIII)I" = some ⟨[.long, .int, .long, .long, .long, .int, .int, .int], some .int⟩ := by decide +kernel
theorem pd_4 : parseMethodDescriptor "(J)I" = some ⟨[.long], some .int⟩ := by decide +kernel
theorem wd_0 {a0 : Array Value} {Z : State} (hw : ∀ d ∈ tables_1, d.before a0 Z = true) : (Jvm.Cond.constant "com/example/stacks_in_time/stacksintime/LongIntMapGetPinLaw" (7 : Nat) (2147483647 : Int32)).before a0 Z = true := hw _ (List.mem_of_getElem? (i := 0) rfl)
theorem wd_1 {a0 : Array Value} {Z : State} (hw : ∀ d ∈ tables_1, d.before a0 Z = true) : (Jvm.Cond.classLink "com/example/stacks_in_time/stacksintime/LongIntMapGetPinLaw" (8 : Nat) "com/example/stacks_in_time/stacksintime/LongIntMap").before a0 Z = true := hw _ (List.mem_of_getElem? (i := 1) rfl)
theorem wd_2 {a0 : Array Value} {Z : State} (hw : ∀ d ∈ tables_1, d.before a0 Z = true) : (Jvm.Cond.instantiable "com/example/stacks_in_time/stacksintime/LongIntMap" (3 : Nat)).before a0 Z = true := hw _ (List.mem_of_getElem? (i := 2) rfl)
theorem wd_3 {a0 : Array Value} {Z : State} (hw : ∀ d ∈ tables_1, d.before a0 Z = true) : (Jvm.Cond.initialized "com/example/stacks_in_time/stacksintime/LongIntMap").before a0 Z = true := hw _ (List.mem_of_getElem? (i := 3) rfl)
theorem wd_4 {a0 : Array Value} {Z : State} (hw : ∀ d ∈ tables_1, d.before a0 Z = true) : (Jvm.Cond.methodLink "com/example/stacks_in_time/stacksintime/LongIntMapGetPinLaw" (10 : Nat) ({ cls := "com/example/stacks_in_time/stacksintime/LongIntMap", name := "<init>", desc := "()V" } : Jvm.MethodName)).before a0 Z = true := hw _ (List.mem_of_getElem? (i := 4) rfl)
theorem wd_5 {a0 : Array Value} {Z : State} (hw : ∀ d ∈ tables_1, d.before a0 Z = true) : (Jvm.Cond.instanceMethod ({ cls := "com/example/stacks_in_time/stacksintime/LongIntMap", name := "<init>", desc := "()V" } : Jvm.MethodName)).before a0 Z = true := hw _ (List.mem_of_getElem? (i := 5) rfl)
theorem wd_6 {a0 : Array Value} {Z : State} (hw : ∀ d ∈ tables_1, d.before a0 Z = true) : (Jvm.Cond.code ({ cls := "com/example/stacks_in_time/stacksintime/LongIntMap", name := "<init>", desc := "()V" } : Jvm.MethodName) prog_81_method_1_code (1 : Nat) (Option.none : Option Jvm.ClassFile.FieldType)).before a0 Z = true := hw _ (List.mem_of_getElem? (i := 6) rfl)
theorem wd_7 {a0 : Array Value} {Z : State} (hw : ∀ d ∈ tables_1, d.before a0 Z = true) : (Jvm.Cond.methodLink "com/example/stacks_in_time/stacksintime/LongIntMap" (1 : Nat) ({ cls := "java/lang/Object", name := "<init>", desc := "()V" } : Jvm.MethodName)).before a0 Z = true := hw _ (List.mem_of_getElem? (i := 7) rfl)
theorem wd_8 {a0 : Array Value} {Z : State} (hw : ∀ d ∈ tables_1, d.before a0 Z = true) : (Jvm.Cond.instanceMethod ({ cls := "java/lang/Object", name := "<init>", desc := "()V" } : Jvm.MethodName)).before a0 Z = true := hw _ (List.mem_of_getElem? (i := 8) rfl)
theorem wd_9 {a0 : Array Value} {Z : State} (hw : ∀ d ∈ tables_1, d.before a0 Z = true) : (Jvm.Cond.code ({ cls := "java/lang/Object", name := "<init>", desc := "()V" } : Jvm.MethodName) object_method_1_code (1 : Nat) (Option.none : Option Jvm.ClassFile.FieldType)).before a0 Z = true := hw _ (List.mem_of_getElem? (i := 9) rfl)
theorem wd_10 {a0 : Array Value} {Z : State} (hw : ∀ d ∈ tables_1, d.before a0 Z = true) : (Jvm.Cond.arrayClass Jvm.ClassFile.FieldType.long).before a0 Z = true := hw _ (List.mem_of_getElem? (i := 10) rfl)
theorem wd_11 {a0 : Array Value} {Z : State} (hw : ∀ d ∈ tables_1, d.before a0 Z = true) : (Jvm.Cond.fieldLink "com/example/stacks_in_time/stacksintime/LongIntMap" (7 : Nat) "com/example/stacks_in_time/stacksintime/LongIntMap" "keys" "[J").before a0 Z = true := hw _ (List.mem_of_getElem? (i := 11) rfl)
theorem wd_12 {a0 : Array Value} {Z : State} (hw : ∀ d ∈ tables_1, d.before a0 Z = true) : (Jvm.Cond.lays "com/example/stacks_in_time/stacksintime/LongIntMap" "com/example/stacks_in_time/stacksintime/LongIntMap" "keys" "[J").before a0 Z = true := hw _ (List.mem_of_getElem? (i := 12) rfl)
theorem wd_13 {a0 : Array Value} {Z : State} (hw : ∀ d ∈ tables_1, d.before a0 Z = true) : (Jvm.Cond.arrayClass Jvm.ClassFile.FieldType.int).before a0 Z = true := hw _ (List.mem_of_getElem? (i := 13) rfl)
theorem wd_14 {a0 : Array Value} {Z : State} (hw : ∀ d ∈ tables_1, d.before a0 Z = true) : (Jvm.Cond.fieldLink "com/example/stacks_in_time/stacksintime/LongIntMap" (13 : Nat) "com/example/stacks_in_time/stacksintime/LongIntMap" "values" "[I").before a0 Z = true := hw _ (List.mem_of_getElem? (i := 14) rfl)
theorem wd_15 {a0 : Array Value} {Z : State} (hw : ∀ d ∈ tables_1, d.before a0 Z = true) : (Jvm.Cond.lays "com/example/stacks_in_time/stacksintime/LongIntMap" "com/example/stacks_in_time/stacksintime/LongIntMap" "values" "[I").before a0 Z = true := hw _ (List.mem_of_getElem? (i := 15) rfl)
theorem wd_16 {a0 : Array Value} {Z : State} (hw : ∀ d ∈ tables_1, d.before a0 Z = true) : (Jvm.Cond.methodLink "com/example/stacks_in_time/stacksintime/LongIntMap" (17 : Nat) ({ cls := "java/util/Arrays", name := "fill", desc := "([II)V" } : Jvm.MethodName)).before a0 Z = true := hw _ (List.mem_of_getElem? (i := 16) rfl)
theorem wd_17 {a0 : Array Value} {Z : State} (hw : ∀ d ∈ tables_1, d.before a0 Z = true) : (Jvm.Cond.static ({ cls := "java/util/Arrays", name := "fill", desc := "([II)V" } : Jvm.MethodName)).before a0 Z = true := hw _ (List.mem_of_getElem? (i := 17) rfl)
theorem wd_18 {a0 : Array Value} {Z : State} (hw : ∀ d ∈ tables_1, d.before a0 Z = true) : (Jvm.Cond.initialized "java/util/Arrays").before a0 Z = true := hw _ (List.mem_of_getElem? (i := 18) rfl)
theorem wd_19 {a0 : Array Value} {Z : State} (hw : ∀ d ∈ tables_1, d.before a0 Z = true) : (Jvm.Cond.code ({ cls := "java/util/Arrays", name := "fill", desc := "([II)V" } : Jvm.MethodName) jdk_65_method_103_code (4 : Nat) (Option.none : Option Jvm.ClassFile.FieldType)).before a0 Z = true := hw _ (List.mem_of_getElem? (i := 19) rfl)
theorem wd_20 {a0 : Array Value} {Z : State} (hw : ∀ d ∈ tables_1, d.before a0 Z = true) : (Jvm.Cond.methodLink "com/example/stacks_in_time/stacksintime/LongIntMapGetPinLaw" (15 : Nat) ({ cls := "com/example/stacks_in_time/stacksintime/LongIntMapGetPinLaw", name := "expectedValue", desc := "(JIJJJIII)I" } : Jvm.MethodName)).before a0 Z = true := hw _ (List.mem_of_getElem? (i := 20) rfl)
theorem wd_21 {a0 : Array Value} {Z : State} (hw : ∀ d ∈ tables_1, d.before a0 Z = true) : (Jvm.Cond.static ({ cls := "com/example/stacks_in_time/stacksintime/LongIntMapGetPinLaw", name := "expectedValue", desc := "(JIJJJIII)I" } : Jvm.MethodName)).before a0 Z = true := hw _ (List.mem_of_getElem? (i := 21) rfl)
theorem wd_22 {a0 : Array Value} {Z : State} (hw : ∀ d ∈ tables_1, d.before a0 Z = true) : (Jvm.Cond.initialized "com/example/stacks_in_time/stacksintime/LongIntMapGetPinLaw").before a0 Z = true := hw _ (List.mem_of_getElem? (i := 22) rfl)
theorem wd_23 {a0 : Array Value} {Z : State} (hw : ∀ d ∈ tables_1, d.before a0 Z = true) : (Jvm.Cond.code ({ cls := "com/example/stacks_in_time/stacksintime/LongIntMapGetPinLaw", name := "expectedValue", desc := "(JIJJJIII)I" } : Jvm.MethodName) method_3_code (12 : Nat) (Option.some Jvm.ClassFile.FieldType.int)).before a0 Z = true := hw _ (List.mem_of_getElem? (i := 23) rfl)
theorem wd_24 {a0 : Array Value} {Z : State} (hw : ∀ d ∈ tables_1, d.before a0 Z = true) : (Jvm.Cond.methodLink "com/example/stacks_in_time/stacksintime/LongIntMapGetPinLaw" (21 : Nat) ({ cls := "com/example/stacks_in_time/stacksintime/LongIntMap", name := "get", desc := "(J)I" } : Jvm.MethodName)).before a0 Z = true := hw _ (List.mem_of_getElem? (i := 24) rfl)
theorem wd_25 {a0 : Array Value} {Z : State} (hw : ∀ d ∈ tables_1, d.before a0 Z = true) : (Jvm.Cond.declares ({ cls := "com/example/stacks_in_time/stacksintime/LongIntMap", name := "get", desc := "(J)I" } : Jvm.MethodName)).before a0 Z = true := hw _ (List.mem_of_getElem? (i := 25) rfl)
theorem wd_26 {a0 : Array Value} {Z : State} (hw : ∀ d ∈ tables_1, d.before a0 Z = true) : (Jvm.Cond.instanceMethod ({ cls := "com/example/stacks_in_time/stacksintime/LongIntMap", name := "get", desc := "(J)I" } : Jvm.MethodName)).before a0 Z = true := hw _ (List.mem_of_getElem? (i := 26) rfl)
theorem wd_27 {a0 : Array Value} {Z : State} (hw : ∀ d ∈ tables_1, d.before a0 Z = true) : (Jvm.Cond.selects "com/example/stacks_in_time/stacksintime/LongIntMap" ({ cls := "com/example/stacks_in_time/stacksintime/LongIntMap", name := "get", desc := "(J)I" } : Jvm.MethodName) ({ cls := "com/example/stacks_in_time/stacksintime/LongIntMap", name := "get", desc := "(J)I" } : Jvm.MethodName)).before a0 Z = true := hw _ (List.mem_of_getElem? (i := 27) rfl)
theorem wd_28 {a0 : Array Value} {Z : State} (hw : ∀ d ∈ tables_1, d.before a0 Z = true) : (Jvm.Cond.code ({ cls := "com/example/stacks_in_time/stacksintime/LongIntMap", name := "get", desc := "(J)I" } : Jvm.MethodName) prog_81_method_3_code (4 : Nat) (Option.some Jvm.ClassFile.FieldType.int)).before a0 Z = true := hw _ (List.mem_of_getElem? (i := 28) rfl)
theorem wd_29 {a0 : Array Value} {Z : State} (hw : ∀ d ∈ tables_1, d.before a0 Z = true) : (Jvm.Cond.methodLink "com/example/stacks_in_time/stacksintime/LongIntMap" (27 : Nat) ({ cls := "com/example/stacks_in_time/stacksintime/LongIntMap", name := "slot", desc := "(JI)I" } : Jvm.MethodName)).before a0 Z = true := hw _ (List.mem_of_getElem? (i := 29) rfl)
theorem wd_30 {a0 : Array Value} {Z : State} (hw : ∀ d ∈ tables_1, d.before a0 Z = true) : (Jvm.Cond.static ({ cls := "com/example/stacks_in_time/stacksintime/LongIntMap", name := "slot", desc := "(JI)I" } : Jvm.MethodName)).before a0 Z = true := hw _ (List.mem_of_getElem? (i := 30) rfl)
theorem wd_31 {a0 : Array Value} {Z : State} (hw : ∀ d ∈ tables_1, d.before a0 Z = true) : (Jvm.Cond.code ({ cls := "com/example/stacks_in_time/stacksintime/LongIntMap", name := "slot", desc := "(JI)I" } : Jvm.MethodName) prog_81_method_6_code (3 : Nat) (Option.some Jvm.ClassFile.FieldType.int)).before a0 Z = true := hw _ (List.mem_of_getElem? (i := 31) rfl)
theorem wd_32 {a0 : Array Value} {Z : State} (hw : ∀ d ∈ tables_1, d.before a0 Z = true) : (Jvm.Cond.constantLong "com/example/stacks_in_time/stacksintime/LongIntMap" (43 : Nat) (-7046029254386353131 : Int64)).before a0 Z = true := hw _ (List.mem_of_getElem? (i := 32) rfl)
theorem wd_33 {a0 : Array Value} {Z : State} (hw : ∀ d ∈ tables_1, d.before a0 Z = true) : (Jvm.Cond.methodLink "com/example/stacks_in_time/stacksintime/LongIntMapGetPinLaw" (11 : Nat) ({ cls := "com/example/stacks_in_time/stacksintime/LongIntMap", name := "putIfAbsent", desc := "(JI)I" } : Jvm.MethodName)).before a0 Z = true := hw _ (List.mem_of_getElem? (i := 33) rfl)
theorem wd_34 {a0 : Array Value} {Z : State} (hw : ∀ d ∈ tables_1, d.before a0 Z = true) : (Jvm.Cond.declares ({ cls := "com/example/stacks_in_time/stacksintime/LongIntMap", name := "putIfAbsent", desc := "(JI)I" } : Jvm.MethodName)).before a0 Z = true := hw _ (List.mem_of_getElem? (i := 34) rfl)
theorem wd_35 {a0 : Array Value} {Z : State} (hw : ∀ d ∈ tables_1, d.before a0 Z = true) : (Jvm.Cond.instanceMethod ({ cls := "com/example/stacks_in_time/stacksintime/LongIntMap", name := "putIfAbsent", desc := "(JI)I" } : Jvm.MethodName)).before a0 Z = true := hw _ (List.mem_of_getElem? (i := 35) rfl)
theorem wd_36 {a0 : Array Value} {Z : State} (hw : ∀ d ∈ tables_1, d.before a0 Z = true) : (Jvm.Cond.selects "com/example/stacks_in_time/stacksintime/LongIntMap" ({ cls := "com/example/stacks_in_time/stacksintime/LongIntMap", name := "putIfAbsent", desc := "(JI)I" } : Jvm.MethodName) ({ cls := "com/example/stacks_in_time/stacksintime/LongIntMap", name := "putIfAbsent", desc := "(JI)I" } : Jvm.MethodName)).before a0 Z = true := hw _ (List.mem_of_getElem? (i := 36) rfl)
theorem wd_37 {a0 : Array Value} {Z : State} (hw : ∀ d ∈ tables_1, d.before a0 Z = true) : (Jvm.Cond.code ({ cls := "com/example/stacks_in_time/stacksintime/LongIntMap", name := "putIfAbsent", desc := "(JI)I" } : Jvm.MethodName) prog_81_method_4_code (6 : Nat) (Option.some Jvm.ClassFile.FieldType.int)).before a0 Z = true := hw _ (List.mem_of_getElem? (i := 37) rfl)
theorem wd_38 {a0 : Array Value} {Z : State} (hw : ∀ d ∈ tables_1, d.before a0 Z = true) : (Jvm.Cond.fieldLink "com/example/stacks_in_time/stacksintime/LongIntMap" (23 : Nat) "com/example/stacks_in_time/stacksintime/LongIntMap" "size" "I").before a0 Z = true := hw _ (List.mem_of_getElem? (i := 38) rfl)
theorem wd_39 {a0 : Array Value} {Z : State} (hw : ∀ d ∈ tables_1, d.before a0 Z = true) : (Jvm.Cond.lays "com/example/stacks_in_time/stacksintime/LongIntMap" "com/example/stacks_in_time/stacksintime/LongIntMap" "size" "I").before a0 Z = true := hw _ (List.mem_of_getElem? (i := 39) rfl)
theorem d1_0 : decode prog_81_method_1_code 0 = .ok (.aload_n 0, 1) := by decide +kernel
theorem d1_1 : decode prog_81_method_1_code 1 = .ok (.invokespecial 1, 3) := by decide +kernel
theorem d1_4 : decode prog_81_method_1_code 4 = .ok (.aload_n 0, 1) := by decide +kernel
theorem d1_5 : decode prog_81_method_1_code 5 = .ok (.bipush 16, 2) := by decide +kernel
theorem d1_7 : decode prog_81_method_1_code 7 = .ok (.newarray .long, 2) := by decide +kernel
theorem d1_9 : decode prog_81_method_1_code 9 = .ok (.putfield 7, 3) := by decide +kernel
theorem d1_12 : decode prog_81_method_1_code 12 = .ok (.aload_n 0, 1) := by decide +kernel
theorem d1_13 : decode prog_81_method_1_code 13 = .ok (.bipush 16, 2) := by decide +kernel
theorem d1_15 : decode prog_81_method_1_code 15 = .ok (.newarray .int, 2) := by decide +kernel
theorem d1_17 : decode prog_81_method_1_code 17 = .ok (.putfield 13, 3) := by decide +kernel
theorem d1_20 : decode prog_81_method_1_code 20 = .ok (.aload_n 0, 1) := by decide +kernel
theorem d1_21 : decode prog_81_method_1_code 21 = .ok (.getfield 13, 3) := by decide +kernel
theorem d1_24 : decode prog_81_method_1_code 24 = .ok (.iconst (-1), 1) := by decide +kernel
theorem d1_25 : decode prog_81_method_1_code 25 = .ok (.invokestatic 17, 3) := by decide +kernel
theorem d1_28 : decode prog_81_method_1_code 28 = .ok (.return_, 1) := by decide +kernel
theorem d3_0 : decode jdk_65_method_103_code 0 = .ok (.iconst 0, 1) := by decide +kernel
theorem d3_1 : decode jdk_65_method_103_code 1 = .ok (.istore_n 2, 1) := by decide +kernel
theorem d3_2 : decode jdk_65_method_103_code 2 = .ok (.aload_n 0, 1) := by decide +kernel
theorem d3_3 : decode jdk_65_method_103_code 3 = .ok (.arraylength, 1) := by decide +kernel
theorem d3_4 : decode jdk_65_method_103_code 4 = .ok (.istore_n 3, 1) := by decide +kernel
theorem d3_5 : decode jdk_65_method_103_code 5 = .ok (.iload_n 2, 1) := by decide +kernel
theorem d3_6 : decode jdk_65_method_103_code 6 = .ok (.iload_n 3, 1) := by decide +kernel
theorem d3_7 : decode jdk_65_method_103_code 7 = .ok (.if_icmp .ge 13, 3) := by decide +kernel
theorem d3_10 : decode jdk_65_method_103_code 10 = .ok (.aload_n 0, 1) := by decide +kernel
theorem d3_11 : decode jdk_65_method_103_code 11 = .ok (.iload_n 2, 1) := by decide +kernel
theorem d3_12 : decode jdk_65_method_103_code 12 = .ok (.iload_n 1, 1) := by decide +kernel
theorem d3_13 : decode jdk_65_method_103_code 13 = .ok (.iastore, 1) := by decide +kernel
theorem d3_14 : decode jdk_65_method_103_code 14 = .ok (.iinc 2 1, 3) := by decide +kernel
theorem d3_17 : decode jdk_65_method_103_code 17 = .ok (.goto (-12), 3) := by decide +kernel
theorem d3_20 : decode jdk_65_method_103_code 20 = .ok (.return_, 1) := by decide +kernel
theorem d4_0 : decode method_3_code 0 = .ok (.iload_n 2, 1) := by decide +kernel
theorem d4_1 : decode method_3_code 1 = .ok (.iconst 1, 1) := by decide +kernel
theorem d4_2 : decode method_3_code 2 = .ok (.if_icmp .lt 12, 3) := by decide +kernel
theorem d4_5 : decode method_3_code 5 = .ok (.lload_n 0, 1) := by decide +kernel
theorem d4_6 : decode method_3_code 6 = .ok (.lload_n 3, 1) := by decide +kernel
theorem d4_7 : decode method_3_code 7 = .ok (.lcmp, 1) := by decide +kernel
theorem d4_8 : decode method_3_code 8 = .ok (.ifCond .ne 6, 3) := by decide +kernel
theorem d4_11 : decode method_3_code 11 = .ok (.iload 9, 2) := by decide +kernel
theorem d4_13 : decode method_3_code 13 = .ok (.ireturn, 1) := by decide +kernel
theorem d4_14 : decode method_3_code 14 = .ok (.iload_n 2, 1) := by decide +kernel
theorem d4_15 : decode method_3_code 15 = .ok (.iconst 2, 1) := by decide +kernel
theorem d4_16 : decode method_3_code 16 = .ok (.if_icmp .lt 13, 3) := by decide +kernel
theorem d4_19 : decode method_3_code 19 = .ok (.lload_n 0, 1) := by decide +kernel
theorem d4_20 : decode method_3_code 20 = .ok (.lload 5, 2) := by decide +kernel
theorem d4_22 : decode method_3_code 22 = .ok (.lcmp, 1) := by decide +kernel
theorem d4_23 : decode method_3_code 23 = .ok (.ifCond .ne 6, 3) := by decide +kernel
theorem d4_26 : decode method_3_code 26 = .ok (.iload 10, 2) := by decide +kernel
theorem d4_28 : decode method_3_code 28 = .ok (.ireturn, 1) := by decide +kernel
theorem d4_29 : decode method_3_code 29 = .ok (.iload_n 2, 1) := by decide +kernel
theorem d4_30 : decode method_3_code 30 = .ok (.iconst 3, 1) := by decide +kernel
theorem d4_31 : decode method_3_code 31 = .ok (.if_icmp .lt 13, 3) := by decide +kernel
theorem d4_34 : decode method_3_code 34 = .ok (.lload_n 0, 1) := by decide +kernel
theorem d4_35 : decode method_3_code 35 = .ok (.lload 7, 2) := by decide +kernel
theorem d4_37 : decode method_3_code 37 = .ok (.lcmp, 1) := by decide +kernel
theorem d4_38 : decode method_3_code 38 = .ok (.ifCond .ne 6, 3) := by decide +kernel
theorem d4_41 : decode method_3_code 41 = .ok (.iload 11, 2) := by decide +kernel
theorem d4_43 : decode method_3_code 43 = .ok (.ireturn, 1) := by decide +kernel
theorem d4_44 : decode method_3_code 44 = .ok (.iconst (-1), 1) := by decide +kernel
theorem d4_45 : decode method_3_code 45 = .ok (.ireturn, 1) := by decide +kernel
theorem d5_0 : decode prog_81_method_3_code 0 = .ok (.lload_n 1, 1) := by decide +kernel
theorem d5_1 : decode prog_81_method_3_code 1 = .ok (.aload_n 0, 1) := by decide +kernel
theorem d5_2 : decode prog_81_method_3_code 2 = .ok (.getfield 7, 3) := by decide +kernel
theorem d5_5 : decode prog_81_method_3_code 5 = .ok (.arraylength, 1) := by decide +kernel
theorem d5_6 : decode prog_81_method_3_code 6 = .ok (.invokestatic 27, 3) := by decide +kernel
theorem d5_9 : decode prog_81_method_3_code 9 = .ok (.istore_n 3, 1) := by decide +kernel
theorem d5_10 : decode prog_81_method_3_code 10 = .ok (.aload_n 0, 1) := by decide +kernel
theorem d5_11 : decode prog_81_method_3_code 11 = .ok (.getfield 13, 3) := by decide +kernel
theorem d5_14 : decode prog_81_method_3_code 14 = .ok (.iload_n 3, 1) := by decide +kernel
theorem d5_15 : decode prog_81_method_3_code 15 = .ok (.iaload, 1) := by decide +kernel
theorem d5_16 : decode prog_81_method_3_code 16 = .ok (.iconst (-1), 1) := by decide +kernel
theorem d5_17 : decode prog_81_method_3_code 17 = .ok (.if_icmp .eq 29, 3) := by decide +kernel
theorem d5_20 : decode prog_81_method_3_code 20 = .ok (.aload_n 0, 1) := by decide +kernel
theorem d5_21 : decode prog_81_method_3_code 21 = .ok (.getfield 7, 3) := by decide +kernel
theorem d5_24 : decode prog_81_method_3_code 24 = .ok (.iload_n 3, 1) := by decide +kernel
theorem d5_25 : decode prog_81_method_3_code 25 = .ok (.laload, 1) := by decide +kernel
theorem d5_26 : decode prog_81_method_3_code 26 = .ok (.lload_n 1, 1) := by decide +kernel
theorem d5_27 : decode prog_81_method_3_code 27 = .ok (.lcmp, 1) := by decide +kernel
theorem d5_28 : decode prog_81_method_3_code 28 = .ok (.ifCond .eq 18, 3) := by decide +kernel
theorem d5_31 : decode prog_81_method_3_code 31 = .ok (.iload_n 3, 1) := by decide +kernel
theorem d5_32 : decode prog_81_method_3_code 32 = .ok (.iconst 1, 1) := by decide +kernel
theorem d5_33 : decode prog_81_method_3_code 33 = .ok (.iadd, 1) := by decide +kernel
theorem d5_34 : decode prog_81_method_3_code 34 = .ok (.aload_n 0, 1) := by decide +kernel
theorem d5_35 : decode prog_81_method_3_code 35 = .ok (.getfield 7, 3) := by decide +kernel
theorem d5_38 : decode prog_81_method_3_code 38 = .ok (.arraylength, 1) := by decide +kernel
theorem d5_39 : decode prog_81_method_3_code 39 = .ok (.iconst 1, 1) := by decide +kernel
theorem d5_40 : decode prog_81_method_3_code 40 = .ok (.isub, 1) := by decide +kernel
theorem d5_41 : decode prog_81_method_3_code 41 = .ok (.iand, 1) := by decide +kernel
theorem d5_42 : decode prog_81_method_3_code 42 = .ok (.istore_n 3, 1) := by decide +kernel
theorem d5_43 : decode prog_81_method_3_code 43 = .ok (.goto (-33), 3) := by decide +kernel
theorem d5_46 : decode prog_81_method_3_code 46 = .ok (.aload_n 0, 1) := by decide +kernel
theorem d5_47 : decode prog_81_method_3_code 47 = .ok (.getfield 13, 3) := by decide +kernel
theorem d5_50 : decode prog_81_method_3_code 50 = .ok (.iload_n 3, 1) := by decide +kernel
theorem d5_51 : decode prog_81_method_3_code 51 = .ok (.iaload, 1) := by decide +kernel
theorem d5_52 : decode prog_81_method_3_code 52 = .ok (.ireturn, 1) := by decide +kernel
theorem d6_0 : decode prog_81_method_6_code 0 = .ok (.lload_n 0, 1) := by decide +kernel
theorem d6_1 : decode prog_81_method_6_code 1 = .ok (.ldc2_w 43, 3) := by decide +kernel
theorem d6_4 : decode prog_81_method_6_code 4 = .ok (.lmul, 1) := by decide +kernel
theorem d6_5 : decode prog_81_method_6_code 5 = .ok (.bipush 32, 2) := by decide +kernel
theorem d6_7 : decode prog_81_method_6_code 7 = .ok (.lushr, 1) := by decide +kernel
theorem d6_8 : decode prog_81_method_6_code 8 = .ok (.l2i, 1) := by decide +kernel
theorem d6_9 : decode prog_81_method_6_code 9 = .ok (.iload_n 2, 1) := by decide +kernel
theorem d6_10 : decode prog_81_method_6_code 10 = .ok (.iconst 1, 1) := by decide +kernel
theorem d6_11 : decode prog_81_method_6_code 11 = .ok (.isub, 1) := by decide +kernel
theorem d6_12 : decode prog_81_method_6_code 12 = .ok (.iand, 1) := by decide +kernel
theorem d6_13 : decode prog_81_method_6_code 13 = .ok (.ireturn, 1) := by decide +kernel
theorem d7_0 : decode prog_81_method_4_code 0 = .ok (.iload_n 3, 1) := by decide +kernel
theorem d7_1 : decode prog_81_method_4_code 1 = .ok (.ifCond .ge 17, 3) := by decide +kernel
theorem d7_18 : decode prog_81_method_4_code 18 = .ok (.lload_n 1, 1) := by decide +kernel
theorem d7_19 : decode prog_81_method_4_code 19 = .ok (.aload_n 0, 1) := by decide +kernel
theorem d7_20 : decode prog_81_method_4_code 20 = .ok (.getfield 7, 3) := by decide +kernel
theorem d7_23 : decode prog_81_method_4_code 23 = .ok (.arraylength, 1) := by decide +kernel
theorem d7_24 : decode prog_81_method_4_code 24 = .ok (.invokestatic 27, 3) := by decide +kernel
theorem d7_27 : decode prog_81_method_4_code 27 = .ok (.istore 4, 2) := by decide +kernel
theorem d7_29 : decode prog_81_method_4_code 29 = .ok (.aload_n 0, 1) := by decide +kernel
theorem d7_30 : decode prog_81_method_4_code 30 = .ok (.getfield 13, 3) := by decide +kernel
theorem d7_33 : decode prog_81_method_4_code 33 = .ok (.iload 4, 2) := by decide +kernel
theorem d7_35 : decode prog_81_method_4_code 35 = .ok (.iaload, 1) := by decide +kernel
theorem d7_36 : decode prog_81_method_4_code 36 = .ok (.iconst (-1), 1) := by decide +kernel
theorem d7_37 : decode prog_81_method_4_code 37 = .ok (.if_icmp .eq 32, 3) := by decide +kernel
theorem d7_40 : decode prog_81_method_4_code 40 = .ok (.aload_n 0, 1) := by decide +kernel
theorem d7_41 : decode prog_81_method_4_code 41 = .ok (.getfield 7, 3) := by decide +kernel
theorem d7_44 : decode prog_81_method_4_code 44 = .ok (.iload 4, 2) := by decide +kernel
theorem d7_46 : decode prog_81_method_4_code 46 = .ok (.laload, 1) := by decide +kernel
theorem d7_47 : decode prog_81_method_4_code 47 = .ok (.lload_n 1, 1) := by decide +kernel
theorem d7_48 : decode prog_81_method_4_code 48 = .ok (.lcmp, 1) := by decide +kernel
theorem d7_49 : decode prog_81_method_4_code 49 = .ok (.ifCond .eq 20, 3) := by decide +kernel
theorem d7_52 : decode prog_81_method_4_code 52 = .ok (.iload 4, 2) := by decide +kernel
theorem d7_54 : decode prog_81_method_4_code 54 = .ok (.iconst 1, 1) := by decide +kernel
theorem d7_55 : decode prog_81_method_4_code 55 = .ok (.iadd, 1) := by decide +kernel
theorem d7_56 : decode prog_81_method_4_code 56 = .ok (.aload_n 0, 1) := by decide +kernel
theorem d7_57 : decode prog_81_method_4_code 57 = .ok (.getfield 7, 3) := by decide +kernel
theorem d7_60 : decode prog_81_method_4_code 60 = .ok (.arraylength, 1) := by decide +kernel
theorem d7_61 : decode prog_81_method_4_code 61 = .ok (.iconst 1, 1) := by decide +kernel
theorem d7_62 : decode prog_81_method_4_code 62 = .ok (.isub, 1) := by decide +kernel
theorem d7_63 : decode prog_81_method_4_code 63 = .ok (.iand, 1) := by decide +kernel
theorem d7_64 : decode prog_81_method_4_code 64 = .ok (.istore 4, 2) := by decide +kernel
theorem d7_66 : decode prog_81_method_4_code 66 = .ok (.goto (-37), 3) := by decide +kernel
theorem d7_69 : decode prog_81_method_4_code 69 = .ok (.aload_n 0, 1) := by decide +kernel
theorem d7_70 : decode prog_81_method_4_code 70 = .ok (.getfield 13, 3) := by decide +kernel
theorem d7_73 : decode prog_81_method_4_code 73 = .ok (.iload 4, 2) := by decide +kernel
theorem d7_75 : decode prog_81_method_4_code 75 = .ok (.iaload, 1) := by decide +kernel
theorem d7_76 : decode prog_81_method_4_code 76 = .ok (.istore 5, 2) := by decide +kernel
theorem d7_78 : decode prog_81_method_4_code 78 = .ok (.iload 5, 2) := by decide +kernel
theorem d7_80 : decode prog_81_method_4_code 80 = .ok (.iconst (-1), 1) := by decide +kernel
theorem d7_81 : decode prog_81_method_4_code 81 = .ok (.if_icmp .ne 44, 3) := by decide +kernel
theorem d7_84 : decode prog_81_method_4_code 84 = .ok (.aload_n 0, 1) := by decide +kernel
theorem d7_85 : decode prog_81_method_4_code 85 = .ok (.getfield 7, 3) := by decide +kernel
theorem d7_88 : decode prog_81_method_4_code 88 = .ok (.iload 4, 2) := by decide +kernel
theorem d7_90 : decode prog_81_method_4_code 90 = .ok (.lload_n 1, 1) := by decide +kernel
theorem d7_91 : decode prog_81_method_4_code 91 = .ok (.lastore, 1) := by decide +kernel
theorem d7_92 : decode prog_81_method_4_code 92 = .ok (.aload_n 0, 1) := by decide +kernel
theorem d7_93 : decode prog_81_method_4_code 93 = .ok (.getfield 13, 3) := by decide +kernel
theorem d7_96 : decode prog_81_method_4_code 96 = .ok (.iload 4, 2) := by decide +kernel
theorem d7_98 : decode prog_81_method_4_code 98 = .ok (.iload_n 3, 1) := by decide +kernel
theorem d7_99 : decode prog_81_method_4_code 99 = .ok (.iastore, 1) := by decide +kernel
theorem d7_100 : decode prog_81_method_4_code 100 = .ok (.aload_n 0, 1) := by decide +kernel
theorem d7_101 : decode prog_81_method_4_code 101 = .ok (.dup, 1) := by decide +kernel
theorem d7_102 : decode prog_81_method_4_code 102 = .ok (.getfield 23, 3) := by decide +kernel
theorem d7_105 : decode prog_81_method_4_code 105 = .ok (.iconst 1, 1) := by decide +kernel
theorem d7_106 : decode prog_81_method_4_code 106 = .ok (.iadd, 1) := by decide +kernel
theorem d7_107 : decode prog_81_method_4_code 107 = .ok (.dup_x1, 1) := by decide +kernel
theorem d7_108 : decode prog_81_method_4_code 108 = .ok (.putfield 23, 3) := by decide +kernel
theorem d7_111 : decode prog_81_method_4_code 111 = .ok (.aload_n 0, 1) := by decide +kernel
theorem d7_112 : decode prog_81_method_4_code 112 = .ok (.getfield 7, 3) := by decide +kernel
theorem d7_115 : decode prog_81_method_4_code 115 = .ok (.arraylength, 1) := by decide +kernel
theorem d7_116 : decode prog_81_method_4_code 116 = .ok (.iconst 2, 1) := by decide +kernel
theorem d7_117 : decode prog_81_method_4_code 117 = .ok (.idiv, 1) := by decide +kernel
theorem d7_118 : decode prog_81_method_4_code 118 = .ok (.if_icmp .le 7, 3) := by decide +kernel
theorem d7_125 : decode prog_81_method_4_code 125 = .ok (.iload 5, 2) := by decide +kernel
theorem d7_127 : decode prog_81_method_4_code 127 = .ok (.ireturn, 1) := by decide +kernel
def own_go (stop : Nat → Bool) : Nat → Nat → Nat
  | 0, t => t
  | f + 1, t => if stop t then t else own_go stop f ((t + 1) % 16)
theorem own_go_found (stop : Nat → Bool) : ∀ f t, t < 16 → (∃ i, i < f ∧ stop ((t + i) % 16) = true) → stop (own_go stop f t) = true ∧ own_go stop f t < 16
  | 0, t, _, ⟨i, hi, _⟩ => absurd hi (Nat.not_lt_zero _)
  | f + 1, t, ht, ⟨i, hi, hs⟩ => by
    unfold own_go
    by_cases h : stop t = true
    · rw [if_pos h]; exact ⟨h, ht⟩
    · rw [if_neg h]
      refine own_go_found stop f _ (Nat.mod_lt _ (by decide)) ?_
      cases i with
      | zero => rw [Nat.add_zero, Nat.mod_eq_of_lt ht] at hs; exact absurd hs h
      | succ j => exact ⟨j, by omega, by rw [show ((t + 1) % 16 + j) % 16 = (t + (j + 1)) % 16 by omega]; exact hs⟩
theorem own_go_congr {stop stop' : Nat → Bool} {w : Nat} (hw : stop w = true) (h : ∀ u, u ≠ w → stop u = stop' u) : ∀ f t, (own_go stop f t ≠ w ∨ stop' w = true) → own_go stop' f t = own_go stop f t
  | 0, t, _ => rfl
  | f + 1, t, hne => by
    unfold own_go at hne ⊢
    by_cases ht : t = w
    · subst ht
      rw [if_pos hw] at hne
      rcases hne with q | q
      · exact absurd rfl q
      · rw [if_pos hw, if_pos q]
    · rw [← h t ht]
      by_cases hs : stop t = true
      · rw [if_pos hs, if_pos hs]
      · rw [if_neg hs] at hne; rw [if_neg hs, if_neg hs]; exact own_go_congr hw h f _ hne
def own_stop (k : Nat → Int64) (v : Nat → Int32) (q : Int64) (t : Nat) : Bool := decide (v t = -1) || decide (k t = q)
section
variable (hash : Int64 → Nat)
def own_find (k : Nat → Int64) (v : Nat → Int32) (q : Int64) : Nat := own_go (own_stop k v q) 16 (hash q)
def own_inv (k : Nat → Int64) (v : Nat → Int32) : Prop := ∀ s, s < 16 → v s ≠ -1 → own_find hash k v (k s) = s
def own_upd {α : Type} (f : Nat → α) (s : Nat) (a : α) : Nat → α := fun t => if t = s then a else f t
theorem own_find_ok {k : Nat → Int64} {v : Nat → Int32} (hh : ∀ q, hash q < 16) (he : ∃ t, t < 16 ∧ v t = -1) (q : Int64) : own_stop k v q (own_find hash k v q) = true ∧ own_find hash k v q < 16 := by
  obtain ⟨t, ht, hv⟩ := he
  refine own_go_found _ 16 _ (hh q) ⟨(t + 16 - hash q) % 16, Nat.mod_lt _ (by decide), ?_⟩
  have := hh q
  rw [show (hash q + (t + 16 - hash q) % 16) % 16 = t by omega]
  simp [own_stop, hv]
theorem own_put {k : Nat → Int64} {v : Nat → Int32} (hh : ∀ q, hash q < 16) {key : Int64} {a : Int32} {s : Nat} (hs : s = own_find hash k v key) (hi : own_inv hash k v) (hv : v s = -1) (ha : a ≠ -1) (he : ∃ t, t < 16 ∧ v t = -1) (he' : ∃ t, t < 16 ∧ own_upd v s a t = -1) :
    own_inv hash (own_upd k s key) (own_upd v s a) ∧ ∀ q, own_upd v s a (own_find hash (own_upd k s key) (own_upd v s a) q) = if q = key then a else v (own_find hash k v q) := by
  have st : ∀ q, own_stop k v q s = true := fun q => by simp [own_stop, hv]
  have ag : ∀ q u, u ≠ s → own_stop k v q u = own_stop (own_upd k s key) (own_upd v s a) q u := fun q u hu => by simp [own_stop, own_upd, hu]
  have hkey : own_find hash (own_upd k s key) (own_upd v s a) key = s := by
    rw [hs]; rw [hs] at st ag
    exact own_go_congr (st key) (ag key) 16 _ (Or.inr (by simp [own_stop, own_upd]))
  have hoth : ∀ q, own_find hash k v q ≠ s → own_find hash (own_upd k s key) (own_upd v s a) q = own_find hash k v q := fun q hq =>
    own_go_congr (st q) (ag q) 16 _ (Or.inl hq)
  refine ⟨fun u hu hvu => ?_, fun q => ?_⟩
  · by_cases hus : u = s
    · subst hus; simp only [own_upd, if_true]; simpa [own_upd] using hkey
    · simp only [own_upd, if_neg hus] at hvu ⊢
      have h1 := hi u hu hvu
      have h2 := hoth (k u) (by rw [h1]; exact hus)
      rw [h1] at h2
      exact h2
  · by_cases hq : q = key
    · subst hq; rw [if_pos rfl, hkey]; simp [own_upd]
    · rw [if_neg hq]
      by_cases hf : own_find hash k v q = s
      · rw [hf, hv]
        obtain ⟨h1, h2⟩ := own_find_ok hash (k := own_upd k s key) hh he' q
        generalize own_find hash (own_upd k s key) (own_upd v s a) q = t at h1 h2
        simp only [own_stop, Bool.or_eq_true, decide_eq_true_eq] at h1
        rcases h1 with h1 | h1
        · exact h1
        · by_cases hts : t = s
          · subst hts; simp [own_upd] at h1; exact absurd h1.symm hq
          · simp only [own_upd, if_neg hts] at h1 ⊢
            by_cases hvt : v t = -1
            · exact hvt
            · have := hi t h2 hvt
              rw [h1, hf] at this; exact absurd this.symm hts
      · rw [hoth q hf]
        have : own_find hash k v q ≠ s := hf
        simp [own_upd, this]
end
def own_ti (v : Nat → Int32) : List Value := (List.range 16).map fun t => .int (v t)
def own_tl (k : Nat → Int64) : List Value := (List.range 16).map fun t => .long (k t)
theorem own_ti_len (v : Nat → Int32) : (own_ti v).length = 16 := by simp [own_ti]
theorem own_tl_len (v : Nat → Int64) : (own_tl v).length = 16 := by simp [own_tl]
theorem own_lt {z : Int32} (h : Inb z 16) : z.toInt.toNat < 16 := by obtain ⟨h1, h2⟩ := h; omega
theorem own_ti_get (v : Nat → Int32) {t : Nat} (h : t < 16) : (own_ti v)[t]? = some (.int (v t)) := by simp [own_ti, List.getElem?_range h]
theorem own_tl_get (v : Nat → Int64) {t : Nat} (h : t < 16) : (own_tl v)[t]? = some (.long (v t)) := by simp [own_tl, List.getElem?_range h]
theorem own_ti_set (v : Nat → Int32) (t : Nat) (x : Int32) : (own_ti v).set t (.int x) = own_ti (own_upd v t x) := by
  apply List.ext_getElem?
  intro i
  by_cases hi : i < 16
  · rw [own_ti_get _ hi, List.getElem?_set]
    by_cases ht : t = i
    · subst ht; simp [own_ti_len, hi, own_upd]
    · rw [if_neg ht, own_ti_get _ hi]; simp [own_upd, Ne.symm ht]
  · rw [List.getElem?_eq_none (by simp [own_ti_len]; omega), List.getElem?_eq_none (by simp [own_ti_len]; omega)]
theorem own_tl_set (v : Nat → Int64) (t : Nat) (x : Int64) : (own_tl v).set t (.long x) = own_tl (own_upd v t x) := by
  apply List.ext_getElem?
  intro i
  by_cases hi : i < 16
  · rw [own_tl_get _ hi, List.getElem?_set]
    by_cases ht : t = i
    · subst ht; simp [own_tl_len, hi, own_upd]
    · rw [if_neg ht, own_tl_get _ hi]; simp [own_upd, Ne.symm ht]
  · rw [List.getElem?_eq_none (by simp [own_tl_len]; omega), List.getElem?_eq_none (by simp [own_tl_len]; omega)]
def own_L0 : Int64 → Int32 := fun _ => -1
def own_add (L : Int64 → Int32) (key : Int64) (x : Int32) : Int64 → Int32 := fun q => if q = key ∧ L key = -1 then x else L q
theorem own_f1 (q k1 : Int64) (a : Int32) : own_add own_L0 k1 a q = if q = k1 then a else -1 := by simp [own_add, own_L0]
theorem own_f2 (q k1 k2 : Int64) {a : Int32} (b : Int32) (ha : a ≠ -1) : own_add (own_add own_L0 k1 a) k2 b q = if q = k1 then a else if q = k2 then b else -1 := by
  by_cases h1 : q = k1
  · by_cases h2 : q = k2
    · subst h1 h2; simp [own_add, own_L0, ha]
    · simp [own_add, own_L0, h1]; intro h3; exact absurd (h1.trans h3) h2
  · by_cases h2 : q = k2
    · subst h2; simp [own_add, own_L0, h1]
    · simp [own_add, own_L0, h1, h2]
theorem own_f3 (q k1 k2 k3 : Int64) {a b : Int32} (c : Int32) (ha : a ≠ -1) (hb : b ≠ -1) : own_add (own_add (own_add own_L0 k1 a) k2 b) k3 c q = if q = k1 then a else if q = k2 then b else if q = k3 then c else -1 := by
  have h := own_f2 k3 k1 k2 b ha
  have h' := own_f2 q k1 k2 b ha
  generalize own_add (own_add own_L0 k1 a) k2 b = L at h h'
  unfold own_add
  rw [h, h']
  by_cases h1 : q = k1
  · by_cases h3 : q = k3
    · subst h1 h3; simp [ha]
    · simp [h1, h3]; intro z; exact absurd (h1.trans z) h3
  · by_cases h2 : q = k2
    · by_cases h3 : q = k3
      · subst h2 h3; simp [h1, hb]
      · simp [h1, h2, h3]; intro z; exact absurd (h2.trans z) h3
    · by_cases h3 : q = k3
      · subst h3; simp [h1, h2]
      · simp [h1, h2, h3]
def own_hash (q : Int64) : Int32 := (((((q * (-7046029254386353131 : Int64)).toUInt64 >>> ((32 : Int32) &&& 0x3f).toInt64.toUInt64).toInt64).toInt32) &&& (15 : Int32))
def own_hn (q : Int64) : Nat := (own_hash q).toInt.toNat
theorem own_and15 (x : Int32) : Inb (x &&& (15 : Int32)) 16 := by
  have h := c_and x (15 : Int32) (by decide)
  have e : (15 : Int32).toInt = 15 := by decide
  rw [e] at h
  exact ⟨h.1, by omega⟩
theorem own_hin (q : Int64) : Inb (own_hash q) 16 := own_and15 _
theorem own_hh (q : Int64) : own_hn q < 16 := own_lt (own_hin q)
theorem own_next {z : Int32} (h : Inb z 16) : ((z + (1 : Int32)) &&& (15 : Int32)).toInt.toNat = (z.toInt.toNat + 1) % 16 := by
  obtain ⟨h1, h2⟩ := h
  have e := c_mask (z + (1 : Int32)) (15 : Int32) 4 (by decide) (by decide)
  have e1 := c_iadd z (1 : Int32)
  have e2 : (1 : Int32).toInt = 1 := rfl
  have r := rng32 (z + (1 : Int32))
  rw [e]; omega
def own_H (Z : State) (h : Heap) (a ak av : Addr) (k : Nat → Int64) (v : Nat → Int32) (sz : Int32) : Prop := Exa Z h a "com/example/stacks_in_time/stacksintime/LongIntMap" ∧ Fld Z h a "com/example/stacks_in_time/stacksintime/LongIntMap" "keys" "[J" (.ref ak) ∧ Fld Z h a "com/example/stacks_in_time/stacksintime/LongIntMap" "values" "[I" (.ref av) ∧ Fld Z h a "com/example/stacks_in_time/stacksintime/LongIntMap" "size" "I" (.int sz) ∧ Lst Z h ak .long (own_tl k) ∧ Lst Z h av .int (own_ti v)
def own_M (Z : State) (h : Heap) (a ak av : Addr) (n : Nat) (L : Int64 → Int32) : Prop := ak ≠ av ∧ ∃ (k : Nat → Int64) (v : Nat → Int32) (sz : Int32) (S : List Nat), own_H Z h a ak av k v sz ∧ own_inv own_hn k v ∧ (∀ t, t < 16 → t ∉ S → v t = -1) ∧ S.length ≤ n ∧ (0 ≤ sz.toInt ∧ sz.toInt ≤ n) ∧ ∀ q, v (own_find own_hn k v q) = L q
theorem own_emp {v : Nat → Int32} : ∀ {S : List Nat}, S.length ≤ 3 → (∀ t, t < 16 → t ∉ S → v t = -1) → ∃ t, t < 16 ∧ v t = -1 := by
  intro S hS h
  by_cases h0 : 0 ∈ S
  · by_cases h1 : 1 ∈ S
    · by_cases h2 : 2 ∈ S
      · by_cases h3 : 3 ∈ S
        · exfalso
          match S, hS with
          | [], _ => exact absurd h0 (by simp)
          | [a], _ => simp only [List.mem_cons, List.not_mem_nil, or_false] at h0 h1; omega
          | [a, b], _ => simp only [List.mem_cons, List.not_mem_nil, or_false] at h0 h1 h2; omega
          | [a, b, d], _ => simp only [List.mem_cons, List.not_mem_nil, or_false] at h0 h1 h2 h3; omega
          | a :: b :: d :: f :: r, q => simp only [List.length_cons] at q; omega
        · exact ⟨3, by decide, h 3 (by decide) h3⟩
      · exact ⟨2, by decide, h 2 (by decide) h2⟩
    · exact ⟨1, by decide, h 1 (by decide) h1⟩
  · exact ⟨0, by decide, h 0 (by decide) h0⟩

theorem own_go_s (stop : Nat → Bool) (f t : Nat) : own_go stop (f + 1) t = if stop t then t else own_go stop f ((t + 1) % 16) := rfl
theorem own_stop_t {k : Nat → Int64} {v : Nat → Int32} {q : Int64} {t : Nat} (h : v t = -1 ∨ k t = q) : own_stop k v q t = true := by rcases h with h | h <;> simp [own_stop, h]
theorem own_stop_f {k : Nat → Int64} {v : Nat → Int32} {q : Int64} {t : Nat} (h1 : ¬ v t = -1) (h2 : ¬ k t = q) : own_stop k v q t = false := by simp [own_stop, h1, h2]
theorem own_step {k : Nat → Int64} {v : Nat → Int32} {q : Int64} {f t : Nat} (ht : t < 16) (hs : own_stop k v q t = false) (h : ∃ i, i < f + 1 ∧ own_stop k v q ((t + i) % 16) = true) : ∃ i, i < f ∧ own_stop k v q (((t + 1) % 16 + i) % 16) = true := by
  obtain ⟨i, hi, h⟩ := h
  cases i with
  | zero => rw [Nat.add_zero, Nat.mod_eq_of_lt ht, hs] at h; cases h
  | succ j => exact ⟨j, by omega, by rw [show ((t + 1) % 16 + j) % 16 = (t + (j + 1)) % 16 by omega]; exact h⟩
theorem own_all {k : Nat → Int64} {v : Nat → Int32} (q : Int64) {t : Nat} (ht : t < 16) (he : ∃ t, t < 16 ∧ v t = -1) : ∃ i, i < 16 ∧ own_stop k v q ((t + i) % 16) = true := by
  obtain ⟨u, hu, hv⟩ := he
  refine ⟨(u + 16 - t) % 16, Nat.mod_lt _ (by decide), ?_⟩
  rw [show (t + (u + 16 - t) % 16) % 16 = u by omega]
  simp [own_stop, hv]

set_option maxRecDepth 65536 in
set_option maxHeartbeats 40000000 in
theorem lp5 {p : Program} {l : Launch} {e : Env} {R : Room} {s : State} {m : MethodId} {args : Array Value} {below : List Frame} {meth : Method} {c : Code} {ret : Option FieldType} {Z : State} {h0 : Heap} {ws : List Addr} {G : Outcome → State → Prop} {a0 : Array Value} (hw : ∀ d ∈ tables_1, d.before a0 Z = true) {a ak av : Addr} {q : Int64} {k : Nat → Int64} {v : Nat → Int32} {cells slots : Nat} {h : Heap} (Fk : Fld Z h a "com/example/stacks_in_time/stacksintime/LongIntMap" "keys" "[J" (.ref ak)) (Fv : Fld Z h a "com/example/stacks_in_time/stacksintime/LongIntMap" "values" "[I" (.ref av)) (Vk : Lst Z h ak .long (own_tl k)) (Vv : Lst Z h av .int (own_ti v)) :
    ∀ (f : Nat) (T : State) (z : Int32), Here p l e R s m args below meth c y5 prog_81_method_3_code 4 ret Z h0 ws T cells slots h → Inb z 16 → (∃ i, i < f ∧ own_stop k v q ((z.toInt.toNat + i) % 16) = true) → (∀ T' z', Here p l e R s m args below meth c y5 prog_81_method_3_code 4 ret Z h0 ws T' cells slots h → Inb z' 16 → z'.toInt.toNat = own_go (own_stop k v q) f z.toInt.toNat → Runs p e below (T'.setTop (mkF m 46 #[.val (.ref a), .val (.long q), .second, .val (.int z')] [])) G) → Runs p e below (T.setTop (mkF m 10 #[.val (.ref a), .val (.long q), .second, .val (.int z)] [])) G := by
  intro f
  induction f with
  | zero => intro T z X hz hf; obtain ⟨i, hi, -⟩ := hf; exact absurd hi (Nat.not_lt_zero _)
  | succ f ih =>
    intro T z X hz hf kx
    refine X.aloadN (pc' := 11) d5_10 rfl rfl rfl ?_
    refine X.getfield (pc' := 14) (host := "") (Or.inl (wd_14 hw)) Via.refl Fv d5_11 rfl (fun T1 X1 => ?_)
    refine X1.iloadN (pc' := 15) d5_14 rfl rfl ?_
    refine X1.iaload (pc' := 16) (v := (.int (v z.toInt.toNat))) Vv (own_ti_len v ▸ hz) (own_ti_get v (own_lt hz)) d5_15 rfl ?_
    refine X1.iconst (pc' := 17) (z := -1) d5_16 rfl rfl ?_
    by_cases hc2 : (v z.toInt.toNat) = (-1 : Int32)
    · refine X1.icmpYes (pc' := 46) d5_17 (teq hc2).1 (by decide) (by decide) ?_
      refine kx T1 z X1 hz ?_
      rw [own_go_s, if_pos (own_stop_t (Or.inl hc2))]
    · refine X1.icmpNo (pc' := 20) d5_17 (feq hc2).1 rfl ?_
      refine X1.aloadN (pc' := 21) d5_20 rfl rfl rfl ?_
      refine X1.getfield (pc' := 24) (host := "") (Or.inl (wd_11 hw)) Via.refl Fk d5_21 rfl (fun T3 X3 => ?_)
      refine X3.iloadN (pc' := 25) d5_24 rfl rfl ?_
      refine X3.laload (pc' := 26) (v := (.long (k z.toInt.toNat))) Vk (own_tl_len k ▸ hz) (own_tl_get k (own_lt hz)) d5_25 rfl ?_
      refine X3.lloadN (pc' := 27) d5_26 rfl rfl ?_
      refine X3.lcmp (pc' := 28) d5_27 rfl ?_
      by_cases hc4 : (k z.toInt.toNat) = q
      · refine X3.ifYes (pc' := 46) d5_28 (teq ((lw_eq _ _).mpr hc4)).1 (by decide) (by decide) ?_
        refine kx T3 z X3 hz ?_
        rw [own_go_s, if_pos (own_stop_t (Or.inr hc4))]
      · refine X3.ifNo (pc' := 31) d5_28 (feq (fun q => hc4 ((lw_eq _ _).mp q))).1 rfl ?_
        refine X3.iloadN (pc' := 32) d5_31 rfl rfl ?_
        refine X3.iconst (pc' := 33) (z := 1) d5_32 rfl rfl ?_
        refine X3.iadd (pc' := 34) d5_33 rfl ?_
        refine X3.aloadN (pc' := 35) d5_34 rfl rfl rfl ?_
        refine X3.getfield (pc' := 38) (host := "") (Or.inl (wd_11 hw)) Via.refl Fk d5_35 rfl (fun T5 X5 => ?_)
        refine X5.arraylength (pc' := 39) (n := (16 : Int32)) Vk (by rw [own_tl_len]; rfl) d5_38 rfl ?_
        refine X5.iconst (pc' := 40) (z := 1) d5_39 rfl rfl ?_
        refine X5.isub (pc' := 41) d5_40 rfl ?_
        show Runs p e below (T5.setTop (mkF m 41 #[.val (.ref a), .val (.long q), .second, .val (.int z)] [(.int (15 : Int32)), (.int (z + (1 : Int32)))])) _
        refine X5.iand (pc' := 42) d5_41 rfl ?_
        refine X5.istoreN (pc' := 43) (l' := #[.val (.ref a), .val (.long q), .second, .val (.int ((z + (1 : Int32)) &&& (15 : Int32)))]) d5_42 rfl rfl ?_
        refine X5.goto (pc' := 10) d5_43 (by decide) (by decide) ?_
        have hst : own_stop k v q z.toInt.toNat = false := own_stop_f hc2 hc4
        refine ih T5 _ X5 (own_and15 _) ?_ ?_
        · rw [own_next hz]; exact own_step (own_lt hz) hst hf
        · intro T' z' X' hz' hg; refine kx T' z' X' hz' ?_; rw [hg, own_next hz, own_go_s, if_neg (by rw [hst]; decide)]
set_option maxRecDepth 65536 in
set_option maxHeartbeats 40000000 in
theorem lp7 {p : Program} {l : Launch} {e : Env} {R : Room} {s : State} {m : MethodId} {args : Array Value} {below : List Frame} {meth : Method} {c : Code} {ret : Option FieldType} {Z : State} {h0 : Heap} {ws : List Addr} {G : Outcome → State → Prop} {a0 : Array Value} (hw : ∀ d ∈ tables_1, d.before a0 Z = true) {a ak av : Addr} {q : Int64} {x0 : Int32} {k : Nat → Int64} {v : Nat → Int32} {cells slots : Nat} {h : Heap} (Fk : Fld Z h a "com/example/stacks_in_time/stacksintime/LongIntMap" "keys" "[J" (.ref ak)) (Fv : Fld Z h a "com/example/stacks_in_time/stacksintime/LongIntMap" "values" "[I" (.ref av)) (Vk : Lst Z h ak .long (own_tl k)) (Vv : Lst Z h av .int (own_ti v)) :
    ∀ (f : Nat) (T : State) (z : Int32), Here p l e R s m args below meth c y7 prog_81_method_4_code 6 ret Z h0 ws T cells slots h → Inb z 16 → (∃ i, i < f ∧ own_stop k v q ((z.toInt.toNat + i) % 16) = true) → (∀ T' z', Here p l e R s m args below meth c y7 prog_81_method_4_code 6 ret Z h0 ws T' cells slots h → Inb z' 16 → z'.toInt.toNat = own_go (own_stop k v q) f z.toInt.toNat → Runs p e below (T'.setTop (mkF m 69 #[.val (.ref a), .val (.long q), .second, .val (.int x0), .val (.int z'), .unset] [])) G) → Runs p e below (T.setTop (mkF m 29 #[.val (.ref a), .val (.long q), .second, .val (.int x0), .val (.int z), .unset] [])) G := by
  intro f
  induction f with
  | zero => intro T z X hz hf; obtain ⟨i, hi, -⟩ := hf; exact absurd hi (Nat.not_lt_zero _)
  | succ f ih =>
    intro T z X hz hf kx
    refine X.aloadN (pc' := 30) d7_29 rfl rfl rfl ?_
    refine X.getfield (pc' := 33) (host := "") (Or.inl (wd_14 hw)) Via.refl Fv d7_30 rfl (fun T1 X1 => ?_)
    refine X1.iload (pc' := 35) d7_33 rfl rfl ?_
    refine X1.iaload (pc' := 36) (v := (.int (v z.toInt.toNat))) Vv (own_ti_len v ▸ hz) (own_ti_get v (own_lt hz)) d7_35 rfl ?_
    refine X1.iconst (pc' := 37) (z := -1) d7_36 rfl rfl ?_
    by_cases hc2 : (v z.toInt.toNat) = (-1 : Int32)
    · refine X1.icmpYes (pc' := 69) d7_37 (teq hc2).1 (by decide) (by decide) ?_
      refine kx T1 z X1 hz ?_
      rw [own_go_s, if_pos (own_stop_t (Or.inl hc2))]
    · refine X1.icmpNo (pc' := 40) d7_37 (feq hc2).1 rfl ?_
      refine X1.aloadN (pc' := 41) d7_40 rfl rfl rfl ?_
      refine X1.getfield (pc' := 44) (host := "") (Or.inl (wd_11 hw)) Via.refl Fk d7_41 rfl (fun T3 X3 => ?_)
      refine X3.iload (pc' := 46) d7_44 rfl rfl ?_
      refine X3.laload (pc' := 47) (v := (.long (k z.toInt.toNat))) Vk (own_tl_len k ▸ hz) (own_tl_get k (own_lt hz)) d7_46 rfl ?_
      refine X3.lloadN (pc' := 48) d7_47 rfl rfl ?_
      refine X3.lcmp (pc' := 49) d7_48 rfl ?_
      by_cases hc4 : (k z.toInt.toNat) = q
      · refine X3.ifYes (pc' := 69) d7_49 (teq ((lw_eq _ _).mpr hc4)).1 (by decide) (by decide) ?_
        refine kx T3 z X3 hz ?_
        rw [own_go_s, if_pos (own_stop_t (Or.inr hc4))]
      · refine X3.ifNo (pc' := 52) d7_49 (feq (fun q => hc4 ((lw_eq _ _).mp q))).1 rfl ?_
        refine X3.iload (pc' := 54) d7_52 rfl rfl ?_
        refine X3.iconst (pc' := 55) (z := 1) d7_54 rfl rfl ?_
        refine X3.iadd (pc' := 56) d7_55 rfl ?_
        refine X3.aloadN (pc' := 57) d7_56 rfl rfl rfl ?_
        refine X3.getfield (pc' := 60) (host := "") (Or.inl (wd_11 hw)) Via.refl Fk d7_57 rfl (fun T5 X5 => ?_)
        refine X5.arraylength (pc' := 61) (n := (16 : Int32)) Vk (by rw [own_tl_len]; rfl) d7_60 rfl ?_
        refine X5.iconst (pc' := 62) (z := 1) d7_61 rfl rfl ?_
        refine X5.isub (pc' := 63) d7_62 rfl ?_
        show Runs p e below (T5.setTop (mkF m 63 #[.val (.ref a), .val (.long q), .second, .val (.int x0), .val (.int z), .unset] [(.int (15 : Int32)), (.int (z + (1 : Int32)))])) _
        refine X5.iand (pc' := 64) d7_63 rfl ?_
        refine X5.istore (pc' := 66) (l' := #[.val (.ref a), .val (.long q), .second, .val (.int x0), .val (.int ((z + (1 : Int32)) &&& (15 : Int32))), .unset]) d7_64 rfl rfl ?_
        refine X5.goto (pc' := 29) d7_66 (by decide) (by decide) ?_
        have hst : own_stop k v q z.toInt.toNat = false := own_stop_f hc2 hc4
        refine ih T5 _ X5 (own_and15 _) ?_ ?_
        · rw [own_next hz]; exact own_step (own_lt hz) hst hf
        · intro T' z' X' hz' hg; refine kx T' z' X' hz' ?_; rw [hg, own_next hz, own_go_s, if_neg (by rw [hst]; decide)]
set_option maxRecDepth 65536 in
set_option maxHeartbeats 40000000 in
theorem ct6 (l : Launch) (Z : State) (a0 : Array Value) (hw : ∀ d ∈ tables_1, d.before a0 Z = true) (q : Int64) (h0 : Heap)  :
    Ct l Z y6 prog_81_method_6_code 3 (some .int) ({ frames := 0, cells := 0, slots := 0, locals := 0 } : Room) #[(.long q), (.int (16 : Int32))] h0 [] (fun v h => v = some (.int (own_hash q)) ∧ h0 = h) := by
  refine Ct.of (plainFor_of_name (by first | (simp [plainName, overriddenIn]; done) | decide +kernel)) ?_
  intro p e s m below meth c T0 X0
  refine Runs.top (g' := mkF m 0 #[.val (.long q), .second, .val (.int (16 : Int32))] []) (by first | (simp [entryFrame, mkF, argsToLocals, Value.category]; done) | rfl) ?_
  refine X0.lloadN (pc' := 1) d6_0 rfl rfl ?_
  refine X0.ldc2 (pc' := 4) (wd_32 hw) d6_1 rfl ?_
  refine X0.lmul (pc' := 5) d6_4 rfl ?_
  refine X0.bipush (pc' := 7) (z := 32) d6_5 rfl rfl ?_
  refine X0.lushr (pc' := 8) d6_7 rfl ?_
  refine X0.l2i (pc' := 9) d6_8 rfl ?_
  refine X0.iloadN (pc' := 10) d6_9 rfl rfl ?_
  refine X0.iconst (pc' := 11) (z := 1) d6_10 rfl rfl ?_
  refine X0.isub (pc' := 12) d6_11 rfl ?_
  show Runs p e below (T0.setTop (mkF m 12 #[.val (.long q), .second, .val (.int (16 : Int32))] [(.int (15 : Int32)), (.int ((((q * (-7046029254386353131 : Int64)).toUInt64 >>> ((32 : Int32) &&& 0x3f).toInt64.toUInt64).toInt64).toInt32))])) _
  refine X0.iand (pc' := 13) d6_12 rfl ?_
  exact X0.ireturn rfl d6_13 (by decide) (by decide) ⟨rfl, rfl⟩
set_option maxRecDepth 65536 in
set_option maxHeartbeats 40000000 in
theorem ct5 (l : Launch) (Z : State) (a0 : Array Value) (hw : ∀ d ∈ tables_1, d.before a0 Z = true) (a ak av : Addr) (q : Int64) (k : Nat → Int64) (v : Nat → Int32) (sz : Int32) (h0 : Heap) (HH : own_H Z h0 a ak av k v sz) (he : ∃ t, t < 16 ∧ v t = -1) :
    Ct l Z y5 prog_81_method_3_code 4 (some .int) ({ frames := 1, cells := 0, slots := 0, locals := 14 } : Room) #[(.ref a), (.long q)] h0 [] (fun r h => r = some (.int (v (own_find own_hn k v q))) ∧ h0 = h) := by
  refine Ct.of (plainFor_of_name (by first | (simp [plainName, overriddenIn]; done) | decide +kernel)) ?_
  intro p e s m below meth c T0 X0
  refine Runs.top (g' := mkF m 0 #[.val (.ref a), .val (.long q), .second, .unset] []) (by first | (simp [entryFrame, mkF, argsToLocals, Value.category]; done) | rfl) ?_
  obtain ⟨Ea, Fk, Fv, Fs, Vk, Vv⟩ := HH
  refine X0.lloadN (pc' := 1) d5_0 rfl rfl ?_
  refine X0.aloadN (pc' := 2) d5_1 rfl rfl rfl ?_
  refine X0.getfield (pc' := 5) (host := "") (Or.inl (wd_11 hw)) Via.refl Fk d5_2 rfl (fun T1 X1 => ?_)
  refine X1.arraylength (pc' := 6) (n := (16 : Int32)) Vk (by rw [own_tl_len]; rfl) d5_5 rfl ?_
  refine X1.callS (pc' := 9) (W := 0) (argsL := [(.long q), (.int (16 : Int32))]) (rest := []) (ct6 l Z a0 hw q h0) (wd_29 hw) (wd_30 hw) (wd_3 hw) (wd_31 hw) (by decide) pd_0 rfl rfl rfl rfl d5_6 rfl (by decide) rfl (by decide) (by decide) (by decide) allWs0 (fun T2 h2 v2 X2 K2 Q2 => ?_)
  obtain ⟨rfl, rfl⟩ := Q2
  show Runs p e below (T2.setTop (mkF m 9 #[.val (.ref a), .val (.long q), .second, .unset] [(.int (own_hash q))])) _
  refine X2.istoreN (pc' := 10) (l' := #[.val (.ref a), .val (.long q), .second, .val (.int (own_hash q))]) d5_9 rfl rfl ?_
  refine lp5 hw Fk Fv Vk Vv 16 _ _ X2 (own_hin q) (own_all q (own_lt (own_hin q)) he) (fun T9 z X9 hz hg => ?_)
  have hg' : z.toInt.toNat = own_find own_hn k v q := hg
  refine X9.aloadN (pc' := 47) d5_46 rfl rfl rfl ?_
  refine X9.getfield (pc' := 50) (host := "") (Or.inl (wd_14 hw)) Via.refl Fv d5_47 rfl (fun T3 X3 => ?_)
  refine X3.iloadN (pc' := 51) d5_50 rfl rfl ?_
  refine X3.iaload (pc' := 52) (v := (.int (v z.toInt.toNat))) Vv (own_ti_len v ▸ hz) (own_ti_get v (own_lt hz)) d5_51 rfl ?_
  exact X3.ireturn rfl d5_52 (by decide) (by decide) ⟨by rw [← hg'], rfl⟩
set_option maxRecDepth 65536 in
set_option maxHeartbeats 40000000 in
theorem ct7 (l : Launch) (Z : State) (a0 : Array Value) (hw : ∀ d ∈ tables_1, d.before a0 Z = true) (a ak av : Addr) (q : Int64) (x0 : Int32) (k : Nat → Int64) (v : Nat → Int32) (sz : Int32) (h0 : Heap) (HH : own_H Z h0 a ak av k v sz) (he : ∃ t, t < 16 ∧ v t = -1) (hne : ak ≠ av) (hx : ¬ x0 < (0 : Int32)) (hsz : ¬ (((16 : Int32) / (2 : Int32)) < (sz + (1 : Int32)))) :
    Ct l Z y7 prog_81_method_4_code 6 (some .int) ({ frames := 1, cells := 0, slots := 0, locals := 14 } : Room) #[(.ref a), (.long q), (.int x0)] h0 [a, ak, av] (fun r h => ∃ w k' v' sz', r = some (.int w) ∧ own_H Z h a ak av k' v' sz' ∧ ((v (own_find own_hn k v q) = -1 ∧ k' = own_upd k (own_find own_hn k v q) q ∧ v' = own_upd v (own_find own_hn k v q) x0 ∧ sz' = sz + (1 : Int32)) ∨ (v (own_find own_hn k v q) ≠ -1 ∧ k' = k ∧ v' = v ∧ sz' = sz))) := by
  refine Ct.of (plainFor_of_name (by first | (simp [plainName, overriddenIn]; done) | decide +kernel)) ?_
  intro p e s m below meth c T0 X0
  refine Runs.top (g' := mkF m 0 #[.val (.ref a), .val (.long q), .second, .val (.int x0), .unset, .unset] []) (by first | (simp [entryFrame, mkF, argsToLocals, Value.category]; done) | rfl) ?_
  obtain ⟨Ea, Fk, Fv, Fs, Vk, Vv⟩ := HH
  have ne_a_ak : a ≠ ak := Lst.ne Vk (wd_2 hw) Ea
  have ne_a_av : a ≠ av := Lst.ne Vv (wd_2 hw) Ea
  refine X0.iloadN (pc' := 1) d7_0 rfl rfl ?_
  refine X0.ifYes (pc' := 18) d7_1 (flt hx).2.1 (by decide) (by decide) ?_
  refine X0.lloadN (pc' := 19) d7_18 rfl rfl ?_
  refine X0.aloadN (pc' := 20) d7_19 rfl rfl rfl ?_
  refine X0.getfield (pc' := 23) (host := "") (Or.inl (wd_11 hw)) Via.refl Fk d7_20 rfl (fun T1 X1 => ?_)
  refine X1.arraylength (pc' := 24) (n := (16 : Int32)) Vk (by rw [own_tl_len]; rfl) d7_23 rfl ?_
  refine X1.callS (pc' := 27) (W := 0) (argsL := [(.long q), (.int (16 : Int32))]) (rest := []) (ct6 l Z a0 hw q h0) (wd_29 hw) (wd_30 hw) (wd_3 hw) (wd_31 hw) (by decide) pd_0 rfl rfl rfl rfl d7_24 rfl (by decide) rfl (by decide) (by decide) (by decide) allWs0 (fun T2 h2 v2 X2 K2 Q2 => ?_)
  obtain ⟨rfl, rfl⟩ := Q2
  show Runs p e below (T2.setTop (mkF m 27 #[.val (.ref a), .val (.long q), .second, .val (.int x0), .unset, .unset] [(.int (own_hash q))])) _
  refine X2.istore (pc' := 29) (l' := #[.val (.ref a), .val (.long q), .second, .val (.int x0), .val (.int (own_hash q)), .unset]) d7_27 rfl rfl ?_
  refine lp7 hw Fk Fv Vk Vv 16 _ _ X2 (own_hin q) (own_all q (own_lt (own_hin q)) he) (fun T9 z X9 hz hg => ?_)
  have hg' : z.toInt.toNat = own_find own_hn k v q := hg
  refine X9.aloadN (pc' := 70) d7_69 rfl rfl rfl ?_
  refine X9.getfield (pc' := 73) (host := "") (Or.inl (wd_14 hw)) Via.refl Fv d7_70 rfl (fun T3 X3 => ?_)
  refine X3.iload (pc' := 75) d7_73 rfl rfl ?_
  refine X3.iaload (pc' := 76) (v := (.int (v z.toInt.toNat))) Vv (own_ti_len v ▸ hz) (own_ti_get v (own_lt hz)) d7_75 rfl ?_
  refine X3.istore (pc' := 78) (l' := #[.val (.ref a), .val (.long q), .second, .val (.int x0), .val (.int z), .val (.int (v z.toInt.toNat))]) d7_76 rfl rfl ?_
  refine X3.iload (pc' := 80) d7_78 rfl rfl ?_
  refine X3.iconst (pc' := 81) (z := -1) d7_80 rfl rfl ?_
  by_cases hc4 : (v z.toInt.toNat) = (-1 : Int32)
  · refine X3.icmpNo (pc' := 84) d7_81 (teq hc4).2 rfl ?_
    refine X3.aloadN (pc' := 85) d7_84 rfl rfl rfl ?_
    refine X3.getfield (pc' := 88) (host := "") (Or.inl (wd_11 hw)) Via.refl Fk d7_85 rfl (fun T5 X5 => ?_)
    refine X5.iload (pc' := 90) d7_88 rfl rfl ?_
    refine X5.lloadN (pc' := 91) d7_90 rfl rfl ?_
    refine X5.lastore (pc' := 92) Vk (own_tl_len k ▸ hz) d7_91 rfl (Or.inl (by simp)) (fun T6 h6 X6 W6 => ?_)
    have V6 : Lst Z h6 ak .long (own_tl (own_upd k z.toInt.toNat q)) := (own_tl_set k z.toInt.toNat q) ▸ Vk.set W6
    have Ea_6 := Exa.wr W6 Ea
    have Fk_6 := Fld.other W6 Fk (Or.inl ne_a_ak)
    have Fv_6 := Fld.other W6 Fv (Or.inl ne_a_ak)
    have Fs_6 := Fld.other W6 Fs (Or.inl ne_a_ak)
    have Vv_6 := Vv.other W6 (Ne.symm hne)
    refine X6.aloadN (pc' := 93) d7_92 rfl rfl rfl ?_
    refine X6.getfield (pc' := 96) (host := "") (Or.inl (wd_14 hw)) Via.refl Fv_6 d7_93 rfl (fun T7 X7 => ?_)
    refine X7.iload (pc' := 98) d7_96 rfl rfl ?_
    refine X7.iloadN (pc' := 99) d7_98 rfl rfl ?_
    refine X7.iastore (pc' := 100) Vv_6 (own_ti_len v ▸ hz) d7_99 rfl (Or.inl (by simp)) (fun T8 h8 X8 W8 => ?_)
    have V8 : Lst Z h8 av .int (own_ti (own_upd v z.toInt.toNat x0)) := (own_ti_set v z.toInt.toNat x0) ▸ Vv_6.set W8
    have Ea_8 := Exa.wr W8 Ea_6
    have Fk_8 := Fld.other W8 Fk_6 (Or.inl ne_a_av)
    have Fv_8 := Fld.other W8 Fv_6 (Or.inl ne_a_av)
    have Fs_8 := Fld.other W8 Fs_6 (Or.inl ne_a_av)
    have V6_8 := V6.other W8 hne
    refine X8.aloadN (pc' := 101) d7_100 rfl rfl rfl ?_
    refine X8.dup (pc' := 102) d7_101 rfl rfl ?_
    refine X8.getfield (pc' := 105) (host := "") (Or.inl (wd_38 hw)) Via.refl Fs_8 d7_102 rfl (fun T9 X9 => ?_)
    refine X9.iconst (pc' := 106) (z := 1) d7_105 rfl rfl ?_
    refine X9.iadd (pc' := 107) d7_106 rfl ?_
    refine X9.dupX1 (pc' := 108) d7_107 rfl rfl rfl ?_
    refine X9.putfield (pc' := 111) (host := "") (Or.inl (wd_38 hw)) Via.refl Fs_8 Ea_8 (Or.inl (wd_39 hw)) (wd_2 hw) (ty := .int) (by decide) rfl rfl d7_108 rfl (Or.inl (by simp)) (fun T10 h10 X10 W10 => ?_)
    have Fw10 := Fld.same W10 Fs_8
    have Ea_10 := Exa.wr W10 Ea_8
    have Fk_10 := Fld.other W10 Fk_8 (Or.inr (slot_ne (Or.inl (wd_12 hw)) (Or.inl (wd_39 hw)) (by decide) (t := (.array .long)) (t' := .int) (by decide) (by decide)))
    have Fv_10 := Fld.other W10 Fv_8 (Or.inr (slot_ne (Or.inl (wd_15 hw)) (Or.inl (wd_39 hw)) (by decide) (t := (.array .int)) (t' := .int) (by decide) (by decide)))
    have V6_10 := V6_8.other W10 (Ne.symm ne_a_ak)
    have V8_10 := V8.other W10 (Ne.symm ne_a_av)
    refine X10.aloadN (pc' := 112) d7_111 rfl rfl rfl ?_
    refine X10.getfield (pc' := 115) (host := "") (Or.inl (wd_11 hw)) Via.refl Fk_10 d7_112 rfl (fun T11 X11 => ?_)
    refine X11.arraylength (pc' := 116) (n := (16 : Int32)) V6_10 (by rw [own_tl_len]; rfl) d7_115 rfl ?_
    refine X11.iconst (pc' := 117) (z := 2) d7_116 rfl rfl ?_
    refine X11.idiv (pc' := 118) d7_117 (by decide) rfl ?_
    refine X11.icmpYes (pc' := 125) d7_118 (flt hsz).2.2.2 (by decide) (by decide) ?_
    refine X11.iload (pc' := 127) d7_125 rfl rfl ?_
    exact X11.ireturn rfl d7_127 (by decide) (by decide) ⟨_, _, _, _, rfl, hg' ▸ ⟨Ea_10, Fk_10, Fv_10, Fw10, V6_10, V8_10⟩, Or.inl ⟨hg' ▸ hc4, rfl, rfl, rfl⟩⟩
  · refine X3.icmpYes (pc' := 125) d7_81 (feq hc4).2 (by decide) (by decide) ?_
    refine X3.iload (pc' := 127) d7_125 rfl rfl ?_
    exact X3.ireturn rfl d7_127 (by decide) (by decide) ⟨_, _, _, _, rfl, ⟨Ea, Fk, Fv, Fs, Vk, Vv⟩, Or.inr ⟨hg' ▸ hc4, rfl, rfl, rfl⟩⟩
set_option maxRecDepth 65536 in
set_option maxHeartbeats 40000000 in
theorem ct3 (l : Launch) (Z : State) (a0 : Array Value) (hw : ∀ d ∈ tables_1, d.before a0 Z = true) (a : Addr) (h0 : Heap) (Va : Lst Z h0 a .int [(.int (0 : Int32)), (.int (0 : Int32)), (.int (0 : Int32)), (.int (0 : Int32)), (.int (0 : Int32)), (.int (0 : Int32)), (.int (0 : Int32)), (.int (0 : Int32)), (.int (0 : Int32)), (.int (0 : Int32)), (.int (0 : Int32)), (.int (0 : Int32)), (.int (0 : Int32)), (.int (0 : Int32)), (.int (0 : Int32)), (.int (0 : Int32))]) :
    Ct l Z y3 jdk_65_method_103_code 4 none ({ frames := 0, cells := 0, slots := 0, locals := 0 } : Room) #[(.ref a), (.int (-1 : Int32))] h0 [a] (fun r h => r = none ∧ Lst Z h a .int (own_ti fun _ => -1)) := by
  refine Ct.of (plainFor_of_name (by first | (simp [plainName, overriddenIn]; done) | decide +kernel)) ?_
  intro p e s m below meth c T0 X0
  refine Runs.top (g' := mkF m 0 #[.val (.ref a), .val (.int (-1 : Int32)), .unset, .unset] []) (by first | (simp [entryFrame, mkF, argsToLocals, Value.category]; done) | rfl) ?_
  refine X0.iconst (pc' := 1) (z := 0) d3_0 rfl rfl ?_
  refine X0.istoreN (pc' := 2) (l' := #[.val (.ref a), .val (.int (-1 : Int32)), .val (.int (0 : Int32)), .unset]) d3_1 rfl rfl ?_
  refine X0.aloadN (pc' := 3) d3_2 rfl rfl rfl ?_
  refine X0.arraylength (pc' := 4) (n := (16 : Int32)) Va rfl d3_3 rfl ?_
  refine X0.istoreN (pc' := 5) (l' := #[.val (.ref a), .val (.int (-1 : Int32)), .val (.int (0 : Int32)), .val (.int (16 : Int32))]) d3_4 rfl rfl ?_
  refine X0.iloadN (pc' := 6) d3_5 rfl rfl ?_
  refine X0.iloadN (pc' := 7) d3_6 rfl rfl ?_
  refine X0.icmpNo (pc' := 10) d3_7 (by decide) rfl ?_
  refine X0.aloadN (pc' := 11) d3_10 rfl rfl rfl ?_
  refine X0.iloadN (pc' := 12) d3_11 rfl rfl ?_
  refine X0.iloadN (pc' := 13) d3_12 rfl rfl ?_
  refine X0.iastore (pc' := 14) Va (show Inb (0 : Int32) 16 from ⟨by decide, by decide⟩) d3_13 rfl (Or.inl (by simp)) (fun T1 h1 X1 W1 => ?_)
  have V1 : Lst Z h1 a .int [(.int (-1 : Int32)), (.int (0 : Int32)), (.int (0 : Int32)), (.int (0 : Int32)), (.int (0 : Int32)), (.int (0 : Int32)), (.int (0 : Int32)), (.int (0 : Int32)), (.int (0 : Int32)), (.int (0 : Int32)), (.int (0 : Int32)), (.int (0 : Int32)), (.int (0 : Int32)), (.int (0 : Int32)), (.int (0 : Int32)), (.int (0 : Int32))] := Va.set W1
  refine X1.iinc (pc' := 17) (z := 1) (l' := #[.val (.ref a), .val (.int (-1 : Int32)), .val (.int (1 : Int32)), .val (.int (16 : Int32))]) d3_14 rfl rfl rfl rfl ?_
  refine X1.goto (pc' := 5) d3_17 (by decide) (by decide) ?_
  refine X1.iloadN (pc' := 6) d3_5 rfl rfl ?_
  refine X1.iloadN (pc' := 7) d3_6 rfl rfl ?_
  refine X1.icmpNo (pc' := 10) d3_7 (by decide) rfl ?_
  refine X1.aloadN (pc' := 11) d3_10 rfl rfl rfl ?_
  refine X1.iloadN (pc' := 12) d3_11 rfl rfl ?_
  refine X1.iloadN (pc' := 13) d3_12 rfl rfl ?_
  refine X1.iastore (pc' := 14) V1 (show Inb (1 : Int32) 16 from ⟨by decide, by decide⟩) d3_13 rfl (Or.inl (by simp)) (fun T2 h2 X2 W2 => ?_)
  have V2 : Lst Z h2 a .int [(.int (-1 : Int32)), (.int (-1 : Int32)), (.int (0 : Int32)), (.int (0 : Int32)), (.int (0 : Int32)), (.int (0 : Int32)), (.int (0 : Int32)), (.int (0 : Int32)), (.int (0 : Int32)), (.int (0 : Int32)), (.int (0 : Int32)), (.int (0 : Int32)), (.int (0 : Int32)), (.int (0 : Int32)), (.int (0 : Int32)), (.int (0 : Int32))] := V1.set W2
  refine X2.iinc (pc' := 17) (z := 1) (l' := #[.val (.ref a), .val (.int (-1 : Int32)), .val (.int (2 : Int32)), .val (.int (16 : Int32))]) d3_14 rfl rfl rfl rfl ?_
  refine X2.goto (pc' := 5) d3_17 (by decide) (by decide) ?_
  refine X2.iloadN (pc' := 6) d3_5 rfl rfl ?_
  refine X2.iloadN (pc' := 7) d3_6 rfl rfl ?_
  refine X2.icmpNo (pc' := 10) d3_7 (by decide) rfl ?_
  refine X2.aloadN (pc' := 11) d3_10 rfl rfl rfl ?_
  refine X2.iloadN (pc' := 12) d3_11 rfl rfl ?_
  refine X2.iloadN (pc' := 13) d3_12 rfl rfl ?_
  refine X2.iastore (pc' := 14) V2 (show Inb (2 : Int32) 16 from ⟨by decide, by decide⟩) d3_13 rfl (Or.inl (by simp)) (fun T3 h3 X3 W3 => ?_)
  have V3 : Lst Z h3 a .int [(.int (-1 : Int32)), (.int (-1 : Int32)), (.int (-1 : Int32)), (.int (0 : Int32)), (.int (0 : Int32)), (.int (0 : Int32)), (.int (0 : Int32)), (.int (0 : Int32)), (.int (0 : Int32)), (.int (0 : Int32)), (.int (0 : Int32)), (.int (0 : Int32)), (.int (0 : Int32)), (.int (0 : Int32)), (.int (0 : Int32)), (.int (0 : Int32))] := V2.set W3
  refine X3.iinc (pc' := 17) (z := 1) (l' := #[.val (.ref a), .val (.int (-1 : Int32)), .val (.int (3 : Int32)), .val (.int (16 : Int32))]) d3_14 rfl rfl rfl rfl ?_
  refine X3.goto (pc' := 5) d3_17 (by decide) (by decide) ?_
  refine X3.iloadN (pc' := 6) d3_5 rfl rfl ?_
  refine X3.iloadN (pc' := 7) d3_6 rfl rfl ?_
  refine X3.icmpNo (pc' := 10) d3_7 (by decide) rfl ?_
  refine X3.aloadN (pc' := 11) d3_10 rfl rfl rfl ?_
  refine X3.iloadN (pc' := 12) d3_11 rfl rfl ?_
  refine X3.iloadN (pc' := 13) d3_12 rfl rfl ?_
  refine X3.iastore (pc' := 14) V3 (show Inb (3 : Int32) 16 from ⟨by decide, by decide⟩) d3_13 rfl (Or.inl (by simp)) (fun T4 h4 X4 W4 => ?_)
  have V4 : Lst Z h4 a .int [(.int (-1 : Int32)), (.int (-1 : Int32)), (.int (-1 : Int32)), (.int (-1 : Int32)), (.int (0 : Int32)), (.int (0 : Int32)), (.int (0 : Int32)), (.int (0 : Int32)), (.int (0 : Int32)), (.int (0 : Int32)), (.int (0 : Int32)), (.int (0 : Int32)), (.int (0 : Int32)), (.int (0 : Int32)), (.int (0 : Int32)), (.int (0 : Int32))] := V3.set W4
  refine X4.iinc (pc' := 17) (z := 1) (l' := #[.val (.ref a), .val (.int (-1 : Int32)), .val (.int (4 : Int32)), .val (.int (16 : Int32))]) d3_14 rfl rfl rfl rfl ?_
  refine X4.goto (pc' := 5) d3_17 (by decide) (by decide) ?_
  refine X4.iloadN (pc' := 6) d3_5 rfl rfl ?_
  refine X4.iloadN (pc' := 7) d3_6 rfl rfl ?_
  refine X4.icmpNo (pc' := 10) d3_7 (by decide) rfl ?_
  refine X4.aloadN (pc' := 11) d3_10 rfl rfl rfl ?_
  refine X4.iloadN (pc' := 12) d3_11 rfl rfl ?_
  refine X4.iloadN (pc' := 13) d3_12 rfl rfl ?_
  refine X4.iastore (pc' := 14) V4 (show Inb (4 : Int32) 16 from ⟨by decide, by decide⟩) d3_13 rfl (Or.inl (by simp)) (fun T5 h5 X5 W5 => ?_)
  have V5 : Lst Z h5 a .int [(.int (-1 : Int32)), (.int (-1 : Int32)), (.int (-1 : Int32)), (.int (-1 : Int32)), (.int (-1 : Int32)), (.int (0 : Int32)), (.int (0 : Int32)), (.int (0 : Int32)), (.int (0 : Int32)), (.int (0 : Int32)), (.int (0 : Int32)), (.int (0 : Int32)), (.int (0 : Int32)), (.int (0 : Int32)), (.int (0 : Int32)), (.int (0 : Int32))] := V4.set W5
  refine X5.iinc (pc' := 17) (z := 1) (l' := #[.val (.ref a), .val (.int (-1 : Int32)), .val (.int (5 : Int32)), .val (.int (16 : Int32))]) d3_14 rfl rfl rfl rfl ?_
  refine X5.goto (pc' := 5) d3_17 (by decide) (by decide) ?_
  refine X5.iloadN (pc' := 6) d3_5 rfl rfl ?_
  refine X5.iloadN (pc' := 7) d3_6 rfl rfl ?_
  refine X5.icmpNo (pc' := 10) d3_7 (by decide) rfl ?_
  refine X5.aloadN (pc' := 11) d3_10 rfl rfl rfl ?_
  refine X5.iloadN (pc' := 12) d3_11 rfl rfl ?_
  refine X5.iloadN (pc' := 13) d3_12 rfl rfl ?_
  refine X5.iastore (pc' := 14) V5 (show Inb (5 : Int32) 16 from ⟨by decide, by decide⟩) d3_13 rfl (Or.inl (by simp)) (fun T6 h6 X6 W6 => ?_)
  have V6 : Lst Z h6 a .int [(.int (-1 : Int32)), (.int (-1 : Int32)), (.int (-1 : Int32)), (.int (-1 : Int32)), (.int (-1 : Int32)), (.int (-1 : Int32)), (.int (0 : Int32)), (.int (0 : Int32)), (.int (0 : Int32)), (.int (0 : Int32)), (.int (0 : Int32)), (.int (0 : Int32)), (.int (0 : Int32)), (.int (0 : Int32)), (.int (0 : Int32)), (.int (0 : Int32))] := V5.set W6
  refine X6.iinc (pc' := 17) (z := 1) (l' := #[.val (.ref a), .val (.int (-1 : Int32)), .val (.int (6 : Int32)), .val (.int (16 : Int32))]) d3_14 rfl rfl rfl rfl ?_
  refine X6.goto (pc' := 5) d3_17 (by decide) (by decide) ?_
  refine X6.iloadN (pc' := 6) d3_5 rfl rfl ?_
  refine X6.iloadN (pc' := 7) d3_6 rfl rfl ?_
  refine X6.icmpNo (pc' := 10) d3_7 (by decide) rfl ?_
  refine X6.aloadN (pc' := 11) d3_10 rfl rfl rfl ?_
  refine X6.iloadN (pc' := 12) d3_11 rfl rfl ?_
  refine X6.iloadN (pc' := 13) d3_12 rfl rfl ?_
  refine X6.iastore (pc' := 14) V6 (show Inb (6 : Int32) 16 from ⟨by decide, by decide⟩) d3_13 rfl (Or.inl (by simp)) (fun T7 h7 X7 W7 => ?_)
  have V7 : Lst Z h7 a .int [(.int (-1 : Int32)), (.int (-1 : Int32)), (.int (-1 : Int32)), (.int (-1 : Int32)), (.int (-1 : Int32)), (.int (-1 : Int32)), (.int (-1 : Int32)), (.int (0 : Int32)), (.int (0 : Int32)), (.int (0 : Int32)), (.int (0 : Int32)), (.int (0 : Int32)), (.int (0 : Int32)), (.int (0 : Int32)), (.int (0 : Int32)), (.int (0 : Int32))] := V6.set W7
  refine X7.iinc (pc' := 17) (z := 1) (l' := #[.val (.ref a), .val (.int (-1 : Int32)), .val (.int (7 : Int32)), .val (.int (16 : Int32))]) d3_14 rfl rfl rfl rfl ?_
  refine X7.goto (pc' := 5) d3_17 (by decide) (by decide) ?_
  refine X7.iloadN (pc' := 6) d3_5 rfl rfl ?_
  refine X7.iloadN (pc' := 7) d3_6 rfl rfl ?_
  refine X7.icmpNo (pc' := 10) d3_7 (by decide) rfl ?_
  refine X7.aloadN (pc' := 11) d3_10 rfl rfl rfl ?_
  refine X7.iloadN (pc' := 12) d3_11 rfl rfl ?_
  refine X7.iloadN (pc' := 13) d3_12 rfl rfl ?_
  refine X7.iastore (pc' := 14) V7 (show Inb (7 : Int32) 16 from ⟨by decide, by decide⟩) d3_13 rfl (Or.inl (by simp)) (fun T8 h8 X8 W8 => ?_)
  have V8 : Lst Z h8 a .int [(.int (-1 : Int32)), (.int (-1 : Int32)), (.int (-1 : Int32)), (.int (-1 : Int32)), (.int (-1 : Int32)), (.int (-1 : Int32)), (.int (-1 : Int32)), (.int (-1 : Int32)), (.int (0 : Int32)), (.int (0 : Int32)), (.int (0 : Int32)), (.int (0 : Int32)), (.int (0 : Int32)), (.int (0 : Int32)), (.int (0 : Int32)), (.int (0 : Int32))] := V7.set W8
  refine X8.iinc (pc' := 17) (z := 1) (l' := #[.val (.ref a), .val (.int (-1 : Int32)), .val (.int (8 : Int32)), .val (.int (16 : Int32))]) d3_14 rfl rfl rfl rfl ?_
  refine X8.goto (pc' := 5) d3_17 (by decide) (by decide) ?_
  refine X8.iloadN (pc' := 6) d3_5 rfl rfl ?_
  refine X8.iloadN (pc' := 7) d3_6 rfl rfl ?_
  refine X8.icmpNo (pc' := 10) d3_7 (by decide) rfl ?_
  refine X8.aloadN (pc' := 11) d3_10 rfl rfl rfl ?_
  refine X8.iloadN (pc' := 12) d3_11 rfl rfl ?_
  refine X8.iloadN (pc' := 13) d3_12 rfl rfl ?_
  refine X8.iastore (pc' := 14) V8 (show Inb (8 : Int32) 16 from ⟨by decide, by decide⟩) d3_13 rfl (Or.inl (by simp)) (fun T9 h9 X9 W9 => ?_)
  have V9 : Lst Z h9 a .int [(.int (-1 : Int32)), (.int (-1 : Int32)), (.int (-1 : Int32)), (.int (-1 : Int32)), (.int (-1 : Int32)), (.int (-1 : Int32)), (.int (-1 : Int32)), (.int (-1 : Int32)), (.int (-1 : Int32)), (.int (0 : Int32)), (.int (0 : Int32)), (.int (0 : Int32)), (.int (0 : Int32)), (.int (0 : Int32)), (.int (0 : Int32)), (.int (0 : Int32))] := V8.set W9
  refine X9.iinc (pc' := 17) (z := 1) (l' := #[.val (.ref a), .val (.int (-1 : Int32)), .val (.int (9 : Int32)), .val (.int (16 : Int32))]) d3_14 rfl rfl rfl rfl ?_
  refine X9.goto (pc' := 5) d3_17 (by decide) (by decide) ?_
  refine X9.iloadN (pc' := 6) d3_5 rfl rfl ?_
  refine X9.iloadN (pc' := 7) d3_6 rfl rfl ?_
  refine X9.icmpNo (pc' := 10) d3_7 (by decide) rfl ?_
  refine X9.aloadN (pc' := 11) d3_10 rfl rfl rfl ?_
  refine X9.iloadN (pc' := 12) d3_11 rfl rfl ?_
  refine X9.iloadN (pc' := 13) d3_12 rfl rfl ?_
  refine X9.iastore (pc' := 14) V9 (show Inb (9 : Int32) 16 from ⟨by decide, by decide⟩) d3_13 rfl (Or.inl (by simp)) (fun T10 h10 X10 W10 => ?_)
  have V10 : Lst Z h10 a .int [(.int (-1 : Int32)), (.int (-1 : Int32)), (.int (-1 : Int32)), (.int (-1 : Int32)), (.int (-1 : Int32)), (.int (-1 : Int32)), (.int (-1 : Int32)), (.int (-1 : Int32)), (.int (-1 : Int32)), (.int (-1 : Int32)), (.int (0 : Int32)), (.int (0 : Int32)), (.int (0 : Int32)), (.int (0 : Int32)), (.int (0 : Int32)), (.int (0 : Int32))] := V9.set W10
  refine X10.iinc (pc' := 17) (z := 1) (l' := #[.val (.ref a), .val (.int (-1 : Int32)), .val (.int (10 : Int32)), .val (.int (16 : Int32))]) d3_14 rfl rfl rfl rfl ?_
  refine X10.goto (pc' := 5) d3_17 (by decide) (by decide) ?_
  refine X10.iloadN (pc' := 6) d3_5 rfl rfl ?_
  refine X10.iloadN (pc' := 7) d3_6 rfl rfl ?_
  refine X10.icmpNo (pc' := 10) d3_7 (by decide) rfl ?_
  refine X10.aloadN (pc' := 11) d3_10 rfl rfl rfl ?_
  refine X10.iloadN (pc' := 12) d3_11 rfl rfl ?_
  refine X10.iloadN (pc' := 13) d3_12 rfl rfl ?_
  refine X10.iastore (pc' := 14) V10 (show Inb (10 : Int32) 16 from ⟨by decide, by decide⟩) d3_13 rfl (Or.inl (by simp)) (fun T11 h11 X11 W11 => ?_)
  have V11 : Lst Z h11 a .int [(.int (-1 : Int32)), (.int (-1 : Int32)), (.int (-1 : Int32)), (.int (-1 : Int32)), (.int (-1 : Int32)), (.int (-1 : Int32)), (.int (-1 : Int32)), (.int (-1 : Int32)), (.int (-1 : Int32)), (.int (-1 : Int32)), (.int (-1 : Int32)), (.int (0 : Int32)), (.int (0 : Int32)), (.int (0 : Int32)), (.int (0 : Int32)), (.int (0 : Int32))] := V10.set W11
  refine X11.iinc (pc' := 17) (z := 1) (l' := #[.val (.ref a), .val (.int (-1 : Int32)), .val (.int (11 : Int32)), .val (.int (16 : Int32))]) d3_14 rfl rfl rfl rfl ?_
  refine X11.goto (pc' := 5) d3_17 (by decide) (by decide) ?_
  refine X11.iloadN (pc' := 6) d3_5 rfl rfl ?_
  refine X11.iloadN (pc' := 7) d3_6 rfl rfl ?_
  refine X11.icmpNo (pc' := 10) d3_7 (by decide) rfl ?_
  refine X11.aloadN (pc' := 11) d3_10 rfl rfl rfl ?_
  refine X11.iloadN (pc' := 12) d3_11 rfl rfl ?_
  refine X11.iloadN (pc' := 13) d3_12 rfl rfl ?_
  refine X11.iastore (pc' := 14) V11 (show Inb (11 : Int32) 16 from ⟨by decide, by decide⟩) d3_13 rfl (Or.inl (by simp)) (fun T12 h12 X12 W12 => ?_)
  have V12 : Lst Z h12 a .int [(.int (-1 : Int32)), (.int (-1 : Int32)), (.int (-1 : Int32)), (.int (-1 : Int32)), (.int (-1 : Int32)), (.int (-1 : Int32)), (.int (-1 : Int32)), (.int (-1 : Int32)), (.int (-1 : Int32)), (.int (-1 : Int32)), (.int (-1 : Int32)), (.int (-1 : Int32)), (.int (0 : Int32)), (.int (0 : Int32)), (.int (0 : Int32)), (.int (0 : Int32))] := V11.set W12
  refine X12.iinc (pc' := 17) (z := 1) (l' := #[.val (.ref a), .val (.int (-1 : Int32)), .val (.int (12 : Int32)), .val (.int (16 : Int32))]) d3_14 rfl rfl rfl rfl ?_
  refine X12.goto (pc' := 5) d3_17 (by decide) (by decide) ?_
  refine X12.iloadN (pc' := 6) d3_5 rfl rfl ?_
  refine X12.iloadN (pc' := 7) d3_6 rfl rfl ?_
  refine X12.icmpNo (pc' := 10) d3_7 (by decide) rfl ?_
  refine X12.aloadN (pc' := 11) d3_10 rfl rfl rfl ?_
  refine X12.iloadN (pc' := 12) d3_11 rfl rfl ?_
  refine X12.iloadN (pc' := 13) d3_12 rfl rfl ?_
  refine X12.iastore (pc' := 14) V12 (show Inb (12 : Int32) 16 from ⟨by decide, by decide⟩) d3_13 rfl (Or.inl (by simp)) (fun T13 h13 X13 W13 => ?_)
  have V13 : Lst Z h13 a .int [(.int (-1 : Int32)), (.int (-1 : Int32)), (.int (-1 : Int32)), (.int (-1 : Int32)), (.int (-1 : Int32)), (.int (-1 : Int32)), (.int (-1 : Int32)), (.int (-1 : Int32)), (.int (-1 : Int32)), (.int (-1 : Int32)), (.int (-1 : Int32)), (.int (-1 : Int32)), (.int (-1 : Int32)), (.int (0 : Int32)), (.int (0 : Int32)), (.int (0 : Int32))] := V12.set W13
  refine X13.iinc (pc' := 17) (z := 1) (l' := #[.val (.ref a), .val (.int (-1 : Int32)), .val (.int (13 : Int32)), .val (.int (16 : Int32))]) d3_14 rfl rfl rfl rfl ?_
  refine X13.goto (pc' := 5) d3_17 (by decide) (by decide) ?_
  refine X13.iloadN (pc' := 6) d3_5 rfl rfl ?_
  refine X13.iloadN (pc' := 7) d3_6 rfl rfl ?_
  refine X13.icmpNo (pc' := 10) d3_7 (by decide) rfl ?_
  refine X13.aloadN (pc' := 11) d3_10 rfl rfl rfl ?_
  refine X13.iloadN (pc' := 12) d3_11 rfl rfl ?_
  refine X13.iloadN (pc' := 13) d3_12 rfl rfl ?_
  refine X13.iastore (pc' := 14) V13 (show Inb (13 : Int32) 16 from ⟨by decide, by decide⟩) d3_13 rfl (Or.inl (by simp)) (fun T14 h14 X14 W14 => ?_)
  have V14 : Lst Z h14 a .int [(.int (-1 : Int32)), (.int (-1 : Int32)), (.int (-1 : Int32)), (.int (-1 : Int32)), (.int (-1 : Int32)), (.int (-1 : Int32)), (.int (-1 : Int32)), (.int (-1 : Int32)), (.int (-1 : Int32)), (.int (-1 : Int32)), (.int (-1 : Int32)), (.int (-1 : Int32)), (.int (-1 : Int32)), (.int (-1 : Int32)), (.int (0 : Int32)), (.int (0 : Int32))] := V13.set W14
  refine X14.iinc (pc' := 17) (z := 1) (l' := #[.val (.ref a), .val (.int (-1 : Int32)), .val (.int (14 : Int32)), .val (.int (16 : Int32))]) d3_14 rfl rfl rfl rfl ?_
  refine X14.goto (pc' := 5) d3_17 (by decide) (by decide) ?_
  refine X14.iloadN (pc' := 6) d3_5 rfl rfl ?_
  refine X14.iloadN (pc' := 7) d3_6 rfl rfl ?_
  refine X14.icmpNo (pc' := 10) d3_7 (by decide) rfl ?_
  refine X14.aloadN (pc' := 11) d3_10 rfl rfl rfl ?_
  refine X14.iloadN (pc' := 12) d3_11 rfl rfl ?_
  refine X14.iloadN (pc' := 13) d3_12 rfl rfl ?_
  refine X14.iastore (pc' := 14) V14 (show Inb (14 : Int32) 16 from ⟨by decide, by decide⟩) d3_13 rfl (Or.inl (by simp)) (fun T15 h15 X15 W15 => ?_)
  have V15 : Lst Z h15 a .int [(.int (-1 : Int32)), (.int (-1 : Int32)), (.int (-1 : Int32)), (.int (-1 : Int32)), (.int (-1 : Int32)), (.int (-1 : Int32)), (.int (-1 : Int32)), (.int (-1 : Int32)), (.int (-1 : Int32)), (.int (-1 : Int32)), (.int (-1 : Int32)), (.int (-1 : Int32)), (.int (-1 : Int32)), (.int (-1 : Int32)), (.int (-1 : Int32)), (.int (0 : Int32))] := V14.set W15
  refine X15.iinc (pc' := 17) (z := 1) (l' := #[.val (.ref a), .val (.int (-1 : Int32)), .val (.int (15 : Int32)), .val (.int (16 : Int32))]) d3_14 rfl rfl rfl rfl ?_
  refine X15.goto (pc' := 5) d3_17 (by decide) (by decide) ?_
  refine X15.iloadN (pc' := 6) d3_5 rfl rfl ?_
  refine X15.iloadN (pc' := 7) d3_6 rfl rfl ?_
  refine X15.icmpNo (pc' := 10) d3_7 (by decide) rfl ?_
  refine X15.aloadN (pc' := 11) d3_10 rfl rfl rfl ?_
  refine X15.iloadN (pc' := 12) d3_11 rfl rfl ?_
  refine X15.iloadN (pc' := 13) d3_12 rfl rfl ?_
  refine X15.iastore (pc' := 14) V15 (show Inb (15 : Int32) 16 from ⟨by decide, by decide⟩) d3_13 rfl (Or.inl (by simp)) (fun T16 h16 X16 W16 => ?_)
  have V16 : Lst Z h16 a .int [(.int (-1 : Int32)), (.int (-1 : Int32)), (.int (-1 : Int32)), (.int (-1 : Int32)), (.int (-1 : Int32)), (.int (-1 : Int32)), (.int (-1 : Int32)), (.int (-1 : Int32)), (.int (-1 : Int32)), (.int (-1 : Int32)), (.int (-1 : Int32)), (.int (-1 : Int32)), (.int (-1 : Int32)), (.int (-1 : Int32)), (.int (-1 : Int32)), (.int (-1 : Int32))] := V15.set W16
  refine X16.iinc (pc' := 17) (z := 1) (l' := #[.val (.ref a), .val (.int (-1 : Int32)), .val (.int (16 : Int32)), .val (.int (16 : Int32))]) d3_14 rfl rfl rfl rfl ?_
  refine X16.goto (pc' := 5) d3_17 (by decide) (by decide) ?_
  refine X16.iloadN (pc' := 6) d3_5 rfl rfl ?_
  refine X16.iloadN (pc' := 7) d3_6 rfl rfl ?_
  refine X16.icmpYes (pc' := 20) d3_7 (by decide) (by decide) (by decide) ?_
  exact X16.vreturn rfl d3_20 (by decide) (by decide) ⟨rfl, V16⟩
set_option maxRecDepth 65536 in
set_option maxHeartbeats 40000000 in
theorem ct1 (l : Launch) (Z : State) (a0 : Array Value) (hw : ∀ d ∈ tables_1, d.before a0 Z = true) (a : Addr) (h0 : Heap) (E_a : Exa Z h0 a "com/example/stacks_in_time/stacksintime/LongIntMap") (Fkeys_a : Fld Z h0 a "com/example/stacks_in_time/stacksintime/LongIntMap" "keys" "[J" .null) (Fvalues_a : Fld Z h0 a "com/example/stacks_in_time/stacksintime/LongIntMap" "values" "[I" .null) (Fsize_a : Fld Z h0 a "com/example/stacks_in_time/stacksintime/LongIntMap" "size" "I" (.int (0 : Int32))) :
    Ct l Z y1 prog_81_method_1_code 1 none ({ frames := 1, cells := 2, slots := 32, locals := 15 } : Room) #[(.ref a)] h0 [a] (fun r h => r = none ∧ ∃ ak av, h0.size ≤ ak ∧ h0.size ≤ av ∧ ak ≠ av ∧ own_H Z h a ak av (fun _ => 0) (fun _ => -1) (0 : Int32)) := by
  refine Ct.of (plainFor_of_name (by first | (simp [plainName, overriddenIn]; done) | decide +kernel)) ?_
  intro p e s m below meth c T0 X0
  refine Runs.top (g' := mkF m 0 #[.val (.ref a)] []) (by first | (simp [entryFrame, mkF, argsToLocals, Value.category]; done) | rfl) ?_
  refine X0.aloadN (pc' := 1) d1_0 rfl rfl rfl ?_
  refine X0.initObj (pc' := 4) (W := 0) (wd_7 hw) (wd_8 hw) (wd_9 hw) rfl d1_1 rfl (by decide) rfl (by decide) (fun T1 X1 => ?_)
  refine X1.aloadN (pc' := 5) d1_4 rfl rfl rfl ?_
  refine X1.bipush (pc' := 7) (z := 16) d1_5 rfl rfl ?_
  refine X1.newarray (pc' := 9) (ty := .long) rfl (wd_10 hw) d1_7 rfl (cap := 16) ⟨by decide, by decide⟩ (by decide) (by decide) (by decide) (fun T2 h2 b2 X2 g2 E2 V2 => ?_)
  have sz_b2 : h0.size ≤ b2 := g2 ▸ X1.size
  have ne_a_b2 : a ≠ b2 := Nat.ne_of_lt (g2 ▸ E_a.lt)
  have E_a_2 := Exa.ext E2 E_a
  have Fkeys_a_2 := Fld.ext E2 Fkeys_a
  have Fvalues_a_2 := Fld.ext E2 Fvalues_a
  have Fsize_a_2 := Fld.ext E2 Fsize_a
  have V2' : Lst Z h2 b2 .long [(.long (0 : Int64)), (.long (0 : Int64)), (.long (0 : Int64)), (.long (0 : Int64)), (.long (0 : Int64)), (.long (0 : Int64)), (.long (0 : Int64)), (.long (0 : Int64)), (.long (0 : Int64)), (.long (0 : Int64)), (.long (0 : Int64)), (.long (0 : Int64)), (.long (0 : Int64)), (.long (0 : Int64)), (.long (0 : Int64)), (.long (0 : Int64))] := V2
  refine X2.putfield (pc' := 12) (host := "") (Or.inl (wd_11 hw)) Via.refl Fkeys_a_2 E_a_2 (Or.inl (wd_12 hw)) (wd_2 hw) (ty := (.array .long)) (by decide) rfl rfl d1_9 rfl (Or.inl (by simp)) (fun T3 h3 X3 W3 => ?_)
  have Fw3 := Fld.same W3 Fkeys_a_2
  have E_a_3 := Exa.wr W3 E_a_2
  have Fvalues_a_3 := Fld.other W3 Fvalues_a_2 (Or.inr (slot_ne (Or.inl (wd_15 hw)) (Or.inl (wd_12 hw)) (by decide) (t := (.array .int)) (t' := (.array .long)) (by decide) (by decide)))
  have Fsize_a_3 := Fld.other W3 Fsize_a_2 (Or.inr (slot_ne (Or.inl (wd_39 hw)) (Or.inl (wd_12 hw)) (by decide) (t := .int) (t' := (.array .long)) (by decide) (by decide)))
  have V2'_3 := V2'.other W3 (Ne.symm ne_a_b2)
  refine X3.aloadN (pc' := 13) d1_12 rfl rfl rfl ?_
  refine X3.bipush (pc' := 15) (z := 16) d1_13 rfl rfl ?_
  refine X3.newarray (pc' := 17) (ty := .int) rfl (wd_13 hw) d1_15 rfl (cap := 16) ⟨by decide, by decide⟩ (by decide) (by decide) (by decide) (fun T4 h4 b4 X4 g4 E4 V4 => ?_)
  have sz_b4 : h0.size ≤ b4 := g4 ▸ X3.size
  have ne_a_b4 : a ≠ b4 := Nat.ne_of_lt (g4 ▸ E_a_3.lt)
  have ne_b2_b4 : b2 ≠ b4 := Nat.ne_of_lt (g4 ▸ V2'_3.lt)
  have E_a_4 := Exa.ext E4 E_a_3
  have Fw3_4 := Fld.ext E4 Fw3
  have Fvalues_a_4 := Fld.ext E4 Fvalues_a_3
  have Fsize_a_4 := Fld.ext E4 Fsize_a_3
  have V2'_4 := V2'_3.ext E4
  have V4' : Lst Z h4 b4 .int [(.int (0 : Int32)), (.int (0 : Int32)), (.int (0 : Int32)), (.int (0 : Int32)), (.int (0 : Int32)), (.int (0 : Int32)), (.int (0 : Int32)), (.int (0 : Int32)), (.int (0 : Int32)), (.int (0 : Int32)), (.int (0 : Int32)), (.int (0 : Int32)), (.int (0 : Int32)), (.int (0 : Int32)), (.int (0 : Int32)), (.int (0 : Int32))] := V4
  refine X4.putfield (pc' := 20) (host := "") (Or.inl (wd_14 hw)) Via.refl Fvalues_a_4 E_a_4 (Or.inl (wd_15 hw)) (wd_2 hw) (ty := (.array .int)) (by decide) rfl rfl d1_17 rfl (Or.inl (by simp)) (fun T5 h5 X5 W5 => ?_)
  have Fw5 := Fld.same W5 Fvalues_a_4
  have E_a_5 := Exa.wr W5 E_a_4
  have Fw3_5 := Fld.other W5 Fw3_4 (Or.inr (slot_ne (Or.inl (wd_12 hw)) (Or.inl (wd_15 hw)) (by decide) (t := (.array .long)) (t' := (.array .int)) (by decide) (by decide)))
  have Fsize_a_5 := Fld.other W5 Fsize_a_4 (Or.inr (slot_ne (Or.inl (wd_39 hw)) (Or.inl (wd_15 hw)) (by decide) (t := .int) (t' := (.array .int)) (by decide) (by decide)))
  have V2'_5 := V2'_4.other W5 (Ne.symm ne_a_b2)
  have V4'_5 := V4'.other W5 (Ne.symm ne_a_b4)
  refine X5.aloadN (pc' := 21) d1_20 rfl rfl rfl ?_
  refine X5.getfield (pc' := 24) (host := "") (Or.inl (wd_14 hw)) Via.refl Fw5 d1_21 rfl (fun T6 X6 => ?_)
  refine X6.iconst (pc' := 25) (z := -1) d1_24 rfl rfl ?_
  refine X6.callS (pc' := 28) (W := 0) (argsL := [(.ref b4), (.int (-1 : Int32))]) (rest := []) (ct3 l Z a0 hw b4 h5 V4'_5) (wd_16 hw) (wd_17 hw) (wd_18 hw) (wd_19 hw) (by decide) pd_1 rfl rfl rfl rfl d1_25 rfl (by decide) rfl (by decide) (by decide) (by decide) ((allS (Or.inr sz_b4) all0)) (fun T7 h7 v7 X7 K7 Q7 => ?_)
  have E_a_7 := E_a_5.keep K7
  have Fw3_7 := Fw3_5.keep K7 (ninS ne_a_b4 nin0)
  have Fw5_7 := Fw5.keep K7 (ninS ne_a_b4 nin0)
  have Fsize_a_7 := Fsize_a_5.keep K7 (ninS ne_a_b4 nin0)
  have V2'_7 := V2'_5.keep K7 (ninS ne_b2_b4 nin0)
  obtain ⟨rfl, Vf7⟩ := Q7
  show Runs p e below (T7.setTop (mkF m 28 #[.val (.ref a)] [])) _
  exact X7.vreturn rfl d1_28 (by decide) (by decide) ⟨rfl, b2, b4, sz_b2, sz_b4, ne_b2_b4, ⟨E_a_7, Fw3_7, Fw5_7, Fsize_a_7, V2'_7, Vf7⟩⟩
theorem own_get (l : Launch) (Z : State) (a0 : Array Value) (hw : ∀ d ∈ tables_1, d.before a0 Z = true) (a ak av : Addr) (q : Int64) (n : Nat) (L : Int64 → Int32) (h0 : Heap) (hM : own_M Z h0 a ak av n L) (hn : n ≤ 3) :
    Ct l Z y5 prog_81_method_3_code 4 (some .int) ({ frames := 1, cells := 0, slots := 0, locals := 14 } : Room) #[(.ref a), (.long q)] h0 [] (fun r h => r = some (.int (L q)) ∧ h0 = h) := by
  obtain ⟨hne, k, v, sz, S, H, I, hS, hl, hz, hL⟩ := hM
  refine (ct5 l Z a0 hw a ak av q k v sz h0 H (own_emp (Nat.le_trans hl hn) hS)).mono ?_
  rintro r h ⟨rfl, rfl⟩
  exact ⟨by rw [hL], rfl⟩
theorem own_putM (l : Launch) (Z : State) (a0 : Array Value) (hw : ∀ d ∈ tables_1, d.before a0 Z = true) (a ak av : Addr) (q : Int64) (x0 : Int32) (n : Nat) (L : Int64 → Int32) (h0 : Heap) (hM : own_M Z h0 a ak av n L) (hn : n ≤ 2) (hx : ¬ x0 < (0 : Int32)) :
    Ct l Z y7 prog_81_method_4_code 6 (some .int) ({ frames := 1, cells := 0, slots := 0, locals := 14 } : Room) #[(.ref a), (.long q), (.int x0)] h0 [a, ak, av] (fun r h => ∃ w, r = some (.int w) ∧ own_M Z h a ak av (n + 1) (own_add L q x0)) := by
  obtain ⟨hne, k, v, sz, S, H, I, hS, hl, hz, hL⟩ := hM
  have he := own_emp (v := v) (S := S) (by omega) hS
  have e1 := c_iadd sz (1 : Int32)
  have e2 : (1 : Int32).toInt = 1 := rfl
  have r1 := rng32 sz
  have r2 := rng32 (sz + (1 : Int32))
  have hsz : ¬ (((16 : Int32) / (2 : Int32)) < (sz + (1 : Int32))) := by
    rw [Int32.lt_iff_toInt_lt]
    have e3 : ((16 : Int32) / (2 : Int32)).toInt = 8 := by decide
    omega
  have hx1 : x0 ≠ -1 := fun z => by subst z; exact hx (by decide)
  refine (ct7 l Z a0 hw a ak av q x0 k v sz h0 H he hne hx hsz).mono ?_
  rintro r h ⟨w, k', v', sz', rfl, H', hc⟩
  refine ⟨w, rfl, hne, ?_⟩
  rcases hc with ⟨hv, rfl, rfl, rfl⟩ | ⟨hv, rfl, rfl, rfl⟩
  · have hS' : ∀ t, t < 16 → t ∉ own_find own_hn k v q :: S → own_upd v (own_find own_hn k v q) x0 t = -1 := fun t ht hm => by
      simp only [List.mem_cons, not_or] at hm
      simp only [own_upd, if_neg hm.1]; exact hS t ht hm.2
    obtain ⟨p1, p2⟩ := own_put own_hn own_hh (key := q) rfl I hv hx1 he (own_emp (by simp; omega) hS')
    refine ⟨_, _, _, _ :: S, H', p1, hS', by simp; omega, by omega, fun u => ?_⟩
    rw [p2 u]; unfold own_add
    rw [hL] at hv
    by_cases hu : u = q
    · rw [if_pos hu, if_pos ⟨hu, hv⟩]
    · rw [if_neg hu, if_neg (fun z => hu z.1), hL]
  · refine ⟨k', v', sz', S, H', I, hS, by omega, by omega, fun u => ?_⟩
    unfold own_add
    rw [hL] at hv
    rw [if_neg (fun z => hv z.2), hL]

theorem own_init {Z : State} {h : Heap} {a ak av : Addr} (hne : ak ≠ av) (H : own_H Z h a ak av (fun _ => 0) (fun _ => -1) (0 : Int32)) : own_M Z h a ak av 0 own_L0 :=
  ⟨hne, _, _, _, [], H, fun s _ hv => absurd rfl hv, fun _ _ _ => rfl, Nat.le_refl _, ⟨by decide, by decide⟩, fun _ => rfl⟩

def own_e0 (q k1 k2 k3 : Int64) (x1 x2 x3 : Int32) : Int32 := -1
set_option maxRecDepth 65536 in
set_option maxHeartbeats 40000000 in
theorem ct4_0 (l : Launch) (Z : State) (a0 : Array Value) (hw : ∀ d ∈ tables_1, d.before a0 Z = true) (q k1 k2 k3 : Int64) (x1 x2 x3 : Int32) (h0 : Heap)  :
    Ct l Z y4 method_3_code 12 (some .int) ({ frames := 0, cells := 0, slots := 0, locals := 0 } : Room) #[(.long q), (.int (0 : Int32)), (.long k1), (.long k2), (.long k3), (.int x1), (.int x2), (.int x3)] h0 [] (fun r h => r = some (.int (own_e0 q k1 k2 k3 x1 x2 x3)) ∧ h0 = h) := by
  refine Ct.of (plainFor_of_name (by first | (simp [plainName, overriddenIn]; done) | decide +kernel)) ?_
  intro p e s m below meth c T0 X0
  refine Runs.top (g' := mkF m 0 #[.val (.long q), .second, .val (.int (0 : Int32)), .val (.long k1), .second, .val (.long k2), .second, .val (.long k3), .second, .val (.int x1), .val (.int x2), .val (.int x3)] []) (by first | (simp [entryFrame, mkF, argsToLocals, Value.category]; done) | rfl) ?_
  refine X0.iloadN (pc' := 1) d4_0 rfl rfl ?_
  refine X0.iconst (pc' := 2) (z := 1) d4_1 rfl rfl ?_
  refine X0.icmpYes (pc' := 14) d4_2 (by decide) (by decide) (by decide) ?_
  refine X0.iloadN (pc' := 15) d4_14 rfl rfl ?_
  refine X0.iconst (pc' := 16) (z := 2) d4_15 rfl rfl ?_
  refine X0.icmpYes (pc' := 29) d4_16 (by decide) (by decide) (by decide) ?_
  refine X0.iloadN (pc' := 30) d4_29 rfl rfl ?_
  refine X0.iconst (pc' := 31) (z := 3) d4_30 rfl rfl ?_
  refine X0.icmpYes (pc' := 44) d4_31 (by decide) (by decide) (by decide) ?_
  refine X0.iconst (pc' := 45) (z := -1) d4_44 rfl rfl ?_
  exact X0.ireturn rfl d4_45 (by decide) (by decide) ⟨by unfold own_e0; rfl, rfl⟩
def own_e1 (q k1 k2 k3 : Int64) (x1 x2 x3 : Int32) : Int32 := if q = k1 then x1 else -1
set_option maxRecDepth 65536 in
set_option maxHeartbeats 40000000 in
theorem ct4_1 (l : Launch) (Z : State) (a0 : Array Value) (hw : ∀ d ∈ tables_1, d.before a0 Z = true) (q k1 k2 k3 : Int64) (x1 x2 x3 : Int32) (h0 : Heap)  :
    Ct l Z y4 method_3_code 12 (some .int) ({ frames := 0, cells := 0, slots := 0, locals := 0 } : Room) #[(.long q), (.int (1 : Int32)), (.long k1), (.long k2), (.long k3), (.int x1), (.int x2), (.int x3)] h0 [] (fun r h => r = some (.int (own_e1 q k1 k2 k3 x1 x2 x3)) ∧ h0 = h) := by
  refine Ct.of (plainFor_of_name (by first | (simp [plainName, overriddenIn]; done) | decide +kernel)) ?_
  intro p e s m below meth c T0 X0
  refine Runs.top (g' := mkF m 0 #[.val (.long q), .second, .val (.int (1 : Int32)), .val (.long k1), .second, .val (.long k2), .second, .val (.long k3), .second, .val (.int x1), .val (.int x2), .val (.int x3)] []) (by first | (simp [entryFrame, mkF, argsToLocals, Value.category]; done) | rfl) ?_
  refine X0.iloadN (pc' := 1) d4_0 rfl rfl ?_
  refine X0.iconst (pc' := 2) (z := 1) d4_1 rfl rfl ?_
  refine X0.icmpNo (pc' := 5) d4_2 (by decide) rfl ?_
  refine X0.lloadN (pc' := 6) d4_5 rfl rfl ?_
  refine X0.lloadN (pc' := 7) d4_6 rfl rfl ?_
  refine X0.lcmp (pc' := 8) d4_7 rfl ?_
  by_cases hc1 : q = k1
  · refine X0.ifNo (pc' := 11) d4_8 (teq ((lw_eq _ _).mpr hc1)).2 rfl ?_
    refine X0.iload (pc' := 13) d4_11 rfl rfl ?_
    exact X0.ireturn rfl d4_13 (by decide) (by decide) ⟨by unfold own_e1; rw [if_pos hc1], rfl⟩
  · refine X0.ifYes (pc' := 14) d4_8 (feq (fun q => hc1 ((lw_eq _ _).mp q))).2 (by decide) (by decide) ?_
    refine X0.iloadN (pc' := 15) d4_14 rfl rfl ?_
    refine X0.iconst (pc' := 16) (z := 2) d4_15 rfl rfl ?_
    refine X0.icmpYes (pc' := 29) d4_16 (by decide) (by decide) (by decide) ?_
    refine X0.iloadN (pc' := 30) d4_29 rfl rfl ?_
    refine X0.iconst (pc' := 31) (z := 3) d4_30 rfl rfl ?_
    refine X0.icmpYes (pc' := 44) d4_31 (by decide) (by decide) (by decide) ?_
    refine X0.iconst (pc' := 45) (z := -1) d4_44 rfl rfl ?_
    exact X0.ireturn rfl d4_45 (by decide) (by decide) ⟨by unfold own_e1; rw [if_neg hc1], rfl⟩
def own_e2 (q k1 k2 k3 : Int64) (x1 x2 x3 : Int32) : Int32 := if q = k1 then x1 else if q = k2 then x2 else -1
set_option maxRecDepth 65536 in
set_option maxHeartbeats 40000000 in
theorem ct4_2 (l : Launch) (Z : State) (a0 : Array Value) (hw : ∀ d ∈ tables_1, d.before a0 Z = true) (q k1 k2 k3 : Int64) (x1 x2 x3 : Int32) (h0 : Heap)  :
    Ct l Z y4 method_3_code 12 (some .int) ({ frames := 0, cells := 0, slots := 0, locals := 0 } : Room) #[(.long q), (.int (2 : Int32)), (.long k1), (.long k2), (.long k3), (.int x1), (.int x2), (.int x3)] h0 [] (fun r h => r = some (.int (own_e2 q k1 k2 k3 x1 x2 x3)) ∧ h0 = h) := by
  refine Ct.of (plainFor_of_name (by first | (simp [plainName, overriddenIn]; done) | decide +kernel)) ?_
  intro p e s m below meth c T0 X0
  refine Runs.top (g' := mkF m 0 #[.val (.long q), .second, .val (.int (2 : Int32)), .val (.long k1), .second, .val (.long k2), .second, .val (.long k3), .second, .val (.int x1), .val (.int x2), .val (.int x3)] []) (by first | (simp [entryFrame, mkF, argsToLocals, Value.category]; done) | rfl) ?_
  refine X0.iloadN (pc' := 1) d4_0 rfl rfl ?_
  refine X0.iconst (pc' := 2) (z := 1) d4_1 rfl rfl ?_
  refine X0.icmpNo (pc' := 5) d4_2 (by decide) rfl ?_
  refine X0.lloadN (pc' := 6) d4_5 rfl rfl ?_
  refine X0.lloadN (pc' := 7) d4_6 rfl rfl ?_
  refine X0.lcmp (pc' := 8) d4_7 rfl ?_
  by_cases hc1 : q = k1
  · refine X0.ifNo (pc' := 11) d4_8 (teq ((lw_eq _ _).mpr hc1)).2 rfl ?_
    refine X0.iload (pc' := 13) d4_11 rfl rfl ?_
    exact X0.ireturn rfl d4_13 (by decide) (by decide) ⟨by unfold own_e2; rw [if_pos hc1], rfl⟩
  · refine X0.ifYes (pc' := 14) d4_8 (feq (fun q => hc1 ((lw_eq _ _).mp q))).2 (by decide) (by decide) ?_
    refine X0.iloadN (pc' := 15) d4_14 rfl rfl ?_
    refine X0.iconst (pc' := 16) (z := 2) d4_15 rfl rfl ?_
    refine X0.icmpNo (pc' := 19) d4_16 (by decide) rfl ?_
    refine X0.lloadN (pc' := 20) d4_19 rfl rfl ?_
    refine X0.lload (pc' := 22) d4_20 rfl rfl ?_
    refine X0.lcmp (pc' := 23) d4_22 rfl ?_
    by_cases hc2 : q = k2
    · refine X0.ifNo (pc' := 26) d4_23 (teq ((lw_eq _ _).mpr hc2)).2 rfl ?_
      refine X0.iload (pc' := 28) d4_26 rfl rfl ?_
      exact X0.ireturn rfl d4_28 (by decide) (by decide) ⟨by unfold own_e2; rw [if_neg hc1, if_pos hc2], rfl⟩
    · refine X0.ifYes (pc' := 29) d4_23 (feq (fun q => hc2 ((lw_eq _ _).mp q))).2 (by decide) (by decide) ?_
      refine X0.iloadN (pc' := 30) d4_29 rfl rfl ?_
      refine X0.iconst (pc' := 31) (z := 3) d4_30 rfl rfl ?_
      refine X0.icmpYes (pc' := 44) d4_31 (by decide) (by decide) (by decide) ?_
      refine X0.iconst (pc' := 45) (z := -1) d4_44 rfl rfl ?_
      exact X0.ireturn rfl d4_45 (by decide) (by decide) ⟨by unfold own_e2; rw [if_neg hc1, if_neg hc2], rfl⟩
def own_e3 (q k1 k2 k3 : Int64) (x1 x2 x3 : Int32) : Int32 := if q = k1 then x1 else if q = k2 then x2 else if q = k3 then x3 else -1
set_option maxRecDepth 65536 in
set_option maxHeartbeats 40000000 in
theorem ct4_3 (l : Launch) (Z : State) (a0 : Array Value) (hw : ∀ d ∈ tables_1, d.before a0 Z = true) (q k1 k2 k3 : Int64) (x1 x2 x3 : Int32) (h0 : Heap)  :
    Ct l Z y4 method_3_code 12 (some .int) ({ frames := 0, cells := 0, slots := 0, locals := 0 } : Room) #[(.long q), (.int (3 : Int32)), (.long k1), (.long k2), (.long k3), (.int x1), (.int x2), (.int x3)] h0 [] (fun r h => r = some (.int (own_e3 q k1 k2 k3 x1 x2 x3)) ∧ h0 = h) := by
  refine Ct.of (plainFor_of_name (by first | (simp [plainName, overriddenIn]; done) | decide +kernel)) ?_
  intro p e s m below meth c T0 X0
  refine Runs.top (g' := mkF m 0 #[.val (.long q), .second, .val (.int (3 : Int32)), .val (.long k1), .second, .val (.long k2), .second, .val (.long k3), .second, .val (.int x1), .val (.int x2), .val (.int x3)] []) (by first | (simp [entryFrame, mkF, argsToLocals, Value.category]; done) | rfl) ?_
  refine X0.iloadN (pc' := 1) d4_0 rfl rfl ?_
  refine X0.iconst (pc' := 2) (z := 1) d4_1 rfl rfl ?_
  refine X0.icmpNo (pc' := 5) d4_2 (by decide) rfl ?_
  refine X0.lloadN (pc' := 6) d4_5 rfl rfl ?_
  refine X0.lloadN (pc' := 7) d4_6 rfl rfl ?_
  refine X0.lcmp (pc' := 8) d4_7 rfl ?_
  by_cases hc1 : q = k1
  · refine X0.ifNo (pc' := 11) d4_8 (teq ((lw_eq _ _).mpr hc1)).2 rfl ?_
    refine X0.iload (pc' := 13) d4_11 rfl rfl ?_
    exact X0.ireturn rfl d4_13 (by decide) (by decide) ⟨by unfold own_e3; rw [if_pos hc1], rfl⟩
  · refine X0.ifYes (pc' := 14) d4_8 (feq (fun q => hc1 ((lw_eq _ _).mp q))).2 (by decide) (by decide) ?_
    refine X0.iloadN (pc' := 15) d4_14 rfl rfl ?_
    refine X0.iconst (pc' := 16) (z := 2) d4_15 rfl rfl ?_
    refine X0.icmpNo (pc' := 19) d4_16 (by decide) rfl ?_
    refine X0.lloadN (pc' := 20) d4_19 rfl rfl ?_
    refine X0.lload (pc' := 22) d4_20 rfl rfl ?_
    refine X0.lcmp (pc' := 23) d4_22 rfl ?_
    by_cases hc2 : q = k2
    · refine X0.ifNo (pc' := 26) d4_23 (teq ((lw_eq _ _).mpr hc2)).2 rfl ?_
      refine X0.iload (pc' := 28) d4_26 rfl rfl ?_
      exact X0.ireturn rfl d4_28 (by decide) (by decide) ⟨by unfold own_e3; rw [if_neg hc1, if_pos hc2], rfl⟩
    · refine X0.ifYes (pc' := 29) d4_23 (feq (fun q => hc2 ((lw_eq _ _).mp q))).2 (by decide) (by decide) ?_
      refine X0.iloadN (pc' := 30) d4_29 rfl rfl ?_
      refine X0.iconst (pc' := 31) (z := 3) d4_30 rfl rfl ?_
      refine X0.icmpNo (pc' := 34) d4_31 (by decide) rfl ?_
      refine X0.lloadN (pc' := 35) d4_34 rfl rfl ?_
      refine X0.lload (pc' := 37) d4_35 rfl rfl ?_
      refine X0.lcmp (pc' := 38) d4_37 rfl ?_
      by_cases hc3 : q = k3
      · refine X0.ifNo (pc' := 41) d4_38 (teq ((lw_eq _ _).mpr hc3)).2 rfl ?_
        refine X0.iload (pc' := 43) d4_41 rfl rfl ?_
        exact X0.ireturn rfl d4_43 (by decide) (by decide) ⟨by unfold own_e3; rw [if_neg hc1, if_neg hc2, if_pos hc3], rfl⟩
      · refine X0.ifYes (pc' := 44) d4_38 (feq (fun q => hc3 ((lw_eq _ _).mp q))).2 (by decide) (by decide) ?_
        refine X0.iconst (pc' := 45) (z := -1) d4_44 rfl rfl ?_
        exact X0.ireturn rfl d4_45 (by decide) (by decide) ⟨by unfold own_e3; rw [if_neg hc1, if_neg hc2, if_neg hc3], rfl⟩
theorem own_three (x : Int32) : ∀ z, z = (x &&& (3 : Int32)) → z = (0 : Int32) ∨ z = (1 : Int32) ∨ z = (2 : Int32) ∨ z = (3 : Int32) := by
  intro z hz
  have h := c_mask x (3 : Int32) 2 (by decide) (by decide)
  rw [← hz] at h
  have : z.toInt = 0 ∨ z.toInt = 1 ∨ z.toInt = 2 ∨ z.toInt = 3 := by omega
  rcases this with h | h | h | h <;> simp [← Int32.toInt_inj, h]
theorem own_nm (x : Int32) : ¬ (x &&& (2147483647 : Int32)) < (0 : Int32) := by
  have h := c_mask x (2147483647 : Int32) 31 (by decide) (by decide)
  rw [Int32.lt_iff_toInt_lt]
  have e : (0 : Int32).toInt = 0 := rfl
  omega
theorem own_nu (x : Int32) : ¬ ((x.toUInt32 >>> ((4 : Int32) &&& 31).toUInt32).toInt32) < (0 : Int32) := by
  have h := c_iushr x (4 : Int32) 4 (by decide) (by decide)
  rw [Int32.lt_iff_toInt_lt]
  have e : (0 : Int32).toInt = 0 := rfl
  omega
theorem own_neg {x : Int32} (h : ¬ x < (0 : Int32)) : x ≠ -1 := fun z => by subst z; exact h (by decide)

set_option maxRecDepth 65536 in
set_option maxHeartbeats 40000000 in
theorem ct0 (l : Launch) (Z : State) (a0 : Array Value) (hw : ∀ d ∈ tables_1, d.before a0 Z = true) (k1 k2 k3 q : Int64) (v1 v2 : Int32) (h0 : Heap)  :
    Ct l Z x code maxLocals ret room_1 #[(.long k1), (.long k2), (.long k3), (.long q), (.int v1), (.int v2)] h0 [] (fun v h => v = some (.int 1)) := by
  refine Ct.of (plainFor_of_name (by first | (simp [plainName, overriddenIn]; done) | decide +kernel)) ?_
  intro p e s m below meth c T0 X0
  refine Runs.top (g' := mkF m 0 #[.val (.long k1), .second, .val (.long k2), .second, .val (.long k3), .second, .val (.long q), .second, .val (.int v1), .val (.int v2), .unset, .unset, .unset, .unset, .unset, .unset, .unset, .unset, .unset] []) (by first | (simp [entryFrame, mkF, argsToLocals, Value.category, maxLocals]; done) | rfl) ?_
  have own_n1 := own_nm v1
  have own_n2 := own_nu v2
  have own_n3 := own_nm (v1 ^^^ v2)
  refine X0.iload (pc' := 2) at_0 rfl rfl ?_
  refine X0.ldcInt (pc' := 4) (wd_0 hw) at_2 rfl ?_
  refine X0.iand (pc' := 5) at_4 rfl ?_
  refine X0.istore (pc' := 7) (l' := #[.val (.long k1), .second, .val (.long k2), .second, .val (.long k3), .second, .val (.long q), .second, .val (.int v1), .val (.int v2), .val (.int (v1 &&& (2147483647 : Int32))), .unset, .unset, .unset, .unset, .unset, .unset, .unset, .unset]) at_5 rfl rfl ?_
  refine X0.iload (pc' := 9) at_7 rfl rfl ?_
  refine X0.iconst (pc' := 10) (z := 4) at_9 rfl rfl ?_
  refine X0.iushr (pc' := 11) at_10 rfl ?_
  refine X0.istore (pc' := 13) (l' := #[.val (.long k1), .second, .val (.long k2), .second, .val (.long k3), .second, .val (.long q), .second, .val (.int v1), .val (.int v2), .val (.int (v1 &&& (2147483647 : Int32))), .val (.int ((v2.toUInt32 >>> ((4 : Int32) &&& 31).toUInt32).toInt32)), .unset, .unset, .unset, .unset, .unset, .unset, .unset]) at_11 rfl rfl ?_
  refine X0.iload (pc' := 15) at_13 rfl rfl ?_
  refine X0.iload (pc' := 17) at_15 rfl rfl ?_
  refine X0.ixor (pc' := 18) at_17 rfl ?_
  refine X0.ldcInt (pc' := 20) (wd_0 hw) at_18 rfl ?_
  refine X0.iand (pc' := 21) at_20 rfl ?_
  refine X0.istore (pc' := 23) (l' := #[.val (.long k1), .second, .val (.long k2), .second, .val (.long k3), .second, .val (.long q), .second, .val (.int v1), .val (.int v2), .val (.int (v1 &&& (2147483647 : Int32))), .val (.int ((v2.toUInt32 >>> ((4 : Int32) &&& 31).toUInt32).toInt32)), .val (.int ((v1 ^^^ v2) &&& (2147483647 : Int32))), .unset, .unset, .unset, .unset, .unset, .unset]) at_21 rfl rfl ?_
  refine X0.iload (pc' := 25) at_23 rfl rfl ?_
  refine X0.iconst (pc' := 26) (z := 3) at_25 rfl rfl ?_
  refine X0.iand (pc' := 27) at_26 rfl ?_
  refine X0.istore (pc' := 29) (l' := #[.val (.long k1), .second, .val (.long k2), .second, .val (.long k3), .second, .val (.long q), .second, .val (.int v1), .val (.int v2), .val (.int (v1 &&& (2147483647 : Int32))), .val (.int ((v2.toUInt32 >>> ((4 : Int32) &&& 31).toUInt32).toInt32)), .val (.int ((v1 ^^^ v2) &&& (2147483647 : Int32))), .val (.int (v2 &&& (3 : Int32))), .unset, .unset, .unset, .unset, .unset]) at_27 rfl rfl ?_
  refine X0.iload (pc' := 31) at_29 rfl rfl ?_
  refine X0.iconst (pc' := 32) (z := 2) at_31 rfl rfl ?_
  refine X0.iushr (pc' := 33) at_32 rfl ?_
  refine X0.iconst (pc' := 34) (z := 3) at_33 rfl rfl ?_
  refine X0.iand (pc' := 35) at_34 rfl ?_
  have hnn := own_three (((v2.toUInt32 >>> ((2 : Int32) &&& 31).toUInt32).toInt32)) _ rfl
  generalize (((v2.toUInt32 >>> ((2 : Int32) &&& 31).toUInt32).toInt32) &&& (3 : Int32)) = z at hnn ⊢
  rcases hnn with rfl | rfl | rfl | rfl
  · refine X0.istore (pc' := 37) (l' := #[.val (.long k1), .second, .val (.long k2), .second, .val (.long k3), .second, .val (.long q), .second, .val (.int v1), .val (.int v2), .val (.int (v1 &&& (2147483647 : Int32))), .val (.int ((v2.toUInt32 >>> ((4 : Int32) &&& 31).toUInt32).toInt32)), .val (.int ((v1 ^^^ v2) &&& (2147483647 : Int32))), .val (.int (v2 &&& (3 : Int32))), .val (.int (0 : Int32)), .unset, .unset, .unset, .unset]) at_35 rfl rfl ?_
    refine X0.new (pc' := 40) (wd_1 hw) (wd_2 hw) (wd_3 hw) at_37 rfl (by decide) (by decide) (fun T1 h1 b1 X1 g1 E1 A1 D1 => ?_)
    have sz_b1 : h0.size ≤ b1 := g1 ▸ X0.size
    have Fkeys_b1 : Fld Z h1 b1 "com/example/stacks_in_time/stacksintime/LongIntMap" "keys" "[J" .null := D1 (Or.inl (wd_12 hw)) (ty := (.array .long)) (by decide)
    have Fvalues_b1 : Fld Z h1 b1 "com/example/stacks_in_time/stacksintime/LongIntMap" "values" "[I" .null := D1 (Or.inl (wd_15 hw)) (ty := (.array .int)) (by decide)
    have Fsize_b1 : Fld Z h1 b1 "com/example/stacks_in_time/stacksintime/LongIntMap" "size" "I" (.int (0 : Int32)) := D1 (Or.inl (wd_39 hw)) (ty := .int) (by decide)
    refine X1.dup (pc' := 41) at_40 rfl rfl ?_
    refine X1.special (pc' := 44) (W := 1) (a := b1) (argsL := []) (rest := [(.ref b1)]) (ct1 l Z a0 hw b1 h1 A1 Fkeys_b1 Fvalues_b1 Fsize_b1) rfl (wd_4 hw) (wd_5 hw) (wd_3 hw) (wd_6 hw) (by decide) pd_2 rfl rfl rfl rfl at_41 rfl (by decide) rfl (by decide) (by decide) (by decide) ((allS (Or.inr sz_b1) all0)) (fun T2 h2 v2 X2 K2 Q2 => ?_)
    have A1_2 := A1.keep K2
    obtain ⟨rfl, ak, av, zk, zv, hne, HH⟩ := Q2
    have M0 := own_init hne HH
    have sz_ak : h0.size ≤ ak := Nat.le_trans X1.size zk
    have sz_av : h0.size ≤ av := Nat.le_trans X1.size zv
    have Em0 := HH.1
    show Runs p e below (T2.setTop (mkF m 44 #[.val (.long k1), .second, .val (.long k2), .second, .val (.long k3), .second, .val (.long q), .second, .val (.int v1), .val (.int v2), .val (.int (v1 &&& (2147483647 : Int32))), .val (.int ((v2.toUInt32 >>> ((4 : Int32) &&& 31).toUInt32).toInt32)), .val (.int ((v1 ^^^ v2) &&& (2147483647 : Int32))), .val (.int (v2 &&& (3 : Int32))), .val (.int (0 : Int32)), .unset, .unset, .unset, .unset] [(.ref b1)])) _
    refine X2.astore (pc' := 46) (l' := #[.val (.long k1), .second, .val (.long k2), .second, .val (.long k3), .second, .val (.long q), .second, .val (.int v1), .val (.int v2), .val (.int (v1 &&& (2147483647 : Int32))), .val (.int ((v2.toUInt32 >>> ((4 : Int32) &&& 31).toUInt32).toInt32)), .val (.int ((v1 ^^^ v2) &&& (2147483647 : Int32))), .val (.int (v2 &&& (3 : Int32))), .val (.int (0 : Int32)), .val (.ref b1), .unset, .unset, .unset]) at_44 rfl rfl rfl ?_
    refine X2.iload (pc' := 48) at_46 rfl rfl ?_
    refine X2.iconst (pc' := 49) (z := 1) at_48 rfl rfl ?_
    refine X2.icmpYes (pc' := 61) at_49 (by decide) (by decide) (by decide) ?_
    refine X2.iload (pc' := 63) at_61 rfl rfl ?_
    refine X2.iconst (pc' := 64) (z := 2) at_63 rfl rfl ?_
    refine X2.icmpYes (pc' := 76) at_64 (by decide) (by decide) (by decide) ?_
    refine X2.iload (pc' := 78) at_76 rfl rfl ?_
    refine X2.iconst (pc' := 79) (z := 3) at_78 rfl rfl ?_
    refine X2.icmpYes (pc' := 92) at_79 (by decide) (by decide) (by decide) ?_
    have KK : ∀ (s13 : Int32) (qq : Int64), Runs p e below (T2.setTop (mkF m 132 #[.val (.long k1), .second, .val (.long k2), .second, .val (.long k3), .second, .val (.long q), .second, .val (.int v1), .val (.int v2), .val (.int (v1 &&& (2147483647 : Int32))), .val (.int ((v2.toUInt32 >>> ((4 : Int32) &&& 31).toUInt32).toInt32)), .val (.int ((v1 ^^^ v2) &&& (2147483647 : Int32))), .val (.int s13), .val (.int (0 : Int32)), .val (.ref b1), .val (.long qq), .second, .unset] [])) (Jvm.Own.Out s h0 [] room_1 (fun v h => v = some (.int 1))) := by
      intro s13 qq
      refine X2.lload (pc' := 134) at_132 rfl rfl ?_
      refine X2.iload (pc' := 136) at_134 rfl rfl ?_
      refine X2.lloadN (pc' := 137) at_136 rfl rfl ?_
      refine X2.lloadN (pc' := 138) at_137 rfl rfl ?_
      refine X2.lload (pc' := 140) at_138 rfl rfl ?_
      refine X2.iload (pc' := 142) at_140 rfl rfl ?_
      refine X2.iload (pc' := 144) at_142 rfl rfl ?_
      refine X2.iload (pc' := 146) at_144 rfl rfl ?_
      refine X2.callS (pc' := 149) (W := 0) (argsL := [(.long qq), (.int (0 : Int32)), (.long k1), (.long k2), (.long k3), (.int (v1 &&& (2147483647 : Int32))), (.int ((v2.toUInt32 >>> ((4 : Int32) &&& 31).toUInt32).toInt32)), (.int ((v1 ^^^ v2) &&& (2147483647 : Int32)))]) (rest := []) (ct4_0 l Z a0 hw qq k1 k2 k3 (v1 &&& (2147483647 : Int32)) ((v2.toUInt32 >>> ((4 : Int32) &&& 31).toUInt32).toInt32) ((v1 ^^^ v2) &&& (2147483647 : Int32)) h2) (wd_20 hw) (wd_21 hw) (wd_22 hw) (wd_23 hw) (by decide) pd_3 rfl rfl rfl rfl at_146 rfl (by decide) rfl (by decide) (by decide) (by decide) allWs0 (fun T3 h3 v3 X3 K3 Q3 => ?_)
      obtain ⟨rfl, rfl⟩ := Q3
      show Runs p e below (T3.setTop (mkF m 149 #[.val (.long k1), .second, .val (.long k2), .second, .val (.long k3), .second, .val (.long q), .second, .val (.int v1), .val (.int v2), .val (.int (v1 &&& (2147483647 : Int32))), .val (.int ((v2.toUInt32 >>> ((4 : Int32) &&& 31).toUInt32).toInt32)), .val (.int ((v1 ^^^ v2) &&& (2147483647 : Int32))), .val (.int s13), .val (.int (0 : Int32)), .val (.ref b1), .val (.long qq), .second, .unset] [(.int (own_e0 qq k1 k2 k3 (v1 &&& (2147483647 : Int32)) ((v2.toUInt32 >>> ((4 : Int32) &&& 31).toUInt32).toInt32) ((v1 ^^^ v2) &&& (2147483647 : Int32))))])) _
      refine X3.istore (pc' := 151) (l' := #[.val (.long k1), .second, .val (.long k2), .second, .val (.long k3), .second, .val (.long q), .second, .val (.int v1), .val (.int v2), .val (.int (v1 &&& (2147483647 : Int32))), .val (.int ((v2.toUInt32 >>> ((4 : Int32) &&& 31).toUInt32).toInt32)), .val (.int ((v1 ^^^ v2) &&& (2147483647 : Int32))), .val (.int s13), .val (.int (0 : Int32)), .val (.ref b1), .val (.long qq), .second, .val (.int (own_e0 qq k1 k2 k3 (v1 &&& (2147483647 : Int32)) ((v2.toUInt32 >>> ((4 : Int32) &&& 31).toUInt32).toInt32) ((v1 ^^^ v2) &&& (2147483647 : Int32))))]) at_149 rfl rfl ?_
      refine X3.aload (pc' := 153) at_151 rfl rfl rfl ?_
      refine X3.lload (pc' := 155) at_153 rfl rfl ?_
      refine X3.virtual (pc' := 158) (W := 0) (a := b1) (argsL := [(.long qq)]) (rest := []) (own_get l Z a0 hw b1 ak av qq 0 own_L0 h2 M0 (by decide)) (wd_24 hw) (wd_25 hw) (fun _ q => notFace_of_selects q) (wd_27 hw) (wd_26 hw) (wd_3 hw) (wd_28 hw) (by decide) Em0 pd_4 rfl rfl rfl rfl at_155 rfl (by decide) rfl (by decide) (by decide) (by decide) allWs0 (fun T4 h4 v4 X4 K4 Q4 => ?_)
      obtain ⟨rfl, rfl⟩ := Q4
      show Runs p e below (T4.setTop (mkF m 158 #[.val (.long k1), .second, .val (.long k2), .second, .val (.long k3), .second, .val (.long q), .second, .val (.int v1), .val (.int v2), .val (.int (v1 &&& (2147483647 : Int32))), .val (.int ((v2.toUInt32 >>> ((4 : Int32) &&& 31).toUInt32).toInt32)), .val (.int ((v1 ^^^ v2) &&& (2147483647 : Int32))), .val (.int s13), .val (.int (0 : Int32)), .val (.ref b1), .val (.long qq), .second, .val (.int (own_e0 qq k1 k2 k3 (v1 &&& (2147483647 : Int32)) ((v2.toUInt32 >>> ((4 : Int32) &&& 31).toUInt32).toInt32) ((v1 ^^^ v2) &&& (2147483647 : Int32))))] [(.int (own_L0 qq))])) _
      refine X4.iload (pc' := 160) at_158 rfl rfl ?_
      refine X4.icmpNo (pc' := 163) at_160 (teq rfl).2 rfl ?_
      refine X4.iconst (pc' := 164) (z := 1) at_163 rfl rfl ?_
      refine X4.goto (pc' := 168) at_164 (by decide) (by decide) ?_
      exact X4.zreturn (z' := (1 : Int32)) rfl (by simp) at_168 rfl (by decide) (by decide) rfl
    have hss := own_three v2 _ rfl
    generalize (v2 &&& (3 : Int32)) = z at hss ⊢
    rcases hss with rfl | rfl | rfl | rfl
    · refine X2.iload (pc' := 94) at_92 rfl rfl ?_
      refine X2.ifNo (pc' := 97) at_94 (by decide) rfl ?_
      refine X2.lloadN (pc' := 98) at_97 rfl rfl ?_
      refine X2.lstore (pc' := 100) (l' := #[.val (.long k1), .second, .val (.long k2), .second, .val (.long k3), .second, .val (.long q), .second, .val (.int v1), .val (.int v2), .val (.int (v1 &&& (2147483647 : Int32))), .val (.int ((v2.toUInt32 >>> ((4 : Int32) &&& 31).toUInt32).toInt32)), .val (.int ((v1 ^^^ v2) &&& (2147483647 : Int32))), .val (.int (0 : Int32)), .val (.int (0 : Int32)), .val (.ref b1), .val (.long k1), .second, .unset]) at_98 rfl rfl ?_
      refine X2.goto (pc' := 132) at_100 (by decide) (by decide) ?_
      exact KK _ _
    · refine X2.iload (pc' := 94) at_92 rfl rfl ?_
      refine X2.ifYes (pc' := 103) at_94 (by decide) (by decide) (by decide) ?_
      refine X2.iload (pc' := 105) at_103 rfl rfl ?_
      refine X2.iconst (pc' := 106) (z := 1) at_105 rfl rfl ?_
      refine X2.icmpNo (pc' := 109) at_106 (by decide) rfl ?_
      refine X2.lloadN (pc' := 110) at_109 rfl rfl ?_
      refine X2.lstore (pc' := 112) (l' := #[.val (.long k1), .second, .val (.long k2), .second, .val (.long k3), .second, .val (.long q), .second, .val (.int v1), .val (.int v2), .val (.int (v1 &&& (2147483647 : Int32))), .val (.int ((v2.toUInt32 >>> ((4 : Int32) &&& 31).toUInt32).toInt32)), .val (.int ((v1 ^^^ v2) &&& (2147483647 : Int32))), .val (.int (1 : Int32)), .val (.int (0 : Int32)), .val (.ref b1), .val (.long k2), .second, .unset]) at_110 rfl rfl ?_
      refine X2.goto (pc' := 132) at_112 (by decide) (by decide) ?_
      exact KK _ _
    · refine X2.iload (pc' := 94) at_92 rfl rfl ?_
      refine X2.ifYes (pc' := 103) at_94 (by decide) (by decide) (by decide) ?_
      refine X2.iload (pc' := 105) at_103 rfl rfl ?_
      refine X2.iconst (pc' := 106) (z := 1) at_105 rfl rfl ?_
      refine X2.icmpYes (pc' := 115) at_106 (by decide) (by decide) (by decide) ?_
      refine X2.iload (pc' := 117) at_115 rfl rfl ?_
      refine X2.iconst (pc' := 118) (z := 2) at_117 rfl rfl ?_
      refine X2.icmpNo (pc' := 121) at_118 (by decide) rfl ?_
      refine X2.lload (pc' := 123) at_121 rfl rfl ?_
      refine X2.lstore (pc' := 125) (l' := #[.val (.long k1), .second, .val (.long k2), .second, .val (.long k3), .second, .val (.long q), .second, .val (.int v1), .val (.int v2), .val (.int (v1 &&& (2147483647 : Int32))), .val (.int ((v2.toUInt32 >>> ((4 : Int32) &&& 31).toUInt32).toInt32)), .val (.int ((v1 ^^^ v2) &&& (2147483647 : Int32))), .val (.int (2 : Int32)), .val (.int (0 : Int32)), .val (.ref b1), .val (.long k3), .second, .unset]) at_123 rfl rfl ?_
      refine X2.goto (pc' := 132) at_125 (by decide) (by decide) ?_
      exact KK _ _
    · refine X2.iload (pc' := 94) at_92 rfl rfl ?_
      refine X2.ifYes (pc' := 103) at_94 (by decide) (by decide) (by decide) ?_
      refine X2.iload (pc' := 105) at_103 rfl rfl ?_
      refine X2.iconst (pc' := 106) (z := 1) at_105 rfl rfl ?_
      refine X2.icmpYes (pc' := 115) at_106 (by decide) (by decide) (by decide) ?_
      refine X2.iload (pc' := 117) at_115 rfl rfl ?_
      refine X2.iconst (pc' := 118) (z := 2) at_117 rfl rfl ?_
      refine X2.icmpYes (pc' := 128) at_118 (by decide) (by decide) (by decide) ?_
      refine X2.lload (pc' := 130) at_128 rfl rfl ?_
      refine X2.lstore (pc' := 132) (l' := #[.val (.long k1), .second, .val (.long k2), .second, .val (.long k3), .second, .val (.long q), .second, .val (.int v1), .val (.int v2), .val (.int (v1 &&& (2147483647 : Int32))), .val (.int ((v2.toUInt32 >>> ((4 : Int32) &&& 31).toUInt32).toInt32)), .val (.int ((v1 ^^^ v2) &&& (2147483647 : Int32))), .val (.int (3 : Int32)), .val (.int (0 : Int32)), .val (.ref b1), .val (.long q), .second, .unset]) at_130 rfl rfl ?_
      exact KK _ _
  · refine X0.istore (pc' := 37) (l' := #[.val (.long k1), .second, .val (.long k2), .second, .val (.long k3), .second, .val (.long q), .second, .val (.int v1), .val (.int v2), .val (.int (v1 &&& (2147483647 : Int32))), .val (.int ((v2.toUInt32 >>> ((4 : Int32) &&& 31).toUInt32).toInt32)), .val (.int ((v1 ^^^ v2) &&& (2147483647 : Int32))), .val (.int (v2 &&& (3 : Int32))), .val (.int (1 : Int32)), .unset, .unset, .unset, .unset]) at_35 rfl rfl ?_
    refine X0.new (pc' := 40) (wd_1 hw) (wd_2 hw) (wd_3 hw) at_37 rfl (by decide) (by decide) (fun T5 h5 b5 X5 g5 E5 A5 D5 => ?_)
    have sz_b5 : h0.size ≤ b5 := g5 ▸ X0.size
    have Fkeys_b5 : Fld Z h5 b5 "com/example/stacks_in_time/stacksintime/LongIntMap" "keys" "[J" .null := D5 (Or.inl (wd_12 hw)) (ty := (.array .long)) (by decide)
    have Fvalues_b5 : Fld Z h5 b5 "com/example/stacks_in_time/stacksintime/LongIntMap" "values" "[I" .null := D5 (Or.inl (wd_15 hw)) (ty := (.array .int)) (by decide)
    have Fsize_b5 : Fld Z h5 b5 "com/example/stacks_in_time/stacksintime/LongIntMap" "size" "I" (.int (0 : Int32)) := D5 (Or.inl (wd_39 hw)) (ty := .int) (by decide)
    refine X5.dup (pc' := 41) at_40 rfl rfl ?_
    refine X5.special (pc' := 44) (W := 1) (a := b5) (argsL := []) (rest := [(.ref b5)]) (ct1 l Z a0 hw b5 h5 A5 Fkeys_b5 Fvalues_b5 Fsize_b5) rfl (wd_4 hw) (wd_5 hw) (wd_3 hw) (wd_6 hw) (by decide) pd_2 rfl rfl rfl rfl at_41 rfl (by decide) rfl (by decide) (by decide) (by decide) ((allS (Or.inr sz_b5) all0)) (fun T6 h6 v6 X6 K6 Q6 => ?_)
    have A5_6 := A5.keep K6
    obtain ⟨rfl, ak, av, zk, zv, hne, HH⟩ := Q6
    have M0 := own_init hne HH
    have sz_ak : h0.size ≤ ak := Nat.le_trans X5.size zk
    have sz_av : h0.size ≤ av := Nat.le_trans X5.size zv
    have Em0 := HH.1
    show Runs p e below (T6.setTop (mkF m 44 #[.val (.long k1), .second, .val (.long k2), .second, .val (.long k3), .second, .val (.long q), .second, .val (.int v1), .val (.int v2), .val (.int (v1 &&& (2147483647 : Int32))), .val (.int ((v2.toUInt32 >>> ((4 : Int32) &&& 31).toUInt32).toInt32)), .val (.int ((v1 ^^^ v2) &&& (2147483647 : Int32))), .val (.int (v2 &&& (3 : Int32))), .val (.int (1 : Int32)), .unset, .unset, .unset, .unset] [(.ref b5)])) _
    refine X6.astore (pc' := 46) (l' := #[.val (.long k1), .second, .val (.long k2), .second, .val (.long k3), .second, .val (.long q), .second, .val (.int v1), .val (.int v2), .val (.int (v1 &&& (2147483647 : Int32))), .val (.int ((v2.toUInt32 >>> ((4 : Int32) &&& 31).toUInt32).toInt32)), .val (.int ((v1 ^^^ v2) &&& (2147483647 : Int32))), .val (.int (v2 &&& (3 : Int32))), .val (.int (1 : Int32)), .val (.ref b5), .unset, .unset, .unset]) at_44 rfl rfl rfl ?_
    refine X6.iload (pc' := 48) at_46 rfl rfl ?_
    refine X6.iconst (pc' := 49) (z := 1) at_48 rfl rfl ?_
    refine X6.icmpNo (pc' := 52) at_49 (by decide) rfl ?_
    refine X6.aload (pc' := 54) at_52 rfl rfl rfl ?_
    refine X6.lloadN (pc' := 55) at_54 rfl rfl ?_
    refine X6.iload (pc' := 57) at_55 rfl rfl ?_
    refine X6.virtual (pc' := 60) (W := 0) (a := b5) (argsL := [(.long k1), (.int (v1 &&& (2147483647 : Int32)))]) (rest := []) (own_putM l Z a0 hw b5 ak av k1 (v1 &&& (2147483647 : Int32)) 0 own_L0 h6 M0 (by decide) own_n1) (wd_33 hw) (wd_34 hw) (fun _ q => notFace_of_selects q) (wd_36 hw) (wd_35 hw) (wd_3 hw) (wd_37 hw) (by decide) Em0 pd_0 rfl rfl rfl rfl at_57 rfl (by decide) rfl (by decide) (by decide) (by decide) ((allS (Or.inr sz_b5) (allS (Or.inr sz_ak) (allS (Or.inr sz_av) all0)))) (fun T7 h7 v7 X7 K7 Q7 => ?_)
    have Em0_7 := Em0.keep K7
    obtain ⟨w7, rfl, M1⟩ := Q7
    have Em1 : Exa Z h7 b5 "com/example/stacks_in_time/stacksintime/LongIntMap" := by obtain ⟨-, _, _, _, _, q, -⟩ := M1; exact q.1
    show Runs p e below (T7.setTop (mkF m 60 #[.val (.long k1), .second, .val (.long k2), .second, .val (.long k3), .second, .val (.long q), .second, .val (.int v1), .val (.int v2), .val (.int (v1 &&& (2147483647 : Int32))), .val (.int ((v2.toUInt32 >>> ((4 : Int32) &&& 31).toUInt32).toInt32)), .val (.int ((v1 ^^^ v2) &&& (2147483647 : Int32))), .val (.int (v2 &&& (3 : Int32))), .val (.int (1 : Int32)), .val (.ref b5), .unset, .unset, .unset] [(.int w7)])) _
    refine X7.pop (pc' := 61) at_60 rfl rfl ?_
    refine X7.iload (pc' := 63) at_61 rfl rfl ?_
    refine X7.iconst (pc' := 64) (z := 2) at_63 rfl rfl ?_
    refine X7.icmpYes (pc' := 76) at_64 (by decide) (by decide) (by decide) ?_
    refine X7.iload (pc' := 78) at_76 rfl rfl ?_
    refine X7.iconst (pc' := 79) (z := 3) at_78 rfl rfl ?_
    refine X7.icmpYes (pc' := 92) at_79 (by decide) (by decide) (by decide) ?_
    have KK : ∀ (s13 : Int32) (qq : Int64), Runs p e below (T7.setTop (mkF m 132 #[.val (.long k1), .second, .val (.long k2), .second, .val (.long k3), .second, .val (.long q), .second, .val (.int v1), .val (.int v2), .val (.int (v1 &&& (2147483647 : Int32))), .val (.int ((v2.toUInt32 >>> ((4 : Int32) &&& 31).toUInt32).toInt32)), .val (.int ((v1 ^^^ v2) &&& (2147483647 : Int32))), .val (.int s13), .val (.int (1 : Int32)), .val (.ref b5), .val (.long qq), .second, .unset] [])) (Jvm.Own.Out s h0 [] room_1 (fun v h => v = some (.int 1))) := by
      intro s13 qq
      refine X7.lload (pc' := 134) at_132 rfl rfl ?_
      refine X7.iload (pc' := 136) at_134 rfl rfl ?_
      refine X7.lloadN (pc' := 137) at_136 rfl rfl ?_
      refine X7.lloadN (pc' := 138) at_137 rfl rfl ?_
      refine X7.lload (pc' := 140) at_138 rfl rfl ?_
      refine X7.iload (pc' := 142) at_140 rfl rfl ?_
      refine X7.iload (pc' := 144) at_142 rfl rfl ?_
      refine X7.iload (pc' := 146) at_144 rfl rfl ?_
      refine X7.callS (pc' := 149) (W := 0) (argsL := [(.long qq), (.int (1 : Int32)), (.long k1), (.long k2), (.long k3), (.int (v1 &&& (2147483647 : Int32))), (.int ((v2.toUInt32 >>> ((4 : Int32) &&& 31).toUInt32).toInt32)), (.int ((v1 ^^^ v2) &&& (2147483647 : Int32)))]) (rest := []) (ct4_1 l Z a0 hw qq k1 k2 k3 (v1 &&& (2147483647 : Int32)) ((v2.toUInt32 >>> ((4 : Int32) &&& 31).toUInt32).toInt32) ((v1 ^^^ v2) &&& (2147483647 : Int32)) h7) (wd_20 hw) (wd_21 hw) (wd_22 hw) (wd_23 hw) (by decide) pd_3 rfl rfl rfl rfl at_146 rfl (by decide) rfl (by decide) (by decide) (by decide) allWs0 (fun T8 h8 v8 X8 K8 Q8 => ?_)
      obtain ⟨rfl, rfl⟩ := Q8
      show Runs p e below (T8.setTop (mkF m 149 #[.val (.long k1), .second, .val (.long k2), .second, .val (.long k3), .second, .val (.long q), .second, .val (.int v1), .val (.int v2), .val (.int (v1 &&& (2147483647 : Int32))), .val (.int ((v2.toUInt32 >>> ((4 : Int32) &&& 31).toUInt32).toInt32)), .val (.int ((v1 ^^^ v2) &&& (2147483647 : Int32))), .val (.int s13), .val (.int (1 : Int32)), .val (.ref b5), .val (.long qq), .second, .unset] [(.int (own_e1 qq k1 k2 k3 (v1 &&& (2147483647 : Int32)) ((v2.toUInt32 >>> ((4 : Int32) &&& 31).toUInt32).toInt32) ((v1 ^^^ v2) &&& (2147483647 : Int32))))])) _
      refine X8.istore (pc' := 151) (l' := #[.val (.long k1), .second, .val (.long k2), .second, .val (.long k3), .second, .val (.long q), .second, .val (.int v1), .val (.int v2), .val (.int (v1 &&& (2147483647 : Int32))), .val (.int ((v2.toUInt32 >>> ((4 : Int32) &&& 31).toUInt32).toInt32)), .val (.int ((v1 ^^^ v2) &&& (2147483647 : Int32))), .val (.int s13), .val (.int (1 : Int32)), .val (.ref b5), .val (.long qq), .second, .val (.int (own_e1 qq k1 k2 k3 (v1 &&& (2147483647 : Int32)) ((v2.toUInt32 >>> ((4 : Int32) &&& 31).toUInt32).toInt32) ((v1 ^^^ v2) &&& (2147483647 : Int32))))]) at_149 rfl rfl ?_
      refine X8.aload (pc' := 153) at_151 rfl rfl rfl ?_
      refine X8.lload (pc' := 155) at_153 rfl rfl ?_
      refine X8.virtual (pc' := 158) (W := 0) (a := b5) (argsL := [(.long qq)]) (rest := []) (own_get l Z a0 hw b5 ak av qq 1 (own_add own_L0 k1 (v1 &&& (2147483647 : Int32))) h7 M1 (by decide)) (wd_24 hw) (wd_25 hw) (fun _ q => notFace_of_selects q) (wd_27 hw) (wd_26 hw) (wd_3 hw) (wd_28 hw) (by decide) Em1 pd_4 rfl rfl rfl rfl at_155 rfl (by decide) rfl (by decide) (by decide) (by decide) allWs0 (fun T9 h9 v9 X9 K9 Q9 => ?_)
      obtain ⟨rfl, rfl⟩ := Q9
      show Runs p e below (T9.setTop (mkF m 158 #[.val (.long k1), .second, .val (.long k2), .second, .val (.long k3), .second, .val (.long q), .second, .val (.int v1), .val (.int v2), .val (.int (v1 &&& (2147483647 : Int32))), .val (.int ((v2.toUInt32 >>> ((4 : Int32) &&& 31).toUInt32).toInt32)), .val (.int ((v1 ^^^ v2) &&& (2147483647 : Int32))), .val (.int s13), .val (.int (1 : Int32)), .val (.ref b5), .val (.long qq), .second, .val (.int (own_e1 qq k1 k2 k3 (v1 &&& (2147483647 : Int32)) ((v2.toUInt32 >>> ((4 : Int32) &&& 31).toUInt32).toInt32) ((v1 ^^^ v2) &&& (2147483647 : Int32))))] [(.int ((own_add own_L0 k1 (v1 &&& (2147483647 : Int32))) qq))])) _
      refine X9.iload (pc' := 160) at_158 rfl rfl ?_
      refine X9.icmpNo (pc' := 163) at_160 (teq (own_f1 _ _ _)).2 rfl ?_
      refine X9.iconst (pc' := 164) (z := 1) at_163 rfl rfl ?_
      refine X9.goto (pc' := 168) at_164 (by decide) (by decide) ?_
      exact X9.zreturn (z' := (1 : Int32)) rfl (by simp) at_168 rfl (by decide) (by decide) rfl
    have hss := own_three v2 _ rfl
    generalize (v2 &&& (3 : Int32)) = z at hss ⊢
    rcases hss with rfl | rfl | rfl | rfl
    · refine X7.iload (pc' := 94) at_92 rfl rfl ?_
      refine X7.ifNo (pc' := 97) at_94 (by decide) rfl ?_
      refine X7.lloadN (pc' := 98) at_97 rfl rfl ?_
      refine X7.lstore (pc' := 100) (l' := #[.val (.long k1), .second, .val (.long k2), .second, .val (.long k3), .second, .val (.long q), .second, .val (.int v1), .val (.int v2), .val (.int (v1 &&& (2147483647 : Int32))), .val (.int ((v2.toUInt32 >>> ((4 : Int32) &&& 31).toUInt32).toInt32)), .val (.int ((v1 ^^^ v2) &&& (2147483647 : Int32))), .val (.int (0 : Int32)), .val (.int (1 : Int32)), .val (.ref b5), .val (.long k1), .second, .unset]) at_98 rfl rfl ?_
      refine X7.goto (pc' := 132) at_100 (by decide) (by decide) ?_
      exact KK _ _
    · refine X7.iload (pc' := 94) at_92 rfl rfl ?_
      refine X7.ifYes (pc' := 103) at_94 (by decide) (by decide) (by decide) ?_
      refine X7.iload (pc' := 105) at_103 rfl rfl ?_
      refine X7.iconst (pc' := 106) (z := 1) at_105 rfl rfl ?_
      refine X7.icmpNo (pc' := 109) at_106 (by decide) rfl ?_
      refine X7.lloadN (pc' := 110) at_109 rfl rfl ?_
      refine X7.lstore (pc' := 112) (l' := #[.val (.long k1), .second, .val (.long k2), .second, .val (.long k3), .second, .val (.long q), .second, .val (.int v1), .val (.int v2), .val (.int (v1 &&& (2147483647 : Int32))), .val (.int ((v2.toUInt32 >>> ((4 : Int32) &&& 31).toUInt32).toInt32)), .val (.int ((v1 ^^^ v2) &&& (2147483647 : Int32))), .val (.int (1 : Int32)), .val (.int (1 : Int32)), .val (.ref b5), .val (.long k2), .second, .unset]) at_110 rfl rfl ?_
      refine X7.goto (pc' := 132) at_112 (by decide) (by decide) ?_
      exact KK _ _
    · refine X7.iload (pc' := 94) at_92 rfl rfl ?_
      refine X7.ifYes (pc' := 103) at_94 (by decide) (by decide) (by decide) ?_
      refine X7.iload (pc' := 105) at_103 rfl rfl ?_
      refine X7.iconst (pc' := 106) (z := 1) at_105 rfl rfl ?_
      refine X7.icmpYes (pc' := 115) at_106 (by decide) (by decide) (by decide) ?_
      refine X7.iload (pc' := 117) at_115 rfl rfl ?_
      refine X7.iconst (pc' := 118) (z := 2) at_117 rfl rfl ?_
      refine X7.icmpNo (pc' := 121) at_118 (by decide) rfl ?_
      refine X7.lload (pc' := 123) at_121 rfl rfl ?_
      refine X7.lstore (pc' := 125) (l' := #[.val (.long k1), .second, .val (.long k2), .second, .val (.long k3), .second, .val (.long q), .second, .val (.int v1), .val (.int v2), .val (.int (v1 &&& (2147483647 : Int32))), .val (.int ((v2.toUInt32 >>> ((4 : Int32) &&& 31).toUInt32).toInt32)), .val (.int ((v1 ^^^ v2) &&& (2147483647 : Int32))), .val (.int (2 : Int32)), .val (.int (1 : Int32)), .val (.ref b5), .val (.long k3), .second, .unset]) at_123 rfl rfl ?_
      refine X7.goto (pc' := 132) at_125 (by decide) (by decide) ?_
      exact KK _ _
    · refine X7.iload (pc' := 94) at_92 rfl rfl ?_
      refine X7.ifYes (pc' := 103) at_94 (by decide) (by decide) (by decide) ?_
      refine X7.iload (pc' := 105) at_103 rfl rfl ?_
      refine X7.iconst (pc' := 106) (z := 1) at_105 rfl rfl ?_
      refine X7.icmpYes (pc' := 115) at_106 (by decide) (by decide) (by decide) ?_
      refine X7.iload (pc' := 117) at_115 rfl rfl ?_
      refine X7.iconst (pc' := 118) (z := 2) at_117 rfl rfl ?_
      refine X7.icmpYes (pc' := 128) at_118 (by decide) (by decide) (by decide) ?_
      refine X7.lload (pc' := 130) at_128 rfl rfl ?_
      refine X7.lstore (pc' := 132) (l' := #[.val (.long k1), .second, .val (.long k2), .second, .val (.long k3), .second, .val (.long q), .second, .val (.int v1), .val (.int v2), .val (.int (v1 &&& (2147483647 : Int32))), .val (.int ((v2.toUInt32 >>> ((4 : Int32) &&& 31).toUInt32).toInt32)), .val (.int ((v1 ^^^ v2) &&& (2147483647 : Int32))), .val (.int (3 : Int32)), .val (.int (1 : Int32)), .val (.ref b5), .val (.long q), .second, .unset]) at_130 rfl rfl ?_
      exact KK _ _
  · refine X0.istore (pc' := 37) (l' := #[.val (.long k1), .second, .val (.long k2), .second, .val (.long k3), .second, .val (.long q), .second, .val (.int v1), .val (.int v2), .val (.int (v1 &&& (2147483647 : Int32))), .val (.int ((v2.toUInt32 >>> ((4 : Int32) &&& 31).toUInt32).toInt32)), .val (.int ((v1 ^^^ v2) &&& (2147483647 : Int32))), .val (.int (v2 &&& (3 : Int32))), .val (.int (2 : Int32)), .unset, .unset, .unset, .unset]) at_35 rfl rfl ?_
    refine X0.new (pc' := 40) (wd_1 hw) (wd_2 hw) (wd_3 hw) at_37 rfl (by decide) (by decide) (fun T10 h10 b10 X10 g10 E10 A10 D10 => ?_)
    have sz_b10 : h0.size ≤ b10 := g10 ▸ X0.size
    have Fkeys_b10 : Fld Z h10 b10 "com/example/stacks_in_time/stacksintime/LongIntMap" "keys" "[J" .null := D10 (Or.inl (wd_12 hw)) (ty := (.array .long)) (by decide)
    have Fvalues_b10 : Fld Z h10 b10 "com/example/stacks_in_time/stacksintime/LongIntMap" "values" "[I" .null := D10 (Or.inl (wd_15 hw)) (ty := (.array .int)) (by decide)
    have Fsize_b10 : Fld Z h10 b10 "com/example/stacks_in_time/stacksintime/LongIntMap" "size" "I" (.int (0 : Int32)) := D10 (Or.inl (wd_39 hw)) (ty := .int) (by decide)
    refine X10.dup (pc' := 41) at_40 rfl rfl ?_
    refine X10.special (pc' := 44) (W := 1) (a := b10) (argsL := []) (rest := [(.ref b10)]) (ct1 l Z a0 hw b10 h10 A10 Fkeys_b10 Fvalues_b10 Fsize_b10) rfl (wd_4 hw) (wd_5 hw) (wd_3 hw) (wd_6 hw) (by decide) pd_2 rfl rfl rfl rfl at_41 rfl (by decide) rfl (by decide) (by decide) (by decide) ((allS (Or.inr sz_b10) all0)) (fun T11 h11 v11 X11 K11 Q11 => ?_)
    have A10_11 := A10.keep K11
    obtain ⟨rfl, ak, av, zk, zv, hne, HH⟩ := Q11
    have M0 := own_init hne HH
    have sz_ak : h0.size ≤ ak := Nat.le_trans X10.size zk
    have sz_av : h0.size ≤ av := Nat.le_trans X10.size zv
    have Em0 := HH.1
    show Runs p e below (T11.setTop (mkF m 44 #[.val (.long k1), .second, .val (.long k2), .second, .val (.long k3), .second, .val (.long q), .second, .val (.int v1), .val (.int v2), .val (.int (v1 &&& (2147483647 : Int32))), .val (.int ((v2.toUInt32 >>> ((4 : Int32) &&& 31).toUInt32).toInt32)), .val (.int ((v1 ^^^ v2) &&& (2147483647 : Int32))), .val (.int (v2 &&& (3 : Int32))), .val (.int (2 : Int32)), .unset, .unset, .unset, .unset] [(.ref b10)])) _
    refine X11.astore (pc' := 46) (l' := #[.val (.long k1), .second, .val (.long k2), .second, .val (.long k3), .second, .val (.long q), .second, .val (.int v1), .val (.int v2), .val (.int (v1 &&& (2147483647 : Int32))), .val (.int ((v2.toUInt32 >>> ((4 : Int32) &&& 31).toUInt32).toInt32)), .val (.int ((v1 ^^^ v2) &&& (2147483647 : Int32))), .val (.int (v2 &&& (3 : Int32))), .val (.int (2 : Int32)), .val (.ref b10), .unset, .unset, .unset]) at_44 rfl rfl rfl ?_
    refine X11.iload (pc' := 48) at_46 rfl rfl ?_
    refine X11.iconst (pc' := 49) (z := 1) at_48 rfl rfl ?_
    refine X11.icmpNo (pc' := 52) at_49 (by decide) rfl ?_
    refine X11.aload (pc' := 54) at_52 rfl rfl rfl ?_
    refine X11.lloadN (pc' := 55) at_54 rfl rfl ?_
    refine X11.iload (pc' := 57) at_55 rfl rfl ?_
    refine X11.virtual (pc' := 60) (W := 0) (a := b10) (argsL := [(.long k1), (.int (v1 &&& (2147483647 : Int32)))]) (rest := []) (own_putM l Z a0 hw b10 ak av k1 (v1 &&& (2147483647 : Int32)) 0 own_L0 h11 M0 (by decide) own_n1) (wd_33 hw) (wd_34 hw) (fun _ q => notFace_of_selects q) (wd_36 hw) (wd_35 hw) (wd_3 hw) (wd_37 hw) (by decide) Em0 pd_0 rfl rfl rfl rfl at_57 rfl (by decide) rfl (by decide) (by decide) (by decide) ((allS (Or.inr sz_b10) (allS (Or.inr sz_ak) (allS (Or.inr sz_av) all0)))) (fun T12 h12 v12 X12 K12 Q12 => ?_)
    have Em0_12 := Em0.keep K12
    obtain ⟨w12, rfl, M1⟩ := Q12
    have Em1 : Exa Z h12 b10 "com/example/stacks_in_time/stacksintime/LongIntMap" := by obtain ⟨-, _, _, _, _, q, -⟩ := M1; exact q.1
    show Runs p e below (T12.setTop (mkF m 60 #[.val (.long k1), .second, .val (.long k2), .second, .val (.long k3), .second, .val (.long q), .second, .val (.int v1), .val (.int v2), .val (.int (v1 &&& (2147483647 : Int32))), .val (.int ((v2.toUInt32 >>> ((4 : Int32) &&& 31).toUInt32).toInt32)), .val (.int ((v1 ^^^ v2) &&& (2147483647 : Int32))), .val (.int (v2 &&& (3 : Int32))), .val (.int (2 : Int32)), .val (.ref b10), .unset, .unset, .unset] [(.int w12)])) _
    refine X12.pop (pc' := 61) at_60 rfl rfl ?_
    refine X12.iload (pc' := 63) at_61 rfl rfl ?_
    refine X12.iconst (pc' := 64) (z := 2) at_63 rfl rfl ?_
    refine X12.icmpNo (pc' := 67) at_64 (by decide) rfl ?_
    refine X12.aload (pc' := 69) at_67 rfl rfl rfl ?_
    refine X12.lloadN (pc' := 70) at_69 rfl rfl ?_
    refine X12.iload (pc' := 72) at_70 rfl rfl ?_
    refine X12.virtual (pc' := 75) (W := 0) (a := b10) (argsL := [(.long k2), (.int ((v2.toUInt32 >>> ((4 : Int32) &&& 31).toUInt32).toInt32))]) (rest := []) (own_putM l Z a0 hw b10 ak av k2 ((v2.toUInt32 >>> ((4 : Int32) &&& 31).toUInt32).toInt32) 1 (own_add own_L0 k1 (v1 &&& (2147483647 : Int32))) h12 M1 (by decide) own_n2) (wd_33 hw) (wd_34 hw) (fun _ q => notFace_of_selects q) (wd_36 hw) (wd_35 hw) (wd_3 hw) (wd_37 hw) (by decide) Em1 pd_0 rfl rfl rfl rfl at_72 rfl (by decide) rfl (by decide) (by decide) (by decide) ((allS (Or.inr sz_b10) (allS (Or.inr sz_ak) (allS (Or.inr sz_av) all0)))) (fun T13 h13 v13 X13 K13 Q13 => ?_)
    have Em1_13 := Em1.keep K13
    obtain ⟨w13, rfl, M2⟩ := Q13
    have Em2 : Exa Z h13 b10 "com/example/stacks_in_time/stacksintime/LongIntMap" := by obtain ⟨-, _, _, _, _, q, -⟩ := M2; exact q.1
    show Runs p e below (T13.setTop (mkF m 75 #[.val (.long k1), .second, .val (.long k2), .second, .val (.long k3), .second, .val (.long q), .second, .val (.int v1), .val (.int v2), .val (.int (v1 &&& (2147483647 : Int32))), .val (.int ((v2.toUInt32 >>> ((4 : Int32) &&& 31).toUInt32).toInt32)), .val (.int ((v1 ^^^ v2) &&& (2147483647 : Int32))), .val (.int (v2 &&& (3 : Int32))), .val (.int (2 : Int32)), .val (.ref b10), .unset, .unset, .unset] [(.int w13)])) _
    refine X13.pop (pc' := 76) at_75 rfl rfl ?_
    refine X13.iload (pc' := 78) at_76 rfl rfl ?_
    refine X13.iconst (pc' := 79) (z := 3) at_78 rfl rfl ?_
    refine X13.icmpYes (pc' := 92) at_79 (by decide) (by decide) (by decide) ?_
    have KK : ∀ (s13 : Int32) (qq : Int64), Runs p e below (T13.setTop (mkF m 132 #[.val (.long k1), .second, .val (.long k2), .second, .val (.long k3), .second, .val (.long q), .second, .val (.int v1), .val (.int v2), .val (.int (v1 &&& (2147483647 : Int32))), .val (.int ((v2.toUInt32 >>> ((4 : Int32) &&& 31).toUInt32).toInt32)), .val (.int ((v1 ^^^ v2) &&& (2147483647 : Int32))), .val (.int s13), .val (.int (2 : Int32)), .val (.ref b10), .val (.long qq), .second, .unset] [])) (Jvm.Own.Out s h0 [] room_1 (fun v h => v = some (.int 1))) := by
      intro s13 qq
      refine X13.lload (pc' := 134) at_132 rfl rfl ?_
      refine X13.iload (pc' := 136) at_134 rfl rfl ?_
      refine X13.lloadN (pc' := 137) at_136 rfl rfl ?_
      refine X13.lloadN (pc' := 138) at_137 rfl rfl ?_
      refine X13.lload (pc' := 140) at_138 rfl rfl ?_
      refine X13.iload (pc' := 142) at_140 rfl rfl ?_
      refine X13.iload (pc' := 144) at_142 rfl rfl ?_
      refine X13.iload (pc' := 146) at_144 rfl rfl ?_
      refine X13.callS (pc' := 149) (W := 0) (argsL := [(.long qq), (.int (2 : Int32)), (.long k1), (.long k2), (.long k3), (.int (v1 &&& (2147483647 : Int32))), (.int ((v2.toUInt32 >>> ((4 : Int32) &&& 31).toUInt32).toInt32)), (.int ((v1 ^^^ v2) &&& (2147483647 : Int32)))]) (rest := []) (ct4_2 l Z a0 hw qq k1 k2 k3 (v1 &&& (2147483647 : Int32)) ((v2.toUInt32 >>> ((4 : Int32) &&& 31).toUInt32).toInt32) ((v1 ^^^ v2) &&& (2147483647 : Int32)) h13) (wd_20 hw) (wd_21 hw) (wd_22 hw) (wd_23 hw) (by decide) pd_3 rfl rfl rfl rfl at_146 rfl (by decide) rfl (by decide) (by decide) (by decide) allWs0 (fun T14 h14 v14 X14 K14 Q14 => ?_)
      obtain ⟨rfl, rfl⟩ := Q14
      show Runs p e below (T14.setTop (mkF m 149 #[.val (.long k1), .second, .val (.long k2), .second, .val (.long k3), .second, .val (.long q), .second, .val (.int v1), .val (.int v2), .val (.int (v1 &&& (2147483647 : Int32))), .val (.int ((v2.toUInt32 >>> ((4 : Int32) &&& 31).toUInt32).toInt32)), .val (.int ((v1 ^^^ v2) &&& (2147483647 : Int32))), .val (.int s13), .val (.int (2 : Int32)), .val (.ref b10), .val (.long qq), .second, .unset] [(.int (own_e2 qq k1 k2 k3 (v1 &&& (2147483647 : Int32)) ((v2.toUInt32 >>> ((4 : Int32) &&& 31).toUInt32).toInt32) ((v1 ^^^ v2) &&& (2147483647 : Int32))))])) _
      refine X14.istore (pc' := 151) (l' := #[.val (.long k1), .second, .val (.long k2), .second, .val (.long k3), .second, .val (.long q), .second, .val (.int v1), .val (.int v2), .val (.int (v1 &&& (2147483647 : Int32))), .val (.int ((v2.toUInt32 >>> ((4 : Int32) &&& 31).toUInt32).toInt32)), .val (.int ((v1 ^^^ v2) &&& (2147483647 : Int32))), .val (.int s13), .val (.int (2 : Int32)), .val (.ref b10), .val (.long qq), .second, .val (.int (own_e2 qq k1 k2 k3 (v1 &&& (2147483647 : Int32)) ((v2.toUInt32 >>> ((4 : Int32) &&& 31).toUInt32).toInt32) ((v1 ^^^ v2) &&& (2147483647 : Int32))))]) at_149 rfl rfl ?_
      refine X14.aload (pc' := 153) at_151 rfl rfl rfl ?_
      refine X14.lload (pc' := 155) at_153 rfl rfl ?_
      refine X14.virtual (pc' := 158) (W := 0) (a := b10) (argsL := [(.long qq)]) (rest := []) (own_get l Z a0 hw b10 ak av qq 2 (own_add (own_add own_L0 k1 (v1 &&& (2147483647 : Int32))) k2 ((v2.toUInt32 >>> ((4 : Int32) &&& 31).toUInt32).toInt32)) h13 M2 (by decide)) (wd_24 hw) (wd_25 hw) (fun _ q => notFace_of_selects q) (wd_27 hw) (wd_26 hw) (wd_3 hw) (wd_28 hw) (by decide) Em2 pd_4 rfl rfl rfl rfl at_155 rfl (by decide) rfl (by decide) (by decide) (by decide) allWs0 (fun T15 h15 v15 X15 K15 Q15 => ?_)
      obtain ⟨rfl, rfl⟩ := Q15
      show Runs p e below (T15.setTop (mkF m 158 #[.val (.long k1), .second, .val (.long k2), .second, .val (.long k3), .second, .val (.long q), .second, .val (.int v1), .val (.int v2), .val (.int (v1 &&& (2147483647 : Int32))), .val (.int ((v2.toUInt32 >>> ((4 : Int32) &&& 31).toUInt32).toInt32)), .val (.int ((v1 ^^^ v2) &&& (2147483647 : Int32))), .val (.int s13), .val (.int (2 : Int32)), .val (.ref b10), .val (.long qq), .second, .val (.int (own_e2 qq k1 k2 k3 (v1 &&& (2147483647 : Int32)) ((v2.toUInt32 >>> ((4 : Int32) &&& 31).toUInt32).toInt32) ((v1 ^^^ v2) &&& (2147483647 : Int32))))] [(.int ((own_add (own_add own_L0 k1 (v1 &&& (2147483647 : Int32))) k2 ((v2.toUInt32 >>> ((4 : Int32) &&& 31).toUInt32).toInt32)) qq))])) _
      refine X15.iload (pc' := 160) at_158 rfl rfl ?_
      refine X15.icmpNo (pc' := 163) at_160 (teq (own_f2 _ _ _ _ (own_neg own_n1))).2 rfl ?_
      refine X15.iconst (pc' := 164) (z := 1) at_163 rfl rfl ?_
      refine X15.goto (pc' := 168) at_164 (by decide) (by decide) ?_
      exact X15.zreturn (z' := (1 : Int32)) rfl (by simp) at_168 rfl (by decide) (by decide) rfl
    have hss := own_three v2 _ rfl
    generalize (v2 &&& (3 : Int32)) = z at hss ⊢
    rcases hss with rfl | rfl | rfl | rfl
    · refine X13.iload (pc' := 94) at_92 rfl rfl ?_
      refine X13.ifNo (pc' := 97) at_94 (by decide) rfl ?_
      refine X13.lloadN (pc' := 98) at_97 rfl rfl ?_
      refine X13.lstore (pc' := 100) (l' := #[.val (.long k1), .second, .val (.long k2), .second, .val (.long k3), .second, .val (.long q), .second, .val (.int v1), .val (.int v2), .val (.int (v1 &&& (2147483647 : Int32))), .val (.int ((v2.toUInt32 >>> ((4 : Int32) &&& 31).toUInt32).toInt32)), .val (.int ((v1 ^^^ v2) &&& (2147483647 : Int32))), .val (.int (0 : Int32)), .val (.int (2 : Int32)), .val (.ref b10), .val (.long k1), .second, .unset]) at_98 rfl rfl ?_
      refine X13.goto (pc' := 132) at_100 (by decide) (by decide) ?_
      exact KK _ _
    · refine X13.iload (pc' := 94) at_92 rfl rfl ?_
      refine X13.ifYes (pc' := 103) at_94 (by decide) (by decide) (by decide) ?_
      refine X13.iload (pc' := 105) at_103 rfl rfl ?_
      refine X13.iconst (pc' := 106) (z := 1) at_105 rfl rfl ?_
      refine X13.icmpNo (pc' := 109) at_106 (by decide) rfl ?_
      refine X13.lloadN (pc' := 110) at_109 rfl rfl ?_
      refine X13.lstore (pc' := 112) (l' := #[.val (.long k1), .second, .val (.long k2), .second, .val (.long k3), .second, .val (.long q), .second, .val (.int v1), .val (.int v2), .val (.int (v1 &&& (2147483647 : Int32))), .val (.int ((v2.toUInt32 >>> ((4 : Int32) &&& 31).toUInt32).toInt32)), .val (.int ((v1 ^^^ v2) &&& (2147483647 : Int32))), .val (.int (1 : Int32)), .val (.int (2 : Int32)), .val (.ref b10), .val (.long k2), .second, .unset]) at_110 rfl rfl ?_
      refine X13.goto (pc' := 132) at_112 (by decide) (by decide) ?_
      exact KK _ _
    · refine X13.iload (pc' := 94) at_92 rfl rfl ?_
      refine X13.ifYes (pc' := 103) at_94 (by decide) (by decide) (by decide) ?_
      refine X13.iload (pc' := 105) at_103 rfl rfl ?_
      refine X13.iconst (pc' := 106) (z := 1) at_105 rfl rfl ?_
      refine X13.icmpYes (pc' := 115) at_106 (by decide) (by decide) (by decide) ?_
      refine X13.iload (pc' := 117) at_115 rfl rfl ?_
      refine X13.iconst (pc' := 118) (z := 2) at_117 rfl rfl ?_
      refine X13.icmpNo (pc' := 121) at_118 (by decide) rfl ?_
      refine X13.lload (pc' := 123) at_121 rfl rfl ?_
      refine X13.lstore (pc' := 125) (l' := #[.val (.long k1), .second, .val (.long k2), .second, .val (.long k3), .second, .val (.long q), .second, .val (.int v1), .val (.int v2), .val (.int (v1 &&& (2147483647 : Int32))), .val (.int ((v2.toUInt32 >>> ((4 : Int32) &&& 31).toUInt32).toInt32)), .val (.int ((v1 ^^^ v2) &&& (2147483647 : Int32))), .val (.int (2 : Int32)), .val (.int (2 : Int32)), .val (.ref b10), .val (.long k3), .second, .unset]) at_123 rfl rfl ?_
      refine X13.goto (pc' := 132) at_125 (by decide) (by decide) ?_
      exact KK _ _
    · refine X13.iload (pc' := 94) at_92 rfl rfl ?_
      refine X13.ifYes (pc' := 103) at_94 (by decide) (by decide) (by decide) ?_
      refine X13.iload (pc' := 105) at_103 rfl rfl ?_
      refine X13.iconst (pc' := 106) (z := 1) at_105 rfl rfl ?_
      refine X13.icmpYes (pc' := 115) at_106 (by decide) (by decide) (by decide) ?_
      refine X13.iload (pc' := 117) at_115 rfl rfl ?_
      refine X13.iconst (pc' := 118) (z := 2) at_117 rfl rfl ?_
      refine X13.icmpYes (pc' := 128) at_118 (by decide) (by decide) (by decide) ?_
      refine X13.lload (pc' := 130) at_128 rfl rfl ?_
      refine X13.lstore (pc' := 132) (l' := #[.val (.long k1), .second, .val (.long k2), .second, .val (.long k3), .second, .val (.long q), .second, .val (.int v1), .val (.int v2), .val (.int (v1 &&& (2147483647 : Int32))), .val (.int ((v2.toUInt32 >>> ((4 : Int32) &&& 31).toUInt32).toInt32)), .val (.int ((v1 ^^^ v2) &&& (2147483647 : Int32))), .val (.int (3 : Int32)), .val (.int (2 : Int32)), .val (.ref b10), .val (.long q), .second, .unset]) at_130 rfl rfl ?_
      exact KK _ _
  · refine X0.istore (pc' := 37) (l' := #[.val (.long k1), .second, .val (.long k2), .second, .val (.long k3), .second, .val (.long q), .second, .val (.int v1), .val (.int v2), .val (.int (v1 &&& (2147483647 : Int32))), .val (.int ((v2.toUInt32 >>> ((4 : Int32) &&& 31).toUInt32).toInt32)), .val (.int ((v1 ^^^ v2) &&& (2147483647 : Int32))), .val (.int (v2 &&& (3 : Int32))), .val (.int (3 : Int32)), .unset, .unset, .unset, .unset]) at_35 rfl rfl ?_
    refine X0.new (pc' := 40) (wd_1 hw) (wd_2 hw) (wd_3 hw) at_37 rfl (by decide) (by decide) (fun T16 h16 b16 X16 g16 E16 A16 D16 => ?_)
    have sz_b16 : h0.size ≤ b16 := g16 ▸ X0.size
    have Fkeys_b16 : Fld Z h16 b16 "com/example/stacks_in_time/stacksintime/LongIntMap" "keys" "[J" .null := D16 (Or.inl (wd_12 hw)) (ty := (.array .long)) (by decide)
    have Fvalues_b16 : Fld Z h16 b16 "com/example/stacks_in_time/stacksintime/LongIntMap" "values" "[I" .null := D16 (Or.inl (wd_15 hw)) (ty := (.array .int)) (by decide)
    have Fsize_b16 : Fld Z h16 b16 "com/example/stacks_in_time/stacksintime/LongIntMap" "size" "I" (.int (0 : Int32)) := D16 (Or.inl (wd_39 hw)) (ty := .int) (by decide)
    refine X16.dup (pc' := 41) at_40 rfl rfl ?_
    refine X16.special (pc' := 44) (W := 1) (a := b16) (argsL := []) (rest := [(.ref b16)]) (ct1 l Z a0 hw b16 h16 A16 Fkeys_b16 Fvalues_b16 Fsize_b16) rfl (wd_4 hw) (wd_5 hw) (wd_3 hw) (wd_6 hw) (by decide) pd_2 rfl rfl rfl rfl at_41 rfl (by decide) rfl (by decide) (by decide) (by decide) ((allS (Or.inr sz_b16) all0)) (fun T17 h17 v17 X17 K17 Q17 => ?_)
    have A16_17 := A16.keep K17
    obtain ⟨rfl, ak, av, zk, zv, hne, HH⟩ := Q17
    have M0 := own_init hne HH
    have sz_ak : h0.size ≤ ak := Nat.le_trans X16.size zk
    have sz_av : h0.size ≤ av := Nat.le_trans X16.size zv
    have Em0 := HH.1
    show Runs p e below (T17.setTop (mkF m 44 #[.val (.long k1), .second, .val (.long k2), .second, .val (.long k3), .second, .val (.long q), .second, .val (.int v1), .val (.int v2), .val (.int (v1 &&& (2147483647 : Int32))), .val (.int ((v2.toUInt32 >>> ((4 : Int32) &&& 31).toUInt32).toInt32)), .val (.int ((v1 ^^^ v2) &&& (2147483647 : Int32))), .val (.int (v2 &&& (3 : Int32))), .val (.int (3 : Int32)), .unset, .unset, .unset, .unset] [(.ref b16)])) _
    refine X17.astore (pc' := 46) (l' := #[.val (.long k1), .second, .val (.long k2), .second, .val (.long k3), .second, .val (.long q), .second, .val (.int v1), .val (.int v2), .val (.int (v1 &&& (2147483647 : Int32))), .val (.int ((v2.toUInt32 >>> ((4 : Int32) &&& 31).toUInt32).toInt32)), .val (.int ((v1 ^^^ v2) &&& (2147483647 : Int32))), .val (.int (v2 &&& (3 : Int32))), .val (.int (3 : Int32)), .val (.ref b16), .unset, .unset, .unset]) at_44 rfl rfl rfl ?_
    refine X17.iload (pc' := 48) at_46 rfl rfl ?_
    refine X17.iconst (pc' := 49) (z := 1) at_48 rfl rfl ?_
    refine X17.icmpNo (pc' := 52) at_49 (by decide) rfl ?_
    refine X17.aload (pc' := 54) at_52 rfl rfl rfl ?_
    refine X17.lloadN (pc' := 55) at_54 rfl rfl ?_
    refine X17.iload (pc' := 57) at_55 rfl rfl ?_
    refine X17.virtual (pc' := 60) (W := 0) (a := b16) (argsL := [(.long k1), (.int (v1 &&& (2147483647 : Int32)))]) (rest := []) (own_putM l Z a0 hw b16 ak av k1 (v1 &&& (2147483647 : Int32)) 0 own_L0 h17 M0 (by decide) own_n1) (wd_33 hw) (wd_34 hw) (fun _ q => notFace_of_selects q) (wd_36 hw) (wd_35 hw) (wd_3 hw) (wd_37 hw) (by decide) Em0 pd_0 rfl rfl rfl rfl at_57 rfl (by decide) rfl (by decide) (by decide) (by decide) ((allS (Or.inr sz_b16) (allS (Or.inr sz_ak) (allS (Or.inr sz_av) all0)))) (fun T18 h18 v18 X18 K18 Q18 => ?_)
    have Em0_18 := Em0.keep K18
    obtain ⟨w18, rfl, M1⟩ := Q18
    have Em1 : Exa Z h18 b16 "com/example/stacks_in_time/stacksintime/LongIntMap" := by obtain ⟨-, _, _, _, _, q, -⟩ := M1; exact q.1
    show Runs p e below (T18.setTop (mkF m 60 #[.val (.long k1), .second, .val (.long k2), .second, .val (.long k3), .second, .val (.long q), .second, .val (.int v1), .val (.int v2), .val (.int (v1 &&& (2147483647 : Int32))), .val (.int ((v2.toUInt32 >>> ((4 : Int32) &&& 31).toUInt32).toInt32)), .val (.int ((v1 ^^^ v2) &&& (2147483647 : Int32))), .val (.int (v2 &&& (3 : Int32))), .val (.int (3 : Int32)), .val (.ref b16), .unset, .unset, .unset] [(.int w18)])) _
    refine X18.pop (pc' := 61) at_60 rfl rfl ?_
    refine X18.iload (pc' := 63) at_61 rfl rfl ?_
    refine X18.iconst (pc' := 64) (z := 2) at_63 rfl rfl ?_
    refine X18.icmpNo (pc' := 67) at_64 (by decide) rfl ?_
    refine X18.aload (pc' := 69) at_67 rfl rfl rfl ?_
    refine X18.lloadN (pc' := 70) at_69 rfl rfl ?_
    refine X18.iload (pc' := 72) at_70 rfl rfl ?_
    refine X18.virtual (pc' := 75) (W := 0) (a := b16) (argsL := [(.long k2), (.int ((v2.toUInt32 >>> ((4 : Int32) &&& 31).toUInt32).toInt32))]) (rest := []) (own_putM l Z a0 hw b16 ak av k2 ((v2.toUInt32 >>> ((4 : Int32) &&& 31).toUInt32).toInt32) 1 (own_add own_L0 k1 (v1 &&& (2147483647 : Int32))) h18 M1 (by decide) own_n2) (wd_33 hw) (wd_34 hw) (fun _ q => notFace_of_selects q) (wd_36 hw) (wd_35 hw) (wd_3 hw) (wd_37 hw) (by decide) Em1 pd_0 rfl rfl rfl rfl at_72 rfl (by decide) rfl (by decide) (by decide) (by decide) ((allS (Or.inr sz_b16) (allS (Or.inr sz_ak) (allS (Or.inr sz_av) all0)))) (fun T19 h19 v19 X19 K19 Q19 => ?_)
    have Em1_19 := Em1.keep K19
    obtain ⟨w19, rfl, M2⟩ := Q19
    have Em2 : Exa Z h19 b16 "com/example/stacks_in_time/stacksintime/LongIntMap" := by obtain ⟨-, _, _, _, _, q, -⟩ := M2; exact q.1
    show Runs p e below (T19.setTop (mkF m 75 #[.val (.long k1), .second, .val (.long k2), .second, .val (.long k3), .second, .val (.long q), .second, .val (.int v1), .val (.int v2), .val (.int (v1 &&& (2147483647 : Int32))), .val (.int ((v2.toUInt32 >>> ((4 : Int32) &&& 31).toUInt32).toInt32)), .val (.int ((v1 ^^^ v2) &&& (2147483647 : Int32))), .val (.int (v2 &&& (3 : Int32))), .val (.int (3 : Int32)), .val (.ref b16), .unset, .unset, .unset] [(.int w19)])) _
    refine X19.pop (pc' := 76) at_75 rfl rfl ?_
    refine X19.iload (pc' := 78) at_76 rfl rfl ?_
    refine X19.iconst (pc' := 79) (z := 3) at_78 rfl rfl ?_
    refine X19.icmpNo (pc' := 82) at_79 (by decide) rfl ?_
    refine X19.aload (pc' := 84) at_82 rfl rfl rfl ?_
    refine X19.lload (pc' := 86) at_84 rfl rfl ?_
    refine X19.iload (pc' := 88) at_86 rfl rfl ?_
    refine X19.virtual (pc' := 91) (W := 0) (a := b16) (argsL := [(.long k3), (.int ((v1 ^^^ v2) &&& (2147483647 : Int32)))]) (rest := []) (own_putM l Z a0 hw b16 ak av k3 ((v1 ^^^ v2) &&& (2147483647 : Int32)) 2 (own_add (own_add own_L0 k1 (v1 &&& (2147483647 : Int32))) k2 ((v2.toUInt32 >>> ((4 : Int32) &&& 31).toUInt32).toInt32)) h19 M2 (by decide) own_n3) (wd_33 hw) (wd_34 hw) (fun _ q => notFace_of_selects q) (wd_36 hw) (wd_35 hw) (wd_3 hw) (wd_37 hw) (by decide) Em2 pd_0 rfl rfl rfl rfl at_88 rfl (by decide) rfl (by decide) (by decide) (by decide) ((allS (Or.inr sz_b16) (allS (Or.inr sz_ak) (allS (Or.inr sz_av) all0)))) (fun T20 h20 v20 X20 K20 Q20 => ?_)
    have Em2_20 := Em2.keep K20
    obtain ⟨w20, rfl, M3⟩ := Q20
    have Em3 : Exa Z h20 b16 "com/example/stacks_in_time/stacksintime/LongIntMap" := by obtain ⟨-, _, _, _, _, q, -⟩ := M3; exact q.1
    show Runs p e below (T20.setTop (mkF m 91 #[.val (.long k1), .second, .val (.long k2), .second, .val (.long k3), .second, .val (.long q), .second, .val (.int v1), .val (.int v2), .val (.int (v1 &&& (2147483647 : Int32))), .val (.int ((v2.toUInt32 >>> ((4 : Int32) &&& 31).toUInt32).toInt32)), .val (.int ((v1 ^^^ v2) &&& (2147483647 : Int32))), .val (.int (v2 &&& (3 : Int32))), .val (.int (3 : Int32)), .val (.ref b16), .unset, .unset, .unset] [(.int w20)])) _
    refine X20.pop (pc' := 92) at_91 rfl rfl ?_
    have KK : ∀ (s13 : Int32) (qq : Int64), Runs p e below (T20.setTop (mkF m 132 #[.val (.long k1), .second, .val (.long k2), .second, .val (.long k3), .second, .val (.long q), .second, .val (.int v1), .val (.int v2), .val (.int (v1 &&& (2147483647 : Int32))), .val (.int ((v2.toUInt32 >>> ((4 : Int32) &&& 31).toUInt32).toInt32)), .val (.int ((v1 ^^^ v2) &&& (2147483647 : Int32))), .val (.int s13), .val (.int (3 : Int32)), .val (.ref b16), .val (.long qq), .second, .unset] [])) (Jvm.Own.Out s h0 [] room_1 (fun v h => v = some (.int 1))) := by
      intro s13 qq
      refine X20.lload (pc' := 134) at_132 rfl rfl ?_
      refine X20.iload (pc' := 136) at_134 rfl rfl ?_
      refine X20.lloadN (pc' := 137) at_136 rfl rfl ?_
      refine X20.lloadN (pc' := 138) at_137 rfl rfl ?_
      refine X20.lload (pc' := 140) at_138 rfl rfl ?_
      refine X20.iload (pc' := 142) at_140 rfl rfl ?_
      refine X20.iload (pc' := 144) at_142 rfl rfl ?_
      refine X20.iload (pc' := 146) at_144 rfl rfl ?_
      refine X20.callS (pc' := 149) (W := 0) (argsL := [(.long qq), (.int (3 : Int32)), (.long k1), (.long k2), (.long k3), (.int (v1 &&& (2147483647 : Int32))), (.int ((v2.toUInt32 >>> ((4 : Int32) &&& 31).toUInt32).toInt32)), (.int ((v1 ^^^ v2) &&& (2147483647 : Int32)))]) (rest := []) (ct4_3 l Z a0 hw qq k1 k2 k3 (v1 &&& (2147483647 : Int32)) ((v2.toUInt32 >>> ((4 : Int32) &&& 31).toUInt32).toInt32) ((v1 ^^^ v2) &&& (2147483647 : Int32)) h20) (wd_20 hw) (wd_21 hw) (wd_22 hw) (wd_23 hw) (by decide) pd_3 rfl rfl rfl rfl at_146 rfl (by decide) rfl (by decide) (by decide) (by decide) allWs0 (fun T21 h21 v21 X21 K21 Q21 => ?_)
      obtain ⟨rfl, rfl⟩ := Q21
      show Runs p e below (T21.setTop (mkF m 149 #[.val (.long k1), .second, .val (.long k2), .second, .val (.long k3), .second, .val (.long q), .second, .val (.int v1), .val (.int v2), .val (.int (v1 &&& (2147483647 : Int32))), .val (.int ((v2.toUInt32 >>> ((4 : Int32) &&& 31).toUInt32).toInt32)), .val (.int ((v1 ^^^ v2) &&& (2147483647 : Int32))), .val (.int s13), .val (.int (3 : Int32)), .val (.ref b16), .val (.long qq), .second, .unset] [(.int (own_e3 qq k1 k2 k3 (v1 &&& (2147483647 : Int32)) ((v2.toUInt32 >>> ((4 : Int32) &&& 31).toUInt32).toInt32) ((v1 ^^^ v2) &&& (2147483647 : Int32))))])) _
      refine X21.istore (pc' := 151) (l' := #[.val (.long k1), .second, .val (.long k2), .second, .val (.long k3), .second, .val (.long q), .second, .val (.int v1), .val (.int v2), .val (.int (v1 &&& (2147483647 : Int32))), .val (.int ((v2.toUInt32 >>> ((4 : Int32) &&& 31).toUInt32).toInt32)), .val (.int ((v1 ^^^ v2) &&& (2147483647 : Int32))), .val (.int s13), .val (.int (3 : Int32)), .val (.ref b16), .val (.long qq), .second, .val (.int (own_e3 qq k1 k2 k3 (v1 &&& (2147483647 : Int32)) ((v2.toUInt32 >>> ((4 : Int32) &&& 31).toUInt32).toInt32) ((v1 ^^^ v2) &&& (2147483647 : Int32))))]) at_149 rfl rfl ?_
      refine X21.aload (pc' := 153) at_151 rfl rfl rfl ?_
      refine X21.lload (pc' := 155) at_153 rfl rfl ?_
      refine X21.virtual (pc' := 158) (W := 0) (a := b16) (argsL := [(.long qq)]) (rest := []) (own_get l Z a0 hw b16 ak av qq 3 (own_add (own_add (own_add own_L0 k1 (v1 &&& (2147483647 : Int32))) k2 ((v2.toUInt32 >>> ((4 : Int32) &&& 31).toUInt32).toInt32)) k3 ((v1 ^^^ v2) &&& (2147483647 : Int32))) h20 M3 (by decide)) (wd_24 hw) (wd_25 hw) (fun _ q => notFace_of_selects q) (wd_27 hw) (wd_26 hw) (wd_3 hw) (wd_28 hw) (by decide) Em3 pd_4 rfl rfl rfl rfl at_155 rfl (by decide) rfl (by decide) (by decide) (by decide) allWs0 (fun T22 h22 v22 X22 K22 Q22 => ?_)
      obtain ⟨rfl, rfl⟩ := Q22
      show Runs p e below (T22.setTop (mkF m 158 #[.val (.long k1), .second, .val (.long k2), .second, .val (.long k3), .second, .val (.long q), .second, .val (.int v1), .val (.int v2), .val (.int (v1 &&& (2147483647 : Int32))), .val (.int ((v2.toUInt32 >>> ((4 : Int32) &&& 31).toUInt32).toInt32)), .val (.int ((v1 ^^^ v2) &&& (2147483647 : Int32))), .val (.int s13), .val (.int (3 : Int32)), .val (.ref b16), .val (.long qq), .second, .val (.int (own_e3 qq k1 k2 k3 (v1 &&& (2147483647 : Int32)) ((v2.toUInt32 >>> ((4 : Int32) &&& 31).toUInt32).toInt32) ((v1 ^^^ v2) &&& (2147483647 : Int32))))] [(.int ((own_add (own_add (own_add own_L0 k1 (v1 &&& (2147483647 : Int32))) k2 ((v2.toUInt32 >>> ((4 : Int32) &&& 31).toUInt32).toInt32)) k3 ((v1 ^^^ v2) &&& (2147483647 : Int32))) qq))])) _
      refine X22.iload (pc' := 160) at_158 rfl rfl ?_
      refine X22.icmpNo (pc' := 163) at_160 (teq (own_f3 _ _ _ _ _ (own_neg own_n1) (own_neg own_n2))).2 rfl ?_
      refine X22.iconst (pc' := 164) (z := 1) at_163 rfl rfl ?_
      refine X22.goto (pc' := 168) at_164 (by decide) (by decide) ?_
      exact X22.zreturn (z' := (1 : Int32)) rfl (by simp) at_168 rfl (by decide) (by decide) rfl
    have hss := own_three v2 _ rfl
    generalize (v2 &&& (3 : Int32)) = z at hss ⊢
    rcases hss with rfl | rfl | rfl | rfl
    · refine X20.iload (pc' := 94) at_92 rfl rfl ?_
      refine X20.ifNo (pc' := 97) at_94 (by decide) rfl ?_
      refine X20.lloadN (pc' := 98) at_97 rfl rfl ?_
      refine X20.lstore (pc' := 100) (l' := #[.val (.long k1), .second, .val (.long k2), .second, .val (.long k3), .second, .val (.long q), .second, .val (.int v1), .val (.int v2), .val (.int (v1 &&& (2147483647 : Int32))), .val (.int ((v2.toUInt32 >>> ((4 : Int32) &&& 31).toUInt32).toInt32)), .val (.int ((v1 ^^^ v2) &&& (2147483647 : Int32))), .val (.int (0 : Int32)), .val (.int (3 : Int32)), .val (.ref b16), .val (.long k1), .second, .unset]) at_98 rfl rfl ?_
      refine X20.goto (pc' := 132) at_100 (by decide) (by decide) ?_
      exact KK _ _
    · refine X20.iload (pc' := 94) at_92 rfl rfl ?_
      refine X20.ifYes (pc' := 103) at_94 (by decide) (by decide) (by decide) ?_
      refine X20.iload (pc' := 105) at_103 rfl rfl ?_
      refine X20.iconst (pc' := 106) (z := 1) at_105 rfl rfl ?_
      refine X20.icmpNo (pc' := 109) at_106 (by decide) rfl ?_
      refine X20.lloadN (pc' := 110) at_109 rfl rfl ?_
      refine X20.lstore (pc' := 112) (l' := #[.val (.long k1), .second, .val (.long k2), .second, .val (.long k3), .second, .val (.long q), .second, .val (.int v1), .val (.int v2), .val (.int (v1 &&& (2147483647 : Int32))), .val (.int ((v2.toUInt32 >>> ((4 : Int32) &&& 31).toUInt32).toInt32)), .val (.int ((v1 ^^^ v2) &&& (2147483647 : Int32))), .val (.int (1 : Int32)), .val (.int (3 : Int32)), .val (.ref b16), .val (.long k2), .second, .unset]) at_110 rfl rfl ?_
      refine X20.goto (pc' := 132) at_112 (by decide) (by decide) ?_
      exact KK _ _
    · refine X20.iload (pc' := 94) at_92 rfl rfl ?_
      refine X20.ifYes (pc' := 103) at_94 (by decide) (by decide) (by decide) ?_
      refine X20.iload (pc' := 105) at_103 rfl rfl ?_
      refine X20.iconst (pc' := 106) (z := 1) at_105 rfl rfl ?_
      refine X20.icmpYes (pc' := 115) at_106 (by decide) (by decide) (by decide) ?_
      refine X20.iload (pc' := 117) at_115 rfl rfl ?_
      refine X20.iconst (pc' := 118) (z := 2) at_117 rfl rfl ?_
      refine X20.icmpNo (pc' := 121) at_118 (by decide) rfl ?_
      refine X20.lload (pc' := 123) at_121 rfl rfl ?_
      refine X20.lstore (pc' := 125) (l' := #[.val (.long k1), .second, .val (.long k2), .second, .val (.long k3), .second, .val (.long q), .second, .val (.int v1), .val (.int v2), .val (.int (v1 &&& (2147483647 : Int32))), .val (.int ((v2.toUInt32 >>> ((4 : Int32) &&& 31).toUInt32).toInt32)), .val (.int ((v1 ^^^ v2) &&& (2147483647 : Int32))), .val (.int (2 : Int32)), .val (.int (3 : Int32)), .val (.ref b16), .val (.long k3), .second, .unset]) at_123 rfl rfl ?_
      refine X20.goto (pc' := 132) at_125 (by decide) (by decide) ?_
      exact KK _ _
    · refine X20.iload (pc' := 94) at_92 rfl rfl ?_
      refine X20.ifYes (pc' := 103) at_94 (by decide) (by decide) (by decide) ?_
      refine X20.iload (pc' := 105) at_103 rfl rfl ?_
      refine X20.iconst (pc' := 106) (z := 1) at_105 rfl rfl ?_
      refine X20.icmpYes (pc' := 115) at_106 (by decide) (by decide) (by decide) ?_
      refine X20.iload (pc' := 117) at_115 rfl rfl ?_
      refine X20.iconst (pc' := 118) (z := 2) at_117 rfl rfl ?_
      refine X20.icmpYes (pc' := 128) at_118 (by decide) (by decide) (by decide) ?_
      refine X20.lload (pc' := 130) at_128 rfl rfl ?_
      refine X20.lstore (pc' := 132) (l' := #[.val (.long k1), .second, .val (.long k2), .second, .val (.long k3), .second, .val (.long q), .second, .val (.int v1), .val (.int v2), .val (.int (v1 &&& (2147483647 : Int32))), .val (.int ((v2.toUInt32 >>> ((4 : Int32) &&& 31).toUInt32).toInt32)), .val (.int ((v1 ^^^ v2) &&& (2147483647 : Int32))), .val (.int (3 : Int32)), .val (.int (3 : Int32)), .val (.ref b16), .val (.long q), .second, .unset]) at_130 rfl rfl ?_
      exact KK _ _
set_option maxRecDepth 65536 in
set_option maxHeartbeats 40000000 in
theorem comes_1 {Post : Tables → Env → Array Value → State → Outcome → State → Prop} (hpost : ∀ tb e args s v u, (limb_1_1.after args s (.returned v) u = true ∧ limb_1_2.after args s (.returned v) u = true ∧ True) → FrameEnd s (.returned v) u (Jvm.fieldLocs frame_1_writes args s ++ Jvm.arrayLocs frame_1_arrays args s ++ Jvm.staticLocs frame_1_statics s) 16 192 → Post tb e args s (.returned v) u) :
    ArmFor flags0 classFile x code maxLocals ret World_1 tables_1 room_1 Calls_1 rest_1 Pre_1 Post := by
  intro l hfl _ _ p e ha hc hk s m args below hf hA hF happ hP
  obtain ⟨hcalls, hrest, hpre⟩ := hP
  obtain ⟨-, -, -, hnamed, -, -, -, hat⟩ := (Spec.applies_iff hf).mp happ
  obtain ⟨hg, hn⟩ := and_e (Cond.before_iff.mp (show (Jvm.Cond.and given_1 narrow_1).before args s = true from hpre))
  obtain ⟨g1, g2⟩ := and_e hg
  obtain ⟨g3, g4⟩ := and_e g2
  obtain ⟨g5, g6⟩ := and_e g4
  obtain ⟨g7, g8⟩ := and_e g6
  obtain ⟨g9, g10⟩ := and_e g8
  obtain ⟨g11, g12⟩ := and_e g10
  obtain ⟨w0, w1, w2, w3, w4, w5, rfl⟩ : ∃ w0 w1 w2 w3 w4 w5 : Value, args = #[w0, w1, w2, w3, w4, w5] := by
    have hs : args.size = 6 := by simpa [Cond.value, given_1] using g1
    obtain ⟨L⟩ := args
    match L, hs with
    | [w0, w1, w2, w3, w4, w5], _ => exact ⟨w0, w1, w2, w3, w4, w5, rfl⟩
  have hw := fun d (hd : d ∈ tables_1) => atoms_spec (ws := Jvm.Cond.code x code maxLocals ret :: tables_1) hat d (List.mem_cons_of_mem _ hd)
  obtain ⟨i0, ei0⟩ := isL_v g3
  obtain rfl : w0 = (.long i0) := Option.some.inj ei0
  obtain ⟨i1, ei1⟩ := isL_v g5
  obtain rfl : w1 = (.long i1) := Option.some.inj ei1
  obtain ⟨i2, ei2⟩ := isL_v g7
  obtain rfl : w2 = (.long i2) := Option.some.inj ei2
  obtain ⟨i3, ei3⟩ := isL_v g9
  obtain rfl : w3 = (.long i3) := Option.some.inj ei3
  obtain ⟨i4, ei4⟩ := is_v g11
  obtain rfl : w4 = (.int i4) := Option.some.inj ei4
  obtain ⟨i5, ei5⟩ := is_v g12
  obtain rfl : w5 = (.int i5) := Option.some.inj ei5
  obtain ⟨n, o, h1, h2, h3, _, L, rfl, ⟨rfl, -, N⟩, hq⟩ := ct0 l s _ hw i0 i1 i2 i3 i4 i5 s.heap tables_1 p e ha hc hk s m _ below hf ((Spec.applies_iff_loose hf).mp happ).1 ⟨rfl, State.Warmed39.refl s, rfl⟩ trivial
  refine ⟨n, _, h1, h2, h3, hpost _ _ _ _ _ _ ⟨Cond.after_iff.mpr rfl, Cond.after_iff.mpr (eq_i res_at (Term.int_eval (1)) rfl), trivial⟩ ⟨hq.1, hq.2.1, (hq.2.2.sift fun y hy => Or.inr ((N y hy).elim (fun z => nomatch z) id)).mono (by decide) (by decide)⟩⟩
theorem main_1_1 : Claimed_1_1 := comes_1 fun _ _ _ _ _ _ h hF => ⟨h.1, hF⟩
theorem main_1_2 : Claimed_1_2 := comes_1 fun _ _ _ _ _ _ h hF => ⟨h.2.1, hF⟩
end Jvm.Pilot.@@N@@
namespace Jvm.Pilot.@@N@@
open Jvm Jvm.ClassFile Sem Op Lib Jvm.Free Jvm.Stand Jvm.Pilot.@@N@@.Jvm.D
/-! MADE BY PROGRAM (witnessworld.py) out of the Statement's table words and the real class files: 12 classes; the members and pool entries that the words name. The judged class is class 1, her method 1. -/
namespace start1
open Jvm.ClassFile
def u (s : String) : CpInfo := .utf8 (stringToUtf16 s)
/-- a pool by its gaps: so many unusable entries, then the entry; so many at the end -/
def gap : Nat → List CpInfo → List CpInfo
  | 0, r => r
  | n + 1, r => .unusable :: gap n r
def poolList (es : List (Nat × CpInfo)) (last : Nat) : List CpInfo := es.foldr (fun e r => gap e.1 (e.2 :: r)) (gap last [])
def pool (es : List (Nat × CpInfo)) (last : Nat) : Array CpInfo := ⟨poolList es last⟩
def fileOf (pool : Array CpInfo) (this : Nat) (attrs : Array Attribute := #[]) (ms : Array MethodInfo := #[]) (fl : Nat := 33) (sup : Nat := 0) (ifs : Array Nat := #[]) (fds : Array FieldInfo := #[]) : ClassFile where
  minorVersion := 0
  majorVersion := 65
  constantPool := pool
  accessFlags := fl
  thisClass := this
  superClass := sup
  interfaces := ifs
  fields := fds
  methods := ms
  attributes := attrs
def plain (name : String) (sup : Option ClassId) : Class where
  name := name
  kind := .ordinary
  loader := none
  accessFlags := 33
  super := sup
  interfaces := #[]
  cf := none
  fields := #[]
  methods := #[]
  instanceTypes := #[]
  staticTypes := #[]
  resolved := #[]
  callSites := []
  init := .initialized
  statics := none
  mirror := none

def pool0 : Array CpInfo := pool [(5, u "<init>"), (0, u "()V"), (1, .class_ 10), (1, u "java/lang/Object")] 113

def k0c0 : Code := { maxStack := 0, maxLocals := 1, code := object_method_1_code, exceptionTable := #[], attributes := #[] }
def k0m0 : Method := { name := "<init>", desc := "()V", sig := { parameters := [], returnType := none }, accessFlags := 1, code := some k0c0 }
/-- java/lang/Object -/
def k0 : Class := { plain "java/lang/Object" none with
  accessFlags := 33
  interfaces := #[]
  cf := some (fileOf pool0 8 #[] #[{ accessFlags := 1, nameIndex := 5, descriptorIndex := 6, attributes := #[] }] 33 0 #[] #[])
  fields := #[]
  methods := #[k0m0]
  instanceTypes := #[]
  staticTypes := #[]
  resolved := Array.replicate 124 none
  statics := none }

def pool1 : Array CpInfo := pool [(2, .class_ 4), (0, .nameAndType 5 6), (0, u "java/lang/Object"), (0, u "<init>"), (0, u "()V"), (0, .integer 2147483647), (0, .class_ 9), (0, u "com/example/stacks_in_time/stacksintime/LongIntMap"), (0, .methodref 8 3), (0, .methodref 8 12), (0, .nameAndType 13 14), (0, u "putIfAbsent"), (0, u "(JI)I"), (0, .methodref 16 17), (0, .class_ 18), (0, .nameAndType 19 20), (0, u "com/example/stacks_in_time/stacksintime/LongIntMapGetPinLaw"), (0, u "expectedValue"), (0, u "(JIJJJIII)I"), (0, .methodref 8 22), (0, .nameAndType 23 24), (0, u "get"), (0, u "(J)I"), (2, u "law"), (0, u "(JJJJII)Z")] 3

def k1m0 : Method := { name := "<init>", desc := "()V", sig := { parameters := [], returnType := none }, accessFlags := 1, code := none }
def k1c1 : Code := { maxStack := 12, maxLocals := 19, code := code, exceptionTable := #[], attributes := #[] }
def k1m1 : Method := { name := "law", desc := "(JJJJII)Z", sig := { parameters := [.long, .long, .long, .long, .int, .int], returnType := some .boolean }, accessFlags := 9, code := some k1c1 }
def k1c2 : Code := { maxStack := 4, maxLocals := 12, code := method_3_code, exceptionTable := #[], attributes := #[] }
def k1m2 : Method := { name := "expectedValue", desc := "(JIJJJIII)I", sig := { parameters := [.long, .int, .long, .long, .long, .int, .int, .int], returnType := some .int }, accessFlags := 10, code := some k1c2 }
/-- com/example/stacks_in_time/stacksintime/LongIntMapGetPinLaw -/
def k1 : Class := { plain "com/example/stacks_in_time/stacksintime/LongIntMapGetPinLaw" (some 0) with
  accessFlags := 49
  interfaces := #[]
  cf := some (fileOf pool1 16 #[] #[{ accessFlags := 1, nameIndex := 5, descriptorIndex := 6, attributes := #[] }, { accessFlags := 9, nameIndex := 27, descriptorIndex := 28, attributes := #[] }, { accessFlags := 10, nameIndex := 19, descriptorIndex := 20, attributes := #[] }] 49 2 #[] #[])
  fields := #[]
  methods := #[k1m0, k1m1, k1m2]
  instanceTypes := #[]
  staticTypes := #[]
  resolved := Array.replicate 32 none
  statics := none }

def pool2 : Array CpInfo := pool [(1, .methodref 2 3), (0, .class_ 4), (0, .nameAndType 5 6), (0, u "java/lang/Object"), (0, u "<init>"), (0, u "()V"), (0, .fieldref 8 9), (0, .class_ 10), (0, .nameAndType 11 12), (0, u "com/example/stacks_in_time/stacksintime/LongIntMap"), (0, u "keys"), (0, u "[J"), (0, .fieldref 8 14), (0, .nameAndType 15 16), (0, u "values"), (0, u "[I"), (0, .methodref 18 19), (0, .class_ 20), (0, .nameAndType 21 22), (0, u "java/util/Arrays"), (0, u "fill"), (0, u "([II)V"), (0, .fieldref 8 24), (0, .nameAndType 25 26), (0, u "size"), (0, u "I"), (0, .methodref 8 28), (0, .nameAndType 29 30), (0, u "slot"), (0, u "(JI)I"), (12, .long 11400714819323198485), (1, u "ABSENT"), (2, u "SPREAD"), (0, u "J"), (3, u "get"), (0, u "(J)I"), (1, u "putIfAbsent")] 19

def k2c0 : Code := { maxStack := 2, maxLocals := 1, code := prog_81_method_1_code, exceptionTable := #[], attributes := #[] }
def k2m0 : Method := { name := "<init>", desc := "()V", sig := { parameters := [], returnType := none }, accessFlags := 0, code := some k2c0 }
def k2c1 : Code := { maxStack := 4, maxLocals := 4, code := prog_81_method_3_code, exceptionTable := #[], attributes := #[] }
def k2m1 : Method := { name := "get", desc := "(J)I", sig := { parameters := [.long], returnType := some .int }, accessFlags := 0, code := some k2c1 }
def k2c2 : Code := { maxStack := 4, maxLocals := 6, code := prog_81_method_4_code, exceptionTable := #[], attributes := #[] }
def k2m2 : Method := { name := "putIfAbsent", desc := "(JI)I", sig := { parameters := [.long, .int], returnType := some .int }, accessFlags := 0, code := some k2c2 }
def k2c3 : Code := { maxStack := 4, maxLocals := 3, code := prog_81_method_6_code, exceptionTable := #[], attributes := #[] }
def k2m3 : Method := { name := "slot", desc := "(JI)I", sig := { parameters := [.long, .int], returnType := some .int }, accessFlags := 10, code := some k2c3 }
/-- com/example/stacks_in_time/stacksintime/LongIntMap -/
def k2 : Class := { plain "com/example/stacks_in_time/stacksintime/LongIntMap" (some 0) with
  accessFlags := 48
  interfaces := #[]
  cf := some (fileOf pool2 8 #[] #[{ accessFlags := 0, nameIndex := 5, descriptorIndex := 6, attributes := #[] }, { accessFlags := 0, nameIndex := 53, descriptorIndex := 54, attributes := #[] }, { accessFlags := 0, nameIndex := 56, descriptorIndex := 30, attributes := #[] }, { accessFlags := 10, nameIndex := 29, descriptorIndex := 30, attributes := #[] }] 48 2 #[] #[{ accessFlags := 26, nameIndex := 45, descriptorIndex := 26, attributes := #[] }, { accessFlags := 26, nameIndex := 48, descriptorIndex := 49, attributes := #[] }, { accessFlags := 2, nameIndex := 11, descriptorIndex := 12, attributes := #[] }, { accessFlags := 2, nameIndex := 15, descriptorIndex := 16, attributes := #[] }, { accessFlags := 2, nameIndex := 25, descriptorIndex := 26, attributes := #[] }])
  fields := #[{ name := "ABSENT", type := .int, accessFlags := 26, slot := 0, constantValue := 0 }, { name := "SPREAD", type := .long, accessFlags := 26, slot := 1, constantValue := 0 }, { name := "keys", type := (.array .long), accessFlags := 2, slot := 0, constantValue := 0 }, { name := "values", type := (.array .int), accessFlags := 2, slot := 1, constantValue := 0 }, { name := "size", type := .int, accessFlags := 2, slot := 2, constantValue := 0 }]
  methods := #[k2m0, k2m1, k2m2, k2m3]
  instanceTypes := #[(.array .long), (.array .int), .int]
  staticTypes := #[.int, .long]
  resolved := Array.replicate 76 none
  statics := none }

def pool3 : Array CpInfo := pool [(2, .class_ 4), (1, u "java/lang/Object"), (0, u "<init>"), (0, u "()V"), (7, .class_ 16), (1, u "java/util/Arrays"), (57, .class_ 76), (1, u "java/util/Arrays$NaturalOrder"), (36, .class_ 115), (1, u "java/util/Arrays$LegacyMergeSort"), (1, u "Z"), (257, .class_ 376), (0, u "java/util/Arrays$ArrayList"), (68, u "$assertionsDisabled"), (269, u "MIN_ARRAY_SORT_GRAN"), (0, u "I"), (2, u "INSERTIONSORT_THRESHOLD"), (120, u "fill"), (4, u "([II)V"), (129, .class_ 976), (0, u "java/util/Arrays$ArrayItr")] 52

def k3m0 : Method := { name := "<init>", desc := "()V", sig := { parameters := [], returnType := none }, accessFlags := 2, code := none }
def k3c1 : Code := { maxStack := 3, maxLocals := 4, code := jdk_65_method_103_code, exceptionTable := #[], attributes := #[] }
def k3m1 : Method := { name := "fill", desc := "([II)V", sig := { parameters := [(.array .int), .int], returnType := none }, accessFlags := 9, code := some k3c1 }
/-- java/util/Arrays -/
def k3 : Class := { plain "java/util/Arrays" (some 0) with
  accessFlags := 49
  interfaces := #[]
  cf := some (fileOf pool3 14 #[.nestMembers #[975, 375, 113, 74]] #[{ accessFlags := 2, nameIndex := 5, descriptorIndex := 6, attributes := #[] }, { accessFlags := 9, nameIndex := 840, descriptorIndex := 845, attributes := #[] }] 49 2 #[] #[{ accessFlags := 26, nameIndex := 715, descriptorIndex := 716, attributes := #[] }, { accessFlags := 26, nameIndex := 719, descriptorIndex := 716, attributes := #[] }, { accessFlags := 4120, nameIndex := 445, descriptorIndex := 117, attributes := #[] }])
  fields := #[{ name := "MIN_ARRAY_SORT_GRAN", type := .int, accessFlags := 26, slot := 0, constantValue := 0 }, { name := "INSERTIONSORT_THRESHOLD", type := .int, accessFlags := 26, slot := 1, constantValue := 0 }, { name := "$assertionsDisabled", type := .boolean, accessFlags := 4120, slot := 2, constantValue := 0 }]
  methods := #[k3m0, k3m1]
  instanceTypes := #[]
  staticTypes := #[.int, .int, .boolean]
  resolved := Array.replicate 1029 none
  statics := none }

def pool4 : Array CpInfo := pool [(1, u "java/lang/Cloneable"), (0, .class_ 1), (0, u "java/lang/Object"), (0, .class_ 3)] 3

/-- java/lang/Cloneable -/
def k4 : Class := { plain "java/lang/Cloneable" (some 0) with
  accessFlags := 1537
  interfaces := #[]
  cf := some (fileOf pool4 2 #[] #[] 1537 4 #[] #[])
  fields := #[]
  methods := #[]
  instanceTypes := #[]
  staticTypes := #[]
  resolved := Array.replicate 8 none
  statics := none }

def pool5 : Array CpInfo := pool [(1, u "java/io/Serializable"), (0, .class_ 1), (0, u "java/lang/Object"), (0, .class_ 3)] 3

/-- java/io/Serializable -/
def k5 : Class := { plain "java/io/Serializable" (some 0) with
  accessFlags := 1537
  interfaces := #[]
  cf := some (fileOf pool5 2 #[] #[] 1537 4 #[] #[])
  fields := #[]
  methods := #[]
  instanceTypes := #[]
  staticTypes := #[]
  resolved := Array.replicate 8 none
  statics := none }

/-- the primitive byte -/
def k6 : Class := { plain "byte" none with kind := .primitive 'B', accessFlags := 0x411 }
/-- [B -/
def k7 : Class := { plain "[B" (some 0) with kind := .array 6 .byte, interfaces := #[4, 5], accessFlags := 1041 }

/-- the primitive int -/
def k8 : Class := { plain "int" none with kind := .primitive 'I', accessFlags := 0x411 }
/-- [I -/
def k9 : Class := { plain "[I" (some 0) with kind := .array 8 .int, interfaces := #[4, 5], accessFlags := 1041 }

/-- the primitive long -/
def k10 : Class := { plain "long" none with kind := .primitive 'J', accessFlags := 0x411 }
/-- [J -/
def k11 : Class := { plain "[J" (some 0) with kind := .array 10 .long, interfaces := #[4, 5], accessFlags := 1041 }

def heap : Heap := #[]
def classes : Array Class := #[k0, k1, k2, k3, k4, k5, k6, k7, k8, k9, k10, k11]
def interned : List (Array UInt16 × Addr) := []
def slotsUsed : Nat := 0
def theMethod : MethodId := ⟨1, 1⟩
def args0 : Array Value := #[.long 5, .long 6, .long 7, .long 8, .int 3, .int 13]
def aboutOver (below : List Frame) : State where
  vm := { classes := classes, interned := interned.toArray }
  heap := heap
  slotsUsed := slotsUsed
  threads := #[{ frames := .invoking theMethod args0 :: below }]
def below0 : List Frame := [.native { method := ⟨0, 0⟩, args := #[] }]
def about1 : State := aboutOver below0
def p0 : Program := .bare "" "" ""
def e0 : Env := launch0.env 0 0 0
theorem w_frames : about1.frames = Frame.invoking theMethod args0 :: below0 := rfl
set_option maxRecDepth 65536 in
theorem w_args : argsFit about1.vm theMethod args0 = true := by decide +kernel
set_option maxRecDepth 65536 in
theorem w_heap : heapFits about1 = true := by decide +kernel
set_option maxRecDepth 65536 in
theorem w_runnable : about1.curStatus? = some .runnable := by decide +kernel
set_option maxRecDepth 65536 in
theorem w_alone : about1.alone = true := by decide +kernel
set_option maxRecDepth 65536 in
theorem w_named : about1.methodNamed? x = some theMethod := by decide +kernel
set_option maxRecDepth 65536 in
theorem w_hears : about1.hears theMethod below0 = true := by decide +kernel
set_option maxRecDepth 65536 in
theorem w_ripe : about1.ripe theMethod args0 below0 = true := by decide +kernel
theorem w_running : about1.status = .running := rfl
set_option maxRecDepth 65536 in
theorem w_room : about1.hasRoom e0.platform room_1 = true :=
  launch0.hasRoom_least _ room_1 (by decide +kernel) (by decide +kernel) (by decide +kernel) (by decide +kernel) (by decide +kernel) (by decide +kernel)
theorem allAtoms_all (ts : List Jvm.Cond) (a : Array Jvm.Value) (st : Jvm.State) : (allAtoms ts).before a st = ts.all (fun c => c.before a st) := by
  induction ts with
  | nil => rfl
  | cons c t ih =>
    show (Jvm.Cond.and c (allAtoms t)).before a st = _
    rw [Jvm.Cond.before_and, ih, List.all_cons]
def words1 : List Jvm.Cond := Jvm.Cond.code x code maxLocals ret :: tables_1
/-- a 'code' word, met by the world's own term for the bytes: nothing is compared byte by byte -/
theorem code_word {y : MethodName} {bytes : ByteArray} {mx : Nat} {rt : Option FieldType} {a : Array Value} {s : State} {m : MethodId} {meth : Method} {c : Code} (h1 : s.methodNamed? y = some m) (h2 : s.vm.method? m = some meth) (h3 : meth.code = some c) (h4 : c.code = bytes)
    (h5 : (c.maxLocals == mx && c.exceptionTable.isEmpty && decide (c.maxStack ≤ mostOperands) && decide (meth.sig.returnType = rt) && !meth.locks && decide (parseMethodDescriptor y.desc = some meth.sig)) = true) : (Jvm.Cond.code y bytes mx rt).before a s = true := by
  simp only [Bool.and_eq_true, beq_iff_eq, Bool.not_eq_true', decide_eq_true_eq] at h5
  obtain ⟨⟨⟨⟨⟨g1, g2⟩, g3⟩, g4⟩, g5⟩, g6⟩ := h5
  simp [Cond.before, Cond.holds, Cond.value, h1, h2, h3, h4, g1, g2, g3, g4, g5, g6]
def isCode : Jvm.Cond → Bool
  | .code _ _ _ _ => true
  | _ => false
theorem all_split {L : List Jvm.Cond} {P : Jvm.Cond → Bool} (h1 : L.all (fun c => isCode c || P c) = true) (h2 : ∀ c ∈ L.filter isCode, P c = true) : L.all P = true := by
  refine List.all_eq_true.mpr fun c hc => ?_
  have h := List.all_eq_true.mp h1 c hc
  rcases Bool.eq_false_or_eq_true (isCode c) with hi | hi
  · exact h2 c (List.mem_filter.mpr ⟨hc, hi⟩)
  · simpa [hi] using h
set_option maxRecDepth 65536 in
theorem w_c0 : (Jvm.Cond.code x code maxLocals ret).before args0 about1 = true := code_word (m := ⟨1, 1⟩) (meth := k1m1) (c := k1c1) (by decide +kernel) rfl rfl rfl (by decide +kernel)
set_option maxRecDepth 65536 in
theorem w_c1 : (Jvm.Cond.code ({ cls := "com/example/stacks_in_time/stacksintime/LongIntMap", name := "<init>", desc := "()V" } : Jvm.MethodName) prog_81_method_1_code (1 : Nat) (Option.none : Option Jvm.ClassFile.FieldType)).before args0 about1 = true := code_word (m := ⟨2, 0⟩) (meth := k2m0) (c := k2c0) (by decide +kernel) rfl rfl rfl (by decide +kernel)
set_option maxRecDepth 65536 in
theorem w_c2 : (Jvm.Cond.code ({ cls := "java/lang/Object", name := "<init>", desc := "()V" } : Jvm.MethodName) object_method_1_code (1 : Nat) (Option.none : Option Jvm.ClassFile.FieldType)).before args0 about1 = true := code_word (m := ⟨0, 0⟩) (meth := k0m0) (c := k0c0) (by decide +kernel) rfl rfl rfl (by decide +kernel)
set_option maxRecDepth 65536 in
theorem w_c3 : (Jvm.Cond.code ({ cls := "java/util/Arrays", name := "fill", desc := "([II)V" } : Jvm.MethodName) jdk_65_method_103_code (4 : Nat) (Option.none : Option Jvm.ClassFile.FieldType)).before args0 about1 = true := code_word (m := ⟨3, 1⟩) (meth := k3m1) (c := k3c1) (by decide +kernel) rfl rfl rfl (by decide +kernel)
set_option maxRecDepth 65536 in
theorem w_c4 : (Jvm.Cond.code ({ cls := "com/example/stacks_in_time/stacksintime/LongIntMapGetPinLaw", name := "expectedValue", desc := "(JIJJJIII)I" } : Jvm.MethodName) method_3_code (12 : Nat) (Option.some Jvm.ClassFile.FieldType.int)).before args0 about1 = true := code_word (m := ⟨1, 2⟩) (meth := k1m2) (c := k1c2) (by decide +kernel) rfl rfl rfl (by decide +kernel)
set_option maxRecDepth 65536 in
theorem w_c5 : (Jvm.Cond.code ({ cls := "com/example/stacks_in_time/stacksintime/LongIntMap", name := "get", desc := "(J)I" } : Jvm.MethodName) prog_81_method_3_code (4 : Nat) (Option.some Jvm.ClassFile.FieldType.int)).before args0 about1 = true := code_word (m := ⟨2, 1⟩) (meth := k2m1) (c := k2c1) (by decide +kernel) rfl rfl rfl (by decide +kernel)
set_option maxRecDepth 65536 in
theorem w_c6 : (Jvm.Cond.code ({ cls := "com/example/stacks_in_time/stacksintime/LongIntMap", name := "slot", desc := "(JI)I" } : Jvm.MethodName) prog_81_method_6_code (3 : Nat) (Option.some Jvm.ClassFile.FieldType.int)).before args0 about1 = true := code_word (m := ⟨2, 3⟩) (meth := k2m3) (c := k2c3) (by decide +kernel) rfl rfl rfl (by decide +kernel)
set_option maxRecDepth 65536 in
theorem w_c7 : (Jvm.Cond.code ({ cls := "com/example/stacks_in_time/stacksintime/LongIntMap", name := "putIfAbsent", desc := "(JI)I" } : Jvm.MethodName) prog_81_method_4_code (6 : Nat) (Option.some Jvm.ClassFile.FieldType.int)).before args0 about1 = true := code_word (m := ⟨2, 2⟩) (meth := k2m2) (c := k2c2) (by decide +kernel) rfl rfl rfl (by decide +kernel)
def codes1 : List Jvm.Cond := [Jvm.Cond.code x code maxLocals ret, Jvm.Cond.code ({ cls := "com/example/stacks_in_time/stacksintime/LongIntMap", name := "<init>", desc := "()V" } : Jvm.MethodName) prog_81_method_1_code (1 : Nat) (Option.none : Option Jvm.ClassFile.FieldType), Jvm.Cond.code ({ cls := "java/lang/Object", name := "<init>", desc := "()V" } : Jvm.MethodName) object_method_1_code (1 : Nat) (Option.none : Option Jvm.ClassFile.FieldType), Jvm.Cond.code ({ cls := "java/util/Arrays", name := "fill", desc := "([II)V" } : Jvm.MethodName) jdk_65_method_103_code (4 : Nat) (Option.none : Option Jvm.ClassFile.FieldType), Jvm.Cond.code ({ cls := "com/example/stacks_in_time/stacksintime/LongIntMapGetPinLaw", name := "expectedValue", desc := "(JIJJJIII)I" } : Jvm.MethodName) method_3_code (12 : Nat) (Option.some Jvm.ClassFile.FieldType.int), Jvm.Cond.code ({ cls := "com/example/stacks_in_time/stacksintime/LongIntMap", name := "get", desc := "(J)I" } : Jvm.MethodName) prog_81_method_3_code (4 : Nat) (Option.some Jvm.ClassFile.FieldType.int), Jvm.Cond.code ({ cls := "com/example/stacks_in_time/stacksintime/LongIntMap", name := "slot", desc := "(JI)I" } : Jvm.MethodName) prog_81_method_6_code (3 : Nat) (Option.some Jvm.ClassFile.FieldType.int), Jvm.Cond.code ({ cls := "com/example/stacks_in_time/stacksintime/LongIntMap", name := "putIfAbsent", desc := "(JI)I" } : Jvm.MethodName) prog_81_method_4_code (6 : Nat) (Option.some Jvm.ClassFile.FieldType.int)]
set_option maxRecDepth 65536 in
theorem codes_eq : words1.filter isCode = codes1 := rfl
theorem w_codes : ∀ c ∈ words1.filter isCode, c.before args0 about1 = true := by
  rw [codes_eq]
  intro c hc
  simp only [codes1, List.mem_cons, List.not_mem_nil, or_false] at hc
  rcases hc with rfl | rfl | rfl | rfl | rfl | rfl | rfl | rfl
  · exact w_c0
  · exact w_c1
  · exact w_c2
  · exact w_c3
  · exact w_c4
  · exact w_c5
  · exact w_c6
  · exact w_c7
set_option maxRecDepth 65536 in
theorem w_t1 : (words1.take 24).all (fun c => isCode c || c.before args0 about1) = true := by decide +kernel
set_option maxRecDepth 65536 in
theorem w_t2 : (words1.drop 24).all (fun c => isCode c || c.before args0 about1) = true := by decide +kernel
theorem w_tables : (allAtoms (Jvm.Cond.code x code maxLocals ret :: tables_1)).before args0 about1 = true := by
  rw [allAtoms_all]
  show words1.all (fun c => c.before args0 about1) = true
  refine all_split ?_ w_codes
  rw [← List.take_append_drop 24 words1, List.all_append, w_t1, w_t2]
  rfl
set_option maxRecDepth 65536 in
theorem w_case : (Jvm.Cond.and given_1 narrow_1).before args0 about1 = true := by decide +kernel
theorem w_applies : (headSpec (Jvm.Cond.code x code maxLocals ret :: tables_1) room_1).applies x e0.platform about1 = true :=
  (Spec.applies_iff w_frames).mpr ⟨w_running, w_runnable, w_alone, w_named, w_hears, w_ripe, w_room, w_tables⟩
theorem atStart : AtStart classFile x code maxLocals ret World_1 tables_1 room_1 Calls_1 rest_1 Pre_1 launch0 p0 e0 about1 theMethod args0 below0 :=
  ⟨lists_1, trivial, launch0.admits_env _ _ _, launch0.least_env, fairChoices_fair.cas, fairChoices_fair.clock, w_frames, w_args, w_heap, w_applies, trivial, trivial, w_case⟩
end start1
theorem witness_1 : WitnessClaimed_1 := ⟨start1.p0, start1.e0, start1.about1, start1.theMethod, start1.args0, start1.below0, start1.atStart⟩
end Jvm.Pilot.@@N@@
