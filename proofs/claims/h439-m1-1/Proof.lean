import JvmDerived
import JvmDerived.Pilot.@@N@@Statement
import JvmDerived.Pilot.@@N@@Code
set_option linter.unusedVariables false
set_option linter.unusedSimpArgs false
namespace Jvm.Own
open Jvm Jvm.ClassFile Sem Op Lib Jvm.Free Jvm.Stand Jvm.LawKit Jvm.RoadKit
/-- the run from A ends, and G holds of its end -/
def Runs (p : Program) (e : Env) (below : List Frame) (A : State) (G : Outcome → State → Prop) : Prop :=
  ∃ s₂ o, Steps p.tables e below A s₂ ∧ s₂.status = .running ∧ Ended s₂ below o ∧ G o s₂
section A
variable {p : Program} {e : Env} {below : List Frame} {A B : State} {G : Outcome → State → Prop}
theorem Runs.of (k : Runs p e below B G) (h : ∀ t, Steps p.tables e below B t → Steps p.tables e below A t) : Runs p e below A G := by
  obtain ⟨t, o, hs, r⟩ := k
  exact ⟨t, o, h t hs, r⟩
theorem Runs.dia {P : Prop} [Decidable P] {B : Int32 → State} {vt vf : Int32} (ht : P → Runs p e below (B vt) G → Runs p e below A G) (hf : ¬ P → Runs p e below (B vf) G → Runs p e below A G) (k : Runs p e below (B (if P then vt else vf)) G) : Runs p e below A G := by
  by_cases hc : P
  · rw [if_pos hc] at k; exact ht hc k
  · rw [if_neg hc] at k; exact hf hc k
theorem Runs.via (k : Runs p e below B G) (h : Steps p.tables e below A B) : Runs p e below A G := k.of fun _ q => h.trans q
end A
/-- what stood at h0 is written at ws alone -/
def Wrote (h0 : Heap) (ws : List Addr) (L : List Loc) : Prop := ∀ y ∈ L, y.base ∈ ws ∨ h0.size ≤ y.base
theorem Wrote.nil {h0 : Heap} {ws : List Addr} : Wrote h0 ws [] := fun _ q => nomatch q
theorem Wrote.app {h0 h : Heap} {ws ws' : List Addr} {L L' : List Loc} (N : Wrote h0 ws L) (N' : Wrote h ws' L') (hs : h0.size ≤ h.size) (hw : ∀ x ∈ ws', x ∈ ws ∨ h0.size ≤ x) : Wrote h0 ws (L ++ L') := fun y q =>
  (List.mem_append.mp q).elim (N y) fun r => (N' y r).elim (hw _) fun z => Or.inr (Nat.le_trans hs z)
theorem Wrote.snoc {h0 : Heap} {ws : List Addr} {L : List Loc} {a : Addr} {i : Nat} (N : Wrote h0 ws L) (q : a ∈ ws ∨ h0.size ≤ a) : Wrote h0 ws (L ++ [⟨a, i⟩]) := fun y r =>
  (List.mem_append.mp r).elim (N y) fun z => by cases List.mem_singleton.mp z; exact q
/-- where a walk stands: the method's own facts, the heap as it is now, what was written since h0 -/
def Here (p : Program) (l : Launch) (e : Env) (R : Room) (s : State) (m : MethodId) (args : Array Value) (below : List Frame) (meth : Method) (c : Code)
    (y : MethodName) (bytes : ByteArray) (maxL : Nat) (ret : Option FieldType) (Z : State) (h0 : Heap) (ws : List Addr) (T : State) (cells slots : Nat) (h : Heap) : Prop :=
  (p.tables.exec = Jvm.exec ∧ Z.Warmed39 s.vm ∧ c.code = bytes ∧ c.maxLocals = maxL ∧ s.vm.findClass y.cls = some m.cls ∧ meth.name = y.name ∧ meth.sig.returnType = ret ∧ meth.locks = false) ∧
  T.heap = h ∧ Keep h0 h ws ∧ ∃ locs, Stand p l e R s m args below meth c T locs cells slots ∧ Wrote h0 ws locs
/-- how a walk must end: it returns, Q holds of the result and the heap, what stood at h0 is written at ws alone -/
def Out (s : State) (h0 : Heap) (ws : List Addr) (rm : Room) (Q : Option Value → Heap → Prop) (o : Outcome) (U : State) : Prop :=
  ∃ v L, o = .returned v ∧ (Q v U.heap ∧ Keep h0 U.heap ws ∧ Wrote h0 ws L) ∧ FrameEnd s o U L rm.cells rm.slots
/-- a method's contract at the heap h0 and these arguments -/
def Ct (l : Launch) (Z : State) (y : MethodName) (bytes : ByteArray) (maxL : Nat) (ret : Option FieldType) (rm : Room) (as : Array Value) (h0 : Heap) (ws : List Addr) (Q : Option Value → Heap → Prop) : Prop :=
  ∀ wz, MetFree l y (head1 (Jvm.Cond.code y bytes maxL ret :: wz) rm) (fun a U => a = as ∧ Z.Warmed39 U.vm ∧ U.heap = h0) (fun _ _ _ _ _ => True)
    (fun _ U o U' => ∃ v L, o = .returned v ∧ (Q v U'.heap ∧ Keep h0 U'.heap ws ∧ Wrote h0 ws L) ∧ FrameEnd U o U' L rm.cells rm.slots)
section B
variable {p : Program} {l : Launch} {e : Env} {R : Room} {s : State} {m : MethodId} {args : Array Value} {below : List Frame} {meth : Method} {c : Code} {y : MethodName} {bytes : ByteArray} {maxL : Nat} {ret : Option FieldType} {Z : State} {h0 : Heap} {ws : List Addr} {T : State} {cells slots : Nat} {h : Heap} {G : Outcome → State → Prop} {a0 : Array Value}
theorem Ct.of {rm : Room} {as : Array Value} {Q : Option Value → Heap → Prop} (hp : plainFor y = true)
    (body : ∀ p e s m below meth c T, Here p l e rm s m as below meth c y bytes maxL ret Z h0 ws T 0 0 h0 → Runs p e below (T.setTop (entryFrame m as maxL)) (Out s h0 ws rm Q)) :
    Ct l Z y bytes maxL ret rm as h0 ws Q := fun wz => by
  refine MetFree.of_bodySF hp hisR ?_
  intro p e s m args below meth c s₁ Bd hml0 hP hK
  obtain ⟨rfl, hZ, hh⟩ := hP
  have e0 : s₁.heap = h0 := by rw [← hh, Bd.state]; rfl
  exact body p e s m below meth c s₁ ⟨⟨Bd.exec, hZ, Bd.bytes, hml0, findClass_of_methodNamed Bd.named, (name_of_methodNamed Bd.named Bd.method).1, Bd.returns, BodyLoose.notSynchronized Bd⟩, e0, Keep.refl _ _, [], Stand.of_body Bd, Wrote.nil⟩
theorem Ct.mono {rm : Room} {as : Array Value} {Q Q' : Option Value → Heap → Prop} (h : Ct l Z y bytes maxL ret rm as h0 ws Q) (hq : ∀ v h, Q v h → Q' v h) : Ct l Z y bytes maxL ret rm as h0 ws Q' := fun wz => by
  intro p e ha hc hk s m args below hf happ hP hK
  obtain ⟨n, o, w1, w2, w3, v, L, q1, q2, q3⟩ := h wz p e ha hc hk s m args below hf happ hP hK
  exact ⟨n, o, w1, w2, w3, v, L, q1, ⟨hq _ _ q2.1, q2.2⟩, q3⟩
/-- from one frame to another that is the same -/
theorem Runs.top {g g' : JFrame} (q : g = g') (k : Runs p e below (T.setTop g') G) : Runs p e below (T.setTop g) G := q ▸ k
theorem Here.keep (X : Here p l e R s m args below meth c y bytes maxL ret Z h0 ws T cells slots h) : Keep h0 h ws := X.2.2.1
theorem Here.hZ (X : Here p l e R s m args below meth c y bytes maxL ret Z h0 ws T cells slots h) : Z.Warmed39 s.vm := X.1.2.1
theorem Here.size (X : Here p l e R s m args below meth c y bytes maxL ret Z h0 ws T cells slots h) : h0.size ≤ h.size := X.2.2.1.1
/-- a plain step -/
theorem Here.step (X : Here p l e R s m args below meth c y bytes maxL ret Z h0 ws T cells slots h) {g g' : JFrame}
    (st : ∀ locs, p.tables.exec = Jvm.exec → c.code = bytes → Z.Warmed39 s.vm → s.vm.findClass y.cls = some m.cls → T.heap = h → Stand p l e R s m args below meth c T locs cells slots → ∀ t, Steps p.tables e below (T.setTop g') t → Steps p.tables e below (T.setTop g) t)
    (k : Runs p e below (T.setTop g') G) : Runs p e below (T.setTop g) G := by
  obtain ⟨⟨x1, x2, x3, x4, x5, x6, x7, x8⟩, x9, x10, locs, S, N⟩ := X
  exact k.of (st locs x1 x3 x2 x5 x9 S)
/-- a step that leaves the heap as it is -/
theorem Here.stepT (X : Here p l e R s m args below meth c y bytes maxL ret Z h0 ws T cells slots h) {g g' : JFrame}
    (st : ∀ locs, p.tables.exec = Jvm.exec → c.code = bytes → c.maxLocals = maxL → Z.Warmed39 s.vm → s.vm.findClass y.cls = some m.cls → T.heap = h → Stand p l e R s m args below meth c T locs cells slots → ∃ T', Stand p l e R s m args below meth c T' locs cells slots ∧ T'.heap = h ∧ ∀ t, Steps p.tables e below (T'.setTop g') t → Steps p.tables e below (T.setTop g) t)
    (k : ∀ T', Here p l e R s m args below meth c y bytes maxL ret Z h0 ws T' cells slots h → Runs p e below (T'.setTop g') G) : Runs p e below (T.setTop g) G := by
  obtain ⟨⟨x1, x2, x3, x4, x5, x6, x7, x8⟩, x9, x10, locs, S, N⟩ := X
  obtain ⟨T', S', e', q⟩ := st locs x1 x3 x4 x2 x5 x9 S
  exact (k T' ⟨⟨x1, x2, x3, x4, x5, x6, x7, x8⟩, e', x10, locs, S', N⟩).of q
/-- a step that writes one slot -/
theorem Here.stepW (X : Here p l e R s m args below meth c y bytes maxL ret Z h0 ws T cells slots h) {g g' : JFrame} {a : Addr} {i : Nat} {v : Value} (hn : a ∈ ws ∨ h0.size ≤ a)
    (st : ∀ locs, p.tables.exec = Jvm.exec → c.code = bytes → meth.name = y.name → Z.Warmed39 s.vm → s.vm.findClass y.cls = some m.cls → T.heap = h → Stand p l e R s m args below meth c T locs cells slots → ∃ T' h', Stand p l e R s m args below meth c T' (locs ++ [⟨a, i⟩]) cells slots ∧ T'.heap = h' ∧ Wr h h' a i v ∧ ∀ t, Steps p.tables e below (T'.setTop g') t → Steps p.tables e below (T.setTop g) t)
    (k : ∀ T' h', Here p l e R s m args below meth c y bytes maxL ret Z h0 ws T' cells slots h' → Wr h h' a i v → Runs p e below (T'.setTop g') G) : Runs p e below (T.setTop g) G := by
  obtain ⟨⟨x1, x2, x3, x4, x5, x6, x7, x8⟩, x9, x10, locs, S, N⟩ := X
  obtain ⟨T', h', S', e', W, q⟩ := st locs x1 x3 x6 x2 x5 x9 S
  exact (k T' h' ⟨⟨x1, x2, x3, x4, x5, x6, x7, x8⟩, e', x10.wr W hn, _, S', N.snoc hn⟩ W).of q
theorem Here.iload (X : Here p l e R s m args below meth c y bytes maxL ret Z h0 ws T cells slots h) {pc pc' : Nat} {Ls : Array Slot} {St : List Value} {i : Nat} {v : Int32} (hd : decode bytes pc = .ok (.iload i, 2)) (hl : Ls[i]? = some (.val (.int v))) (hp : pc + 2 = pc') (k : Runs p e below (T.setTop (mkF m pc' Ls (.int v :: St))) G) : Runs p e below (T.setTop (mkF m pc Ls (St))) G := by
  subst hp
  exact X.step (fun _ hx hb' _ hown _ S t q => XS.iload S.here hx rfl (hb hb' hd) hl q) k
theorem Here.iloadN (X : Here p l e R s m args below meth c y bytes maxL ret Z h0 ws T cells slots h) {pc pc' : Nat} {Ls : Array Slot} {St : List Value} {i : Fin 4} {v : Int32} (hd : decode bytes pc = .ok (.iload_n i, 1)) (hl : Ls[i.val]? = some (.val (.int v))) (hp : pc + 1 = pc') (k : Runs p e below (T.setTop (mkF m pc' Ls (.int v :: St))) G) : Runs p e below (T.setTop (mkF m pc Ls (St))) G := by
  subst hp
  exact X.step (fun _ hx hb' _ hown _ S t q => XS.iloadN S.here hx rfl (hb hb' hd) hl q) k
theorem Here.lload (X : Here p l e R s m args below meth c y bytes maxL ret Z h0 ws T cells slots h) {pc pc' : Nat} {Ls : Array Slot} {St : List Value} {i : Nat} {v : Int64} (hd : decode bytes pc = .ok (.lload i, 2)) (hl : Ls[i]? = some (.val (.long v))) (hp : pc + 2 = pc') (k : Runs p e below (T.setTop (mkF m pc' Ls (.long v :: St))) G) : Runs p e below (T.setTop (mkF m pc Ls (St))) G := by
  subst hp
  exact X.step (fun _ hx hb' _ hown _ S t q => XS.lload S.here hx rfl (hb hb' hd) hl q) k
theorem Here.lloadN (X : Here p l e R s m args below meth c y bytes maxL ret Z h0 ws T cells slots h) {pc pc' : Nat} {Ls : Array Slot} {St : List Value} {i : Fin 4} {v : Int64} (hd : decode bytes pc = .ok (.lload_n i, 1)) (hl : Ls[i.val]? = some (.val (.long v))) (hp : pc + 1 = pc') (k : Runs p e below (T.setTop (mkF m pc' Ls (.long v :: St))) G) : Runs p e below (T.setTop (mkF m pc Ls (St))) G := by
  subst hp
  exact X.step (fun _ hx hb' _ hown _ S t q => XS.lloadN S.here hx rfl (hb hb' hd) hl q) k
theorem Here.aload (X : Here p l e R s m args below meth c y bytes maxL ret Z h0 ws T cells slots h) {pc pc' : Nat} {Ls : Array Slot} {St : List Value} {i : Nat} {v : Value} (hd : decode bytes pc = .ok (.aload i, 2)) (hl : Ls[i]? = some (.val v)) (hv : v.isRef = true) (hp : pc + 2 = pc') (k : Runs p e below (T.setTop (mkF m pc' Ls (v :: St))) G) : Runs p e below (T.setTop (mkF m pc Ls (St))) G := by
  subst hp
  exact X.step (fun _ hx hb' _ hown _ S t q => XS.aload S.here hx rfl (hb hb' hd) hl hv q) k
theorem Here.aloadN (X : Here p l e R s m args below meth c y bytes maxL ret Z h0 ws T cells slots h) {pc pc' : Nat} {Ls : Array Slot} {St : List Value} {i : Fin 4} {v : Value} (hd : decode bytes pc = .ok (.aload_n i, 1)) (hl : Ls[i.val]? = some (.val v)) (hv : v.isRef = true) (hp : pc + 1 = pc') (k : Runs p e below (T.setTop (mkF m pc' Ls (v :: St))) G) : Runs p e below (T.setTop (mkF m pc Ls (St))) G := by
  subst hp
  exact X.step (fun _ hx hb' _ hown _ S t q => XS.aloadN S.here hx rfl (hb hb' hd) hl hv q) k
theorem Here.istore (X : Here p l e R s m args below meth c y bytes maxL ret Z h0 ws T cells slots h) {pc pc' : Nat} {Ls : Array Slot} {St : List Value} {i : Nat} {v : Int32} {l' : Array Slot} (hd : decode bytes pc = .ok (.istore i, 2)) (hl : storeLocals Ls i (.int v) = some l') (hp : pc + 2 = pc') (k : Runs p e below (T.setTop (mkF m pc' l' (St))) G) : Runs p e below (T.setTop (mkF m pc Ls (.int v :: St))) G := by
  subst hp
  exact X.step (fun _ hx hb' _ hown _ S t q => XS.istore S.here hx rfl (hb hb' hd) rfl hl q) k
theorem Here.istoreN (X : Here p l e R s m args below meth c y bytes maxL ret Z h0 ws T cells slots h) {pc pc' : Nat} {Ls : Array Slot} {St : List Value} {i : Fin 4} {v : Int32} {l' : Array Slot} (hd : decode bytes pc = .ok (.istore_n i, 1)) (hl : storeLocals Ls i.val (.int v) = some l') (hp : pc + 1 = pc') (k : Runs p e below (T.setTop (mkF m pc' l' (St))) G) : Runs p e below (T.setTop (mkF m pc Ls (.int v :: St))) G := by
  subst hp
  exact X.step (fun _ hx hb' _ hown _ S t q => XS.istoreN S.here hx rfl (hb hb' hd) rfl hl q) k
theorem Here.lstore (X : Here p l e R s m args below meth c y bytes maxL ret Z h0 ws T cells slots h) {pc pc' : Nat} {Ls : Array Slot} {St : List Value} {i : Nat} {v : Int64} {l' : Array Slot} (hd : decode bytes pc = .ok (.lstore i, 2)) (hl : storeLocals Ls i (.long v) = some l') (hp : pc + 2 = pc') (k : Runs p e below (T.setTop (mkF m pc' l' (St))) G) : Runs p e below (T.setTop (mkF m pc Ls (.long v :: St))) G := by
  subst hp
  exact X.step (fun _ hx hb' _ hown _ S t q => XS.lstore S.here hx rfl (hb hb' hd) rfl hl q) k
theorem Here.lstoreN (X : Here p l e R s m args below meth c y bytes maxL ret Z h0 ws T cells slots h) {pc pc' : Nat} {Ls : Array Slot} {St : List Value} {i : Fin 4} {v : Int64} {l' : Array Slot} (hd : decode bytes pc = .ok (.lstore_n i, 1)) (hl : storeLocals Ls i.val (.long v) = some l') (hp : pc + 1 = pc') (k : Runs p e below (T.setTop (mkF m pc' l' (St))) G) : Runs p e below (T.setTop (mkF m pc Ls (.long v :: St))) G := by
  subst hp
  exact X.step (fun _ hx hb' _ hown _ S t q => XS.lstoreN S.here hx rfl (hb hb' hd) rfl hl q) k
theorem Here.astore (X : Here p l e R s m args below meth c y bytes maxL ret Z h0 ws T cells slots h) {pc pc' : Nat} {Ls : Array Slot} {St : List Value} {i : Nat} {v : Value} {l' : Array Slot} (hd : decode bytes pc = .ok (.astore i, 2)) (hv : v.isRef = true) (hl : storeLocals Ls i v = some l') (hp : pc + 2 = pc') (k : Runs p e below (T.setTop (mkF m pc' l' (St))) G) : Runs p e below (T.setTop (mkF m pc Ls (v :: St))) G := by
  subst hp
  exact X.step (fun _ hx hb' _ hown _ S t q => XS.astore S.here hx rfl (hb hb' hd) rfl hv hl q) k
theorem Here.astoreN (X : Here p l e R s m args below meth c y bytes maxL ret Z h0 ws T cells slots h) {pc pc' : Nat} {Ls : Array Slot} {St : List Value} {i : Fin 4} {v : Value} {l' : Array Slot} (hd : decode bytes pc = .ok (.astore_n i, 1)) (hv : v.isRef = true) (hl : storeLocals Ls i.val v = some l') (hp : pc + 1 = pc') (k : Runs p e below (T.setTop (mkF m pc' l' (St))) G) : Runs p e below (T.setTop (mkF m pc Ls (v :: St))) G := by
  subst hp
  exact X.step (fun _ hx hb' _ hown _ S t q => XS.astoreN S.here hx rfl (hb hb' hd) rfl hv hl q) k
theorem Here.iconst (X : Here p l e R s m args below meth c y bytes maxL ret Z h0 ws T cells slots h) {pc pc' : Nat} {Ls : Array Slot} {St : List Value} {i : Int} {z : Int32} (hd : decode bytes pc = .ok (.iconst i, 1)) (hz : Int32.ofInt i = z) (hp : pc + 1 = pc') (k : Runs p e below (T.setTop (mkF m pc' Ls (.int z :: St))) G) : Runs p e below (T.setTop (mkF m pc Ls (St))) G := by
  subst hp
  exact X.step (fun _ hx hb' _ hown _ S t q => XS.iconst S.here hx rfl (hb hb' hd) (hz ▸ q)) k
theorem Here.bipush (X : Here p l e R s m args below meth c y bytes maxL ret Z h0 ws T cells slots h) {pc pc' : Nat} {Ls : Array Slot} {St : List Value} {i : Int} {z : Int32} (hd : decode bytes pc = .ok (.bipush i, 2)) (hz : (Int8.ofInt i).toInt32 = z) (hp : pc + 2 = pc') (k : Runs p e below (T.setTop (mkF m pc' Ls (.int z :: St))) G) : Runs p e below (T.setTop (mkF m pc Ls (St))) G := by
  subst hp
  exact X.step (fun _ hx hb' _ hown _ S t q => XS.bipush S.here hx rfl (hb hb' hd) (hz ▸ q)) k
theorem Here.sipush (X : Here p l e R s m args below meth c y bytes maxL ret Z h0 ws T cells slots h) {pc pc' : Nat} {Ls : Array Slot} {St : List Value} {i : Int} {z : Int32} (hd : decode bytes pc = .ok (.sipush i, 3)) (hz : (Int16.ofInt i).toInt32 = z) (hp : pc + 3 = pc') (k : Runs p e below (T.setTop (mkF m pc' Ls (.int z :: St))) G) : Runs p e below (T.setTop (mkF m pc Ls (St))) G := by
  subst hp
  exact X.step (fun _ hx hb' _ hown _ S t q => XS.sipush S.here hx rfl (hb hb' hd) (hz ▸ q)) k
theorem Here.lconst0 (X : Here p l e R s m args below meth c y bytes maxL ret Z h0 ws T cells slots h) {pc pc' : Nat} {Ls : Array Slot} {St : List Value}  (hd : decode bytes pc = .ok (.lconst 0, 1))  (hp : pc + 1 = pc') (k : Runs p e below (T.setTop (mkF m pc' Ls (.long 0 :: St))) G) : Runs p e below (T.setTop (mkF m pc Ls (St))) G := by
  subst hp
  exact X.step (fun _ hx hb' _ hown _ S t q => XS.lconst S.here hx rfl (hb hb' hd) q) k
theorem Here.lconst1 (X : Here p l e R s m args below meth c y bytes maxL ret Z h0 ws T cells slots h) {pc pc' : Nat} {Ls : Array Slot} {St : List Value}  (hd : decode bytes pc = .ok (.lconst 1, 1))  (hp : pc + 1 = pc') (k : Runs p e below (T.setTop (mkF m pc' Ls (.long 1 :: St))) G) : Runs p e below (T.setTop (mkF m pc Ls (St))) G := by
  subst hp
  exact X.step (fun _ hx hb' _ hown _ S t q => XS.lconst S.here hx rfl (hb hb' hd) q) k
theorem Here.aconstNull (X : Here p l e R s m args below meth c y bytes maxL ret Z h0 ws T cells slots h) {pc pc' : Nat} {Ls : Array Slot} {St : List Value}  (hd : decode bytes pc = .ok (.aconst_null, 1))  (hp : pc + 1 = pc') (k : Runs p e below (T.setTop (mkF m pc' Ls (.null :: St))) G) : Runs p e below (T.setTop (mkF m pc Ls (St))) G := by
  subst hp
  exact X.step (fun _ hx hb' _ hown _ S t q => XS.aconstNull S.here hx rfl (hb hb' hd) q) k
theorem Here.iadd (X : Here p l e R s m args below meth c y bytes maxL ret Z h0 ws T cells slots h) {pc pc' : Nat} {Ls : Array Slot} {St : List Value} {a b : Int32} (hd : decode bytes pc = .ok (.iadd, 1))  (hp : pc + 1 = pc') (k : Runs p e below (T.setTop (mkF m pc' Ls (.int (a + b) :: St))) G) : Runs p e below (T.setTop (mkF m pc Ls (.int b :: .int a :: St))) G := by
  subst hp
  exact X.step (fun _ hx hb' _ hown _ S t q => XS.iadd S.here hx rfl (hb hb' hd) rfl q) k
theorem Here.isub (X : Here p l e R s m args below meth c y bytes maxL ret Z h0 ws T cells slots h) {pc pc' : Nat} {Ls : Array Slot} {St : List Value} {a b : Int32} (hd : decode bytes pc = .ok (.isub, 1))  (hp : pc + 1 = pc') (k : Runs p e below (T.setTop (mkF m pc' Ls (.int (a - b) :: St))) G) : Runs p e below (T.setTop (mkF m pc Ls (.int b :: .int a :: St))) G := by
  subst hp
  exact X.step (fun _ hx hb' _ hown _ S t q => XS.isub S.here hx rfl (hb hb' hd) rfl q) k
theorem Here.imul (X : Here p l e R s m args below meth c y bytes maxL ret Z h0 ws T cells slots h) {pc pc' : Nat} {Ls : Array Slot} {St : List Value} {a b : Int32} (hd : decode bytes pc = .ok (.imul, 1))  (hp : pc + 1 = pc') (k : Runs p e below (T.setTop (mkF m pc' Ls (.int (a * b) :: St))) G) : Runs p e below (T.setTop (mkF m pc Ls (.int b :: .int a :: St))) G := by
  subst hp
  exact X.step (fun _ hx hb' _ hown _ S t q => XS.imul S.here hx rfl (hb hb' hd) rfl q) k
theorem Here.iand (X : Here p l e R s m args below meth c y bytes maxL ret Z h0 ws T cells slots h) {pc pc' : Nat} {Ls : Array Slot} {St : List Value} {a b : Int32} (hd : decode bytes pc = .ok (.iand, 1))  (hp : pc + 1 = pc') (k : Runs p e below (T.setTop (mkF m pc' Ls (.int (a &&& b) :: St))) G) : Runs p e below (T.setTop (mkF m pc Ls (.int b :: .int a :: St))) G := by
  subst hp
  exact X.step (fun _ hx hb' _ hown _ S t q => XS.iand S.here hx rfl (hb hb' hd) rfl q) k
theorem Here.ior (X : Here p l e R s m args below meth c y bytes maxL ret Z h0 ws T cells slots h) {pc pc' : Nat} {Ls : Array Slot} {St : List Value} {a b : Int32} (hd : decode bytes pc = .ok (.ior, 1))  (hp : pc + 1 = pc') (k : Runs p e below (T.setTop (mkF m pc' Ls (.int (a ||| b) :: St))) G) : Runs p e below (T.setTop (mkF m pc Ls (.int b :: .int a :: St))) G := by
  subst hp
  exact X.step (fun _ hx hb' _ hown _ S t q => XS.ior S.here hx rfl (hb hb' hd) rfl q) k
theorem Here.ixor (X : Here p l e R s m args below meth c y bytes maxL ret Z h0 ws T cells slots h) {pc pc' : Nat} {Ls : Array Slot} {St : List Value} {a b : Int32} (hd : decode bytes pc = .ok (.ixor, 1))  (hp : pc + 1 = pc') (k : Runs p e below (T.setTop (mkF m pc' Ls (.int (a ^^^ b) :: St))) G) : Runs p e below (T.setTop (mkF m pc Ls (.int b :: .int a :: St))) G := by
  subst hp
  exact X.step (fun _ hx hb' _ hown _ S t q => XS.ixor S.here hx rfl (hb hb' hd) rfl q) k
theorem Here.ladd (X : Here p l e R s m args below meth c y bytes maxL ret Z h0 ws T cells slots h) {pc pc' : Nat} {Ls : Array Slot} {St : List Value} {a b : Int64} (hd : decode bytes pc = .ok (.ladd, 1))  (hp : pc + 1 = pc') (k : Runs p e below (T.setTop (mkF m pc' Ls (.long (a + b) :: St))) G) : Runs p e below (T.setTop (mkF m pc Ls (.long b :: .long a :: St))) G := by
  subst hp
  exact X.step (fun _ hx hb' _ hown _ S t q => XS.ladd S.here hx rfl (hb hb' hd) rfl q) k
theorem Here.lsub (X : Here p l e R s m args below meth c y bytes maxL ret Z h0 ws T cells slots h) {pc pc' : Nat} {Ls : Array Slot} {St : List Value} {a b : Int64} (hd : decode bytes pc = .ok (.lsub, 1))  (hp : pc + 1 = pc') (k : Runs p e below (T.setTop (mkF m pc' Ls (.long (a - b) :: St))) G) : Runs p e below (T.setTop (mkF m pc Ls (.long b :: .long a :: St))) G := by
  subst hp
  exact X.step (fun _ hx hb' _ hown _ S t q => XS.lsub S.here hx rfl (hb hb' hd) rfl q) k
theorem Here.lmul (X : Here p l e R s m args below meth c y bytes maxL ret Z h0 ws T cells slots h) {pc pc' : Nat} {Ls : Array Slot} {St : List Value} {a b : Int64} (hd : decode bytes pc = .ok (.lmul, 1))  (hp : pc + 1 = pc') (k : Runs p e below (T.setTop (mkF m pc' Ls (.long (a * b) :: St))) G) : Runs p e below (T.setTop (mkF m pc Ls (.long b :: .long a :: St))) G := by
  subst hp
  exact X.step (fun _ hx hb' _ hown _ S t q => XS.lmul S.here hx rfl (hb hb' hd) rfl q) k
theorem Here.land (X : Here p l e R s m args below meth c y bytes maxL ret Z h0 ws T cells slots h) {pc pc' : Nat} {Ls : Array Slot} {St : List Value} {a b : Int64} (hd : decode bytes pc = .ok (.land, 1))  (hp : pc + 1 = pc') (k : Runs p e below (T.setTop (mkF m pc' Ls (.long (a &&& b) :: St))) G) : Runs p e below (T.setTop (mkF m pc Ls (.long b :: .long a :: St))) G := by
  subst hp
  exact X.step (fun _ hx hb' _ hown _ S t q => XS.land S.here hx rfl (hb hb' hd) rfl q) k
theorem Here.lor (X : Here p l e R s m args below meth c y bytes maxL ret Z h0 ws T cells slots h) {pc pc' : Nat} {Ls : Array Slot} {St : List Value} {a b : Int64} (hd : decode bytes pc = .ok (.lor, 1))  (hp : pc + 1 = pc') (k : Runs p e below (T.setTop (mkF m pc' Ls (.long (a ||| b) :: St))) G) : Runs p e below (T.setTop (mkF m pc Ls (.long b :: .long a :: St))) G := by
  subst hp
  exact X.step (fun _ hx hb' _ hown _ S t q => XS.lor S.here hx rfl (hb hb' hd) rfl q) k
theorem Here.lxor (X : Here p l e R s m args below meth c y bytes maxL ret Z h0 ws T cells slots h) {pc pc' : Nat} {Ls : Array Slot} {St : List Value} {a b : Int64} (hd : decode bytes pc = .ok (.lxor, 1))  (hp : pc + 1 = pc') (k : Runs p e below (T.setTop (mkF m pc' Ls (.long (a ^^^ b) :: St))) G) : Runs p e below (T.setTop (mkF m pc Ls (.long b :: .long a :: St))) G := by
  subst hp
  exact X.step (fun _ hx hb' _ hown _ S t q => XS.lxor S.here hx rfl (hb hb' hd) rfl q) k
theorem Here.ishl (X : Here p l e R s m args below meth c y bytes maxL ret Z h0 ws T cells slots h) {pc pc' : Nat} {Ls : Array Slot} {St : List Value} {a b : Int32} (hd : decode bytes pc = .ok (.ishl, 1))  (hp : pc + 1 = pc') (k : Runs p e below (T.setTop (mkF m pc' Ls (.int (a <<< (b &&& 31)) :: St))) G) : Runs p e below (T.setTop (mkF m pc Ls (.int b :: .int a :: St))) G := by
  subst hp
  exact X.step (fun _ hx hb' _ hown _ S t q => XS.ishl S.here hx rfl (hb hb' hd) rfl q) k
theorem Here.ishr (X : Here p l e R s m args below meth c y bytes maxL ret Z h0 ws T cells slots h) {pc pc' : Nat} {Ls : Array Slot} {St : List Value} {a b : Int32} (hd : decode bytes pc = .ok (.ishr, 1))  (hp : pc + 1 = pc') (k : Runs p e below (T.setTop (mkF m pc' Ls (.int (a >>> (b &&& 31)) :: St))) G) : Runs p e below (T.setTop (mkF m pc Ls (.int b :: .int a :: St))) G := by
  subst hp
  exact X.step (fun _ hx hb' _ hown _ S t q => XS.ishr S.here hx rfl (hb hb' hd) rfl q) k
theorem Here.iushr (X : Here p l e R s m args below meth c y bytes maxL ret Z h0 ws T cells slots h) {pc pc' : Nat} {Ls : Array Slot} {St : List Value} {a b : Int32} (hd : decode bytes pc = .ok (.iushr, 1))  (hp : pc + 1 = pc') (k : Runs p e below (T.setTop (mkF m pc' Ls (.int ((a.toUInt32 >>> (b &&& 31).toUInt32).toInt32) :: St))) G) : Runs p e below (T.setTop (mkF m pc Ls (.int b :: .int a :: St))) G := by
  subst hp
  exact X.step (fun _ hx hb' _ hown _ S t q => XS.iushr S.here hx rfl (hb hb' hd) rfl q) k
theorem Here.lshl (X : Here p l e R s m args below meth c y bytes maxL ret Z h0 ws T cells slots h) {pc pc' : Nat} {Ls : Array Slot} {St : List Value} {a : Int64} {b : Int32} (hd : decode bytes pc = .ok (.lshl, 1))  (hp : pc + 1 = pc') (k : Runs p e below (T.setTop (mkF m pc' Ls (.long (a <<< (b &&& 0x3f).toInt64) :: St))) G) : Runs p e below (T.setTop (mkF m pc Ls (.int b :: .long a :: St))) G := by
  subst hp
  exact X.step (fun _ hx hb' _ hown _ S t q => XS.lshl S.here hx rfl (hb hb' hd) rfl q) k
theorem Here.lshr (X : Here p l e R s m args below meth c y bytes maxL ret Z h0 ws T cells slots h) {pc pc' : Nat} {Ls : Array Slot} {St : List Value} {a : Int64} {b : Int32} (hd : decode bytes pc = .ok (.lshr, 1))  (hp : pc + 1 = pc') (k : Runs p e below (T.setTop (mkF m pc' Ls (.long (a >>> (b &&& 0x3f).toInt64) :: St))) G) : Runs p e below (T.setTop (mkF m pc Ls (.int b :: .long a :: St))) G := by
  subst hp
  exact X.step (fun _ hx hb' _ hown _ S t q => XS.lshr S.here hx rfl (hb hb' hd) rfl q) k
theorem Here.lushr (X : Here p l e R s m args below meth c y bytes maxL ret Z h0 ws T cells slots h) {pc pc' : Nat} {Ls : Array Slot} {St : List Value} {a : Int64} {b : Int32} (hd : decode bytes pc = .ok (.lushr, 1))  (hp : pc + 1 = pc') (k : Runs p e below (T.setTop (mkF m pc' Ls (.long ((a.toUInt64 >>> (b &&& 0x3f).toInt64.toUInt64).toInt64) :: St))) G) : Runs p e below (T.setTop (mkF m pc Ls (.int b :: .long a :: St))) G := by
  subst hp
  exact X.step (fun _ hx hb' _ hown _ S t q => XS.lushr S.here hx rfl (hb hb' hd) rfl q) k
theorem Here.ineg (X : Here p l e R s m args below meth c y bytes maxL ret Z h0 ws T cells slots h) {pc pc' : Nat} {Ls : Array Slot} {St : List Value} {a : Int32} (hd : decode bytes pc = .ok (.ineg, 1))  (hp : pc + 1 = pc') (k : Runs p e below (T.setTop (mkF m pc' Ls (.int (-a) :: St))) G) : Runs p e below (T.setTop (mkF m pc Ls (.int a :: St))) G := by
  subst hp
  exact X.step (fun _ hx hb' _ hown _ S t q => XS.ineg S.here hx rfl (hb hb' hd) rfl q) k
theorem Here.lneg (X : Here p l e R s m args below meth c y bytes maxL ret Z h0 ws T cells slots h) {pc pc' : Nat} {Ls : Array Slot} {St : List Value} {a : Int64} (hd : decode bytes pc = .ok (.lneg, 1))  (hp : pc + 1 = pc') (k : Runs p e below (T.setTop (mkF m pc' Ls (.long (-a) :: St))) G) : Runs p e below (T.setTop (mkF m pc Ls (.long a :: St))) G := by
  subst hp
  exact X.step (fun _ hx hb' _ hown _ S t q => XS.lneg S.here hx rfl (hb hb' hd) rfl q) k
theorem Here.lcmp (X : Here p l e R s m args below meth c y bytes maxL ret Z h0 ws T cells slots h) {pc pc' : Nat} {Ls : Array Slot} {St : List Value} {a b : Int64} (hd : decode bytes pc = .ok (.lcmp, 1))  (hp : pc + 1 = pc') (k : Runs p e below (T.setTop (mkF m pc' Ls (.int (lcmpW a b) :: St))) G) : Runs p e below (T.setTop (mkF m pc Ls (.long b :: .long a :: St))) G := by
  subst hp
  exact X.step (fun _ hx hb' _ hown _ S t q => XS.lcmp S.here hx rfl (hb hb' hd) rfl q) k
theorem Here.i2l (X : Here p l e R s m args below meth c y bytes maxL ret Z h0 ws T cells slots h) {pc pc' : Nat} {Ls : Array Slot} {St : List Value} {a : Int32} (hd : decode bytes pc = .ok (.i2l, 1))  (hp : pc + 1 = pc') (k : Runs p e below (T.setTop (mkF m pc' Ls (.long a.toInt64 :: St))) G) : Runs p e below (T.setTop (mkF m pc Ls (.int a :: St))) G := by
  subst hp
  exact X.step (fun _ hx hb' _ hown _ S t q => XS.i2l S.here hx rfl (hb hb' hd) rfl q) k
theorem Here.l2i (X : Here p l e R s m args below meth c y bytes maxL ret Z h0 ws T cells slots h) {pc pc' : Nat} {Ls : Array Slot} {St : List Value} {a : Int64} (hd : decode bytes pc = .ok (.l2i, 1))  (hp : pc + 1 = pc') (k : Runs p e below (T.setTop (mkF m pc' Ls (.int a.toInt32 :: St))) G) : Runs p e below (T.setTop (mkF m pc Ls (.long a :: St))) G := by
  subst hp
  exact X.step (fun _ hx hb' _ hown _ S t q => XS.l2i S.here hx rfl (hb hb' hd) rfl q) k
theorem Here.i2b (X : Here p l e R s m args below meth c y bytes maxL ret Z h0 ws T cells slots h) {pc pc' : Nat} {Ls : Array Slot} {St : List Value} {a : Int32} (hd : decode bytes pc = .ok (.i2b, 1))  (hp : pc + 1 = pc') (k : Runs p e below (T.setTop (mkF m pc' Ls (.int a.toInt8.toInt32 :: St))) G) : Runs p e below (T.setTop (mkF m pc Ls (.int a :: St))) G := by
  subst hp
  exact X.step (fun _ hx hb' _ hown _ S t q => XS.i2b S.here hx rfl (hb hb' hd) rfl q) k
theorem Here.i2s (X : Here p l e R s m args below meth c y bytes maxL ret Z h0 ws T cells slots h) {pc pc' : Nat} {Ls : Array Slot} {St : List Value} {a : Int32} (hd : decode bytes pc = .ok (.i2s, 1))  (hp : pc + 1 = pc') (k : Runs p e below (T.setTop (mkF m pc' Ls (.int a.toInt16.toInt32 :: St))) G) : Runs p e below (T.setTop (mkF m pc Ls (.int a :: St))) G := by
  subst hp
  exact X.step (fun _ hx hb' _ hown _ S t q => XS.i2s S.here hx rfl (hb hb' hd) rfl q) k
theorem Here.i2c (X : Here p l e R s m args below meth c y bytes maxL ret Z h0 ws T cells slots h) {pc pc' : Nat} {Ls : Array Slot} {St : List Value} {a : Int32} (hd : decode bytes pc = .ok (.i2c, 1))  (hp : pc + 1 = pc') (k : Runs p e below (T.setTop (mkF m pc' Ls (.int a.toUInt32.toUInt16.toUInt32.toInt32 :: St))) G) : Runs p e below (T.setTop (mkF m pc Ls (.int a :: St))) G := by
  subst hp
  exact X.step (fun _ hx hb' _ hown _ S t q => XS.i2c S.here hx rfl (hb hb' hd) rfl q) k
theorem Here.irem (X : Here p l e R s m args below meth c y bytes maxL ret Z h0 ws T cells slots h) {pc pc' : Nat} {Ls : Array Slot} {St : List Value} {a b : Int32} (hd : decode bytes pc = .ok (.irem, 1)) (hy : b ≠ 0) (hp : pc + 1 = pc') (k : Runs p e below (T.setTop (mkF m pc' Ls (.int (a % b) :: St))) G) : Runs p e below (T.setTop (mkF m pc Ls (.int b :: .int a :: St))) G := by
  subst hp
  exact X.step (fun _ hx hb' _ hown _ S t q => iremM S hx rfl (hb hb' hd) rfl hy q) k
theorem Here.idiv (X : Here p l e R s m args below meth c y bytes maxL ret Z h0 ws T cells slots h) {pc pc' : Nat} {Ls : Array Slot} {St : List Value} {a b : Int32} (hd : decode bytes pc = .ok (.idiv, 1)) (hy : b ≠ 0) (hp : pc + 1 = pc') (k : Runs p e below (T.setTop (mkF m pc' Ls (.int (a / b) :: St))) G) : Runs p e below (T.setTop (mkF m pc Ls (.int b :: .int a :: St))) G := by
  subst hp
  exact X.step (fun _ hx hb' _ hown _ S t q => XS.idiv S.here hx rfl (hb hb' hd) rfl hy q) k
theorem Here.iinc (X : Here p l e R s m args below meth c y bytes maxL ret Z h0 ws T cells slots h) {pc pc' : Nat} {Ls : Array Slot} {St : List Value} {i : Nat} {cst : Int} {v z : Int32} {l' : Array Slot} (hd : decode bytes pc = .ok (.iinc i cst, 3)) (hl : Ls[i]? = some (.val (.int v))) (hz : Int32.ofInt cst = z) (hl' : storeLocals Ls i (.int (v + z)) = some l') (hp : pc + 3 = pc') (k : Runs p e below (T.setTop (mkF m pc' l' (St))) G) : Runs p e below (T.setTop (mkF m pc Ls (St))) G := by
  subst hp
  exact X.step (fun _ hx hb' _ hown _ S t q => XS.iinc S.here hx rfl (hb hb' hd) hl (hz ▸ hl') q) k
theorem Here.dup (X : Here p l e R s m args below meth c y bytes maxL ret Z h0 ws T cells slots h) {pc pc' : Nat} {Ls : Array Slot} {St : List Value} {v : Value} (hd : decode bytes pc = .ok (.dup, 1)) (hv : v.category = 1) (hp : pc + 1 = pc') (k : Runs p e below (T.setTop (mkF m pc' Ls (v :: v :: St))) G) : Runs p e below (T.setTop (mkF m pc Ls (v :: St))) G := by
  subst hp
  exact X.step (fun _ hx hb' _ hown _ S t q => XS.dup S.here hx rfl (hb hb' hd) rfl hv q) k
theorem Here.dupX1 (X : Here p l e R s m args below meth c y bytes maxL ret Z h0 ws T cells slots h) {pc pc' : Nat} {Ls : Array Slot} {St : List Value} {v w : Value} (hd : decode bytes pc = .ok (.dup_x1, 1)) (hv : v.category = 1) (hw : w.category = 1) (hp : pc + 1 = pc') (k : Runs p e below (T.setTop (mkF m pc' Ls (v :: w :: v :: St))) G) : Runs p e below (T.setTop (mkF m pc Ls (v :: w :: St))) G := by
  subst hp
  exact X.step (fun _ hx hb' _ hown _ S t q => XS.dupX1 S.here hx rfl (hb hb' hd) rfl hv hw q) k
theorem Here.dup2 (X : Here p l e R s m args below meth c y bytes maxL ret Z h0 ws T cells slots h) {pc pc' : Nat} {Ls : Array Slot} {St : List Value} {v w : Value} (hd : decode bytes pc = .ok (.dup2, 1)) (hv : v.category = 1) (hw : w.category = 1) (hp : pc + 1 = pc') (k : Runs p e below (T.setTop (mkF m pc' Ls (v :: w :: v :: w :: St))) G) : Runs p e below (T.setTop (mkF m pc Ls (v :: w :: St))) G := by
  subst hp
  exact X.step (fun _ hx hb' _ hown _ S t q => Jvm.Free.XT.dup2 S.here hx rfl (hb hb' hd) rfl hv hw q) k
theorem Here.dup2L (X : Here p l e R s m args below meth c y bytes maxL ret Z h0 ws T cells slots h) {pc pc' : Nat} {Ls : Array Slot} {St : List Value} {v : Int64} (hd : decode bytes pc = .ok (.dup2, 1))  (hp : pc + 1 = pc') (k : Runs p e below (T.setTop (mkF m pc' Ls (.long v :: .long v :: St))) G) : Runs p e below (T.setTop (mkF m pc Ls (.long v :: St))) G := by
  subst hp
  exact X.step (fun _ hx hb' _ hown _ S t q => Jvm.Free.XT.dup2L S.here hx rfl (hb hb' hd) rfl q) k
theorem Here.pop (X : Here p l e R s m args below meth c y bytes maxL ret Z h0 ws T cells slots h) {pc pc' : Nat} {Ls : Array Slot} {St : List Value} {v : Value} (hd : decode bytes pc = .ok (.pop, 1)) (hv : v.category = 1) (hp : pc + 1 = pc') (k : Runs p e below (T.setTop (mkF m pc' Ls (St))) G) : Runs p e below (T.setTop (mkF m pc Ls (v :: St))) G := by
  subst hp
  exact X.step (fun _ hx hb' _ hown _ S t q => XS.pop S.here hx rfl (hb hb' hd) rfl hv q) k
theorem Here.ldcInt (X : Here p l e R s m args below meth c y bytes maxL ret Z h0 ws T cells slots h) {pc pc' : Nat} {Ls : Array Slot} {St : List Value} {i : Nat} {v : Int32} (w : (Jvm.Cond.constant y.cls i v).before a0 Z = true) (hd : decode bytes pc = .ok (.ldc i, 2)) (hp : pc + 2 = pc') (k : Runs p e below (T.setTop (mkF m pc' Ls (.int v :: St))) G) : Runs p e below (T.setTop (mkF m pc Ls St)) G := by
  subst hp
  exact X.step (fun _ hx hb' hZ hown _ S t q => S.ldcInt hx hown (mvT hZ w) (g := mkF m pc Ls St) rfl (hb hb' hd) t q) k
theorem Here.ldcwInt (X : Here p l e R s m args below meth c y bytes maxL ret Z h0 ws T cells slots h) {pc pc' : Nat} {Ls : Array Slot} {St : List Value} {i : Nat} {v : Int32} (w : (Jvm.Cond.constant y.cls i v).before a0 Z = true) (hd : decode bytes pc = .ok (.ldc_w i, 3)) (hp : pc + 3 = pc') (k : Runs p e below (T.setTop (mkF m pc' Ls (.int v :: St))) G) : Runs p e below (T.setTop (mkF m pc Ls St)) G := by
  subst hp
  exact X.step (fun _ hx hb' hZ hown _ S t q => S.ldcwInt hx hown (mvT hZ w) (g := mkF m pc Ls St) rfl (hb hb' hd) t q) k
theorem Here.ldc2 (X : Here p l e R s m args below meth c y bytes maxL ret Z h0 ws T cells slots h) {pc pc' : Nat} {Ls : Array Slot} {St : List Value} {i : Nat} {v : Int64} (w : (Jvm.Cond.constantLong y.cls i v).before a0 Z = true) (hd : decode bytes pc = .ok (.ldc2_w i, 3)) (hp : pc + 3 = pc') (k : Runs p e below (T.setTop (mkF m pc' Ls (.long v :: St))) G) : Runs p e below (T.setTop (mkF m pc Ls St)) G := by
  subst hp
  exact X.step (fun _ hx hb' hZ hown _ S t q => S.ldc2Long hx hown (mvT hZ w) (g := mkF m pc Ls St) rfl (hb hb' hd) t q) k
theorem Here.goto (X : Here p l e R s m args below meth c y bytes maxL ret Z h0 ws T cells slots h) {pc pc' : Nat} {Ls : Array Slot} {St : List Value} {o : Int}  (hd : decode bytes pc = .ok (.goto o, 3))  (ho : 0 ≤ (pc : Int) + o) (hp : ((pc : Int) + o).toNat = pc') (k : Runs p e below (T.setTop (mkF m pc' Ls St)) G) : Runs p e below (T.setTop (mkF m pc Ls (St))) G := by
  exact X.step (fun _ hx hb' _ hown _ S t q => XS.goto S.here hx rfl rfl (hb hb' hd) ho hp q) k
theorem Here.ifYes (X : Here p l e R s m args below meth c y bytes maxL ret Z h0 ws T cells slots h) {pc pc' : Nat} {Ls : Array Slot} {St : List Value} {o : Int} {cd : ClassFile.Cond} {a : Int32} (hd : decode bytes pc = .ok (.ifCond cd o, 3)) (hc : if_icmp.holds cd a 0 = true) (ho : 0 ≤ (pc : Int) + o) (hp : ((pc : Int) + o).toNat = pc') (k : Runs p e below (T.setTop (mkF m pc' Ls St)) G) : Runs p e below (T.setTop (mkF m pc Ls (.int a :: St))) G := by
  exact X.step (fun _ hx hb' _ hown _ S t q => XS.ifYes S.here hx rfl rfl (hb hb' hd) rfl ((if0 _ _).trans hc) ho hp q) k
theorem Here.icmpYes (X : Here p l e R s m args below meth c y bytes maxL ret Z h0 ws T cells slots h) {pc pc' : Nat} {Ls : Array Slot} {St : List Value} {o : Int} {cd : ClassFile.Cond} {a b : Int32} (hd : decode bytes pc = .ok (.if_icmp cd o, 3)) (hc : if_icmp.holds cd a b = true) (ho : 0 ≤ (pc : Int) + o) (hp : ((pc : Int) + o).toNat = pc') (k : Runs p e below (T.setTop (mkF m pc' Ls St)) G) : Runs p e below (T.setTop (mkF m pc Ls (.int b :: .int a :: St))) G := by
  exact X.step (fun _ hx hb' _ hown _ S t q => XS.icmpYes S.here hx rfl rfl (hb hb' hd) rfl hc ho hp q) k
theorem Here.ifnullYes (X : Here p l e R s m args below meth c y bytes maxL ret Z h0 ws T cells slots h) {pc pc' : Nat} {Ls : Array Slot} {St : List Value} {o : Int}  (hd : decode bytes pc = .ok (.ifnull o, 3))  (ho : 0 ≤ (pc : Int) + o) (hp : ((pc : Int) + o).toNat = pc') (k : Runs p e below (T.setTop (mkF m pc' Ls St)) G) : Runs p e below (T.setTop (mkF m pc Ls (.null :: St))) G := by
  exact X.step (fun _ hx hb' _ hown _ S t q => XS.ifnullYes S.here hx rfl rfl (hb hb' hd) rfl ho hp q) k
theorem Here.ifnonnullYes (X : Here p l e R s m args below meth c y bytes maxL ret Z h0 ws T cells slots h) {pc pc' : Nat} {Ls : Array Slot} {St : List Value} {o : Int} {b : Addr} (hd : decode bytes pc = .ok (.ifnonnull o, 3))  (ho : 0 ≤ (pc : Int) + o) (hp : ((pc : Int) + o).toNat = pc') (k : Runs p e below (T.setTop (mkF m pc' Ls St)) G) : Runs p e below (T.setTop (mkF m pc Ls (.ref b :: St))) G := by
  exact X.step (fun _ hx hb' _ hown _ S t q => XS.ifnonnullYes S.here hx rfl rfl (hb hb' hd) rfl ho hp q) k
theorem Here.ifNo (X : Here p l e R s m args below meth c y bytes maxL ret Z h0 ws T cells slots h) {pc pc' : Nat} {Ls : Array Slot} {St : List Value} {o : Int} {cd : ClassFile.Cond} {a : Int32} (hd : decode bytes pc = .ok (.ifCond cd o, 3)) (hc : if_icmp.holds cd a 0 = false) (hp : pc + 3 = pc') (k : Runs p e below (T.setTop (mkF m pc' Ls (St))) G) : Runs p e below (T.setTop (mkF m pc Ls (.int a :: St))) G := by
  subst hp
  exact X.step (fun _ hx hb' _ hown _ S t q => XS.ifNo S.here hx rfl (hb hb' hd) rfl ((if0 _ _).trans hc) q) k
theorem Here.icmpNo (X : Here p l e R s m args below meth c y bytes maxL ret Z h0 ws T cells slots h) {pc pc' : Nat} {Ls : Array Slot} {St : List Value} {o : Int} {cd : ClassFile.Cond} {a b : Int32} (hd : decode bytes pc = .ok (.if_icmp cd o, 3)) (hc : if_icmp.holds cd a b = false) (hp : pc + 3 = pc') (k : Runs p e below (T.setTop (mkF m pc' Ls (St))) G) : Runs p e below (T.setTop (mkF m pc Ls (.int b :: .int a :: St))) G := by
  subst hp
  exact X.step (fun _ hx hb' _ hown _ S t q => XS.icmpNo S.here hx rfl (hb hb' hd) rfl hc q) k
theorem Here.ifnullNo (X : Here p l e R s m args below meth c y bytes maxL ret Z h0 ws T cells slots h) {pc pc' : Nat} {Ls : Array Slot} {St : List Value} {o : Int} {b : Addr} (hd : decode bytes pc = .ok (.ifnull o, 3))  (hp : pc + 3 = pc') (k : Runs p e below (T.setTop (mkF m pc' Ls (St))) G) : Runs p e below (T.setTop (mkF m pc Ls (.ref b :: St))) G := by
  subst hp
  exact X.step (fun _ hx hb' _ hown _ S t q => XS.ifnullNo S.here hx rfl (hb hb' hd) rfl q) k
theorem Here.ifnonnullNo (X : Here p l e R s m args below meth c y bytes maxL ret Z h0 ws T cells slots h) {pc pc' : Nat} {Ls : Array Slot} {St : List Value} {o : Int} (hd : decode bytes pc = .ok (.ifnonnull o, 3))  (hp : pc + 3 = pc') (k : Runs p e below (T.setTop (mkF m pc' Ls (St))) G) : Runs p e below (T.setTop (mkF m pc Ls (.null :: St))) G := by
  subst hp
  exact X.step (fun _ hx hb' _ hown _ S t q => XS.ifnonnullNo S.here hx rfl (hb hb' hd) rfl q) k
theorem Here.acmp (X : Here p l e R s m args below meth c y bytes maxL ret Z h0 ws T cells slots h) {pc pc' : Nat} {Ls : Array Slot} {St : List Value} {o : Int} {cd : ACond} {u v : Value} {same : Bool} (hd : decode bytes pc = .ok (.if_acmp cd o, 3)) (hu : u.isRef = true) (hv : v.isRef = true) (hq : decide (u = v) = same) (ho : 0 ≤ (pc : Int) + o) (hp : pc' = if acV cd same = true then ((pc : Int) + o).toNat else pc + 3) (k : Runs p e below (T.setTop (mkF m pc' Ls St)) G) : Runs p e below (T.setTop (mkF m pc Ls (v :: u :: St))) G := by
  exact X.step (fun _ hx hb' _ hown _ S t q => Jvm.RoadKit.acmp (g := mkF m pc Ls (v :: u :: St)) S hx rfl hu hv rfl (hb hb' hd) rfl hq ho hp q) k
theorem Here.getfield (X : Here p l e R s m args below meth c y bytes maxL ret Z h0 ws T cells slots h) {pc pc' : Nat} {Ls : Array Slot} {St : List Value} {R0 O n d host : String} {i : Nat} {a : Addr} {v : Value} (w : (Jvm.Cond.fieldLink y.cls i R0 n d).before a0 Z = true ∨ (Jvm.Cond.fieldLinkNest y.cls i R0 n d host).before a0 Z = true) (via : Via Z R0 O n d) (F : Fld Z h a O n d v) (hd : decode bytes pc = .ok (.getfield i, 3)) (hp : pc + 3 = pc')
    (k : ∀ T', Here p l e R s m args below meth c y bytes maxL ret Z h0 ws T' cells slots h → Runs p e below (T'.setTop (mkF m pc' Ls (v :: St))) G) : Runs p e below (T.setTop (mkF m pc Ls (.ref a :: St))) G := by
  subst hp
  exact X.stepT (fun _ hx hb' _ hZ hown eT S => getF S hx hZ hown w via eT F (g := mkF m pc Ls (.ref a :: St)) rfl rfl (hb hb' hd)) k
theorem Here.getstatic (X : Here p l e R s m args below meth c y bytes maxL ret Z h0 ws T cells slots h) {pc pc' : Nat} {Ls : Array Slot} {St : List Value} {R0 O n d host : String} {i : Nat} {v : Value} (w : (Jvm.Cond.fieldLink y.cls i R0 n d).before a0 Z = true ∨ (Jvm.Cond.fieldLinkNest y.cls i R0 n d host).before a0 Z = true) (via : Via Z R0 O n d) (F : Sta Z h O n d v) (hd : decode bytes pc = .ok (.getstatic i, 3)) (hp : pc + 3 = pc')
    (k : ∀ T', Here p l e R s m args below meth c y bytes maxL ret Z h0 ws T' cells slots h → Runs p e below (T'.setTop (mkF m pc' Ls (v :: St))) G) : Runs p e below (T.setTop (mkF m pc Ls St)) G := by
  subst hp
  exact X.stepT (fun _ hx hb' _ hZ hown eT S => getS2 S hx hZ hown w via eT F (g := mkF m pc Ls St) rfl (hb hb' hd)) k
theorem Here.putfield (X : Here p l e R s m args below meth c y bytes maxL ret Z h0 ws T cells slots h) {pc pc' : Nat} {Ls : Array Slot} {St : List Value} {R0 O n d host C : String} {i kk : Nat} {ty : FieldType} {a : Addr} {v old : Value} (w : (Jvm.Cond.fieldLink y.cls i R0 n d).before a0 Z = true ∨ (Jvm.Cond.fieldLinkNest y.cls i R0 n d host).before a0 Z = true) (via : Via Z R0 O n d) (F : Fld Z h a O n d old) (E : Exa Z h a C)
    (L : (Jvm.Cond.lays C O n d).before a0 Z = true ∨ ((Jvm.Cond.laysFinal C O n d).before a0 Z = true ∧ y.cls = O ∧ y.name = "<init>")) (wi : (Jvm.Cond.instantiable C kk).before a0 Z = true) (hty : parseFieldDescriptor d = some ty) (hn : narrow ty v = v) (hf : fits ty v = true) (hd : decode bytes pc = .ok (.putfield i, 3)) (hp : pc + 3 = pc') (hws : a ∈ ws ∨ h0.size ≤ a)
    (k : ∀ T' h', Here p l e R s m args below meth c y bytes maxL ret Z h0 ws T' cells slots h' → Wr h h' a (Jvm.RoadKit.slotOf Z O n d) v → Runs p e below (T'.setTop (mkF m pc' Ls St)) G) : Runs p e below (T.setTop (mkF m pc Ls (v :: .ref a :: St))) G := by
  subst hp
  exact X.stepW hws (fun _ hx hb' hnm hZ hown eT S => putF S hx hZ hown w via eT F E (L.imp id fun q => ⟨q.1, q.2.1, hnm.trans q.2.2⟩) wi hty hn hf (g := mkF m pc Ls (v :: .ref a :: St)) rfl rfl (hb hb' hd)) k
theorem Here.putfieldN (X : Here p l e R s m args below meth c y bytes maxL ret Z h0 ws T cells slots h) {pc pc' : Nat} {Ls : Array Slot} {St : List Value} {R0 O n d C : String} {i kk : Nat} {ty : FieldType} {a : Addr} {v v' old : Value} (w : (Jvm.Cond.fieldLink y.cls i R0 n d).before a0 Z = true) (via : Via Z R0 O n d) (F : Fld Z h a O n d old) (E : Exa Z h a C)
    (L : (Jvm.Cond.lays C O n d).before a0 Z = true ∨ ((Jvm.Cond.laysFinal C O n d).before a0 Z = true ∧ y.cls = O ∧ y.name = "<init>")) (wi : (Jvm.Cond.instantiable C kk).before a0 Z = true) (hty : parseFieldDescriptor d = some ty) (hn : narrow ty v = v') (hf : fits ty v' = true) (hd : decode bytes pc = .ok (.putfield i, 3)) (hp : pc + 3 = pc') (hws : a ∈ ws ∨ h0.size ≤ a)
    (k : ∀ T' h', Here p l e R s m args below meth c y bytes maxL ret Z h0 ws T' cells slots h' → Wr h h' a (Jvm.RoadKit.slotOf Z O n d) v' → Runs p e below (T'.setTop (mkF m pc' Ls St)) G) : Runs p e below (T.setTop (mkF m pc Ls (v :: .ref a :: St))) G := by
  subst hp
  exact X.stepW hws (fun _ hx hb' hnm hZ hown eT S => putFN S hx hZ hown w via eT F E (L.imp id fun q => ⟨q.1, q.2.1, hnm.trans q.2.2⟩) wi hty hn hf (g := mkF m pc Ls (v :: .ref a :: St)) rfl rfl (hb hb' hd)) k
theorem Here.new (X : Here p l e R s m args below meth c y bytes maxL ret Z h0 ws T cells slots h) {pc pc' : Nat} {Ls : Array Slot} {St : List Value} {C : String} {i n : Nat} (w : (Jvm.Cond.classLink y.cls i C).before a0 Z = true) (wi : (Jvm.Cond.instantiable C n).before a0 Z = true) (wz : (Jvm.Cond.initialized C).before a0 Z = true) (hd : decode bytes pc = .ok (.new i, 3)) (hp : pc + 3 = pc') (hc : cells + 1 ≤ R.cells) (hl : slots + n ≤ R.slots)
    (k : ∀ T' h' b, Here p l e R s m args below meth c y bytes maxL ret Z h0 ws T' (cells + 1) (slots + n) h' → b = h.size → Ext h h' → Exa Z h' b C → (∀ {O nm d : String} {ty : FieldType}, Laid Z a0 C O nm d → parseFieldDescriptor d = some ty → Fld Z h' b O nm d (defaultValue ty)) → Runs p e below (T'.setTop (mkF m pc' Ls (.ref b :: St))) G) : Runs p e below (T.setTop (mkF m pc Ls St)) G := by
  subst hp
  obtain ⟨⟨x1, x2, x3, x4, x5, x6, x7, x8⟩, x9, x10, locs, S, N⟩ := X
  obtain ⟨T', h', S', e', E, A, D, -, st⟩ := newO S x1 x2 x5 w wi wz x9 (g := mkF m pc Ls St) rfl (hb x3 hd) hc hl
  exact (k T' h' _ ⟨⟨x1, x2, x3, x4, x5, x6, x7, x8⟩, e', x10.ext E, _, S', N⟩ rfl E A D).of st
theorem Here.initObj (X : Here p l e R s m args below meth c y bytes maxL ret Z h0 ws T cells slots h) {pc pc' : Nat} {Ls : Array Slot} {St : List Value} {i : Nat} {a : Addr} (w1 : (Jvm.Cond.methodLink y.cls i Lib.objectInit).before a0 Z = true) (w2 : (Jvm.Cond.instanceMethod Lib.objectInit).before a0 Z = true) (w3 : (Jvm.Cond.code Lib.objectInit ⟨#[0xb1]⟩ 1 none).before a0 Z = true) (hsz : Ls.size = maxL) (hd : decode bytes pc = .ok (.invokespecial i, 3)) (hp : pc + 3 = pc') (hf : 1 ≤ R.frames) {W : Nat} (hW : (St.map fun v => v.category).sum = W) (hl : W + 12 ≤ R.locals)
    (k : ∀ T', Here p l e R s m args below meth c y bytes maxL ret Z h0 ws T' cells slots h → Runs p e below (T'.setTop (mkF m pc' Ls St)) G) : Runs p e below (T.setTop (mkF m pc Ls (.ref a :: St))) G := by
  subst hp
  exact X.stepT (fun _ hx hb' hml hZ hown eT S => initO S hx hZ hown w1 w2 w3 eT (g := mkF m pc Ls (.ref a :: St)) rfl (hsz.trans hml.symm) rfl (hb hb' hd) hf (W := W) (by show 2 * 0 + _ ≤ _; rw [hW]; omega) hl) k
theorem Here.castYes (X : Here p l e R s m args below meth c y bytes maxL ret Z h0 ws T cells slots h) {pc pc' : Nat} {Ls : Array Slot} {St : List Value} {K : String} {i : Nat} {a : Addr} (w : (Jvm.Cond.classLink y.cls i K).before a0 Z = true) (F : Jvm.RoadKit.Ins Z h a K true) (hd : decode bytes pc = .ok (.checkcast i, 3)) (hp : pc + 3 = pc')
    (k : ∀ T', Here p l e R s m args below meth c y bytes maxL ret Z h0 ws T' cells slots h → Runs p e below (T'.setTop (mkF m pc' Ls (.ref a :: St))) G) : Runs p e below (T.setTop (mkF m pc Ls (.ref a :: St))) G := by
  subst hp
  exact X.stepT (fun _ hx hb' _ hZ hown eT S => castY S hx hZ hown w eT F (g := mkF m pc Ls (.ref a :: St)) rfl rfl (hb hb' hd)) k
theorem Here.instYes (X : Here p l e R s m args below meth c y bytes maxL ret Z h0 ws T cells slots h) {pc pc' : Nat} {Ls : Array Slot} {St : List Value} {K : String} {i : Nat} {a : Addr} (w : (Jvm.Cond.classLink y.cls i K).before a0 Z = true) (F : Jvm.RoadKit.Ins Z h a K true) (hd : decode bytes pc = .ok (.instanceof i, 3)) (hp : pc + 3 = pc')
    (k : ∀ T', Here p l e R s m args below meth c y bytes maxL ret Z h0 ws T' cells slots h → Runs p e below (T'.setTop (mkF m pc' Ls (.int (1 : Int32) :: St))) G) : Runs p e below (T.setTop (mkF m pc Ls (.ref a :: St))) G := by
  subst hp
  exact X.stepT (fun _ hx hb' _ hZ hown eT S => instY S hx hZ hown w eT F (g := mkF m pc Ls (.ref a :: St)) rfl rfl (hb hb' hd)) k
theorem Here.instNo (X : Here p l e R s m args below meth c y bytes maxL ret Z h0 ws T cells slots h) {pc pc' : Nat} {Ls : Array Slot} {St : List Value} {C K : String} {i : Nat} {a : Addr} (w : (Jvm.Cond.classLink y.cls i K).before a0 Z = true) (E : Exa Z h a C) (F : ∃ c t, Z.vm.findClass C = some c ∧ Z.vm.findClass K = some t ∧ Z.vm.assignable c t = false) (hd : decode bytes pc = .ok (.instanceof i, 3)) (hp : pc + 3 = pc')
    (k : ∀ T', Here p l e R s m args below meth c y bytes maxL ret Z h0 ws T' cells slots h → Runs p e below (T'.setTop (mkF m pc' Ls (.int (0 : Int32) :: St))) G) : Runs p e below (T.setTop (mkF m pc Ls (.ref a :: St))) G := by
  subst hp
  exact X.stepT (fun _ hx hb' _ hZ hown eT S => Jvm.RoadKit.instNo S hx hZ hown w eT E F (g := mkF m pc Ls (.ref a :: St)) rfl rfl (hb hb' hd)) k
theorem Here.checkcastNull (X : Here p l e R s m args below meth c y bytes maxL ret Z h0 ws T cells slots h) {pc pc' : Nat} {Ls : Array Slot} {St : List Value} {i : Nat} (hd : decode bytes pc = .ok (.checkcast i, 3)) (hp : pc + 3 = pc') (k : Runs p e below (T.setTop (mkF m pc' Ls (.null :: St))) G) : Runs p e below (T.setTop (mkF m pc Ls (.null :: St))) G := by
  subst hp
  exact X.step (fun _ hx hb' _ _ _ S t q => S.checkcastNull hx (g := mkF m pc Ls (.null :: St)) rfl rfl (hb hb' hd) t q) k
theorem Here.instanceofNull (X : Here p l e R s m args below meth c y bytes maxL ret Z h0 ws T cells slots h) {pc pc' : Nat} {Ls : Array Slot} {St : List Value} {i : Nat} (hd : decode bytes pc = .ok (.instanceof i, 3)) (hp : pc + 3 = pc') (k : Runs p e below (T.setTop (mkF m pc' Ls (.int (0 : Int32) :: St))) G) : Runs p e below (T.setTop (mkF m pc Ls (.null :: St))) G := by
  subst hp
  exact X.step (fun _ hx hb' _ _ _ S t q => S.instanceofNull hx (g := mkF m pc Ls (.null :: St)) rfl rfl (hb hb' hd) t q) k
theorem Here.aaload (X : Here p l e R s m args below meth c y bytes maxL ret Z h0 ws T cells slots h) {pc pc' : Nat} {Ls : Array Slot} {St : List Value} {a : Addr} {cl : Cell} {ty : FieldType} {j : Int32} {v : Value} (A : Arr Z h a cl ty) (hty : ty.isReference = true) (hj : ¬ (j < 0 ∨ cl.slots.size ≤ j.toNatClampNeg)) (hv : cl.slots[j.toNatClampNeg]? = some v) (hd : decode bytes pc = .ok (.aaload, 1)) (hp : pc + 1 = pc')
    (k : Runs p e below (T.setTop (mkF m pc' Ls (v :: St))) G) : Runs p e below (T.setTop (mkF m pc Ls (.int j :: .ref a :: St))) G := by
  subst hp
  exact X.step (fun _ hx hb' hZ _ eT S t q => S.aaload hx (j := j) (v := v) (by rw [eT]; exact A.1) (State.isArrayOf_alike hZ.alike A.2.1) hty A.2.2 hj hv (g := mkF m pc Ls (.int j :: .ref a :: St)) rfl rfl (hb hb' hd) t q) k
theorem sta_keep0 {C n d : String} {v : Value} {h' : Heap} (F : Sta Z h C n d v) (K : Keep h h' []) : Sta Z h' C n d v := by
  obtain ⟨cf, i, k, f, st, cell, h1, h2, h3, h4, h5, r⟩ := F
  exact ⟨cf, i, k, f, st, cell, h1, h2, h3, h4, K.2.1 _ _ h5 nin0, r⟩
theorem arr_keep0 {a : Addr} {cl : Cell} {ty : FieldType} {h' : Heap} (F : Arr Z h a cl ty) (K : Keep h h' []) : Arr Z h' a cl ty := ⟨K.2.1 _ _ F.1 nin0, F.2⟩
theorem allWs0 {P : Addr → Prop} : ∀ x ∈ ([] : List Addr), P x := fun _ q => nomatch q
/-! arrays: the list of their values -/
/-- the array at a holds just these values -/
def Lst (Z : State) (h : Heap) (a : Addr) (ty : FieldType) (vs : List Value) : Prop := ∃ cl : Cell, Arr Z h a cl ty ∧ cl.slots = vs.toArray ∧ vs.length < 2 ^ 31
section L
variable {a b : Addr} {ty : FieldType} {vs : List Value} {h' : Heap} {sl : Nat} {v : Value} {ws' : List Addr} {C' : String}
theorem Lst.lt (F : Lst Z h a ty vs) : a < h.size := by obtain ⟨c, A, -⟩ := F; exact A.lt
theorem Lst.len (F : Lst Z h a ty vs) : vs.length < 2 ^ 31 := by obtain ⟨c, A, -, q⟩ := F; exact q
theorem Lst.ext (F : Lst Z h a ty vs) (E : Ext h h') : Lst Z h' a ty vs := by obtain ⟨c, A, r⟩ := F; exact ⟨c, A.ext E, r⟩
theorem Lst.other (F : Lst Z h b ty vs) (W : Wr h h' a sl v) (q : b ≠ a) : Lst Z h' b ty vs := by obtain ⟨c, A, r⟩ := F; exact ⟨c, A.other W q, r⟩
theorem Lst.keep (F : Lst Z h a ty vs) (K : Keep h h' ws') (q : a ∉ ws') : Lst Z h' a ty vs := by obtain ⟨c, A, r⟩ := F; exact ⟨c, ⟨K.2.1 a c A.1 q, A.2⟩, r⟩
theorem Lst.set (F : Lst Z h a ty vs) (W : Wr h h' a sl v) : Lst Z h' a ty (vs.set sl v) := by
  obtain ⟨c, A, r, q⟩ := F
  exact ⟨_, A.same W, by simp [Cell.setSlot, r], by simpa using q⟩
theorem Lst.ne (F : Lst Z h a ty vs) (wi : (Jvm.Cond.instantiable C' sl).before a0 Z = true) (G : Exa Z h b C') : b ≠ a := by obtain ⟨c, A, -⟩ := F; exact ne_arr G wi A
end L
/-- the place j lies inside a list -/
def Inb (j : Int32) (n : Nat) : Prop := 0 ≤ j.toInt ∧ j.toInt < (n : Int)
theorem nat_of_ins {j : Int32} {n : Nat} (q : Inb j n) : j.toNatClampNeg = j.toInt.toNat ∧ j.toInt.toNat < n ∧ ¬ j < 0 := by
  obtain ⟨q1, q2⟩ := q
  refine ⟨rfl, by omega, fun z => ?_⟩
  have : j.toInt < (0 : Int32).toInt := Int32.lt_iff_toInt_lt.mp z
  simp at this; omega
theorem in_of_ins {cl : Cell} {vs : List Value} {j : Int32} (r : cl.slots = vs.toArray) (q : Inb j vs.length) : ¬ (j < 0 ∨ cl.slots.size ≤ j.toNatClampNeg) := by
  obtain ⟨q1, q2, q3⟩ := nat_of_ins q
  rw [q1, r]; simp only [List.size_toArray]; intro z; rcases z with z | z
  · exact q3 z
  · omega
theorem at_of_ins {cl : Cell} {vs : List Value} {j : Int32} {v : Value} (r : cl.slots = vs.toArray) (hv : vs[j.toInt.toNat]? = some v) : cl.slots[j.toNatClampNeg]? = some v := by
  rw [r]; exact (by simpa using hv : vs.toArray[j.toInt.toNat]? = some v)
theorem Here.newarray (X : Here p l e R s m args below meth c y bytes maxL ret Z h0 ws T cells slots h) {pc pc' : Nat} {Ls : Array Slot} {St : List Value} {aty : ArrayType} {ty : FieldType} {n : Int32} (hty : newarray.typeOf aty = ty) (w : (Jvm.Cond.arrayClass ty).before a0 Z = true) (hd : decode bytes pc = .ok (.newarray aty, 2)) (hp : pc + 2 = pc') {cap : Nat} (hn : Inb n (cap + 1)) (hb8 : cap * 8 ≤ 536870912) (hc : cells + 1 ≤ R.cells) (hl : slots + cap ≤ R.slots)
    (k : ∀ T' h' b, Here p l e R s m args below meth c y bytes maxL ret Z h0 ws T' (cells + 1) (slots + cap) h' → b = h.size → Ext h h' → Lst Z h' b ty (List.replicate n.toInt.toNat (defaultValue ty)) → Runs p e below (T'.setTop (mkF m pc' Ls (.ref b :: St))) G) : Runs p e below (T.setTop (mkF m pc Ls (.int n :: St))) G := by
  subst hp; subst hty
  obtain ⟨n1, n2, n3⟩ := nat_of_ins hn
  obtain ⟨⟨x1, x2, x3, x4, x5, x6, x7, x8⟩, x9, x10, locs, S, N⟩ := X
  obtain ⟨T', h', cA, S', e', E, A, st⟩ := newP S x1 x2 w x9 (g := mkF m pc Ls (.int n :: St)) rfl (hb x3 hd) rfl n3 (cap := cap) (by rw [n1]; omega) hb8 hc hl
  exact (k T' h' _ ⟨⟨x1, x2, x3, x4, x5, x6, x7, x8⟩, e', x10.ext E, _, S', N⟩ rfl E ⟨_, A, by show Array.replicate n.toNatClampNeg _ = _; rw [n1, List.toArray_replicate], by rw [List.length_replicate]; omega⟩).of st
theorem Here.arraylength (X : Here p l e R s m args below meth c y bytes maxL ret Z h0 ws T cells slots h) {pc pc' : Nat} {Ls : Array Slot} {St : List Value} {a : Addr} {ty : FieldType} {vs : List Value} {n : Int32} (F : Lst Z h a ty vs) (hn : vs.length.toInt32 = n) (hd : decode bytes pc = .ok (.arraylength, 1)) (hp : pc + 1 = pc')
    (k : Runs p e below (T.setTop (mkF m pc' Ls (.int n :: St))) G) : Runs p e below (T.setTop (mkF m pc Ls (.ref a :: St))) G := by
  subst hp
  obtain ⟨cl, A, r, -⟩ := F
  exact X.step (fun _ hx hb' hZ _ eT S t q => S.arraylength hx (by rw [eT]; exact A.1) (State.isArrayOf_alike hZ.alike A.2.1) (g := mkF m pc Ls (.ref a :: St)) rfl rfl (hb hb' hd) t (by rw [r, List.size_toArray, hn]; exact q)) k
theorem Here.iaload (X : Here p l e R s m args below meth c y bytes maxL ret Z h0 ws T cells slots h) {pc pc' : Nat} {Ls : Array Slot} {St : List Value} {a : Addr} {vs : List Value} {j : Int32} {v : Value} (F : Lst Z h a .int vs) (hj : Inb j vs.length) (hv : vs[j.toInt.toNat]? = some v) (hd : decode bytes pc = .ok (.iaload, 1)) (hp : pc + 1 = pc')
    (k : Runs p e below (T.setTop (mkF m pc' Ls (v :: St))) G) : Runs p e below (T.setTop (mkF m pc Ls (.int j :: .ref a :: St))) G := by
  subst hp
  obtain ⟨cl, A, r, -⟩ := F
  exact X.step (fun _ hx hb' hZ _ eT S t q => S.iaload hx (j := j) (v := v) (by rw [eT]; exact A.1) (State.isArrayOf_alike hZ.alike A.2.1) A.2.2 (in_of_ins r hj) (at_of_ins r hv) (g := mkF m pc Ls (.int j :: .ref a :: St)) rfl rfl (hb hb' hd) t q) k
theorem Here.laload (X : Here p l e R s m args below meth c y bytes maxL ret Z h0 ws T cells slots h) {pc pc' : Nat} {Ls : Array Slot} {St : List Value} {a : Addr} {vs : List Value} {j : Int32} {v : Value} (F : Lst Z h a .long vs) (hj : Inb j vs.length) (hv : vs[j.toInt.toNat]? = some v) (hd : decode bytes pc = .ok (.laload, 1)) (hp : pc + 1 = pc')
    (k : Runs p e below (T.setTop (mkF m pc' Ls (v :: St))) G) : Runs p e below (T.setTop (mkF m pc Ls (.int j :: .ref a :: St))) G := by
  subst hp
  obtain ⟨cl, A, r, -⟩ := F
  exact X.step (fun _ hx hb' hZ _ eT S t q => S.laload hx (j := j) (v := v) (by rw [eT]; exact A.1) (State.isArrayOf_alike hZ.alike A.2.1) A.2.2 (in_of_ins r hj) (at_of_ins r hv) (g := mkF m pc Ls (.int j :: .ref a :: St)) rfl rfl (hb hb' hd) t q) k
theorem Here.caload (X : Here p l e R s m args below meth c y bytes maxL ret Z h0 ws T cells slots h) {pc pc' : Nat} {Ls : Array Slot} {St : List Value} {a : Addr} {vs : List Value} {j : Int32} {v : Value} (F : Lst Z h a .char vs) (hj : Inb j vs.length) (hv : vs[j.toInt.toNat]? = some v) (hd : decode bytes pc = .ok (.caload, 1)) (hp : pc + 1 = pc')
    (k : Runs p e below (T.setTop (mkF m pc' Ls (v :: St))) G) : Runs p e below (T.setTop (mkF m pc Ls (.int j :: .ref a :: St))) G := by
  subst hp
  obtain ⟨cl, A, r, -⟩ := F
  exact X.step (fun _ hx hb' hZ _ eT S t q => S.caload hx (j := j) (v := v) (by rw [eT]; exact A.1) (State.isArrayOf_alike hZ.alike A.2.1) A.2.2 (in_of_ins r hj) (at_of_ins r hv) (g := mkF m pc Ls (.int j :: .ref a :: St)) rfl rfl (hb hb' hd) t q) k
theorem Here.baload (X : Here p l e R s m args below meth c y bytes maxL ret Z h0 ws T cells slots h) {pc pc' : Nat} {Ls : Array Slot} {St : List Value} {a : Addr} {vs : List Value} {j : Int32} {v : Value} (F : Lst Z h a .byte vs) (hj : Inb j vs.length) (hv : vs[j.toInt.toNat]? = some v) (hd : decode bytes pc = .ok (.baload, 1)) (hp : pc + 1 = pc')
    (k : Runs p e below (T.setTop (mkF m pc' Ls (v :: St))) G) : Runs p e below (T.setTop (mkF m pc Ls (.int j :: .ref a :: St))) G := by
  subst hp
  obtain ⟨cl, A, r, -⟩ := F
  exact X.step (fun _ hx hb' hZ _ eT S t q => S.baloadBytes hx (j := j) (v := v) (by rw [eT]; exact A.1) (State.isArrayOf_alike hZ.alike A.2.1) A.2.2 (in_of_ins r hj) (at_of_ins r hv) (g := mkF m pc Ls (.int j :: .ref a :: St)) rfl rfl (hb hb' hd) t q) k
theorem Here.iastore (X : Here p l e R s m args below meth c y bytes maxL ret Z h0 ws T cells slots h) {pc pc' : Nat} {Ls : Array Slot} {St : List Value} {a : Addr} {vs : List Value} {j : Int32} {x : Int32} (F : Lst Z h a .int vs) (hj : Inb j vs.length) (hd : decode bytes pc = .ok (.iastore, 1)) (hp : pc + 1 = pc') (hws : a ∈ ws ∨ h0.size ≤ a)
    (k : ∀ T' h', Here p l e R s m args below meth c y bytes maxL ret Z h0 ws T' cells slots h' → Wr h h' a j.toInt.toNat (.int x) → Runs p e below (T'.setTop (mkF m pc' Ls St)) G) : Runs p e below (T.setTop (mkF m pc Ls (.int x :: .int j :: .ref a :: St))) G := by
  subst hp
  obtain ⟨cl, A, r, -⟩ := F
  exact X.stepW hws (fun _ hx hb' _ hZ _ eT S => stI S hx hZ eT A (j := j) (in_of_ins r hj) (g := mkF m pc Ls (.int x :: .int j :: .ref a :: St)) rfl rfl (hb hb' hd)) k
theorem Here.lastore (X : Here p l e R s m args below meth c y bytes maxL ret Z h0 ws T cells slots h) {pc pc' : Nat} {Ls : Array Slot} {St : List Value} {a : Addr} {vs : List Value} {j : Int32} {x : Int64} (F : Lst Z h a .long vs) (hj : Inb j vs.length) (hd : decode bytes pc = .ok (.lastore, 1)) (hp : pc + 1 = pc') (hws : a ∈ ws ∨ h0.size ≤ a)
    (k : ∀ T' h', Here p l e R s m args below meth c y bytes maxL ret Z h0 ws T' cells slots h' → Wr h h' a j.toInt.toNat (.long x) → Runs p e below (T'.setTop (mkF m pc' Ls St)) G) : Runs p e below (T.setTop (mkF m pc Ls (.long x :: .int j :: .ref a :: St))) G := by
  subst hp
  obtain ⟨cl, A, r, -⟩ := F
  exact X.stepW hws (fun _ hx hb' _ hZ _ eT S => stJ S hx hZ eT A (j := j) (in_of_ins r hj) (g := mkF m pc Ls (.long x :: .int j :: .ref a :: St)) rfl rfl (hb hb' hd)) k
theorem Here.castore (X : Here p l e R s m args below meth c y bytes maxL ret Z h0 ws T cells slots h) {pc pc' : Nat} {Ls : Array Slot} {St : List Value} {a : Addr} {vs : List Value} {j : Int32} {x : Int32} (F : Lst Z h a .char vs) (hj : Inb j vs.length) (hd : decode bytes pc = .ok (.castore, 1)) (hp : pc + 1 = pc') (hws : a ∈ ws ∨ h0.size ≤ a)
    (k : ∀ T' h', Here p l e R s m args below meth c y bytes maxL ret Z h0 ws T' cells slots h' → Wr h h' a j.toInt.toNat (.int (nar .char x)) → Runs p e below (T'.setTop (mkF m pc' Ls St)) G) : Runs p e below (T.setTop (mkF m pc Ls (.int x :: .int j :: .ref a :: St))) G := by
  subst hp
  obtain ⟨cl, A, r, -⟩ := F
  exact X.stepW hws (fun _ hx hb' _ hZ _ eT S => stC S hx hZ eT A (j := j) (in_of_ins r hj) (g := mkF m pc Ls (.int x :: .int j :: .ref a :: St)) rfl rfl (hb hb' hd)) k
theorem Here.bastore (X : Here p l e R s m args below meth c y bytes maxL ret Z h0 ws T cells slots h) {pc pc' : Nat} {Ls : Array Slot} {St : List Value} {a : Addr} {vs : List Value} {j : Int32} {x : Int32} (F : Lst Z h a .byte vs) (hj : Inb j vs.length) (hd : decode bytes pc = .ok (.bastore, 1)) (hp : pc + 1 = pc') (hws : a ∈ ws ∨ h0.size ≤ a)
    (k : ∀ T' h', Here p l e R s m args below meth c y bytes maxL ret Z h0 ws T' cells slots h' → Wr h h' a j.toInt.toNat (.int x.toInt8.toInt32) → Runs p e below (T'.setTop (mkF m pc' Ls St)) G) : Runs p e below (T.setTop (mkF m pc Ls (.int x :: .int j :: .ref a :: St))) G := by
  subst hp
  obtain ⟨cl, A, r, -⟩ := F
  exact X.stepW hws (fun _ hx hb' _ hZ _ eT S => stB S hx hZ eT A (j := j) (in_of_ins r hj) (g := mkF m pc Ls (.int x :: .int j :: .ref a :: St)) rfl rfl (hb hb' hd)) k
/-! calls by a contract -/
variable {y' : MethodName} {bytes' : ByteArray} {maxL' : Nat} {ret' : Option FieldType} {rm : Room} {as : Array Value} {ws' : List Addr} {Q : Option Value → Heap → Prop}
theorem backCt (X : Here p l e R s m args below meth c y bytes maxL ret Z h0 ws T cells slots h) {len W : Nat} (hM : Ct l Z y' bytes' maxL' ret' rm as h ws' Q) (wc : (Jvm.Cond.code y' bytes' maxL' ret').before a0 Z = true) (wz : (Jvm.Cond.initialized y'.cls).before a0 Z = true) (hf : rm.frames + 1 ≤ R.frames) (hl : W + (maxL' + 11) + rm.locals ≤ R.locals) :
    Back l R p e below s args y' len W (fun A a => a = as ∧ A.U.heap = h ∧ A.cells + rm.cells ≤ R.cells ∧ A.slots + rm.slots ≤ R.slots)
      (fun A _ v B => ∃ L, (Q v B.U.heap ∧ Keep h B.U.heap ws' ∧ Wrote h ws' L) ∧ B.locs = A.locs ++ L ∧ B.cells = A.cells + rm.cells ∧ B.slots = A.slots + rm.slots) :=
  backOf (Q := fun v h' L => Q v h' ∧ Keep h h' ws' ∧ Wrote h ws' L) (hM []) X.hZ wc wz hf hl
theorem Here.back (X : Here p l e R s m args below meth c y bytes maxL ret Z h0 ws T cells slots h) {U : State} {locs : List Loc} {h' : Heap} {L : List Loc} (N : Wrote h0 ws locs) (hU : Stand p l e R s m args below meth c U (locs ++ L) (cells + rm.cells) (slots + rm.slots)) (e' : U.heap = h') (K : Keep h h' ws') (N' : Wrote h ws' L) (hws : ∀ x ∈ ws', x ∈ ws ∨ h0.size ≤ x) :
    Here p l e R s m args below meth c y bytes maxL ret Z h0 ws U (cells + rm.cells) (slots + rm.slots) h' :=
  ⟨X.1, e', X.keep.trans K hws, _, hU, N.app N' X.size hws⟩
theorem Here.callS (X : Here p l e R s m args below meth c y bytes maxL ret Z h0 ws T cells slots h) {pc pc' : Nat} {Ls : Array Slot} {St : List Value} {i : Nat} {sig : MethodDescriptor} {argsL rest : List Value} (hM : Ct l Z y' bytes' maxL' ret' rm as h ws' Q) (w1 : (Jvm.Cond.methodLink y.cls i y').before a0 Z = true) (w2 : (Jvm.Cond.static y').before a0 Z = true) (w3 : (Jvm.Cond.initialized y'.cls).before a0 Z = true) (w4 : (Jvm.Cond.code y' bytes' maxL' ret').before a0 Z = true)
    (hy : y'.cls ≠ "java/lang/invoke/MethodHandle" ∧ y'.cls ≠ "java/lang/invoke/VarHandle") (hsig : parseMethodDescriptor y'.desc = some sig) (hlen : argsL.length = sig.parameters.length) (has : argsL.toArray = as) (hst : St = argsL.reverse ++ rest) (hsz : Ls.size = maxL) (hd : decode bytes pc = .ok (.invokestatic i, 3)) (hp : pc + 3 = pc')
    (hf : rm.frames + 1 ≤ R.frames) {W : Nat} (hW : (rest.map fun v => v.category).sum = W) (hl : W + (maxL' + 11) + rm.locals ≤ R.locals) (hc : cells + rm.cells ≤ R.cells) (hs : slots + rm.slots ≤ R.slots) (hws : ∀ x ∈ ws', x ∈ ws ∨ h0.size ≤ x)
    (k : ∀ T' h' v, Here p l e R s m args below meth c y bytes maxL ret Z h0 ws T' (cells + rm.cells) (slots + rm.slots) h' → Keep h h' ws' → Q v h' → Runs p e below (T'.setTop (mkF m pc' Ls (v.toList ++ rest))) G) : Runs p e below (T.setTop (mkF m pc Ls St)) G := by
  subst hp hst
  have X' := X
  obtain ⟨⟨x1, x2, x3, x4, x5, x6, x7, x8⟩, x9, x10, locs, S, N⟩ := X
  obtain ⟨v, vm₁, ⟨U, lo, ce, sl⟩, -, SU, ⟨Lc, hQ, z1, z2, z3⟩, st⟩ := Jvm.LawKit.callS S x1 (y := y') x5 (mvT x2 w1) (mvT x2 w2) (mvT x2 w3) (mvT x2 w4) hy (backCt X' hM w4 w3 hf hl) (g := mkF m pc Ls (argsL.reverse ++ rest)) rfl (hsz.trans x4.symm) (argsL := argsL) (rest := rest) (lenOf hsig hlen) rfl (by show 2 * 0 + _ ≤ _; rw [hW]; omega) (hb x3 hd) (fun _ _ => ⟨has, x9, hc, hs⟩)
  dsimp only [Pt.U, Pt.locs, Pt.cells, Pt.slots] at SU z1 z2 z3 st hQ
  subst z1 z2 z3
  exact (k U _ v (X'.back N SU rfl hQ.2.1 hQ.2.2 hws) hQ.2.1 hQ.1).of st
theorem Here.special (X : Here p l e R s m args below meth c y bytes maxL ret Z h0 ws T cells slots h) {pc pc' : Nat} {Ls : Array Slot} {St : List Value} {i : Nat} {sig : MethodDescriptor} {a : Addr} {argsL rest : List Value} (hM : Ct l Z y' bytes' maxL' none rm as h ws' Q) (hin : y'.name = "<init>") (w1 : (Jvm.Cond.methodLink y.cls i y').before a0 Z = true) (w2 : (Jvm.Cond.instanceMethod y').before a0 Z = true) (w3 : (Jvm.Cond.initialized y'.cls).before a0 Z = true) (w4 : (Jvm.Cond.code y' bytes' maxL' none).before a0 Z = true)
    (hy : y'.cls ≠ "java/lang/invoke/MethodHandle" ∧ y'.cls ≠ "java/lang/invoke/VarHandle") (hsig : parseMethodDescriptor y'.desc = some sig) (hlen : argsL.length = sig.parameters.length) (has : (.ref a :: argsL).toArray = as) (hst : St = argsL.reverse ++ .ref a :: rest) (hsz : Ls.size = maxL) (hd : decode bytes pc = .ok (.invokespecial i, 3)) (hp : pc + 3 = pc')
    (hf : rm.frames + 1 ≤ R.frames) {W : Nat} (hW : (rest.map fun v => v.category).sum = W) (hl : W + (maxL' + 11) + rm.locals ≤ R.locals) (hc : cells + rm.cells ≤ R.cells) (hs : slots + rm.slots ≤ R.slots) (hws : ∀ x ∈ ws', x ∈ ws ∨ h0.size ≤ x)
    (k : ∀ T' h' v, Here p l e R s m args below meth c y bytes maxL ret Z h0 ws T' (cells + rm.cells) (slots + rm.slots) h' → Keep h h' ws' → Q v h' → Runs p e below (T'.setTop (mkF m pc' Ls (v.toList ++ rest))) G) : Runs p e below (T.setTop (mkF m pc Ls St)) G := by
  subst hp hst
  have X' := X
  obtain ⟨⟨x1, x2, x3, x4, x5, x6, x7, x8⟩, x9, x10, locs, S, N⟩ := X
  obtain ⟨v, vm₁, ⟨U, lo, ce, sl⟩, -, SU, ⟨Lc, hQ, z1, z2, z3⟩, st⟩ := S.specialBack x1 (y := y') hin x5 (mvT x2 w1) (mvT x2 w2) (mvT x2 w4) hy (backCt X' hM w4 w3 hf hl) (g := mkF m pc Ls (argsL.reverse ++ .ref a :: rest)) rfl (hsz.trans x4.symm) (Steps.refl _) (a := a) (argsL := argsL) (rest := rest) (lenOf hsig hlen) rfl (by show 2 * 0 + _ ≤ _; rw [hW]; omega) (hb x3 hd) (fun _ _ => ⟨has, x9, hc, hs⟩)
  dsimp only [Pt.U, Pt.locs, Pt.cells, Pt.slots] at SU z1 z2 z3 st hQ
  subst z1 z2 z3
  exact (k U _ v (X'.back N SU rfl hQ.2.1 hQ.2.2 hws) hQ.2.1 hQ.1).via st
theorem Here.virtual (X : Here p l e R s m args below meth c y bytes maxL ret Z h0 ws T cells slots h) {pc pc' : Nat} {Ls : Array Slot} {St : List Value} {i : Nat} {yr : MethodName} {C : String} {sig : MethodDescriptor} {a : Addr} {argsL rest : List Value} (hM : Ct l Z y' bytes' maxL' ret' rm as h ws' Q) (w1 : (Jvm.Cond.methodLink y.cls i yr).before a0 Z = true) (w5 : (Jvm.Cond.declares yr).before a0 Z = true) (nf : ∀ args, (Jvm.Cond.selects C yr y').before args s = true → NotFace s yr) (w6 : (Jvm.Cond.selects C yr y').before a0 Z = true) (w2 : (Jvm.Cond.instanceMethod y').before a0 Z = true) (w3 : (Jvm.Cond.initialized y'.cls).before a0 Z = true) (w4 : (Jvm.Cond.code y' bytes' maxL' ret').before a0 Z = true)
    (hy : yr.cls ≠ "java/lang/invoke/MethodHandle" ∧ yr.cls ≠ "java/lang/invoke/VarHandle") (E : Exa Z h a C) (hsig : parseMethodDescriptor yr.desc = some sig) (hlen : argsL.length = sig.parameters.length) (has : (.ref a :: argsL).toArray = as) (hst : St = argsL.reverse ++ .ref a :: rest) (hsz : Ls.size = maxL) (hd : decode bytes pc = .ok (.invokevirtual i, 3)) (hp : pc + 3 = pc')
    (hf : rm.frames + 1 ≤ R.frames) {W : Nat} (hW : (rest.map fun v => v.category).sum = W) (hl : W + (maxL' + 11) + rm.locals ≤ R.locals) (hc : cells + rm.cells ≤ R.cells) (hs : slots + rm.slots ≤ R.slots) (hws : ∀ x ∈ ws', x ∈ ws ∨ h0.size ≤ x)
    (k : ∀ T' h' v, Here p l e R s m args below meth c y bytes maxL ret Z h0 ws T' (cells + rm.cells) (slots + rm.slots) h' → Keep h h' ws' → Q v h' → Runs p e below (T'.setTop (mkF m pc' Ls (v.toList ++ rest))) G) : Runs p e below (T.setTop (mkF m pc Ls St)) G := by
  subst hp hst
  have X' := X
  obtain ⟨⟨x1, x2, x3, x4, x5, x6, x7, x8⟩, x9, x10, locs, S, N⟩ := X
  obtain ⟨cq, kq, q1, q2, q3⟩ := isOf (T := T) x2 x9 E
  obtain ⟨v, vm₁, ⟨U, lo, ce, sl⟩, -, SU, ⟨Lc, hQ, z1, z2, z3⟩, st⟩ := S.virtualBack x1 (y := yr) (z := y') x5 (mvT x2 w1) (mvT x2 w5) (nf args (mvT x2 w6)) (mvT x2 w6) (mvT x2 w2) hy (backCt X' hM w4 w3 hf hl) q1 q3 (g := mkF m pc Ls (argsL.reverse ++ .ref a :: rest)) rfl (hsz.trans x4.symm) (Steps.refl _) (argsL := argsL) (rest := rest) (lenOf hsig hlen) rfl (by show 2 * 0 + _ ≤ _; rw [hW]; omega) (hb x3 hd) (fun _ _ => ⟨has, x9, hc, hs⟩)
  dsimp only [Pt.U, Pt.locs, Pt.cells, Pt.slots] at SU z1 z2 z3 st hQ
  subst z1 z2 z3
  exact (k U _ v (X'.back N SU rfl hQ.2.1 hQ.2.2 hws) hQ.2.1 hQ.1).via st
theorem Here.priv (X : Here p l e R s m args below meth c y bytes maxL ret Z h0 ws T cells slots h) {pc pc' : Nat} {Ls : Array Slot} {St : List Value} {i : Nat} {C : String} {sig : MethodDescriptor} {a : Addr} {argsL rest : List Value} (hM : Ct l Z y' bytes' maxL' ret' rm as h ws' Q) (w1 : (Jvm.Cond.methodLink y.cls i y').before a0 Z = true) (w6 : (Jvm.Cond.selects y'.cls y' y').before a0 Z = true) (w7 : (Jvm.Cond.privateMethod y').before a0 Z = true) (w2 : (Jvm.Cond.instanceMethod y').before a0 Z = true) (w3 : (Jvm.Cond.initialized y'.cls).before a0 Z = true) (w4 : (Jvm.Cond.code y' bytes' maxL' ret').before a0 Z = true)
    (hy : y'.cls ≠ "java/lang/invoke/MethodHandle" ∧ y'.cls ≠ "java/lang/invoke/VarHandle") (E : Exa Z h a C) (hsig : parseMethodDescriptor y'.desc = some sig) (hlen : argsL.length = sig.parameters.length) (has : (.ref a :: argsL).toArray = as) (hst : St = argsL.reverse ++ .ref a :: rest) (hsz : Ls.size = maxL) (hd : decode bytes pc = .ok (.invokevirtual i, 3)) (hp : pc + 3 = pc')
    (hf : rm.frames + 1 ≤ R.frames) {W : Nat} (hW : (rest.map fun v => v.category).sum = W) (hl : W + (maxL' + 11) + rm.locals ≤ R.locals) (hc : cells + rm.cells ≤ R.cells) (hs : slots + rm.slots ≤ R.slots) (hws : ∀ x ∈ ws', x ∈ ws ∨ h0.size ≤ x)
    (k : ∀ T' h' v, Here p l e R s m args below meth c y bytes maxL ret Z h0 ws T' (cells + rm.cells) (slots + rm.slots) h' → Keep h h' ws' → Q v h' → Runs p e below (T'.setTop (mkF m pc' Ls (v.toList ++ rest))) G) : Runs p e below (T.setTop (mkF m pc Ls St)) G := by
  subst hp hst
  have X' := X
  obtain ⟨⟨x1, x2, x3, x4, x5, x6, x7, x8⟩, x9, x10, locs, S, N⟩ := X
  obtain ⟨cq, q1, q2⟩ := E.cell
  obtain ⟨v, vm₁, ⟨U, lo, ce, sl⟩, -, SU, ⟨Lc, hQ, z1, z2, z3⟩, st⟩ := S.privateBack x1 (y := y') x5 (mvT x2 w1) (mvT x2 w2) (mvT x2 w6) (Cond.privateMethod_at (mvP x2 w7 (args := #[]))) (mvT x2 w4) hy (backCt X' hM w4 w3 hf hl) (g := mkF m pc Ls (argsL.reverse ++ .ref a :: rest)) rfl (hsz.trans x4.symm) (Steps.refl _) (a := a) (by rw [x9]; exact q1) q2 (argsL := argsL) (rest := rest) (lenOf hsig hlen) rfl (by show 2 * 0 + _ ≤ _; rw [hW]; omega) (hb x3 hd) (fun _ _ => ⟨has, x9, hc, hs⟩)
  dsimp only [Pt.U, Pt.locs, Pt.cells, Pt.slots] at SU z1 z2 z3 st hQ
  subst z1 z2 z3
  exact (k U _ v (X'.back N SU rfl hQ.2.1 hQ.2.2 hws) hQ.2.1 hQ.1).via st

/-! the returns -/
theorem Here.leave (X : Here p l e R s m args below meth c y bytes maxL ret Z h0 ws T cells slots h) {Q : Option Value → Heap → Prop} {rm : Room} {g : JFrame} {v : Option Value} (hv : ret = none → v = none) (hc : cells ≤ rm.cells) (hs : slots ≤ rm.slots) (hq : Q v h)
    (st : ∀ locs fs, p.tables.exec = Jvm.exec → c.code = bytes → meth.sig.returnType = ret → Stand p l e R s m args below meth c T locs cells slots → (∀ (f : JFrame) (acts : List Action), f.method = m → f.locked = none → f.entered = [] → (doReturn e (T.setTop f) acts v).1 = T.setFrames fs) → Steps p.tables e below (T.setTop g) (T.setFrames fs)) :
    Runs p e below (T.setTop g) (Out s h0 ws rm Q) := by
  obtain ⟨⟨x1, x2, x3, x4, x5, x6, x7, x8⟩, x9, x10, locs, S, N⟩ := X
  obtain ⟨fs, hr, hrun, hended, hW, hsame⟩ := S.leave (v := v) (fun h => hv (x7 ▸ h)) x8
  refine ⟨_, _, st locs fs x1 x3 x7 S hr, hrun, hended, v, locs, rfl, ⟨?_, ?_, N⟩, ⟨_, rfl⟩, hW, hsame.mono hc hs⟩
  · show Q v T.heap; rw [x9]; exact hq
  · show Keep h0 T.heap ws; rw [x9]; exact x10
theorem Here.ireturn (X : Here p l e R s m args below meth c y bytes maxL ret Z h0 ws T cells slots h) {Q : Option Value → Heap → Prop} {rm : Room} {pc : Nat} {Ls : Array Slot} {St : List Value} {z : Int32} (hr : ret = some .int) (hd : decode bytes pc = .ok (.ireturn, 1)) (hc : cells ≤ rm.cells) (hs : slots ≤ rm.slots) (hq : Q (some (.int z)) h) : Runs p e below (T.setTop (mkF m pc Ls (.int z :: St))) (Out s h0 ws rm Q) := by
  subst hr
  exact X.leave (fun h => nomatch h) hc hs hq fun _ _ hx hb' hret S hl => retOut S hx hret rfl (Or.inl ⟨rfl, Or.inl rfl, _, rfl⟩) (hb hb' hd) hl
theorem Here.zreturn (X : Here p l e R s m args below meth c y bytes maxL ret Z h0 ws T cells slots h) {Q : Option Value → Heap → Prop} {rm : Room} {pc : Nat} {Ls : Array Slot} {St : List Value} {z z' : Int32} {t : FieldType} (hr : ret = some t) (ht : t = .boolean ∨ t = .byte ∨ t = .char ∨ t = .short) (hd : decode bytes pc = .ok (.ireturn, 1)) (hz : nar t z = z') (hc : cells ≤ rm.cells) (hs : slots ≤ rm.slots) (hq : Q (some (.int z')) h) : Runs p e below (T.setTop (mkF m pc Ls (.int z :: St))) (Out s h0 ws rm Q) := by
  subst hr hz
  exact X.leave (fun h => nomatch h) hc hs hq fun _ _ hx hb' hret S hl => retN S hx hret ht (hb hb' hd) hl
theorem Here.lreturn (X : Here p l e R s m args below meth c y bytes maxL ret Z h0 ws T cells slots h) {Q : Option Value → Heap → Prop} {rm : Room} {pc : Nat} {Ls : Array Slot} {St : List Value} {z : Int64} (hr : ret = some .long) (hd : decode bytes pc = .ok (.lreturn, 1)) (hc : cells ≤ rm.cells) (hs : slots ≤ rm.slots) (hq : Q (some (.long z)) h) : Runs p e below (T.setTop (mkF m pc Ls (.long z :: St))) (Out s h0 ws rm Q) := by
  subst hr
  exact X.leave (fun h => nomatch h) hc hs hq fun _ _ hx hb' hret S hl => retOut S hx hret rfl (Or.inr (Or.inl ⟨rfl, rfl, _, rfl⟩)) (hb hb' hd) hl
theorem Here.areturn (X : Here p l e R s m args below meth c y bytes maxL ret Z h0 ws T cells slots h) {Q : Option Value → Heap → Prop} {rm : Room} {pc : Nat} {Ls : Array Slot} {St : List Value} {v : Value} {t : FieldType} (hr : ret = some t) (ht : t.isReference = true) (hv : v.isRef = true) (hn : narrow t v = v) (hd : decode bytes pc = .ok (.areturn, 1)) (hc : cells ≤ rm.cells) (hs : slots ≤ rm.slots) (hq : Q (some v) h) : Runs p e below (T.setTop (mkF m pc Ls (v :: St))) (Out s h0 ws rm Q) := by
  subst hr
  exact X.leave (fun h => nomatch h) hc hs hq fun _ _ hx hb' hret S hl => retOut S hx hret hn (Or.inr (Or.inr (Or.inr (Or.inr ⟨rfl, ht, hv⟩)))) (hb hb' hd) hl
theorem Here.vreturn (X : Here p l e R s m args below meth c y bytes maxL ret Z h0 ws T cells slots h) {Q : Option Value → Heap → Prop} {rm : Room} {pc : Nat} {Ls : Array Slot} (hr : ret = none) (hd : decode bytes pc = .ok (.return_, 1)) (hc : cells ≤ rm.cells) (hs : slots ≤ rm.slots) (hq : Q none h) : Runs p e below (T.setTop (mkF m pc Ls [])) (Out s h0 ws rm Q) := by
  subst hr
  exact X.leave (fun _ => rfl) hc hs hq fun _ _ hx hb' hret S hl => S.returnOut hx hret (hb hb' hd) hl
end B
end Jvm.Own
namespace Jvm.Own
open Jvm Jvm.ClassFile Sem Op Lib Jvm.Free Jvm.Stand Jvm.LawKit Jvm.RoadKit
theorem xd_dload {tb : Tables} [Ours tb] {e : Env} {below : List Frame} {T target : State} {m : MethodId} {c : Code} {g : JFrame} (h : At T m c below) (hx : tb.exec = Jvm.exec) (hg : g.method = m) {k : Nat} {v : UInt64} (hd : decode c.code g.pc = .ok (.dload k, 2)) (hl : g.locals[k]? = some (.val (.double v))) (hr : Steps tb e below (T.setTop { g with pc := g.pc + 2, stack := .double v :: g.stack }) target) : Steps tb e below (T.setTop g) target := by
  subst hg
  jvm_step h [h.top, hx, hd, hl]
  exact hr
theorem xd_dloadN {tb : Tables} [Ours tb] {e : Env} {below : List Frame} {T target : State} {m : MethodId} {c : Code} {g : JFrame} (h : At T m c below) (hx : tb.exec = Jvm.exec) (hg : g.method = m) {k : Fin 4} {v : UInt64} (hd : decode c.code g.pc = .ok (.dload_n k, 1)) (hl : g.locals[k.val]? = some (.val (.double v))) (hr : Steps tb e below (T.setTop { g with pc := g.pc + 1, stack := .double v :: g.stack }) target) : Steps tb e below (T.setTop g) target := by
  subst hg
  jvm_step h [h.top, hx, hd, hl]
  exact hr
theorem xd_dstore {tb : Tables} [Ours tb] {e : Env} {below : List Frame} {T target : State} {m : MethodId} {c : Code} {g : JFrame} (h : At T m c below) (hx : tb.exec = Jvm.exec) (hg : g.method = m) {k : Nat} {v : UInt64} {rest : List Value} {l' : Array Slot} (hd : decode c.code g.pc = .ok (.dstore k, 2)) (hs : g.stack = .double v :: rest) (hl : storeLocals g.locals k (.double v) = some l') (hr : Steps tb e below (T.setTop { g with pc := g.pc + 2, stack := rest, locals := l' }) target) : Steps tb e below (T.setTop g) target := by
  subst hg
  jvm_step h [h.top, hx, hd, hs, hl]
  exact hr
theorem xd_dstoreN {tb : Tables} [Ours tb] {e : Env} {below : List Frame} {T target : State} {m : MethodId} {c : Code} {g : JFrame} (h : At T m c below) (hx : tb.exec = Jvm.exec) (hg : g.method = m) {k : Fin 4} {v : UInt64} {rest : List Value} {l' : Array Slot} (hd : decode c.code g.pc = .ok (.dstore_n k, 1)) (hs : g.stack = .double v :: rest) (hl : storeLocals g.locals k.val (.double v) = some l') (hr : Steps tb e below (T.setTop { g with pc := g.pc + 1, stack := rest, locals := l' }) target) : Steps tb e below (T.setTop g) target := by
  subst hg
  jvm_step h [h.top, hx, hd, hs, hl]
  exact hr
theorem xd_l2d {tb : Tables} [Ours tb] {e : Env} {below : List Frame} {T target : State} {m : MethodId} {c : Code} {g : JFrame} (h : At T m c below) (hx : tb.exec = Jvm.exec) (hg : g.method = m) {a : Int64} {rest : List Value} (hd : decode c.code g.pc = .ok (.l2d, 1)) (hs : g.stack = .long a :: rest) (hr : Steps tb e below (T.setTop { g with pc := g.pc + 1, stack := .double (FP.l2d a) :: rest }) target) : Steps tb e below (T.setTop g) target := by
  subst hg
  jvm_step h [h.top, hx, hd, l2d.wp_sem, hs]
  exact hr
theorem xd_i2d {tb : Tables} [Ours tb] {e : Env} {below : List Frame} {T target : State} {m : MethodId} {c : Code} {g : JFrame} (h : At T m c below) (hx : tb.exec = Jvm.exec) (hg : g.method = m) {a : Int32} {rest : List Value} (hd : decode c.code g.pc = .ok (.i2d, 1)) (hs : g.stack = .int a :: rest) (hr : Steps tb e below (T.setTop { g with pc := g.pc + 1, stack := .double (FP.i2d a) :: rest }) target) : Steps tb e below (T.setTop g) target := by
  subst hg
  jvm_step h [h.top, hx, hd, i2d.wp_sem, hs]
  exact hr
theorem xd_dconst0 {tb : Tables} [Ours tb] {e : Env} {below : List Frame} {T target : State} {m : MethodId} {c : Code} {g : JFrame} (h : At T m c below) (hx : tb.exec = Jvm.exec) (hg : g.method = m)  (hd : decode c.code g.pc = .ok (.dconst 0, 1))  (hr : Steps tb e below (T.setTop { g with pc := g.pc + 1, stack := .double FP.dconst0 :: g.stack }) target) : Steps tb e below (T.setTop g) target := by
  subst hg
  jvm_step h [h.top, hx, hd, dconst.wp_sem]
  exact hr
theorem xd_dconst1 {tb : Tables} [Ours tb] {e : Env} {below : List Frame} {T target : State} {m : MethodId} {c : Code} {g : JFrame} (h : At T m c below) (hx : tb.exec = Jvm.exec) (hg : g.method = m)  (hd : decode c.code g.pc = .ok (.dconst 1, 1))  (hr : Steps tb e below (T.setTop { g with pc := g.pc + 1, stack := .double FP.dconst1 :: g.stack }) target) : Steps tb e below (T.setTop g) target := by
  subst hg
  jvm_step h [h.top, hx, hd, dconst.wp_sem]
  exact hr
theorem xd_dadd {tb : Tables} [Ours tb] {e : Env} {below : List Frame} {T target : State} {m : MethodId} {c : Code} {g : JFrame} (h : At T m c below) (hx : tb.exec = Jvm.exec) (hg : g.method = m) {a b : UInt64} {rest : List Value} (hd : decode c.code g.pc = .ok (.dadd, 1)) (hs : g.stack = .double b :: .double a :: rest) (hn : Jvm.Free.Fl.NoNaN64 (FP.dadd a b)) (hr : Steps tb e below (T.setTop { g with pc := g.pc + 1, stack := .double (FP.dadd a b) :: rest }) target) : Steps tb e below (T.setTop g) target := by
  subst hg
  jvm_step h [hx, hd, dadd.wp_number (s := T) (f := g) h.top hs hn]
  exact hr
theorem xd_dsub {tb : Tables} [Ours tb] {e : Env} {below : List Frame} {T target : State} {m : MethodId} {c : Code} {g : JFrame} (h : At T m c below) (hx : tb.exec = Jvm.exec) (hg : g.method = m) {a b : UInt64} {rest : List Value} (hd : decode c.code g.pc = .ok (.dsub, 1)) (hs : g.stack = .double b :: .double a :: rest) (hn : Jvm.Free.Fl.NoNaN64 (FP.dsub a b)) (hr : Steps tb e below (T.setTop { g with pc := g.pc + 1, stack := .double (FP.dsub a b) :: rest }) target) : Steps tb e below (T.setTop g) target := by
  subst hg
  jvm_step h [hx, hd, dsub.wp_number (s := T) (f := g) h.top hs hn]
  exact hr
theorem xd_dmul {tb : Tables} [Ours tb] {e : Env} {below : List Frame} {T target : State} {m : MethodId} {c : Code} {g : JFrame} (h : At T m c below) (hx : tb.exec = Jvm.exec) (hg : g.method = m) {a b : UInt64} {rest : List Value} (hd : decode c.code g.pc = .ok (.dmul, 1)) (hs : g.stack = .double b :: .double a :: rest) (hn : Jvm.Free.Fl.NoNaN64 (FP.dmul a b)) (hr : Steps tb e below (T.setTop { g with pc := g.pc + 1, stack := .double (FP.dmul a b) :: rest }) target) : Steps tb e below (T.setTop g) target := by
  subst hg
  jvm_step h [hx, hd, dmul.wp_number (s := T) (f := g) h.top hs hn]
  exact hr
theorem xd_ddiv {tb : Tables} [Ours tb] {e : Env} {below : List Frame} {T target : State} {m : MethodId} {c : Code} {g : JFrame} (h : At T m c below) (hx : tb.exec = Jvm.exec) (hg : g.method = m) {a b : UInt64} {rest : List Value} (hd : decode c.code g.pc = .ok (.ddiv, 1)) (hs : g.stack = .double b :: .double a :: rest) (hn : Jvm.Free.Fl.NoNaN64 (FP.ddiv a b)) (hr : Steps tb e below (T.setTop { g with pc := g.pc + 1, stack := .double (FP.ddiv a b) :: rest }) target) : Steps tb e below (T.setTop g) target := by
  subst hg
  jvm_step h [hx, hd, ddiv.wp_number (s := T) (f := g) h.top hs hn]
  exact hr
theorem xd_dcmp {tb : Tables} [Ours tb] {e : Env} {below : List Frame} {T target : State} {m : MethodId} {c : Code} {g : JFrame} (h : At T m c below) (hx : tb.exec = Jvm.exec) (hg : g.method = m) {op : CmpOp} {a b : UInt64} {rest : List Value} (hd : decode c.code g.pc = .ok (.dcmp op, 1)) (hs : g.stack = .double b :: .double a :: rest) (hr : Steps tb e below (T.setTop { g with pc := g.pc + 1, stack := .int (cmpValue (FP.dcmp a b) op) :: rest }) target) : Steps tb e below (T.setTop g) target := by
  subst hg
  jvm_step h [h.top, hx, hd, dcmp.wp_sem, hs]
  exact hr
section D
variable {p : Program} {l : Launch} {e : Env} {R : Room} {s : State} {m : MethodId} {args : Array Value} {below : List Frame} {meth : Method} {c : Code} {y : MethodName} {bytes : ByteArray} {maxL : Nat} {ret : Option FieldType} {Z : State} {h0 : Heap} {ws : List Addr} {T : State} {cells slots : Nat} {h : Heap} {G : Outcome → State → Prop} {a0 : Array Value}
theorem Here.dload (X : Here p l e R s m args below meth c y bytes maxL ret Z h0 ws T cells slots h) {pc pc' : Nat} {Ls : Array Slot} {St : List Value} {i : Nat} {v : UInt64} (hd : decode bytes pc = .ok (.dload i, 2)) (hl : Ls[i]? = some (.val (.double v))) (hp : pc + 2 = pc') (k : Runs p e below (T.setTop (mkF m pc' Ls (.double v :: St))) G) : Runs p e below (T.setTop (mkF m pc Ls (St))) G := by
  subst hp
  exact X.step (fun _ hx hb' _ hown _ S t q => xd_dload S.here hx rfl (hb hb' hd) hl q) k
theorem Here.dloadN (X : Here p l e R s m args below meth c y bytes maxL ret Z h0 ws T cells slots h) {pc pc' : Nat} {Ls : Array Slot} {St : List Value} {i : Fin 4} {v : UInt64} (hd : decode bytes pc = .ok (.dload_n i, 1)) (hl : Ls[i.val]? = some (.val (.double v))) (hp : pc + 1 = pc') (k : Runs p e below (T.setTop (mkF m pc' Ls (.double v :: St))) G) : Runs p e below (T.setTop (mkF m pc Ls (St))) G := by
  subst hp
  exact X.step (fun _ hx hb' _ hown _ S t q => xd_dloadN S.here hx rfl (hb hb' hd) hl q) k
theorem Here.dstore (X : Here p l e R s m args below meth c y bytes maxL ret Z h0 ws T cells slots h) {pc pc' : Nat} {Ls : Array Slot} {St : List Value} {i : Nat} {v : UInt64} {l' : Array Slot} (hd : decode bytes pc = .ok (.dstore i, 2)) (hl : storeLocals Ls i (.double v) = some l') (hp : pc + 2 = pc') (k : Runs p e below (T.setTop (mkF m pc' l' (St))) G) : Runs p e below (T.setTop (mkF m pc Ls (.double v :: St))) G := by
  subst hp
  exact X.step (fun _ hx hb' _ hown _ S t q => xd_dstore S.here hx rfl (hb hb' hd) rfl hl q) k
theorem Here.dstoreN (X : Here p l e R s m args below meth c y bytes maxL ret Z h0 ws T cells slots h) {pc pc' : Nat} {Ls : Array Slot} {St : List Value} {i : Fin 4} {v : UInt64} {l' : Array Slot} (hd : decode bytes pc = .ok (.dstore_n i, 1)) (hl : storeLocals Ls i.val (.double v) = some l') (hp : pc + 1 = pc') (k : Runs p e below (T.setTop (mkF m pc' l' (St))) G) : Runs p e below (T.setTop (mkF m pc Ls (.double v :: St))) G := by
  subst hp
  exact X.step (fun _ hx hb' _ hown _ S t q => xd_dstoreN S.here hx rfl (hb hb' hd) rfl hl q) k
theorem Here.l2d (X : Here p l e R s m args below meth c y bytes maxL ret Z h0 ws T cells slots h) {pc pc' : Nat} {Ls : Array Slot} {St : List Value} {a : Int64} (hd : decode bytes pc = .ok (.l2d, 1))  (hp : pc + 1 = pc') (k : Runs p e below (T.setTop (mkF m pc' Ls (.double (FP.l2d a) :: St))) G) : Runs p e below (T.setTop (mkF m pc Ls (.long a :: St))) G := by
  subst hp
  exact X.step (fun _ hx hb' _ hown _ S t q => xd_l2d S.here hx rfl (hb hb' hd) rfl q) k
theorem Here.i2d (X : Here p l e R s m args below meth c y bytes maxL ret Z h0 ws T cells slots h) {pc pc' : Nat} {Ls : Array Slot} {St : List Value} {a : Int32} (hd : decode bytes pc = .ok (.i2d, 1))  (hp : pc + 1 = pc') (k : Runs p e below (T.setTop (mkF m pc' Ls (.double (FP.i2d a) :: St))) G) : Runs p e below (T.setTop (mkF m pc Ls (.int a :: St))) G := by
  subst hp
  exact X.step (fun _ hx hb' _ hown _ S t q => xd_i2d S.here hx rfl (hb hb' hd) rfl q) k
theorem Here.dconst0 (X : Here p l e R s m args below meth c y bytes maxL ret Z h0 ws T cells slots h) {pc pc' : Nat} {Ls : Array Slot} {St : List Value}  (hd : decode bytes pc = .ok (.dconst 0, 1))  (hp : pc + 1 = pc') (k : Runs p e below (T.setTop (mkF m pc' Ls (.double FP.dconst0 :: St))) G) : Runs p e below (T.setTop (mkF m pc Ls (St))) G := by
  subst hp
  exact X.step (fun _ hx hb' _ hown _ S t q => xd_dconst0 S.here hx rfl (hb hb' hd) q) k
theorem Here.dconst1 (X : Here p l e R s m args below meth c y bytes maxL ret Z h0 ws T cells slots h) {pc pc' : Nat} {Ls : Array Slot} {St : List Value}  (hd : decode bytes pc = .ok (.dconst 1, 1))  (hp : pc + 1 = pc') (k : Runs p e below (T.setTop (mkF m pc' Ls (.double FP.dconst1 :: St))) G) : Runs p e below (T.setTop (mkF m pc Ls (St))) G := by
  subst hp
  exact X.step (fun _ hx hb' _ hown _ S t q => xd_dconst1 S.here hx rfl (hb hb' hd) q) k
theorem Here.dadd (X : Here p l e R s m args below meth c y bytes maxL ret Z h0 ws T cells slots h) {pc pc' : Nat} {Ls : Array Slot} {St : List Value} {a b : UInt64} (hd : decode bytes pc = .ok (.dadd, 1)) (hn : Jvm.Free.Fl.NoNaN64 (FP.dadd a b)) (hp : pc + 1 = pc') (k : Runs p e below (T.setTop (mkF m pc' Ls (.double (FP.dadd a b) :: St))) G) : Runs p e below (T.setTop (mkF m pc Ls (.double b :: .double a :: St))) G := by
  subst hp
  exact X.step (fun _ hx hb' _ hown _ S t q => xd_dadd S.here hx rfl (hb hb' hd) rfl hn q) k
theorem Here.dsub (X : Here p l e R s m args below meth c y bytes maxL ret Z h0 ws T cells slots h) {pc pc' : Nat} {Ls : Array Slot} {St : List Value} {a b : UInt64} (hd : decode bytes pc = .ok (.dsub, 1)) (hn : Jvm.Free.Fl.NoNaN64 (FP.dsub a b)) (hp : pc + 1 = pc') (k : Runs p e below (T.setTop (mkF m pc' Ls (.double (FP.dsub a b) :: St))) G) : Runs p e below (T.setTop (mkF m pc Ls (.double b :: .double a :: St))) G := by
  subst hp
  exact X.step (fun _ hx hb' _ hown _ S t q => xd_dsub S.here hx rfl (hb hb' hd) rfl hn q) k
theorem Here.dmul (X : Here p l e R s m args below meth c y bytes maxL ret Z h0 ws T cells slots h) {pc pc' : Nat} {Ls : Array Slot} {St : List Value} {a b : UInt64} (hd : decode bytes pc = .ok (.dmul, 1)) (hn : Jvm.Free.Fl.NoNaN64 (FP.dmul a b)) (hp : pc + 1 = pc') (k : Runs p e below (T.setTop (mkF m pc' Ls (.double (FP.dmul a b) :: St))) G) : Runs p e below (T.setTop (mkF m pc Ls (.double b :: .double a :: St))) G := by
  subst hp
  exact X.step (fun _ hx hb' _ hown _ S t q => xd_dmul S.here hx rfl (hb hb' hd) rfl hn q) k
theorem Here.ddiv (X : Here p l e R s m args below meth c y bytes maxL ret Z h0 ws T cells slots h) {pc pc' : Nat} {Ls : Array Slot} {St : List Value} {a b : UInt64} (hd : decode bytes pc = .ok (.ddiv, 1)) (hn : Jvm.Free.Fl.NoNaN64 (FP.ddiv a b)) (hp : pc + 1 = pc') (k : Runs p e below (T.setTop (mkF m pc' Ls (.double (FP.ddiv a b) :: St))) G) : Runs p e below (T.setTop (mkF m pc Ls (.double b :: .double a :: St))) G := by
  subst hp
  exact X.step (fun _ hx hb' _ hown _ S t q => xd_ddiv S.here hx rfl (hb hb' hd) rfl hn q) k
theorem Here.dcmp (X : Here p l e R s m args below meth c y bytes maxL ret Z h0 ws T cells slots h) {pc pc' : Nat} {Ls : Array Slot} {St : List Value} {op : CmpOp} {a b : UInt64} {z : Int32} (hd : decode bytes pc = .ok (.dcmp op, 1)) (hz : cmpValue (FP.dcmp a b) op = z) (hp : pc + 1 = pc') (k : Runs p e below (T.setTop (mkF m pc' Ls (.int z :: St))) G) : Runs p e below (T.setTop (mkF m pc Ls (.double b :: .double a :: St))) G := by
  subst hp
  exact X.step (fun _ hx hb' _ hown _ S t q => xd_dcmp S.here hx rfl (hb hb' hd) rfl (hz ▸ q)) k
theorem Here.daload (X : Here p l e R s m args below meth c y bytes maxL ret Z h0 ws T cells slots h) {pc pc' : Nat} {Ls : Array Slot} {St : List Value} {a : Addr} {vs : List Value} {j : Int32} {v : Value} (F : Lst Z h a .double vs) (hj : Inb j vs.length) (hv : vs[j.toInt.toNat]? = some v) (hd : decode bytes pc = .ok (.daload, 1)) (hp : pc + 1 = pc')
    (k : Runs p e below (T.setTop (mkF m pc' Ls (v :: St))) G) : Runs p e below (T.setTop (mkF m pc Ls (.int j :: .ref a :: St))) G := by
  subst hp
  obtain ⟨cl, A, r, -⟩ := F
  exact X.step (fun _ hx hb' hZ _ eT S t q => S.daload hx (j := j) (v := v) (by rw [eT]; exact A.1) (State.isArrayOf_alike hZ.alike A.2.1) A.2.2 (in_of_ins r hj) (at_of_ins r hv) (g := mkF m pc Ls (.int j :: .ref a :: St)) rfl rfl (hb hb' hd) t q) k
theorem stD {locs : List Loc} (S : Stand p l e R s m args below meth c T locs cells slots) (hx : p.tables.exec = Jvm.exec) (hZ : Z.Warmed39 s.vm) (eT : T.heap = h) {a : Addr} {cl : Cell} (A : Arr Z h a cl .double) {j : Int32} {x : UInt64} (hj : ¬ (j < 0 ∨ cl.slots.size ≤ j.toNatClampNeg)) {g : JFrame} (hg : g.method = m) {rest : List Value} (hs : g.stack = .double x :: .int j :: .ref a :: rest) (hd : decode c.code g.pc = .ok (.dastore, 1)) :
    ∃ T' h', Stand p l e R s m args below meth c T' (locs ++ [⟨a, j.toNatClampNeg⟩]) cells slots ∧ T'.heap = h' ∧ Wr h h' a j.toNatClampNeg (.double x) ∧ ∀ target, Steps p.tables e below (T'.setTop { g with pc := g.pc + 1, stack := rest }) target → Steps p.tables e below (T.setTop g) target := by
  obtain ⟨X', st⟩ := S.dastore hx (by rw [eT]; exact A.1) (State.isArrayOf_alike hZ.alike A.2.1) A.2.2 hj hg hs hd
  exact ⟨_, _, X', rfl, ⟨cl, A.1, A.plain, Nat.lt_of_not_le fun q => hj (Or.inr q), by rw [← eT]; rfl⟩, st⟩
theorem Here.dastore (X : Here p l e R s m args below meth c y bytes maxL ret Z h0 ws T cells slots h) {pc pc' : Nat} {Ls : Array Slot} {St : List Value} {a : Addr} {vs : List Value} {j : Int32} {x : UInt64} (F : Lst Z h a .double vs) (hj : Inb j vs.length) (hd : decode bytes pc = .ok (.dastore, 1)) (hp : pc + 1 = pc') (hws : a ∈ ws ∨ h0.size ≤ a)
    (k : ∀ T' h', Here p l e R s m args below meth c y bytes maxL ret Z h0 ws T' cells slots h' → Wr h h' a j.toInt.toNat (.double x) → Runs p e below (T'.setTop (mkF m pc' Ls St)) G) : Runs p e below (T.setTop (mkF m pc Ls (.double x :: .int j :: .ref a :: St))) G := by
  subst hp
  obtain ⟨cl, A, r, -⟩ := F
  exact X.stepW hws (fun _ hx hb' _ hZ _ eT S => stD S hx hZ eT A (j := j) (in_of_ins r hj) (g := mkF m pc Ls (.double x :: .int j :: .ref a :: St)) rfl rfl (hb hb' hd)) k
theorem Here.dreturn (X : Here p l e R s m args below meth c y bytes maxL ret Z h0 ws T cells slots h) {Q : Option Value → Heap → Prop} {rm : Room} {pc : Nat} {Ls : Array Slot} {St : List Value} {z : UInt64} (hr : ret = some .double) (hd : decode bytes pc = .ok (.dreturn, 1)) (hc : cells ≤ rm.cells) (hs : slots ≤ rm.slots) (hq : Q (some (.double z)) h) : Runs p e below (T.setTop (mkF m pc Ls (.double z :: St))) (Out s h0 ws rm Q) := by
  subst hr
  exact X.leave (fun h => nomatch h) hc hs hq fun _ _ hx hb' hret S hl => retOut S hx hret rfl (Or.inr (Or.inr (Or.inl ⟨rfl, rfl, _, rfl⟩))) (hb hb' hd) hl
end D
end Jvm.Own
namespace Jvm.Pilot.@@N@@
open Jvm Jvm.ClassFile Sem Op Lib Jvm.Free Jvm.Stand Jvm.LawKit Jvm.RoadKit Bundle Jvm.Own Jvm.Pilot.@@N@@.Jvm.D
abbrev y1 : MethodName := ⟨"com/example/corelith/corelith/meb/Vectors", "squaredDistance", "([D[D)D"⟩
abbrev y2 : MethodName := ⟨"com/example/corelith/corelith/meb/VectorsSquaredDistancePinLaw", "lo", "(J)J"⟩
abbrev y3 : MethodName := ⟨"com/example/corelith/corelith/meb/VectorsSquaredDistancePinLaw", "hi", "(J)J"⟩
theorem pd_0 : parseMethodDescriptor "([D[D)D" = some ⟨[(.array .double), (.array .double)], some .double⟩ := by decide +kernel
theorem pd_1 : parseMethodDescriptor "(J)J" = some ⟨[.long], some .long⟩ := by decide +kernel
theorem wd_0 {a0 : Array Value} {Z : State} (hw : ∀ d ∈ tables_1, d.before a0 Z = true) : (Jvm.Cond.arrayClass Jvm.ClassFile.FieldType.double).before a0 Z = true := hw _ (List.mem_of_getElem? (i := 0) rfl)
theorem wd_1 {a0 : Array Value} {Z : State} (hw : ∀ d ∈ tables_1, d.before a0 Z = true) : (Jvm.Cond.methodLink "com/example/corelith/corelith/meb/VectorsSquaredDistancePinLaw" (16 : Nat) ({ cls := "com/example/corelith/corelith/meb/Vectors", name := "squaredDistance", desc := "([D[D)D" } : Jvm.MethodName)).before a0 Z = true := hw _ (List.mem_of_getElem? (i := 1) rfl)
theorem wd_2 {a0 : Array Value} {Z : State} (hw : ∀ d ∈ tables_1, d.before a0 Z = true) : (Jvm.Cond.static ({ cls := "com/example/corelith/corelith/meb/Vectors", name := "squaredDistance", desc := "([D[D)D" } : Jvm.MethodName)).before a0 Z = true := hw _ (List.mem_of_getElem? (i := 2) rfl)
theorem wd_3 {a0 : Array Value} {Z : State} (hw : ∀ d ∈ tables_1, d.before a0 Z = true) : (Jvm.Cond.initialized "com/example/corelith/corelith/meb/Vectors").before a0 Z = true := hw _ (List.mem_of_getElem? (i := 3) rfl)
theorem wd_4 {a0 : Array Value} {Z : State} (hw : ∀ d ∈ tables_1, d.before a0 Z = true) : (Jvm.Cond.code ({ cls := "com/example/corelith/corelith/meb/Vectors", name := "squaredDistance", desc := "([D[D)D" } : Jvm.MethodName) prog_43_method_5_code (7 : Nat) (Option.some Jvm.ClassFile.FieldType.double)).before a0 Z = true := hw _ (List.mem_of_getElem? (i := 4) rfl)
theorem wd_5 {a0 : Array Value} {Z : State} (hw : ∀ d ∈ tables_1, d.before a0 Z = true) : (Jvm.Cond.methodLink "com/example/corelith/corelith/meb/VectorsSquaredDistancePinLaw" (7 : Nat) ({ cls := "com/example/corelith/corelith/meb/VectorsSquaredDistancePinLaw", name := "lo", desc := "(J)J" } : Jvm.MethodName)).before a0 Z = true := hw _ (List.mem_of_getElem? (i := 5) rfl)
theorem wd_6 {a0 : Array Value} {Z : State} (hw : ∀ d ∈ tables_1, d.before a0 Z = true) : (Jvm.Cond.static ({ cls := "com/example/corelith/corelith/meb/VectorsSquaredDistancePinLaw", name := "lo", desc := "(J)J" } : Jvm.MethodName)).before a0 Z = true := hw _ (List.mem_of_getElem? (i := 6) rfl)
theorem wd_7 {a0 : Array Value} {Z : State} (hw : ∀ d ∈ tables_1, d.before a0 Z = true) : (Jvm.Cond.initialized "com/example/corelith/corelith/meb/VectorsSquaredDistancePinLaw").before a0 Z = true := hw _ (List.mem_of_getElem? (i := 7) rfl)
theorem wd_8 {a0 : Array Value} {Z : State} (hw : ∀ d ∈ tables_1, d.before a0 Z = true) : (Jvm.Cond.code ({ cls := "com/example/corelith/corelith/meb/VectorsSquaredDistancePinLaw", name := "lo", desc := "(J)J" } : Jvm.MethodName) method_2_code (2 : Nat) (Option.some Jvm.ClassFile.FieldType.long)).before a0 Z = true := hw _ (List.mem_of_getElem? (i := 8) rfl)
theorem wd_9 {a0 : Array Value} {Z : State} (hw : ∀ d ∈ tables_1, d.before a0 Z = true) : (Jvm.Cond.methodLink "com/example/corelith/corelith/meb/VectorsSquaredDistancePinLaw" (13 : Nat) ({ cls := "com/example/corelith/corelith/meb/VectorsSquaredDistancePinLaw", name := "hi", desc := "(J)J" } : Jvm.MethodName)).before a0 Z = true := hw _ (List.mem_of_getElem? (i := 9) rfl)
theorem wd_10 {a0 : Array Value} {Z : State} (hw : ∀ d ∈ tables_1, d.before a0 Z = true) : (Jvm.Cond.static ({ cls := "com/example/corelith/corelith/meb/VectorsSquaredDistancePinLaw", name := "hi", desc := "(J)J" } : Jvm.MethodName)).before a0 Z = true := hw _ (List.mem_of_getElem? (i := 10) rfl)
theorem wd_11 {a0 : Array Value} {Z : State} (hw : ∀ d ∈ tables_1, d.before a0 Z = true) : (Jvm.Cond.code ({ cls := "com/example/corelith/corelith/meb/VectorsSquaredDistancePinLaw", name := "hi", desc := "(J)J" } : Jvm.MethodName) method_3_code (2 : Nat) (Option.some Jvm.ClassFile.FieldType.long)).before a0 Z = true := hw _ (List.mem_of_getElem? (i := 11) rfl)
theorem d1_0 : decode prog_43_method_5_code 0 = .ok (.dconst 0, 1) := by decide +kernel
theorem d1_1 : decode prog_43_method_5_code 1 = .ok (.dstore_n 2, 1) := by decide +kernel
theorem d1_2 : decode prog_43_method_5_code 2 = .ok (.iconst 0, 1) := by decide +kernel
theorem d1_3 : decode prog_43_method_5_code 3 = .ok (.istore 4, 2) := by decide +kernel
theorem d1_5 : decode prog_43_method_5_code 5 = .ok (.iload 4, 2) := by decide +kernel
theorem d1_7 : decode prog_43_method_5_code 7 = .ok (.aload_n 0, 1) := by decide +kernel
theorem d1_8 : decode prog_43_method_5_code 8 = .ok (.arraylength, 1) := by decide +kernel
theorem d1_9 : decode prog_43_method_5_code 9 = .ok (.if_icmp .ge 28, 3) := by decide +kernel
theorem d1_12 : decode prog_43_method_5_code 12 = .ok (.aload_n 0, 1) := by decide +kernel
theorem d1_13 : decode prog_43_method_5_code 13 = .ok (.iload 4, 2) := by decide +kernel
theorem d1_15 : decode prog_43_method_5_code 15 = .ok (.daload, 1) := by decide +kernel
theorem d1_16 : decode prog_43_method_5_code 16 = .ok (.aload_n 1, 1) := by decide +kernel
theorem d1_17 : decode prog_43_method_5_code 17 = .ok (.iload 4, 2) := by decide +kernel
theorem d1_19 : decode prog_43_method_5_code 19 = .ok (.daload, 1) := by decide +kernel
theorem d1_20 : decode prog_43_method_5_code 20 = .ok (.dsub, 1) := by decide +kernel
theorem d1_21 : decode prog_43_method_5_code 21 = .ok (.dstore 5, 2) := by decide +kernel
theorem d1_23 : decode prog_43_method_5_code 23 = .ok (.dload_n 2, 1) := by decide +kernel
theorem d1_24 : decode prog_43_method_5_code 24 = .ok (.dload 5, 2) := by decide +kernel
theorem d1_26 : decode prog_43_method_5_code 26 = .ok (.dload 5, 2) := by decide +kernel
theorem d1_28 : decode prog_43_method_5_code 28 = .ok (.dmul, 1) := by decide +kernel
theorem d1_29 : decode prog_43_method_5_code 29 = .ok (.dadd, 1) := by decide +kernel
theorem d1_30 : decode prog_43_method_5_code 30 = .ok (.dstore_n 2, 1) := by decide +kernel
theorem d1_31 : decode prog_43_method_5_code 31 = .ok (.iinc 4 1, 3) := by decide +kernel
theorem d1_34 : decode prog_43_method_5_code 34 = .ok (.goto (-29), 3) := by decide +kernel
theorem d1_37 : decode prog_43_method_5_code 37 = .ok (.dload_n 2, 1) := by decide +kernel
theorem d1_38 : decode prog_43_method_5_code 38 = .ok (.dreturn, 1) := by decide +kernel
theorem d2_0 : decode method_2_code 0 = .ok (.lload_n 0, 1) := by decide +kernel
theorem d2_1 : decode method_2_code 1 = .ok (.bipush 40, 2) := by decide +kernel
theorem d2_3 : decode method_2_code 3 = .ok (.lshl, 1) := by decide +kernel
theorem d2_4 : decode method_2_code 4 = .ok (.bipush 40, 2) := by decide +kernel
theorem d2_6 : decode method_2_code 6 = .ok (.lshr, 1) := by decide +kernel
theorem d2_7 : decode method_2_code 7 = .ok (.lreturn, 1) := by decide +kernel
theorem d3_0 : decode method_3_code 0 = .ok (.lload_n 0, 1) := by decide +kernel
theorem d3_1 : decode method_3_code 1 = .ok (.bipush 16, 2) := by decide +kernel
theorem d3_3 : decode method_3_code 3 = .ok (.lshl, 1) := by decide +kernel
theorem d3_4 : decode method_3_code 4 = .ok (.bipush 40, 2) := by decide +kernel
theorem d3_6 : decode method_3_code 6 = .ok (.lshr, 1) := by decide +kernel
theorem d3_7 : decode method_3_code 7 = .ok (.lreturn, 1) := by decide +kernel
theorem own_dn {V : Int} {x : UInt64} (h : Jvm.FP.Core.DInt V x) : Jvm.Free.Fl.NoNaN64 x := Jvm.Free.Fl.val64_no.mpr fun q => by
  unfold Jvm.FP.Core.DInt at h; rw [q] at h; exact h.elim
theorem own_mb {i j : Int} {a b : Nat} (hi : i.natAbs ≤ a) (hj : j.natAbs ≤ b) : (i * j).natAbs ≤ a * b := by rw [Int.natAbs_mul]; exact Nat.mul_le_mul hi hj
theorem own_ab {i j : Int} {a b : Nat} (hi : i.natAbs ≤ a) (hj : j.natAbs ≤ b) : (i + j).natAbs ≤ a + b := by omega
theorem own_sb {i j : Int} {a b : Nat} (hi : i.natAbs ≤ a) (hj : j.natAbs ≤ b) : (i - j).natAbs ≤ a + b := by omega
theorem own_dc0 {i j : Int} {a b : UInt64} {op : CmpOp} (ha : Jvm.FP.Core.DInt i a) (hb : Jvm.FP.Core.DInt j b) (h : i = j) : cmpValue (FP.dcmp a b) op = 0 := by
  have := Jvm.FP.Core.dcmp_int ha hb
  rw [show FP.dcmp a b = some (compare i j) from this, h, Jvm.FP.Core.compare_self_int]; rfl
theorem own_d0 : Jvm.FP.Core.DInt 0 FP.dconst0 := by
  unfold Jvm.FP.Core.DInt
  rw [show Jvm.FP.Core.val64 FP.dconst0 = _ from Jvm.FP.Core.val64_dconst0]
  show Jvm.FP.Core.signed false (0 * 2 ^ (Jvm.FP.Core.b64.qmin).toNat) = 0 * _
  rw [Nat.zero_mul, Int.zero_mul]; rfl
theorem own_lm {x y : Int64} {b : Nat} (h : (x.toInt * y.toInt).natAbs ≤ b) (hb : b < 2 ^ 62) : (x * y).toInt = x.toInt * y.toInt := by
  have k := c_lmul x y
  have r := rng64 (x * y)
  omega
theorem own_la {x y : Int64} {b : Nat} (h : (x.toInt + y.toInt).natAbs ≤ b) (hb : b < 2 ^ 62) : (x + y).toInt = x.toInt + y.toInt := by
  have k := c_ladd x y
  have r := rng64 (x + y)
  omega
theorem own_ls {x y : Int64} {b : Nat} (h : (x.toInt - y.toInt).natAbs ≤ b) (hb : b < 2 ^ 62) : (x - y).toInt = x.toInt - y.toInt := by
  have k := c_lsub x y
  have r := rng64 (x - y)
  omega
theorem own_three (x : Int32) : ∀ z, z = (x &&& (3 : Int32)) → z = (0 : Int32) ∨ z = (1 : Int32) ∨ z = (2 : Int32) ∨ z = (3 : Int32) := by
  intro z hz
  have h := c_mask x (3 : Int32) 2 (by decide) (by decide)
  rw [← hz] at h
  have : z.toInt = 0 ∨ z.toInt = 1 ∨ z.toInt = 2 ∨ z.toInt = 3 := by omega
  rcases this with h | h | h | h <;> simp [← Int32.toInt_inj, h]
theorem own_im {x y : Int32} {b : Nat} (h : (x.toInt * y.toInt).natAbs ≤ b) (hb : b < 2 ^ 62) : (x.toInt64 * y.toInt64).toInt = x.toInt * y.toInt := by
  have := own_lm (x := x.toInt64) (y := y.toInt64) (by rw [c_i2l, c_i2l]; exact h) hb
  rwa [c_i2l, c_i2l] at this
theorem own_lo (q : Int64) (k : Int32) : ((q <<< ((k &&& 0x3f).toInt64)) >>> (((40 : Int32) &&& 0x3f).toInt64)).toInt.natAbs ≤ 8388608 := by
  have h := c_lshr (q <<< ((k &&& 0x3f).toInt64)) (40 : Int32) 40 (by decide)
  have r := rng64 (q <<< ((k &&& 0x3f).toInt64))
  rw [h]; omega
def own_l (q : Int64) : Int64 := ((q <<< ((40 : Int32) &&& 0x3f).toInt64) >>> ((40 : Int32) &&& 0x3f).toInt64)
theorem own_lb (q : Int64) : (own_l q).toInt.natAbs ≤ 8388608 := own_lo q _
set_option maxRecDepth 65536 in
set_option maxHeartbeats 40000000 in
theorem ct2 (l : Launch) (Z : State) (a0 : Array Value) (hw : ∀ d ∈ tables_1, d.before a0 Z = true) (q : Int64) (h0 : Heap)  :
    Ct l Z y2 method_2_code 2 (some .long) ({ frames := 0, cells := 0, slots := 0, locals := 0 } : Room) #[(.long q)] h0 [] (fun v h => v = some (.long (own_l q)) ∧ h0 = h) := by
  refine Ct.of (plainFor_of_name (by first | (simp [plainName, overriddenIn]; done) | decide +kernel)) ?_
  intro p e s m below meth c T0 X0
  refine Runs.top (g' := mkF m 0 #[.val (.long q), .second] []) (by first | (simp [entryFrame, mkF, argsToLocals, Value.category]; done) | rfl) ?_
  refine X0.lloadN (pc' := 1) d2_0 rfl rfl ?_
  refine X0.bipush (pc' := 3) (z := 40) d2_1 rfl rfl ?_
  refine X0.lshl (pc' := 4) d2_3 rfl ?_
  refine X0.bipush (pc' := 6) (z := 40) d2_4 rfl rfl ?_
  refine X0.lshr (pc' := 7) d2_6 rfl ?_
  exact X0.lreturn rfl d2_7 (by decide) (by decide) ⟨rfl, rfl⟩
def own_h (q : Int64) : Int64 := ((q <<< ((16 : Int32) &&& 0x3f).toInt64) >>> ((40 : Int32) &&& 0x3f).toInt64)
theorem own_hb (q : Int64) : (own_h q).toInt.natAbs ≤ 8388608 := own_lo q _
set_option maxRecDepth 65536 in
set_option maxHeartbeats 40000000 in
theorem ct3 (l : Launch) (Z : State) (a0 : Array Value) (hw : ∀ d ∈ tables_1, d.before a0 Z = true) (q : Int64) (h0 : Heap)  :
    Ct l Z y3 method_3_code 2 (some .long) ({ frames := 0, cells := 0, slots := 0, locals := 0 } : Room) #[(.long q)] h0 [] (fun v h => v = some (.long (own_h q)) ∧ h0 = h) := by
  refine Ct.of (plainFor_of_name (by first | (simp [plainName, overriddenIn]; done) | decide +kernel)) ?_
  intro p e s m below meth c T0 X0
  refine Runs.top (g' := mkF m 0 #[.val (.long q), .second] []) (by first | (simp [entryFrame, mkF, argsToLocals, Value.category]; done) | rfl) ?_
  refine X0.lloadN (pc' := 1) d3_0 rfl rfl ?_
  refine X0.bipush (pc' := 3) (z := 16) d3_1 rfl rfl ?_
  refine X0.lshl (pc' := 4) d3_3 rfl ?_
  refine X0.bipush (pc' := 6) (z := 40) d3_4 rfl rfl ?_
  refine X0.lshr (pc' := 7) d3_6 rfl ?_
  exact X0.lreturn rfl d3_7 (by decide) (by decide) ⟨rfl, rfl⟩
set_option maxRecDepth 65536 in
set_option maxHeartbeats 40000000 in
theorem cts_0 (l : Launch) (Z : State) (a0 : Array Value) (hw : ∀ d ∈ tables_1, d.before a0 Z = true) (a b : Addr) (h0 : Heap) (Va : Lst Z h0 a .double []) (Vb : Lst Z h0 b .double []) :
    Ct l Z y1 prog_43_method_5_code 7 (some .double) ({ frames := 0, cells := 0, slots := 0, locals := 0 } : Room) #[(.ref a), (.ref b)] h0 [] (fun v h => (∃ r, v = some (.double r) ∧ Jvm.FP.Core.DInt 0 r) ∧ h0 = h) := by
  refine Ct.of (plainFor_of_name (by first | (simp [plainName, overriddenIn]; done) | decide +kernel)) ?_
  intro p e s m below meth c T0 X0
  refine Runs.top (g' := mkF m 0 #[.val (.ref a), .val (.ref b), .unset, .unset, .unset, .unset, .unset] []) (by first | (simp [entryFrame, mkF, argsToLocals, Value.category]; done) | rfl) ?_
  refine X0.dconst0 (pc' := 1) d1_0 rfl ?_
  refine X0.dstoreN (pc' := 2) (l' := #[.val (.ref a), .val (.ref b), .val (.double FP.dconst0), .second, .unset, .unset, .unset]) d1_1 rfl rfl ?_
  refine X0.iconst (pc' := 3) (z := 0) d1_2 rfl rfl ?_
  refine X0.istore (pc' := 5) (l' := #[.val (.ref a), .val (.ref b), .val (.double FP.dconst0), .second, .val (.int (0 : Int32)), .unset, .unset]) d1_3 rfl rfl ?_
  refine X0.iload (pc' := 7) d1_5 rfl rfl ?_
  refine X0.aloadN (pc' := 8) d1_7 rfl rfl rfl ?_
  refine X0.arraylength (pc' := 9) (n := (0 : Int32)) Va rfl d1_8 rfl ?_
  refine X0.icmpYes (pc' := 37) d1_9 (by decide) (by decide) (by decide) ?_
  refine X0.dloadN (pc' := 38) d1_37 rfl rfl ?_
  exact X0.dreturn rfl d1_38 (by decide) (by decide) ⟨⟨_, rfl, own_d0⟩, rfl⟩
set_option maxRecDepth 65536 in
set_option maxHeartbeats 40000000 in
theorem cts_1 (l : Launch) (Z : State) (a0 : Array Value) (hw : ∀ d ∈ tables_1, d.before a0 Z = true) (a b : Addr) (du0 dv0 : UInt64) (iu0 iv0 : Int) (h0 : Heap) (Va : Lst Z h0 a .double [(.double du0)]) (Vb : Lst Z h0 b .double [(.double dv0)]) (Du0 : Jvm.FP.Core.DInt iu0 du0) (Bu0 : iu0.natAbs ≤ 8388608) (Dv0 : Jvm.FP.Core.DInt iv0 dv0) (Bv0 : iv0.natAbs ≤ 8388608) :
    Ct l Z y1 prog_43_method_5_code 7 (some .double) ({ frames := 0, cells := 0, slots := 0, locals := 0 } : Room) #[(.ref a), (.ref b)] h0 [] (fun v h => (∃ r, v = some (.double r) ∧ Jvm.FP.Core.DInt (0 + ((iu0 - iv0) * (iu0 - iv0))) r) ∧ h0 = h) := by
  refine Ct.of (plainFor_of_name (by first | (simp [plainName, overriddenIn]; done) | decide +kernel)) ?_
  intro p e s m below meth c T0 X0
  refine Runs.top (g' := mkF m 0 #[.val (.ref a), .val (.ref b), .unset, .unset, .unset, .unset, .unset] []) (by first | (simp [entryFrame, mkF, argsToLocals, Value.category]; done) | rfl) ?_
  refine X0.dconst0 (pc' := 1) d1_0 rfl ?_
  refine X0.dstoreN (pc' := 2) (l' := #[.val (.ref a), .val (.ref b), .val (.double FP.dconst0), .second, .unset, .unset, .unset]) d1_1 rfl rfl ?_
  refine X0.iconst (pc' := 3) (z := 0) d1_2 rfl rfl ?_
  refine X0.istore (pc' := 5) (l' := #[.val (.ref a), .val (.ref b), .val (.double FP.dconst0), .second, .val (.int (0 : Int32)), .unset, .unset]) d1_3 rfl rfl ?_
  refine X0.iload (pc' := 7) d1_5 rfl rfl ?_
  refine X0.aloadN (pc' := 8) d1_7 rfl rfl rfl ?_
  refine X0.arraylength (pc' := 9) (n := (1 : Int32)) Va rfl d1_8 rfl ?_
  refine X0.icmpNo (pc' := 12) d1_9 (by decide) rfl ?_
  refine X0.aloadN (pc' := 13) d1_12 rfl rfl rfl ?_
  refine X0.iload (pc' := 15) d1_13 rfl rfl ?_
  refine X0.daload (pc' := 16) (v := (.double du0)) Va (show Inb (0 : Int32) 1 from ⟨by decide, by decide⟩) rfl d1_15 rfl ?_
  refine X0.aloadN (pc' := 17) d1_16 rfl rfl rfl ?_
  refine X0.iload (pc' := 19) d1_17 rfl rfl ?_
  refine X0.daload (pc' := 20) (v := (.double dv0)) Vb (show Inb (0 : Int32) 1 from ⟨by decide, by decide⟩) rfl d1_19 rfl ?_
  have bd1 : (iu0 - iv0).natAbs ≤ 16777216 := own_sb Bu0 Bv0
  have di1 : Jvm.FP.Core.DInt (iu0 - iv0) (FP.dsub du0 dv0) := Jvm.FP.Core.dsub_int Du0 Dv0 (Nat.le_trans bd1 (by decide))
  refine X0.dsub (pc' := 21) d1_20 (own_dn di1) rfl ?_
  refine X0.dstore (pc' := 23) (l' := #[.val (.ref a), .val (.ref b), .val (.double FP.dconst0), .second, .val (.int (0 : Int32)), .val (.double (FP.dsub du0 dv0)), .second]) d1_21 rfl rfl ?_
  refine X0.dloadN (pc' := 24) d1_23 rfl rfl ?_
  refine X0.dload (pc' := 26) d1_24 rfl rfl ?_
  refine X0.dload (pc' := 28) d1_26 rfl rfl ?_
  have bd2 : ((iu0 - iv0) * (iu0 - iv0)).natAbs ≤ 281474976710656 := own_mb bd1 bd1
  have di2 : Jvm.FP.Core.DInt ((iu0 - iv0) * (iu0 - iv0)) (FP.dmul (FP.dsub du0 dv0) (FP.dsub du0 dv0)) := Jvm.FP.Core.dmul_int di1 di1 (Nat.le_trans bd2 (by decide))
  refine X0.dmul (pc' := 29) d1_28 (own_dn di2) rfl ?_
  have bd3 : (0 + ((iu0 - iv0) * (iu0 - iv0))).natAbs ≤ 281474976710656 := own_ab (Nat.le_refl 0 : (0 : Int).natAbs ≤ 0) bd2
  have di3 : Jvm.FP.Core.DInt (0 + ((iu0 - iv0) * (iu0 - iv0))) (FP.dadd FP.dconst0 (FP.dmul (FP.dsub du0 dv0) (FP.dsub du0 dv0))) := Jvm.FP.Core.dadd_int own_d0 di2 (Nat.le_trans bd3 (by decide))
  refine X0.dadd (pc' := 30) d1_29 (own_dn di3) rfl ?_
  refine X0.dstoreN (pc' := 31) (l' := #[.val (.ref a), .val (.ref b), .val (.double (FP.dadd FP.dconst0 (FP.dmul (FP.dsub du0 dv0) (FP.dsub du0 dv0)))), .second, .val (.int (0 : Int32)), .val (.double (FP.dsub du0 dv0)), .second]) d1_30 rfl rfl ?_
  refine X0.iinc (pc' := 34) (z := 1) (l' := #[.val (.ref a), .val (.ref b), .val (.double (FP.dadd FP.dconst0 (FP.dmul (FP.dsub du0 dv0) (FP.dsub du0 dv0)))), .second, .val (.int (1 : Int32)), .val (.double (FP.dsub du0 dv0)), .second]) d1_31 rfl rfl rfl rfl ?_
  refine X0.goto (pc' := 5) d1_34 (by decide) (by decide) ?_
  refine X0.iload (pc' := 7) d1_5 rfl rfl ?_
  refine X0.aloadN (pc' := 8) d1_7 rfl rfl rfl ?_
  refine X0.arraylength (pc' := 9) (n := (1 : Int32)) Va rfl d1_8 rfl ?_
  refine X0.icmpYes (pc' := 37) d1_9 (by decide) (by decide) (by decide) ?_
  refine X0.dloadN (pc' := 38) d1_37 rfl rfl ?_
  exact X0.dreturn rfl d1_38 (by decide) (by decide) ⟨⟨_, rfl, di3⟩, rfl⟩
set_option maxRecDepth 65536 in
set_option maxHeartbeats 40000000 in
theorem cts_2 (l : Launch) (Z : State) (a0 : Array Value) (hw : ∀ d ∈ tables_1, d.before a0 Z = true) (a b : Addr) (du0 du1 dv0 dv1 : UInt64) (iu0 iu1 iv0 iv1 : Int) (h0 : Heap) (Va : Lst Z h0 a .double [(.double du0), (.double du1)]) (Vb : Lst Z h0 b .double [(.double dv0), (.double dv1)]) (Du0 : Jvm.FP.Core.DInt iu0 du0) (Bu0 : iu0.natAbs ≤ 8388608) (Du1 : Jvm.FP.Core.DInt iu1 du1) (Bu1 : iu1.natAbs ≤ 8388608) (Dv0 : Jvm.FP.Core.DInt iv0 dv0) (Bv0 : iv0.natAbs ≤ 8388608) (Dv1 : Jvm.FP.Core.DInt iv1 dv1) (Bv1 : iv1.natAbs ≤ 8388608) :
    Ct l Z y1 prog_43_method_5_code 7 (some .double) ({ frames := 0, cells := 0, slots := 0, locals := 0 } : Room) #[(.ref a), (.ref b)] h0 [] (fun v h => (∃ r, v = some (.double r) ∧ Jvm.FP.Core.DInt ((0 + ((iu0 - iv0) * (iu0 - iv0))) + ((iu1 - iv1) * (iu1 - iv1))) r) ∧ h0 = h) := by
  refine Ct.of (plainFor_of_name (by first | (simp [plainName, overriddenIn]; done) | decide +kernel)) ?_
  intro p e s m below meth c T0 X0
  refine Runs.top (g' := mkF m 0 #[.val (.ref a), .val (.ref b), .unset, .unset, .unset, .unset, .unset] []) (by first | (simp [entryFrame, mkF, argsToLocals, Value.category]; done) | rfl) ?_
  refine X0.dconst0 (pc' := 1) d1_0 rfl ?_
  refine X0.dstoreN (pc' := 2) (l' := #[.val (.ref a), .val (.ref b), .val (.double FP.dconst0), .second, .unset, .unset, .unset]) d1_1 rfl rfl ?_
  refine X0.iconst (pc' := 3) (z := 0) d1_2 rfl rfl ?_
  refine X0.istore (pc' := 5) (l' := #[.val (.ref a), .val (.ref b), .val (.double FP.dconst0), .second, .val (.int (0 : Int32)), .unset, .unset]) d1_3 rfl rfl ?_
  refine X0.iload (pc' := 7) d1_5 rfl rfl ?_
  refine X0.aloadN (pc' := 8) d1_7 rfl rfl rfl ?_
  refine X0.arraylength (pc' := 9) (n := (2 : Int32)) Va rfl d1_8 rfl ?_
  refine X0.icmpNo (pc' := 12) d1_9 (by decide) rfl ?_
  refine X0.aloadN (pc' := 13) d1_12 rfl rfl rfl ?_
  refine X0.iload (pc' := 15) d1_13 rfl rfl ?_
  refine X0.daload (pc' := 16) (v := (.double du0)) Va (show Inb (0 : Int32) 2 from ⟨by decide, by decide⟩) rfl d1_15 rfl ?_
  refine X0.aloadN (pc' := 17) d1_16 rfl rfl rfl ?_
  refine X0.iload (pc' := 19) d1_17 rfl rfl ?_
  refine X0.daload (pc' := 20) (v := (.double dv0)) Vb (show Inb (0 : Int32) 2 from ⟨by decide, by decide⟩) rfl d1_19 rfl ?_
  have bd1 : (iu0 - iv0).natAbs ≤ 16777216 := own_sb Bu0 Bv0
  have di1 : Jvm.FP.Core.DInt (iu0 - iv0) (FP.dsub du0 dv0) := Jvm.FP.Core.dsub_int Du0 Dv0 (Nat.le_trans bd1 (by decide))
  refine X0.dsub (pc' := 21) d1_20 (own_dn di1) rfl ?_
  refine X0.dstore (pc' := 23) (l' := #[.val (.ref a), .val (.ref b), .val (.double FP.dconst0), .second, .val (.int (0 : Int32)), .val (.double (FP.dsub du0 dv0)), .second]) d1_21 rfl rfl ?_
  refine X0.dloadN (pc' := 24) d1_23 rfl rfl ?_
  refine X0.dload (pc' := 26) d1_24 rfl rfl ?_
  refine X0.dload (pc' := 28) d1_26 rfl rfl ?_
  have bd2 : ((iu0 - iv0) * (iu0 - iv0)).natAbs ≤ 281474976710656 := own_mb bd1 bd1
  have di2 : Jvm.FP.Core.DInt ((iu0 - iv0) * (iu0 - iv0)) (FP.dmul (FP.dsub du0 dv0) (FP.dsub du0 dv0)) := Jvm.FP.Core.dmul_int di1 di1 (Nat.le_trans bd2 (by decide))
  refine X0.dmul (pc' := 29) d1_28 (own_dn di2) rfl ?_
  have bd3 : (0 + ((iu0 - iv0) * (iu0 - iv0))).natAbs ≤ 281474976710656 := own_ab (Nat.le_refl 0 : (0 : Int).natAbs ≤ 0) bd2
  have di3 : Jvm.FP.Core.DInt (0 + ((iu0 - iv0) * (iu0 - iv0))) (FP.dadd FP.dconst0 (FP.dmul (FP.dsub du0 dv0) (FP.dsub du0 dv0))) := Jvm.FP.Core.dadd_int own_d0 di2 (Nat.le_trans bd3 (by decide))
  refine X0.dadd (pc' := 30) d1_29 (own_dn di3) rfl ?_
  refine X0.dstoreN (pc' := 31) (l' := #[.val (.ref a), .val (.ref b), .val (.double (FP.dadd FP.dconst0 (FP.dmul (FP.dsub du0 dv0) (FP.dsub du0 dv0)))), .second, .val (.int (0 : Int32)), .val (.double (FP.dsub du0 dv0)), .second]) d1_30 rfl rfl ?_
  refine X0.iinc (pc' := 34) (z := 1) (l' := #[.val (.ref a), .val (.ref b), .val (.double (FP.dadd FP.dconst0 (FP.dmul (FP.dsub du0 dv0) (FP.dsub du0 dv0)))), .second, .val (.int (1 : Int32)), .val (.double (FP.dsub du0 dv0)), .second]) d1_31 rfl rfl rfl rfl ?_
  refine X0.goto (pc' := 5) d1_34 (by decide) (by decide) ?_
  refine X0.iload (pc' := 7) d1_5 rfl rfl ?_
  refine X0.aloadN (pc' := 8) d1_7 rfl rfl rfl ?_
  refine X0.arraylength (pc' := 9) (n := (2 : Int32)) Va rfl d1_8 rfl ?_
  refine X0.icmpNo (pc' := 12) d1_9 (by decide) rfl ?_
  refine X0.aloadN (pc' := 13) d1_12 rfl rfl rfl ?_
  refine X0.iload (pc' := 15) d1_13 rfl rfl ?_
  refine X0.daload (pc' := 16) (v := (.double du1)) Va (show Inb (1 : Int32) 2 from ⟨by decide, by decide⟩) rfl d1_15 rfl ?_
  refine X0.aloadN (pc' := 17) d1_16 rfl rfl rfl ?_
  refine X0.iload (pc' := 19) d1_17 rfl rfl ?_
  refine X0.daload (pc' := 20) (v := (.double dv1)) Vb (show Inb (1 : Int32) 2 from ⟨by decide, by decide⟩) rfl d1_19 rfl ?_
  have bd4 : (iu1 - iv1).natAbs ≤ 16777216 := own_sb Bu1 Bv1
  have di4 : Jvm.FP.Core.DInt (iu1 - iv1) (FP.dsub du1 dv1) := Jvm.FP.Core.dsub_int Du1 Dv1 (Nat.le_trans bd4 (by decide))
  refine X0.dsub (pc' := 21) d1_20 (own_dn di4) rfl ?_
  refine X0.dstore (pc' := 23) (l' := #[.val (.ref a), .val (.ref b), .val (.double (FP.dadd FP.dconst0 (FP.dmul (FP.dsub du0 dv0) (FP.dsub du0 dv0)))), .second, .val (.int (1 : Int32)), .val (.double (FP.dsub du1 dv1)), .second]) d1_21 rfl rfl ?_
  refine X0.dloadN (pc' := 24) d1_23 rfl rfl ?_
  refine X0.dload (pc' := 26) d1_24 rfl rfl ?_
  refine X0.dload (pc' := 28) d1_26 rfl rfl ?_
  have bd5 : ((iu1 - iv1) * (iu1 - iv1)).natAbs ≤ 281474976710656 := own_mb bd4 bd4
  have di5 : Jvm.FP.Core.DInt ((iu1 - iv1) * (iu1 - iv1)) (FP.dmul (FP.dsub du1 dv1) (FP.dsub du1 dv1)) := Jvm.FP.Core.dmul_int di4 di4 (Nat.le_trans bd5 (by decide))
  refine X0.dmul (pc' := 29) d1_28 (own_dn di5) rfl ?_
  have bd6 : ((0 + ((iu0 - iv0) * (iu0 - iv0))) + ((iu1 - iv1) * (iu1 - iv1))).natAbs ≤ 562949953421312 := own_ab bd3 bd5
  have di6 : Jvm.FP.Core.DInt ((0 + ((iu0 - iv0) * (iu0 - iv0))) + ((iu1 - iv1) * (iu1 - iv1))) (FP.dadd (FP.dadd FP.dconst0 (FP.dmul (FP.dsub du0 dv0) (FP.dsub du0 dv0))) (FP.dmul (FP.dsub du1 dv1) (FP.dsub du1 dv1))) := Jvm.FP.Core.dadd_int di3 di5 (Nat.le_trans bd6 (by decide))
  refine X0.dadd (pc' := 30) d1_29 (own_dn di6) rfl ?_
  refine X0.dstoreN (pc' := 31) (l' := #[.val (.ref a), .val (.ref b), .val (.double (FP.dadd (FP.dadd FP.dconst0 (FP.dmul (FP.dsub du0 dv0) (FP.dsub du0 dv0))) (FP.dmul (FP.dsub du1 dv1) (FP.dsub du1 dv1)))), .second, .val (.int (1 : Int32)), .val (.double (FP.dsub du1 dv1)), .second]) d1_30 rfl rfl ?_
  refine X0.iinc (pc' := 34) (z := 1) (l' := #[.val (.ref a), .val (.ref b), .val (.double (FP.dadd (FP.dadd FP.dconst0 (FP.dmul (FP.dsub du0 dv0) (FP.dsub du0 dv0))) (FP.dmul (FP.dsub du1 dv1) (FP.dsub du1 dv1)))), .second, .val (.int (2 : Int32)), .val (.double (FP.dsub du1 dv1)), .second]) d1_31 rfl rfl rfl rfl ?_
  refine X0.goto (pc' := 5) d1_34 (by decide) (by decide) ?_
  refine X0.iload (pc' := 7) d1_5 rfl rfl ?_
  refine X0.aloadN (pc' := 8) d1_7 rfl rfl rfl ?_
  refine X0.arraylength (pc' := 9) (n := (2 : Int32)) Va rfl d1_8 rfl ?_
  refine X0.icmpYes (pc' := 37) d1_9 (by decide) (by decide) (by decide) ?_
  refine X0.dloadN (pc' := 38) d1_37 rfl rfl ?_
  exact X0.dreturn rfl d1_38 (by decide) (by decide) ⟨⟨_, rfl, di6⟩, rfl⟩
set_option maxRecDepth 65536 in
set_option maxHeartbeats 40000000 in
theorem cts_3 (l : Launch) (Z : State) (a0 : Array Value) (hw : ∀ d ∈ tables_1, d.before a0 Z = true) (a b : Addr) (du0 du1 du2 dv0 dv1 dv2 : UInt64) (iu0 iu1 iu2 iv0 iv1 iv2 : Int) (h0 : Heap) (Va : Lst Z h0 a .double [(.double du0), (.double du1), (.double du2)]) (Vb : Lst Z h0 b .double [(.double dv0), (.double dv1), (.double dv2)]) (Du0 : Jvm.FP.Core.DInt iu0 du0) (Bu0 : iu0.natAbs ≤ 8388608) (Du1 : Jvm.FP.Core.DInt iu1 du1) (Bu1 : iu1.natAbs ≤ 8388608) (Du2 : Jvm.FP.Core.DInt iu2 du2) (Bu2 : iu2.natAbs ≤ 8388608) (Dv0 : Jvm.FP.Core.DInt iv0 dv0) (Bv0 : iv0.natAbs ≤ 8388608) (Dv1 : Jvm.FP.Core.DInt iv1 dv1) (Bv1 : iv1.natAbs ≤ 8388608) (Dv2 : Jvm.FP.Core.DInt iv2 dv2) (Bv2 : iv2.natAbs ≤ 8388608) :
    Ct l Z y1 prog_43_method_5_code 7 (some .double) ({ frames := 0, cells := 0, slots := 0, locals := 0 } : Room) #[(.ref a), (.ref b)] h0 [] (fun v h => (∃ r, v = some (.double r) ∧ Jvm.FP.Core.DInt (((0 + ((iu0 - iv0) * (iu0 - iv0))) + ((iu1 - iv1) * (iu1 - iv1))) + ((iu2 - iv2) * (iu2 - iv2))) r) ∧ h0 = h) := by
  refine Ct.of (plainFor_of_name (by first | (simp [plainName, overriddenIn]; done) | decide +kernel)) ?_
  intro p e s m below meth c T0 X0
  refine Runs.top (g' := mkF m 0 #[.val (.ref a), .val (.ref b), .unset, .unset, .unset, .unset, .unset] []) (by first | (simp [entryFrame, mkF, argsToLocals, Value.category]; done) | rfl) ?_
  refine X0.dconst0 (pc' := 1) d1_0 rfl ?_
  refine X0.dstoreN (pc' := 2) (l' := #[.val (.ref a), .val (.ref b), .val (.double FP.dconst0), .second, .unset, .unset, .unset]) d1_1 rfl rfl ?_
  refine X0.iconst (pc' := 3) (z := 0) d1_2 rfl rfl ?_
  refine X0.istore (pc' := 5) (l' := #[.val (.ref a), .val (.ref b), .val (.double FP.dconst0), .second, .val (.int (0 : Int32)), .unset, .unset]) d1_3 rfl rfl ?_
  refine X0.iload (pc' := 7) d1_5 rfl rfl ?_
  refine X0.aloadN (pc' := 8) d1_7 rfl rfl rfl ?_
  refine X0.arraylength (pc' := 9) (n := (3 : Int32)) Va rfl d1_8 rfl ?_
  refine X0.icmpNo (pc' := 12) d1_9 (by decide) rfl ?_
  refine X0.aloadN (pc' := 13) d1_12 rfl rfl rfl ?_
  refine X0.iload (pc' := 15) d1_13 rfl rfl ?_
  refine X0.daload (pc' := 16) (v := (.double du0)) Va (show Inb (0 : Int32) 3 from ⟨by decide, by decide⟩) rfl d1_15 rfl ?_
  refine X0.aloadN (pc' := 17) d1_16 rfl rfl rfl ?_
  refine X0.iload (pc' := 19) d1_17 rfl rfl ?_
  refine X0.daload (pc' := 20) (v := (.double dv0)) Vb (show Inb (0 : Int32) 3 from ⟨by decide, by decide⟩) rfl d1_19 rfl ?_
  have bd1 : (iu0 - iv0).natAbs ≤ 16777216 := own_sb Bu0 Bv0
  have di1 : Jvm.FP.Core.DInt (iu0 - iv0) (FP.dsub du0 dv0) := Jvm.FP.Core.dsub_int Du0 Dv0 (Nat.le_trans bd1 (by decide))
  refine X0.dsub (pc' := 21) d1_20 (own_dn di1) rfl ?_
  refine X0.dstore (pc' := 23) (l' := #[.val (.ref a), .val (.ref b), .val (.double FP.dconst0), .second, .val (.int (0 : Int32)), .val (.double (FP.dsub du0 dv0)), .second]) d1_21 rfl rfl ?_
  refine X0.dloadN (pc' := 24) d1_23 rfl rfl ?_
  refine X0.dload (pc' := 26) d1_24 rfl rfl ?_
  refine X0.dload (pc' := 28) d1_26 rfl rfl ?_
  have bd2 : ((iu0 - iv0) * (iu0 - iv0)).natAbs ≤ 281474976710656 := own_mb bd1 bd1
  have di2 : Jvm.FP.Core.DInt ((iu0 - iv0) * (iu0 - iv0)) (FP.dmul (FP.dsub du0 dv0) (FP.dsub du0 dv0)) := Jvm.FP.Core.dmul_int di1 di1 (Nat.le_trans bd2 (by decide))
  refine X0.dmul (pc' := 29) d1_28 (own_dn di2) rfl ?_
  have bd3 : (0 + ((iu0 - iv0) * (iu0 - iv0))).natAbs ≤ 281474976710656 := own_ab (Nat.le_refl 0 : (0 : Int).natAbs ≤ 0) bd2
  have di3 : Jvm.FP.Core.DInt (0 + ((iu0 - iv0) * (iu0 - iv0))) (FP.dadd FP.dconst0 (FP.dmul (FP.dsub du0 dv0) (FP.dsub du0 dv0))) := Jvm.FP.Core.dadd_int own_d0 di2 (Nat.le_trans bd3 (by decide))
  refine X0.dadd (pc' := 30) d1_29 (own_dn di3) rfl ?_
  refine X0.dstoreN (pc' := 31) (l' := #[.val (.ref a), .val (.ref b), .val (.double (FP.dadd FP.dconst0 (FP.dmul (FP.dsub du0 dv0) (FP.dsub du0 dv0)))), .second, .val (.int (0 : Int32)), .val (.double (FP.dsub du0 dv0)), .second]) d1_30 rfl rfl ?_
  refine X0.iinc (pc' := 34) (z := 1) (l' := #[.val (.ref a), .val (.ref b), .val (.double (FP.dadd FP.dconst0 (FP.dmul (FP.dsub du0 dv0) (FP.dsub du0 dv0)))), .second, .val (.int (1 : Int32)), .val (.double (FP.dsub du0 dv0)), .second]) d1_31 rfl rfl rfl rfl ?_
  refine X0.goto (pc' := 5) d1_34 (by decide) (by decide) ?_
  refine X0.iload (pc' := 7) d1_5 rfl rfl ?_
  refine X0.aloadN (pc' := 8) d1_7 rfl rfl rfl ?_
  refine X0.arraylength (pc' := 9) (n := (3 : Int32)) Va rfl d1_8 rfl ?_
  refine X0.icmpNo (pc' := 12) d1_9 (by decide) rfl ?_
  refine X0.aloadN (pc' := 13) d1_12 rfl rfl rfl ?_
  refine X0.iload (pc' := 15) d1_13 rfl rfl ?_
  refine X0.daload (pc' := 16) (v := (.double du1)) Va (show Inb (1 : Int32) 3 from ⟨by decide, by decide⟩) rfl d1_15 rfl ?_
  refine X0.aloadN (pc' := 17) d1_16 rfl rfl rfl ?_
  refine X0.iload (pc' := 19) d1_17 rfl rfl ?_
  refine X0.daload (pc' := 20) (v := (.double dv1)) Vb (show Inb (1 : Int32) 3 from ⟨by decide, by decide⟩) rfl d1_19 rfl ?_
  have bd4 : (iu1 - iv1).natAbs ≤ 16777216 := own_sb Bu1 Bv1
  have di4 : Jvm.FP.Core.DInt (iu1 - iv1) (FP.dsub du1 dv1) := Jvm.FP.Core.dsub_int Du1 Dv1 (Nat.le_trans bd4 (by decide))
  refine X0.dsub (pc' := 21) d1_20 (own_dn di4) rfl ?_
  refine X0.dstore (pc' := 23) (l' := #[.val (.ref a), .val (.ref b), .val (.double (FP.dadd FP.dconst0 (FP.dmul (FP.dsub du0 dv0) (FP.dsub du0 dv0)))), .second, .val (.int (1 : Int32)), .val (.double (FP.dsub du1 dv1)), .second]) d1_21 rfl rfl ?_
  refine X0.dloadN (pc' := 24) d1_23 rfl rfl ?_
  refine X0.dload (pc' := 26) d1_24 rfl rfl ?_
  refine X0.dload (pc' := 28) d1_26 rfl rfl ?_
  have bd5 : ((iu1 - iv1) * (iu1 - iv1)).natAbs ≤ 281474976710656 := own_mb bd4 bd4
  have di5 : Jvm.FP.Core.DInt ((iu1 - iv1) * (iu1 - iv1)) (FP.dmul (FP.dsub du1 dv1) (FP.dsub du1 dv1)) := Jvm.FP.Core.dmul_int di4 di4 (Nat.le_trans bd5 (by decide))
  refine X0.dmul (pc' := 29) d1_28 (own_dn di5) rfl ?_
  have bd6 : ((0 + ((iu0 - iv0) * (iu0 - iv0))) + ((iu1 - iv1) * (iu1 - iv1))).natAbs ≤ 562949953421312 := own_ab bd3 bd5
  have di6 : Jvm.FP.Core.DInt ((0 + ((iu0 - iv0) * (iu0 - iv0))) + ((iu1 - iv1) * (iu1 - iv1))) (FP.dadd (FP.dadd FP.dconst0 (FP.dmul (FP.dsub du0 dv0) (FP.dsub du0 dv0))) (FP.dmul (FP.dsub du1 dv1) (FP.dsub du1 dv1))) := Jvm.FP.Core.dadd_int di3 di5 (Nat.le_trans bd6 (by decide))
  refine X0.dadd (pc' := 30) d1_29 (own_dn di6) rfl ?_
  refine X0.dstoreN (pc' := 31) (l' := #[.val (.ref a), .val (.ref b), .val (.double (FP.dadd (FP.dadd FP.dconst0 (FP.dmul (FP.dsub du0 dv0) (FP.dsub du0 dv0))) (FP.dmul (FP.dsub du1 dv1) (FP.dsub du1 dv1)))), .second, .val (.int (1 : Int32)), .val (.double (FP.dsub du1 dv1)), .second]) d1_30 rfl rfl ?_
  refine X0.iinc (pc' := 34) (z := 1) (l' := #[.val (.ref a), .val (.ref b), .val (.double (FP.dadd (FP.dadd FP.dconst0 (FP.dmul (FP.dsub du0 dv0) (FP.dsub du0 dv0))) (FP.dmul (FP.dsub du1 dv1) (FP.dsub du1 dv1)))), .second, .val (.int (2 : Int32)), .val (.double (FP.dsub du1 dv1)), .second]) d1_31 rfl rfl rfl rfl ?_
  refine X0.goto (pc' := 5) d1_34 (by decide) (by decide) ?_
  refine X0.iload (pc' := 7) d1_5 rfl rfl ?_
  refine X0.aloadN (pc' := 8) d1_7 rfl rfl rfl ?_
  refine X0.arraylength (pc' := 9) (n := (3 : Int32)) Va rfl d1_8 rfl ?_
  refine X0.icmpNo (pc' := 12) d1_9 (by decide) rfl ?_
  refine X0.aloadN (pc' := 13) d1_12 rfl rfl rfl ?_
  refine X0.iload (pc' := 15) d1_13 rfl rfl ?_
  refine X0.daload (pc' := 16) (v := (.double du2)) Va (show Inb (2 : Int32) 3 from ⟨by decide, by decide⟩) rfl d1_15 rfl ?_
  refine X0.aloadN (pc' := 17) d1_16 rfl rfl rfl ?_
  refine X0.iload (pc' := 19) d1_17 rfl rfl ?_
  refine X0.daload (pc' := 20) (v := (.double dv2)) Vb (show Inb (2 : Int32) 3 from ⟨by decide, by decide⟩) rfl d1_19 rfl ?_
  have bd7 : (iu2 - iv2).natAbs ≤ 16777216 := own_sb Bu2 Bv2
  have di7 : Jvm.FP.Core.DInt (iu2 - iv2) (FP.dsub du2 dv2) := Jvm.FP.Core.dsub_int Du2 Dv2 (Nat.le_trans bd7 (by decide))
  refine X0.dsub (pc' := 21) d1_20 (own_dn di7) rfl ?_
  refine X0.dstore (pc' := 23) (l' := #[.val (.ref a), .val (.ref b), .val (.double (FP.dadd (FP.dadd FP.dconst0 (FP.dmul (FP.dsub du0 dv0) (FP.dsub du0 dv0))) (FP.dmul (FP.dsub du1 dv1) (FP.dsub du1 dv1)))), .second, .val (.int (2 : Int32)), .val (.double (FP.dsub du2 dv2)), .second]) d1_21 rfl rfl ?_
  refine X0.dloadN (pc' := 24) d1_23 rfl rfl ?_
  refine X0.dload (pc' := 26) d1_24 rfl rfl ?_
  refine X0.dload (pc' := 28) d1_26 rfl rfl ?_
  have bd8 : ((iu2 - iv2) * (iu2 - iv2)).natAbs ≤ 281474976710656 := own_mb bd7 bd7
  have di8 : Jvm.FP.Core.DInt ((iu2 - iv2) * (iu2 - iv2)) (FP.dmul (FP.dsub du2 dv2) (FP.dsub du2 dv2)) := Jvm.FP.Core.dmul_int di7 di7 (Nat.le_trans bd8 (by decide))
  refine X0.dmul (pc' := 29) d1_28 (own_dn di8) rfl ?_
  have bd9 : (((0 + ((iu0 - iv0) * (iu0 - iv0))) + ((iu1 - iv1) * (iu1 - iv1))) + ((iu2 - iv2) * (iu2 - iv2))).natAbs ≤ 844424930131968 := own_ab bd6 bd8
  have di9 : Jvm.FP.Core.DInt (((0 + ((iu0 - iv0) * (iu0 - iv0))) + ((iu1 - iv1) * (iu1 - iv1))) + ((iu2 - iv2) * (iu2 - iv2))) (FP.dadd (FP.dadd (FP.dadd FP.dconst0 (FP.dmul (FP.dsub du0 dv0) (FP.dsub du0 dv0))) (FP.dmul (FP.dsub du1 dv1) (FP.dsub du1 dv1))) (FP.dmul (FP.dsub du2 dv2) (FP.dsub du2 dv2))) := Jvm.FP.Core.dadd_int di6 di8 (Nat.le_trans bd9 (by decide))
  refine X0.dadd (pc' := 30) d1_29 (own_dn di9) rfl ?_
  refine X0.dstoreN (pc' := 31) (l' := #[.val (.ref a), .val (.ref b), .val (.double (FP.dadd (FP.dadd (FP.dadd FP.dconst0 (FP.dmul (FP.dsub du0 dv0) (FP.dsub du0 dv0))) (FP.dmul (FP.dsub du1 dv1) (FP.dsub du1 dv1))) (FP.dmul (FP.dsub du2 dv2) (FP.dsub du2 dv2)))), .second, .val (.int (2 : Int32)), .val (.double (FP.dsub du2 dv2)), .second]) d1_30 rfl rfl ?_
  refine X0.iinc (pc' := 34) (z := 1) (l' := #[.val (.ref a), .val (.ref b), .val (.double (FP.dadd (FP.dadd (FP.dadd FP.dconst0 (FP.dmul (FP.dsub du0 dv0) (FP.dsub du0 dv0))) (FP.dmul (FP.dsub du1 dv1) (FP.dsub du1 dv1))) (FP.dmul (FP.dsub du2 dv2) (FP.dsub du2 dv2)))), .second, .val (.int (3 : Int32)), .val (.double (FP.dsub du2 dv2)), .second]) d1_31 rfl rfl rfl rfl ?_
  refine X0.goto (pc' := 5) d1_34 (by decide) (by decide) ?_
  refine X0.iload (pc' := 7) d1_5 rfl rfl ?_
  refine X0.aloadN (pc' := 8) d1_7 rfl rfl rfl ?_
  refine X0.arraylength (pc' := 9) (n := (3 : Int32)) Va rfl d1_8 rfl ?_
  refine X0.icmpYes (pc' := 37) d1_9 (by decide) (by decide) (by decide) ?_
  refine X0.dloadN (pc' := 38) d1_37 rfl rfl ?_
  exact X0.dreturn rfl d1_38 (by decide) (by decide) ⟨⟨_, rfl, di9⟩, rfl⟩
set_option maxRecDepth 65536 in
set_option maxHeartbeats 40000000 in
theorem ct0 (l : Launch) (Z : State) (a0 : Array Value) (hw : ∀ d ∈ tables_1, d.before a0 Z = true) (q1 : Int32) (q2 q3 q4 : Int64) (h0 : Heap)  :
    Ct l Z x code maxLocals ret room_1 #[(.int q1), (.long q2), (.long q3), (.long q4)] h0 [] (fun v h => v = some (.int 1)) := by
  refine Ct.of (plainFor_of_name (by first | (simp [plainName, overriddenIn]; done) | decide +kernel)) ?_
  intro p e s m below meth c T0 X0
  refine Runs.top (g' := mkF m 0 #[.val (.int q1), .val (.long q2), .second, .val (.long q3), .second, .val (.long q4), .second, .unset, .unset, .unset, .unset, .unset, .unset, .unset] []) (by first | (simp [entryFrame, mkF, argsToLocals, Value.category, maxLocals]; done) | rfl) ?_
  refine X0.iloadN (pc' := 1) at_0 rfl rfl ?_
  refine X0.iconst (pc' := 2) (z := 3) at_1 rfl rfl ?_
  refine X0.iand (pc' := 3) at_2 rfl ?_
  refine X0.istore (pc' := 5) (l' := #[.val (.int q1), .val (.long q2), .second, .val (.long q3), .second, .val (.long q4), .second, .val (.int (q1 &&& (3 : Int32))), .unset, .unset, .unset, .unset, .unset, .unset]) at_3 rfl rfl ?_
  have hz := own_three q1 _ rfl
  generalize (q1 &&& (3 : Int32)) = z at hz ⊢
  rcases hz with rfl | rfl | rfl | rfl
  · refine X0.iload (pc' := 7) at_5 rfl rfl ?_
    refine X0.newarray (pc' := 9) (ty := .double) rfl (wd_0 hw) at_7 rfl (cap := 0) ⟨by decide, by decide⟩ (by decide) (by decide) (by decide) (fun T1 h1 b1 X1 g1 E1 V1 => ?_)
    have sz_b1 : h0.size ≤ b1 := g1 ▸ X0.size
    have V1' : Lst Z h1 b1 .double [] := V1
    refine X1.astore (pc' := 11) (l' := #[.val (.int q1), .val (.long q2), .second, .val (.long q3), .second, .val (.long q4), .second, .val (.int (0 : Int32)), .val (.ref b1), .unset, .unset, .unset, .unset, .unset]) at_9 rfl rfl rfl ?_
    refine X1.iload (pc' := 13) at_11 rfl rfl ?_
    refine X1.newarray (pc' := 15) (ty := .double) rfl (wd_0 hw) at_13 rfl (cap := 0) ⟨by decide, by decide⟩ (by decide) (by decide) (by decide) (fun T2 h2 b2 X2 g2 E2 V2 => ?_)
    have sz_b2 : h0.size ≤ b2 := g2 ▸ X1.size
    have ne_b1_b2 : b1 ≠ b2 := Nat.ne_of_lt (g2 ▸ V1'.lt)
    have V1'_2 := V1'.ext E2
    have V2' : Lst Z h2 b2 .double [] := V2
    refine X2.astore (pc' := 17) (l' := #[.val (.int q1), .val (.long q2), .second, .val (.long q3), .second, .val (.long q4), .second, .val (.int (0 : Int32)), .val (.ref b1), .val (.ref b2), .unset, .unset, .unset, .unset]) at_15 rfl rfl rfl ?_
    refine X2.lconst0 (pc' := 18) at_17 rfl ?_
    refine X2.lstore (pc' := 20) (l' := #[.val (.int q1), .val (.long q2), .second, .val (.long q3), .second, .val (.long q4), .second, .val (.int (0 : Int32)), .val (.ref b1), .val (.ref b2), .val (.long (0 : Int64)), .second, .unset, .unset]) at_18 rfl rfl ?_
    refine X2.iload (pc' := 22) at_20 rfl rfl ?_
    refine X2.ifYes (pc' := 64) at_22 (by decide) (by decide) (by decide) ?_
    refine X2.iload (pc' := 66) at_64 rfl rfl ?_
    refine X2.iconst (pc' := 67) (z := 1) at_66 rfl rfl ?_
    refine X2.icmpYes (pc' := 109) at_67 (by decide) (by decide) (by decide) ?_
    refine X2.iload (pc' := 111) at_109 rfl rfl ?_
    refine X2.iconst (pc' := 112) (z := 2) at_111 rfl rfl ?_
    refine X2.icmpYes (pc' := 158) at_112 (by decide) (by decide) (by decide) ?_
    refine X2.aload (pc' := 160) at_158 rfl rfl rfl ?_
    refine X2.aload (pc' := 162) at_160 rfl rfl rfl ?_
    refine X2.callS (pc' := 165) (W := 0) (argsL := [(.ref b1), (.ref b2)]) (rest := []) (cts_0 l Z a0 hw b1 b2   h2 V1'_2 V2' ) (wd_1 hw) (wd_2 hw) (wd_3 hw) (wd_4 hw) (by decide) pd_0 rfl rfl rfl rfl at_162 rfl (by decide) rfl (by decide) (by decide) (by decide) allWs0 (fun T3 h3 v3 X3 K3 Q3 => ?_)
    obtain ⟨⟨r3, rfl, dr3⟩, rfl⟩ := Q3
    show Runs p e below (T3.setTop (mkF m 165 #[.val (.int q1), .val (.long q2), .second, .val (.long q3), .second, .val (.long q4), .second, .val (.int (0 : Int32)), .val (.ref b1), .val (.ref b2), .val (.long (0 : Int64)), .second, .unset, .unset] [(.double r3)])) _
    refine X3.dstore (pc' := 167) (l' := #[.val (.int q1), .val (.long q2), .second, .val (.long q3), .second, .val (.long q4), .second, .val (.int (0 : Int32)), .val (.ref b1), .val (.ref b2), .val (.long (0 : Int64)), .second, .val (.double r3), .second]) at_165 rfl rfl ?_
    refine X3.dload (pc' := 169) at_167 rfl rfl ?_
    refine X3.lload (pc' := 171) at_169 rfl rfl ?_
    have e0 : (0 : Int64).toInt = 0 := rfl
    have b0 : (0 : Int64).toInt.natAbs ≤ 0 := Nat.le_refl 0
    have di4 : Jvm.FP.Core.DInt (0 : Int64).toInt (FP.l2d (0 : Int64)) := Jvm.FP.Core.l2d_int (Nat.le_trans b0 (by decide))
    refine X3.l2d (pc' := 172) at_171 rfl ?_
    refine X3.dcmp (pc' := 173) (z := 0) at_172 (own_dc0 dr3 di4 e0.symm) rfl ?_
    refine X3.ifNo (pc' := 176) at_173 (by decide) rfl ?_
    refine X3.iconst (pc' := 177) (z := 1) at_176 rfl rfl ?_
    refine X3.goto (pc' := 181) at_177 (by decide) (by decide) ?_
    exact X3.zreturn (z' := (1 : Int32)) rfl (by simp) at_181 rfl (by decide) (by decide) rfl
  · refine X0.iload (pc' := 7) at_5 rfl rfl ?_
    refine X0.newarray (pc' := 9) (ty := .double) rfl (wd_0 hw) at_7 rfl (cap := 1) ⟨by decide, by decide⟩ (by decide) (by decide) (by decide) (fun T5 h5 b5 X5 g5 E5 V5 => ?_)
    have sz_b5 : h0.size ≤ b5 := g5 ▸ X0.size
    have V5' : Lst Z h5 b5 .double [(.double (0 : UInt64))] := V5
    refine X5.astore (pc' := 11) (l' := #[.val (.int q1), .val (.long q2), .second, .val (.long q3), .second, .val (.long q4), .second, .val (.int (1 : Int32)), .val (.ref b5), .unset, .unset, .unset, .unset, .unset]) at_9 rfl rfl rfl ?_
    refine X5.iload (pc' := 13) at_11 rfl rfl ?_
    refine X5.newarray (pc' := 15) (ty := .double) rfl (wd_0 hw) at_13 rfl (cap := 1) ⟨by decide, by decide⟩ (by decide) (by decide) (by decide) (fun T6 h6 b6 X6 g6 E6 V6 => ?_)
    have sz_b6 : h0.size ≤ b6 := g6 ▸ X5.size
    have ne_b5_b6 : b5 ≠ b6 := Nat.ne_of_lt (g6 ▸ V5'.lt)
    have V5'_6 := V5'.ext E6
    have V6' : Lst Z h6 b6 .double [(.double (0 : UInt64))] := V6
    refine X6.astore (pc' := 17) (l' := #[.val (.int q1), .val (.long q2), .second, .val (.long q3), .second, .val (.long q4), .second, .val (.int (1 : Int32)), .val (.ref b5), .val (.ref b6), .unset, .unset, .unset, .unset]) at_15 rfl rfl rfl ?_
    refine X6.lconst0 (pc' := 18) at_17 rfl ?_
    refine X6.lstore (pc' := 20) (l' := #[.val (.int q1), .val (.long q2), .second, .val (.long q3), .second, .val (.long q4), .second, .val (.int (1 : Int32)), .val (.ref b5), .val (.ref b6), .val (.long (0 : Int64)), .second, .unset, .unset]) at_18 rfl rfl ?_
    refine X6.iload (pc' := 22) at_20 rfl rfl ?_
    refine X6.ifNo (pc' := 25) at_22 (by decide) rfl ?_
    refine X6.aload (pc' := 27) at_25 rfl rfl rfl ?_
    refine X6.iconst (pc' := 28) (z := 0) at_27 rfl rfl ?_
    refine X6.lloadN (pc' := 29) at_28 rfl rfl ?_
    refine X6.callS (pc' := 32) (W := 2) (argsL := [(.long q2)]) (rest := [(.int (0 : Int32)), (.ref b5)]) (ct2 l Z a0 hw q2 h6) (wd_5 hw) (wd_6 hw) (wd_7 hw) (wd_8 hw) (by decide) pd_1 rfl rfl rfl rfl at_29 rfl (by decide) rfl (by decide) (by decide) (by decide) allWs0 (fun T7 h7 v7 X7 K7 Q7 => ?_)
    obtain ⟨rfl, rfl⟩ := Q7
    show Runs p e below (T7.setTop (mkF m 32 #[.val (.int q1), .val (.long q2), .second, .val (.long q3), .second, .val (.long q4), .second, .val (.int (1 : Int32)), .val (.ref b5), .val (.ref b6), .val (.long (0 : Int64)), .second, .unset, .unset] [(.long (own_l q2)), (.int (0 : Int32)), (.ref b5)])) _
    have di8 : Jvm.FP.Core.DInt (own_l q2).toInt (FP.l2d (own_l q2)) := Jvm.FP.Core.l2d_int (Nat.le_trans (own_lb q2) (by decide))
    refine X7.l2d (pc' := 33) at_32 rfl ?_
    refine X7.dastore (pc' := 34) V5'_6 (show Inb (0 : Int32) 1 from ⟨by decide, by decide⟩) at_33 rfl (Or.inr sz_b5) (fun T9 h9 X9 W9 => ?_)
    have V9 : Lst Z h9 b5 .double [(.double (FP.l2d (own_l q2)))] := V5'_6.set W9
    have V6'_9 := V6'.other W9 (Ne.symm ne_b5_b6)
    refine X9.aload (pc' := 36) at_34 rfl rfl rfl ?_
    refine X9.iconst (pc' := 37) (z := 0) at_36 rfl rfl ?_
    refine X9.lloadN (pc' := 38) at_37 rfl rfl ?_
    refine X9.callS (pc' := 41) (W := 2) (argsL := [(.long q2)]) (rest := [(.int (0 : Int32)), (.ref b6)]) (ct3 l Z a0 hw q2 h9) (wd_9 hw) (wd_10 hw) (wd_7 hw) (wd_11 hw) (by decide) pd_1 rfl rfl rfl rfl at_38 rfl (by decide) rfl (by decide) (by decide) (by decide) allWs0 (fun T10 h10 v10 X10 K10 Q10 => ?_)
    obtain ⟨rfl, rfl⟩ := Q10
    show Runs p e below (T10.setTop (mkF m 41 #[.val (.int q1), .val (.long q2), .second, .val (.long q3), .second, .val (.long q4), .second, .val (.int (1 : Int32)), .val (.ref b5), .val (.ref b6), .val (.long (0 : Int64)), .second, .unset, .unset] [(.long (own_h q2)), (.int (0 : Int32)), (.ref b6)])) _
    have di11 : Jvm.FP.Core.DInt (own_h q2).toInt (FP.l2d (own_h q2)) := Jvm.FP.Core.l2d_int (Nat.le_trans (own_hb q2) (by decide))
    refine X10.l2d (pc' := 42) at_41 rfl ?_
    refine X10.dastore (pc' := 43) V6'_9 (show Inb (0 : Int32) 1 from ⟨by decide, by decide⟩) at_42 rfl (Or.inr sz_b6) (fun T12 h12 X12 W12 => ?_)
    have V12 : Lst Z h12 b6 .double [(.double (FP.l2d (own_h q2)))] := V6'_9.set W12
    have V9_12 := V9.other W12 ne_b5_b6
    refine X12.lloadN (pc' := 44) at_43 rfl rfl ?_
    refine X12.callS (pc' := 47) (W := 0) (argsL := [(.long q2)]) (rest := []) (ct2 l Z a0 hw q2 h12) (wd_5 hw) (wd_6 hw) (wd_7 hw) (wd_8 hw) (by decide) pd_1 rfl rfl rfl rfl at_44 rfl (by decide) rfl (by decide) (by decide) (by decide) allWs0 (fun T13 h13 v13 X13 K13 Q13 => ?_)
    obtain ⟨rfl, rfl⟩ := Q13
    show Runs p e below (T13.setTop (mkF m 47 #[.val (.int q1), .val (.long q2), .second, .val (.long q3), .second, .val (.long q4), .second, .val (.int (1 : Int32)), .val (.ref b5), .val (.ref b6), .val (.long (0 : Int64)), .second, .unset, .unset] [(.long (own_l q2))])) _
    refine X13.lloadN (pc' := 48) at_47 rfl rfl ?_
    refine X13.callS (pc' := 51) (W := 2) (argsL := [(.long q2)]) (rest := [(.long (own_l q2))]) (ct3 l Z a0 hw q2 h12) (wd_9 hw) (wd_10 hw) (wd_7 hw) (wd_11 hw) (by decide) pd_1 rfl rfl rfl rfl at_48 rfl (by decide) rfl (by decide) (by decide) (by decide) allWs0 (fun T14 h14 v14 X14 K14 Q14 => ?_)
    obtain ⟨rfl, rfl⟩ := Q14
    show Runs p e below (T14.setTop (mkF m 51 #[.val (.int q1), .val (.long q2), .second, .val (.long q3), .second, .val (.long q4), .second, .val (.int (1 : Int32)), .val (.ref b5), .val (.ref b6), .val (.long (0 : Int64)), .second, .unset, .unset] [(.long (own_h q2)), (.long (own_l q2))])) _
    refine X14.lsub (pc' := 52) at_51 rfl ?_
    refine X14.lstore (pc' := 54) (l' := #[.val (.int q1), .val (.long q2), .second, .val (.long q3), .second, .val (.long q4), .second, .val (.int (1 : Int32)), .val (.ref b5), .val (.ref b6), .val (.long (0 : Int64)), .second, .val (.long ((own_l q2) - (own_h q2))), .second]) at_52 rfl rfl ?_
    refine X14.lload (pc' := 56) at_54 rfl rfl ?_
    refine X14.lload (pc' := 58) at_56 rfl rfl ?_
    refine X14.lload (pc' := 60) at_58 rfl rfl ?_
    refine X14.lmul (pc' := 61) at_60 rfl ?_
    refine X14.ladd (pc' := 62) at_61 rfl ?_
    refine X14.lstore (pc' := 64) (l' := #[.val (.int q1), .val (.long q2), .second, .val (.long q3), .second, .val (.long q4), .second, .val (.int (1 : Int32)), .val (.ref b5), .val (.ref b6), .val (.long ((0 : Int64) + (((own_l q2) - (own_h q2)) * ((own_l q2) - (own_h q2))))), .second, .val (.long ((own_l q2) - (own_h q2))), .second]) at_62 rfl rfl ?_
    refine X14.iload (pc' := 66) at_64 rfl rfl ?_
    refine X14.iconst (pc' := 67) (z := 1) at_66 rfl rfl ?_
    refine X14.icmpYes (pc' := 109) at_67 (by decide) (by decide) (by decide) ?_
    refine X14.iload (pc' := 111) at_109 rfl rfl ?_
    refine X14.iconst (pc' := 112) (z := 2) at_111 rfl rfl ?_
    refine X14.icmpYes (pc' := 158) at_112 (by decide) (by decide) (by decide) ?_
    refine X14.aload (pc' := 160) at_158 rfl rfl rfl ?_
    refine X14.aload (pc' := 162) at_160 rfl rfl rfl ?_
    refine X14.callS (pc' := 165) (W := 0) (argsL := [(.ref b5), (.ref b6)]) (rest := []) (cts_1 l Z a0 hw b5 b6 (FP.l2d (own_l q2)) (FP.l2d (own_h q2)) (own_l q2).toInt (own_h q2).toInt h12 V9_12 V12 di8 (own_lb q2) di11 (own_hb q2)) (wd_1 hw) (wd_2 hw) (wd_3 hw) (wd_4 hw) (by decide) pd_0 rfl rfl rfl rfl at_162 rfl (by decide) rfl (by decide) (by decide) (by decide) allWs0 (fun T15 h15 v15 X15 K15 Q15 => ?_)
    obtain ⟨⟨r15, rfl, dr15⟩, rfl⟩ := Q15
    show Runs p e below (T15.setTop (mkF m 165 #[.val (.int q1), .val (.long q2), .second, .val (.long q3), .second, .val (.long q4), .second, .val (.int (1 : Int32)), .val (.ref b5), .val (.ref b6), .val (.long ((0 : Int64) + (((own_l q2) - (own_h q2)) * ((own_l q2) - (own_h q2))))), .second, .val (.long ((own_l q2) - (own_h q2))), .second] [(.double r15)])) _
    refine X15.dstore (pc' := 167) (l' := #[.val (.int q1), .val (.long q2), .second, .val (.long q3), .second, .val (.long q4), .second, .val (.int (1 : Int32)), .val (.ref b5), .val (.ref b6), .val (.long ((0 : Int64) + (((own_l q2) - (own_h q2)) * ((own_l q2) - (own_h q2))))), .second, .val (.double r15), .second]) at_165 rfl rfl ?_
    refine X15.dload (pc' := 169) at_167 rfl rfl ?_
    refine X15.lload (pc' := 171) at_169 rfl rfl ?_
    have e0 : (0 : Int64).toInt = 0 := rfl
    have b0 : (0 : Int64).toInt.natAbs ≤ 0 := Nat.le_refl 0
    have s0 := own_sb (own_lb q2) (own_hb q2)
    have t0 := own_ls s0 (by decide)
    have s0' := s0
    rw [← t0] at s0'
    have m0 := own_mb s0' s0'
    have f0 := own_lm m0 (by decide)
    have m0' := m0
    rw [← f0] at m0'
    have g0 := own_ab b0 m0'
    have e1 := own_la g0 (by decide)
    have b1 := g0
    rw [← e1] at b1
    rw [e0, f0, t0] at e1
    have di16 : Jvm.FP.Core.DInt ((0 : Int64) + (((own_l q2) - (own_h q2)) * ((own_l q2) - (own_h q2)))).toInt (FP.l2d ((0 : Int64) + (((own_l q2) - (own_h q2)) * ((own_l q2) - (own_h q2))))) := Jvm.FP.Core.l2d_int (Nat.le_trans b1 (by decide))
    refine X15.l2d (pc' := 172) at_171 rfl ?_
    refine X15.dcmp (pc' := 173) (z := 0) at_172 (own_dc0 dr15 di16 e1.symm) rfl ?_
    refine X15.ifNo (pc' := 176) at_173 (by decide) rfl ?_
    refine X15.iconst (pc' := 177) (z := 1) at_176 rfl rfl ?_
    refine X15.goto (pc' := 181) at_177 (by decide) (by decide) ?_
    exact X15.zreturn (z' := (1 : Int32)) rfl (by simp) at_181 rfl (by decide) (by decide) rfl
  · refine X0.iload (pc' := 7) at_5 rfl rfl ?_
    refine X0.newarray (pc' := 9) (ty := .double) rfl (wd_0 hw) at_7 rfl (cap := 2) ⟨by decide, by decide⟩ (by decide) (by decide) (by decide) (fun T17 h17 b17 X17 g17 E17 V17 => ?_)
    have sz_b17 : h0.size ≤ b17 := g17 ▸ X0.size
    have V17' : Lst Z h17 b17 .double [(.double (0 : UInt64)), (.double (0 : UInt64))] := V17
    refine X17.astore (pc' := 11) (l' := #[.val (.int q1), .val (.long q2), .second, .val (.long q3), .second, .val (.long q4), .second, .val (.int (2 : Int32)), .val (.ref b17), .unset, .unset, .unset, .unset, .unset]) at_9 rfl rfl rfl ?_
    refine X17.iload (pc' := 13) at_11 rfl rfl ?_
    refine X17.newarray (pc' := 15) (ty := .double) rfl (wd_0 hw) at_13 rfl (cap := 2) ⟨by decide, by decide⟩ (by decide) (by decide) (by decide) (fun T18 h18 b18 X18 g18 E18 V18 => ?_)
    have sz_b18 : h0.size ≤ b18 := g18 ▸ X17.size
    have ne_b17_b18 : b17 ≠ b18 := Nat.ne_of_lt (g18 ▸ V17'.lt)
    have V17'_18 := V17'.ext E18
    have V18' : Lst Z h18 b18 .double [(.double (0 : UInt64)), (.double (0 : UInt64))] := V18
    refine X18.astore (pc' := 17) (l' := #[.val (.int q1), .val (.long q2), .second, .val (.long q3), .second, .val (.long q4), .second, .val (.int (2 : Int32)), .val (.ref b17), .val (.ref b18), .unset, .unset, .unset, .unset]) at_15 rfl rfl rfl ?_
    refine X18.lconst0 (pc' := 18) at_17 rfl ?_
    refine X18.lstore (pc' := 20) (l' := #[.val (.int q1), .val (.long q2), .second, .val (.long q3), .second, .val (.long q4), .second, .val (.int (2 : Int32)), .val (.ref b17), .val (.ref b18), .val (.long (0 : Int64)), .second, .unset, .unset]) at_18 rfl rfl ?_
    refine X18.iload (pc' := 22) at_20 rfl rfl ?_
    refine X18.ifNo (pc' := 25) at_22 (by decide) rfl ?_
    refine X18.aload (pc' := 27) at_25 rfl rfl rfl ?_
    refine X18.iconst (pc' := 28) (z := 0) at_27 rfl rfl ?_
    refine X18.lloadN (pc' := 29) at_28 rfl rfl ?_
    refine X18.callS (pc' := 32) (W := 2) (argsL := [(.long q2)]) (rest := [(.int (0 : Int32)), (.ref b17)]) (ct2 l Z a0 hw q2 h18) (wd_5 hw) (wd_6 hw) (wd_7 hw) (wd_8 hw) (by decide) pd_1 rfl rfl rfl rfl at_29 rfl (by decide) rfl (by decide) (by decide) (by decide) allWs0 (fun T19 h19 v19 X19 K19 Q19 => ?_)
    obtain ⟨rfl, rfl⟩ := Q19
    show Runs p e below (T19.setTop (mkF m 32 #[.val (.int q1), .val (.long q2), .second, .val (.long q3), .second, .val (.long q4), .second, .val (.int (2 : Int32)), .val (.ref b17), .val (.ref b18), .val (.long (0 : Int64)), .second, .unset, .unset] [(.long (own_l q2)), (.int (0 : Int32)), (.ref b17)])) _
    have di20 : Jvm.FP.Core.DInt (own_l q2).toInt (FP.l2d (own_l q2)) := Jvm.FP.Core.l2d_int (Nat.le_trans (own_lb q2) (by decide))
    refine X19.l2d (pc' := 33) at_32 rfl ?_
    refine X19.dastore (pc' := 34) V17'_18 (show Inb (0 : Int32) 2 from ⟨by decide, by decide⟩) at_33 rfl (Or.inr sz_b17) (fun T21 h21 X21 W21 => ?_)
    have V21 : Lst Z h21 b17 .double [(.double (FP.l2d (own_l q2))), (.double (0 : UInt64))] := V17'_18.set W21
    have V18'_21 := V18'.other W21 (Ne.symm ne_b17_b18)
    refine X21.aload (pc' := 36) at_34 rfl rfl rfl ?_
    refine X21.iconst (pc' := 37) (z := 0) at_36 rfl rfl ?_
    refine X21.lloadN (pc' := 38) at_37 rfl rfl ?_
    refine X21.callS (pc' := 41) (W := 2) (argsL := [(.long q2)]) (rest := [(.int (0 : Int32)), (.ref b18)]) (ct3 l Z a0 hw q2 h21) (wd_9 hw) (wd_10 hw) (wd_7 hw) (wd_11 hw) (by decide) pd_1 rfl rfl rfl rfl at_38 rfl (by decide) rfl (by decide) (by decide) (by decide) allWs0 (fun T22 h22 v22 X22 K22 Q22 => ?_)
    obtain ⟨rfl, rfl⟩ := Q22
    show Runs p e below (T22.setTop (mkF m 41 #[.val (.int q1), .val (.long q2), .second, .val (.long q3), .second, .val (.long q4), .second, .val (.int (2 : Int32)), .val (.ref b17), .val (.ref b18), .val (.long (0 : Int64)), .second, .unset, .unset] [(.long (own_h q2)), (.int (0 : Int32)), (.ref b18)])) _
    have di23 : Jvm.FP.Core.DInt (own_h q2).toInt (FP.l2d (own_h q2)) := Jvm.FP.Core.l2d_int (Nat.le_trans (own_hb q2) (by decide))
    refine X22.l2d (pc' := 42) at_41 rfl ?_
    refine X22.dastore (pc' := 43) V18'_21 (show Inb (0 : Int32) 2 from ⟨by decide, by decide⟩) at_42 rfl (Or.inr sz_b18) (fun T24 h24 X24 W24 => ?_)
    have V24 : Lst Z h24 b18 .double [(.double (FP.l2d (own_h q2))), (.double (0 : UInt64))] := V18'_21.set W24
    have V21_24 := V21.other W24 ne_b17_b18
    refine X24.lloadN (pc' := 44) at_43 rfl rfl ?_
    refine X24.callS (pc' := 47) (W := 0) (argsL := [(.long q2)]) (rest := []) (ct2 l Z a0 hw q2 h24) (wd_5 hw) (wd_6 hw) (wd_7 hw) (wd_8 hw) (by decide) pd_1 rfl rfl rfl rfl at_44 rfl (by decide) rfl (by decide) (by decide) (by decide) allWs0 (fun T25 h25 v25 X25 K25 Q25 => ?_)
    obtain ⟨rfl, rfl⟩ := Q25
    show Runs p e below (T25.setTop (mkF m 47 #[.val (.int q1), .val (.long q2), .second, .val (.long q3), .second, .val (.long q4), .second, .val (.int (2 : Int32)), .val (.ref b17), .val (.ref b18), .val (.long (0 : Int64)), .second, .unset, .unset] [(.long (own_l q2))])) _
    refine X25.lloadN (pc' := 48) at_47 rfl rfl ?_
    refine X25.callS (pc' := 51) (W := 2) (argsL := [(.long q2)]) (rest := [(.long (own_l q2))]) (ct3 l Z a0 hw q2 h24) (wd_9 hw) (wd_10 hw) (wd_7 hw) (wd_11 hw) (by decide) pd_1 rfl rfl rfl rfl at_48 rfl (by decide) rfl (by decide) (by decide) (by decide) allWs0 (fun T26 h26 v26 X26 K26 Q26 => ?_)
    obtain ⟨rfl, rfl⟩ := Q26
    show Runs p e below (T26.setTop (mkF m 51 #[.val (.int q1), .val (.long q2), .second, .val (.long q3), .second, .val (.long q4), .second, .val (.int (2 : Int32)), .val (.ref b17), .val (.ref b18), .val (.long (0 : Int64)), .second, .unset, .unset] [(.long (own_h q2)), (.long (own_l q2))])) _
    refine X26.lsub (pc' := 52) at_51 rfl ?_
    refine X26.lstore (pc' := 54) (l' := #[.val (.int q1), .val (.long q2), .second, .val (.long q3), .second, .val (.long q4), .second, .val (.int (2 : Int32)), .val (.ref b17), .val (.ref b18), .val (.long (0 : Int64)), .second, .val (.long ((own_l q2) - (own_h q2))), .second]) at_52 rfl rfl ?_
    refine X26.lload (pc' := 56) at_54 rfl rfl ?_
    refine X26.lload (pc' := 58) at_56 rfl rfl ?_
    refine X26.lload (pc' := 60) at_58 rfl rfl ?_
    refine X26.lmul (pc' := 61) at_60 rfl ?_
    refine X26.ladd (pc' := 62) at_61 rfl ?_
    refine X26.lstore (pc' := 64) (l' := #[.val (.int q1), .val (.long q2), .second, .val (.long q3), .second, .val (.long q4), .second, .val (.int (2 : Int32)), .val (.ref b17), .val (.ref b18), .val (.long ((0 : Int64) + (((own_l q2) - (own_h q2)) * ((own_l q2) - (own_h q2))))), .second, .val (.long ((own_l q2) - (own_h q2))), .second]) at_62 rfl rfl ?_
    refine X26.iload (pc' := 66) at_64 rfl rfl ?_
    refine X26.iconst (pc' := 67) (z := 1) at_66 rfl rfl ?_
    refine X26.icmpNo (pc' := 70) at_67 (by decide) rfl ?_
    refine X26.aload (pc' := 72) at_70 rfl rfl rfl ?_
    refine X26.iconst (pc' := 73) (z := 1) at_72 rfl rfl ?_
    refine X26.lloadN (pc' := 74) at_73 rfl rfl ?_
    refine X26.callS (pc' := 77) (W := 2) (argsL := [(.long q3)]) (rest := [(.int (1 : Int32)), (.ref b17)]) (ct2 l Z a0 hw q3 h24) (wd_5 hw) (wd_6 hw) (wd_7 hw) (wd_8 hw) (by decide) pd_1 rfl rfl rfl rfl at_74 rfl (by decide) rfl (by decide) (by decide) (by decide) allWs0 (fun T27 h27 v27 X27 K27 Q27 => ?_)
    obtain ⟨rfl, rfl⟩ := Q27
    show Runs p e below (T27.setTop (mkF m 77 #[.val (.int q1), .val (.long q2), .second, .val (.long q3), .second, .val (.long q4), .second, .val (.int (2 : Int32)), .val (.ref b17), .val (.ref b18), .val (.long ((0 : Int64) + (((own_l q2) - (own_h q2)) * ((own_l q2) - (own_h q2))))), .second, .val (.long ((own_l q2) - (own_h q2))), .second] [(.long (own_l q3)), (.int (1 : Int32)), (.ref b17)])) _
    have di28 : Jvm.FP.Core.DInt (own_l q3).toInt (FP.l2d (own_l q3)) := Jvm.FP.Core.l2d_int (Nat.le_trans (own_lb q3) (by decide))
    refine X27.l2d (pc' := 78) at_77 rfl ?_
    refine X27.dastore (pc' := 79) V21_24 (show Inb (1 : Int32) 2 from ⟨by decide, by decide⟩) at_78 rfl (Or.inr sz_b17) (fun T29 h29 X29 W29 => ?_)
    have V29 : Lst Z h29 b17 .double [(.double (FP.l2d (own_l q2))), (.double (FP.l2d (own_l q3)))] := V21_24.set W29
    have V24_29 := V24.other W29 (Ne.symm ne_b17_b18)
    refine X29.aload (pc' := 81) at_79 rfl rfl rfl ?_
    refine X29.iconst (pc' := 82) (z := 1) at_81 rfl rfl ?_
    refine X29.lloadN (pc' := 83) at_82 rfl rfl ?_
    refine X29.callS (pc' := 86) (W := 2) (argsL := [(.long q3)]) (rest := [(.int (1 : Int32)), (.ref b18)]) (ct3 l Z a0 hw q3 h29) (wd_9 hw) (wd_10 hw) (wd_7 hw) (wd_11 hw) (by decide) pd_1 rfl rfl rfl rfl at_83 rfl (by decide) rfl (by decide) (by decide) (by decide) allWs0 (fun T30 h30 v30 X30 K30 Q30 => ?_)
    obtain ⟨rfl, rfl⟩ := Q30
    show Runs p e below (T30.setTop (mkF m 86 #[.val (.int q1), .val (.long q2), .second, .val (.long q3), .second, .val (.long q4), .second, .val (.int (2 : Int32)), .val (.ref b17), .val (.ref b18), .val (.long ((0 : Int64) + (((own_l q2) - (own_h q2)) * ((own_l q2) - (own_h q2))))), .second, .val (.long ((own_l q2) - (own_h q2))), .second] [(.long (own_h q3)), (.int (1 : Int32)), (.ref b18)])) _
    have di31 : Jvm.FP.Core.DInt (own_h q3).toInt (FP.l2d (own_h q3)) := Jvm.FP.Core.l2d_int (Nat.le_trans (own_hb q3) (by decide))
    refine X30.l2d (pc' := 87) at_86 rfl ?_
    refine X30.dastore (pc' := 88) V24_29 (show Inb (1 : Int32) 2 from ⟨by decide, by decide⟩) at_87 rfl (Or.inr sz_b18) (fun T32 h32 X32 W32 => ?_)
    have V32 : Lst Z h32 b18 .double [(.double (FP.l2d (own_h q2))), (.double (FP.l2d (own_h q3)))] := V24_29.set W32
    have V29_32 := V29.other W32 ne_b17_b18
    refine X32.lloadN (pc' := 89) at_88 rfl rfl ?_
    refine X32.callS (pc' := 92) (W := 0) (argsL := [(.long q3)]) (rest := []) (ct2 l Z a0 hw q3 h32) (wd_5 hw) (wd_6 hw) (wd_7 hw) (wd_8 hw) (by decide) pd_1 rfl rfl rfl rfl at_89 rfl (by decide) rfl (by decide) (by decide) (by decide) allWs0 (fun T33 h33 v33 X33 K33 Q33 => ?_)
    obtain ⟨rfl, rfl⟩ := Q33
    show Runs p e below (T33.setTop (mkF m 92 #[.val (.int q1), .val (.long q2), .second, .val (.long q3), .second, .val (.long q4), .second, .val (.int (2 : Int32)), .val (.ref b17), .val (.ref b18), .val (.long ((0 : Int64) + (((own_l q2) - (own_h q2)) * ((own_l q2) - (own_h q2))))), .second, .val (.long ((own_l q2) - (own_h q2))), .second] [(.long (own_l q3))])) _
    refine X33.lloadN (pc' := 93) at_92 rfl rfl ?_
    refine X33.callS (pc' := 96) (W := 2) (argsL := [(.long q3)]) (rest := [(.long (own_l q3))]) (ct3 l Z a0 hw q3 h32) (wd_9 hw) (wd_10 hw) (wd_7 hw) (wd_11 hw) (by decide) pd_1 rfl rfl rfl rfl at_93 rfl (by decide) rfl (by decide) (by decide) (by decide) allWs0 (fun T34 h34 v34 X34 K34 Q34 => ?_)
    obtain ⟨rfl, rfl⟩ := Q34
    show Runs p e below (T34.setTop (mkF m 96 #[.val (.int q1), .val (.long q2), .second, .val (.long q3), .second, .val (.long q4), .second, .val (.int (2 : Int32)), .val (.ref b17), .val (.ref b18), .val (.long ((0 : Int64) + (((own_l q2) - (own_h q2)) * ((own_l q2) - (own_h q2))))), .second, .val (.long ((own_l q2) - (own_h q2))), .second] [(.long (own_h q3)), (.long (own_l q3))])) _
    refine X34.lsub (pc' := 97) at_96 rfl ?_
    refine X34.lstore (pc' := 99) (l' := #[.val (.int q1), .val (.long q2), .second, .val (.long q3), .second, .val (.long q4), .second, .val (.int (2 : Int32)), .val (.ref b17), .val (.ref b18), .val (.long ((0 : Int64) + (((own_l q2) - (own_h q2)) * ((own_l q2) - (own_h q2))))), .second, .val (.long ((own_l q3) - (own_h q3))), .second]) at_97 rfl rfl ?_
    refine X34.lload (pc' := 101) at_99 rfl rfl ?_
    refine X34.lload (pc' := 103) at_101 rfl rfl ?_
    refine X34.lload (pc' := 105) at_103 rfl rfl ?_
    refine X34.lmul (pc' := 106) at_105 rfl ?_
    refine X34.ladd (pc' := 107) at_106 rfl ?_
    refine X34.lstore (pc' := 109) (l' := #[.val (.int q1), .val (.long q2), .second, .val (.long q3), .second, .val (.long q4), .second, .val (.int (2 : Int32)), .val (.ref b17), .val (.ref b18), .val (.long (((0 : Int64) + (((own_l q2) - (own_h q2)) * ((own_l q2) - (own_h q2)))) + (((own_l q3) - (own_h q3)) * ((own_l q3) - (own_h q3))))), .second, .val (.long ((own_l q3) - (own_h q3))), .second]) at_107 rfl rfl ?_
    refine X34.iload (pc' := 111) at_109 rfl rfl ?_
    refine X34.iconst (pc' := 112) (z := 2) at_111 rfl rfl ?_
    refine X34.icmpYes (pc' := 158) at_112 (by decide) (by decide) (by decide) ?_
    refine X34.aload (pc' := 160) at_158 rfl rfl rfl ?_
    refine X34.aload (pc' := 162) at_160 rfl rfl rfl ?_
    refine X34.callS (pc' := 165) (W := 0) (argsL := [(.ref b17), (.ref b18)]) (rest := []) (cts_2 l Z a0 hw b17 b18 (FP.l2d (own_l q2)) (FP.l2d (own_l q3)) (FP.l2d (own_h q2)) (FP.l2d (own_h q3)) (own_l q2).toInt (own_l q3).toInt (own_h q2).toInt (own_h q3).toInt h32 V29_32 V32 di20 (own_lb q2) di28 (own_lb q3) di23 (own_hb q2) di31 (own_hb q3)) (wd_1 hw) (wd_2 hw) (wd_3 hw) (wd_4 hw) (by decide) pd_0 rfl rfl rfl rfl at_162 rfl (by decide) rfl (by decide) (by decide) (by decide) allWs0 (fun T35 h35 v35 X35 K35 Q35 => ?_)
    obtain ⟨⟨r35, rfl, dr35⟩, rfl⟩ := Q35
    show Runs p e below (T35.setTop (mkF m 165 #[.val (.int q1), .val (.long q2), .second, .val (.long q3), .second, .val (.long q4), .second, .val (.int (2 : Int32)), .val (.ref b17), .val (.ref b18), .val (.long (((0 : Int64) + (((own_l q2) - (own_h q2)) * ((own_l q2) - (own_h q2)))) + (((own_l q3) - (own_h q3)) * ((own_l q3) - (own_h q3))))), .second, .val (.long ((own_l q3) - (own_h q3))), .second] [(.double r35)])) _
    refine X35.dstore (pc' := 167) (l' := #[.val (.int q1), .val (.long q2), .second, .val (.long q3), .second, .val (.long q4), .second, .val (.int (2 : Int32)), .val (.ref b17), .val (.ref b18), .val (.long (((0 : Int64) + (((own_l q2) - (own_h q2)) * ((own_l q2) - (own_h q2)))) + (((own_l q3) - (own_h q3)) * ((own_l q3) - (own_h q3))))), .second, .val (.double r35), .second]) at_165 rfl rfl ?_
    refine X35.dload (pc' := 169) at_167 rfl rfl ?_
    refine X35.lload (pc' := 171) at_169 rfl rfl ?_
    have e0 : (0 : Int64).toInt = 0 := rfl
    have b0 : (0 : Int64).toInt.natAbs ≤ 0 := Nat.le_refl 0
    have s0 := own_sb (own_lb q2) (own_hb q2)
    have t0 := own_ls s0 (by decide)
    have s0' := s0
    rw [← t0] at s0'
    have m0 := own_mb s0' s0'
    have f0 := own_lm m0 (by decide)
    have m0' := m0
    rw [← f0] at m0'
    have g0 := own_ab b0 m0'
    have e1 := own_la g0 (by decide)
    have b1 := g0
    rw [← e1] at b1
    rw [e0, f0, t0] at e1
    have s1 := own_sb (own_lb q3) (own_hb q3)
    have t1 := own_ls s1 (by decide)
    have s1' := s1
    rw [← t1] at s1'
    have m1 := own_mb s1' s1'
    have f1 := own_lm m1 (by decide)
    have m1' := m1
    rw [← f1] at m1'
    have g1 := own_ab b1 m1'
    have e2 := own_la g1 (by decide)
    have b2 := g1
    rw [← e2] at b2
    rw [e1, f1, t1] at e2
    have di36 : Jvm.FP.Core.DInt (((0 : Int64) + (((own_l q2) - (own_h q2)) * ((own_l q2) - (own_h q2)))) + (((own_l q3) - (own_h q3)) * ((own_l q3) - (own_h q3)))).toInt (FP.l2d (((0 : Int64) + (((own_l q2) - (own_h q2)) * ((own_l q2) - (own_h q2)))) + (((own_l q3) - (own_h q3)) * ((own_l q3) - (own_h q3))))) := Jvm.FP.Core.l2d_int (Nat.le_trans b2 (by decide))
    refine X35.l2d (pc' := 172) at_171 rfl ?_
    refine X35.dcmp (pc' := 173) (z := 0) at_172 (own_dc0 dr35 di36 e2.symm) rfl ?_
    refine X35.ifNo (pc' := 176) at_173 (by decide) rfl ?_
    refine X35.iconst (pc' := 177) (z := 1) at_176 rfl rfl ?_
    refine X35.goto (pc' := 181) at_177 (by decide) (by decide) ?_
    exact X35.zreturn (z' := (1 : Int32)) rfl (by simp) at_181 rfl (by decide) (by decide) rfl
  · refine X0.iload (pc' := 7) at_5 rfl rfl ?_
    refine X0.newarray (pc' := 9) (ty := .double) rfl (wd_0 hw) at_7 rfl (cap := 3) ⟨by decide, by decide⟩ (by decide) (by decide) (by decide) (fun T37 h37 b37 X37 g37 E37 V37 => ?_)
    have sz_b37 : h0.size ≤ b37 := g37 ▸ X0.size
    have V37' : Lst Z h37 b37 .double [(.double (0 : UInt64)), (.double (0 : UInt64)), (.double (0 : UInt64))] := V37
    refine X37.astore (pc' := 11) (l' := #[.val (.int q1), .val (.long q2), .second, .val (.long q3), .second, .val (.long q4), .second, .val (.int (3 : Int32)), .val (.ref b37), .unset, .unset, .unset, .unset, .unset]) at_9 rfl rfl rfl ?_
    refine X37.iload (pc' := 13) at_11 rfl rfl ?_
    refine X37.newarray (pc' := 15) (ty := .double) rfl (wd_0 hw) at_13 rfl (cap := 3) ⟨by decide, by decide⟩ (by decide) (by decide) (by decide) (fun T38 h38 b38 X38 g38 E38 V38 => ?_)
    have sz_b38 : h0.size ≤ b38 := g38 ▸ X37.size
    have ne_b37_b38 : b37 ≠ b38 := Nat.ne_of_lt (g38 ▸ V37'.lt)
    have V37'_38 := V37'.ext E38
    have V38' : Lst Z h38 b38 .double [(.double (0 : UInt64)), (.double (0 : UInt64)), (.double (0 : UInt64))] := V38
    refine X38.astore (pc' := 17) (l' := #[.val (.int q1), .val (.long q2), .second, .val (.long q3), .second, .val (.long q4), .second, .val (.int (3 : Int32)), .val (.ref b37), .val (.ref b38), .unset, .unset, .unset, .unset]) at_15 rfl rfl rfl ?_
    refine X38.lconst0 (pc' := 18) at_17 rfl ?_
    refine X38.lstore (pc' := 20) (l' := #[.val (.int q1), .val (.long q2), .second, .val (.long q3), .second, .val (.long q4), .second, .val (.int (3 : Int32)), .val (.ref b37), .val (.ref b38), .val (.long (0 : Int64)), .second, .unset, .unset]) at_18 rfl rfl ?_
    refine X38.iload (pc' := 22) at_20 rfl rfl ?_
    refine X38.ifNo (pc' := 25) at_22 (by decide) rfl ?_
    refine X38.aload (pc' := 27) at_25 rfl rfl rfl ?_
    refine X38.iconst (pc' := 28) (z := 0) at_27 rfl rfl ?_
    refine X38.lloadN (pc' := 29) at_28 rfl rfl ?_
    refine X38.callS (pc' := 32) (W := 2) (argsL := [(.long q2)]) (rest := [(.int (0 : Int32)), (.ref b37)]) (ct2 l Z a0 hw q2 h38) (wd_5 hw) (wd_6 hw) (wd_7 hw) (wd_8 hw) (by decide) pd_1 rfl rfl rfl rfl at_29 rfl (by decide) rfl (by decide) (by decide) (by decide) allWs0 (fun T39 h39 v39 X39 K39 Q39 => ?_)
    obtain ⟨rfl, rfl⟩ := Q39
    show Runs p e below (T39.setTop (mkF m 32 #[.val (.int q1), .val (.long q2), .second, .val (.long q3), .second, .val (.long q4), .second, .val (.int (3 : Int32)), .val (.ref b37), .val (.ref b38), .val (.long (0 : Int64)), .second, .unset, .unset] [(.long (own_l q2)), (.int (0 : Int32)), (.ref b37)])) _
    have di40 : Jvm.FP.Core.DInt (own_l q2).toInt (FP.l2d (own_l q2)) := Jvm.FP.Core.l2d_int (Nat.le_trans (own_lb q2) (by decide))
    refine X39.l2d (pc' := 33) at_32 rfl ?_
    refine X39.dastore (pc' := 34) V37'_38 (show Inb (0 : Int32) 3 from ⟨by decide, by decide⟩) at_33 rfl (Or.inr sz_b37) (fun T41 h41 X41 W41 => ?_)
    have V41 : Lst Z h41 b37 .double [(.double (FP.l2d (own_l q2))), (.double (0 : UInt64)), (.double (0 : UInt64))] := V37'_38.set W41
    have V38'_41 := V38'.other W41 (Ne.symm ne_b37_b38)
    refine X41.aload (pc' := 36) at_34 rfl rfl rfl ?_
    refine X41.iconst (pc' := 37) (z := 0) at_36 rfl rfl ?_
    refine X41.lloadN (pc' := 38) at_37 rfl rfl ?_
    refine X41.callS (pc' := 41) (W := 2) (argsL := [(.long q2)]) (rest := [(.int (0 : Int32)), (.ref b38)]) (ct3 l Z a0 hw q2 h41) (wd_9 hw) (wd_10 hw) (wd_7 hw) (wd_11 hw) (by decide) pd_1 rfl rfl rfl rfl at_38 rfl (by decide) rfl (by decide) (by decide) (by decide) allWs0 (fun T42 h42 v42 X42 K42 Q42 => ?_)
    obtain ⟨rfl, rfl⟩ := Q42
    show Runs p e below (T42.setTop (mkF m 41 #[.val (.int q1), .val (.long q2), .second, .val (.long q3), .second, .val (.long q4), .second, .val (.int (3 : Int32)), .val (.ref b37), .val (.ref b38), .val (.long (0 : Int64)), .second, .unset, .unset] [(.long (own_h q2)), (.int (0 : Int32)), (.ref b38)])) _
    have di43 : Jvm.FP.Core.DInt (own_h q2).toInt (FP.l2d (own_h q2)) := Jvm.FP.Core.l2d_int (Nat.le_trans (own_hb q2) (by decide))
    refine X42.l2d (pc' := 42) at_41 rfl ?_
    refine X42.dastore (pc' := 43) V38'_41 (show Inb (0 : Int32) 3 from ⟨by decide, by decide⟩) at_42 rfl (Or.inr sz_b38) (fun T44 h44 X44 W44 => ?_)
    have V44 : Lst Z h44 b38 .double [(.double (FP.l2d (own_h q2))), (.double (0 : UInt64)), (.double (0 : UInt64))] := V38'_41.set W44
    have V41_44 := V41.other W44 ne_b37_b38
    refine X44.lloadN (pc' := 44) at_43 rfl rfl ?_
    refine X44.callS (pc' := 47) (W := 0) (argsL := [(.long q2)]) (rest := []) (ct2 l Z a0 hw q2 h44) (wd_5 hw) (wd_6 hw) (wd_7 hw) (wd_8 hw) (by decide) pd_1 rfl rfl rfl rfl at_44 rfl (by decide) rfl (by decide) (by decide) (by decide) allWs0 (fun T45 h45 v45 X45 K45 Q45 => ?_)
    obtain ⟨rfl, rfl⟩ := Q45
    show Runs p e below (T45.setTop (mkF m 47 #[.val (.int q1), .val (.long q2), .second, .val (.long q3), .second, .val (.long q4), .second, .val (.int (3 : Int32)), .val (.ref b37), .val (.ref b38), .val (.long (0 : Int64)), .second, .unset, .unset] [(.long (own_l q2))])) _
    refine X45.lloadN (pc' := 48) at_47 rfl rfl ?_
    refine X45.callS (pc' := 51) (W := 2) (argsL := [(.long q2)]) (rest := [(.long (own_l q2))]) (ct3 l Z a0 hw q2 h44) (wd_9 hw) (wd_10 hw) (wd_7 hw) (wd_11 hw) (by decide) pd_1 rfl rfl rfl rfl at_48 rfl (by decide) rfl (by decide) (by decide) (by decide) allWs0 (fun T46 h46 v46 X46 K46 Q46 => ?_)
    obtain ⟨rfl, rfl⟩ := Q46
    show Runs p e below (T46.setTop (mkF m 51 #[.val (.int q1), .val (.long q2), .second, .val (.long q3), .second, .val (.long q4), .second, .val (.int (3 : Int32)), .val (.ref b37), .val (.ref b38), .val (.long (0 : Int64)), .second, .unset, .unset] [(.long (own_h q2)), (.long (own_l q2))])) _
    refine X46.lsub (pc' := 52) at_51 rfl ?_
    refine X46.lstore (pc' := 54) (l' := #[.val (.int q1), .val (.long q2), .second, .val (.long q3), .second, .val (.long q4), .second, .val (.int (3 : Int32)), .val (.ref b37), .val (.ref b38), .val (.long (0 : Int64)), .second, .val (.long ((own_l q2) - (own_h q2))), .second]) at_52 rfl rfl ?_
    refine X46.lload (pc' := 56) at_54 rfl rfl ?_
    refine X46.lload (pc' := 58) at_56 rfl rfl ?_
    refine X46.lload (pc' := 60) at_58 rfl rfl ?_
    refine X46.lmul (pc' := 61) at_60 rfl ?_
    refine X46.ladd (pc' := 62) at_61 rfl ?_
    refine X46.lstore (pc' := 64) (l' := #[.val (.int q1), .val (.long q2), .second, .val (.long q3), .second, .val (.long q4), .second, .val (.int (3 : Int32)), .val (.ref b37), .val (.ref b38), .val (.long ((0 : Int64) + (((own_l q2) - (own_h q2)) * ((own_l q2) - (own_h q2))))), .second, .val (.long ((own_l q2) - (own_h q2))), .second]) at_62 rfl rfl ?_
    refine X46.iload (pc' := 66) at_64 rfl rfl ?_
    refine X46.iconst (pc' := 67) (z := 1) at_66 rfl rfl ?_
    refine X46.icmpNo (pc' := 70) at_67 (by decide) rfl ?_
    refine X46.aload (pc' := 72) at_70 rfl rfl rfl ?_
    refine X46.iconst (pc' := 73) (z := 1) at_72 rfl rfl ?_
    refine X46.lloadN (pc' := 74) at_73 rfl rfl ?_
    refine X46.callS (pc' := 77) (W := 2) (argsL := [(.long q3)]) (rest := [(.int (1 : Int32)), (.ref b37)]) (ct2 l Z a0 hw q3 h44) (wd_5 hw) (wd_6 hw) (wd_7 hw) (wd_8 hw) (by decide) pd_1 rfl rfl rfl rfl at_74 rfl (by decide) rfl (by decide) (by decide) (by decide) allWs0 (fun T47 h47 v47 X47 K47 Q47 => ?_)
    obtain ⟨rfl, rfl⟩ := Q47
    show Runs p e below (T47.setTop (mkF m 77 #[.val (.int q1), .val (.long q2), .second, .val (.long q3), .second, .val (.long q4), .second, .val (.int (3 : Int32)), .val (.ref b37), .val (.ref b38), .val (.long ((0 : Int64) + (((own_l q2) - (own_h q2)) * ((own_l q2) - (own_h q2))))), .second, .val (.long ((own_l q2) - (own_h q2))), .second] [(.long (own_l q3)), (.int (1 : Int32)), (.ref b37)])) _
    have di48 : Jvm.FP.Core.DInt (own_l q3).toInt (FP.l2d (own_l q3)) := Jvm.FP.Core.l2d_int (Nat.le_trans (own_lb q3) (by decide))
    refine X47.l2d (pc' := 78) at_77 rfl ?_
    refine X47.dastore (pc' := 79) V41_44 (show Inb (1 : Int32) 3 from ⟨by decide, by decide⟩) at_78 rfl (Or.inr sz_b37) (fun T49 h49 X49 W49 => ?_)
    have V49 : Lst Z h49 b37 .double [(.double (FP.l2d (own_l q2))), (.double (FP.l2d (own_l q3))), (.double (0 : UInt64))] := V41_44.set W49
    have V44_49 := V44.other W49 (Ne.symm ne_b37_b38)
    refine X49.aload (pc' := 81) at_79 rfl rfl rfl ?_
    refine X49.iconst (pc' := 82) (z := 1) at_81 rfl rfl ?_
    refine X49.lloadN (pc' := 83) at_82 rfl rfl ?_
    refine X49.callS (pc' := 86) (W := 2) (argsL := [(.long q3)]) (rest := [(.int (1 : Int32)), (.ref b38)]) (ct3 l Z a0 hw q3 h49) (wd_9 hw) (wd_10 hw) (wd_7 hw) (wd_11 hw) (by decide) pd_1 rfl rfl rfl rfl at_83 rfl (by decide) rfl (by decide) (by decide) (by decide) allWs0 (fun T50 h50 v50 X50 K50 Q50 => ?_)
    obtain ⟨rfl, rfl⟩ := Q50
    show Runs p e below (T50.setTop (mkF m 86 #[.val (.int q1), .val (.long q2), .second, .val (.long q3), .second, .val (.long q4), .second, .val (.int (3 : Int32)), .val (.ref b37), .val (.ref b38), .val (.long ((0 : Int64) + (((own_l q2) - (own_h q2)) * ((own_l q2) - (own_h q2))))), .second, .val (.long ((own_l q2) - (own_h q2))), .second] [(.long (own_h q3)), (.int (1 : Int32)), (.ref b38)])) _
    have di51 : Jvm.FP.Core.DInt (own_h q3).toInt (FP.l2d (own_h q3)) := Jvm.FP.Core.l2d_int (Nat.le_trans (own_hb q3) (by decide))
    refine X50.l2d (pc' := 87) at_86 rfl ?_
    refine X50.dastore (pc' := 88) V44_49 (show Inb (1 : Int32) 3 from ⟨by decide, by decide⟩) at_87 rfl (Or.inr sz_b38) (fun T52 h52 X52 W52 => ?_)
    have V52 : Lst Z h52 b38 .double [(.double (FP.l2d (own_h q2))), (.double (FP.l2d (own_h q3))), (.double (0 : UInt64))] := V44_49.set W52
    have V49_52 := V49.other W52 ne_b37_b38
    refine X52.lloadN (pc' := 89) at_88 rfl rfl ?_
    refine X52.callS (pc' := 92) (W := 0) (argsL := [(.long q3)]) (rest := []) (ct2 l Z a0 hw q3 h52) (wd_5 hw) (wd_6 hw) (wd_7 hw) (wd_8 hw) (by decide) pd_1 rfl rfl rfl rfl at_89 rfl (by decide) rfl (by decide) (by decide) (by decide) allWs0 (fun T53 h53 v53 X53 K53 Q53 => ?_)
    obtain ⟨rfl, rfl⟩ := Q53
    show Runs p e below (T53.setTop (mkF m 92 #[.val (.int q1), .val (.long q2), .second, .val (.long q3), .second, .val (.long q4), .second, .val (.int (3 : Int32)), .val (.ref b37), .val (.ref b38), .val (.long ((0 : Int64) + (((own_l q2) - (own_h q2)) * ((own_l q2) - (own_h q2))))), .second, .val (.long ((own_l q2) - (own_h q2))), .second] [(.long (own_l q3))])) _
    refine X53.lloadN (pc' := 93) at_92 rfl rfl ?_
    refine X53.callS (pc' := 96) (W := 2) (argsL := [(.long q3)]) (rest := [(.long (own_l q3))]) (ct3 l Z a0 hw q3 h52) (wd_9 hw) (wd_10 hw) (wd_7 hw) (wd_11 hw) (by decide) pd_1 rfl rfl rfl rfl at_93 rfl (by decide) rfl (by decide) (by decide) (by decide) allWs0 (fun T54 h54 v54 X54 K54 Q54 => ?_)
    obtain ⟨rfl, rfl⟩ := Q54
    show Runs p e below (T54.setTop (mkF m 96 #[.val (.int q1), .val (.long q2), .second, .val (.long q3), .second, .val (.long q4), .second, .val (.int (3 : Int32)), .val (.ref b37), .val (.ref b38), .val (.long ((0 : Int64) + (((own_l q2) - (own_h q2)) * ((own_l q2) - (own_h q2))))), .second, .val (.long ((own_l q2) - (own_h q2))), .second] [(.long (own_h q3)), (.long (own_l q3))])) _
    refine X54.lsub (pc' := 97) at_96 rfl ?_
    refine X54.lstore (pc' := 99) (l' := #[.val (.int q1), .val (.long q2), .second, .val (.long q3), .second, .val (.long q4), .second, .val (.int (3 : Int32)), .val (.ref b37), .val (.ref b38), .val (.long ((0 : Int64) + (((own_l q2) - (own_h q2)) * ((own_l q2) - (own_h q2))))), .second, .val (.long ((own_l q3) - (own_h q3))), .second]) at_97 rfl rfl ?_
    refine X54.lload (pc' := 101) at_99 rfl rfl ?_
    refine X54.lload (pc' := 103) at_101 rfl rfl ?_
    refine X54.lload (pc' := 105) at_103 rfl rfl ?_
    refine X54.lmul (pc' := 106) at_105 rfl ?_
    refine X54.ladd (pc' := 107) at_106 rfl ?_
    refine X54.lstore (pc' := 109) (l' := #[.val (.int q1), .val (.long q2), .second, .val (.long q3), .second, .val (.long q4), .second, .val (.int (3 : Int32)), .val (.ref b37), .val (.ref b38), .val (.long (((0 : Int64) + (((own_l q2) - (own_h q2)) * ((own_l q2) - (own_h q2)))) + (((own_l q3) - (own_h q3)) * ((own_l q3) - (own_h q3))))), .second, .val (.long ((own_l q3) - (own_h q3))), .second]) at_107 rfl rfl ?_
    refine X54.iload (pc' := 111) at_109 rfl rfl ?_
    refine X54.iconst (pc' := 112) (z := 2) at_111 rfl rfl ?_
    refine X54.icmpNo (pc' := 115) at_112 (by decide) rfl ?_
    refine X54.aload (pc' := 117) at_115 rfl rfl rfl ?_
    refine X54.iconst (pc' := 118) (z := 2) at_117 rfl rfl ?_
    refine X54.lload (pc' := 120) at_118 rfl rfl ?_
    refine X54.callS (pc' := 123) (W := 2) (argsL := [(.long q4)]) (rest := [(.int (2 : Int32)), (.ref b37)]) (ct2 l Z a0 hw q4 h52) (wd_5 hw) (wd_6 hw) (wd_7 hw) (wd_8 hw) (by decide) pd_1 rfl rfl rfl rfl at_120 rfl (by decide) rfl (by decide) (by decide) (by decide) allWs0 (fun T55 h55 v55 X55 K55 Q55 => ?_)
    obtain ⟨rfl, rfl⟩ := Q55
    show Runs p e below (T55.setTop (mkF m 123 #[.val (.int q1), .val (.long q2), .second, .val (.long q3), .second, .val (.long q4), .second, .val (.int (3 : Int32)), .val (.ref b37), .val (.ref b38), .val (.long (((0 : Int64) + (((own_l q2) - (own_h q2)) * ((own_l q2) - (own_h q2)))) + (((own_l q3) - (own_h q3)) * ((own_l q3) - (own_h q3))))), .second, .val (.long ((own_l q3) - (own_h q3))), .second] [(.long (own_l q4)), (.int (2 : Int32)), (.ref b37)])) _
    have di56 : Jvm.FP.Core.DInt (own_l q4).toInt (FP.l2d (own_l q4)) := Jvm.FP.Core.l2d_int (Nat.le_trans (own_lb q4) (by decide))
    refine X55.l2d (pc' := 124) at_123 rfl ?_
    refine X55.dastore (pc' := 125) V49_52 (show Inb (2 : Int32) 3 from ⟨by decide, by decide⟩) at_124 rfl (Or.inr sz_b37) (fun T57 h57 X57 W57 => ?_)
    have V57 : Lst Z h57 b37 .double [(.double (FP.l2d (own_l q2))), (.double (FP.l2d (own_l q3))), (.double (FP.l2d (own_l q4)))] := V49_52.set W57
    have V52_57 := V52.other W57 (Ne.symm ne_b37_b38)
    refine X57.aload (pc' := 127) at_125 rfl rfl rfl ?_
    refine X57.iconst (pc' := 128) (z := 2) at_127 rfl rfl ?_
    refine X57.lload (pc' := 130) at_128 rfl rfl ?_
    refine X57.callS (pc' := 133) (W := 2) (argsL := [(.long q4)]) (rest := [(.int (2 : Int32)), (.ref b38)]) (ct3 l Z a0 hw q4 h57) (wd_9 hw) (wd_10 hw) (wd_7 hw) (wd_11 hw) (by decide) pd_1 rfl rfl rfl rfl at_130 rfl (by decide) rfl (by decide) (by decide) (by decide) allWs0 (fun T58 h58 v58 X58 K58 Q58 => ?_)
    obtain ⟨rfl, rfl⟩ := Q58
    show Runs p e below (T58.setTop (mkF m 133 #[.val (.int q1), .val (.long q2), .second, .val (.long q3), .second, .val (.long q4), .second, .val (.int (3 : Int32)), .val (.ref b37), .val (.ref b38), .val (.long (((0 : Int64) + (((own_l q2) - (own_h q2)) * ((own_l q2) - (own_h q2)))) + (((own_l q3) - (own_h q3)) * ((own_l q3) - (own_h q3))))), .second, .val (.long ((own_l q3) - (own_h q3))), .second] [(.long (own_h q4)), (.int (2 : Int32)), (.ref b38)])) _
    have di59 : Jvm.FP.Core.DInt (own_h q4).toInt (FP.l2d (own_h q4)) := Jvm.FP.Core.l2d_int (Nat.le_trans (own_hb q4) (by decide))
    refine X58.l2d (pc' := 134) at_133 rfl ?_
    refine X58.dastore (pc' := 135) V52_57 (show Inb (2 : Int32) 3 from ⟨by decide, by decide⟩) at_134 rfl (Or.inr sz_b38) (fun T60 h60 X60 W60 => ?_)
    have V60 : Lst Z h60 b38 .double [(.double (FP.l2d (own_h q2))), (.double (FP.l2d (own_h q3))), (.double (FP.l2d (own_h q4)))] := V52_57.set W60
    have V57_60 := V57.other W60 ne_b37_b38
    refine X60.lload (pc' := 137) at_135 rfl rfl ?_
    refine X60.callS (pc' := 140) (W := 0) (argsL := [(.long q4)]) (rest := []) (ct2 l Z a0 hw q4 h60) (wd_5 hw) (wd_6 hw) (wd_7 hw) (wd_8 hw) (by decide) pd_1 rfl rfl rfl rfl at_137 rfl (by decide) rfl (by decide) (by decide) (by decide) allWs0 (fun T61 h61 v61 X61 K61 Q61 => ?_)
    obtain ⟨rfl, rfl⟩ := Q61
    show Runs p e below (T61.setTop (mkF m 140 #[.val (.int q1), .val (.long q2), .second, .val (.long q3), .second, .val (.long q4), .second, .val (.int (3 : Int32)), .val (.ref b37), .val (.ref b38), .val (.long (((0 : Int64) + (((own_l q2) - (own_h q2)) * ((own_l q2) - (own_h q2)))) + (((own_l q3) - (own_h q3)) * ((own_l q3) - (own_h q3))))), .second, .val (.long ((own_l q3) - (own_h q3))), .second] [(.long (own_l q4))])) _
    refine X61.lload (pc' := 142) at_140 rfl rfl ?_
    refine X61.callS (pc' := 145) (W := 2) (argsL := [(.long q4)]) (rest := [(.long (own_l q4))]) (ct3 l Z a0 hw q4 h60) (wd_9 hw) (wd_10 hw) (wd_7 hw) (wd_11 hw) (by decide) pd_1 rfl rfl rfl rfl at_142 rfl (by decide) rfl (by decide) (by decide) (by decide) allWs0 (fun T62 h62 v62 X62 K62 Q62 => ?_)
    obtain ⟨rfl, rfl⟩ := Q62
    show Runs p e below (T62.setTop (mkF m 145 #[.val (.int q1), .val (.long q2), .second, .val (.long q3), .second, .val (.long q4), .second, .val (.int (3 : Int32)), .val (.ref b37), .val (.ref b38), .val (.long (((0 : Int64) + (((own_l q2) - (own_h q2)) * ((own_l q2) - (own_h q2)))) + (((own_l q3) - (own_h q3)) * ((own_l q3) - (own_h q3))))), .second, .val (.long ((own_l q3) - (own_h q3))), .second] [(.long (own_h q4)), (.long (own_l q4))])) _
    refine X62.lsub (pc' := 146) at_145 rfl ?_
    refine X62.lstore (pc' := 148) (l' := #[.val (.int q1), .val (.long q2), .second, .val (.long q3), .second, .val (.long q4), .second, .val (.int (3 : Int32)), .val (.ref b37), .val (.ref b38), .val (.long (((0 : Int64) + (((own_l q2) - (own_h q2)) * ((own_l q2) - (own_h q2)))) + (((own_l q3) - (own_h q3)) * ((own_l q3) - (own_h q3))))), .second, .val (.long ((own_l q4) - (own_h q4))), .second]) at_146 rfl rfl ?_
    refine X62.lload (pc' := 150) at_148 rfl rfl ?_
    refine X62.lload (pc' := 152) at_150 rfl rfl ?_
    refine X62.lload (pc' := 154) at_152 rfl rfl ?_
    refine X62.lmul (pc' := 155) at_154 rfl ?_
    refine X62.ladd (pc' := 156) at_155 rfl ?_
    refine X62.lstore (pc' := 158) (l' := #[.val (.int q1), .val (.long q2), .second, .val (.long q3), .second, .val (.long q4), .second, .val (.int (3 : Int32)), .val (.ref b37), .val (.ref b38), .val (.long ((((0 : Int64) + (((own_l q2) - (own_h q2)) * ((own_l q2) - (own_h q2)))) + (((own_l q3) - (own_h q3)) * ((own_l q3) - (own_h q3)))) + (((own_l q4) - (own_h q4)) * ((own_l q4) - (own_h q4))))), .second, .val (.long ((own_l q4) - (own_h q4))), .second]) at_156 rfl rfl ?_
    refine X62.aload (pc' := 160) at_158 rfl rfl rfl ?_
    refine X62.aload (pc' := 162) at_160 rfl rfl rfl ?_
    refine X62.callS (pc' := 165) (W := 0) (argsL := [(.ref b37), (.ref b38)]) (rest := []) (cts_3 l Z a0 hw b37 b38 (FP.l2d (own_l q2)) (FP.l2d (own_l q3)) (FP.l2d (own_l q4)) (FP.l2d (own_h q2)) (FP.l2d (own_h q3)) (FP.l2d (own_h q4)) (own_l q2).toInt (own_l q3).toInt (own_l q4).toInt (own_h q2).toInt (own_h q3).toInt (own_h q4).toInt h60 V57_60 V60 di40 (own_lb q2) di48 (own_lb q3) di56 (own_lb q4) di43 (own_hb q2) di51 (own_hb q3) di59 (own_hb q4)) (wd_1 hw) (wd_2 hw) (wd_3 hw) (wd_4 hw) (by decide) pd_0 rfl rfl rfl rfl at_162 rfl (by decide) rfl (by decide) (by decide) (by decide) allWs0 (fun T63 h63 v63 X63 K63 Q63 => ?_)
    obtain ⟨⟨r63, rfl, dr63⟩, rfl⟩ := Q63
    show Runs p e below (T63.setTop (mkF m 165 #[.val (.int q1), .val (.long q2), .second, .val (.long q3), .second, .val (.long q4), .second, .val (.int (3 : Int32)), .val (.ref b37), .val (.ref b38), .val (.long ((((0 : Int64) + (((own_l q2) - (own_h q2)) * ((own_l q2) - (own_h q2)))) + (((own_l q3) - (own_h q3)) * ((own_l q3) - (own_h q3)))) + (((own_l q4) - (own_h q4)) * ((own_l q4) - (own_h q4))))), .second, .val (.long ((own_l q4) - (own_h q4))), .second] [(.double r63)])) _
    refine X63.dstore (pc' := 167) (l' := #[.val (.int q1), .val (.long q2), .second, .val (.long q3), .second, .val (.long q4), .second, .val (.int (3 : Int32)), .val (.ref b37), .val (.ref b38), .val (.long ((((0 : Int64) + (((own_l q2) - (own_h q2)) * ((own_l q2) - (own_h q2)))) + (((own_l q3) - (own_h q3)) * ((own_l q3) - (own_h q3)))) + (((own_l q4) - (own_h q4)) * ((own_l q4) - (own_h q4))))), .second, .val (.double r63), .second]) at_165 rfl rfl ?_
    refine X63.dload (pc' := 169) at_167 rfl rfl ?_
    refine X63.lload (pc' := 171) at_169 rfl rfl ?_
    have e0 : (0 : Int64).toInt = 0 := rfl
    have b0 : (0 : Int64).toInt.natAbs ≤ 0 := Nat.le_refl 0
    have s0 := own_sb (own_lb q2) (own_hb q2)
    have t0 := own_ls s0 (by decide)
    have s0' := s0
    rw [← t0] at s0'
    have m0 := own_mb s0' s0'
    have f0 := own_lm m0 (by decide)
    have m0' := m0
    rw [← f0] at m0'
    have g0 := own_ab b0 m0'
    have e1 := own_la g0 (by decide)
    have b1 := g0
    rw [← e1] at b1
    rw [e0, f0, t0] at e1
    have s1 := own_sb (own_lb q3) (own_hb q3)
    have t1 := own_ls s1 (by decide)
    have s1' := s1
    rw [← t1] at s1'
    have m1 := own_mb s1' s1'
    have f1 := own_lm m1 (by decide)
    have m1' := m1
    rw [← f1] at m1'
    have g1 := own_ab b1 m1'
    have e2 := own_la g1 (by decide)
    have b2 := g1
    rw [← e2] at b2
    rw [e1, f1, t1] at e2
    have s2 := own_sb (own_lb q4) (own_hb q4)
    have t2 := own_ls s2 (by decide)
    have s2' := s2
    rw [← t2] at s2'
    have m2 := own_mb s2' s2'
    have f2 := own_lm m2 (by decide)
    have m2' := m2
    rw [← f2] at m2'
    have g2 := own_ab b2 m2'
    have e3 := own_la g2 (by decide)
    have b3 := g2
    rw [← e3] at b3
    rw [e2, f2, t2] at e3
    have di64 : Jvm.FP.Core.DInt ((((0 : Int64) + (((own_l q2) - (own_h q2)) * ((own_l q2) - (own_h q2)))) + (((own_l q3) - (own_h q3)) * ((own_l q3) - (own_h q3)))) + (((own_l q4) - (own_h q4)) * ((own_l q4) - (own_h q4)))).toInt (FP.l2d ((((0 : Int64) + (((own_l q2) - (own_h q2)) * ((own_l q2) - (own_h q2)))) + (((own_l q3) - (own_h q3)) * ((own_l q3) - (own_h q3)))) + (((own_l q4) - (own_h q4)) * ((own_l q4) - (own_h q4))))) := Jvm.FP.Core.l2d_int (Nat.le_trans b3 (by decide))
    refine X63.l2d (pc' := 172) at_171 rfl ?_
    refine X63.dcmp (pc' := 173) (z := 0) at_172 (own_dc0 dr63 di64 e3.symm) rfl ?_
    refine X63.ifNo (pc' := 176) at_173 (by decide) rfl ?_
    refine X63.iconst (pc' := 177) (z := 1) at_176 rfl rfl ?_
    refine X63.goto (pc' := 181) at_177 (by decide) (by decide) ?_
    exact X63.zreturn (z' := (1 : Int32)) rfl (by simp) at_181 rfl (by decide) (by decide) rfl
set_option maxRecDepth 65536 in
set_option maxHeartbeats 40000000 in
theorem comes_1 {Post : Tables → Env → Array Value → State → Outcome → State → Prop} (hpost : ∀ tb e args s v u, (limb_1_1.after args s (.returned v) u = true ∧ limb_1_2.after args s (.returned v) u = true ∧ True) → FrameEnd s (.returned v) u (Jvm.fieldLocs frame_1_writes args s ++ Jvm.arrayLocs frame_1_arrays args s ++ Jvm.staticLocs frame_1_statics s) 16 128 → Post tb e args s (.returned v) u) :
    ArmFor flags0 classFile x code maxLocals ret World_1 tables_1 room_1 Calls_1 rest_1 Pre_1 Post := by
  intro l hfl _ _ p e ha hc hk s m args below hf hA hF happ hP
  obtain ⟨hcalls, hrest, hpre⟩ := hP
  obtain ⟨-, -, -, hnamed, -, -, -, hat⟩ := (Spec.applies_iff hf).mp happ
  obtain ⟨hg, hn⟩ := and_e (Cond.before_iff.mp (show (Jvm.Cond.and given_1 narrow_1).before args s = true from hpre))
  obtain ⟨g1, g2⟩ := and_e hg
  obtain ⟨g3, g4⟩ := and_e g2
  obtain ⟨g5, g6⟩ := and_e g4
  obtain ⟨g7, g8⟩ := and_e g6
  obtain ⟨w0, w1, w2, w3, rfl⟩ : ∃ w0 w1 w2 w3 : Value, args = #[w0, w1, w2, w3] := by
    have hs : args.size = 4 := by simpa [Cond.value, given_1] using g1
    obtain ⟨L⟩ := args
    match L, hs with
    | [w0, w1, w2, w3], _ => exact ⟨w0, w1, w2, w3, rfl⟩
  have hw := fun d (hd : d ∈ tables_1) => atoms_spec (ws := Jvm.Cond.code x code maxLocals ret :: tables_1) hat d (List.mem_cons_of_mem _ hd)
  obtain ⟨i0, ei0⟩ := is_v g3
  obtain rfl : w0 = (.int i0) := Option.some.inj ei0
  obtain ⟨i1, ei1⟩ := isL_v g5
  obtain rfl : w1 = (.long i1) := Option.some.inj ei1
  obtain ⟨i2, ei2⟩ := isL_v g7
  obtain rfl : w2 = (.long i2) := Option.some.inj ei2
  obtain ⟨i3, ei3⟩ := isL_v g8
  obtain rfl : w3 = (.long i3) := Option.some.inj ei3
  obtain ⟨n, o, h1, h2, h3, _, L, rfl, ⟨rfl, -, N⟩, hq⟩ := ct0 l s _ hw i0 i1 i2 i3 s.heap tables_1 p e ha hc hk s m _ below hf ((Spec.applies_iff_loose hf).mp happ).1 ⟨rfl, State.Warmed39.refl s, rfl⟩ trivial
  refine ⟨n, _, h1, h2, h3, hpost _ _ _ _ _ _ ⟨Cond.after_iff.mpr rfl, Cond.after_iff.mpr (eq_i res_at (Term.int_eval (1)) rfl), trivial⟩ ⟨hq.1, hq.2.1, (hq.2.2.sift fun y hy => Or.inr ((N y hy).elim (fun z => nomatch z) id)).mono (by decide) (by decide)⟩⟩
theorem main_1_1 : Claimed_1_1 := comes_1 fun _ _ _ _ _ _ h hF => ⟨h.1, hF⟩
theorem main_1_2 : Claimed_1_2 := comes_1 fun _ _ _ _ _ _ h hF => ⟨h.2.1, hF⟩
end Jvm.Pilot.@@N@@
namespace Jvm.Pilot.@@N@@
open Jvm Jvm.ClassFile Sem Op Lib Jvm.Free Jvm.Stand Jvm.Pilot.@@N@@.Jvm.D
/-! MADE BY PROGRAM (witnessworld.py) out of the Statement's table words and the real class files: 9 classes; the members and pool entries that the words name. The judged class is class 1, her method 3. -/
namespace start1
open Jvm.ClassFile
def u (s : String) : CpInfo := .utf8 (stringToUtf16 s)
/-- a pool by its gaps: so many unusable entries, then the entry; so many at the end -/
def gap : Nat → List CpInfo → List CpInfo
  | 0, r => r
  | n + 1, r => .unusable :: gap n r
def poolList (es : List (Nat × CpInfo)) (last : Nat) : List CpInfo := es.foldr (fun e r => gap e.1 (e.2 :: r)) (gap last [])
def pool (es : List (Nat × CpInfo)) (last : Nat) : Array CpInfo := ⟨poolList es last⟩
def fileOf (pool : Array CpInfo) (this : Nat) (attrs : Array Attribute := #[]) (ms : Array MethodInfo := #[]) (fl : Nat := 33) (sup : Nat := 0) (ifs : Array Nat := #[]) (fds : Array FieldInfo := #[]) : ClassFile where
  minorVersion := 0
  majorVersion := 65
  constantPool := pool
  accessFlags := fl
  thisClass := this
  superClass := sup
  interfaces := ifs
  fields := fds
  methods := ms
  attributes := attrs
def plain (name : String) (sup : Option ClassId) : Class where
  name := name
  kind := .ordinary
  loader := none
  accessFlags := 33
  super := sup
  interfaces := #[]
  cf := none
  fields := #[]
  methods := #[]
  instanceTypes := #[]
  staticTypes := #[]
  resolved := #[]
  callSites := []
  init := .initialized
  statics := none
  mirror := none

def pool0 : Array CpInfo := pool [(5, u "<init>"), (0, u "()V"), (1, .class_ 10), (1, u "java/lang/Object")] 113

def k0m0 : Method := { name := "<init>", desc := "()V", sig := { parameters := [], returnType := none }, accessFlags := 1, code := none }
/-- java/lang/Object -/
def k0 : Class := { plain "java/lang/Object" none with
  accessFlags := 33
  interfaces := #[]
  cf := some (fileOf pool0 8 #[] #[{ accessFlags := 1, nameIndex := 5, descriptorIndex := 6, attributes := #[] }] 33 0 #[] #[])
  fields := #[]
  methods := #[k0m0]
  instanceTypes := #[]
  staticTypes := #[]
  resolved := Array.replicate 124 none
  statics := none }

def pool1 : Array CpInfo := pool [(2, .class_ 4), (1, u "java/lang/Object"), (0, u "<init>"), (0, u "()V"), (0, .methodref 8 9), (0, .class_ 10), (0, .nameAndType 11 12), (0, u "com/example/corelith/corelith/meb/VectorsSquaredDistancePinLaw"), (0, u "lo"), (0, u "(J)J"), (0, .methodref 8 14), (0, .nameAndType 15 12), (0, u "hi"), (0, .methodref 17 18), (0, .class_ 19), (0, .nameAndType 20 21), (0, u "com/example/corelith/corelith/meb/Vectors"), (0, u "squaredDistance"), (0, u "([D[D)D"), (2, u "law"), (0, u "(IJJJ)Z")] 5

def k1m0 : Method := { name := "<init>", desc := "()V", sig := { parameters := [], returnType := none }, accessFlags := 2, code := none }
def k1c1 : Code := { maxStack := 3, maxLocals := 2, code := method_2_code, exceptionTable := #[], attributes := #[] }
def k1m1 : Method := { name := "lo", desc := "(J)J", sig := { parameters := [.long], returnType := some .long }, accessFlags := 10, code := some k1c1 }
def k1c2 : Code := { maxStack := 3, maxLocals := 2, code := method_3_code, exceptionTable := #[], attributes := #[] }
def k1m2 : Method := { name := "hi", desc := "(J)J", sig := { parameters := [.long], returnType := some .long }, accessFlags := 10, code := some k1c2 }
def k1c3 : Code := { maxStack := 6, maxLocals := 14, code := code, exceptionTable := #[], attributes := #[] }
def k1m3 : Method := { name := "law", desc := "(IJJJ)Z", sig := { parameters := [.int, .long, .long, .long], returnType := some .boolean }, accessFlags := 9, code := some k1c3 }
/-- com/example/corelith/corelith/meb/VectorsSquaredDistancePinLaw -/
def k1 : Class := { plain "com/example/corelith/corelith/meb/VectorsSquaredDistancePinLaw" (some 0) with
  accessFlags := 49
  interfaces := #[]
  cf := some (fileOf pool1 8 #[] #[{ accessFlags := 2, nameIndex := 5, descriptorIndex := 6, attributes := #[] }, { accessFlags := 10, nameIndex := 11, descriptorIndex := 12, attributes := #[] }, { accessFlags := 10, nameIndex := 15, descriptorIndex := 12, attributes := #[] }, { accessFlags := 9, nameIndex := 24, descriptorIndex := 25, attributes := #[] }] 49 2 #[] #[])
  fields := #[]
  methods := #[k1m0, k1m1, k1m2, k1m3]
  instanceTypes := #[]
  staticTypes := #[]
  resolved := Array.replicate 31 none
  statics := none }

def pool2 : Array CpInfo := pool [(2, .class_ 4), (1, u "java/lang/Object"), (0, u "<init>"), (0, u "()V"), (18, .class_ 26), (0, u "com/example/corelith/corelith/meb/Vectors"), (12, u "([D[D)D"), (0, u "squaredDistance")] 2

def k2m0 : Method := { name := "<init>", desc := "()V", sig := { parameters := [], returnType := none }, accessFlags := 2, code := none }
def k2c1 : Code := { maxStack := 6, maxLocals := 7, code := prog_43_method_5_code, exceptionTable := #[], attributes := #[] }
def k2m1 : Method := { name := "squaredDistance", desc := "([D[D)D", sig := { parameters := [(.array .double), (.array .double)], returnType := some .double }, accessFlags := 8, code := some k2c1 }
/-- com/example/corelith/corelith/meb/Vectors -/
def k2 : Class := { plain "com/example/corelith/corelith/meb/Vectors" (some 0) with
  accessFlags := 48
  interfaces := #[]
  cf := some (fileOf pool2 25 #[] #[{ accessFlags := 2, nameIndex := 5, descriptorIndex := 6, attributes := #[] }, { accessFlags := 8, nameIndex := 40, descriptorIndex := 39, attributes := #[] }] 48 2 #[] #[])
  fields := #[]
  methods := #[k2m0, k2m1]
  instanceTypes := #[]
  staticTypes := #[]
  resolved := Array.replicate 43 none
  statics := none }

def pool3 : Array CpInfo := pool [(1, u "java/lang/Cloneable"), (0, .class_ 1), (0, u "java/lang/Object"), (0, .class_ 3)] 3

/-- java/lang/Cloneable -/
def k3 : Class := { plain "java/lang/Cloneable" (some 0) with
  accessFlags := 1537
  interfaces := #[]
  cf := some (fileOf pool3 2 #[] #[] 1537 4 #[] #[])
  fields := #[]
  methods := #[]
  instanceTypes := #[]
  staticTypes := #[]
  resolved := Array.replicate 8 none
  statics := none }

def pool4 : Array CpInfo := pool [(1, u "java/io/Serializable"), (0, .class_ 1), (0, u "java/lang/Object"), (0, .class_ 3)] 3

/-- java/io/Serializable -/
def k4 : Class := { plain "java/io/Serializable" (some 0) with
  accessFlags := 1537
  interfaces := #[]
  cf := some (fileOf pool4 2 #[] #[] 1537 4 #[] #[])
  fields := #[]
  methods := #[]
  instanceTypes := #[]
  staticTypes := #[]
  resolved := Array.replicate 8 none
  statics := none }

/-- the primitive byte -/
def k5 : Class := { plain "byte" none with kind := .primitive 'B', accessFlags := 0x411 }
/-- [B -/
def k6 : Class := { plain "[B" (some 0) with kind := .array 5 .byte, interfaces := #[3, 4], accessFlags := 1041 }

/-- the primitive int -/
def k7 : Class := { plain "int" none with kind := .primitive 'I', accessFlags := 0x411 }
/-- [I -/
def k8 : Class := { plain "[I" (some 0) with kind := .array 7 .int, interfaces := #[3, 4], accessFlags := 1041 }

/-- the primitive double -/
def k9 : Class := { plain "double" none with kind := .primitive 'D', accessFlags := 0x411 }
/-- [D -/
def k10 : Class := { plain "[D" (some 0) with kind := .array 9 .double, interfaces := #[3, 4], accessFlags := 1041 }

def heap : Heap := #[]
def classes : Array Class := #[k0, k1, k2, k3, k4, k5, k6, k7, k8, k9, k10]
def interned : List (Array UInt16 × Addr) := []
def slotsUsed : Nat := 0
def theMethod : MethodId := ⟨1, 3⟩
def args0 : Array Value := #[.int 2, .long 6, .long 3, .long 6]
def aboutOver (below : List Frame) : State where
  vm := { classes := classes, interned := interned.toArray }
  heap := heap
  slotsUsed := slotsUsed
  threads := #[{ frames := .invoking theMethod args0 :: below }]
def below0 : List Frame := [.native { method := ⟨0, 0⟩, args := #[] }]
def about1 : State := aboutOver below0
def p0 : Program := .bare "" "" ""
def e0 : Env := launch0.env 0 0 0
theorem w_frames : about1.frames = Frame.invoking theMethod args0 :: below0 := rfl
set_option maxRecDepth 65536 in
theorem w_args : argsFit about1.vm theMethod args0 = true := by decide +kernel
set_option maxRecDepth 65536 in
theorem w_heap : heapFits about1 = true := by decide +kernel
set_option maxRecDepth 65536 in
theorem w_runnable : about1.curStatus? = some .runnable := by decide +kernel
set_option maxRecDepth 65536 in
theorem w_alone : about1.alone = true := by decide +kernel
set_option maxRecDepth 65536 in
theorem w_named : about1.methodNamed? x = some theMethod := by decide +kernel
set_option maxRecDepth 65536 in
theorem w_hears : about1.hears theMethod below0 = true := by decide +kernel
set_option maxRecDepth 65536 in
theorem w_ripe : about1.ripe theMethod args0 below0 = true := by decide +kernel
theorem w_running : about1.status = .running := rfl
set_option maxRecDepth 65536 in
theorem w_room : about1.hasRoom e0.platform room_1 = true :=
  launch0.hasRoom_least _ room_1 (by decide +kernel) (by decide +kernel) (by decide +kernel) (by decide +kernel) (by decide +kernel) (by decide +kernel)
theorem allAtoms_all (ts : List Jvm.Cond) (a : Array Jvm.Value) (st : Jvm.State) : (allAtoms ts).before a st = ts.all (fun c => c.before a st) := by
  induction ts with
  | nil => rfl
  | cons c t ih =>
    show (Jvm.Cond.and c (allAtoms t)).before a st = _
    rw [Jvm.Cond.before_and, ih, List.all_cons]
def words1 : List Jvm.Cond := Jvm.Cond.code x code maxLocals ret :: tables_1
/-- a 'code' word, met by the world's own term for the bytes: nothing is compared byte by byte -/
theorem code_word {y : MethodName} {bytes : ByteArray} {mx : Nat} {rt : Option FieldType} {a : Array Value} {s : State} {m : MethodId} {meth : Method} {c : Code} (h1 : s.methodNamed? y = some m) (h2 : s.vm.method? m = some meth) (h3 : meth.code = some c) (h4 : c.code = bytes)
    (h5 : (c.maxLocals == mx && c.exceptionTable.isEmpty && decide (c.maxStack ≤ mostOperands) && decide (meth.sig.returnType = rt) && !meth.locks && decide (parseMethodDescriptor y.desc = some meth.sig)) = true) : (Jvm.Cond.code y bytes mx rt).before a s = true := by
  simp only [Bool.and_eq_true, beq_iff_eq, Bool.not_eq_true', decide_eq_true_eq] at h5
  obtain ⟨⟨⟨⟨⟨g1, g2⟩, g3⟩, g4⟩, g5⟩, g6⟩ := h5
  simp [Cond.before, Cond.holds, Cond.value, h1, h2, h3, h4, g1, g2, g3, g4, g5, g6]
def isCode : Jvm.Cond → Bool
  | .code _ _ _ _ => true
  | _ => false
theorem all_split {L : List Jvm.Cond} {P : Jvm.Cond → Bool} (h1 : L.all (fun c => isCode c || P c) = true) (h2 : ∀ c ∈ L.filter isCode, P c = true) : L.all P = true := by
  refine List.all_eq_true.mpr fun c hc => ?_
  have h := List.all_eq_true.mp h1 c hc
  rcases Bool.eq_false_or_eq_true (isCode c) with hi | hi
  · exact h2 c (List.mem_filter.mpr ⟨hc, hi⟩)
  · simpa [hi] using h
set_option maxRecDepth 65536 in
theorem w_c0 : (Jvm.Cond.code x code maxLocals ret).before args0 about1 = true := code_word (m := ⟨1, 3⟩) (meth := k1m3) (c := k1c3) (by decide +kernel) rfl rfl rfl (by decide +kernel)
set_option maxRecDepth 65536 in
theorem w_c1 : (Jvm.Cond.code ({ cls := "com/example/corelith/corelith/meb/Vectors", name := "squaredDistance", desc := "([D[D)D" } : Jvm.MethodName) prog_43_method_5_code (7 : Nat) (Option.some Jvm.ClassFile.FieldType.double)).before args0 about1 = true := code_word (m := ⟨2, 1⟩) (meth := k2m1) (c := k2c1) (by decide +kernel) rfl rfl rfl (by decide +kernel)
set_option maxRecDepth 65536 in
theorem w_c2 : (Jvm.Cond.code ({ cls := "com/example/corelith/corelith/meb/VectorsSquaredDistancePinLaw", name := "lo", desc := "(J)J" } : Jvm.MethodName) method_2_code (2 : Nat) (Option.some Jvm.ClassFile.FieldType.long)).before args0 about1 = true := code_word (m := ⟨1, 1⟩) (meth := k1m1) (c := k1c1) (by decide +kernel) rfl rfl rfl (by decide +kernel)
set_option maxRecDepth 65536 in
theorem w_c3 : (Jvm.Cond.code ({ cls := "com/example/corelith/corelith/meb/VectorsSquaredDistancePinLaw", name := "hi", desc := "(J)J" } : Jvm.MethodName) method_3_code (2 : Nat) (Option.some Jvm.ClassFile.FieldType.long)).before args0 about1 = true := code_word (m := ⟨1, 2⟩) (meth := k1m2) (c := k1c2) (by decide +kernel) rfl rfl rfl (by decide +kernel)
def codes1 : List Jvm.Cond := [Jvm.Cond.code x code maxLocals ret, Jvm.Cond.code ({ cls := "com/example/corelith/corelith/meb/Vectors", name := "squaredDistance", desc := "([D[D)D" } : Jvm.MethodName) prog_43_method_5_code (7 : Nat) (Option.some Jvm.ClassFile.FieldType.double), Jvm.Cond.code ({ cls := "com/example/corelith/corelith/meb/VectorsSquaredDistancePinLaw", name := "lo", desc := "(J)J" } : Jvm.MethodName) method_2_code (2 : Nat) (Option.some Jvm.ClassFile.FieldType.long), Jvm.Cond.code ({ cls := "com/example/corelith/corelith/meb/VectorsSquaredDistancePinLaw", name := "hi", desc := "(J)J" } : Jvm.MethodName) method_3_code (2 : Nat) (Option.some Jvm.ClassFile.FieldType.long)]
set_option maxRecDepth 65536 in
theorem codes_eq : words1.filter isCode = codes1 := rfl
theorem w_codes : ∀ c ∈ words1.filter isCode, c.before args0 about1 = true := by
  rw [codes_eq]
  intro c hc
  simp only [codes1, List.mem_cons, List.not_mem_nil, or_false] at hc
  rcases hc with rfl | rfl | rfl | rfl
  · exact w_c0
  · exact w_c1
  · exact w_c2
  · exact w_c3
set_option maxRecDepth 65536 in
theorem w_t1 : words1.all (fun c => isCode c || c.before args0 about1) = true := by decide +kernel
theorem w_tables : (allAtoms (Jvm.Cond.code x code maxLocals ret :: tables_1)).before args0 about1 = true := by
  rw [allAtoms_all]
  show words1.all (fun c => c.before args0 about1) = true
  refine all_split ?_ w_codes
  rw [w_t1]
set_option maxRecDepth 65536 in
theorem w_case : (Jvm.Cond.and given_1 narrow_1).before args0 about1 = true := by decide +kernel
theorem w_applies : (headSpec (Jvm.Cond.code x code maxLocals ret :: tables_1) room_1).applies x e0.platform about1 = true :=
  (Spec.applies_iff w_frames).mpr ⟨w_running, w_runnable, w_alone, w_named, w_hears, w_ripe, w_room, w_tables⟩
theorem atStart : AtStart classFile x code maxLocals ret World_1 tables_1 room_1 Calls_1 rest_1 Pre_1 launch0 p0 e0 about1 theMethod args0 below0 :=
  ⟨lists_1, trivial, launch0.admits_env _ _ _, launch0.least_env, fairChoices_fair.cas, fairChoices_fair.clock, w_frames, w_args, w_heap, w_applies, trivial, trivial, w_case⟩
end start1
theorem witness_1 : WitnessClaimed_1 := ⟨start1.p0, start1.e0, start1.about1, start1.theMethod, start1.args0, start1.below0, start1.atStart⟩
end Jvm.Pilot.@@N@@
