import JvmDerived
import JvmDerived.Pilot.@@N@@Statement
import JvmDerived.Pilot.@@N@@Code
set_option linter.unusedVariables false
set_option linter.unusedSimpArgs false
namespace Jvm.Own
open Jvm Jvm.ClassFile Sem Op Lib Jvm.Free Jvm.Stand Jvm.LawKit Jvm.RoadKit
/-- the run from A ends, and G holds of its end -/
def Runs (p : Program) (e : Env) (below : List Frame) (A : State) (G : Outcome → State → Prop) : Prop :=
  ∃ s₂ o, Steps p.tables e below A s₂ ∧ s₂.status = .running ∧ Ended s₂ below o ∧ G o s₂
section A
variable {p : Program} {e : Env} {below : List Frame} {A B : State} {G : Outcome → State → Prop}
theorem Runs.of (k : Runs p e below B G) (h : ∀ t, Steps p.tables e below B t → Steps p.tables e below A t) : Runs p e below A G := by
  obtain ⟨t, o, hs, r⟩ := k
  exact ⟨t, o, h t hs, r⟩
theorem Runs.dia {P : Prop} [Decidable P] {B : Int32 → State} {vt vf : Int32} (ht : P → Runs p e below (B vt) G → Runs p e below A G) (hf : ¬ P → Runs p e below (B vf) G → Runs p e below A G) (k : Runs p e below (B (if P then vt else vf)) G) : Runs p e below A G := by
  by_cases hc : P
  · rw [if_pos hc] at k; exact ht hc k
  · rw [if_neg hc] at k; exact hf hc k
theorem Runs.via (k : Runs p e below B G) (h : Steps p.tables e below A B) : Runs p e below A G := k.of fun _ q => h.trans q
end A
/-- what stood at h0 is written at ws alone -/
def Wrote (h0 : Heap) (ws : List Addr) (L : List Loc) : Prop := ∀ y ∈ L, y.base ∈ ws ∨ h0.size ≤ y.base
theorem Wrote.nil {h0 : Heap} {ws : List Addr} : Wrote h0 ws [] := fun _ q => nomatch q
theorem Wrote.app {h0 h : Heap} {ws ws' : List Addr} {L L' : List Loc} (N : Wrote h0 ws L) (N' : Wrote h ws' L') (hs : h0.size ≤ h.size) (hw : ∀ x ∈ ws', x ∈ ws ∨ h0.size ≤ x) : Wrote h0 ws (L ++ L') := fun y q =>
  (List.mem_append.mp q).elim (N y) fun r => (N' y r).elim (hw _) fun z => Or.inr (Nat.le_trans hs z)
theorem Wrote.snoc {h0 : Heap} {ws : List Addr} {L : List Loc} {a : Addr} {i : Nat} (N : Wrote h0 ws L) (q : a ∈ ws ∨ h0.size ≤ a) : Wrote h0 ws (L ++ [⟨a, i⟩]) := fun y r =>
  (List.mem_append.mp r).elim (N y) fun z => by cases List.mem_singleton.mp z; exact q
/-- where a walk stands: the method's own facts, the heap as it is now, what was written since h0 -/
def Here (p : Program) (l : Launch) (e : Env) (R : Room) (s : State) (m : MethodId) (args : Array Value) (below : List Frame) (meth : Method) (c : Code)
    (y : MethodName) (bytes : ByteArray) (maxL : Nat) (ret : Option FieldType) (Z : State) (h0 : Heap) (ws : List Addr) (T : State) (cells slots : Nat) (h : Heap) : Prop :=
  (p.tables.exec = Jvm.exec ∧ Z.Warmed39 s.vm ∧ c.code = bytes ∧ c.maxLocals = maxL ∧ s.vm.findClass y.cls = some m.cls ∧ meth.name = y.name ∧ meth.sig.returnType = ret ∧ meth.locks = false) ∧
  T.heap = h ∧ Keep h0 h ws ∧ ∃ locs, Stand p l e R s m args below meth c T locs cells slots ∧ Wrote h0 ws locs
/-- how a walk must end: it returns, Q holds of the result and the heap, what stood at h0 is written at ws alone -/
def Out (s : State) (h0 : Heap) (ws : List Addr) (rm : Room) (Q : Option Value → Heap → Prop) (o : Outcome) (U : State) : Prop :=
  ∃ v L, o = .returned v ∧ (Q v U.heap ∧ Keep h0 U.heap ws ∧ Wrote h0 ws L) ∧ FrameEnd s o U L rm.cells rm.slots
/-- a method's contract at the heap h0 and these arguments -/
def Ct (l : Launch) (Z : State) (y : MethodName) (bytes : ByteArray) (maxL : Nat) (ret : Option FieldType) (rm : Room) (as : Array Value) (h0 : Heap) (ws : List Addr) (Q : Option Value → Heap → Prop) : Prop :=
  ∀ wz, MetFree l y (head1 (Jvm.Cond.code y bytes maxL ret :: wz) rm) (fun a U => a = as ∧ Z.Warmed39 U.vm ∧ U.heap = h0) (fun _ _ _ _ _ => True)
    (fun _ U o U' => ∃ v L, o = .returned v ∧ (Q v U'.heap ∧ Keep h0 U'.heap ws ∧ Wrote h0 ws L) ∧ FrameEnd U o U' L rm.cells rm.slots)
section B
variable {p : Program} {l : Launch} {e : Env} {R : Room} {s : State} {m : MethodId} {args : Array Value} {below : List Frame} {meth : Method} {c : Code} {y : MethodName} {bytes : ByteArray} {maxL : Nat} {ret : Option FieldType} {Z : State} {h0 : Heap} {ws : List Addr} {T : State} {cells slots : Nat} {h : Heap} {G : Outcome → State → Prop} {a0 : Array Value}
theorem Ct.of {rm : Room} {as : Array Value} {Q : Option Value → Heap → Prop} (hp : plainFor y = true)
    (body : ∀ p e s m below meth c T, Here p l e rm s m as below meth c y bytes maxL ret Z h0 ws T 0 0 h0 → Runs p e below (T.setTop (entryFrame m as maxL)) (Out s h0 ws rm Q)) :
    Ct l Z y bytes maxL ret rm as h0 ws Q := fun wz => by
  refine MetFree.of_bodySF hp hisR ?_
  intro p e s m args below meth c s₁ Bd hml0 hP hK
  obtain ⟨rfl, hZ, hh⟩ := hP
  have e0 : s₁.heap = h0 := by rw [← hh, Bd.state]; rfl
  exact body p e s m below meth c s₁ ⟨⟨Bd.exec, hZ, Bd.bytes, hml0, findClass_of_methodNamed Bd.named, (name_of_methodNamed Bd.named Bd.method).1, Bd.returns, BodyLoose.notSynchronized Bd⟩, e0, Keep.refl _ _, [], Stand.of_body Bd, Wrote.nil⟩
theorem Ct.mono {rm : Room} {as : Array Value} {Q Q' : Option Value → Heap → Prop} (h : Ct l Z y bytes maxL ret rm as h0 ws Q) (hq : ∀ v h, Q v h → Q' v h) : Ct l Z y bytes maxL ret rm as h0 ws Q' := fun wz => by
  intro p e ha hc hk s m args below hf happ hP hK
  obtain ⟨n, o, w1, w2, w3, v, L, q1, q2, q3⟩ := h wz p e ha hc hk s m args below hf happ hP hK
  exact ⟨n, o, w1, w2, w3, v, L, q1, ⟨hq _ _ q2.1, q2.2⟩, q3⟩
/-- from one frame to another that is the same -/
theorem Runs.top {g g' : JFrame} (q : g = g') (k : Runs p e below (T.setTop g') G) : Runs p e below (T.setTop g) G := q ▸ k
theorem Here.keep (X : Here p l e R s m args below meth c y bytes maxL ret Z h0 ws T cells slots h) : Keep h0 h ws := X.2.2.1
theorem Here.hZ (X : Here p l e R s m args below meth c y bytes maxL ret Z h0 ws T cells slots h) : Z.Warmed39 s.vm := X.1.2.1
theorem Here.size (X : Here p l e R s m args below meth c y bytes maxL ret Z h0 ws T cells slots h) : h0.size ≤ h.size := X.2.2.1.1
/-- a plain step -/
theorem Here.step (X : Here p l e R s m args below meth c y bytes maxL ret Z h0 ws T cells slots h) {g g' : JFrame}
    (st : ∀ locs, p.tables.exec = Jvm.exec → c.code = bytes → Z.Warmed39 s.vm → s.vm.findClass y.cls = some m.cls → T.heap = h → Stand p l e R s m args below meth c T locs cells slots → ∀ t, Steps p.tables e below (T.setTop g') t → Steps p.tables e below (T.setTop g) t)
    (k : Runs p e below (T.setTop g') G) : Runs p e below (T.setTop g) G := by
  obtain ⟨⟨x1, x2, x3, x4, x5, x6, x7, x8⟩, x9, x10, locs, S, N⟩ := X
  exact k.of (st locs x1 x3 x2 x5 x9 S)
/-- a step that leaves the heap as it is -/
theorem Here.stepT (X : Here p l e R s m args below meth c y bytes maxL ret Z h0 ws T cells slots h) {g g' : JFrame}
    (st : ∀ locs, p.tables.exec = Jvm.exec → c.code = bytes → c.maxLocals = maxL → Z.Warmed39 s.vm → s.vm.findClass y.cls = some m.cls → T.heap = h → Stand p l e R s m args below meth c T locs cells slots → ∃ T', Stand p l e R s m args below meth c T' locs cells slots ∧ T'.heap = h ∧ ∀ t, Steps p.tables e below (T'.setTop g') t → Steps p.tables e below (T.setTop g) t)
    (k : ∀ T', Here p l e R s m args below meth c y bytes maxL ret Z h0 ws T' cells slots h → Runs p e below (T'.setTop g') G) : Runs p e below (T.setTop g) G := by
  obtain ⟨⟨x1, x2, x3, x4, x5, x6, x7, x8⟩, x9, x10, locs, S, N⟩ := X
  obtain ⟨T', S', e', q⟩ := st locs x1 x3 x4 x2 x5 x9 S
  exact (k T' ⟨⟨x1, x2, x3, x4, x5, x6, x7, x8⟩, e', x10, locs, S', N⟩).of q
/-- a step that writes one slot -/
theorem Here.stepW (X : Here p l e R s m args below meth c y bytes maxL ret Z h0 ws T cells slots h) {g g' : JFrame} {a : Addr} {i : Nat} {v : Value} (hn : a ∈ ws ∨ h0.size ≤ a)
    (st : ∀ locs, p.tables.exec = Jvm.exec → c.code = bytes → meth.name = y.name → Z.Warmed39 s.vm → s.vm.findClass y.cls = some m.cls → T.heap = h → Stand p l e R s m args below meth c T locs cells slots → ∃ T' h', Stand p l e R s m args below meth c T' (locs ++ [⟨a, i⟩]) cells slots ∧ T'.heap = h' ∧ Wr h h' a i v ∧ ∀ t, Steps p.tables e below (T'.setTop g') t → Steps p.tables e below (T.setTop g) t)
    (k : ∀ T' h', Here p l e R s m args below meth c y bytes maxL ret Z h0 ws T' cells slots h' → Wr h h' a i v → Runs p e below (T'.setTop g') G) : Runs p e below (T.setTop g) G := by
  obtain ⟨⟨x1, x2, x3, x4, x5, x6, x7, x8⟩, x9, x10, locs, S, N⟩ := X
  obtain ⟨T', h', S', e', W, q⟩ := st locs x1 x3 x6 x2 x5 x9 S
  exact (k T' h' ⟨⟨x1, x2, x3, x4, x5, x6, x7, x8⟩, e', x10.wr W hn, _, S', N.snoc hn⟩ W).of q
theorem Here.iload (X : Here p l e R s m args below meth c y bytes maxL ret Z h0 ws T cells slots h) {pc pc' : Nat} {Ls : Array Slot} {St : List Value} {i : Nat} {v : Int32} (hd : decode bytes pc = .ok (.iload i, 2)) (hl : Ls[i]? = some (.val (.int v))) (hp : pc + 2 = pc') (k : Runs p e below (T.setTop (mkF m pc' Ls (.int v :: St))) G) : Runs p e below (T.setTop (mkF m pc Ls (St))) G := by
  subst hp
  exact X.step (fun _ hx hb' _ hown _ S t q => XS.iload S.here hx rfl (hb hb' hd) hl q) k
theorem Here.iloadN (X : Here p l e R s m args below meth c y bytes maxL ret Z h0 ws T cells slots h) {pc pc' : Nat} {Ls : Array Slot} {St : List Value} {i : Fin 4} {v : Int32} (hd : decode bytes pc = .ok (.iload_n i, 1)) (hl : Ls[i.val]? = some (.val (.int v))) (hp : pc + 1 = pc') (k : Runs p e below (T.setTop (mkF m pc' Ls (.int v :: St))) G) : Runs p e below (T.setTop (mkF m pc Ls (St))) G := by
  subst hp
  exact X.step (fun _ hx hb' _ hown _ S t q => XS.iloadN S.here hx rfl (hb hb' hd) hl q) k
theorem Here.lload (X : Here p l e R s m args below meth c y bytes maxL ret Z h0 ws T cells slots h) {pc pc' : Nat} {Ls : Array Slot} {St : List Value} {i : Nat} {v : Int64} (hd : decode bytes pc = .ok (.lload i, 2)) (hl : Ls[i]? = some (.val (.long v))) (hp : pc + 2 = pc') (k : Runs p e below (T.setTop (mkF m pc' Ls (.long v :: St))) G) : Runs p e below (T.setTop (mkF m pc Ls (St))) G := by
  subst hp
  exact X.step (fun _ hx hb' _ hown _ S t q => XS.lload S.here hx rfl (hb hb' hd) hl q) k
theorem Here.lloadN (X : Here p l e R s m args below meth c y bytes maxL ret Z h0 ws T cells slots h) {pc pc' : Nat} {Ls : Array Slot} {St : List Value} {i : Fin 4} {v : Int64} (hd : decode bytes pc = .ok (.lload_n i, 1)) (hl : Ls[i.val]? = some (.val (.long v))) (hp : pc + 1 = pc') (k : Runs p e below (T.setTop (mkF m pc' Ls (.long v :: St))) G) : Runs p e below (T.setTop (mkF m pc Ls (St))) G := by
  subst hp
  exact X.step (fun _ hx hb' _ hown _ S t q => XS.lloadN S.here hx rfl (hb hb' hd) hl q) k
theorem Here.aload (X : Here p l e R s m args below meth c y bytes maxL ret Z h0 ws T cells slots h) {pc pc' : Nat} {Ls : Array Slot} {St : List Value} {i : Nat} {v : Value} (hd : decode bytes pc = .ok (.aload i, 2)) (hl : Ls[i]? = some (.val v)) (hv : v.isRef = true) (hp : pc + 2 = pc') (k : Runs p e below (T.setTop (mkF m pc' Ls (v :: St))) G) : Runs p e below (T.setTop (mkF m pc Ls (St))) G := by
  subst hp
  exact X.step (fun _ hx hb' _ hown _ S t q => XS.aload S.here hx rfl (hb hb' hd) hl hv q) k
theorem Here.aloadN (X : Here p l e R s m args below meth c y bytes maxL ret Z h0 ws T cells slots h) {pc pc' : Nat} {Ls : Array Slot} {St : List Value} {i : Fin 4} {v : Value} (hd : decode bytes pc = .ok (.aload_n i, 1)) (hl : Ls[i.val]? = some (.val v)) (hv : v.isRef = true) (hp : pc + 1 = pc') (k : Runs p e below (T.setTop (mkF m pc' Ls (v :: St))) G) : Runs p e below (T.setTop (mkF m pc Ls (St))) G := by
  subst hp
  exact X.step (fun _ hx hb' _ hown _ S t q => XS.aloadN S.here hx rfl (hb hb' hd) hl hv q) k
theorem Here.istore (X : Here p l e R s m args below meth c y bytes maxL ret Z h0 ws T cells slots h) {pc pc' : Nat} {Ls : Array Slot} {St : List Value} {i : Nat} {v : Int32} {l' : Array Slot} (hd : decode bytes pc = .ok (.istore i, 2)) (hl : storeLocals Ls i (.int v) = some l') (hp : pc + 2 = pc') (k : Runs p e below (T.setTop (mkF m pc' l' (St))) G) : Runs p e below (T.setTop (mkF m pc Ls (.int v :: St))) G := by
  subst hp
  exact X.step (fun _ hx hb' _ hown _ S t q => XS.istore S.here hx rfl (hb hb' hd) rfl hl q) k
theorem Here.istoreN (X : Here p l e R s m args below meth c y bytes maxL ret Z h0 ws T cells slots h) {pc pc' : Nat} {Ls : Array Slot} {St : List Value} {i : Fin 4} {v : Int32} {l' : Array Slot} (hd : decode bytes pc = .ok (.istore_n i, 1)) (hl : storeLocals Ls i.val (.int v) = some l') (hp : pc + 1 = pc') (k : Runs p e below (T.setTop (mkF m pc' l' (St))) G) : Runs p e below (T.setTop (mkF m pc Ls (.int v :: St))) G := by
  subst hp
  exact X.step (fun _ hx hb' _ hown _ S t q => XS.istoreN S.here hx rfl (hb hb' hd) rfl hl q) k
theorem Here.lstore (X : Here p l e R s m args below meth c y bytes maxL ret Z h0 ws T cells slots h) {pc pc' : Nat} {Ls : Array Slot} {St : List Value} {i : Nat} {v : Int64} {l' : Array Slot} (hd : decode bytes pc = .ok (.lstore i, 2)) (hl : storeLocals Ls i (.long v) = some l') (hp : pc + 2 = pc') (k : Runs p e below (T.setTop (mkF m pc' l' (St))) G) : Runs p e below (T.setTop (mkF m pc Ls (.long v :: St))) G := by
  subst hp
  exact X.step (fun _ hx hb' _ hown _ S t q => XS.lstore S.here hx rfl (hb hb' hd) rfl hl q) k
theorem Here.lstoreN (X : Here p l e R s m args below meth c y bytes maxL ret Z h0 ws T cells slots h) {pc pc' : Nat} {Ls : Array Slot} {St : List Value} {i : Fin 4} {v : Int64} {l' : Array Slot} (hd : decode bytes pc = .ok (.lstore_n i, 1)) (hl : storeLocals Ls i.val (.long v) = some l') (hp : pc + 1 = pc') (k : Runs p e below (T.setTop (mkF m pc' l' (St))) G) : Runs p e below (T.setTop (mkF m pc Ls (.long v :: St))) G := by
  subst hp
  exact X.step (fun _ hx hb' _ hown _ S t q => XS.lstoreN S.here hx rfl (hb hb' hd) rfl hl q) k
theorem Here.astore (X : Here p l e R s m args below meth c y bytes maxL ret Z h0 ws T cells slots h) {pc pc' : Nat} {Ls : Array Slot} {St : List Value} {i : Nat} {v : Value} {l' : Array Slot} (hd : decode bytes pc = .ok (.astore i, 2)) (hv : v.isRef = true) (hl : storeLocals Ls i v = some l') (hp : pc + 2 = pc') (k : Runs p e below (T.setTop (mkF m pc' l' (St))) G) : Runs p e below (T.setTop (mkF m pc Ls (v :: St))) G := by
  subst hp
  exact X.step (fun _ hx hb' _ hown _ S t q => XS.astore S.here hx rfl (hb hb' hd) rfl hv hl q) k
theorem Here.astoreN (X : Here p l e R s m args below meth c y bytes maxL ret Z h0 ws T cells slots h) {pc pc' : Nat} {Ls : Array Slot} {St : List Value} {i : Fin 4} {v : Value} {l' : Array Slot} (hd : decode bytes pc = .ok (.astore_n i, 1)) (hv : v.isRef = true) (hl : storeLocals Ls i.val v = some l') (hp : pc + 1 = pc') (k : Runs p e below (T.setTop (mkF m pc' l' (St))) G) : Runs p e below (T.setTop (mkF m pc Ls (v :: St))) G := by
  subst hp
  exact X.step (fun _ hx hb' _ hown _ S t q => XS.astoreN S.here hx rfl (hb hb' hd) rfl hv hl q) k
theorem Here.iconst (X : Here p l e R s m args below meth c y bytes maxL ret Z h0 ws T cells slots h) {pc pc' : Nat} {Ls : Array Slot} {St : List Value} {i : Int} {z : Int32} (hd : decode bytes pc = .ok (.iconst i, 1)) (hz : Int32.ofInt i = z) (hp : pc + 1 = pc') (k : Runs p e below (T.setTop (mkF m pc' Ls (.int z :: St))) G) : Runs p e below (T.setTop (mkF m pc Ls (St))) G := by
  subst hp
  exact X.step (fun _ hx hb' _ hown _ S t q => XS.iconst S.here hx rfl (hb hb' hd) (hz ▸ q)) k
theorem Here.bipush (X : Here p l e R s m args below meth c y bytes maxL ret Z h0 ws T cells slots h) {pc pc' : Nat} {Ls : Array Slot} {St : List Value} {i : Int} {z : Int32} (hd : decode bytes pc = .ok (.bipush i, 2)) (hz : (Int8.ofInt i).toInt32 = z) (hp : pc + 2 = pc') (k : Runs p e below (T.setTop (mkF m pc' Ls (.int z :: St))) G) : Runs p e below (T.setTop (mkF m pc Ls (St))) G := by
  subst hp
  exact X.step (fun _ hx hb' _ hown _ S t q => XS.bipush S.here hx rfl (hb hb' hd) (hz ▸ q)) k
theorem Here.sipush (X : Here p l e R s m args below meth c y bytes maxL ret Z h0 ws T cells slots h) {pc pc' : Nat} {Ls : Array Slot} {St : List Value} {i : Int} {z : Int32} (hd : decode bytes pc = .ok (.sipush i, 3)) (hz : (Int16.ofInt i).toInt32 = z) (hp : pc + 3 = pc') (k : Runs p e below (T.setTop (mkF m pc' Ls (.int z :: St))) G) : Runs p e below (T.setTop (mkF m pc Ls (St))) G := by
  subst hp
  exact X.step (fun _ hx hb' _ hown _ S t q => XS.sipush S.here hx rfl (hb hb' hd) (hz ▸ q)) k
theorem Here.lconst0 (X : Here p l e R s m args below meth c y bytes maxL ret Z h0 ws T cells slots h) {pc pc' : Nat} {Ls : Array Slot} {St : List Value}  (hd : decode bytes pc = .ok (.lconst 0, 1))  (hp : pc + 1 = pc') (k : Runs p e below (T.setTop (mkF m pc' Ls (.long 0 :: St))) G) : Runs p e below (T.setTop (mkF m pc Ls (St))) G := by
  subst hp
  exact X.step (fun _ hx hb' _ hown _ S t q => XS.lconst S.here hx rfl (hb hb' hd) q) k
theorem Here.lconst1 (X : Here p l e R s m args below meth c y bytes maxL ret Z h0 ws T cells slots h) {pc pc' : Nat} {Ls : Array Slot} {St : List Value}  (hd : decode bytes pc = .ok (.lconst 1, 1))  (hp : pc + 1 = pc') (k : Runs p e below (T.setTop (mkF m pc' Ls (.long 1 :: St))) G) : Runs p e below (T.setTop (mkF m pc Ls (St))) G := by
  subst hp
  exact X.step (fun _ hx hb' _ hown _ S t q => XS.lconst S.here hx rfl (hb hb' hd) q) k
theorem Here.aconstNull (X : Here p l e R s m args below meth c y bytes maxL ret Z h0 ws T cells slots h) {pc pc' : Nat} {Ls : Array Slot} {St : List Value}  (hd : decode bytes pc = .ok (.aconst_null, 1))  (hp : pc + 1 = pc') (k : Runs p e below (T.setTop (mkF m pc' Ls (.null :: St))) G) : Runs p e below (T.setTop (mkF m pc Ls (St))) G := by
  subst hp
  exact X.step (fun _ hx hb' _ hown _ S t q => XS.aconstNull S.here hx rfl (hb hb' hd) q) k
theorem Here.iadd (X : Here p l e R s m args below meth c y bytes maxL ret Z h0 ws T cells slots h) {pc pc' : Nat} {Ls : Array Slot} {St : List Value} {a b : Int32} (hd : decode bytes pc = .ok (.iadd, 1))  (hp : pc + 1 = pc') (k : Runs p e below (T.setTop (mkF m pc' Ls (.int (a + b) :: St))) G) : Runs p e below (T.setTop (mkF m pc Ls (.int b :: .int a :: St))) G := by
  subst hp
  exact X.step (fun _ hx hb' _ hown _ S t q => XS.iadd S.here hx rfl (hb hb' hd) rfl q) k
theorem Here.isub (X : Here p l e R s m args below meth c y bytes maxL ret Z h0 ws T cells slots h) {pc pc' : Nat} {Ls : Array Slot} {St : List Value} {a b : Int32} (hd : decode bytes pc = .ok (.isub, 1))  (hp : pc + 1 = pc') (k : Runs p e below (T.setTop (mkF m pc' Ls (.int (a - b) :: St))) G) : Runs p e below (T.setTop (mkF m pc Ls (.int b :: .int a :: St))) G := by
  subst hp
  exact X.step (fun _ hx hb' _ hown _ S t q => XS.isub S.here hx rfl (hb hb' hd) rfl q) k
theorem Here.imul (X : Here p l e R s m args below meth c y bytes maxL ret Z h0 ws T cells slots h) {pc pc' : Nat} {Ls : Array Slot} {St : List Value} {a b : Int32} (hd : decode bytes pc = .ok (.imul, 1))  (hp : pc + 1 = pc') (k : Runs p e below (T.setTop (mkF m pc' Ls (.int (a * b) :: St))) G) : Runs p e below (T.setTop (mkF m pc Ls (.int b :: .int a :: St))) G := by
  subst hp
  exact X.step (fun _ hx hb' _ hown _ S t q => XS.imul S.here hx rfl (hb hb' hd) rfl q) k
theorem Here.iand (X : Here p l e R s m args below meth c y bytes maxL ret Z h0 ws T cells slots h) {pc pc' : Nat} {Ls : Array Slot} {St : List Value} {a b : Int32} (hd : decode bytes pc = .ok (.iand, 1))  (hp : pc + 1 = pc') (k : Runs p e below (T.setTop (mkF m pc' Ls (.int (a &&& b) :: St))) G) : Runs p e below (T.setTop (mkF m pc Ls (.int b :: .int a :: St))) G := by
  subst hp
  exact X.step (fun _ hx hb' _ hown _ S t q => XS.iand S.here hx rfl (hb hb' hd) rfl q) k
theorem Here.ior (X : Here p l e R s m args below meth c y bytes maxL ret Z h0 ws T cells slots h) {pc pc' : Nat} {Ls : Array Slot} {St : List Value} {a b : Int32} (hd : decode bytes pc = .ok (.ior, 1))  (hp : pc + 1 = pc') (k : Runs p e below (T.setTop (mkF m pc' Ls (.int (a ||| b) :: St))) G) : Runs p e below (T.setTop (mkF m pc Ls (.int b :: .int a :: St))) G := by
  subst hp
  exact X.step (fun _ hx hb' _ hown _ S t q => XS.ior S.here hx rfl (hb hb' hd) rfl q) k
theorem Here.ixor (X : Here p l e R s m args below meth c y bytes maxL ret Z h0 ws T cells slots h) {pc pc' : Nat} {Ls : Array Slot} {St : List Value} {a b : Int32} (hd : decode bytes pc = .ok (.ixor, 1))  (hp : pc + 1 = pc') (k : Runs p e below (T.setTop (mkF m pc' Ls (.int (a ^^^ b) :: St))) G) : Runs p e below (T.setTop (mkF m pc Ls (.int b :: .int a :: St))) G := by
  subst hp
  exact X.step (fun _ hx hb' _ hown _ S t q => XS.ixor S.here hx rfl (hb hb' hd) rfl q) k
theorem Here.ladd (X : Here p l e R s m args below meth c y bytes maxL ret Z h0 ws T cells slots h) {pc pc' : Nat} {Ls : Array Slot} {St : List Value} {a b : Int64} (hd : decode bytes pc = .ok (.ladd, 1))  (hp : pc + 1 = pc') (k : Runs p e below (T.setTop (mkF m pc' Ls (.long (a + b) :: St))) G) : Runs p e below (T.setTop (mkF m pc Ls (.long b :: .long a :: St))) G := by
  subst hp
  exact X.step (fun _ hx hb' _ hown _ S t q => XS.ladd S.here hx rfl (hb hb' hd) rfl q) k
theorem Here.lsub (X : Here p l e R s m args below meth c y bytes maxL ret Z h0 ws T cells slots h) {pc pc' : Nat} {Ls : Array Slot} {St : List Value} {a b : Int64} (hd : decode bytes pc = .ok (.lsub, 1))  (hp : pc + 1 = pc') (k : Runs p e below (T.setTop (mkF m pc' Ls (.long (a - b) :: St))) G) : Runs p e below (T.setTop (mkF m pc Ls (.long b :: .long a :: St))) G := by
  subst hp
  exact X.step (fun _ hx hb' _ hown _ S t q => XS.lsub S.here hx rfl (hb hb' hd) rfl q) k
theorem Here.lmul (X : Here p l e R s m args below meth c y bytes maxL ret Z h0 ws T cells slots h) {pc pc' : Nat} {Ls : Array Slot} {St : List Value} {a b : Int64} (hd : decode bytes pc = .ok (.lmul, 1))  (hp : pc + 1 = pc') (k : Runs p e below (T.setTop (mkF m pc' Ls (.long (a * b) :: St))) G) : Runs p e below (T.setTop (mkF m pc Ls (.long b :: .long a :: St))) G := by
  subst hp
  exact X.step (fun _ hx hb' _ hown _ S t q => XS.lmul S.here hx rfl (hb hb' hd) rfl q) k
theorem Here.land (X : Here p l e R s m args below meth c y bytes maxL ret Z h0 ws T cells slots h) {pc pc' : Nat} {Ls : Array Slot} {St : List Value} {a b : Int64} (hd : decode bytes pc = .ok (.land, 1))  (hp : pc + 1 = pc') (k : Runs p e below (T.setTop (mkF m pc' Ls (.long (a &&& b) :: St))) G) : Runs p e below (T.setTop (mkF m pc Ls (.long b :: .long a :: St))) G := by
  subst hp
  exact X.step (fun _ hx hb' _ hown _ S t q => XS.land S.here hx rfl (hb hb' hd) rfl q) k
theorem Here.lor (X : Here p l e R s m args below meth c y bytes maxL ret Z h0 ws T cells slots h) {pc pc' : Nat} {Ls : Array Slot} {St : List Value} {a b : Int64} (hd : decode bytes pc = .ok (.lor, 1))  (hp : pc + 1 = pc') (k : Runs p e below (T.setTop (mkF m pc' Ls (.long (a ||| b) :: St))) G) : Runs p e below (T.setTop (mkF m pc Ls (.long b :: .long a :: St))) G := by
  subst hp
  exact X.step (fun _ hx hb' _ hown _ S t q => XS.lor S.here hx rfl (hb hb' hd) rfl q) k
theorem Here.lxor (X : Here p l e R s m args below meth c y bytes maxL ret Z h0 ws T cells slots h) {pc pc' : Nat} {Ls : Array Slot} {St : List Value} {a b : Int64} (hd : decode bytes pc = .ok (.lxor, 1))  (hp : pc + 1 = pc') (k : Runs p e below (T.setTop (mkF m pc' Ls (.long (a ^^^ b) :: St))) G) : Runs p e below (T.setTop (mkF m pc Ls (.long b :: .long a :: St))) G := by
  subst hp
  exact X.step (fun _ hx hb' _ hown _ S t q => XS.lxor S.here hx rfl (hb hb' hd) rfl q) k
theorem Here.ishl (X : Here p l e R s m args below meth c y bytes maxL ret Z h0 ws T cells slots h) {pc pc' : Nat} {Ls : Array Slot} {St : List Value} {a b : Int32} (hd : decode bytes pc = .ok (.ishl, 1))  (hp : pc + 1 = pc') (k : Runs p e below (T.setTop (mkF m pc' Ls (.int (a <<< (b &&& 31)) :: St))) G) : Runs p e below (T.setTop (mkF m pc Ls (.int b :: .int a :: St))) G := by
  subst hp
  exact X.step (fun _ hx hb' _ hown _ S t q => XS.ishl S.here hx rfl (hb hb' hd) rfl q) k
theorem Here.ishr (X : Here p l e R s m args below meth c y bytes maxL ret Z h0 ws T cells slots h) {pc pc' : Nat} {Ls : Array Slot} {St : List Value} {a b : Int32} (hd : decode bytes pc = .ok (.ishr, 1))  (hp : pc + 1 = pc') (k : Runs p e below (T.setTop (mkF m pc' Ls (.int (a >>> (b &&& 31)) :: St))) G) : Runs p e below (T.setTop (mkF m pc Ls (.int b :: .int a :: St))) G := by
  subst hp
  exact X.step (fun _ hx hb' _ hown _ S t q => XS.ishr S.here hx rfl (hb hb' hd) rfl q) k
theorem Here.iushr (X : Here p l e R s m args below meth c y bytes maxL ret Z h0 ws T cells slots h) {pc pc' : Nat} {Ls : Array Slot} {St : List Value} {a b : Int32} (hd : decode bytes pc = .ok (.iushr, 1))  (hp : pc + 1 = pc') (k : Runs p e below (T.setTop (mkF m pc' Ls (.int ((a.toUInt32 >>> (b &&& 31).toUInt32).toInt32) :: St))) G) : Runs p e below (T.setTop (mkF m pc Ls (.int b :: .int a :: St))) G := by
  subst hp
  exact X.step (fun _ hx hb' _ hown _ S t q => XS.iushr S.here hx rfl (hb hb' hd) rfl q) k
theorem Here.lshl (X : Here p l e R s m args below meth c y bytes maxL ret Z h0 ws T cells slots h) {pc pc' : Nat} {Ls : Array Slot} {St : List Value} {a : Int64} {b : Int32} (hd : decode bytes pc = .ok (.lshl, 1))  (hp : pc + 1 = pc') (k : Runs p e below (T.setTop (mkF m pc' Ls (.long (a <<< (b &&& 0x3f).toInt64) :: St))) G) : Runs p e below (T.setTop (mkF m pc Ls (.int b :: .long a :: St))) G := by
  subst hp
  exact X.step (fun _ hx hb' _ hown _ S t q => XS.lshl S.here hx rfl (hb hb' hd) rfl q) k
theorem Here.lshr (X : Here p l e R s m args below meth c y bytes maxL ret Z h0 ws T cells slots h) {pc pc' : Nat} {Ls : Array Slot} {St : List Value} {a : Int64} {b : Int32} (hd : decode bytes pc = .ok (.lshr, 1))  (hp : pc + 1 = pc') (k : Runs p e below (T.setTop (mkF m pc' Ls (.long (a >>> (b &&& 0x3f).toInt64) :: St))) G) : Runs p e below (T.setTop (mkF m pc Ls (.int b :: .long a :: St))) G := by
  subst hp
  exact X.step (fun _ hx hb' _ hown _ S t q => XS.lshr S.here hx rfl (hb hb' hd) rfl q) k
theorem Here.lushr (X : Here p l e R s m args below meth c y bytes maxL ret Z h0 ws T cells slots h) {pc pc' : Nat} {Ls : Array Slot} {St : List Value} {a : Int64} {b : Int32} (hd : decode bytes pc = .ok (.lushr, 1))  (hp : pc + 1 = pc') (k : Runs p e below (T.setTop (mkF m pc' Ls (.long ((a.toUInt64 >>> (b &&& 0x3f).toInt64.toUInt64).toInt64) :: St))) G) : Runs p e below (T.setTop (mkF m pc Ls (.int b :: .long a :: St))) G := by
  subst hp
  exact X.step (fun _ hx hb' _ hown _ S t q => XS.lushr S.here hx rfl (hb hb' hd) rfl q) k
theorem Here.ineg (X : Here p l e R s m args below meth c y bytes maxL ret Z h0 ws T cells slots h) {pc pc' : Nat} {Ls : Array Slot} {St : List Value} {a : Int32} (hd : decode bytes pc = .ok (.ineg, 1))  (hp : pc + 1 = pc') (k : Runs p e below (T.setTop (mkF m pc' Ls (.int (-a) :: St))) G) : Runs p e below (T.setTop (mkF m pc Ls (.int a :: St))) G := by
  subst hp
  exact X.step (fun _ hx hb' _ hown _ S t q => XS.ineg S.here hx rfl (hb hb' hd) rfl q) k
theorem Here.lneg (X : Here p l e R s m args below meth c y bytes maxL ret Z h0 ws T cells slots h) {pc pc' : Nat} {Ls : Array Slot} {St : List Value} {a : Int64} (hd : decode bytes pc = .ok (.lneg, 1))  (hp : pc + 1 = pc') (k : Runs p e below (T.setTop (mkF m pc' Ls (.long (-a) :: St))) G) : Runs p e below (T.setTop (mkF m pc Ls (.long a :: St))) G := by
  subst hp
  exact X.step (fun _ hx hb' _ hown _ S t q => XS.lneg S.here hx rfl (hb hb' hd) rfl q) k
theorem Here.lcmp (X : Here p l e R s m args below meth c y bytes maxL ret Z h0 ws T cells slots h) {pc pc' : Nat} {Ls : Array Slot} {St : List Value} {a b : Int64} (hd : decode bytes pc = .ok (.lcmp, 1))  (hp : pc + 1 = pc') (k : Runs p e below (T.setTop (mkF m pc' Ls (.int (lcmpW a b) :: St))) G) : Runs p e below (T.setTop (mkF m pc Ls (.long b :: .long a :: St))) G := by
  subst hp
  exact X.step (fun _ hx hb' _ hown _ S t q => XS.lcmp S.here hx rfl (hb hb' hd) rfl q) k
theorem Here.i2l (X : Here p l e R s m args below meth c y bytes maxL ret Z h0 ws T cells slots h) {pc pc' : Nat} {Ls : Array Slot} {St : List Value} {a : Int32} (hd : decode bytes pc = .ok (.i2l, 1))  (hp : pc + 1 = pc') (k : Runs p e below (T.setTop (mkF m pc' Ls (.long a.toInt64 :: St))) G) : Runs p e below (T.setTop (mkF m pc Ls (.int a :: St))) G := by
  subst hp
  exact X.step (fun _ hx hb' _ hown _ S t q => XS.i2l S.here hx rfl (hb hb' hd) rfl q) k
theorem Here.l2i (X : Here p l e R s m args below meth c y bytes maxL ret Z h0 ws T cells slots h) {pc pc' : Nat} {Ls : Array Slot} {St : List Value} {a : Int64} (hd : decode bytes pc = .ok (.l2i, 1))  (hp : pc + 1 = pc') (k : Runs p e below (T.setTop (mkF m pc' Ls (.int a.toInt32 :: St))) G) : Runs p e below (T.setTop (mkF m pc Ls (.long a :: St))) G := by
  subst hp
  exact X.step (fun _ hx hb' _ hown _ S t q => XS.l2i S.here hx rfl (hb hb' hd) rfl q) k
theorem Here.i2b (X : Here p l e R s m args below meth c y bytes maxL ret Z h0 ws T cells slots h) {pc pc' : Nat} {Ls : Array Slot} {St : List Value} {a : Int32} (hd : decode bytes pc = .ok (.i2b, 1))  (hp : pc + 1 = pc') (k : Runs p e below (T.setTop (mkF m pc' Ls (.int a.toInt8.toInt32 :: St))) G) : Runs p e below (T.setTop (mkF m pc Ls (.int a :: St))) G := by
  subst hp
  exact X.step (fun _ hx hb' _ hown _ S t q => XS.i2b S.here hx rfl (hb hb' hd) rfl q) k
theorem Here.i2s (X : Here p l e R s m args below meth c y bytes maxL ret Z h0 ws T cells slots h) {pc pc' : Nat} {Ls : Array Slot} {St : List Value} {a : Int32} (hd : decode bytes pc = .ok (.i2s, 1))  (hp : pc + 1 = pc') (k : Runs p e below (T.setTop (mkF m pc' Ls (.int a.toInt16.toInt32 :: St))) G) : Runs p e below (T.setTop (mkF m pc Ls (.int a :: St))) G := by
  subst hp
  exact X.step (fun _ hx hb' _ hown _ S t q => XS.i2s S.here hx rfl (hb hb' hd) rfl q) k
theorem Here.i2c (X : Here p l e R s m args below meth c y bytes maxL ret Z h0 ws T cells slots h) {pc pc' : Nat} {Ls : Array Slot} {St : List Value} {a : Int32} (hd : decode bytes pc = .ok (.i2c, 1))  (hp : pc + 1 = pc') (k : Runs p e below (T.setTop (mkF m pc' Ls (.int a.toUInt32.toUInt16.toUInt32.toInt32 :: St))) G) : Runs p e below (T.setTop (mkF m pc Ls (.int a :: St))) G := by
  subst hp
  exact X.step (fun _ hx hb' _ hown _ S t q => XS.i2c S.here hx rfl (hb hb' hd) rfl q) k
theorem Here.irem (X : Here p l e R s m args below meth c y bytes maxL ret Z h0 ws T cells slots h) {pc pc' : Nat} {Ls : Array Slot} {St : List Value} {a b : Int32} (hd : decode bytes pc = .ok (.irem, 1)) (hy : b ≠ 0) (hp : pc + 1 = pc') (k : Runs p e below (T.setTop (mkF m pc' Ls (.int (a % b) :: St))) G) : Runs p e below (T.setTop (mkF m pc Ls (.int b :: .int a :: St))) G := by
  subst hp
  exact X.step (fun _ hx hb' _ hown _ S t q => iremM S hx rfl (hb hb' hd) rfl hy q) k
theorem Here.idiv (X : Here p l e R s m args below meth c y bytes maxL ret Z h0 ws T cells slots h) {pc pc' : Nat} {Ls : Array Slot} {St : List Value} {a b : Int32} (hd : decode bytes pc = .ok (.idiv, 1)) (hy : b ≠ 0) (hp : pc + 1 = pc') (k : Runs p e below (T.setTop (mkF m pc' Ls (.int (a / b) :: St))) G) : Runs p e below (T.setTop (mkF m pc Ls (.int b :: .int a :: St))) G := by
  subst hp
  exact X.step (fun _ hx hb' _ hown _ S t q => XS.idiv S.here hx rfl (hb hb' hd) rfl hy q) k
theorem Here.iinc (X : Here p l e R s m args below meth c y bytes maxL ret Z h0 ws T cells slots h) {pc pc' : Nat} {Ls : Array Slot} {St : List Value} {i : Nat} {cst : Int} {v z : Int32} {l' : Array Slot} (hd : decode bytes pc = .ok (.iinc i cst, 3)) (hl : Ls[i]? = some (.val (.int v))) (hz : Int32.ofInt cst = z) (hl' : storeLocals Ls i (.int (v + z)) = some l') (hp : pc + 3 = pc') (k : Runs p e below (T.setTop (mkF m pc' l' (St))) G) : Runs p e below (T.setTop (mkF m pc Ls (St))) G := by
  subst hp
  exact X.step (fun _ hx hb' _ hown _ S t q => XS.iinc S.here hx rfl (hb hb' hd) hl (hz ▸ hl') q) k
theorem Here.dup (X : Here p l e R s m args below meth c y bytes maxL ret Z h0 ws T cells slots h) {pc pc' : Nat} {Ls : Array Slot} {St : List Value} {v : Value} (hd : decode bytes pc = .ok (.dup, 1)) (hv : v.category = 1) (hp : pc + 1 = pc') (k : Runs p e below (T.setTop (mkF m pc' Ls (v :: v :: St))) G) : Runs p e below (T.setTop (mkF m pc Ls (v :: St))) G := by
  subst hp
  exact X.step (fun _ hx hb' _ hown _ S t q => XS.dup S.here hx rfl (hb hb' hd) rfl hv q) k
theorem Here.dupX1 (X : Here p l e R s m args below meth c y bytes maxL ret Z h0 ws T cells slots h) {pc pc' : Nat} {Ls : Array Slot} {St : List Value} {v w : Value} (hd : decode bytes pc = .ok (.dup_x1, 1)) (hv : v.category = 1) (hw : w.category = 1) (hp : pc + 1 = pc') (k : Runs p e below (T.setTop (mkF m pc' Ls (v :: w :: v :: St))) G) : Runs p e below (T.setTop (mkF m pc Ls (v :: w :: St))) G := by
  subst hp
  exact X.step (fun _ hx hb' _ hown _ S t q => XS.dupX1 S.here hx rfl (hb hb' hd) rfl hv hw q) k
theorem Here.dup2 (X : Here p l e R s m args below meth c y bytes maxL ret Z h0 ws T cells slots h) {pc pc' : Nat} {Ls : Array Slot} {St : List Value} {v w : Value} (hd : decode bytes pc = .ok (.dup2, 1)) (hv : v.category = 1) (hw : w.category = 1) (hp : pc + 1 = pc') (k : Runs p e below (T.setTop (mkF m pc' Ls (v :: w :: v :: w :: St))) G) : Runs p e below (T.setTop (mkF m pc Ls (v :: w :: St))) G := by
  subst hp
  exact X.step (fun _ hx hb' _ hown _ S t q => Jvm.Free.XT.dup2 S.here hx rfl (hb hb' hd) rfl hv hw q) k
theorem Here.dup2L (X : Here p l e R s m args below meth c y bytes maxL ret Z h0 ws T cells slots h) {pc pc' : Nat} {Ls : Array Slot} {St : List Value} {v : Int64} (hd : decode bytes pc = .ok (.dup2, 1))  (hp : pc + 1 = pc') (k : Runs p e below (T.setTop (mkF m pc' Ls (.long v :: .long v :: St))) G) : Runs p e below (T.setTop (mkF m pc Ls (.long v :: St))) G := by
  subst hp
  exact X.step (fun _ hx hb' _ hown _ S t q => Jvm.Free.XT.dup2L S.here hx rfl (hb hb' hd) rfl q) k
theorem Here.pop (X : Here p l e R s m args below meth c y bytes maxL ret Z h0 ws T cells slots h) {pc pc' : Nat} {Ls : Array Slot} {St : List Value} {v : Value} (hd : decode bytes pc = .ok (.pop, 1)) (hv : v.category = 1) (hp : pc + 1 = pc') (k : Runs p e below (T.setTop (mkF m pc' Ls (St))) G) : Runs p e below (T.setTop (mkF m pc Ls (v :: St))) G := by
  subst hp
  exact X.step (fun _ hx hb' _ hown _ S t q => XS.pop S.here hx rfl (hb hb' hd) rfl hv q) k
theorem Here.ldcInt (X : Here p l e R s m args below meth c y bytes maxL ret Z h0 ws T cells slots h) {pc pc' : Nat} {Ls : Array Slot} {St : List Value} {i : Nat} {v : Int32} (w : (Jvm.Cond.constant y.cls i v).before a0 Z = true) (hd : decode bytes pc = .ok (.ldc i, 2)) (hp : pc + 2 = pc') (k : Runs p e below (T.setTop (mkF m pc' Ls (.int v :: St))) G) : Runs p e below (T.setTop (mkF m pc Ls St)) G := by
  subst hp
  exact X.step (fun _ hx hb' hZ hown _ S t q => S.ldcInt hx hown (mvT hZ w) (g := mkF m pc Ls St) rfl (hb hb' hd) t q) k
theorem Here.ldcwInt (X : Here p l e R s m args below meth c y bytes maxL ret Z h0 ws T cells slots h) {pc pc' : Nat} {Ls : Array Slot} {St : List Value} {i : Nat} {v : Int32} (w : (Jvm.Cond.constant y.cls i v).before a0 Z = true) (hd : decode bytes pc = .ok (.ldc_w i, 3)) (hp : pc + 3 = pc') (k : Runs p e below (T.setTop (mkF m pc' Ls (.int v :: St))) G) : Runs p e below (T.setTop (mkF m pc Ls St)) G := by
  subst hp
  exact X.step (fun _ hx hb' hZ hown _ S t q => S.ldcwInt hx hown (mvT hZ w) (g := mkF m pc Ls St) rfl (hb hb' hd) t q) k
theorem Here.ldc2 (X : Here p l e R s m args below meth c y bytes maxL ret Z h0 ws T cells slots h) {pc pc' : Nat} {Ls : Array Slot} {St : List Value} {i : Nat} {v : Int64} (w : (Jvm.Cond.constantLong y.cls i v).before a0 Z = true) (hd : decode bytes pc = .ok (.ldc2_w i, 3)) (hp : pc + 3 = pc') (k : Runs p e below (T.setTop (mkF m pc' Ls (.long v :: St))) G) : Runs p e below (T.setTop (mkF m pc Ls St)) G := by
  subst hp
  exact X.step (fun _ hx hb' hZ hown _ S t q => S.ldc2Long hx hown (mvT hZ w) (g := mkF m pc Ls St) rfl (hb hb' hd) t q) k
theorem Here.goto (X : Here p l e R s m args below meth c y bytes maxL ret Z h0 ws T cells slots h) {pc pc' : Nat} {Ls : Array Slot} {St : List Value} {o : Int}  (hd : decode bytes pc = .ok (.goto o, 3))  (ho : 0 ≤ (pc : Int) + o) (hp : ((pc : Int) + o).toNat = pc') (k : Runs p e below (T.setTop (mkF m pc' Ls St)) G) : Runs p e below (T.setTop (mkF m pc Ls (St))) G := by
  exact X.step (fun _ hx hb' _ hown _ S t q => XS.goto S.here hx rfl rfl (hb hb' hd) ho hp q) k
theorem Here.ifYes (X : Here p l e R s m args below meth c y bytes maxL ret Z h0 ws T cells slots h) {pc pc' : Nat} {Ls : Array Slot} {St : List Value} {o : Int} {cd : ClassFile.Cond} {a : Int32} (hd : decode bytes pc = .ok (.ifCond cd o, 3)) (hc : if_icmp.holds cd a 0 = true) (ho : 0 ≤ (pc : Int) + o) (hp : ((pc : Int) + o).toNat = pc') (k : Runs p e below (T.setTop (mkF m pc' Ls St)) G) : Runs p e below (T.setTop (mkF m pc Ls (.int a :: St))) G := by
  exact X.step (fun _ hx hb' _ hown _ S t q => XS.ifYes S.here hx rfl rfl (hb hb' hd) rfl ((if0 _ _).trans hc) ho hp q) k
theorem Here.icmpYes (X : Here p l e R s m args below meth c y bytes maxL ret Z h0 ws T cells slots h) {pc pc' : Nat} {Ls : Array Slot} {St : List Value} {o : Int} {cd : ClassFile.Cond} {a b : Int32} (hd : decode bytes pc = .ok (.if_icmp cd o, 3)) (hc : if_icmp.holds cd a b = true) (ho : 0 ≤ (pc : Int) + o) (hp : ((pc : Int) + o).toNat = pc') (k : Runs p e below (T.setTop (mkF m pc' Ls St)) G) : Runs p e below (T.setTop (mkF m pc Ls (.int b :: .int a :: St))) G := by
  exact X.step (fun _ hx hb' _ hown _ S t q => XS.icmpYes S.here hx rfl rfl (hb hb' hd) rfl hc ho hp q) k
theorem Here.ifnullYes (X : Here p l e R s m args below meth c y bytes maxL ret Z h0 ws T cells slots h) {pc pc' : Nat} {Ls : Array Slot} {St : List Value} {o : Int}  (hd : decode bytes pc = .ok (.ifnull o, 3))  (ho : 0 ≤ (pc : Int) + o) (hp : ((pc : Int) + o).toNat = pc') (k : Runs p e below (T.setTop (mkF m pc' Ls St)) G) : Runs p e below (T.setTop (mkF m pc Ls (.null :: St))) G := by
  exact X.step (fun _ hx hb' _ hown _ S t q => XS.ifnullYes S.here hx rfl rfl (hb hb' hd) rfl ho hp q) k
theorem Here.ifnonnullYes (X : Here p l e R s m args below meth c y bytes maxL ret Z h0 ws T cells slots h) {pc pc' : Nat} {Ls : Array Slot} {St : List Value} {o : Int} {b : Addr} (hd : decode bytes pc = .ok (.ifnonnull o, 3))  (ho : 0 ≤ (pc : Int) + o) (hp : ((pc : Int) + o).toNat = pc') (k : Runs p e below (T.setTop (mkF m pc' Ls St)) G) : Runs p e below (T.setTop (mkF m pc Ls (.ref b :: St))) G := by
  exact X.step (fun _ hx hb' _ hown _ S t q => XS.ifnonnullYes S.here hx rfl rfl (hb hb' hd) rfl ho hp q) k
theorem Here.ifNo (X : Here p l e R s m args below meth c y bytes maxL ret Z h0 ws T cells slots h) {pc pc' : Nat} {Ls : Array Slot} {St : List Value} {o : Int} {cd : ClassFile.Cond} {a : Int32} (hd : decode bytes pc = .ok (.ifCond cd o, 3)) (hc : if_icmp.holds cd a 0 = false) (hp : pc + 3 = pc') (k : Runs p e below (T.setTop (mkF m pc' Ls (St))) G) : Runs p e below (T.setTop (mkF m pc Ls (.int a :: St))) G := by
  subst hp
  exact X.step (fun _ hx hb' _ hown _ S t q => XS.ifNo S.here hx rfl (hb hb' hd) rfl ((if0 _ _).trans hc) q) k
theorem Here.icmpNo (X : Here p l e R s m args below meth c y bytes maxL ret Z h0 ws T cells slots h) {pc pc' : Nat} {Ls : Array Slot} {St : List Value} {o : Int} {cd : ClassFile.Cond} {a b : Int32} (hd : decode bytes pc = .ok (.if_icmp cd o, 3)) (hc : if_icmp.holds cd a b = false) (hp : pc + 3 = pc') (k : Runs p e below (T.setTop (mkF m pc' Ls (St))) G) : Runs p e below (T.setTop (mkF m pc Ls (.int b :: .int a :: St))) G := by
  subst hp
  exact X.step (fun _ hx hb' _ hown _ S t q => XS.icmpNo S.here hx rfl (hb hb' hd) rfl hc q) k
theorem Here.ifnullNo (X : Here p l e R s m args below meth c y bytes maxL ret Z h0 ws T cells slots h) {pc pc' : Nat} {Ls : Array Slot} {St : List Value} {o : Int} {b : Addr} (hd : decode bytes pc = .ok (.ifnull o, 3))  (hp : pc + 3 = pc') (k : Runs p e below (T.setTop (mkF m pc' Ls (St))) G) : Runs p e below (T.setTop (mkF m pc Ls (.ref b :: St))) G := by
  subst hp
  exact X.step (fun _ hx hb' _ hown _ S t q => XS.ifnullNo S.here hx rfl (hb hb' hd) rfl q) k
theorem Here.ifnonnullNo (X : Here p l e R s m args below meth c y bytes maxL ret Z h0 ws T cells slots h) {pc pc' : Nat} {Ls : Array Slot} {St : List Value} {o : Int} (hd : decode bytes pc = .ok (.ifnonnull o, 3))  (hp : pc + 3 = pc') (k : Runs p e below (T.setTop (mkF m pc' Ls (St))) G) : Runs p e below (T.setTop (mkF m pc Ls (.null :: St))) G := by
  subst hp
  exact X.step (fun _ hx hb' _ hown _ S t q => XS.ifnonnullNo S.here hx rfl (hb hb' hd) rfl q) k
theorem Here.acmp (X : Here p l e R s m args below meth c y bytes maxL ret Z h0 ws T cells slots h) {pc pc' : Nat} {Ls : Array Slot} {St : List Value} {o : Int} {cd : ACond} {u v : Value} {same : Bool} (hd : decode bytes pc = .ok (.if_acmp cd o, 3)) (hu : u.isRef = true) (hv : v.isRef = true) (hq : decide (u = v) = same) (ho : 0 ≤ (pc : Int) + o) (hp : pc' = if acV cd same = true then ((pc : Int) + o).toNat else pc + 3) (k : Runs p e below (T.setTop (mkF m pc' Ls St)) G) : Runs p e below (T.setTop (mkF m pc Ls (v :: u :: St))) G := by
  exact X.step (fun _ hx hb' _ hown _ S t q => Jvm.RoadKit.acmp (g := mkF m pc Ls (v :: u :: St)) S hx rfl hu hv rfl (hb hb' hd) rfl hq ho hp q) k
theorem Here.getfield (X : Here p l e R s m args below meth c y bytes maxL ret Z h0 ws T cells slots h) {pc pc' : Nat} {Ls : Array Slot} {St : List Value} {R0 O n d host : String} {i : Nat} {a : Addr} {v : Value} (w : (Jvm.Cond.fieldLink y.cls i R0 n d).before a0 Z = true ∨ (Jvm.Cond.fieldLinkNest y.cls i R0 n d host).before a0 Z = true) (via : Via Z R0 O n d) (F : Fld Z h a O n d v) (hd : decode bytes pc = .ok (.getfield i, 3)) (hp : pc + 3 = pc')
    (k : ∀ T', Here p l e R s m args below meth c y bytes maxL ret Z h0 ws T' cells slots h → Runs p e below (T'.setTop (mkF m pc' Ls (v :: St))) G) : Runs p e below (T.setTop (mkF m pc Ls (.ref a :: St))) G := by
  subst hp
  exact X.stepT (fun _ hx hb' _ hZ hown eT S => getF S hx hZ hown w via eT F (g := mkF m pc Ls (.ref a :: St)) rfl rfl (hb hb' hd)) k
theorem Here.getstatic (X : Here p l e R s m args below meth c y bytes maxL ret Z h0 ws T cells slots h) {pc pc' : Nat} {Ls : Array Slot} {St : List Value} {R0 O n d host : String} {i : Nat} {v : Value} (w : (Jvm.Cond.fieldLink y.cls i R0 n d).before a0 Z = true ∨ (Jvm.Cond.fieldLinkNest y.cls i R0 n d host).before a0 Z = true) (via : Via Z R0 O n d) (F : Sta Z h O n d v) (hd : decode bytes pc = .ok (.getstatic i, 3)) (hp : pc + 3 = pc')
    (k : ∀ T', Here p l e R s m args below meth c y bytes maxL ret Z h0 ws T' cells slots h → Runs p e below (T'.setTop (mkF m pc' Ls (v :: St))) G) : Runs p e below (T.setTop (mkF m pc Ls St)) G := by
  subst hp
  exact X.stepT (fun _ hx hb' _ hZ hown eT S => getS2 S hx hZ hown w via eT F (g := mkF m pc Ls St) rfl (hb hb' hd)) k
theorem Here.putfield (X : Here p l e R s m args below meth c y bytes maxL ret Z h0 ws T cells slots h) {pc pc' : Nat} {Ls : Array Slot} {St : List Value} {R0 O n d host C : String} {i kk : Nat} {ty : FieldType} {a : Addr} {v old : Value} (w : (Jvm.Cond.fieldLink y.cls i R0 n d).before a0 Z = true ∨ (Jvm.Cond.fieldLinkNest y.cls i R0 n d host).before a0 Z = true) (via : Via Z R0 O n d) (F : Fld Z h a O n d old) (E : Exa Z h a C)
    (L : (Jvm.Cond.lays C O n d).before a0 Z = true ∨ ((Jvm.Cond.laysFinal C O n d).before a0 Z = true ∧ y.cls = O ∧ y.name = "<init>")) (wi : (Jvm.Cond.instantiable C kk).before a0 Z = true) (hty : parseFieldDescriptor d = some ty) (hn : narrow ty v = v) (hf : fits ty v = true) (hd : decode bytes pc = .ok (.putfield i, 3)) (hp : pc + 3 = pc') (hws : a ∈ ws ∨ h0.size ≤ a)
    (k : ∀ T' h', Here p l e R s m args below meth c y bytes maxL ret Z h0 ws T' cells slots h' → Wr h h' a (Jvm.RoadKit.slotOf Z O n d) v → Runs p e below (T'.setTop (mkF m pc' Ls St)) G) : Runs p e below (T.setTop (mkF m pc Ls (v :: .ref a :: St))) G := by
  subst hp
  exact X.stepW hws (fun _ hx hb' hnm hZ hown eT S => putF S hx hZ hown w via eT F E (L.imp id fun q => ⟨q.1, q.2.1, hnm.trans q.2.2⟩) wi hty hn hf (g := mkF m pc Ls (v :: .ref a :: St)) rfl rfl (hb hb' hd)) k
theorem Here.putfieldN (X : Here p l e R s m args below meth c y bytes maxL ret Z h0 ws T cells slots h) {pc pc' : Nat} {Ls : Array Slot} {St : List Value} {R0 O n d C : String} {i kk : Nat} {ty : FieldType} {a : Addr} {v v' old : Value} (w : (Jvm.Cond.fieldLink y.cls i R0 n d).before a0 Z = true) (via : Via Z R0 O n d) (F : Fld Z h a O n d old) (E : Exa Z h a C)
    (L : (Jvm.Cond.lays C O n d).before a0 Z = true ∨ ((Jvm.Cond.laysFinal C O n d).before a0 Z = true ∧ y.cls = O ∧ y.name = "<init>")) (wi : (Jvm.Cond.instantiable C kk).before a0 Z = true) (hty : parseFieldDescriptor d = some ty) (hn : narrow ty v = v') (hf : fits ty v' = true) (hd : decode bytes pc = .ok (.putfield i, 3)) (hp : pc + 3 = pc') (hws : a ∈ ws ∨ h0.size ≤ a)
    (k : ∀ T' h', Here p l e R s m args below meth c y bytes maxL ret Z h0 ws T' cells slots h' → Wr h h' a (Jvm.RoadKit.slotOf Z O n d) v' → Runs p e below (T'.setTop (mkF m pc' Ls St)) G) : Runs p e below (T.setTop (mkF m pc Ls (v :: .ref a :: St))) G := by
  subst hp
  exact X.stepW hws (fun _ hx hb' hnm hZ hown eT S => putFN S hx hZ hown w via eT F E (L.imp id fun q => ⟨q.1, q.2.1, hnm.trans q.2.2⟩) wi hty hn hf (g := mkF m pc Ls (v :: .ref a :: St)) rfl rfl (hb hb' hd)) k
theorem Here.new (X : Here p l e R s m args below meth c y bytes maxL ret Z h0 ws T cells slots h) {pc pc' : Nat} {Ls : Array Slot} {St : List Value} {C : String} {i n : Nat} (w : (Jvm.Cond.classLink y.cls i C).before a0 Z = true) (wi : (Jvm.Cond.instantiable C n).before a0 Z = true) (wz : (Jvm.Cond.initialized C).before a0 Z = true) (hd : decode bytes pc = .ok (.new i, 3)) (hp : pc + 3 = pc') (hc : cells + 1 ≤ R.cells) (hl : slots + n ≤ R.slots)
    (k : ∀ T' h' b, Here p l e R s m args below meth c y bytes maxL ret Z h0 ws T' (cells + 1) (slots + n) h' → b = h.size → Ext h h' → Exa Z h' b C → (∀ {O nm d : String} {ty : FieldType}, Laid Z a0 C O nm d → parseFieldDescriptor d = some ty → Fld Z h' b O nm d (defaultValue ty)) → Runs p e below (T'.setTop (mkF m pc' Ls (.ref b :: St))) G) : Runs p e below (T.setTop (mkF m pc Ls St)) G := by
  subst hp
  obtain ⟨⟨x1, x2, x3, x4, x5, x6, x7, x8⟩, x9, x10, locs, S, N⟩ := X
  obtain ⟨T', h', S', e', E, A, D, -, st⟩ := newO S x1 x2 x5 w wi wz x9 (g := mkF m pc Ls St) rfl (hb x3 hd) hc hl
  exact (k T' h' _ ⟨⟨x1, x2, x3, x4, x5, x6, x7, x8⟩, e', x10.ext E, _, S', N⟩ rfl E A D).of st
theorem Here.initObj (X : Here p l e R s m args below meth c y bytes maxL ret Z h0 ws T cells slots h) {pc pc' : Nat} {Ls : Array Slot} {St : List Value} {i : Nat} {a : Addr} (w1 : (Jvm.Cond.methodLink y.cls i Lib.objectInit).before a0 Z = true) (w2 : (Jvm.Cond.instanceMethod Lib.objectInit).before a0 Z = true) (w3 : (Jvm.Cond.code Lib.objectInit ⟨#[0xb1]⟩ 1 none).before a0 Z = true) (hsz : Ls.size = maxL) (hd : decode bytes pc = .ok (.invokespecial i, 3)) (hp : pc + 3 = pc') (hf : 1 ≤ R.frames) {W : Nat} (hW : (St.map fun v => v.category).sum = W) (hl : W + 12 ≤ R.locals)
    (k : ∀ T', Here p l e R s m args below meth c y bytes maxL ret Z h0 ws T' cells slots h → Runs p e below (T'.setTop (mkF m pc' Ls St)) G) : Runs p e below (T.setTop (mkF m pc Ls (.ref a :: St))) G := by
  subst hp
  exact X.stepT (fun _ hx hb' hml hZ hown eT S => initO S hx hZ hown w1 w2 w3 eT (g := mkF m pc Ls (.ref a :: St)) rfl (hsz.trans hml.symm) rfl (hb hb' hd) hf (W := W) (by show 2 * 0 + _ ≤ _; rw [hW]; omega) hl) k
theorem Here.castYes (X : Here p l e R s m args below meth c y bytes maxL ret Z h0 ws T cells slots h) {pc pc' : Nat} {Ls : Array Slot} {St : List Value} {K : String} {i : Nat} {a : Addr} (w : (Jvm.Cond.classLink y.cls i K).before a0 Z = true) (F : Jvm.RoadKit.Ins Z h a K true) (hd : decode bytes pc = .ok (.checkcast i, 3)) (hp : pc + 3 = pc')
    (k : ∀ T', Here p l e R s m args below meth c y bytes maxL ret Z h0 ws T' cells slots h → Runs p e below (T'.setTop (mkF m pc' Ls (.ref a :: St))) G) : Runs p e below (T.setTop (mkF m pc Ls (.ref a :: St))) G := by
  subst hp
  exact X.stepT (fun _ hx hb' _ hZ hown eT S => castY S hx hZ hown w eT F (g := mkF m pc Ls (.ref a :: St)) rfl rfl (hb hb' hd)) k
theorem Here.instYes (X : Here p l e R s m args below meth c y bytes maxL ret Z h0 ws T cells slots h) {pc pc' : Nat} {Ls : Array Slot} {St : List Value} {K : String} {i : Nat} {a : Addr} (w : (Jvm.Cond.classLink y.cls i K).before a0 Z = true) (F : Jvm.RoadKit.Ins Z h a K true) (hd : decode bytes pc = .ok (.instanceof i, 3)) (hp : pc + 3 = pc')
    (k : ∀ T', Here p l e R s m args below meth c y bytes maxL ret Z h0 ws T' cells slots h → Runs p e below (T'.setTop (mkF m pc' Ls (.int (1 : Int32) :: St))) G) : Runs p e below (T.setTop (mkF m pc Ls (.ref a :: St))) G := by
  subst hp
  exact X.stepT (fun _ hx hb' _ hZ hown eT S => instY S hx hZ hown w eT F (g := mkF m pc Ls (.ref a :: St)) rfl rfl (hb hb' hd)) k
theorem Here.instNo (X : Here p l e R s m args below meth c y bytes maxL ret Z h0 ws T cells slots h) {pc pc' : Nat} {Ls : Array Slot} {St : List Value} {C K : String} {i : Nat} {a : Addr} (w : (Jvm.Cond.classLink y.cls i K).before a0 Z = true) (E : Exa Z h a C) (F : ∃ c t, Z.vm.findClass C = some c ∧ Z.vm.findClass K = some t ∧ Z.vm.assignable c t = false) (hd : decode bytes pc = .ok (.instanceof i, 3)) (hp : pc + 3 = pc')
    (k : ∀ T', Here p l e R s m args below meth c y bytes maxL ret Z h0 ws T' cells slots h → Runs p e below (T'.setTop (mkF m pc' Ls (.int (0 : Int32) :: St))) G) : Runs p e below (T.setTop (mkF m pc Ls (.ref a :: St))) G := by
  subst hp
  exact X.stepT (fun _ hx hb' _ hZ hown eT S => Jvm.RoadKit.instNo S hx hZ hown w eT E F (g := mkF m pc Ls (.ref a :: St)) rfl rfl (hb hb' hd)) k
theorem Here.checkcastNull (X : Here p l e R s m args below meth c y bytes maxL ret Z h0 ws T cells slots h) {pc pc' : Nat} {Ls : Array Slot} {St : List Value} {i : Nat} (hd : decode bytes pc = .ok (.checkcast i, 3)) (hp : pc + 3 = pc') (k : Runs p e below (T.setTop (mkF m pc' Ls (.null :: St))) G) : Runs p e below (T.setTop (mkF m pc Ls (.null :: St))) G := by
  subst hp
  exact X.step (fun _ hx hb' _ _ _ S t q => S.checkcastNull hx (g := mkF m pc Ls (.null :: St)) rfl rfl (hb hb' hd) t q) k
theorem Here.instanceofNull (X : Here p l e R s m args below meth c y bytes maxL ret Z h0 ws T cells slots h) {pc pc' : Nat} {Ls : Array Slot} {St : List Value} {i : Nat} (hd : decode bytes pc = .ok (.instanceof i, 3)) (hp : pc + 3 = pc') (k : Runs p e below (T.setTop (mkF m pc' Ls (.int (0 : Int32) :: St))) G) : Runs p e below (T.setTop (mkF m pc Ls (.null :: St))) G := by
  subst hp
  exact X.step (fun _ hx hb' _ _ _ S t q => S.instanceofNull hx (g := mkF m pc Ls (.null :: St)) rfl rfl (hb hb' hd) t q) k
theorem Here.aaload (X : Here p l e R s m args below meth c y bytes maxL ret Z h0 ws T cells slots h) {pc pc' : Nat} {Ls : Array Slot} {St : List Value} {a : Addr} {cl : Cell} {ty : FieldType} {j : Int32} {v : Value} (A : Arr Z h a cl ty) (hty : ty.isReference = true) (hj : ¬ (j < 0 ∨ cl.slots.size ≤ j.toNatClampNeg)) (hv : cl.slots[j.toNatClampNeg]? = some v) (hd : decode bytes pc = .ok (.aaload, 1)) (hp : pc + 1 = pc')
    (k : Runs p e below (T.setTop (mkF m pc' Ls (v :: St))) G) : Runs p e below (T.setTop (mkF m pc Ls (.int j :: .ref a :: St))) G := by
  subst hp
  exact X.step (fun _ hx hb' hZ _ eT S t q => S.aaload hx (j := j) (v := v) (by rw [eT]; exact A.1) (State.isArrayOf_alike hZ.alike A.2.1) hty A.2.2 hj hv (g := mkF m pc Ls (.int j :: .ref a :: St)) rfl rfl (hb hb' hd) t q) k
theorem sta_keep0 {C n d : String} {v : Value} {h' : Heap} (F : Sta Z h C n d v) (K : Keep h h' []) : Sta Z h' C n d v := by
  obtain ⟨cf, i, k, f, st, cell, h1, h2, h3, h4, h5, r⟩ := F
  exact ⟨cf, i, k, f, st, cell, h1, h2, h3, h4, K.2.1 _ _ h5 nin0, r⟩
theorem arr_keep0 {a : Addr} {cl : Cell} {ty : FieldType} {h' : Heap} (F : Arr Z h a cl ty) (K : Keep h h' []) : Arr Z h' a cl ty := ⟨K.2.1 _ _ F.1 nin0, F.2⟩
theorem allWs0 {P : Addr → Prop} : ∀ x ∈ ([] : List Addr), P x := fun _ q => nomatch q
/-! arrays: the list of their values -/
/-- the array at a holds just these values -/
def Lst (Z : State) (h : Heap) (a : Addr) (ty : FieldType) (vs : List Value) : Prop := ∃ cl : Cell, Arr Z h a cl ty ∧ cl.slots = vs.toArray ∧ vs.length < 2 ^ 31
section L
variable {a b : Addr} {ty : FieldType} {vs : List Value} {h' : Heap} {sl : Nat} {v : Value} {ws' : List Addr} {C' : String}
theorem Lst.lt (F : Lst Z h a ty vs) : a < h.size := by obtain ⟨c, A, -⟩ := F; exact A.lt
theorem Lst.len (F : Lst Z h a ty vs) : vs.length < 2 ^ 31 := by obtain ⟨c, A, -, q⟩ := F; exact q
theorem Lst.ext (F : Lst Z h a ty vs) (E : Ext h h') : Lst Z h' a ty vs := by obtain ⟨c, A, r⟩ := F; exact ⟨c, A.ext E, r⟩
theorem Lst.other (F : Lst Z h b ty vs) (W : Wr h h' a sl v) (q : b ≠ a) : Lst Z h' b ty vs := by obtain ⟨c, A, r⟩ := F; exact ⟨c, A.other W q, r⟩
theorem Lst.keep (F : Lst Z h a ty vs) (K : Keep h h' ws') (q : a ∉ ws') : Lst Z h' a ty vs := by obtain ⟨c, A, r⟩ := F; exact ⟨c, ⟨K.2.1 a c A.1 q, A.2⟩, r⟩
theorem Lst.set (F : Lst Z h a ty vs) (W : Wr h h' a sl v) : Lst Z h' a ty (vs.set sl v) := by
  obtain ⟨c, A, r, q⟩ := F
  exact ⟨_, A.same W, by simp [Cell.setSlot, r], by simpa using q⟩
theorem Lst.ne (F : Lst Z h a ty vs) (wi : (Jvm.Cond.instantiable C' sl).before a0 Z = true) (G : Exa Z h b C') : b ≠ a := by obtain ⟨c, A, -⟩ := F; exact ne_arr G wi A
end L
/-- the place j lies inside a list -/
def Inb (j : Int32) (n : Nat) : Prop := 0 ≤ j.toInt ∧ j.toInt < (n : Int)
theorem nat_of_ins {j : Int32} {n : Nat} (q : Inb j n) : j.toNatClampNeg = j.toInt.toNat ∧ j.toInt.toNat < n ∧ ¬ j < 0 := by
  obtain ⟨q1, q2⟩ := q
  refine ⟨rfl, by omega, fun z => ?_⟩
  have : j.toInt < (0 : Int32).toInt := Int32.lt_iff_toInt_lt.mp z
  simp at this; omega
theorem in_of_ins {cl : Cell} {vs : List Value} {j : Int32} (r : cl.slots = vs.toArray) (q : Inb j vs.length) : ¬ (j < 0 ∨ cl.slots.size ≤ j.toNatClampNeg) := by
  obtain ⟨q1, q2, q3⟩ := nat_of_ins q
  rw [q1, r]; simp only [List.size_toArray]; intro z; rcases z with z | z
  · exact q3 z
  · omega
theorem at_of_ins {cl : Cell} {vs : List Value} {j : Int32} {v : Value} (r : cl.slots = vs.toArray) (hv : vs[j.toInt.toNat]? = some v) : cl.slots[j.toNatClampNeg]? = some v := by
  rw [r]; exact (by simpa using hv : vs.toArray[j.toInt.toNat]? = some v)
theorem Here.newarray (X : Here p l e R s m args below meth c y bytes maxL ret Z h0 ws T cells slots h) {pc pc' : Nat} {Ls : Array Slot} {St : List Value} {aty : ArrayType} {ty : FieldType} {n : Int32} (hty : newarray.typeOf aty = ty) (w : (Jvm.Cond.arrayClass ty).before a0 Z = true) (hd : decode bytes pc = .ok (.newarray aty, 2)) (hp : pc + 2 = pc') {cap : Nat} (hn : Inb n (cap + 1)) (hb8 : cap * 8 ≤ 536870912) (hc : cells + 1 ≤ R.cells) (hl : slots + cap ≤ R.slots)
    (k : ∀ T' h' b, Here p l e R s m args below meth c y bytes maxL ret Z h0 ws T' (cells + 1) (slots + cap) h' → b = h.size → Ext h h' → Lst Z h' b ty (List.replicate n.toInt.toNat (defaultValue ty)) → Runs p e below (T'.setTop (mkF m pc' Ls (.ref b :: St))) G) : Runs p e below (T.setTop (mkF m pc Ls (.int n :: St))) G := by
  subst hp; subst hty
  obtain ⟨n1, n2, n3⟩ := nat_of_ins hn
  obtain ⟨⟨x1, x2, x3, x4, x5, x6, x7, x8⟩, x9, x10, locs, S, N⟩ := X
  obtain ⟨T', h', cA, S', e', E, A, st⟩ := newP S x1 x2 w x9 (g := mkF m pc Ls (.int n :: St)) rfl (hb x3 hd) rfl n3 (cap := cap) (by rw [n1]; omega) hb8 hc hl
  exact (k T' h' _ ⟨⟨x1, x2, x3, x4, x5, x6, x7, x8⟩, e', x10.ext E, _, S', N⟩ rfl E ⟨_, A, by show Array.replicate n.toNatClampNeg _ = _; rw [n1, List.toArray_replicate], by rw [List.length_replicate]; omega⟩).of st
theorem Here.arraylength (X : Here p l e R s m args below meth c y bytes maxL ret Z h0 ws T cells slots h) {pc pc' : Nat} {Ls : Array Slot} {St : List Value} {a : Addr} {ty : FieldType} {vs : List Value} {n : Int32} (F : Lst Z h a ty vs) (hn : vs.length.toInt32 = n) (hd : decode bytes pc = .ok (.arraylength, 1)) (hp : pc + 1 = pc')
    (k : Runs p e below (T.setTop (mkF m pc' Ls (.int n :: St))) G) : Runs p e below (T.setTop (mkF m pc Ls (.ref a :: St))) G := by
  subst hp
  obtain ⟨cl, A, r, -⟩ := F
  exact X.step (fun _ hx hb' hZ _ eT S t q => S.arraylength hx (by rw [eT]; exact A.1) (State.isArrayOf_alike hZ.alike A.2.1) (g := mkF m pc Ls (.ref a :: St)) rfl rfl (hb hb' hd) t (by rw [r, List.size_toArray, hn]; exact q)) k
theorem Here.iaload (X : Here p l e R s m args below meth c y bytes maxL ret Z h0 ws T cells slots h) {pc pc' : Nat} {Ls : Array Slot} {St : List Value} {a : Addr} {vs : List Value} {j : Int32} {v : Value} (F : Lst Z h a .int vs) (hj : Inb j vs.length) (hv : vs[j.toInt.toNat]? = some v) (hd : decode bytes pc = .ok (.iaload, 1)) (hp : pc + 1 = pc')
    (k : Runs p e below (T.setTop (mkF m pc' Ls (v :: St))) G) : Runs p e below (T.setTop (mkF m pc Ls (.int j :: .ref a :: St))) G := by
  subst hp
  obtain ⟨cl, A, r, -⟩ := F
  exact X.step (fun _ hx hb' hZ _ eT S t q => S.iaload hx (j := j) (v := v) (by rw [eT]; exact A.1) (State.isArrayOf_alike hZ.alike A.2.1) A.2.2 (in_of_ins r hj) (at_of_ins r hv) (g := mkF m pc Ls (.int j :: .ref a :: St)) rfl rfl (hb hb' hd) t q) k
theorem Here.laload (X : Here p l e R s m args below meth c y bytes maxL ret Z h0 ws T cells slots h) {pc pc' : Nat} {Ls : Array Slot} {St : List Value} {a : Addr} {vs : List Value} {j : Int32} {v : Value} (F : Lst Z h a .long vs) (hj : Inb j vs.length) (hv : vs[j.toInt.toNat]? = some v) (hd : decode bytes pc = .ok (.laload, 1)) (hp : pc + 1 = pc')
    (k : Runs p e below (T.setTop (mkF m pc' Ls (v :: St))) G) : Runs p e below (T.setTop (mkF m pc Ls (.int j :: .ref a :: St))) G := by
  subst hp
  obtain ⟨cl, A, r, -⟩ := F
  exact X.step (fun _ hx hb' hZ _ eT S t q => S.laload hx (j := j) (v := v) (by rw [eT]; exact A.1) (State.isArrayOf_alike hZ.alike A.2.1) A.2.2 (in_of_ins r hj) (at_of_ins r hv) (g := mkF m pc Ls (.int j :: .ref a :: St)) rfl rfl (hb hb' hd) t q) k
theorem Here.caload (X : Here p l e R s m args below meth c y bytes maxL ret Z h0 ws T cells slots h) {pc pc' : Nat} {Ls : Array Slot} {St : List Value} {a : Addr} {vs : List Value} {j : Int32} {v : Value} (F : Lst Z h a .char vs) (hj : Inb j vs.length) (hv : vs[j.toInt.toNat]? = some v) (hd : decode bytes pc = .ok (.caload, 1)) (hp : pc + 1 = pc')
    (k : Runs p e below (T.setTop (mkF m pc' Ls (v :: St))) G) : Runs p e below (T.setTop (mkF m pc Ls (.int j :: .ref a :: St))) G := by
  subst hp
  obtain ⟨cl, A, r, -⟩ := F
  exact X.step (fun _ hx hb' hZ _ eT S t q => S.caload hx (j := j) (v := v) (by rw [eT]; exact A.1) (State.isArrayOf_alike hZ.alike A.2.1) A.2.2 (in_of_ins r hj) (at_of_ins r hv) (g := mkF m pc Ls (.int j :: .ref a :: St)) rfl rfl (hb hb' hd) t q) k
theorem Here.baload (X : Here p l e R s m args below meth c y bytes maxL ret Z h0 ws T cells slots h) {pc pc' : Nat} {Ls : Array Slot} {St : List Value} {a : Addr} {vs : List Value} {j : Int32} {v : Value} (F : Lst Z h a .byte vs) (hj : Inb j vs.length) (hv : vs[j.toInt.toNat]? = some v) (hd : decode bytes pc = .ok (.baload, 1)) (hp : pc + 1 = pc')
    (k : Runs p e below (T.setTop (mkF m pc' Ls (v :: St))) G) : Runs p e below (T.setTop (mkF m pc Ls (.int j :: .ref a :: St))) G := by
  subst hp
  obtain ⟨cl, A, r, -⟩ := F
  exact X.step (fun _ hx hb' hZ _ eT S t q => S.baloadBytes hx (j := j) (v := v) (by rw [eT]; exact A.1) (State.isArrayOf_alike hZ.alike A.2.1) A.2.2 (in_of_ins r hj) (at_of_ins r hv) (g := mkF m pc Ls (.int j :: .ref a :: St)) rfl rfl (hb hb' hd) t q) k
theorem Here.iastore (X : Here p l e R s m args below meth c y bytes maxL ret Z h0 ws T cells slots h) {pc pc' : Nat} {Ls : Array Slot} {St : List Value} {a : Addr} {vs : List Value} {j : Int32} {x : Int32} (F : Lst Z h a .int vs) (hj : Inb j vs.length) (hd : decode bytes pc = .ok (.iastore, 1)) (hp : pc + 1 = pc') (hws : a ∈ ws ∨ h0.size ≤ a)
    (k : ∀ T' h', Here p l e R s m args below meth c y bytes maxL ret Z h0 ws T' cells slots h' → Wr h h' a j.toInt.toNat (.int x) → Runs p e below (T'.setTop (mkF m pc' Ls St)) G) : Runs p e below (T.setTop (mkF m pc Ls (.int x :: .int j :: .ref a :: St))) G := by
  subst hp
  obtain ⟨cl, A, r, -⟩ := F
  exact X.stepW hws (fun _ hx hb' _ hZ _ eT S => stI S hx hZ eT A (j := j) (in_of_ins r hj) (g := mkF m pc Ls (.int x :: .int j :: .ref a :: St)) rfl rfl (hb hb' hd)) k
theorem Here.lastore (X : Here p l e R s m args below meth c y bytes maxL ret Z h0 ws T cells slots h) {pc pc' : Nat} {Ls : Array Slot} {St : List Value} {a : Addr} {vs : List Value} {j : Int32} {x : Int64} (F : Lst Z h a .long vs) (hj : Inb j vs.length) (hd : decode bytes pc = .ok (.lastore, 1)) (hp : pc + 1 = pc') (hws : a ∈ ws ∨ h0.size ≤ a)
    (k : ∀ T' h', Here p l e R s m args below meth c y bytes maxL ret Z h0 ws T' cells slots h' → Wr h h' a j.toInt.toNat (.long x) → Runs p e below (T'.setTop (mkF m pc' Ls St)) G) : Runs p e below (T.setTop (mkF m pc Ls (.long x :: .int j :: .ref a :: St))) G := by
  subst hp
  obtain ⟨cl, A, r, -⟩ := F
  exact X.stepW hws (fun _ hx hb' _ hZ _ eT S => stJ S hx hZ eT A (j := j) (in_of_ins r hj) (g := mkF m pc Ls (.long x :: .int j :: .ref a :: St)) rfl rfl (hb hb' hd)) k
theorem Here.castore (X : Here p l e R s m args below meth c y bytes maxL ret Z h0 ws T cells slots h) {pc pc' : Nat} {Ls : Array Slot} {St : List Value} {a : Addr} {vs : List Value} {j : Int32} {x : Int32} (F : Lst Z h a .char vs) (hj : Inb j vs.length) (hd : decode bytes pc = .ok (.castore, 1)) (hp : pc + 1 = pc') (hws : a ∈ ws ∨ h0.size ≤ a)
    (k : ∀ T' h', Here p l e R s m args below meth c y bytes maxL ret Z h0 ws T' cells slots h' → Wr h h' a j.toInt.toNat (.int (nar .char x)) → Runs p e below (T'.setTop (mkF m pc' Ls St)) G) : Runs p e below (T.setTop (mkF m pc Ls (.int x :: .int j :: .ref a :: St))) G := by
  subst hp
  obtain ⟨cl, A, r, -⟩ := F
  exact X.stepW hws (fun _ hx hb' _ hZ _ eT S => stC S hx hZ eT A (j := j) (in_of_ins r hj) (g := mkF m pc Ls (.int x :: .int j :: .ref a :: St)) rfl rfl (hb hb' hd)) k
theorem Here.bastore (X : Here p l e R s m args below meth c y bytes maxL ret Z h0 ws T cells slots h) {pc pc' : Nat} {Ls : Array Slot} {St : List Value} {a : Addr} {vs : List Value} {j : Int32} {x : Int32} (F : Lst Z h a .byte vs) (hj : Inb j vs.length) (hd : decode bytes pc = .ok (.bastore, 1)) (hp : pc + 1 = pc') (hws : a ∈ ws ∨ h0.size ≤ a)
    (k : ∀ T' h', Here p l e R s m args below meth c y bytes maxL ret Z h0 ws T' cells slots h' → Wr h h' a j.toInt.toNat (.int x.toInt8.toInt32) → Runs p e below (T'.setTop (mkF m pc' Ls St)) G) : Runs p e below (T.setTop (mkF m pc Ls (.int x :: .int j :: .ref a :: St))) G := by
  subst hp
  obtain ⟨cl, A, r, -⟩ := F
  exact X.stepW hws (fun _ hx hb' _ hZ _ eT S => stB S hx hZ eT A (j := j) (in_of_ins r hj) (g := mkF m pc Ls (.int x :: .int j :: .ref a :: St)) rfl rfl (hb hb' hd)) k
/-! calls by a contract -/
variable {y' : MethodName} {bytes' : ByteArray} {maxL' : Nat} {ret' : Option FieldType} {rm : Room} {as : Array Value} {ws' : List Addr} {Q : Option Value → Heap → Prop}
theorem backCt (X : Here p l e R s m args below meth c y bytes maxL ret Z h0 ws T cells slots h) {len W : Nat} (hM : Ct l Z y' bytes' maxL' ret' rm as h ws' Q) (wc : (Jvm.Cond.code y' bytes' maxL' ret').before a0 Z = true) (wz : (Jvm.Cond.initialized y'.cls).before a0 Z = true) (hf : rm.frames + 1 ≤ R.frames) (hl : W + (maxL' + 11) + rm.locals ≤ R.locals) :
    Back l R p e below s args y' len W (fun A a => a = as ∧ A.U.heap = h ∧ A.cells + rm.cells ≤ R.cells ∧ A.slots + rm.slots ≤ R.slots)
      (fun A _ v B => ∃ L, (Q v B.U.heap ∧ Keep h B.U.heap ws' ∧ Wrote h ws' L) ∧ B.locs = A.locs ++ L ∧ B.cells = A.cells + rm.cells ∧ B.slots = A.slots + rm.slots) :=
  backOf (Q := fun v h' L => Q v h' ∧ Keep h h' ws' ∧ Wrote h ws' L) (hM []) X.hZ wc wz hf hl
theorem Here.back (X : Here p l e R s m args below meth c y bytes maxL ret Z h0 ws T cells slots h) {U : State} {locs : List Loc} {h' : Heap} {L : List Loc} (N : Wrote h0 ws locs) (hU : Stand p l e R s m args below meth c U (locs ++ L) (cells + rm.cells) (slots + rm.slots)) (e' : U.heap = h') (K : Keep h h' ws') (N' : Wrote h ws' L) (hws : ∀ x ∈ ws', x ∈ ws ∨ h0.size ≤ x) :
    Here p l e R s m args below meth c y bytes maxL ret Z h0 ws U (cells + rm.cells) (slots + rm.slots) h' :=
  ⟨X.1, e', X.keep.trans K hws, _, hU, N.app N' X.size hws⟩
theorem Here.callS (X : Here p l e R s m args below meth c y bytes maxL ret Z h0 ws T cells slots h) {pc pc' : Nat} {Ls : Array Slot} {St : List Value} {i : Nat} {sig : MethodDescriptor} {argsL rest : List Value} (hM : Ct l Z y' bytes' maxL' ret' rm as h ws' Q) (w1 : (Jvm.Cond.methodLink y.cls i y').before a0 Z = true) (w2 : (Jvm.Cond.static y').before a0 Z = true) (w3 : (Jvm.Cond.initialized y'.cls).before a0 Z = true) (w4 : (Jvm.Cond.code y' bytes' maxL' ret').before a0 Z = true)
    (hy : y'.cls ≠ "java/lang/invoke/MethodHandle" ∧ y'.cls ≠ "java/lang/invoke/VarHandle") (hsig : parseMethodDescriptor y'.desc = some sig) (hlen : argsL.length = sig.parameters.length) (has : argsL.toArray = as) (hst : St = argsL.reverse ++ rest) (hsz : Ls.size = maxL) (hd : decode bytes pc = .ok (.invokestatic i, 3)) (hp : pc + 3 = pc')
    (hf : rm.frames + 1 ≤ R.frames) {W : Nat} (hW : (rest.map fun v => v.category).sum = W) (hl : W + (maxL' + 11) + rm.locals ≤ R.locals) (hc : cells + rm.cells ≤ R.cells) (hs : slots + rm.slots ≤ R.slots) (hws : ∀ x ∈ ws', x ∈ ws ∨ h0.size ≤ x)
    (k : ∀ T' h' v, Here p l e R s m args below meth c y bytes maxL ret Z h0 ws T' (cells + rm.cells) (slots + rm.slots) h' → Keep h h' ws' → Q v h' → Runs p e below (T'.setTop (mkF m pc' Ls (v.toList ++ rest))) G) : Runs p e below (T.setTop (mkF m pc Ls St)) G := by
  subst hp hst
  have X' := X
  obtain ⟨⟨x1, x2, x3, x4, x5, x6, x7, x8⟩, x9, x10, locs, S, N⟩ := X
  obtain ⟨v, vm₁, ⟨U, lo, ce, sl⟩, -, SU, ⟨Lc, hQ, z1, z2, z3⟩, st⟩ := Jvm.LawKit.callS S x1 (y := y') x5 (mvT x2 w1) (mvT x2 w2) (mvT x2 w3) (mvT x2 w4) hy (backCt X' hM w4 w3 hf hl) (g := mkF m pc Ls (argsL.reverse ++ rest)) rfl (hsz.trans x4.symm) (argsL := argsL) (rest := rest) (lenOf hsig hlen) rfl (by show 2 * 0 + _ ≤ _; rw [hW]; omega) (hb x3 hd) (fun _ _ => ⟨has, x9, hc, hs⟩)
  dsimp only [Pt.U, Pt.locs, Pt.cells, Pt.slots] at SU z1 z2 z3 st hQ
  subst z1 z2 z3
  exact (k U _ v (X'.back N SU rfl hQ.2.1 hQ.2.2 hws) hQ.2.1 hQ.1).of st
theorem Here.special (X : Here p l e R s m args below meth c y bytes maxL ret Z h0 ws T cells slots h) {pc pc' : Nat} {Ls : Array Slot} {St : List Value} {i : Nat} {sig : MethodDescriptor} {a : Addr} {argsL rest : List Value} (hM : Ct l Z y' bytes' maxL' none rm as h ws' Q) (hin : y'.name = "<init>") (w1 : (Jvm.Cond.methodLink y.cls i y').before a0 Z = true) (w2 : (Jvm.Cond.instanceMethod y').before a0 Z = true) (w3 : (Jvm.Cond.initialized y'.cls).before a0 Z = true) (w4 : (Jvm.Cond.code y' bytes' maxL' none).before a0 Z = true)
    (hy : y'.cls ≠ "java/lang/invoke/MethodHandle" ∧ y'.cls ≠ "java/lang/invoke/VarHandle") (hsig : parseMethodDescriptor y'.desc = some sig) (hlen : argsL.length = sig.parameters.length) (has : (.ref a :: argsL).toArray = as) (hst : St = argsL.reverse ++ .ref a :: rest) (hsz : Ls.size = maxL) (hd : decode bytes pc = .ok (.invokespecial i, 3)) (hp : pc + 3 = pc')
    (hf : rm.frames + 1 ≤ R.frames) {W : Nat} (hW : (rest.map fun v => v.category).sum = W) (hl : W + (maxL' + 11) + rm.locals ≤ R.locals) (hc : cells + rm.cells ≤ R.cells) (hs : slots + rm.slots ≤ R.slots) (hws : ∀ x ∈ ws', x ∈ ws ∨ h0.size ≤ x)
    (k : ∀ T' h' v, Here p l e R s m args below meth c y bytes maxL ret Z h0 ws T' (cells + rm.cells) (slots + rm.slots) h' → Keep h h' ws' → Q v h' → Runs p e below (T'.setTop (mkF m pc' Ls (v.toList ++ rest))) G) : Runs p e below (T.setTop (mkF m pc Ls St)) G := by
  subst hp hst
  have X' := X
  obtain ⟨⟨x1, x2, x3, x4, x5, x6, x7, x8⟩, x9, x10, locs, S, N⟩ := X
  obtain ⟨v, vm₁, ⟨U, lo, ce, sl⟩, -, SU, ⟨Lc, hQ, z1, z2, z3⟩, st⟩ := S.specialBack x1 (y := y') hin x5 (mvT x2 w1) (mvT x2 w2) (mvT x2 w4) hy (backCt X' hM w4 w3 hf hl) (g := mkF m pc Ls (argsL.reverse ++ .ref a :: rest)) rfl (hsz.trans x4.symm) (Steps.refl _) (a := a) (argsL := argsL) (rest := rest) (lenOf hsig hlen) rfl (by show 2 * 0 + _ ≤ _; rw [hW]; omega) (hb x3 hd) (fun _ _ => ⟨has, x9, hc, hs⟩)
  dsimp only [Pt.U, Pt.locs, Pt.cells, Pt.slots] at SU z1 z2 z3 st hQ
  subst z1 z2 z3
  exact (k U _ v (X'.back N SU rfl hQ.2.1 hQ.2.2 hws) hQ.2.1 hQ.1).via st
theorem Here.virtual (X : Here p l e R s m args below meth c y bytes maxL ret Z h0 ws T cells slots h) {pc pc' : Nat} {Ls : Array Slot} {St : List Value} {i : Nat} {yr : MethodName} {C : String} {sig : MethodDescriptor} {a : Addr} {argsL rest : List Value} (hM : Ct l Z y' bytes' maxL' ret' rm as h ws' Q) (w1 : (Jvm.Cond.methodLink y.cls i yr).before a0 Z = true) (w5 : (Jvm.Cond.declares yr).before a0 Z = true) (nf : ∀ args, (Jvm.Cond.selects C yr y').before args s = true → NotFace s yr) (w6 : (Jvm.Cond.selects C yr y').before a0 Z = true) (w2 : (Jvm.Cond.instanceMethod y').before a0 Z = true) (w3 : (Jvm.Cond.initialized y'.cls).before a0 Z = true) (w4 : (Jvm.Cond.code y' bytes' maxL' ret').before a0 Z = true)
    (hy : yr.cls ≠ "java/lang/invoke/MethodHandle" ∧ yr.cls ≠ "java/lang/invoke/VarHandle") (E : Exa Z h a C) (hsig : parseMethodDescriptor yr.desc = some sig) (hlen : argsL.length = sig.parameters.length) (has : (.ref a :: argsL).toArray = as) (hst : St = argsL.reverse ++ .ref a :: rest) (hsz : Ls.size = maxL) (hd : decode bytes pc = .ok (.invokevirtual i, 3)) (hp : pc + 3 = pc')
    (hf : rm.frames + 1 ≤ R.frames) {W : Nat} (hW : (rest.map fun v => v.category).sum = W) (hl : W + (maxL' + 11) + rm.locals ≤ R.locals) (hc : cells + rm.cells ≤ R.cells) (hs : slots + rm.slots ≤ R.slots) (hws : ∀ x ∈ ws', x ∈ ws ∨ h0.size ≤ x)
    (k : ∀ T' h' v, Here p l e R s m args below meth c y bytes maxL ret Z h0 ws T' (cells + rm.cells) (slots + rm.slots) h' → Keep h h' ws' → Q v h' → Runs p e below (T'.setTop (mkF m pc' Ls (v.toList ++ rest))) G) : Runs p e below (T.setTop (mkF m pc Ls St)) G := by
  subst hp hst
  have X' := X
  obtain ⟨⟨x1, x2, x3, x4, x5, x6, x7, x8⟩, x9, x10, locs, S, N⟩ := X
  obtain ⟨cq, kq, q1, q2, q3⟩ := isOf (T := T) x2 x9 E
  obtain ⟨v, vm₁, ⟨U, lo, ce, sl⟩, -, SU, ⟨Lc, hQ, z1, z2, z3⟩, st⟩ := S.virtualBack x1 (y := yr) (z := y') x5 (mvT x2 w1) (mvT x2 w5) (nf args (mvT x2 w6)) (mvT x2 w6) (mvT x2 w2) hy (backCt X' hM w4 w3 hf hl) q1 q3 (g := mkF m pc Ls (argsL.reverse ++ .ref a :: rest)) rfl (hsz.trans x4.symm) (Steps.refl _) (argsL := argsL) (rest := rest) (lenOf hsig hlen) rfl (by show 2 * 0 + _ ≤ _; rw [hW]; omega) (hb x3 hd) (fun _ _ => ⟨has, x9, hc, hs⟩)
  dsimp only [Pt.U, Pt.locs, Pt.cells, Pt.slots] at SU z1 z2 z3 st hQ
  subst z1 z2 z3
  exact (k U _ v (X'.back N SU rfl hQ.2.1 hQ.2.2 hws) hQ.2.1 hQ.1).via st
theorem Here.priv (X : Here p l e R s m args below meth c y bytes maxL ret Z h0 ws T cells slots h) {pc pc' : Nat} {Ls : Array Slot} {St : List Value} {i : Nat} {C : String} {sig : MethodDescriptor} {a : Addr} {argsL rest : List Value} (hM : Ct l Z y' bytes' maxL' ret' rm as h ws' Q) (w1 : (Jvm.Cond.methodLink y.cls i y').before a0 Z = true) (w6 : (Jvm.Cond.selects y'.cls y' y').before a0 Z = true) (w7 : (Jvm.Cond.privateMethod y').before a0 Z = true) (w2 : (Jvm.Cond.instanceMethod y').before a0 Z = true) (w3 : (Jvm.Cond.initialized y'.cls).before a0 Z = true) (w4 : (Jvm.Cond.code y' bytes' maxL' ret').before a0 Z = true)
    (hy : y'.cls ≠ "java/lang/invoke/MethodHandle" ∧ y'.cls ≠ "java/lang/invoke/VarHandle") (E : Exa Z h a C) (hsig : parseMethodDescriptor y'.desc = some sig) (hlen : argsL.length = sig.parameters.length) (has : (.ref a :: argsL).toArray = as) (hst : St = argsL.reverse ++ .ref a :: rest) (hsz : Ls.size = maxL) (hd : decode bytes pc = .ok (.invokevirtual i, 3)) (hp : pc + 3 = pc')
    (hf : rm.frames + 1 ≤ R.frames) {W : Nat} (hW : (rest.map fun v => v.category).sum = W) (hl : W + (maxL' + 11) + rm.locals ≤ R.locals) (hc : cells + rm.cells ≤ R.cells) (hs : slots + rm.slots ≤ R.slots) (hws : ∀ x ∈ ws', x ∈ ws ∨ h0.size ≤ x)
    (k : ∀ T' h' v, Here p l e R s m args below meth c y bytes maxL ret Z h0 ws T' (cells + rm.cells) (slots + rm.slots) h' → Keep h h' ws' → Q v h' → Runs p e below (T'.setTop (mkF m pc' Ls (v.toList ++ rest))) G) : Runs p e below (T.setTop (mkF m pc Ls St)) G := by
  subst hp hst
  have X' := X
  obtain ⟨⟨x1, x2, x3, x4, x5, x6, x7, x8⟩, x9, x10, locs, S, N⟩ := X
  obtain ⟨cq, q1, q2⟩ := E.cell
  obtain ⟨v, vm₁, ⟨U, lo, ce, sl⟩, -, SU, ⟨Lc, hQ, z1, z2, z3⟩, st⟩ := S.privateBack x1 (y := y') x5 (mvT x2 w1) (mvT x2 w2) (mvT x2 w6) (Cond.privateMethod_at (mvP x2 w7 (args := #[]))) (mvT x2 w4) hy (backCt X' hM w4 w3 hf hl) (g := mkF m pc Ls (argsL.reverse ++ .ref a :: rest)) rfl (hsz.trans x4.symm) (Steps.refl _) (a := a) (by rw [x9]; exact q1) q2 (argsL := argsL) (rest := rest) (lenOf hsig hlen) rfl (by show 2 * 0 + _ ≤ _; rw [hW]; omega) (hb x3 hd) (fun _ _ => ⟨has, x9, hc, hs⟩)
  dsimp only [Pt.U, Pt.locs, Pt.cells, Pt.slots] at SU z1 z2 z3 st hQ
  subst z1 z2 z3
  exact (k U _ v (X'.back N SU rfl hQ.2.1 hQ.2.2 hws) hQ.2.1 hQ.1).via st

/-! the returns -/
theorem Here.leave (X : Here p l e R s m args below meth c y bytes maxL ret Z h0 ws T cells slots h) {Q : Option Value → Heap → Prop} {rm : Room} {g : JFrame} {v : Option Value} (hv : ret = none → v = none) (hc : cells ≤ rm.cells) (hs : slots ≤ rm.slots) (hq : Q v h)
    (st : ∀ locs fs, p.tables.exec = Jvm.exec → c.code = bytes → meth.sig.returnType = ret → Stand p l e R s m args below meth c T locs cells slots → (∀ (f : JFrame) (acts : List Action), f.method = m → f.locked = none → f.entered = [] → (doReturn e (T.setTop f) acts v).1 = T.setFrames fs) → Steps p.tables e below (T.setTop g) (T.setFrames fs)) :
    Runs p e below (T.setTop g) (Out s h0 ws rm Q) := by
  obtain ⟨⟨x1, x2, x3, x4, x5, x6, x7, x8⟩, x9, x10, locs, S, N⟩ := X
  obtain ⟨fs, hr, hrun, hended, hW, hsame⟩ := S.leave (v := v) (fun h => hv (x7 ▸ h)) x8
  refine ⟨_, _, st locs fs x1 x3 x7 S hr, hrun, hended, v, locs, rfl, ⟨?_, ?_, N⟩, ⟨_, rfl⟩, hW, hsame.mono hc hs⟩
  · show Q v T.heap; rw [x9]; exact hq
  · show Keep h0 T.heap ws; rw [x9]; exact x10
theorem Here.ireturn (X : Here p l e R s m args below meth c y bytes maxL ret Z h0 ws T cells slots h) {Q : Option Value → Heap → Prop} {rm : Room} {pc : Nat} {Ls : Array Slot} {St : List Value} {z : Int32} (hr : ret = some .int) (hd : decode bytes pc = .ok (.ireturn, 1)) (hc : cells ≤ rm.cells) (hs : slots ≤ rm.slots) (hq : Q (some (.int z)) h) : Runs p e below (T.setTop (mkF m pc Ls (.int z :: St))) (Out s h0 ws rm Q) := by
  subst hr
  exact X.leave (fun h => nomatch h) hc hs hq fun _ _ hx hb' hret S hl => retOut S hx hret rfl (Or.inl ⟨rfl, Or.inl rfl, _, rfl⟩) (hb hb' hd) hl
theorem Here.zreturn (X : Here p l e R s m args below meth c y bytes maxL ret Z h0 ws T cells slots h) {Q : Option Value → Heap → Prop} {rm : Room} {pc : Nat} {Ls : Array Slot} {St : List Value} {z z' : Int32} {t : FieldType} (hr : ret = some t) (ht : t = .boolean ∨ t = .byte ∨ t = .char ∨ t = .short) (hd : decode bytes pc = .ok (.ireturn, 1)) (hz : nar t z = z') (hc : cells ≤ rm.cells) (hs : slots ≤ rm.slots) (hq : Q (some (.int z')) h) : Runs p e below (T.setTop (mkF m pc Ls (.int z :: St))) (Out s h0 ws rm Q) := by
  subst hr hz
  exact X.leave (fun h => nomatch h) hc hs hq fun _ _ hx hb' hret S hl => retN S hx hret ht (hb hb' hd) hl
theorem Here.lreturn (X : Here p l e R s m args below meth c y bytes maxL ret Z h0 ws T cells slots h) {Q : Option Value → Heap → Prop} {rm : Room} {pc : Nat} {Ls : Array Slot} {St : List Value} {z : Int64} (hr : ret = some .long) (hd : decode bytes pc = .ok (.lreturn, 1)) (hc : cells ≤ rm.cells) (hs : slots ≤ rm.slots) (hq : Q (some (.long z)) h) : Runs p e below (T.setTop (mkF m pc Ls (.long z :: St))) (Out s h0 ws rm Q) := by
  subst hr
  exact X.leave (fun h => nomatch h) hc hs hq fun _ _ hx hb' hret S hl => retOut S hx hret rfl (Or.inr (Or.inl ⟨rfl, rfl, _, rfl⟩)) (hb hb' hd) hl
theorem Here.areturn (X : Here p l e R s m args below meth c y bytes maxL ret Z h0 ws T cells slots h) {Q : Option Value → Heap → Prop} {rm : Room} {pc : Nat} {Ls : Array Slot} {St : List Value} {v : Value} {t : FieldType} (hr : ret = some t) (ht : t.isReference = true) (hv : v.isRef = true) (hn : narrow t v = v) (hd : decode bytes pc = .ok (.areturn, 1)) (hc : cells ≤ rm.cells) (hs : slots ≤ rm.slots) (hq : Q (some v) h) : Runs p e below (T.setTop (mkF m pc Ls (v :: St))) (Out s h0 ws rm Q) := by
  subst hr
  exact X.leave (fun h => nomatch h) hc hs hq fun _ _ hx hb' hret S hl => retOut S hx hret hn (Or.inr (Or.inr (Or.inr (Or.inr ⟨rfl, ht, hv⟩)))) (hb hb' hd) hl
theorem Here.vreturn (X : Here p l e R s m args below meth c y bytes maxL ret Z h0 ws T cells slots h) {Q : Option Value → Heap → Prop} {rm : Room} {pc : Nat} {Ls : Array Slot} (hr : ret = none) (hd : decode bytes pc = .ok (.return_, 1)) (hc : cells ≤ rm.cells) (hs : slots ≤ rm.slots) (hq : Q none h) : Runs p e below (T.setTop (mkF m pc Ls [])) (Out s h0 ws rm Q) := by
  subst hr
  exact X.leave (fun _ => rfl) hc hs hq fun _ _ hx hb' hret S hl => S.returnOut hx hret (hb hb' hd) hl
end B
end Jvm.Own
namespace Jvm.Pilot.@@N@@
open Jvm Jvm.ClassFile Sem Op Lib Jvm.Free Jvm.Stand Jvm.LawKit Jvm.RoadKit Bundle Jvm.Own Jvm.Pilot.@@N@@.Jvm.D
abbrev y1 : MethodName := ⟨"com/example/corelith/corelith/diversity/QuotasBindPinLaw", "cat", "(II)I"⟩
abbrev y2 : MethodName := ⟨"com/example/corelith/corelith/diversity/Quotas", "<init>", "([II)V"⟩
abbrev y3 : MethodName := ⟨"java/lang/Record", "<init>", "()V"⟩
abbrev y4 : MethodName := ⟨"java/lang/Object", "<init>", "()V"⟩
abbrev y5 : MethodName := ⟨"com/example/corelith/corelith/diversity/Quotas", "mostKept", "([I)I"⟩
abbrev y6 : MethodName := ⟨"com/example/corelith/corelith/diversity/Quotas", "of", "(I)I"⟩
abbrev y7 : MethodName := ⟨"com/example/corelith/corelith/diversity/Quotas", "bind", "(I)Z"⟩
abbrev y8 : MethodName := ⟨"java/lang/Math", "min", "(II)I"⟩
abbrev y9 : MethodName := ⟨"java/lang/Math", "max", "(II)I"⟩
theorem pd_0 : parseMethodDescriptor "()V" = some ⟨[], none⟩ := by decide +kernel
theorem pd_1 : parseMethodDescriptor "(I)I" = some ⟨[.int], some .int⟩ := by decide +kernel
theorem pd_2 : parseMethodDescriptor "(II)I" = some ⟨[.int, .int], some .int⟩ := by decide +kernel
theorem pd_3 : parseMethodDescriptor "([II)V" = some ⟨[(.array .int), .int], none⟩ := by decide +kernel
theorem pd_4 : parseMethodDescriptor "([I)I" = some ⟨[(.array .int)], some .int⟩ := by decide +kernel
theorem pd_5 : parseMethodDescriptor "(I)Z" = some ⟨[.int], some .boolean⟩ := by decide +kernel
theorem wd_0 {a0 : Array Value} {Z : State} (hw : ∀ d ∈ tables_1, d.before a0 Z = true) : (Jvm.Cond.arrayClass Jvm.ClassFile.FieldType.int).before a0 Z = true := hw _ (List.mem_of_getElem? (i := 0) rfl)
theorem wd_1 {a0 : Array Value} {Z : State} (hw : ∀ d ∈ tables_1, d.before a0 Z = true) : (Jvm.Cond.methodLink "com/example/corelith/corelith/diversity/QuotasBindPinLaw" (13 : Nat) ({ cls := "com/example/corelith/corelith/diversity/QuotasBindPinLaw", name := "cat", desc := "(II)I" } : Jvm.MethodName)).before a0 Z = true := hw _ (List.mem_of_getElem? (i := 1) rfl)
theorem wd_2 {a0 : Array Value} {Z : State} (hw : ∀ d ∈ tables_1, d.before a0 Z = true) : (Jvm.Cond.static ({ cls := "com/example/corelith/corelith/diversity/QuotasBindPinLaw", name := "cat", desc := "(II)I" } : Jvm.MethodName)).before a0 Z = true := hw _ (List.mem_of_getElem? (i := 2) rfl)
theorem wd_3 {a0 : Array Value} {Z : State} (hw : ∀ d ∈ tables_1, d.before a0 Z = true) : (Jvm.Cond.initialized "com/example/corelith/corelith/diversity/QuotasBindPinLaw").before a0 Z = true := hw _ (List.mem_of_getElem? (i := 3) rfl)
theorem wd_4 {a0 : Array Value} {Z : State} (hw : ∀ d ∈ tables_1, d.before a0 Z = true) : (Jvm.Cond.code ({ cls := "com/example/corelith/corelith/diversity/QuotasBindPinLaw", name := "cat", desc := "(II)I" } : Jvm.MethodName) method_2_code (2 : Nat) (Option.some Jvm.ClassFile.FieldType.int)).before a0 Z = true := hw _ (List.mem_of_getElem? (i := 4) rfl)
theorem wd_5 {a0 : Array Value} {Z : State} (hw : ∀ d ∈ tables_1, d.before a0 Z = true) : (Jvm.Cond.classLink "com/example/corelith/corelith/diversity/QuotasBindPinLaw" (18 : Nat) "com/example/corelith/corelith/diversity/Quotas").before a0 Z = true := hw _ (List.mem_of_getElem? (i := 5) rfl)
theorem wd_6 {a0 : Array Value} {Z : State} (hw : ∀ d ∈ tables_1, d.before a0 Z = true) : (Jvm.Cond.instantiable "com/example/corelith/corelith/diversity/Quotas" (2 : Nat)).before a0 Z = true := hw _ (List.mem_of_getElem? (i := 6) rfl)
theorem wd_7 {a0 : Array Value} {Z : State} (hw : ∀ d ∈ tables_1, d.before a0 Z = true) : (Jvm.Cond.initialized "com/example/corelith/corelith/diversity/Quotas").before a0 Z = true := hw _ (List.mem_of_getElem? (i := 7) rfl)
theorem wd_8 {a0 : Array Value} {Z : State} (hw : ∀ d ∈ tables_1, d.before a0 Z = true) : (Jvm.Cond.methodLink "com/example/corelith/corelith/diversity/QuotasBindPinLaw" (20 : Nat) ({ cls := "com/example/corelith/corelith/diversity/Quotas", name := "<init>", desc := "([II)V" } : Jvm.MethodName)).before a0 Z = true := hw _ (List.mem_of_getElem? (i := 8) rfl)
theorem wd_9 {a0 : Array Value} {Z : State} (hw : ∀ d ∈ tables_1, d.before a0 Z = true) : (Jvm.Cond.instanceMethod ({ cls := "com/example/corelith/corelith/diversity/Quotas", name := "<init>", desc := "([II)V" } : Jvm.MethodName)).before a0 Z = true := hw _ (List.mem_of_getElem? (i := 9) rfl)
theorem wd_10 {a0 : Array Value} {Z : State} (hw : ∀ d ∈ tables_1, d.before a0 Z = true) : (Jvm.Cond.code ({ cls := "com/example/corelith/corelith/diversity/Quotas", name := "<init>", desc := "([II)V" } : Jvm.MethodName) prog_10_method_1_code (7 : Nat) (Option.none : Option Jvm.ClassFile.FieldType)).before a0 Z = true := hw _ (List.mem_of_getElem? (i := 10) rfl)
theorem wd_11 {a0 : Array Value} {Z : State} (hw : ∀ d ∈ tables_1, d.before a0 Z = true) : (Jvm.Cond.methodLink "com/example/corelith/corelith/diversity/Quotas" (1 : Nat) ({ cls := "java/lang/Record", name := "<init>", desc := "()V" } : Jvm.MethodName)).before a0 Z = true := hw _ (List.mem_of_getElem? (i := 11) rfl)
theorem wd_12 {a0 : Array Value} {Z : State} (hw : ∀ d ∈ tables_1, d.before a0 Z = true) : (Jvm.Cond.instanceMethod ({ cls := "java/lang/Record", name := "<init>", desc := "()V" } : Jvm.MethodName)).before a0 Z = true := hw _ (List.mem_of_getElem? (i := 12) rfl)
theorem wd_14 {a0 : Array Value} {Z : State} (hw : ∀ d ∈ tables_1, d.before a0 Z = true) : (Jvm.Cond.initialized "java/lang/Record").before a0 Z = true := hw _ (List.mem_of_getElem? (i := 14) rfl)
theorem wd_15 {a0 : Array Value} {Z : State} (hw : ∀ d ∈ tables_1, d.before a0 Z = true) : (Jvm.Cond.code ({ cls := "java/lang/Record", name := "<init>", desc := "()V" } : Jvm.MethodName) jdk_30_method_1_code (1 : Nat) (Option.none : Option Jvm.ClassFile.FieldType)).before a0 Z = true := hw _ (List.mem_of_getElem? (i := 15) rfl)
theorem wd_16 {a0 : Array Value} {Z : State} (hw : ∀ d ∈ tables_1, d.before a0 Z = true) : (Jvm.Cond.methodLink "java/lang/Record" (1 : Nat) ({ cls := "java/lang/Object", name := "<init>", desc := "()V" } : Jvm.MethodName)).before a0 Z = true := hw _ (List.mem_of_getElem? (i := 16) rfl)
theorem wd_17 {a0 : Array Value} {Z : State} (hw : ∀ d ∈ tables_1, d.before a0 Z = true) : (Jvm.Cond.instanceMethod ({ cls := "java/lang/Object", name := "<init>", desc := "()V" } : Jvm.MethodName)).before a0 Z = true := hw _ (List.mem_of_getElem? (i := 17) rfl)
theorem wd_18 {a0 : Array Value} {Z : State} (hw : ∀ d ∈ tables_1, d.before a0 Z = true) : (Jvm.Cond.code ({ cls := "java/lang/Object", name := "<init>", desc := "()V" } : Jvm.MethodName) object_method_1_code (1 : Nat) (Option.none : Option Jvm.ClassFile.FieldType)).before a0 Z = true := hw _ (List.mem_of_getElem? (i := 18) rfl)
theorem wd_19 {a0 : Array Value} {Z : State} (hw : ∀ d ∈ tables_1, d.before a0 Z = true) : (Jvm.Cond.fieldLink "com/example/corelith/corelith/diversity/Quotas" (19 : Nat) "com/example/corelith/corelith/diversity/Quotas" "categories" "[I").before a0 Z = true := hw _ (List.mem_of_getElem? (i := 19) rfl)
theorem wd_20 {a0 : Array Value} {Z : State} (hw : ∀ d ∈ tables_1, d.before a0 Z = true) : (Jvm.Cond.laysFinal "com/example/corelith/corelith/diversity/Quotas" "com/example/corelith/corelith/diversity/Quotas" "categories" "[I").before a0 Z = true := hw _ (List.mem_of_getElem? (i := 20) rfl)
theorem wd_21 {a0 : Array Value} {Z : State} (hw : ∀ d ∈ tables_1, d.before a0 Z = true) : (Jvm.Cond.fieldLink "com/example/corelith/corelith/diversity/Quotas" (25 : Nat) "com/example/corelith/corelith/diversity/Quotas" "capacity" "I").before a0 Z = true := hw _ (List.mem_of_getElem? (i := 21) rfl)
theorem wd_22 {a0 : Array Value} {Z : State} (hw : ∀ d ∈ tables_1, d.before a0 Z = true) : (Jvm.Cond.laysFinal "com/example/corelith/corelith/diversity/Quotas" "com/example/corelith/corelith/diversity/Quotas" "capacity" "I").before a0 Z = true := hw _ (List.mem_of_getElem? (i := 22) rfl)
theorem wd_23 {a0 : Array Value} {Z : State} (hw : ∀ d ∈ tables_1, d.before a0 Z = true) : (Jvm.Cond.methodLink "com/example/corelith/corelith/diversity/QuotasBindPinLaw" (23 : Nat) ({ cls := "com/example/corelith/corelith/diversity/Quotas", name := "mostKept", desc := "([I)I" } : Jvm.MethodName)).before a0 Z = true := hw _ (List.mem_of_getElem? (i := 23) rfl)
theorem wd_24 {a0 : Array Value} {Z : State} (hw : ∀ d ∈ tables_1, d.before a0 Z = true) : (Jvm.Cond.declares ({ cls := "com/example/corelith/corelith/diversity/Quotas", name := "mostKept", desc := "([I)I" } : Jvm.MethodName)).before a0 Z = true := hw _ (List.mem_of_getElem? (i := 24) rfl)
theorem wd_25 {a0 : Array Value} {Z : State} (hw : ∀ d ∈ tables_1, d.before a0 Z = true) : (Jvm.Cond.instanceMethod ({ cls := "com/example/corelith/corelith/diversity/Quotas", name := "mostKept", desc := "([I)I" } : Jvm.MethodName)).before a0 Z = true := hw _ (List.mem_of_getElem? (i := 25) rfl)
theorem wd_26 {a0 : Array Value} {Z : State} (hw : ∀ d ∈ tables_1, d.before a0 Z = true) : (Jvm.Cond.selects "com/example/corelith/corelith/diversity/Quotas" ({ cls := "com/example/corelith/corelith/diversity/Quotas", name := "mostKept", desc := "([I)I" } : Jvm.MethodName) ({ cls := "com/example/corelith/corelith/diversity/Quotas", name := "mostKept", desc := "([I)I" } : Jvm.MethodName)).before a0 Z = true := hw _ (List.mem_of_getElem? (i := 26) rfl)
theorem wd_27 {a0 : Array Value} {Z : State} (hw : ∀ d ∈ tables_1, d.before a0 Z = true) : (Jvm.Cond.code ({ cls := "com/example/corelith/corelith/diversity/Quotas", name := "mostKept", desc := "([I)I" } : Jvm.MethodName) prog_10_method_6_code (8 : Nat) (Option.some Jvm.ClassFile.FieldType.int)).before a0 Z = true := hw _ (List.mem_of_getElem? (i := 27) rfl)
theorem wd_28 {a0 : Array Value} {Z : State} (hw : ∀ d ∈ tables_1, d.before a0 Z = true) : (Jvm.Cond.methodLink "com/example/corelith/corelith/diversity/Quotas" (36 : Nat) ({ cls := "com/example/corelith/corelith/diversity/Quotas", name := "of", desc := "(I)I" } : Jvm.MethodName)).before a0 Z = true := hw _ (List.mem_of_getElem? (i := 28) rfl)
theorem wd_29 {a0 : Array Value} {Z : State} (hw : ∀ d ∈ tables_1, d.before a0 Z = true) : (Jvm.Cond.declares ({ cls := "com/example/corelith/corelith/diversity/Quotas", name := "of", desc := "(I)I" } : Jvm.MethodName)).before a0 Z = true := hw _ (List.mem_of_getElem? (i := 29) rfl)
theorem wd_30 {a0 : Array Value} {Z : State} (hw : ∀ d ∈ tables_1, d.before a0 Z = true) : (Jvm.Cond.instanceMethod ({ cls := "com/example/corelith/corelith/diversity/Quotas", name := "of", desc := "(I)I" } : Jvm.MethodName)).before a0 Z = true := hw _ (List.mem_of_getElem? (i := 30) rfl)
theorem wd_31 {a0 : Array Value} {Z : State} (hw : ∀ d ∈ tables_1, d.before a0 Z = true) : (Jvm.Cond.selects "com/example/corelith/corelith/diversity/Quotas" ({ cls := "com/example/corelith/corelith/diversity/Quotas", name := "of", desc := "(I)I" } : Jvm.MethodName) ({ cls := "com/example/corelith/corelith/diversity/Quotas", name := "of", desc := "(I)I" } : Jvm.MethodName)).before a0 Z = true := hw _ (List.mem_of_getElem? (i := 31) rfl)
theorem wd_32 {a0 : Array Value} {Z : State} (hw : ∀ d ∈ tables_1, d.before a0 Z = true) : (Jvm.Cond.code ({ cls := "com/example/corelith/corelith/diversity/Quotas", name := "of", desc := "(I)I" } : Jvm.MethodName) prog_10_method_4_code (2 : Nat) (Option.some Jvm.ClassFile.FieldType.int)).before a0 Z = true := hw _ (List.mem_of_getElem? (i := 32) rfl)
theorem wd_33 {a0 : Array Value} {Z : State} (hw : ∀ d ∈ tables_1, d.before a0 Z = true) : (Jvm.Cond.methodLink "com/example/corelith/corelith/diversity/QuotasBindPinLaw" (27 : Nat) ({ cls := "com/example/corelith/corelith/diversity/Quotas", name := "bind", desc := "(I)Z" } : Jvm.MethodName)).before a0 Z = true := hw _ (List.mem_of_getElem? (i := 33) rfl)
theorem wd_34 {a0 : Array Value} {Z : State} (hw : ∀ d ∈ tables_1, d.before a0 Z = true) : (Jvm.Cond.declares ({ cls := "com/example/corelith/corelith/diversity/Quotas", name := "bind", desc := "(I)Z" } : Jvm.MethodName)).before a0 Z = true := hw _ (List.mem_of_getElem? (i := 34) rfl)
theorem wd_35 {a0 : Array Value} {Z : State} (hw : ∀ d ∈ tables_1, d.before a0 Z = true) : (Jvm.Cond.instanceMethod ({ cls := "com/example/corelith/corelith/diversity/Quotas", name := "bind", desc := "(I)Z" } : Jvm.MethodName)).before a0 Z = true := hw _ (List.mem_of_getElem? (i := 35) rfl)
theorem wd_36 {a0 : Array Value} {Z : State} (hw : ∀ d ∈ tables_1, d.before a0 Z = true) : (Jvm.Cond.selects "com/example/corelith/corelith/diversity/Quotas" ({ cls := "com/example/corelith/corelith/diversity/Quotas", name := "bind", desc := "(I)Z" } : Jvm.MethodName) ({ cls := "com/example/corelith/corelith/diversity/Quotas", name := "bind", desc := "(I)Z" } : Jvm.MethodName)).before a0 Z = true := hw _ (List.mem_of_getElem? (i := 36) rfl)
theorem wd_37 {a0 : Array Value} {Z : State} (hw : ∀ d ∈ tables_1, d.before a0 Z = true) : (Jvm.Cond.code ({ cls := "com/example/corelith/corelith/diversity/Quotas", name := "bind", desc := "(I)Z" } : Jvm.MethodName) prog_10_method_5_code (2 : Nat) (Option.some Jvm.ClassFile.FieldType.boolean)).before a0 Z = true := hw _ (List.mem_of_getElem? (i := 37) rfl)
theorem wd_38 {a0 : Array Value} {Z : State} (hw : ∀ d ∈ tables_1, d.before a0 Z = true) : (Jvm.Cond.constant "com/example/corelith/corelith/diversity/QuotasBindPinLaw" (33 : Nat) (2147483647 : Int32)).before a0 Z = true := hw _ (List.mem_of_getElem? (i := 38) rfl)
theorem wd_39 {a0 : Array Value} {Z : State} (hw : ∀ d ∈ tables_1, d.before a0 Z = true) : (Jvm.Cond.methodLink "com/example/corelith/corelith/diversity/QuotasBindPinLaw" (34 : Nat) ({ cls := "java/lang/Math", name := "min", desc := "(II)I" } : Jvm.MethodName)).before a0 Z = true := hw _ (List.mem_of_getElem? (i := 39) rfl)
theorem wd_40 {a0 : Array Value} {Z : State} (hw : ∀ d ∈ tables_1, d.before a0 Z = true) : (Jvm.Cond.static ({ cls := "java/lang/Math", name := "min", desc := "(II)I" } : Jvm.MethodName)).before a0 Z = true := hw _ (List.mem_of_getElem? (i := 40) rfl)
theorem wd_41 {a0 : Array Value} {Z : State} (hw : ∀ d ∈ tables_1, d.before a0 Z = true) : (Jvm.Cond.initialized "java/lang/Math").before a0 Z = true := hw _ (List.mem_of_getElem? (i := 41) rfl)
theorem wd_42 {a0 : Array Value} {Z : State} (hw : ∀ d ∈ tables_1, d.before a0 Z = true) : (Jvm.Cond.code ({ cls := "java/lang/Math", name := "min", desc := "(II)I" } : Jvm.MethodName) jdk_29_method_69_code (2 : Nat) (Option.some Jvm.ClassFile.FieldType.int)).before a0 Z = true := hw _ (List.mem_of_getElem? (i := 42) rfl)
theorem wd_43 {a0 : Array Value} {Z : State} (hw : ∀ d ∈ tables_1, d.before a0 Z = true) : (Jvm.Cond.methodLink "com/example/corelith/corelith/diversity/QuotasBindPinLaw" (7 : Nat) ({ cls := "java/lang/Math", name := "max", desc := "(II)I" } : Jvm.MethodName)).before a0 Z = true := hw _ (List.mem_of_getElem? (i := 43) rfl)
theorem wd_44 {a0 : Array Value} {Z : State} (hw : ∀ d ∈ tables_1, d.before a0 Z = true) : (Jvm.Cond.static ({ cls := "java/lang/Math", name := "max", desc := "(II)I" } : Jvm.MethodName)).before a0 Z = true := hw _ (List.mem_of_getElem? (i := 44) rfl)
theorem wd_45 {a0 : Array Value} {Z : State} (hw : ∀ d ∈ tables_1, d.before a0 Z = true) : (Jvm.Cond.code ({ cls := "java/lang/Math", name := "max", desc := "(II)I" } : Jvm.MethodName) jdk_29_method_65_code (2 : Nat) (Option.some Jvm.ClassFile.FieldType.int)).before a0 Z = true := hw _ (List.mem_of_getElem? (i := 45) rfl)
theorem d1_0 : decode method_2_code 0 = .ok (.iload_n 0, 1) := by decide +kernel
theorem d1_1 : decode method_2_code 1 = .ok (.iload_n 1, 1) := by decide +kernel
theorem d1_2 : decode method_2_code 2 = .ok (.if_icmp .ge 7, 3) := by decide +kernel
theorem d1_5 : decode method_2_code 5 = .ok (.iconst 0, 1) := by decide +kernel
theorem d1_6 : decode method_2_code 6 = .ok (.goto 8, 3) := by decide +kernel
theorem d1_9 : decode method_2_code 9 = .ok (.iload_n 0, 1) := by decide +kernel
theorem d1_10 : decode method_2_code 10 = .ok (.iload_n 1, 1) := by decide +kernel
theorem d1_11 : decode method_2_code 11 = .ok (.isub, 1) := by decide +kernel
theorem d1_12 : decode method_2_code 12 = .ok (.iconst 1, 1) := by decide +kernel
theorem d1_13 : decode method_2_code 13 = .ok (.iadd, 1) := by decide +kernel
theorem d1_14 : decode method_2_code 14 = .ok (.ireturn, 1) := by decide +kernel
theorem d2_0 : decode prog_10_method_1_code 0 = .ok (.aload_n 0, 1) := by decide +kernel
theorem d2_1 : decode prog_10_method_1_code 1 = .ok (.invokespecial 1, 3) := by decide +kernel
theorem d2_4 : decode prog_10_method_1_code 4 = .ok (.iload_n 2, 1) := by decide +kernel
theorem d2_5 : decode prog_10_method_1_code 5 = .ok (.iconst 1, 1) := by decide +kernel
theorem d2_6 : decode prog_10_method_1_code 6 = .ok (.if_icmp .ge 17, 3) := by decide +kernel
theorem d2_23 : decode prog_10_method_1_code 23 = .ok (.aload_n 1, 1) := by decide +kernel
theorem d2_24 : decode prog_10_method_1_code 24 = .ok (.astore_n 3, 1) := by decide +kernel
theorem d2_25 : decode prog_10_method_1_code 25 = .ok (.aload_n 3, 1) := by decide +kernel
theorem d2_26 : decode prog_10_method_1_code 26 = .ok (.arraylength, 1) := by decide +kernel
theorem d2_27 : decode prog_10_method_1_code 27 = .ok (.istore 4, 2) := by decide +kernel
theorem d2_29 : decode prog_10_method_1_code 29 = .ok (.iconst 0, 1) := by decide +kernel
theorem d2_30 : decode prog_10_method_1_code 30 = .ok (.istore 5, 2) := by decide +kernel
theorem d2_32 : decode prog_10_method_1_code 32 = .ok (.iload 5, 2) := by decide +kernel
theorem d2_34 : decode prog_10_method_1_code 34 = .ok (.iload 4, 2) := by decide +kernel
theorem d2_36 : decode prog_10_method_1_code 36 = .ok (.if_icmp .ge 46, 3) := by decide +kernel
theorem d2_39 : decode prog_10_method_1_code 39 = .ok (.aload_n 3, 1) := by decide +kernel
theorem d2_40 : decode prog_10_method_1_code 40 = .ok (.iload 5, 2) := by decide +kernel
theorem d2_42 : decode prog_10_method_1_code 42 = .ok (.iaload, 1) := by decide +kernel
theorem d2_43 : decode prog_10_method_1_code 43 = .ok (.istore 6, 2) := by decide +kernel
theorem d2_45 : decode prog_10_method_1_code 45 = .ok (.iload 6, 2) := by decide +kernel
theorem d2_47 : decode prog_10_method_1_code 47 = .ok (.ifCond .lt 10, 3) := by decide +kernel
theorem d2_50 : decode prog_10_method_1_code 50 = .ok (.iload 6, 2) := by decide +kernel
theorem d2_52 : decode prog_10_method_1_code 52 = .ok (.aload_n 1, 1) := by decide +kernel
theorem d2_53 : decode prog_10_method_1_code 53 = .ok (.arraylength, 1) := by decide +kernel
theorem d2_54 : decode prog_10_method_1_code 54 = .ok (.if_icmp .lt 22, 3) := by decide +kernel
theorem d2_76 : decode prog_10_method_1_code 76 = .ok (.iinc 5 1, 3) := by decide +kernel
theorem d2_79 : decode prog_10_method_1_code 79 = .ok (.goto (-47), 3) := by decide +kernel
theorem d2_82 : decode prog_10_method_1_code 82 = .ok (.aload_n 0, 1) := by decide +kernel
theorem d2_83 : decode prog_10_method_1_code 83 = .ok (.aload_n 1, 1) := by decide +kernel
theorem d2_84 : decode prog_10_method_1_code 84 = .ok (.putfield 19, 3) := by decide +kernel
theorem d2_87 : decode prog_10_method_1_code 87 = .ok (.aload_n 0, 1) := by decide +kernel
theorem d2_88 : decode prog_10_method_1_code 88 = .ok (.iload_n 2, 1) := by decide +kernel
theorem d2_89 : decode prog_10_method_1_code 89 = .ok (.putfield 25, 3) := by decide +kernel
theorem d2_92 : decode prog_10_method_1_code 92 = .ok (.return_, 1) := by decide +kernel
theorem d3_0 : decode jdk_30_method_1_code 0 = .ok (.aload_n 0, 1) := by decide +kernel
theorem d3_1 : decode jdk_30_method_1_code 1 = .ok (.invokespecial 1, 3) := by decide +kernel
theorem d3_4 : decode jdk_30_method_1_code 4 = .ok (.return_, 1) := by decide +kernel
theorem d5_0 : decode prog_10_method_6_code 0 = .ok (.aload_n 0, 1) := by decide +kernel
theorem d5_1 : decode prog_10_method_6_code 1 = .ok (.getfield 19, 3) := by decide +kernel
theorem d5_4 : decode prog_10_method_6_code 4 = .ok (.arraylength, 1) := by decide +kernel
theorem d5_5 : decode prog_10_method_6_code 5 = .ok (.newarray .int, 2) := by decide +kernel
theorem d5_7 : decode prog_10_method_6_code 7 = .ok (.astore_n 2, 1) := by decide +kernel
theorem d5_8 : decode prog_10_method_6_code 8 = .ok (.iconst 0, 1) := by decide +kernel
theorem d5_9 : decode prog_10_method_6_code 9 = .ok (.istore_n 3, 1) := by decide +kernel
theorem d5_10 : decode prog_10_method_6_code 10 = .ok (.aload_n 1, 1) := by decide +kernel
theorem d5_11 : decode prog_10_method_6_code 11 = .ok (.astore 4, 2) := by decide +kernel
theorem d5_13 : decode prog_10_method_6_code 13 = .ok (.aload 4, 2) := by decide +kernel
theorem d5_15 : decode prog_10_method_6_code 15 = .ok (.arraylength, 1) := by decide +kernel
theorem d5_16 : decode prog_10_method_6_code 16 = .ok (.istore 5, 2) := by decide +kernel
theorem d5_18 : decode prog_10_method_6_code 18 = .ok (.iconst 0, 1) := by decide +kernel
theorem d5_19 : decode prog_10_method_6_code 19 = .ok (.istore 6, 2) := by decide +kernel
theorem d5_21 : decode prog_10_method_6_code 21 = .ok (.iload 6, 2) := by decide +kernel
theorem d5_23 : decode prog_10_method_6_code 23 = .ok (.iload 5, 2) := by decide +kernel
theorem d5_25 : decode prog_10_method_6_code 25 = .ok (.if_icmp .ge 46, 3) := by decide +kernel
theorem d5_28 : decode prog_10_method_6_code 28 = .ok (.aload 4, 2) := by decide +kernel
theorem d5_30 : decode prog_10_method_6_code 30 = .ok (.iload 6, 2) := by decide +kernel
theorem d5_32 : decode prog_10_method_6_code 32 = .ok (.iaload, 1) := by decide +kernel
theorem d5_33 : decode prog_10_method_6_code 33 = .ok (.istore 7, 2) := by decide +kernel
theorem d5_35 : decode prog_10_method_6_code 35 = .ok (.aload_n 2, 1) := by decide +kernel
theorem d5_36 : decode prog_10_method_6_code 36 = .ok (.aload_n 0, 1) := by decide +kernel
theorem d5_37 : decode prog_10_method_6_code 37 = .ok (.iload 7, 2) := by decide +kernel
theorem d5_39 : decode prog_10_method_6_code 39 = .ok (.invokevirtual 36, 3) := by decide +kernel
theorem d5_42 : decode prog_10_method_6_code 42 = .ok (.iaload, 1) := by decide +kernel
theorem d5_43 : decode prog_10_method_6_code 43 = .ok (.aload_n 0, 1) := by decide +kernel
theorem d5_44 : decode prog_10_method_6_code 44 = .ok (.getfield 25, 3) := by decide +kernel
theorem d5_47 : decode prog_10_method_6_code 47 = .ok (.if_icmp .ge 18, 3) := by decide +kernel
theorem d5_50 : decode prog_10_method_6_code 50 = .ok (.aload_n 2, 1) := by decide +kernel
theorem d5_51 : decode prog_10_method_6_code 51 = .ok (.aload_n 0, 1) := by decide +kernel
theorem d5_52 : decode prog_10_method_6_code 52 = .ok (.iload 7, 2) := by decide +kernel
theorem d5_54 : decode prog_10_method_6_code 54 = .ok (.invokevirtual 36, 3) := by decide +kernel
theorem d5_57 : decode prog_10_method_6_code 57 = .ok (.dup2, 1) := by decide +kernel
theorem d5_58 : decode prog_10_method_6_code 58 = .ok (.iaload, 1) := by decide +kernel
theorem d5_59 : decode prog_10_method_6_code 59 = .ok (.iconst 1, 1) := by decide +kernel
theorem d5_60 : decode prog_10_method_6_code 60 = .ok (.iadd, 1) := by decide +kernel
theorem d5_61 : decode prog_10_method_6_code 61 = .ok (.iastore, 1) := by decide +kernel
theorem d5_62 : decode prog_10_method_6_code 62 = .ok (.iinc 3 1, 3) := by decide +kernel
theorem d5_65 : decode prog_10_method_6_code 65 = .ok (.iinc 6 1, 3) := by decide +kernel
theorem d5_68 : decode prog_10_method_6_code 68 = .ok (.goto (-47), 3) := by decide +kernel
theorem d5_71 : decode prog_10_method_6_code 71 = .ok (.iload_n 3, 1) := by decide +kernel
theorem d5_72 : decode prog_10_method_6_code 72 = .ok (.ireturn, 1) := by decide +kernel
theorem d6_0 : decode prog_10_method_4_code 0 = .ok (.aload_n 0, 1) := by decide +kernel
theorem d6_1 : decode prog_10_method_4_code 1 = .ok (.getfield 19, 3) := by decide +kernel
theorem d6_4 : decode prog_10_method_4_code 4 = .ok (.iload_n 1, 1) := by decide +kernel
theorem d6_5 : decode prog_10_method_4_code 5 = .ok (.iaload, 1) := by decide +kernel
theorem d6_6 : decode prog_10_method_4_code 6 = .ok (.ireturn, 1) := by decide +kernel
theorem d7_0 : decode prog_10_method_5_code 0 = .ok (.aload_n 0, 1) := by decide +kernel
theorem d7_1 : decode prog_10_method_5_code 1 = .ok (.getfield 25, 3) := by decide +kernel
theorem d7_4 : decode prog_10_method_5_code 4 = .ok (.iload_n 1, 1) := by decide +kernel
theorem d7_5 : decode prog_10_method_5_code 5 = .ok (.if_icmp .ge 7, 3) := by decide +kernel
theorem d7_8 : decode prog_10_method_5_code 8 = .ok (.iconst 1, 1) := by decide +kernel
theorem d7_9 : decode prog_10_method_5_code 9 = .ok (.goto 4, 3) := by decide +kernel
theorem d7_12 : decode prog_10_method_5_code 12 = .ok (.iconst 0, 1) := by decide +kernel
theorem d7_13 : decode prog_10_method_5_code 13 = .ok (.ireturn, 1) := by decide +kernel
theorem d8_0 : decode jdk_29_method_69_code 0 = .ok (.iload_n 0, 1) := by decide +kernel
theorem d8_1 : decode jdk_29_method_69_code 1 = .ok (.iload_n 1, 1) := by decide +kernel
theorem d8_2 : decode jdk_29_method_69_code 2 = .ok (.if_icmp .gt 7, 3) := by decide +kernel
theorem d8_5 : decode jdk_29_method_69_code 5 = .ok (.iload_n 0, 1) := by decide +kernel
theorem d8_6 : decode jdk_29_method_69_code 6 = .ok (.goto 4, 3) := by decide +kernel
theorem d8_9 : decode jdk_29_method_69_code 9 = .ok (.iload_n 1, 1) := by decide +kernel
theorem d8_10 : decode jdk_29_method_69_code 10 = .ok (.ireturn, 1) := by decide +kernel
theorem d9_0 : decode jdk_29_method_65_code 0 = .ok (.iload_n 0, 1) := by decide +kernel
theorem d9_1 : decode jdk_29_method_65_code 1 = .ok (.iload_n 1, 1) := by decide +kernel
theorem d9_2 : decode jdk_29_method_65_code 2 = .ok (.if_icmp .lt 7, 3) := by decide +kernel
theorem d9_5 : decode jdk_29_method_65_code 5 = .ok (.iload_n 0, 1) := by decide +kernel
theorem d9_6 : decode jdk_29_method_65_code 6 = .ok (.goto 4, 3) := by decide +kernel
theorem d9_9 : decode jdk_29_method_65_code 9 = .ok (.iload_n 1, 1) := by decide +kernel
theorem d9_10 : decode jdk_29_method_65_code 10 = .ok (.ireturn, 1) := by decide +kernel
theorem own_irr (x : Int32) : ¬ x < x := by rw [Int32.lt_iff_toInt_lt]; omega
theorem own_l1 {cap r m t : Int32} (h1 : ¬ t < cap) (hr : r < (8 : Int32)) (htm : t < m) : r < (8 : Int32) ↔ cap < m := by
  refine ⟨fun _ => ?_, fun _ => hr⟩
  rw [Int32.lt_iff_toInt_lt] at *; omega
theorem own_l2 {cap r m t : Int32} (h1 : t < cap) (hr : ¬ r < (8 : Int32)) (htm : m.toInt = t.toInt + 1) : r < (8 : Int32) ↔ cap < m := by
  refine ⟨fun h => absurd h hr, fun h => ?_⟩
  rw [Int32.lt_iff_toInt_lt] at *; omega
def own_min (a b : Int32) : Int32 := if b < a then b else a
def own_max (a b : Int32) : Int32 := if a < b then b else a
theorem own_mm {a b x : Int32} (h : x < own_min a b) : x < own_max a b := by
  unfold own_min at h; unfold own_max
  split at h <;> split <;> rw [Int32.lt_iff_toInt_lt] at * <;> omega
theorem own_max1 (q : Int32) : ¬ own_max (1 : Int32) q < (1 : Int32) := by
  unfold own_max
  split
  · rename_i h; rw [Int32.lt_iff_toInt_lt] at *; omega
  · decide
theorem own_cap1 (q : Int32) : ¬ ((1 : Int32) + (q &&& (7 : Int32))) < (1 : Int32) := by
  have h := c_mask q (7 : Int32) 3 (by decide) (by decide)
  have e := c_iadd (1 : Int32) (q &&& (7 : Int32))
  have r := rng32 ((1 : Int32) + (q &&& (7 : Int32)))
  have e1 : (1 : Int32).toInt = 1 := rfl
  rw [Int32.lt_iff_toInt_lt]; omega
theorem own_m8 (q : Int32) : ∀ z, z = ((1 : Int32) + (q &&& (7 : Int32))) → z = (1 : Int32) ∨ z = (2 : Int32) ∨ z = (3 : Int32) ∨ z = (4 : Int32) ∨ z = (5 : Int32) ∨ z = (6 : Int32) ∨ z = (7 : Int32) ∨ z = (8 : Int32) := by
  intro z hz
  have h := c_mask q (7 : Int32) 3 (by decide) (by decide)
  have e := c_iadd (1 : Int32) (q &&& (7 : Int32))
  have r := rng32 ((1 : Int32) + (q &&& (7 : Int32)))
  have e1 : (1 : Int32).toInt = 1 := rfl
  rw [← hz] at e r
  have : z.toInt = 1 ∨ z.toInt = 2 ∨ z.toInt = 3 ∨ z.toInt = 4 ∨ z.toInt = 5 ∨ z.toInt = 6 ∨ z.toInt = 7 ∨ z.toInt = 8 := by omega
  rcases this with h | h | h | h | h | h | h | h <;> simp [← Int32.toInt_inj, h]
theorem own_succ {x : Int32} (h : x < (2147483647 : Int32)) : x < x + (1 : Int32) := by
  have e := c_iadd x (1 : Int32)
  have r := rng32 (x + (1 : Int32))
  have r2 := rng32 x
  have e1 : (1 : Int32).toInt = 1 := rfl
  have e2 : (2147483647 : Int32).toInt = 2147483647 := rfl
  rw [Int32.lt_iff_toInt_lt] at *; omega
def own_tn (n : Nat) (v : Nat → Int32) : List Value := (List.range n).map fun t => .int (v t)
theorem own_tn_len (n : Nat) (v : Nat → Int32) : (own_tn n v).length = n := by simp [own_tn]
theorem own_tn_get {n : Nat} (v : Nat → Int32) {t : Nat} (h : t < n) : (own_tn n v)[t]? = some (.int (v t)) := by simp [own_tn, List.getElem?_range h]
theorem own_tn_at {n : Nat} {v : Nat → Int32} {z : Int32} {j : Nat} (hz : z.toInt.toNat = j) (hj : j < n) : (own_tn n v)[z.toInt.toNat]? = some (.int (v j)) := by rw [hz]; exact own_tn_get v hj
theorem own_i32 {n : Nat} (h : n < 2147483648) : n.toInt32.toInt = (n : Int) := by
  have : n.toInt32 = Int32.ofNat n := rfl
  rw [this]; exact Int32.toInt_ofNat_of_lt (by simpa using h)
theorem own_il {n : Nat} {v : Nat → Int32} {z : Int32} {j : Nat} (hz : z.toInt = (j : Int)) (hj : j < n) : Inb z (own_tn n v).length := by rw [own_tn_len]; exact ⟨by omega, by omega⟩
theorem own_ilt {z : Int32} {j : Nat} (hz : z.toInt = (j : Int)) : z.toInt.toNat = j := by omega
theorem own_inc (k : Nat) : k.toInt32 + (1 : Int32) = (k + 1).toInt32 := by
  show Int32.ofNat k + 1 = Int32.ofNat (k + 1)
  rw [Int32.ofNat_add]; rfl
theorem own_dec {k : Nat} (h : 0 < k) (h2 : k < 2147483648) : (k.toInt32 - (1 : Int32)).toInt = ((k - 1 : Nat) : Int) := by
  have e := c_isub k.toInt32 (1 : Int32)
  have e1 := own_i32 h2
  have e2 : (1 : Int32).toInt = 1 := rfl
  have r := rng32 (k.toInt32 - (1 : Int32))
  omega
theorem own_lt32 {i n : Nat} (hi : i < 2147483648) (hn : n < 2147483648) : i.toInt32 < n.toInt32 ↔ i < n := by
  rw [Int32.lt_iff_toInt_lt, own_i32 hi, own_i32 hn]; omega
def own_upd {α : Type} (f : Nat → α) (s : Nat) (a : α) : Nat → α := fun t => if t = s then a else f t
theorem own_tn_upd {n : Nat} (v : Nat → Int32) (i : Nat) (x : Int32) : (own_tn n v).set i (.int x) = own_tn n (own_upd v i x) := by
  apply List.ext_getElem?
  intro j
  by_cases hj : j < n
  · rw [own_tn_get _ hj, List.getElem?_set]
    by_cases ht : i = j
    · subst ht; simp [own_tn_len, hj, own_upd]
    · rw [if_neg ht, own_tn_get _ hj]; simp [own_upd, Ne.symm ht]
  · rw [List.getElem?_eq_none (by simp [own_tn_len]; omega), List.getElem?_eq_none (by simp [own_tn_len]; omega)]
def own_cat (i m : Int32) : Int32 := if i < m then (0 : Int32) else ((i - m) + (1 : Int32))
def own_qs (cap : Int32) (C : Nat → Int32) : Nat → (Nat → Int32) × Int32
  | 0 => (fun _ => 0, 0)
  | i + 1 => if (own_qs cap C i).1 (C i).toInt.toNat < cap then (own_upd (own_qs cap C i).1 (C i).toInt.toNat ((own_qs cap C i).1 (C i).toInt.toNat + (1 : Int32)), (own_qs cap C i).2 + (1 : Int32)) else own_qs cap C i
def own_cz (z : Int32) (t : Nat) : Int32 := own_cat t.toInt32 z
theorem own_czv {z : Int32} {m : Nat} (hz : z.toInt = (m : Int)) (hm : 1 ≤ m ∧ m ≤ 8) {i : Nat} (hi : i < 8) : (own_cz z i).toInt = if i < m then 0 else (i : Int) - m + 1 := by
  unfold own_cz own_cat
  have e := own_i32 (n := i) (by omega)
  by_cases h : i < m
  · rw [if_pos (by rw [Int32.lt_iff_toInt_lt]; omega), if_pos h]; rfl
  · rw [if_neg (by rw [Int32.lt_iff_toInt_lt]; omega), if_neg h]
    have e1 := c_isub i.toInt32 z
    have e2 := c_iadd (i.toInt32 - z) (1 : Int32)
    have r1 := rng32 (i.toInt32 - z)
    have r2 := rng32 (i.toInt32 - z + (1 : Int32))
    have e3 : (1 : Int32).toInt = 1 := rfl
    omega
theorem own_qi {z cap : Int32} {m : Nat} (hz : z.toInt = (m : Int)) (hm : 1 ≤ m ∧ m ≤ 8) (hc : 1 ≤ cap.toInt) : ∀ i, i ≤ 8 →
    ((own_qs cap (own_cz z) i).1 0).toInt = min (min (i : Int) m) cap.toInt ∧ (∀ c : Nat, 1 ≤ c → (i : Int) - m < (c : Int) → (own_qs cap (own_cz z) i).1 c = 0) ∧ (own_qs cap (own_cz z) i).2.toInt = min (min (i : Int) m) cap.toInt + max 0 ((i : Int) - m)
  | 0, _ => by
    refine ⟨?_, fun c _ _ => rfl, ?_⟩
    · show (0 : Int32).toInt = _
      have : (0 : Int32).toInt = 0 := rfl
      omega
    · show (0 : Int32).toInt = _
      have : (0 : Int32).toInt = 0 := rfl
      omega
  | i + 1, hi => by
    obtain ⟨h1, h2, h3⟩ := own_qi hz hm hc i (by omega)
    have hv := own_czv hz hm (i := i) (by omega)
    have e3 : (1 : Int32).toInt = 1 := rfl
    have a1 := c_iadd (own_qs cap (own_cz z) i).2 (1 : Int32)
    have a2 := rng32 ((own_qs cap (own_cz z) i).2 + (1 : Int32))
    by_cases him : i < m
    · rw [if_pos him] at hv
      have e0 : (own_cz z i).toInt.toNat = 0 := by omega
      have b1 := c_iadd ((own_qs cap (own_cz z) i).1 0) (1 : Int32)
      have b2 := rng32 ((own_qs cap (own_cz z) i).1 0 + (1 : Int32))
      by_cases hg : (own_qs cap (own_cz z) i).1 0 < cap
      · have e : own_qs cap (own_cz z) (i + 1) = (own_upd (own_qs cap (own_cz z) i).1 0 ((own_qs cap (own_cz z) i).1 0 + (1 : Int32)), (own_qs cap (own_cz z) i).2 + (1 : Int32)) := by
          rw [own_qs, e0, if_pos hg]
        rw [Int32.lt_iff_toInt_lt] at hg
        rw [e]
        refine ⟨?_, fun c hc1 hc2 => ?_, ?_⟩
        · simp only [own_upd, if_true]; omega
        · simp only [own_upd, if_neg (by omega : ¬ c = 0)]; exact h2 c hc1 (by omega)
        · simp only []; omega
      · have e : own_qs cap (own_cz z) (i + 1) = own_qs cap (own_cz z) i := by
          rw [own_qs, e0, if_neg hg]
        rw [Int32.lt_iff_toInt_lt] at hg
        rw [e]
        exact ⟨by omega, fun c hc1 hc2 => h2 c hc1 (by omega), by omega⟩
    · rw [if_neg him] at hv
      obtain ⟨c0, hc0⟩ : ∃ c0, c0 = (own_cz z i).toInt.toNat := ⟨_, rfl⟩
      have hz0 := h2 c0 (by omega) (by omega)
      have hg : (own_qs cap (own_cz z) i).1 c0 < cap := by
        rw [hz0, Int32.lt_iff_toInt_lt]
        have : (0 : Int32).toInt = 0 := rfl
        omega
      have e : own_qs cap (own_cz z) (i + 1) = (own_upd (own_qs cap (own_cz z) i).1 c0 ((own_qs cap (own_cz z) i).1 c0 + (1 : Int32)), (own_qs cap (own_cz z) i).2 + (1 : Int32)) := by
        rw [own_qs, ← hc0, if_pos hg]
      rw [e]
      refine ⟨?_, fun c hc1 hc2 => ?_, ?_⟩
      · simp only [own_upd, if_neg (by omega : ¬ 0 = c0)]; omega
      · simp only [own_upd, if_neg (by omega : ¬ c = c0)]; exact h2 c hc1 (by omega)
      · simp only []; omega
theorem own_qfin {z cap : Int32} {m : Nat} (hz : z.toInt = (m : Int)) (hm : 1 ≤ m ∧ m ≤ 8) (hc : (0 : Int32) < cap) : (own_qs cap (own_cz z) 8).2 < (8 : Int32) ↔ cap < z := by
  have h0 : (0 : Int32).toInt = 0 := rfl
  have h8 : (8 : Int32).toInt = 8 := rfl
  rw [Int32.lt_iff_toInt_lt] at hc
  obtain ⟨-, -, h⟩ := own_qi hz hm (by omega : 1 ≤ cap.toInt) 8 (Nat.le_refl _)
  rw [Int32.lt_iff_toInt_lt, Int32.lt_iff_toInt_lt]
  omega
theorem own_cb_0 {z : Int32} (hm : z = (1 : Int32) ∨ z = (2 : Int32) ∨ z = (3 : Int32) ∨ z = (4 : Int32) ∨ z = (5 : Int32) ∨ z = (6 : Int32) ∨ z = (7 : Int32) ∨ z = (8 : Int32)) : ¬ own_cat (0 : Int32) z < (0 : Int32) ∧ own_cat (0 : Int32) z < (8 : Int32) := by
  rcases hm with rfl | rfl | rfl | rfl | rfl | rfl | rfl | rfl <;> decide
theorem own_cb_1 {z : Int32} (hm : z = (1 : Int32) ∨ z = (2 : Int32) ∨ z = (3 : Int32) ∨ z = (4 : Int32) ∨ z = (5 : Int32) ∨ z = (6 : Int32) ∨ z = (7 : Int32) ∨ z = (8 : Int32)) : ¬ own_cat (1 : Int32) z < (0 : Int32) ∧ own_cat (1 : Int32) z < (8 : Int32) := by
  rcases hm with rfl | rfl | rfl | rfl | rfl | rfl | rfl | rfl <;> decide
theorem own_cb_2 {z : Int32} (hm : z = (1 : Int32) ∨ z = (2 : Int32) ∨ z = (3 : Int32) ∨ z = (4 : Int32) ∨ z = (5 : Int32) ∨ z = (6 : Int32) ∨ z = (7 : Int32) ∨ z = (8 : Int32)) : ¬ own_cat (2 : Int32) z < (0 : Int32) ∧ own_cat (2 : Int32) z < (8 : Int32) := by
  rcases hm with rfl | rfl | rfl | rfl | rfl | rfl | rfl | rfl <;> decide
theorem own_cb_3 {z : Int32} (hm : z = (1 : Int32) ∨ z = (2 : Int32) ∨ z = (3 : Int32) ∨ z = (4 : Int32) ∨ z = (5 : Int32) ∨ z = (6 : Int32) ∨ z = (7 : Int32) ∨ z = (8 : Int32)) : ¬ own_cat (3 : Int32) z < (0 : Int32) ∧ own_cat (3 : Int32) z < (8 : Int32) := by
  rcases hm with rfl | rfl | rfl | rfl | rfl | rfl | rfl | rfl <;> decide
theorem own_cb_4 {z : Int32} (hm : z = (1 : Int32) ∨ z = (2 : Int32) ∨ z = (3 : Int32) ∨ z = (4 : Int32) ∨ z = (5 : Int32) ∨ z = (6 : Int32) ∨ z = (7 : Int32) ∨ z = (8 : Int32)) : ¬ own_cat (4 : Int32) z < (0 : Int32) ∧ own_cat (4 : Int32) z < (8 : Int32) := by
  rcases hm with rfl | rfl | rfl | rfl | rfl | rfl | rfl | rfl <;> decide
theorem own_cb_5 {z : Int32} (hm : z = (1 : Int32) ∨ z = (2 : Int32) ∨ z = (3 : Int32) ∨ z = (4 : Int32) ∨ z = (5 : Int32) ∨ z = (6 : Int32) ∨ z = (7 : Int32) ∨ z = (8 : Int32)) : ¬ own_cat (5 : Int32) z < (0 : Int32) ∧ own_cat (5 : Int32) z < (8 : Int32) := by
  rcases hm with rfl | rfl | rfl | rfl | rfl | rfl | rfl | rfl <;> decide
theorem own_cb_6 {z : Int32} (hm : z = (1 : Int32) ∨ z = (2 : Int32) ∨ z = (3 : Int32) ∨ z = (4 : Int32) ∨ z = (5 : Int32) ∨ z = (6 : Int32) ∨ z = (7 : Int32) ∨ z = (8 : Int32)) : ¬ own_cat (6 : Int32) z < (0 : Int32) ∧ own_cat (6 : Int32) z < (8 : Int32) := by
  rcases hm with rfl | rfl | rfl | rfl | rfl | rfl | rfl | rfl <;> decide
theorem own_cb_7 {z : Int32} (hm : z = (1 : Int32) ∨ z = (2 : Int32) ∨ z = (3 : Int32) ∨ z = (4 : Int32) ∨ z = (5 : Int32) ∨ z = (6 : Int32) ∨ z = (7 : Int32) ∨ z = (8 : Int32)) : ¬ own_cat (7 : Int32) z < (0 : Int32) ∧ own_cat (7 : Int32) z < (8 : Int32) := by
  rcases hm with rfl | rfl | rfl | rfl | rfl | rfl | rfl | rfl <;> decide

set_option maxRecDepth 65536 in
set_option maxHeartbeats 40000000 in
theorem ct1 (l : Launch) (Z : State) (a0 : Array Value) (hw : ∀ d ∈ tables_1, d.before a0 Z = true) (i m1 : Int32) (h0 : Heap)  :
    Ct l Z y1 method_2_code 2 (some .int) ({ frames := 0, cells := 0, slots := 0, locals := 0 } : Room) #[(.int i), (.int m1)] h0 [] (fun v h => v = some (.int (own_cat i m1)) ∧ h0 = h) := by
  refine Ct.of (plainFor_of_name (by first | (simp [plainName, overriddenIn]; done) | decide +kernel)) ?_
  intro p e s m below meth c T0 X0
  refine Runs.top (g' := mkF m 0 #[.val (.int i), .val (.int m1)] []) (by first | (simp [entryFrame, mkF, argsToLocals, Value.category]; done) | rfl) ?_
  refine X0.iloadN (pc' := 1) d1_0 rfl rfl ?_
  refine X0.iloadN (pc' := 2) d1_1 rfl rfl ?_
  by_cases hc1 : i < m1
  · refine X0.icmpNo (pc' := 5) d1_2 (tlt hc1).2.1 rfl ?_
    refine X0.iconst (pc' := 6) (z := 0) d1_5 rfl rfl ?_
    refine X0.goto (pc' := 14) d1_6 (by decide) (by decide) ?_
    exact X0.ireturn rfl d1_14 (by decide) (by decide) ⟨by simp [own_cat, hc1], rfl⟩
  · refine X0.icmpYes (pc' := 9) d1_2 (flt hc1).2.1 (by decide) (by decide) ?_
    refine X0.iloadN (pc' := 10) d1_9 rfl rfl ?_
    refine X0.iloadN (pc' := 11) d1_10 rfl rfl ?_
    refine X0.isub (pc' := 12) d1_11 rfl ?_
    refine X0.iconst (pc' := 13) (z := 1) d1_12 rfl rfl ?_
    refine X0.iadd (pc' := 14) d1_13 rfl ?_
    exact X0.ireturn rfl d1_14 (by decide) (by decide) ⟨by simp [own_cat, hc1], rfl⟩
set_option maxRecDepth 65536 in
set_option maxHeartbeats 40000000 in
theorem ct3 (l : Launch) (Z : State) (a0 : Array Value) (hw : ∀ d ∈ tables_1, d.before a0 Z = true) (a : Addr) (h0 : Heap)  :
    Ct l Z y3 jdk_30_method_1_code 1 none ({ frames := 1, cells := 0, slots := 0, locals := 12 } : Room) #[(.ref a)] h0 [] (fun v h => v = none ∧ h0 = h) := by
  refine Ct.of (plainFor_of_name (by first | (simp [plainName, overriddenIn]; done) | decide +kernel)) ?_
  intro p e s m below meth c T0 X0
  refine Runs.top (g' := mkF m 0 #[.val (.ref a)] []) (by first | (simp [entryFrame, mkF, argsToLocals, Value.category]; done) | rfl) ?_
  refine X0.aloadN (pc' := 1) d3_0 rfl rfl rfl ?_
  refine X0.initObj (pc' := 4) (W := 0) (wd_16 hw) (wd_17 hw) (wd_18 hw) rfl d3_1 rfl (by decide) rfl (by decide) (fun T1 X1 => ?_)
  exact X1.vreturn rfl d3_4 (by decide) (by decide) ⟨rfl, rfl⟩
set_option maxRecDepth 65536 in
set_option maxHeartbeats 40000000 in
theorem ct2 (l : Launch) (Z : State) (a0 : Array Value) (hw : ∀ d ∈ tables_1, d.before a0 Z = true) (a ca : Addr) (u cap x0 x1 x2 x3 x4 x5 x6 x7 : Int32) (h0 : Heap) (E_a : Exa Z h0 a "com/example/corelith/corelith/diversity/Quotas") (Fcategories_a : Fld Z h0 a "com/example/corelith/corelith/diversity/Quotas" "categories" "[I" .null) (Fcapacity_a : Fld Z h0 a "com/example/corelith/corelith/diversity/Quotas" "capacity" "I" (.int u)) (Vc : Lst Z h0 ca .int [(.int x0), (.int x1), (.int x2), (.int x3), (.int x4), (.int x5), (.int x6), (.int x7)]) (hcap : ¬ cap < (1 : Int32)) (hne : ca ≠ a) (hx0 : ¬ x0 < (0 : Int32) ∧ x0 < (8 : Int32)) (hx1 : ¬ x1 < (0 : Int32) ∧ x1 < (8 : Int32)) (hx2 : ¬ x2 < (0 : Int32) ∧ x2 < (8 : Int32)) (hx3 : ¬ x3 < (0 : Int32) ∧ x3 < (8 : Int32)) (hx4 : ¬ x4 < (0 : Int32) ∧ x4 < (8 : Int32)) (hx5 : ¬ x5 < (0 : Int32) ∧ x5 < (8 : Int32)) (hx6 : ¬ x6 < (0 : Int32) ∧ x6 < (8 : Int32)) (hx7 : ¬ x7 < (0 : Int32) ∧ x7 < (8 : Int32)) :
    Ct l Z y2 prog_10_method_1_code 7 none ({ frames := 2, cells := 0, slots := 0, locals := 24 } : Room) #[(.ref a), (.ref ca), (.int cap)] h0 [a] (fun v h => v = none ∧ Exa Z h a "com/example/corelith/corelith/diversity/Quotas" ∧ Fld Z h a "com/example/corelith/corelith/diversity/Quotas" "categories" "[I" (.ref ca) ∧ Fld Z h a "com/example/corelith/corelith/diversity/Quotas" "capacity" "I" (.int cap)) := by
  refine Ct.of (plainFor_of_name (by first | (simp [plainName, overriddenIn]; done) | decide +kernel)) ?_
  intro p e s m below meth c T0 X0
  refine Runs.top (g' := mkF m 0 #[.val (.ref a), .val (.ref ca), .val (.int cap), .unset, .unset, .unset, .unset] []) (by first | (simp [entryFrame, mkF, argsToLocals, Value.category]; done) | rfl) ?_
  refine X0.aloadN (pc' := 1) d2_0 rfl rfl rfl ?_
  refine X0.special (pc' := 4) (W := 0) (a := a) (argsL := []) (rest := []) (ct3 l Z a0 hw a h0) rfl (wd_11 hw) (wd_12 hw) (wd_14 hw) (wd_15 hw) (by decide) pd_0 rfl rfl rfl rfl d2_1 rfl (by decide) rfl (by decide) (by decide) (by decide) allWs0 (fun T1 h1 v1 X1 K1 Q1 => ?_)
  obtain ⟨rfl, rfl⟩ := Q1
  show Runs p e below (T1.setTop (mkF m 4 #[.val (.ref a), .val (.ref ca), .val (.int cap), .unset, .unset, .unset, .unset] [])) _
  refine X1.iloadN (pc' := 5) d2_4 rfl rfl ?_
  refine X1.iconst (pc' := 6) (z := 1) d2_5 rfl rfl ?_
  refine X1.icmpYes (pc' := 23) d2_6 (flt hcap).2.1 (by decide) (by decide) ?_
  refine X1.aloadN (pc' := 24) d2_23 rfl rfl rfl ?_
  refine X1.astoreN (pc' := 25) (l' := #[.val (.ref a), .val (.ref ca), .val (.int cap), .val (.ref ca), .unset, .unset, .unset]) d2_24 rfl rfl rfl ?_
  refine X1.aloadN (pc' := 26) d2_25 rfl rfl rfl ?_
  refine X1.arraylength (pc' := 27) (n := (8 : Int32)) Vc rfl d2_26 rfl ?_
  refine X1.istore (pc' := 29) (l' := #[.val (.ref a), .val (.ref ca), .val (.int cap), .val (.ref ca), .val (.int (8 : Int32)), .unset, .unset]) d2_27 rfl rfl ?_
  refine X1.iconst (pc' := 30) (z := 0) d2_29 rfl rfl ?_
  refine X1.istore (pc' := 32) (l' := #[.val (.ref a), .val (.ref ca), .val (.int cap), .val (.ref ca), .val (.int (8 : Int32)), .val (.int (0 : Int32)), .unset]) d2_30 rfl rfl ?_
  refine X1.iload (pc' := 34) d2_32 rfl rfl ?_
  refine X1.iload (pc' := 36) d2_34 rfl rfl ?_
  refine X1.icmpNo (pc' := 39) d2_36 (by decide) rfl ?_
  refine X1.aloadN (pc' := 40) d2_39 rfl rfl rfl ?_
  refine X1.iload (pc' := 42) d2_40 rfl rfl ?_
  refine X1.iaload (pc' := 43) (v := (.int x0)) Vc (show Inb (0 : Int32) 8 from ⟨by decide, by decide⟩) rfl d2_42 rfl ?_
  refine X1.istore (pc' := 45) (l' := #[.val (.ref a), .val (.ref ca), .val (.int cap), .val (.ref ca), .val (.int (8 : Int32)), .val (.int (0 : Int32)), .val (.int x0)]) d2_43 rfl rfl ?_
  refine X1.iload (pc' := 47) d2_45 rfl rfl ?_
  refine X1.ifNo (pc' := 50) d2_47 (flt hx0.1).1 rfl ?_
  refine X1.iload (pc' := 52) d2_50 rfl rfl ?_
  refine X1.aloadN (pc' := 53) d2_52 rfl rfl rfl ?_
  refine X1.arraylength (pc' := 54) (n := (8 : Int32)) Vc rfl d2_53 rfl ?_
  refine X1.icmpYes (pc' := 76) d2_54 (tlt hx0.2).1 (by decide) (by decide) ?_
  refine X1.iinc (pc' := 79) (z := 1) (l' := #[.val (.ref a), .val (.ref ca), .val (.int cap), .val (.ref ca), .val (.int (8 : Int32)), .val (.int (1 : Int32)), .val (.int x0)]) d2_76 rfl rfl rfl rfl ?_
  refine X1.goto (pc' := 32) d2_79 (by decide) (by decide) ?_
  refine X1.iload (pc' := 34) d2_32 rfl rfl ?_
  refine X1.iload (pc' := 36) d2_34 rfl rfl ?_
  refine X1.icmpNo (pc' := 39) d2_36 (by decide) rfl ?_
  refine X1.aloadN (pc' := 40) d2_39 rfl rfl rfl ?_
  refine X1.iload (pc' := 42) d2_40 rfl rfl ?_
  refine X1.iaload (pc' := 43) (v := (.int x1)) Vc (show Inb (1 : Int32) 8 from ⟨by decide, by decide⟩) rfl d2_42 rfl ?_
  refine X1.istore (pc' := 45) (l' := #[.val (.ref a), .val (.ref ca), .val (.int cap), .val (.ref ca), .val (.int (8 : Int32)), .val (.int (1 : Int32)), .val (.int x1)]) d2_43 rfl rfl ?_
  refine X1.iload (pc' := 47) d2_45 rfl rfl ?_
  refine X1.ifNo (pc' := 50) d2_47 (flt hx1.1).1 rfl ?_
  refine X1.iload (pc' := 52) d2_50 rfl rfl ?_
  refine X1.aloadN (pc' := 53) d2_52 rfl rfl rfl ?_
  refine X1.arraylength (pc' := 54) (n := (8 : Int32)) Vc rfl d2_53 rfl ?_
  refine X1.icmpYes (pc' := 76) d2_54 (tlt hx1.2).1 (by decide) (by decide) ?_
  refine X1.iinc (pc' := 79) (z := 1) (l' := #[.val (.ref a), .val (.ref ca), .val (.int cap), .val (.ref ca), .val (.int (8 : Int32)), .val (.int (2 : Int32)), .val (.int x1)]) d2_76 rfl rfl rfl rfl ?_
  refine X1.goto (pc' := 32) d2_79 (by decide) (by decide) ?_
  refine X1.iload (pc' := 34) d2_32 rfl rfl ?_
  refine X1.iload (pc' := 36) d2_34 rfl rfl ?_
  refine X1.icmpNo (pc' := 39) d2_36 (by decide) rfl ?_
  refine X1.aloadN (pc' := 40) d2_39 rfl rfl rfl ?_
  refine X1.iload (pc' := 42) d2_40 rfl rfl ?_
  refine X1.iaload (pc' := 43) (v := (.int x2)) Vc (show Inb (2 : Int32) 8 from ⟨by decide, by decide⟩) rfl d2_42 rfl ?_
  refine X1.istore (pc' := 45) (l' := #[.val (.ref a), .val (.ref ca), .val (.int cap), .val (.ref ca), .val (.int (8 : Int32)), .val (.int (2 : Int32)), .val (.int x2)]) d2_43 rfl rfl ?_
  refine X1.iload (pc' := 47) d2_45 rfl rfl ?_
  refine X1.ifNo (pc' := 50) d2_47 (flt hx2.1).1 rfl ?_
  refine X1.iload (pc' := 52) d2_50 rfl rfl ?_
  refine X1.aloadN (pc' := 53) d2_52 rfl rfl rfl ?_
  refine X1.arraylength (pc' := 54) (n := (8 : Int32)) Vc rfl d2_53 rfl ?_
  refine X1.icmpYes (pc' := 76) d2_54 (tlt hx2.2).1 (by decide) (by decide) ?_
  refine X1.iinc (pc' := 79) (z := 1) (l' := #[.val (.ref a), .val (.ref ca), .val (.int cap), .val (.ref ca), .val (.int (8 : Int32)), .val (.int (3 : Int32)), .val (.int x2)]) d2_76 rfl rfl rfl rfl ?_
  refine X1.goto (pc' := 32) d2_79 (by decide) (by decide) ?_
  refine X1.iload (pc' := 34) d2_32 rfl rfl ?_
  refine X1.iload (pc' := 36) d2_34 rfl rfl ?_
  refine X1.icmpNo (pc' := 39) d2_36 (by decide) rfl ?_
  refine X1.aloadN (pc' := 40) d2_39 rfl rfl rfl ?_
  refine X1.iload (pc' := 42) d2_40 rfl rfl ?_
  refine X1.iaload (pc' := 43) (v := (.int x3)) Vc (show Inb (3 : Int32) 8 from ⟨by decide, by decide⟩) rfl d2_42 rfl ?_
  refine X1.istore (pc' := 45) (l' := #[.val (.ref a), .val (.ref ca), .val (.int cap), .val (.ref ca), .val (.int (8 : Int32)), .val (.int (3 : Int32)), .val (.int x3)]) d2_43 rfl rfl ?_
  refine X1.iload (pc' := 47) d2_45 rfl rfl ?_
  refine X1.ifNo (pc' := 50) d2_47 (flt hx3.1).1 rfl ?_
  refine X1.iload (pc' := 52) d2_50 rfl rfl ?_
  refine X1.aloadN (pc' := 53) d2_52 rfl rfl rfl ?_
  refine X1.arraylength (pc' := 54) (n := (8 : Int32)) Vc rfl d2_53 rfl ?_
  refine X1.icmpYes (pc' := 76) d2_54 (tlt hx3.2).1 (by decide) (by decide) ?_
  refine X1.iinc (pc' := 79) (z := 1) (l' := #[.val (.ref a), .val (.ref ca), .val (.int cap), .val (.ref ca), .val (.int (8 : Int32)), .val (.int (4 : Int32)), .val (.int x3)]) d2_76 rfl rfl rfl rfl ?_
  refine X1.goto (pc' := 32) d2_79 (by decide) (by decide) ?_
  refine X1.iload (pc' := 34) d2_32 rfl rfl ?_
  refine X1.iload (pc' := 36) d2_34 rfl rfl ?_
  refine X1.icmpNo (pc' := 39) d2_36 (by decide) rfl ?_
  refine X1.aloadN (pc' := 40) d2_39 rfl rfl rfl ?_
  refine X1.iload (pc' := 42) d2_40 rfl rfl ?_
  refine X1.iaload (pc' := 43) (v := (.int x4)) Vc (show Inb (4 : Int32) 8 from ⟨by decide, by decide⟩) rfl d2_42 rfl ?_
  refine X1.istore (pc' := 45) (l' := #[.val (.ref a), .val (.ref ca), .val (.int cap), .val (.ref ca), .val (.int (8 : Int32)), .val (.int (4 : Int32)), .val (.int x4)]) d2_43 rfl rfl ?_
  refine X1.iload (pc' := 47) d2_45 rfl rfl ?_
  refine X1.ifNo (pc' := 50) d2_47 (flt hx4.1).1 rfl ?_
  refine X1.iload (pc' := 52) d2_50 rfl rfl ?_
  refine X1.aloadN (pc' := 53) d2_52 rfl rfl rfl ?_
  refine X1.arraylength (pc' := 54) (n := (8 : Int32)) Vc rfl d2_53 rfl ?_
  refine X1.icmpYes (pc' := 76) d2_54 (tlt hx4.2).1 (by decide) (by decide) ?_
  refine X1.iinc (pc' := 79) (z := 1) (l' := #[.val (.ref a), .val (.ref ca), .val (.int cap), .val (.ref ca), .val (.int (8 : Int32)), .val (.int (5 : Int32)), .val (.int x4)]) d2_76 rfl rfl rfl rfl ?_
  refine X1.goto (pc' := 32) d2_79 (by decide) (by decide) ?_
  refine X1.iload (pc' := 34) d2_32 rfl rfl ?_
  refine X1.iload (pc' := 36) d2_34 rfl rfl ?_
  refine X1.icmpNo (pc' := 39) d2_36 (by decide) rfl ?_
  refine X1.aloadN (pc' := 40) d2_39 rfl rfl rfl ?_
  refine X1.iload (pc' := 42) d2_40 rfl rfl ?_
  refine X1.iaload (pc' := 43) (v := (.int x5)) Vc (show Inb (5 : Int32) 8 from ⟨by decide, by decide⟩) rfl d2_42 rfl ?_
  refine X1.istore (pc' := 45) (l' := #[.val (.ref a), .val (.ref ca), .val (.int cap), .val (.ref ca), .val (.int (8 : Int32)), .val (.int (5 : Int32)), .val (.int x5)]) d2_43 rfl rfl ?_
  refine X1.iload (pc' := 47) d2_45 rfl rfl ?_
  refine X1.ifNo (pc' := 50) d2_47 (flt hx5.1).1 rfl ?_
  refine X1.iload (pc' := 52) d2_50 rfl rfl ?_
  refine X1.aloadN (pc' := 53) d2_52 rfl rfl rfl ?_
  refine X1.arraylength (pc' := 54) (n := (8 : Int32)) Vc rfl d2_53 rfl ?_
  refine X1.icmpYes (pc' := 76) d2_54 (tlt hx5.2).1 (by decide) (by decide) ?_
  refine X1.iinc (pc' := 79) (z := 1) (l' := #[.val (.ref a), .val (.ref ca), .val (.int cap), .val (.ref ca), .val (.int (8 : Int32)), .val (.int (6 : Int32)), .val (.int x5)]) d2_76 rfl rfl rfl rfl ?_
  refine X1.goto (pc' := 32) d2_79 (by decide) (by decide) ?_
  refine X1.iload (pc' := 34) d2_32 rfl rfl ?_
  refine X1.iload (pc' := 36) d2_34 rfl rfl ?_
  refine X1.icmpNo (pc' := 39) d2_36 (by decide) rfl ?_
  refine X1.aloadN (pc' := 40) d2_39 rfl rfl rfl ?_
  refine X1.iload (pc' := 42) d2_40 rfl rfl ?_
  refine X1.iaload (pc' := 43) (v := (.int x6)) Vc (show Inb (6 : Int32) 8 from ⟨by decide, by decide⟩) rfl d2_42 rfl ?_
  refine X1.istore (pc' := 45) (l' := #[.val (.ref a), .val (.ref ca), .val (.int cap), .val (.ref ca), .val (.int (8 : Int32)), .val (.int (6 : Int32)), .val (.int x6)]) d2_43 rfl rfl ?_
  refine X1.iload (pc' := 47) d2_45 rfl rfl ?_
  refine X1.ifNo (pc' := 50) d2_47 (flt hx6.1).1 rfl ?_
  refine X1.iload (pc' := 52) d2_50 rfl rfl ?_
  refine X1.aloadN (pc' := 53) d2_52 rfl rfl rfl ?_
  refine X1.arraylength (pc' := 54) (n := (8 : Int32)) Vc rfl d2_53 rfl ?_
  refine X1.icmpYes (pc' := 76) d2_54 (tlt hx6.2).1 (by decide) (by decide) ?_
  refine X1.iinc (pc' := 79) (z := 1) (l' := #[.val (.ref a), .val (.ref ca), .val (.int cap), .val (.ref ca), .val (.int (8 : Int32)), .val (.int (7 : Int32)), .val (.int x6)]) d2_76 rfl rfl rfl rfl ?_
  refine X1.goto (pc' := 32) d2_79 (by decide) (by decide) ?_
  refine X1.iload (pc' := 34) d2_32 rfl rfl ?_
  refine X1.iload (pc' := 36) d2_34 rfl rfl ?_
  refine X1.icmpNo (pc' := 39) d2_36 (by decide) rfl ?_
  refine X1.aloadN (pc' := 40) d2_39 rfl rfl rfl ?_
  refine X1.iload (pc' := 42) d2_40 rfl rfl ?_
  refine X1.iaload (pc' := 43) (v := (.int x7)) Vc (show Inb (7 : Int32) 8 from ⟨by decide, by decide⟩) rfl d2_42 rfl ?_
  refine X1.istore (pc' := 45) (l' := #[.val (.ref a), .val (.ref ca), .val (.int cap), .val (.ref ca), .val (.int (8 : Int32)), .val (.int (7 : Int32)), .val (.int x7)]) d2_43 rfl rfl ?_
  refine X1.iload (pc' := 47) d2_45 rfl rfl ?_
  refine X1.ifNo (pc' := 50) d2_47 (flt hx7.1).1 rfl ?_
  refine X1.iload (pc' := 52) d2_50 rfl rfl ?_
  refine X1.aloadN (pc' := 53) d2_52 rfl rfl rfl ?_
  refine X1.arraylength (pc' := 54) (n := (8 : Int32)) Vc rfl d2_53 rfl ?_
  refine X1.icmpYes (pc' := 76) d2_54 (tlt hx7.2).1 (by decide) (by decide) ?_
  refine X1.iinc (pc' := 79) (z := 1) (l' := #[.val (.ref a), .val (.ref ca), .val (.int cap), .val (.ref ca), .val (.int (8 : Int32)), .val (.int (8 : Int32)), .val (.int x7)]) d2_76 rfl rfl rfl rfl ?_
  refine X1.goto (pc' := 32) d2_79 (by decide) (by decide) ?_
  refine X1.iload (pc' := 34) d2_32 rfl rfl ?_
  refine X1.iload (pc' := 36) d2_34 rfl rfl ?_
  refine X1.icmpYes (pc' := 82) d2_36 (by decide) (by decide) (by decide) ?_
  refine X1.aloadN (pc' := 83) d2_82 rfl rfl rfl ?_
  refine X1.aloadN (pc' := 84) d2_83 rfl rfl rfl ?_
  refine X1.putfield (pc' := 87) (host := "") (Or.inl (wd_19 hw)) Via.refl Fcategories_a E_a (Or.inr ⟨(wd_20 hw), rfl, rfl⟩) (wd_6 hw) (ty := (.array .int)) (by decide) rfl rfl d2_84 rfl (Or.inl (by simp)) (fun T2 h2 X2 W2 => ?_)
  have Fw2 := Fld.same W2 Fcategories_a
  have E_a_2 := Exa.wr W2 E_a
  have Fcapacity_a_2 := Fld.other W2 Fcapacity_a (Or.inr (slot_ne (Or.inr (wd_22 hw)) (Or.inr (wd_20 hw)) (by decide) (t := .int) (t' := (.array .int)) (by decide) (by decide)))
  have Vc_2 := Vc.other W2 hne
  refine X2.aloadN (pc' := 88) d2_87 rfl rfl rfl ?_
  refine X2.iloadN (pc' := 89) d2_88 rfl rfl ?_
  refine X2.putfield (pc' := 92) (host := "") (Or.inl (wd_21 hw)) Via.refl Fcapacity_a_2 E_a_2 (Or.inr ⟨(wd_22 hw), rfl, rfl⟩) (wd_6 hw) (ty := .int) (by decide) rfl rfl d2_89 rfl (Or.inl (by simp)) (fun T3 h3 X3 W3 => ?_)
  have Fw3 := Fld.same W3 Fcapacity_a_2
  have E_a_3 := Exa.wr W3 E_a_2
  have Fw2_3 := Fld.other W3 Fw2 (Or.inr (slot_ne (Or.inr (wd_20 hw)) (Or.inr (wd_22 hw)) (by decide) (t := (.array .int)) (t' := .int) (by decide) (by decide)))
  have Vc_3 := Vc_2.other W3 hne
  exact X3.vreturn rfl d2_92 (by decide) (by decide) ⟨rfl, E_a_3, Fw2_3, Fw3⟩
set_option maxRecDepth 65536 in
set_option maxHeartbeats 40000000 in
theorem ct6 (l : Launch) (Z : State) (a0 : Array Value) (hw : ∀ d ∈ tables_1, d.before a0 Z = true) (a ca : Addr) (vs : List Value) (i r : Int32) (h0 : Heap) (Fc : Fld Z h0 a "com/example/corelith/corelith/diversity/Quotas" "categories" "[I" (.ref ca)) (Vc : Lst Z h0 ca .int vs) (hin : Inb i vs.length) (hv : vs[i.toInt.toNat]? = some (.int r)) :
    Ct l Z y6 prog_10_method_4_code 2 (some .int) ({ frames := 0, cells := 0, slots := 0, locals := 0 } : Room) #[(.ref a), (.int i)] h0 [] (fun v h => v = some (.int r) ∧ h0 = h) := by
  refine Ct.of (plainFor_of_name (by first | (simp [plainName, overriddenIn]; done) | decide +kernel)) ?_
  intro p e s m below meth c T0 X0
  refine Runs.top (g' := mkF m 0 #[.val (.ref a), .val (.int i)] []) (by first | (simp [entryFrame, mkF, argsToLocals, Value.category]; done) | rfl) ?_
  refine X0.aloadN (pc' := 1) d6_0 rfl rfl rfl ?_
  refine X0.getfield (pc' := 4) (host := "") (Or.inl (wd_19 hw)) Via.refl Fc d6_1 rfl (fun T1 X1 => ?_)
  refine X1.iloadN (pc' := 5) d6_4 rfl rfl ?_
  refine X1.iaload (pc' := 6) (v := (.int r)) Vc hin hv d6_5 rfl ?_
  exact X1.ireturn rfl d6_6 (by decide) (by decide) ⟨rfl, rfl⟩
set_option maxRecDepth 65536 in
set_option maxHeartbeats 40000000 in
theorem ct7 (l : Launch) (Z : State) (a0 : Array Value) (hw : ∀ d ∈ tables_1, d.before a0 Z = true) (a : Addr) (cap k r : Int32) (h0 : Heap) (Fp : Fld Z h0 a "com/example/corelith/corelith/diversity/Quotas" "capacity" "I" (.int cap)) (hr : r = if cap < k then (1 : Int32) else 0) :
    Ct l Z y7 prog_10_method_5_code 2 (some .boolean) ({ frames := 0, cells := 0, slots := 0, locals := 0 } : Room) #[(.ref a), (.int k)] h0 [] (fun v h => v = some (.int r) ∧ h0 = h) := by
  refine Ct.of (plainFor_of_name (by first | (simp [plainName, overriddenIn]; done) | decide +kernel)) ?_
  intro p e s m below meth c T0 X0
  refine Runs.top (g' := mkF m 0 #[.val (.ref a), .val (.int k)] []) (by first | (simp [entryFrame, mkF, argsToLocals, Value.category]; done) | rfl) ?_
  refine X0.aloadN (pc' := 1) d7_0 rfl rfl rfl ?_
  refine X0.getfield (pc' := 4) (host := "") (Or.inl (wd_21 hw)) Via.refl Fp d7_1 rfl (fun T1 X1 => ?_)
  refine X1.iloadN (pc' := 5) d7_4 rfl rfl ?_
  by_cases hc2 : cap < k
  · refine X1.icmpNo (pc' := 8) d7_5 (tlt hc2).2.1 rfl ?_
    refine X1.iconst (pc' := 9) (z := 1) d7_8 rfl rfl ?_
    refine X1.goto (pc' := 13) d7_9 (by decide) (by decide) ?_
    exact X1.zreturn (z' := (1 : Int32)) rfl (by simp) d7_13 rfl (by decide) (by decide) ⟨by simp [hr, hc2], rfl⟩
  · refine X1.icmpYes (pc' := 12) d7_5 (flt hc2).2.1 (by decide) (by decide) ?_
    refine X1.iconst (pc' := 13) (z := 0) d7_12 rfl rfl ?_
    exact X1.zreturn (z' := (0 : Int32)) rfl (by simp) d7_13 rfl (by decide) (by decide) ⟨by simp [hr, hc2], rfl⟩
set_option maxRecDepth 65536 in
set_option maxHeartbeats 40000000 in
theorem ct8 (l : Launch) (Z : State) (a0 : Array Value) (hw : ∀ d ∈ tables_1, d.before a0 Z = true) (p1 p2 : Int32) (h0 : Heap)  :
    Ct l Z y8 jdk_29_method_69_code 2 (some .int) ({ frames := 0, cells := 0, slots := 0, locals := 0 } : Room) #[(.int p1), (.int p2)] h0 [] (fun v h => v = some (.int (own_min p1 p2)) ∧ h0 = h) := by
  refine Ct.of (Jvm.Free.JP.mathPlain rfl (by decide +kernel)) ?_
  intro p e s m below meth c T0 X0
  refine Runs.top (g' := mkF m 0 #[.val (.int p1), .val (.int p2)] []) (by first | (simp [entryFrame, mkF, argsToLocals, Value.category]; done) | rfl) ?_
  refine X0.iloadN (pc' := 1) d8_0 rfl rfl ?_
  refine X0.iloadN (pc' := 2) d8_1 rfl rfl ?_
  by_cases hc1 : p2 < p1
  · refine X0.icmpYes (pc' := 9) d8_2 (tlt hc1).2.2.1 (by decide) (by decide) ?_
    refine X0.iloadN (pc' := 10) d8_9 rfl rfl ?_
    exact X0.ireturn rfl d8_10 (by decide) (by decide) ⟨by simp [own_min, hc1], rfl⟩
  · refine X0.icmpNo (pc' := 5) d8_2 (flt hc1).2.2.1 rfl ?_
    refine X0.iloadN (pc' := 6) d8_5 rfl rfl ?_
    refine X0.goto (pc' := 10) d8_6 (by decide) (by decide) ?_
    exact X0.ireturn rfl d8_10 (by decide) (by decide) ⟨by simp [own_min, hc1], rfl⟩
set_option maxRecDepth 65536 in
set_option maxHeartbeats 40000000 in
theorem ct9 (l : Launch) (Z : State) (a0 : Array Value) (hw : ∀ d ∈ tables_1, d.before a0 Z = true) (p1 p2 : Int32) (h0 : Heap)  :
    Ct l Z y9 jdk_29_method_65_code 2 (some .int) ({ frames := 0, cells := 0, slots := 0, locals := 0 } : Room) #[(.int p1), (.int p2)] h0 [] (fun v h => v = some (.int (own_max p1 p2)) ∧ h0 = h) := by
  refine Ct.of (Jvm.Free.JP.mathPlain rfl (by decide +kernel)) ?_
  intro p e s m below meth c T0 X0
  refine Runs.top (g' := mkF m 0 #[.val (.int p1), .val (.int p2)] []) (by first | (simp [entryFrame, mkF, argsToLocals, Value.category]; done) | rfl) ?_
  refine X0.iloadN (pc' := 1) d9_0 rfl rfl ?_
  refine X0.iloadN (pc' := 2) d9_1 rfl rfl ?_
  by_cases hc1 : p1 < p2
  · refine X0.icmpYes (pc' := 9) d9_2 (tlt hc1).1 (by decide) (by decide) ?_
    refine X0.iloadN (pc' := 10) d9_9 rfl rfl ?_
    exact X0.ireturn rfl d9_10 (by decide) (by decide) ⟨by simp [own_max, hc1], rfl⟩
  · refine X0.icmpNo (pc' := 5) d9_2 (flt hc1).1 rfl ?_
    refine X0.iloadN (pc' := 6) d9_5 rfl rfl ?_
    refine X0.goto (pc' := 10) d9_6 (by decide) (by decide) ?_
    exact X0.ireturn rfl d9_10 (by decide) (by decide) ⟨by simp [own_max, hc1], rfl⟩
theorem own_cc {z : Int32} (h : ¬ z < (0 : Int32) ∧ z < (8 : Int32)) : z.toInt = (z.toInt.toNat : Int) := by
  have h1 := h.1
  rw [Int32.lt_iff_toInt_lt] at h1
  have e : (0 : Int32).toInt = 0 := rfl
  omega
theorem own_cl {z : Int32} (h : ¬ z < (0 : Int32) ∧ z < (8 : Int32)) : z.toInt.toNat < 8 := by
  have h1 := h.2
  rw [Int32.lt_iff_toInt_lt] at h1
  have e : (8 : Int32).toInt = 8 := rfl
  omega
set_option maxRecDepth 65536 in
set_option maxHeartbeats 40000000 in
theorem lpk {p : Program} {l : Launch} {e : Env} {R : Room} {s : State} {m : MethodId} {args : Array Value} {below : List Frame} {meth : Method} {c : Code} {ret : Option FieldType} {Z : State} {h0 : Heap} {ws : List Addr} {G : Outcome → State → Prop} {a0 : Array Value} (hw : ∀ d ∈ tables_1, d.before a0 Z = true) {a ca ix b : Addr} {cap : Int32} {C : Nat → Int32} {cells slots : Nat} (hC : ∀ t, t < 8 → ¬ C t < (0 : Int32) ∧ C t < (8 : Int32)) (hab : a ≠ b) (hcb : ca ≠ b) (hib : ix ≠ b) (sz_b : h0.size ≤ b) (hfr : 1 ≤ R.frames) (hlo : 14 ≤ R.locals) (hce : cells ≤ R.cells) (hsl : slots ≤ R.slots) :
    ∀ (d i : Nat) (T : State) (h : Heap) (s7 : Slot), Here p l e R s m args below meth c y5 prog_10_method_6_code 8 ret Z h0 ws T cells slots h → One s7 → 8 ≤ i + d → i ≤ 8 → Exa Z h a "com/example/corelith/corelith/diversity/Quotas" → Fld Z h a "com/example/corelith/corelith/diversity/Quotas" "categories" "[I" (.ref ca) → Fld Z h a "com/example/corelith/corelith/diversity/Quotas" "capacity" "I" (.int cap) → Lst Z h ca .int (own_tn 8 C) → Lst Z h ix .int (own_tn 8 fun t => t.toInt32) → Lst Z h b .int (own_tn 8 (own_qs cap C i).1) → (∀ T' h' s7', Here p l e R s m args below meth c y5 prog_10_method_6_code 8 ret Z h0 ws T' cells slots h' → Runs p e below (T'.setTop (mkF m 71 #[.val (.ref a), .val (.ref ix), .val (.ref b), .val (.int (own_qs cap C (8 : Nat)).2), .val (.ref ix), .val (.int (8 : Int32)), .val (.int (8 : Nat).toInt32), s7'] [])) G) → Runs p e below (T.setTop (mkF m 21 #[.val (.ref a), .val (.ref ix), .val (.ref b), .val (.int (own_qs cap C i).2), .val (.ref ix), .val (.int (8 : Int32)), .val (.int i.toInt32), s7] [])) G := by
  intro d
  induction d with
  | zero =>
    intro i T h s7 X hs7 hd hi8 Ea Fc Fp Vc Vi Vb kx
    have hi : ¬ i < 8 := by omega
    refine X.iload (pc' := 23) d5_21 rfl rfl ?_
    refine X.iload (pc' := 25) d5_23 rfl rfl ?_
    refine X.icmpYes (pc' := 71) d5_25 (flt (fun q => hi ((own_lt32 (n := 8) (by omega) (by decide)).mp q))).2.1 (by decide) (by decide) ?_
    obtain rfl : i = 8 := by omega
    exact kx _ _ _ X
  | succ d ih =>
    intro i T h s7 X hs7 hd hi8 Ea Fc Fp Vc Vi Vb kx
    by_cases hi : i < 8
    · refine X.iload (pc' := 23) d5_21 rfl rfl ?_
      refine X.iload (pc' := 25) d5_23 rfl rfl ?_
      refine X.icmpNo (pc' := 28) d5_25 (tlt ((own_lt32 (n := 8) (by omega) (by decide)).mpr hi)).2.1 rfl ?_
      refine X.aload (pc' := 30) d5_28 rfl rfl rfl ?_
      refine X.iload (pc' := 32) d5_30 rfl rfl ?_
      refine X.iaload (pc' := 33) (v := (.int i.toInt32)) Vi (own_il (own_i32 (by omega)) hi) (own_tn_at (own_ilt (own_i32 (by omega))) hi) d5_32 rfl ?_
      refine X.istore (pc' := 35) (l' := #[.val (.ref a), .val (.ref ix), .val (.ref b), .val (.int (own_qs cap C i).2), .val (.ref ix), .val (.int (8 : Int32)), .val (.int i.toInt32), .val (.int i.toInt32)]) d5_33 (XS.store1 rfl hs7 rfl) rfl ?_
      refine X.aloadN (pc' := 36) d5_35 rfl rfl rfl ?_
      refine X.aloadN (pc' := 37) d5_36 rfl rfl rfl ?_
      refine X.iload (pc' := 39) d5_37 rfl rfl ?_
      refine X.virtual (pc' := 42) (W := 1) (a := a) (argsL := [(.int i.toInt32)]) (rest := [(.ref b)]) (ct6 l Z a0 hw a ca (own_tn 8 C) i.toInt32 (C i) h Fc Vc (own_il (own_i32 (by omega)) hi) (own_tn_at (own_ilt (own_i32 (by omega))) hi)) (wd_28 hw) (wd_29 hw) (fun _ q => notFace_of_selects q) (wd_31 hw) (wd_30 hw) (wd_7 hw) (wd_32 hw) (by decide) Ea pd_1 rfl rfl rfl rfl d5_39 rfl hfr rfl hlo hce hsl allWs0 (fun T1 h1 v1 X1 K1 Q1 => ?_)
      obtain ⟨rfl, rfl⟩ := Q1
      show Runs p e below (T1.setTop (mkF m 42 #[.val (.ref a), .val (.ref ix), .val (.ref b), .val (.int (own_qs cap C i).2), .val (.ref ix), .val (.int (8 : Int32)), .val (.int i.toInt32), .val (.int i.toInt32)] [(.int (C i)), (.ref b)])) _
      refine X1.iaload (pc' := 43) (v := (.int ((own_qs cap C i).1 (C i).toInt.toNat))) Vb (own_il (own_cc (hC i hi)) (own_cl (hC i hi))) (own_tn_at rfl (own_cl (hC i hi))) d5_42 rfl ?_
      refine X1.aloadN (pc' := 44) d5_43 rfl rfl rfl ?_
      refine X1.getfield (pc' := 47) (host := "") (Or.inl (wd_21 hw)) Via.refl Fp d5_44 rfl (fun T2 X2 => ?_)
      by_cases hc3 : ((own_qs cap C i).1 (C i).toInt.toNat) < cap
      · refine X2.icmpNo (pc' := 50) d5_47 (tlt hc3).2.1 rfl ?_
        refine X2.aloadN (pc' := 51) d5_50 rfl rfl rfl ?_
        refine X2.aloadN (pc' := 52) d5_51 rfl rfl rfl ?_
        refine X2.iload (pc' := 54) d5_52 rfl rfl ?_
        refine X2.virtual (pc' := 57) (W := 1) (a := a) (argsL := [(.int i.toInt32)]) (rest := [(.ref b)]) (ct6 l Z a0 hw a ca (own_tn 8 C) i.toInt32 (C i) h Fc Vc (own_il (own_i32 (by omega)) hi) (own_tn_at (own_ilt (own_i32 (by omega))) hi)) (wd_28 hw) (wd_29 hw) (fun _ q => notFace_of_selects q) (wd_31 hw) (wd_30 hw) (wd_7 hw) (wd_32 hw) (by decide) Ea pd_1 rfl rfl rfl rfl d5_54 rfl hfr rfl hlo hce hsl allWs0 (fun T4 h4 v4 X4 K4 Q4 => ?_)
        obtain ⟨rfl, rfl⟩ := Q4
        show Runs p e below (T4.setTop (mkF m 57 #[.val (.ref a), .val (.ref ix), .val (.ref b), .val (.int (own_qs cap C i).2), .val (.ref ix), .val (.int (8 : Int32)), .val (.int i.toInt32), .val (.int i.toInt32)] [(.int (C i)), (.ref b)])) _
        refine X4.dup2 (pc' := 58) d5_57 rfl rfl rfl ?_
        refine X4.iaload (pc' := 59) (v := (.int ((own_qs cap C i).1 (C i).toInt.toNat))) Vb (own_il (own_cc (hC i hi)) (own_cl (hC i hi))) (own_tn_at rfl (own_cl (hC i hi))) d5_58 rfl ?_
        refine X4.iconst (pc' := 60) (z := 1) d5_59 rfl rfl ?_
        refine X4.iadd (pc' := 61) d5_60 rfl ?_
        refine X4.iastore (pc' := 62) Vb (own_il (own_cc (hC i hi)) (own_cl (hC i hi))) d5_61 rfl (Or.inr sz_b) (fun T5 h5 X5 W5 => ?_)
        have V5 : Lst Z h5 b .int (own_tn 8 (own_upd (own_qs cap C i).1 (C i).toInt.toNat (((own_qs cap C i).1 (C i).toInt.toNat) + (1 : Int32)))) := (own_tn_upd (n := 8) (own_qs cap C i).1 (C i).toInt.toNat (((own_qs cap C i).1 (C i).toInt.toNat) + (1 : Int32))) ▸ Vb.set W5
        have Ea_5 := Exa.wr W5 Ea
        have Fc_5 := Fld.other W5 Fc (Or.inl hab)
        have Fp_5 := Fld.other W5 Fp (Or.inl hab)
        have Vc_5 := Vc.other W5 hcb
        have Vi_5 := Vi.other W5 hib
        refine X5.iinc (pc' := 65) (z := 1) (l' := #[.val (.ref a), .val (.ref ix), .val (.ref b), .val (.int ((own_qs cap C i).2 + (1 : Int32))), .val (.ref ix), .val (.int (8 : Int32)), .val (.int i.toInt32), .val (.int i.toInt32)]) d5_62 rfl rfl rfl rfl ?_
        refine X5.iinc (pc' := 68) (z := 1) (l' := #[.val (.ref a), .val (.ref ix), .val (.ref b), .val (.int ((own_qs cap C i).2 + (1 : Int32))), .val (.ref ix), .val (.int (8 : Int32)), .val (.int (i + 1).toInt32), .val (.int i.toInt32)]) d5_65 rfl rfl (by rw [own_inc]; rfl) rfl ?_
        refine X5.goto (pc' := 21) d5_68 (by decide) (by decide) ?_
        have eQ : own_qs cap C (i + 1) = (own_upd (own_qs cap C i).1 (C i).toInt.toNat ((own_qs cap C i).1 (C i).toInt.toNat + (1 : Int32)), (own_qs cap C i).2 + (1 : Int32)) := by rw [own_qs, if_pos hc3]
        have q := ih (i + 1) T5 h5 (.val (.int i.toInt32)) X5 (One.val rfl) (by omega) (by omega) Ea_5 Fc_5 Fp_5 Vc_5 Vi_5 (by rw [eQ]; exact V5) kx
        rw [eQ] at q
        exact q
      · refine X2.icmpYes (pc' := 65) d5_47 (flt hc3).2.1 (by decide) (by decide) ?_
        refine X2.iinc (pc' := 68) (z := 1) (l' := #[.val (.ref a), .val (.ref ix), .val (.ref b), .val (.int (own_qs cap C i).2), .val (.ref ix), .val (.int (8 : Int32)), .val (.int (i + 1).toInt32), .val (.int i.toInt32)]) d5_65 rfl rfl (by rw [own_inc]; rfl) rfl ?_
        refine X2.goto (pc' := 21) d5_68 (by decide) (by decide) ?_
        have eQ : own_qs cap C (i + 1) = (own_qs cap C i) := by rw [own_qs, if_neg hc3]
        have q := ih (i + 1) T2 h (.val (.int i.toInt32)) X2 (One.val rfl) (by omega) (by omega) Ea Fc Fp Vc Vi (by rw [eQ]; exact Vb) kx
        rw [eQ] at q
        exact q
    · refine X.iload (pc' := 23) d5_21 rfl rfl ?_
      refine X.iload (pc' := 25) d5_23 rfl rfl ?_
      refine X.icmpYes (pc' := 71) d5_25 (flt (fun q => hi ((own_lt32 (n := 8) (by omega) (by decide)).mp q))).2.1 (by decide) (by decide) ?_
      obtain rfl : i = 8 := by omega
      exact kx _ _ _ X
set_option maxRecDepth 65536 in
set_option maxHeartbeats 40000000 in
theorem ct5 (l : Launch) (Z : State) (a0 : Array Value) (hw : ∀ d ∈ tables_1, d.before a0 Z = true) (a ca ix : Addr) (cap : Int32) (C : Nat → Int32) (h0 : Heap) (hC : ∀ t, t < 8 → ¬ C t < (0 : Int32) ∧ C t < (8 : Int32)) (Ea : Exa Z h0 a "com/example/corelith/corelith/diversity/Quotas") (Fc : Fld Z h0 a "com/example/corelith/corelith/diversity/Quotas" "categories" "[I" (.ref ca)) (Fp : Fld Z h0 a "com/example/corelith/corelith/diversity/Quotas" "capacity" "I" (.int cap)) (Vc : Lst Z h0 ca .int (own_tn 8 C)) (Vi : Lst Z h0 ix .int (own_tn 8 fun t => t.toInt32)) :
    Ct l Z y5 prog_10_method_6_code 8 (some .int) ({ frames := 1, cells := 1, slots := 8, locals := 14 } : Room) #[(.ref a), (.ref ix)] h0 [] (fun v h => v = some (.int (own_qs cap C 8).2)) := by
  refine Ct.of (plainFor_of_name (by first | (simp [plainName, overriddenIn]; done) | decide +kernel)) ?_
  intro p e s m below meth c T0 X0
  refine Runs.top (g' := mkF m 0 #[.val (.ref a), .val (.ref ix), .unset, .unset, .unset, .unset, .unset, .unset] []) (by first | (simp [entryFrame, mkF, argsToLocals, Value.category]; done) | rfl) ?_
  refine X0.aloadN (pc' := 1) d5_0 rfl rfl rfl ?_
  refine X0.getfield (pc' := 4) (host := "") (Or.inl (wd_19 hw)) Via.refl Fc d5_1 rfl (fun T1 X1 => ?_)
  refine X1.arraylength (pc' := 5) (n := (8 : Int32)) Vc (by rw [own_tn_len]; rfl) d5_4 rfl ?_
  refine X1.newarray (pc' := 7) (ty := .int) rfl (wd_0 hw) d5_5 rfl (cap := 8) ⟨by decide, by decide⟩ (by decide) (by decide) (by decide) (fun T2 h2 b2 X2 g2 E2 V2 => ?_)
  have sz_b2 : h0.size ≤ b2 := g2 ▸ X1.size
  have ne_a_b2 : a ≠ b2 := Nat.ne_of_lt (g2 ▸ Ea.lt)
  have ne_ca_b2 : ca ≠ b2 := Nat.ne_of_lt (g2 ▸ Vc.lt)
  have ne_ix_b2 : ix ≠ b2 := Nat.ne_of_lt (g2 ▸ Vi.lt)
  have Ea_2 := Exa.ext E2 Ea
  have Fc_2 := Fld.ext E2 Fc
  have Fp_2 := Fld.ext E2 Fp
  have Vc_2 := Vc.ext E2
  have Vi_2 := Vi.ext E2
  have V2' : Lst Z h2 b2 .int [(.int (0 : Int32)), (.int (0 : Int32)), (.int (0 : Int32)), (.int (0 : Int32)), (.int (0 : Int32)), (.int (0 : Int32)), (.int (0 : Int32)), (.int (0 : Int32))] := V2
  refine X2.astoreN (pc' := 8) (l' := #[.val (.ref a), .val (.ref ix), .val (.ref b2), .unset, .unset, .unset, .unset, .unset]) d5_7 rfl rfl rfl ?_
  refine X2.iconst (pc' := 9) (z := 0) d5_8 rfl rfl ?_
  refine X2.istoreN (pc' := 10) (l' := #[.val (.ref a), .val (.ref ix), .val (.ref b2), .val (.int (0 : Int32)), .unset, .unset, .unset, .unset]) d5_9 rfl rfl ?_
  refine X2.aloadN (pc' := 11) d5_10 rfl rfl rfl ?_
  refine X2.astore (pc' := 13) (l' := #[.val (.ref a), .val (.ref ix), .val (.ref b2), .val (.int (0 : Int32)), .val (.ref ix), .unset, .unset, .unset]) d5_11 rfl rfl rfl ?_
  refine X2.aload (pc' := 15) d5_13 rfl rfl rfl ?_
  refine X2.arraylength (pc' := 16) (n := (8 : Int32)) Vi_2 (by rw [own_tn_len]; rfl) d5_15 rfl ?_
  refine X2.istore (pc' := 18) (l' := #[.val (.ref a), .val (.ref ix), .val (.ref b2), .val (.int (0 : Int32)), .val (.ref ix), .val (.int (8 : Int32)), .unset, .unset]) d5_16 rfl rfl ?_
  refine X2.iconst (pc' := 19) (z := 0) d5_18 rfl rfl ?_
  refine X2.istore (pc' := 21) (l' := #[.val (.ref a), .val (.ref ix), .val (.ref b2), .val (.int (0 : Int32)), .val (.ref ix), .val (.int (8 : Int32)), .val (.int (0 : Int32)), .unset]) d5_19 rfl rfl ?_
  have Vb0 : Lst Z h2 b2 .int (own_tn 8 (own_qs cap C 0).1) := V2'
  refine lpk hw hC ne_a_b2 ne_ca_b2 ne_ix_b2 sz_b2 (by decide) (by decide) (by decide) (by decide) 8 0 T2 h2 .unset X2 One.u (by omega) (by omega) Ea_2 Fc_2 Fp_2 Vc_2 Vi_2 Vb0 (fun T7 h7 s7 X7 => ?_)
  refine X7.iloadN (pc' := 72) d5_71 rfl rfl ?_
  exact X7.ireturn rfl d5_72 (by decide) (by decide) rfl
theorem own_hC {z : Int32} (hm : z = (1 : Int32) ∨ z = (2 : Int32) ∨ z = (3 : Int32) ∨ z = (4 : Int32) ∨ z = (5 : Int32) ∨ z = (6 : Int32) ∨ z = (7 : Int32) ∨ z = (8 : Int32)) : ∀ t, t < 8 → ¬ own_cz z t < (0 : Int32) ∧ own_cz z t < (8 : Int32)
  | 0, _ => own_cb_0 hm
  | 1, _ => own_cb_1 hm
  | 2, _ => own_cb_2 hm
  | 3, _ => own_cb_3 hm
  | 4, _ => own_cb_4 hm
  | 5, _ => own_cb_5 hm
  | 6, _ => own_cb_6 hm
  | 7, _ => own_cb_7 hm
  | t + 8, h => absurd h (by omega)
theorem own_zm {z : Int32} (hm : z = (1 : Int32) ∨ z = (2 : Int32) ∨ z = (3 : Int32) ∨ z = (4 : Int32) ∨ z = (5 : Int32) ∨ z = (6 : Int32) ∨ z = (7 : Int32) ∨ z = (8 : Int32)) : ∃ m : Nat, z.toInt = (m : Int) ∧ 1 ≤ m ∧ m ≤ 8 := by
  rcases hm with rfl | rfl | rfl | rfl | rfl | rfl | rfl | rfl
  · exact ⟨1, rfl, by decide, by decide⟩
  · exact ⟨2, rfl, by decide, by decide⟩
  · exact ⟨3, rfl, by decide, by decide⟩
  · exact ⟨4, rfl, by decide, by decide⟩
  · exact ⟨5, rfl, by decide, by decide⟩
  · exact ⟨6, rfl, by decide, by decide⟩
  · exact ⟨7, rfl, by decide, by decide⟩
  · exact ⟨8, rfl, by decide, by decide⟩
set_option maxRecDepth 65536 in
set_option maxHeartbeats 40000000 in
theorem ct0 (l : Launch) (Z : State) (a0 : Array Value) (hw : ∀ d ∈ tables_1, d.before a0 Z = true) (q1 q2 q3 q4 q5 : Int32) (h0 : Heap)  :
    Ct l Z x code maxLocals ret room_1 #[(.int q1), (.int q2), (.int q3), (.int q4), (.int q5)] h0 [] (fun v h => v = some (.int 1)) := by
  refine Ct.of (plainFor_of_name (by first | (simp [plainName, overriddenIn]; done) | decide +kernel)) ?_
  intro p e s m below meth c T0 X0
  refine Runs.top (g' := mkF m 0 #[.val (.int q1), .val (.int q2), .val (.int q3), .val (.int q4), .val (.int q5), .unset, .unset, .unset, .unset, .unset, .unset, .unset, .unset] []) (by first | (simp [entryFrame, mkF, argsToLocals, Value.category, maxLocals]; done) | rfl) ?_
  have KK : ∀ (T9 : State) (cap : Int32), Here p l e room_1 s m #[(.int q1), (.int q2), (.int q3), (.int q4), (.int q5)] below meth c x code maxLocals ret Z h0 [] T9 0 0 h0 → ¬ cap < (1 : Int32) → Runs p e below (T9.setTop (mkF m 20 #[.val (.int q1), .val (.int q2), .val (.int q3), .val (.int q4), .val (.int q5), .unset, .unset, .unset, .unset, .unset, .unset, .unset, .unset] [(.int cap)])) (Jvm.Own.Out s h0 [] room_1 (fun v h => v = some (.int 1))) := by
    intro T9 cap X9 hcap
    have hcap0 : (0 : Int32) < cap := by
      rw [Int32.lt_iff_toInt_lt] at *
      have e0 : (0 : Int32).toInt = 0 := rfl
      have e1 : (1 : Int32).toInt = 1 := rfl
      omega
    refine X9.istore (pc' := 22) (l' := #[.val (.int q1), .val (.int q2), .val (.int q3), .val (.int q4), .val (.int q5), .val (.int cap), .unset, .unset, .unset, .unset, .unset, .unset, .unset]) at_20 rfl rfl ?_
    refine X9.iconst (pc' := 23) (z := 1) at_22 rfl rfl ?_
    refine X9.iload (pc' := 25) at_23 rfl rfl ?_
    refine X9.bipush (pc' := 27) (z := 7) at_25 rfl rfl ?_
    refine X9.iand (pc' := 28) at_27 rfl ?_
    refine X9.iadd (pc' := 29) at_28 rfl ?_
    obtain ⟨z, hzz⟩ : ∃ z, z = ((1 : Int32) + (q5 &&& (7 : Int32))) := ⟨_, rfl⟩
    rw [← hzz]
    have hm := own_m8 q5 z hzz
    refine X9.istore (pc' := 31) (l' := #[.val (.int q1), .val (.int q2), .val (.int q3), .val (.int q4), .val (.int q5), .val (.int cap), .val (.int z), .unset, .unset, .unset, .unset, .unset, .unset]) at_29 rfl rfl ?_
    refine X9.bipush (pc' := 33) (z := 8) at_31 rfl rfl ?_
    refine X9.newarray (pc' := 35) (ty := .int) rfl (wd_0 hw) at_33 rfl (cap := 8) ⟨by decide, by decide⟩ (by decide) (by decide) (by decide) (fun T1 h1 b1 X1 g1 E1 V1 => ?_)
    have sz_b1 : h0.size ≤ b1 := g1 ▸ X9.size
    have V1' : Lst Z h1 b1 .int [(.int (0 : Int32)), (.int (0 : Int32)), (.int (0 : Int32)), (.int (0 : Int32)), (.int (0 : Int32)), (.int (0 : Int32)), (.int (0 : Int32)), (.int (0 : Int32))] := V1
    refine X1.dup (pc' := 36) at_35 rfl rfl ?_
    refine X1.iconst (pc' := 37) (z := 0) at_36 rfl rfl ?_
    refine X1.iconst (pc' := 38) (z := 0) at_37 rfl rfl ?_
    refine X1.iload (pc' := 40) at_38 rfl rfl ?_
    refine X1.callS (pc' := 43) (W := 3) (argsL := [(.int (0 : Int32)), (.int z)]) (rest := [(.int (0 : Int32)), (.ref b1), (.ref b1)]) (ct1 l Z a0 hw (0 : Int32) z h1) (wd_1 hw) (wd_2 hw) (wd_3 hw) (wd_4 hw) (by decide) pd_2 rfl rfl rfl rfl at_40 rfl (by decide) rfl (by decide) (by decide) (by decide) allWs0 (fun T2 h2 v2 X2 K2 Q2 => ?_)
    obtain ⟨rfl, rfl⟩ := Q2
    show Runs p e below (T2.setTop (mkF m 43 #[.val (.int q1), .val (.int q2), .val (.int q3), .val (.int q4), .val (.int q5), .val (.int cap), .val (.int z), .unset, .unset, .unset, .unset, .unset, .unset] [(.int (own_cat (0 : Int32) z)), (.int (0 : Int32)), (.ref b1), (.ref b1)])) _
    refine X2.iastore (pc' := 44) V1' (show Inb (0 : Int32) 8 from ⟨by decide, by decide⟩) at_43 rfl (Or.inr sz_b1) (fun T3 h3 X3 W3 => ?_)
    have V3 : Lst Z h3 b1 .int [(.int (own_cat (0 : Int32) z)), (.int (0 : Int32)), (.int (0 : Int32)), (.int (0 : Int32)), (.int (0 : Int32)), (.int (0 : Int32)), (.int (0 : Int32)), (.int (0 : Int32))] := V1'.set W3
    refine X3.dup (pc' := 45) at_44 rfl rfl ?_
    refine X3.iconst (pc' := 46) (z := 1) at_45 rfl rfl ?_
    refine X3.iconst (pc' := 47) (z := 1) at_46 rfl rfl ?_
    refine X3.iload (pc' := 49) at_47 rfl rfl ?_
    refine X3.callS (pc' := 52) (W := 3) (argsL := [(.int (1 : Int32)), (.int z)]) (rest := [(.int (1 : Int32)), (.ref b1), (.ref b1)]) (ct1 l Z a0 hw (1 : Int32) z h3) (wd_1 hw) (wd_2 hw) (wd_3 hw) (wd_4 hw) (by decide) pd_2 rfl rfl rfl rfl at_49 rfl (by decide) rfl (by decide) (by decide) (by decide) allWs0 (fun T4 h4 v4 X4 K4 Q4 => ?_)
    obtain ⟨rfl, rfl⟩ := Q4
    show Runs p e below (T4.setTop (mkF m 52 #[.val (.int q1), .val (.int q2), .val (.int q3), .val (.int q4), .val (.int q5), .val (.int cap), .val (.int z), .unset, .unset, .unset, .unset, .unset, .unset] [(.int (own_cat (1 : Int32) z)), (.int (1 : Int32)), (.ref b1), (.ref b1)])) _
    refine X4.iastore (pc' := 53) V3 (show Inb (1 : Int32) 8 from ⟨by decide, by decide⟩) at_52 rfl (Or.inr sz_b1) (fun T5 h5 X5 W5 => ?_)
    have V5 : Lst Z h5 b1 .int [(.int (own_cat (0 : Int32) z)), (.int (own_cat (1 : Int32) z)), (.int (0 : Int32)), (.int (0 : Int32)), (.int (0 : Int32)), (.int (0 : Int32)), (.int (0 : Int32)), (.int (0 : Int32))] := V3.set W5
    refine X5.dup (pc' := 54) at_53 rfl rfl ?_
    refine X5.iconst (pc' := 55) (z := 2) at_54 rfl rfl ?_
    refine X5.iconst (pc' := 56) (z := 2) at_55 rfl rfl ?_
    refine X5.iload (pc' := 58) at_56 rfl rfl ?_
    refine X5.callS (pc' := 61) (W := 3) (argsL := [(.int (2 : Int32)), (.int z)]) (rest := [(.int (2 : Int32)), (.ref b1), (.ref b1)]) (ct1 l Z a0 hw (2 : Int32) z h5) (wd_1 hw) (wd_2 hw) (wd_3 hw) (wd_4 hw) (by decide) pd_2 rfl rfl rfl rfl at_58 rfl (by decide) rfl (by decide) (by decide) (by decide) allWs0 (fun T6 h6 v6 X6 K6 Q6 => ?_)
    obtain ⟨rfl, rfl⟩ := Q6
    show Runs p e below (T6.setTop (mkF m 61 #[.val (.int q1), .val (.int q2), .val (.int q3), .val (.int q4), .val (.int q5), .val (.int cap), .val (.int z), .unset, .unset, .unset, .unset, .unset, .unset] [(.int (own_cat (2 : Int32) z)), (.int (2 : Int32)), (.ref b1), (.ref b1)])) _
    refine X6.iastore (pc' := 62) V5 (show Inb (2 : Int32) 8 from ⟨by decide, by decide⟩) at_61 rfl (Or.inr sz_b1) (fun T7 h7 X7 W7 => ?_)
    have V7 : Lst Z h7 b1 .int [(.int (own_cat (0 : Int32) z)), (.int (own_cat (1 : Int32) z)), (.int (own_cat (2 : Int32) z)), (.int (0 : Int32)), (.int (0 : Int32)), (.int (0 : Int32)), (.int (0 : Int32)), (.int (0 : Int32))] := V5.set W7
    refine X7.dup (pc' := 63) at_62 rfl rfl ?_
    refine X7.iconst (pc' := 64) (z := 3) at_63 rfl rfl ?_
    refine X7.iconst (pc' := 65) (z := 3) at_64 rfl rfl ?_
    refine X7.iload (pc' := 67) at_65 rfl rfl ?_
    refine X7.callS (pc' := 70) (W := 3) (argsL := [(.int (3 : Int32)), (.int z)]) (rest := [(.int (3 : Int32)), (.ref b1), (.ref b1)]) (ct1 l Z a0 hw (3 : Int32) z h7) (wd_1 hw) (wd_2 hw) (wd_3 hw) (wd_4 hw) (by decide) pd_2 rfl rfl rfl rfl at_67 rfl (by decide) rfl (by decide) (by decide) (by decide) allWs0 (fun T8 h8 v8 X8 K8 Q8 => ?_)
    obtain ⟨rfl, rfl⟩ := Q8
    show Runs p e below (T8.setTop (mkF m 70 #[.val (.int q1), .val (.int q2), .val (.int q3), .val (.int q4), .val (.int q5), .val (.int cap), .val (.int z), .unset, .unset, .unset, .unset, .unset, .unset] [(.int (own_cat (3 : Int32) z)), (.int (3 : Int32)), (.ref b1), (.ref b1)])) _
    refine X8.iastore (pc' := 71) V7 (show Inb (3 : Int32) 8 from ⟨by decide, by decide⟩) at_70 rfl (Or.inr sz_b1) (fun T9 h9 X9 W9 => ?_)
    have V9 : Lst Z h9 b1 .int [(.int (own_cat (0 : Int32) z)), (.int (own_cat (1 : Int32) z)), (.int (own_cat (2 : Int32) z)), (.int (own_cat (3 : Int32) z)), (.int (0 : Int32)), (.int (0 : Int32)), (.int (0 : Int32)), (.int (0 : Int32))] := V7.set W9
    refine X9.dup (pc' := 72) at_71 rfl rfl ?_
    refine X9.iconst (pc' := 73) (z := 4) at_72 rfl rfl ?_
    refine X9.iconst (pc' := 74) (z := 4) at_73 rfl rfl ?_
    refine X9.iload (pc' := 76) at_74 rfl rfl ?_
    refine X9.callS (pc' := 79) (W := 3) (argsL := [(.int (4 : Int32)), (.int z)]) (rest := [(.int (4 : Int32)), (.ref b1), (.ref b1)]) (ct1 l Z a0 hw (4 : Int32) z h9) (wd_1 hw) (wd_2 hw) (wd_3 hw) (wd_4 hw) (by decide) pd_2 rfl rfl rfl rfl at_76 rfl (by decide) rfl (by decide) (by decide) (by decide) allWs0 (fun T10 h10 v10 X10 K10 Q10 => ?_)
    obtain ⟨rfl, rfl⟩ := Q10
    show Runs p e below (T10.setTop (mkF m 79 #[.val (.int q1), .val (.int q2), .val (.int q3), .val (.int q4), .val (.int q5), .val (.int cap), .val (.int z), .unset, .unset, .unset, .unset, .unset, .unset] [(.int (own_cat (4 : Int32) z)), (.int (4 : Int32)), (.ref b1), (.ref b1)])) _
    refine X10.iastore (pc' := 80) V9 (show Inb (4 : Int32) 8 from ⟨by decide, by decide⟩) at_79 rfl (Or.inr sz_b1) (fun T11 h11 X11 W11 => ?_)
    have V11 : Lst Z h11 b1 .int [(.int (own_cat (0 : Int32) z)), (.int (own_cat (1 : Int32) z)), (.int (own_cat (2 : Int32) z)), (.int (own_cat (3 : Int32) z)), (.int (own_cat (4 : Int32) z)), (.int (0 : Int32)), (.int (0 : Int32)), (.int (0 : Int32))] := V9.set W11
    refine X11.dup (pc' := 81) at_80 rfl rfl ?_
    refine X11.iconst (pc' := 82) (z := 5) at_81 rfl rfl ?_
    refine X11.iconst (pc' := 83) (z := 5) at_82 rfl rfl ?_
    refine X11.iload (pc' := 85) at_83 rfl rfl ?_
    refine X11.callS (pc' := 88) (W := 3) (argsL := [(.int (5 : Int32)), (.int z)]) (rest := [(.int (5 : Int32)), (.ref b1), (.ref b1)]) (ct1 l Z a0 hw (5 : Int32) z h11) (wd_1 hw) (wd_2 hw) (wd_3 hw) (wd_4 hw) (by decide) pd_2 rfl rfl rfl rfl at_85 rfl (by decide) rfl (by decide) (by decide) (by decide) allWs0 (fun T12 h12 v12 X12 K12 Q12 => ?_)
    obtain ⟨rfl, rfl⟩ := Q12
    show Runs p e below (T12.setTop (mkF m 88 #[.val (.int q1), .val (.int q2), .val (.int q3), .val (.int q4), .val (.int q5), .val (.int cap), .val (.int z), .unset, .unset, .unset, .unset, .unset, .unset] [(.int (own_cat (5 : Int32) z)), (.int (5 : Int32)), (.ref b1), (.ref b1)])) _
    refine X12.iastore (pc' := 89) V11 (show Inb (5 : Int32) 8 from ⟨by decide, by decide⟩) at_88 rfl (Or.inr sz_b1) (fun T13 h13 X13 W13 => ?_)
    have V13 : Lst Z h13 b1 .int [(.int (own_cat (0 : Int32) z)), (.int (own_cat (1 : Int32) z)), (.int (own_cat (2 : Int32) z)), (.int (own_cat (3 : Int32) z)), (.int (own_cat (4 : Int32) z)), (.int (own_cat (5 : Int32) z)), (.int (0 : Int32)), (.int (0 : Int32))] := V11.set W13
    refine X13.dup (pc' := 90) at_89 rfl rfl ?_
    refine X13.bipush (pc' := 92) (z := 6) at_90 rfl rfl ?_
    refine X13.bipush (pc' := 94) (z := 6) at_92 rfl rfl ?_
    refine X13.iload (pc' := 96) at_94 rfl rfl ?_
    refine X13.callS (pc' := 99) (W := 3) (argsL := [(.int (6 : Int32)), (.int z)]) (rest := [(.int (6 : Int32)), (.ref b1), (.ref b1)]) (ct1 l Z a0 hw (6 : Int32) z h13) (wd_1 hw) (wd_2 hw) (wd_3 hw) (wd_4 hw) (by decide) pd_2 rfl rfl rfl rfl at_96 rfl (by decide) rfl (by decide) (by decide) (by decide) allWs0 (fun T14 h14 v14 X14 K14 Q14 => ?_)
    obtain ⟨rfl, rfl⟩ := Q14
    show Runs p e below (T14.setTop (mkF m 99 #[.val (.int q1), .val (.int q2), .val (.int q3), .val (.int q4), .val (.int q5), .val (.int cap), .val (.int z), .unset, .unset, .unset, .unset, .unset, .unset] [(.int (own_cat (6 : Int32) z)), (.int (6 : Int32)), (.ref b1), (.ref b1)])) _
    refine X14.iastore (pc' := 100) V13 (show Inb (6 : Int32) 8 from ⟨by decide, by decide⟩) at_99 rfl (Or.inr sz_b1) (fun T15 h15 X15 W15 => ?_)
    have V15 : Lst Z h15 b1 .int [(.int (own_cat (0 : Int32) z)), (.int (own_cat (1 : Int32) z)), (.int (own_cat (2 : Int32) z)), (.int (own_cat (3 : Int32) z)), (.int (own_cat (4 : Int32) z)), (.int (own_cat (5 : Int32) z)), (.int (own_cat (6 : Int32) z)), (.int (0 : Int32))] := V13.set W15
    refine X15.dup (pc' := 101) at_100 rfl rfl ?_
    refine X15.bipush (pc' := 103) (z := 7) at_101 rfl rfl ?_
    refine X15.bipush (pc' := 105) (z := 7) at_103 rfl rfl ?_
    refine X15.iload (pc' := 107) at_105 rfl rfl ?_
    refine X15.callS (pc' := 110) (W := 3) (argsL := [(.int (7 : Int32)), (.int z)]) (rest := [(.int (7 : Int32)), (.ref b1), (.ref b1)]) (ct1 l Z a0 hw (7 : Int32) z h15) (wd_1 hw) (wd_2 hw) (wd_3 hw) (wd_4 hw) (by decide) pd_2 rfl rfl rfl rfl at_107 rfl (by decide) rfl (by decide) (by decide) (by decide) allWs0 (fun T16 h16 v16 X16 K16 Q16 => ?_)
    obtain ⟨rfl, rfl⟩ := Q16
    show Runs p e below (T16.setTop (mkF m 110 #[.val (.int q1), .val (.int q2), .val (.int q3), .val (.int q4), .val (.int q5), .val (.int cap), .val (.int z), .unset, .unset, .unset, .unset, .unset, .unset] [(.int (own_cat (7 : Int32) z)), (.int (7 : Int32)), (.ref b1), (.ref b1)])) _
    refine X16.iastore (pc' := 111) V15 (show Inb (7 : Int32) 8 from ⟨by decide, by decide⟩) at_110 rfl (Or.inr sz_b1) (fun T17 h17 X17 W17 => ?_)
    have V17 : Lst Z h17 b1 .int [(.int (own_cat (0 : Int32) z)), (.int (own_cat (1 : Int32) z)), (.int (own_cat (2 : Int32) z)), (.int (own_cat (3 : Int32) z)), (.int (own_cat (4 : Int32) z)), (.int (own_cat (5 : Int32) z)), (.int (own_cat (6 : Int32) z)), (.int (own_cat (7 : Int32) z))] := V15.set W17
    refine X17.astore (pc' := 113) (l' := #[.val (.int q1), .val (.int q2), .val (.int q3), .val (.int q4), .val (.int q5), .val (.int cap), .val (.int z), .val (.ref b1), .unset, .unset, .unset, .unset, .unset]) at_111 rfl rfl rfl ?_
    refine X17.bipush (pc' := 115) (z := 8) at_113 rfl rfl ?_
    refine X17.newarray (pc' := 117) (ty := .int) rfl (wd_0 hw) at_115 rfl (cap := 8) ⟨by decide, by decide⟩ (by decide) (by decide) (by decide) (fun T18 h18 b18 X18 g18 E18 V18 => ?_)
    have sz_b18 : h0.size ≤ b18 := g18 ▸ X17.size
    have ne_b1_b18 : b1 ≠ b18 := Nat.ne_of_lt (g18 ▸ V17.lt)
    have V17_18 := V17.ext E18
    have V18' : Lst Z h18 b18 .int [(.int (0 : Int32)), (.int (0 : Int32)), (.int (0 : Int32)), (.int (0 : Int32)), (.int (0 : Int32)), (.int (0 : Int32)), (.int (0 : Int32)), (.int (0 : Int32))] := V18
    refine X18.dup (pc' := 118) at_117 rfl rfl ?_
    refine X18.iconst (pc' := 119) (z := 0) at_118 rfl rfl ?_
    refine X18.iconst (pc' := 120) (z := 0) at_119 rfl rfl ?_
    refine X18.iastore (pc' := 121) V18' (show Inb (0 : Int32) 8 from ⟨by decide, by decide⟩) at_120 rfl (Or.inr sz_b18) (fun T19 h19 X19 W19 => ?_)
    have V19 : Lst Z h19 b18 .int [(.int (0 : Int32)), (.int (0 : Int32)), (.int (0 : Int32)), (.int (0 : Int32)), (.int (0 : Int32)), (.int (0 : Int32)), (.int (0 : Int32)), (.int (0 : Int32))] := V18'.set W19
    have V17_19 := V17_18.other W19 ne_b1_b18
    refine X19.dup (pc' := 122) at_121 rfl rfl ?_
    refine X19.iconst (pc' := 123) (z := 1) at_122 rfl rfl ?_
    refine X19.iconst (pc' := 124) (z := 1) at_123 rfl rfl ?_
    refine X19.iastore (pc' := 125) V19 (show Inb (1 : Int32) 8 from ⟨by decide, by decide⟩) at_124 rfl (Or.inr sz_b18) (fun T20 h20 X20 W20 => ?_)
    have V20 : Lst Z h20 b18 .int [(.int (0 : Int32)), (.int (1 : Int32)), (.int (0 : Int32)), (.int (0 : Int32)), (.int (0 : Int32)), (.int (0 : Int32)), (.int (0 : Int32)), (.int (0 : Int32))] := V19.set W20
    have V17_20 := V17_19.other W20 ne_b1_b18
    refine X20.dup (pc' := 126) at_125 rfl rfl ?_
    refine X20.iconst (pc' := 127) (z := 2) at_126 rfl rfl ?_
    refine X20.iconst (pc' := 128) (z := 2) at_127 rfl rfl ?_
    refine X20.iastore (pc' := 129) V20 (show Inb (2 : Int32) 8 from ⟨by decide, by decide⟩) at_128 rfl (Or.inr sz_b18) (fun T21 h21 X21 W21 => ?_)
    have V21 : Lst Z h21 b18 .int [(.int (0 : Int32)), (.int (1 : Int32)), (.int (2 : Int32)), (.int (0 : Int32)), (.int (0 : Int32)), (.int (0 : Int32)), (.int (0 : Int32)), (.int (0 : Int32))] := V20.set W21
    have V17_21 := V17_20.other W21 ne_b1_b18
    refine X21.dup (pc' := 130) at_129 rfl rfl ?_
    refine X21.iconst (pc' := 131) (z := 3) at_130 rfl rfl ?_
    refine X21.iconst (pc' := 132) (z := 3) at_131 rfl rfl ?_
    refine X21.iastore (pc' := 133) V21 (show Inb (3 : Int32) 8 from ⟨by decide, by decide⟩) at_132 rfl (Or.inr sz_b18) (fun T22 h22 X22 W22 => ?_)
    have V22 : Lst Z h22 b18 .int [(.int (0 : Int32)), (.int (1 : Int32)), (.int (2 : Int32)), (.int (3 : Int32)), (.int (0 : Int32)), (.int (0 : Int32)), (.int (0 : Int32)), (.int (0 : Int32))] := V21.set W22
    have V17_22 := V17_21.other W22 ne_b1_b18
    refine X22.dup (pc' := 134) at_133 rfl rfl ?_
    refine X22.iconst (pc' := 135) (z := 4) at_134 rfl rfl ?_
    refine X22.iconst (pc' := 136) (z := 4) at_135 rfl rfl ?_
    refine X22.iastore (pc' := 137) V22 (show Inb (4 : Int32) 8 from ⟨by decide, by decide⟩) at_136 rfl (Or.inr sz_b18) (fun T23 h23 X23 W23 => ?_)
    have V23 : Lst Z h23 b18 .int [(.int (0 : Int32)), (.int (1 : Int32)), (.int (2 : Int32)), (.int (3 : Int32)), (.int (4 : Int32)), (.int (0 : Int32)), (.int (0 : Int32)), (.int (0 : Int32))] := V22.set W23
    have V17_23 := V17_22.other W23 ne_b1_b18
    refine X23.dup (pc' := 138) at_137 rfl rfl ?_
    refine X23.iconst (pc' := 139) (z := 5) at_138 rfl rfl ?_
    refine X23.iconst (pc' := 140) (z := 5) at_139 rfl rfl ?_
    refine X23.iastore (pc' := 141) V23 (show Inb (5 : Int32) 8 from ⟨by decide, by decide⟩) at_140 rfl (Or.inr sz_b18) (fun T24 h24 X24 W24 => ?_)
    have V24 : Lst Z h24 b18 .int [(.int (0 : Int32)), (.int (1 : Int32)), (.int (2 : Int32)), (.int (3 : Int32)), (.int (4 : Int32)), (.int (5 : Int32)), (.int (0 : Int32)), (.int (0 : Int32))] := V23.set W24
    have V17_24 := V17_23.other W24 ne_b1_b18
    refine X24.dup (pc' := 142) at_141 rfl rfl ?_
    refine X24.bipush (pc' := 144) (z := 6) at_142 rfl rfl ?_
    refine X24.bipush (pc' := 146) (z := 6) at_144 rfl rfl ?_
    refine X24.iastore (pc' := 147) V24 (show Inb (6 : Int32) 8 from ⟨by decide, by decide⟩) at_146 rfl (Or.inr sz_b18) (fun T25 h25 X25 W25 => ?_)
    have V25 : Lst Z h25 b18 .int [(.int (0 : Int32)), (.int (1 : Int32)), (.int (2 : Int32)), (.int (3 : Int32)), (.int (4 : Int32)), (.int (5 : Int32)), (.int (6 : Int32)), (.int (0 : Int32))] := V24.set W25
    have V17_25 := V17_24.other W25 ne_b1_b18
    refine X25.dup (pc' := 148) at_147 rfl rfl ?_
    refine X25.bipush (pc' := 150) (z := 7) at_148 rfl rfl ?_
    refine X25.bipush (pc' := 152) (z := 7) at_150 rfl rfl ?_
    refine X25.iastore (pc' := 153) V25 (show Inb (7 : Int32) 8 from ⟨by decide, by decide⟩) at_152 rfl (Or.inr sz_b18) (fun T26 h26 X26 W26 => ?_)
    have V26 : Lst Z h26 b18 .int [(.int (0 : Int32)), (.int (1 : Int32)), (.int (2 : Int32)), (.int (3 : Int32)), (.int (4 : Int32)), (.int (5 : Int32)), (.int (6 : Int32)), (.int (7 : Int32))] := V25.set W26
    have V17_26 := V17_25.other W26 ne_b1_b18
    refine X26.astore (pc' := 155) (l' := #[.val (.int q1), .val (.int q2), .val (.int q3), .val (.int q4), .val (.int q5), .val (.int cap), .val (.int z), .val (.ref b1), .val (.ref b18), .unset, .unset, .unset, .unset]) at_153 rfl rfl rfl ?_
    refine X26.new (pc' := 158) (wd_5 hw) (wd_6 hw) (wd_7 hw) at_155 rfl (by decide) (by decide) (fun T27 h27 b27 X27 g27 E27 A27 D27 => ?_)
    have sz_b27 : h0.size ≤ b27 := g27 ▸ X26.size
    have ne_b1_b27 : b1 ≠ b27 := Nat.ne_of_lt (g27 ▸ V17_26.lt)
    have ne_b18_b27 : b18 ≠ b27 := Nat.ne_of_lt (g27 ▸ V26.lt)
    have V17_27 := V17_26.ext E27
    have V26_27 := V26.ext E27
    have Fcategories_b27 : Fld Z h27 b27 "com/example/corelith/corelith/diversity/Quotas" "categories" "[I" .null := D27 (Or.inr (wd_20 hw)) (ty := (.array .int)) (by decide)
    have Fcapacity_b27 : Fld Z h27 b27 "com/example/corelith/corelith/diversity/Quotas" "capacity" "I" (.int (0 : Int32)) := D27 (Or.inr (wd_22 hw)) (ty := .int) (by decide)
    refine X27.dup (pc' := 159) at_158 rfl rfl ?_
    refine X27.aload (pc' := 161) at_159 rfl rfl rfl ?_
    refine X27.iload (pc' := 163) at_161 rfl rfl ?_
    refine X27.special (pc' := 166) (W := 1) (a := b27) (argsL := [(.ref b1), (.int cap)]) (rest := [(.ref b27)]) (ct2 l Z a0 hw b27 b1 (0 : Int32) cap (own_cat (0 : Int32) z) (own_cat (1 : Int32) z) (own_cat (2 : Int32) z) (own_cat (3 : Int32) z) (own_cat (4 : Int32) z) (own_cat (5 : Int32) z) (own_cat (6 : Int32) z) (own_cat (7 : Int32) z) h27 A27 Fcategories_b27 Fcapacity_b27 V17_27 hcap ne_b1_b27 (own_cb_0 hm) (own_cb_1 hm) (own_cb_2 hm) (own_cb_3 hm) (own_cb_4 hm) (own_cb_5 hm) (own_cb_6 hm) (own_cb_7 hm)) rfl (wd_8 hw) (wd_9 hw) (wd_7 hw) (wd_10 hw) (by decide) pd_3 rfl rfl rfl rfl at_163 rfl (by decide) rfl (by decide) (by decide) (by decide) ((allS (Or.inr sz_b27) all0)) (fun T28 h28 v28 X28 K28 Q28 => ?_)
    have V17_28 := V17_27.keep K28 (ninS ne_b1_b27 nin0)
    have V26_28 := V26_27.keep K28 (ninS ne_b18_b27 nin0)
    have A27_28 := A27.keep K28
    obtain ⟨rfl, Eq, Fqc, Fqp⟩ := Q28
    show Runs p e below (T28.setTop (mkF m 166 #[.val (.int q1), .val (.int q2), .val (.int q3), .val (.int q4), .val (.int q5), .val (.int cap), .val (.int z), .val (.ref b1), .val (.ref b18), .unset, .unset, .unset, .unset] [(.ref b27)])) _
    refine X28.astore (pc' := 168) (l' := #[.val (.int q1), .val (.int q2), .val (.int q3), .val (.int q4), .val (.int q5), .val (.int cap), .val (.int z), .val (.ref b1), .val (.ref b18), .val (.ref b27), .unset, .unset, .unset]) at_166 rfl rfl rfl ?_
    refine X28.aload (pc' := 170) at_168 rfl rfl rfl ?_
    refine X28.aload (pc' := 172) at_170 rfl rfl rfl ?_
    refine X28.virtual (pc' := 175) (W := 0) (a := b27) (argsL := [(.ref b18)]) (rest := []) (ct5 l Z a0 hw b27 b1 b18 cap (own_cz z) h28 (own_hC hm) Eq Fqc Fqp V17_28 V26_28) (wd_23 hw) (wd_24 hw) (fun _ q => notFace_of_selects q) (wd_26 hw) (wd_25 hw) (wd_7 hw) (wd_27 hw) (by decide) Eq pd_4 rfl rfl rfl rfl at_172 rfl (by decide) rfl (by decide) (by decide) (by decide) allWs0 (fun T29 h29 v29 X29 K29 Q29 => ?_)
    have V17_29 := V17_28.keep K29 nin0
    have V26_29 := V26_28.keep K29 nin0
    have Eq_29 := Eq.keep K29
    have Fqc_29 := Fqc.keep K29 nin0
    have Fqp_29 := Fqp.keep K29 nin0
    obtain rfl := Q29
    obtain ⟨mm, hz1, hz2⟩ := own_zm hm
    have hrk := own_qfin hz1 hz2 hcap0
    generalize (own_qs cap (own_cz z) 8).2 = rk at hrk ⊢
    show Runs p e below (T29.setTop (mkF m 175 #[.val (.int q1), .val (.int q2), .val (.int q3), .val (.int q4), .val (.int q5), .val (.int cap), .val (.int z), .val (.ref b1), .val (.ref b18), .val (.ref b27), .unset, .unset, .unset] [(.int rk)])) _
    refine X29.bipush (pc' := 177) (z := 8) at_175 rfl rfl ?_
    refine Runs.dia (P := rk < (8 : Int32)) (B := fun zq : Int32 => T29.setTop (mkF m 185 #[.val (.int q1), .val (.int q2), .val (.int q3), .val (.int q4), .val (.int q5), .val (.int cap), .val (.int z), .val (.ref b1), .val (.ref b18), .val (.ref b27), .unset, .unset, .unset] (.int zq :: []))) (vt := 1) (vf := 0) (fun hc30 k => ?_) (fun hc30 k => ?_) ?_
    · refine X29.icmpNo (pc' := 180) at_177 (tlt hc30).2.1 rfl ?_
      refine X29.iconst (pc' := 181) (z := 1) at_180 rfl rfl ?_
      refine X29.goto (pc' := 185) at_181 (by decide) (by decide) ?_
      exact k
    · refine X29.icmpYes (pc' := 184) at_177 (flt hc30).2.1 (by decide) (by decide) ?_
      refine X29.iconst (pc' := 185) (z := 0) at_184 rfl rfl ?_
      exact k
    show Runs p e below (T29.setTop (mkF m 185 #[.val (.int q1), .val (.int q2), .val (.int q3), .val (.int q4), .val (.int q5), .val (.int cap), .val (.int z), .val (.ref b1), .val (.ref b18), .val (.ref b27), .unset, .unset, .unset] [(.int (if rk < (8 : Int32) then (1 : Int32) else 0))])) _
    refine X29.istore (pc' := 187) (l' := #[.val (.int q1), .val (.int q2), .val (.int q3), .val (.int q4), .val (.int q5), .val (.int cap), .val (.int z), .val (.ref b1), .val (.ref b18), .val (.ref b27), .val (.int (if rk < (8 : Int32) then (1 : Int32) else 0)), .unset, .unset]) at_185 rfl rfl ?_
    refine X29.aload (pc' := 189) at_187 rfl rfl rfl ?_
    refine X29.iload (pc' := 191) at_189 rfl rfl ?_
    refine X29.virtual (pc' := 194) (W := 0) (a := b27) (argsL := [(.int z)]) (rest := []) (ct7 l Z a0 hw b27 cap z (if cap < z then (1 : Int32) else 0) h29 Fqp_29 rfl) (wd_33 hw) (wd_34 hw) (fun _ q => notFace_of_selects q) (wd_36 hw) (wd_35 hw) (wd_7 hw) (wd_37 hw) (by decide) Eq_29 pd_5 rfl rfl rfl rfl at_191 rfl (by decide) rfl (by decide) (by decide) (by decide) allWs0 (fun T31 h31 v31 X31 K31 Q31 => ?_)
    obtain ⟨rfl, rfl⟩ := Q31
    show Runs p e below (T31.setTop (mkF m 194 #[.val (.int q1), .val (.int q2), .val (.int q3), .val (.int q4), .val (.int q5), .val (.int cap), .val (.int z), .val (.ref b1), .val (.ref b18), .val (.ref b27), .val (.int (if rk < (8 : Int32) then (1 : Int32) else 0)), .unset, .unset] [(.int (if cap < z then (1 : Int32) else 0))])) _
    refine X31.iload (pc' := 196) at_194 rfl rfl ?_
    refine X31.icmpYes (pc' := 201) at_196 (teq (by simp only [hrk])).1 (by decide) (by decide) ?_
    refine X31.aload (pc' := 203) at_201 rfl rfl rfl ?_
    refine X31.iload (pc' := 205) at_203 rfl rfl ?_
    refine X31.virtual (pc' := 208) (W := 0) (a := b27) (argsL := [(.int cap)]) (rest := []) (ct7 l Z a0 hw b27 cap cap (0 : Int32) h29 Fqp_29 (if_neg (own_irr cap)).symm) (wd_33 hw) (wd_34 hw) (fun _ q => notFace_of_selects q) (wd_36 hw) (wd_35 hw) (wd_7 hw) (wd_37 hw) (by decide) Eq_29 pd_5 rfl rfl rfl rfl at_205 rfl (by decide) rfl (by decide) (by decide) (by decide) allWs0 (fun T32 h32 v32 X32 K32 Q32 => ?_)
    obtain ⟨rfl, rfl⟩ := Q32
    show Runs p e below (T32.setTop (mkF m 208 #[.val (.int q1), .val (.int q2), .val (.int q3), .val (.int q4), .val (.int q5), .val (.int cap), .val (.int z), .val (.ref b1), .val (.ref b18), .val (.ref b27), .val (.int (if rk < (8 : Int32) then (1 : Int32) else 0)), .unset, .unset] [(.int (0 : Int32))])) _
    refine X32.ifYes (pc' := 213) at_208 (by decide) (by decide) (by decide) ?_
    refine X32.iload (pc' := 215) at_213 rfl rfl ?_
    refine X32.ldcInt (pc' := 217) (wd_38 hw) at_215 rfl ?_
    by_cases hc33 : cap < (2147483647 : Int32)
    · refine X32.icmpNo (pc' := 220) at_217 (tlt hc33).2.1 rfl ?_
      refine X32.aload (pc' := 222) at_220 rfl rfl rfl ?_
      refine X32.iload (pc' := 224) at_222 rfl rfl ?_
      refine X32.iconst (pc' := 225) (z := 1) at_224 rfl rfl ?_
      refine X32.iadd (pc' := 226) at_225 rfl ?_
      refine X32.virtual (pc' := 229) (W := 0) (a := b27) (argsL := [(.int (cap + (1 : Int32)))]) (rest := []) (ct7 l Z a0 hw b27 cap (cap + (1 : Int32)) (1 : Int32) h29 Fqp_29 (if_pos (own_succ hc33)).symm) (wd_33 hw) (wd_34 hw) (fun _ q => notFace_of_selects q) (wd_36 hw) (wd_35 hw) (wd_7 hw) (wd_37 hw) (by decide) Eq_29 pd_5 rfl rfl rfl rfl at_226 rfl (by decide) rfl (by decide) (by decide) (by decide) allWs0 (fun T34 h34 v34 X34 K34 Q34 => ?_)
      obtain ⟨rfl, rfl⟩ := Q34
      show Runs p e below (T34.setTop (mkF m 229 #[.val (.int q1), .val (.int q2), .val (.int q3), .val (.int q4), .val (.int q5), .val (.int cap), .val (.int z), .val (.ref b1), .val (.ref b18), .val (.ref b27), .val (.int (if rk < (8 : Int32) then (1 : Int32) else 0)), .unset, .unset] [(.int (1 : Int32))])) _
      refine X34.ifYes (pc' := 234) at_229 (by decide) (by decide) (by decide) ?_
      refine X34.iloadN (pc' := 235) at_234 rfl rfl ?_
      refine X34.iloadN (pc' := 236) at_235 rfl rfl ?_
      refine X34.callS (pc' := 239) (W := 0) (argsL := [(.int q3), (.int q4)]) (rest := []) (ct8 l Z a0 hw q3 q4 h29) (wd_39 hw) (wd_40 hw) (wd_41 hw) (wd_42 hw) (by decide) pd_2 rfl rfl rfl rfl at_236 rfl (by decide) rfl (by decide) (by decide) (by decide) allWs0 (fun T35 h35 v35 X35 K35 Q35 => ?_)
      obtain ⟨rfl, rfl⟩ := Q35
      show Runs p e below (T35.setTop (mkF m 239 #[.val (.int q1), .val (.int q2), .val (.int q3), .val (.int q4), .val (.int q5), .val (.int cap), .val (.int z), .val (.ref b1), .val (.ref b18), .val (.ref b27), .val (.int (if rk < (8 : Int32) then (1 : Int32) else 0)), .unset, .unset] [(.int (own_min q3 q4))])) _
      refine X35.istore (pc' := 241) (l' := #[.val (.int q1), .val (.int q2), .val (.int q3), .val (.int q4), .val (.int q5), .val (.int cap), .val (.int z), .val (.ref b1), .val (.ref b18), .val (.ref b27), .val (.int (if rk < (8 : Int32) then (1 : Int32) else 0)), .val (.int (own_min q3 q4)), .unset]) at_239 rfl rfl ?_
      refine X35.iloadN (pc' := 242) at_241 rfl rfl ?_
      refine X35.iloadN (pc' := 243) at_242 rfl rfl ?_
      refine X35.callS (pc' := 246) (W := 0) (argsL := [(.int q3), (.int q4)]) (rest := []) (ct9 l Z a0 hw q3 q4 h29) (wd_43 hw) (wd_44 hw) (wd_41 hw) (wd_45 hw) (by decide) pd_2 rfl rfl rfl rfl at_243 rfl (by decide) rfl (by decide) (by decide) (by decide) allWs0 (fun T36 h36 v36 X36 K36 Q36 => ?_)
      obtain ⟨rfl, rfl⟩ := Q36
      show Runs p e below (T36.setTop (mkF m 246 #[.val (.int q1), .val (.int q2), .val (.int q3), .val (.int q4), .val (.int q5), .val (.int cap), .val (.int z), .val (.ref b1), .val (.ref b18), .val (.ref b27), .val (.int (if rk < (8 : Int32) then (1 : Int32) else 0)), .val (.int (own_min q3 q4)), .unset] [(.int (own_max q3 q4))])) _
      refine X36.istore (pc' := 248) (l' := #[.val (.int q1), .val (.int q2), .val (.int q3), .val (.int q4), .val (.int q5), .val (.int cap), .val (.int z), .val (.ref b1), .val (.ref b18), .val (.ref b27), .val (.int (if rk < (8 : Int32) then (1 : Int32) else 0)), .val (.int (own_min q3 q4)), .val (.int (own_max q3 q4))]) at_246 rfl rfl ?_
      refine X36.aload (pc' := 250) at_248 rfl rfl rfl ?_
      refine X36.iload (pc' := 252) at_250 rfl rfl ?_
      refine X36.virtual (pc' := 255) (W := 0) (a := b27) (argsL := [(.int (own_min q3 q4))]) (rest := []) (ct7 l Z a0 hw b27 cap (own_min q3 q4) (if cap < (own_min q3 q4) then (1 : Int32) else 0) h29 Fqp_29 rfl) (wd_33 hw) (wd_34 hw) (fun _ q => notFace_of_selects q) (wd_36 hw) (wd_35 hw) (wd_7 hw) (wd_37 hw) (by decide) Eq_29 pd_5 rfl rfl rfl rfl at_252 rfl (by decide) rfl (by decide) (by decide) (by decide) allWs0 (fun T37 h37 v37 X37 K37 Q37 => ?_)
      obtain ⟨rfl, rfl⟩ := Q37
      show Runs p e below (T37.setTop (mkF m 255 #[.val (.int q1), .val (.int q2), .val (.int q3), .val (.int q4), .val (.int q5), .val (.int cap), .val (.int z), .val (.ref b1), .val (.ref b18), .val (.ref b27), .val (.int (if rk < (8 : Int32) then (1 : Int32) else 0)), .val (.int (own_min q3 q4)), .val (.int (own_max q3 q4))] [(.int (if cap < (own_min q3 q4) then (1 : Int32) else 0))])) _
      by_cases hc38 : cap < (own_min q3 q4)
      · refine X37.ifNo (pc' := 258) at_255 (by rw [if_pos hc38]; decide) rfl ?_
        refine X37.aload (pc' := 260) at_258 rfl rfl rfl ?_
        refine X37.iload (pc' := 262) at_260 rfl rfl ?_
        refine X37.virtual (pc' := 265) (W := 0) (a := b27) (argsL := [(.int (own_max q3 q4))]) (rest := []) (ct7 l Z a0 hw b27 cap (own_max q3 q4) (1 : Int32) h29 Fqp_29 (if_pos (own_mm hc38)).symm) (wd_33 hw) (wd_34 hw) (fun _ q => notFace_of_selects q) (wd_36 hw) (wd_35 hw) (wd_7 hw) (wd_37 hw) (by decide) Eq_29 pd_5 rfl rfl rfl rfl at_262 rfl (by decide) rfl (by decide) (by decide) (by decide) allWs0 (fun T39 h39 v39 X39 K39 Q39 => ?_)
        obtain ⟨rfl, rfl⟩ := Q39
        show Runs p e below (T39.setTop (mkF m 265 #[.val (.int q1), .val (.int q2), .val (.int q3), .val (.int q4), .val (.int q5), .val (.int cap), .val (.int z), .val (.ref b1), .val (.ref b18), .val (.ref b27), .val (.int (if rk < (8 : Int32) then (1 : Int32) else 0)), .val (.int (own_min q3 q4)), .val (.int (own_max q3 q4))] [(.int (1 : Int32))])) _
        refine X39.ifYes (pc' := 270) at_265 (by decide) (by decide) (by decide) ?_
        refine X39.iconst (pc' := 271) (z := 1) at_270 rfl rfl ?_
        exact X39.zreturn (z' := (1 : Int32)) rfl (by simp) at_271 rfl (by decide) (by decide) rfl
      · refine X37.ifYes (pc' := 270) at_255 (by rw [if_neg hc38]; decide) (by decide) (by decide) ?_
        refine X37.iconst (pc' := 271) (z := 1) at_270 rfl rfl ?_
        exact X37.zreturn (z' := (1 : Int32)) rfl (by simp) at_271 rfl (by decide) (by decide) rfl
    · refine X32.icmpYes (pc' := 234) at_217 (flt hc33).2.1 (by decide) (by decide) ?_
      refine X32.iloadN (pc' := 235) at_234 rfl rfl ?_
      refine X32.iloadN (pc' := 236) at_235 rfl rfl ?_
      refine X32.callS (pc' := 239) (W := 0) (argsL := [(.int q3), (.int q4)]) (rest := []) (ct8 l Z a0 hw q3 q4 h29) (wd_39 hw) (wd_40 hw) (wd_41 hw) (wd_42 hw) (by decide) pd_2 rfl rfl rfl rfl at_236 rfl (by decide) rfl (by decide) (by decide) (by decide) allWs0 (fun T40 h40 v40 X40 K40 Q40 => ?_)
      obtain ⟨rfl, rfl⟩ := Q40
      show Runs p e below (T40.setTop (mkF m 239 #[.val (.int q1), .val (.int q2), .val (.int q3), .val (.int q4), .val (.int q5), .val (.int cap), .val (.int z), .val (.ref b1), .val (.ref b18), .val (.ref b27), .val (.int (if rk < (8 : Int32) then (1 : Int32) else 0)), .unset, .unset] [(.int (own_min q3 q4))])) _
      refine X40.istore (pc' := 241) (l' := #[.val (.int q1), .val (.int q2), .val (.int q3), .val (.int q4), .val (.int q5), .val (.int cap), .val (.int z), .val (.ref b1), .val (.ref b18), .val (.ref b27), .val (.int (if rk < (8 : Int32) then (1 : Int32) else 0)), .val (.int (own_min q3 q4)), .unset]) at_239 rfl rfl ?_
      refine X40.iloadN (pc' := 242) at_241 rfl rfl ?_
      refine X40.iloadN (pc' := 243) at_242 rfl rfl ?_
      refine X40.callS (pc' := 246) (W := 0) (argsL := [(.int q3), (.int q4)]) (rest := []) (ct9 l Z a0 hw q3 q4 h29) (wd_43 hw) (wd_44 hw) (wd_41 hw) (wd_45 hw) (by decide) pd_2 rfl rfl rfl rfl at_243 rfl (by decide) rfl (by decide) (by decide) (by decide) allWs0 (fun T41 h41 v41 X41 K41 Q41 => ?_)
      obtain ⟨rfl, rfl⟩ := Q41
      show Runs p e below (T41.setTop (mkF m 246 #[.val (.int q1), .val (.int q2), .val (.int q3), .val (.int q4), .val (.int q5), .val (.int cap), .val (.int z), .val (.ref b1), .val (.ref b18), .val (.ref b27), .val (.int (if rk < (8 : Int32) then (1 : Int32) else 0)), .val (.int (own_min q3 q4)), .unset] [(.int (own_max q3 q4))])) _
      refine X41.istore (pc' := 248) (l' := #[.val (.int q1), .val (.int q2), .val (.int q3), .val (.int q4), .val (.int q5), .val (.int cap), .val (.int z), .val (.ref b1), .val (.ref b18), .val (.ref b27), .val (.int (if rk < (8 : Int32) then (1 : Int32) else 0)), .val (.int (own_min q3 q4)), .val (.int (own_max q3 q4))]) at_246 rfl rfl ?_
      refine X41.aload (pc' := 250) at_248 rfl rfl rfl ?_
      refine X41.iload (pc' := 252) at_250 rfl rfl ?_
      refine X41.virtual (pc' := 255) (W := 0) (a := b27) (argsL := [(.int (own_min q3 q4))]) (rest := []) (ct7 l Z a0 hw b27 cap (own_min q3 q4) (if cap < (own_min q3 q4) then (1 : Int32) else 0) h29 Fqp_29 rfl) (wd_33 hw) (wd_34 hw) (fun _ q => notFace_of_selects q) (wd_36 hw) (wd_35 hw) (wd_7 hw) (wd_37 hw) (by decide) Eq_29 pd_5 rfl rfl rfl rfl at_252 rfl (by decide) rfl (by decide) (by decide) (by decide) allWs0 (fun T42 h42 v42 X42 K42 Q42 => ?_)
      obtain ⟨rfl, rfl⟩ := Q42
      show Runs p e below (T42.setTop (mkF m 255 #[.val (.int q1), .val (.int q2), .val (.int q3), .val (.int q4), .val (.int q5), .val (.int cap), .val (.int z), .val (.ref b1), .val (.ref b18), .val (.ref b27), .val (.int (if rk < (8 : Int32) then (1 : Int32) else 0)), .val (.int (own_min q3 q4)), .val (.int (own_max q3 q4))] [(.int (if cap < (own_min q3 q4) then (1 : Int32) else 0))])) _
      by_cases hc43 : cap < (own_min q3 q4)
      · refine X42.ifNo (pc' := 258) at_255 (by rw [if_pos hc43]; decide) rfl ?_
        refine X42.aload (pc' := 260) at_258 rfl rfl rfl ?_
        refine X42.iload (pc' := 262) at_260 rfl rfl ?_
        refine X42.virtual (pc' := 265) (W := 0) (a := b27) (argsL := [(.int (own_max q3 q4))]) (rest := []) (ct7 l Z a0 hw b27 cap (own_max q3 q4) (1 : Int32) h29 Fqp_29 (if_pos (own_mm hc43)).symm) (wd_33 hw) (wd_34 hw) (fun _ q => notFace_of_selects q) (wd_36 hw) (wd_35 hw) (wd_7 hw) (wd_37 hw) (by decide) Eq_29 pd_5 rfl rfl rfl rfl at_262 rfl (by decide) rfl (by decide) (by decide) (by decide) allWs0 (fun T44 h44 v44 X44 K44 Q44 => ?_)
        obtain ⟨rfl, rfl⟩ := Q44
        show Runs p e below (T44.setTop (mkF m 265 #[.val (.int q1), .val (.int q2), .val (.int q3), .val (.int q4), .val (.int q5), .val (.int cap), .val (.int z), .val (.ref b1), .val (.ref b18), .val (.ref b27), .val (.int (if rk < (8 : Int32) then (1 : Int32) else 0)), .val (.int (own_min q3 q4)), .val (.int (own_max q3 q4))] [(.int (1 : Int32))])) _
        refine X44.ifYes (pc' := 270) at_265 (by decide) (by decide) (by decide) ?_
        refine X44.iconst (pc' := 271) (z := 1) at_270 rfl rfl ?_
        exact X44.zreturn (z' := (1 : Int32)) rfl (by simp) at_271 rfl (by decide) (by decide) rfl
      · refine X42.ifYes (pc' := 270) at_255 (by rw [if_neg hc43]; decide) (by decide) (by decide) ?_
        refine X42.iconst (pc' := 271) (z := 1) at_270 rfl rfl ?_
        exact X42.zreturn (z' := (1 : Int32)) rfl (by simp) at_271 rfl (by decide) (by decide) rfl
  refine X0.iloadN (pc' := 1) at_0 rfl rfl ?_
  refine X0.iconst (pc' := 2) (z := 1) at_1 rfl rfl ?_
  refine X0.iand (pc' := 3) at_2 rfl ?_
  by_cases hc45 : (q2 &&& (1 : Int32)) = (0 : Int32)
  · refine X0.ifYes (pc' := 15) at_3 (teq hc45).1 (by decide) (by decide) ?_
    refine X0.iconst (pc' := 16) (z := 1) at_15 rfl rfl ?_
    refine X0.iloadN (pc' := 17) at_16 rfl rfl ?_
    refine X0.callS (pc' := 20) (W := 0) (argsL := [(.int (1 : Int32)), (.int q1)]) (rest := []) (ct9 l Z a0 hw (1 : Int32) q1 h0) (wd_43 hw) (wd_44 hw) (wd_41 hw) (wd_45 hw) (by decide) pd_2 rfl rfl rfl rfl at_17 rfl (by decide) rfl (by decide) (by decide) (by decide) allWs0 (fun T46 h46 v46 X46 K46 Q46 => ?_)
    obtain ⟨rfl, rfl⟩ := Q46
    show Runs p e below (T46.setTop (mkF m 20 #[.val (.int q1), .val (.int q2), .val (.int q3), .val (.int q4), .val (.int q5), .unset, .unset, .unset, .unset, .unset, .unset, .unset, .unset] [(.int (own_max (1 : Int32) q1))])) _
    exact KK _ _ X46 (own_max1 q1)
  · refine X0.ifNo (pc' := 6) at_3 (feq hc45).1 rfl ?_
    refine X0.iconst (pc' := 7) (z := 1) at_6 rfl rfl ?_
    refine X0.iloadN (pc' := 8) at_7 rfl rfl ?_
    refine X0.bipush (pc' := 10) (z := 7) at_8 rfl rfl ?_
    refine X0.iand (pc' := 11) at_10 rfl ?_
    refine X0.iadd (pc' := 12) at_11 rfl ?_
    refine X0.goto (pc' := 20) at_12 (by decide) (by decide) ?_
    exact KK _ _ X0 (own_cap1 q1)
set_option maxRecDepth 65536 in
set_option maxHeartbeats 40000000 in
theorem comes_1 {Post : Tables → Env → Array Value → State → Outcome → State → Prop} (hpost : ∀ tb e args s v u, (limb_1_1.after args s (.returned v) u = true ∧ limb_1_2.after args s (.returned v) u = true ∧ True) → FrameEnd s (.returned v) u (Jvm.fieldLocs frame_1_writes args s ++ Jvm.arrayLocs frame_1_arrays args s ++ Jvm.staticLocs frame_1_statics s) 16 128 → Post tb e args s (.returned v) u) :
    ArmFor flags0 classFile x code maxLocals ret World_1 tables_1 room_1 Calls_1 rest_1 Pre_1 Post := by
  intro l hfl _ _ p e ha hc hk s m args below hf hA hF happ hP
  obtain ⟨hcalls, hrest, hpre⟩ := hP
  obtain ⟨-, -, -, hnamed, -, -, -, hat⟩ := (Spec.applies_iff hf).mp happ
  obtain ⟨hg, hn⟩ := and_e (Cond.before_iff.mp (show (Jvm.Cond.and given_1 narrow_1).before args s = true from hpre))
  obtain ⟨g1, g2⟩ := and_e hg
  obtain ⟨g3, g4⟩ := and_e g2
  obtain ⟨g5, g6⟩ := and_e g4
  obtain ⟨g7, g8⟩ := and_e g6
  obtain ⟨g9, g10⟩ := and_e g8
  obtain ⟨w0, w1, w2, w3, w4, rfl⟩ : ∃ w0 w1 w2 w3 w4 : Value, args = #[w0, w1, w2, w3, w4] := by
    have hs : args.size = 5 := by simpa [Cond.value, given_1] using g1
    obtain ⟨L⟩ := args
    match L, hs with
    | [w0, w1, w2, w3, w4], _ => exact ⟨w0, w1, w2, w3, w4, rfl⟩
  have hw := fun d (hd : d ∈ tables_1) => atoms_spec (ws := Jvm.Cond.code x code maxLocals ret :: tables_1) hat d (List.mem_cons_of_mem _ hd)
  obtain ⟨i0, ei0⟩ := is_v g3
  obtain rfl : w0 = (.int i0) := Option.some.inj ei0
  obtain ⟨i1, ei1⟩ := is_v g5
  obtain rfl : w1 = (.int i1) := Option.some.inj ei1
  obtain ⟨i2, ei2⟩ := is_v g7
  obtain rfl : w2 = (.int i2) := Option.some.inj ei2
  obtain ⟨i3, ei3⟩ := is_v g9
  obtain rfl : w3 = (.int i3) := Option.some.inj ei3
  obtain ⟨i4, ei4⟩ := is_v g10
  obtain rfl : w4 = (.int i4) := Option.some.inj ei4
  obtain ⟨n, o, h1, h2, h3, _, L, rfl, ⟨rfl, -, N⟩, hq⟩ := ct0 l s _ hw i0 i1 i2 i3 i4 s.heap tables_1 p e ha hc hk s m _ below hf ((Spec.applies_iff_loose hf).mp happ).1 ⟨rfl, State.Warmed39.refl s, rfl⟩ trivial
  refine ⟨n, _, h1, h2, h3, hpost _ _ _ _ _ _ ⟨Cond.after_iff.mpr rfl, Cond.after_iff.mpr (eq_i res_at (Term.int_eval (1)) rfl), trivial⟩ ⟨hq.1, hq.2.1, (hq.2.2.sift fun y hy => Or.inr ((N y hy).elim (fun z => nomatch z) id)).mono (by decide) (by decide)⟩⟩
theorem main_1_1 : Claimed_1_1 := comes_1 fun _ _ _ _ _ _ h hF => ⟨h.1, hF⟩
theorem main_1_2 : Claimed_1_2 := comes_1 fun _ _ _ _ _ _ h hF => ⟨h.2.1, hF⟩
end Jvm.Pilot.@@N@@
namespace Jvm.Pilot.@@N@@
open Jvm Jvm.ClassFile Sem Op Lib Jvm.Free Jvm.Stand Jvm.Pilot.@@N@@.Jvm.D
/-! MADE BY PROGRAM (witnessworld.py) out of the Statement's table words and the real class files: 11 classes; the members and pool entries that the words name. The judged class is class 1, her method 2. -/
namespace start1
open Jvm.ClassFile
def u (s : String) : CpInfo := .utf8 (stringToUtf16 s)
/-- a pool by its gaps: so many unusable entries, then the entry; so many at the end -/
def gap : Nat → List CpInfo → List CpInfo
  | 0, r => r
  | n + 1, r => .unusable :: gap n r
def poolList (es : List (Nat × CpInfo)) (last : Nat) : List CpInfo := es.foldr (fun e r => gap e.1 (e.2 :: r)) (gap last [])
def pool (es : List (Nat × CpInfo)) (last : Nat) : Array CpInfo := ⟨poolList es last⟩
def fileOf (pool : Array CpInfo) (this : Nat) (attrs : Array Attribute := #[]) (ms : Array MethodInfo := #[]) (fl : Nat := 33) (sup : Nat := 0) (ifs : Array Nat := #[]) (fds : Array FieldInfo := #[]) : ClassFile where
  minorVersion := 0
  majorVersion := 65
  constantPool := pool
  accessFlags := fl
  thisClass := this
  superClass := sup
  interfaces := ifs
  fields := fds
  methods := ms
  attributes := attrs
def plain (name : String) (sup : Option ClassId) : Class where
  name := name
  kind := .ordinary
  loader := none
  accessFlags := 33
  super := sup
  interfaces := #[]
  cf := none
  fields := #[]
  methods := #[]
  instanceTypes := #[]
  staticTypes := #[]
  resolved := #[]
  callSites := []
  init := .initialized
  statics := none
  mirror := none

def pool0 : Array CpInfo := pool [(5, u "<init>"), (0, u "()V"), (1, .class_ 10), (1, u "java/lang/Object")] 113

def k0c0 : Code := { maxStack := 0, maxLocals := 1, code := object_method_1_code, exceptionTable := #[], attributes := #[] }
def k0m0 : Method := { name := "<init>", desc := "()V", sig := { parameters := [], returnType := none }, accessFlags := 1, code := some k0c0 }
/-- java/lang/Object -/
def k0 : Class := { plain "java/lang/Object" none with
  accessFlags := 33
  interfaces := #[]
  cf := some (fileOf pool0 8 #[] #[{ accessFlags := 1, nameIndex := 5, descriptorIndex := 6, attributes := #[] }] 33 0 #[] #[])
  fields := #[]
  methods := #[k0m0]
  instanceTypes := #[]
  staticTypes := #[]
  resolved := Array.replicate 124 none
  statics := none }

def pool1 : Array CpInfo := pool [(2, .class_ 4), (1, u "java/lang/Object"), (0, u "<init>"), (0, u "()V"), (0, .methodref 8 9), (0, .class_ 10), (0, .nameAndType 11 12), (0, u "java/lang/Math"), (0, u "max"), (0, u "(II)I"), (0, .methodref 14 15), (0, .class_ 16), (0, .nameAndType 17 12), (0, u "com/example/corelith/corelith/diversity/QuotasBindPinLaw"), (0, u "cat"), (0, .class_ 19), (0, u "com/example/corelith/corelith/diversity/Quotas"), (0, .methodref 18 21), (0, .nameAndType 5 22), (0, u "([II)V"), (0, .methodref 18 24), (0, .nameAndType 25 26), (0, u "mostKept"), (0, u "([I)I"), (0, .methodref 18 28), (0, .nameAndType 29 30), (0, u "bind"), (0, u "(I)Z"), (2, .integer 2147483647), (0, .methodref 8 35), (0, .nameAndType 36 12), (0, u "min"), (3, u "law"), (0, u "(IIIII)Z")] 4

def k1m0 : Method := { name := "<init>", desc := "()V", sig := { parameters := [], returnType := none }, accessFlags := 1, code := none }
def k1c1 : Code := { maxStack := 2, maxLocals := 2, code := method_2_code, exceptionTable := #[], attributes := #[] }
def k1m1 : Method := { name := "cat", desc := "(II)I", sig := { parameters := [.int, .int], returnType := some .int }, accessFlags := 10, code := some k1c1 }
def k1c2 : Code := { maxStack := 5, maxLocals := 13, code := code, exceptionTable := #[], attributes := #[] }
def k1m2 : Method := { name := "law", desc := "(IIIII)Z", sig := { parameters := [.int, .int, .int, .int, .int], returnType := some .boolean }, accessFlags := 9, code := some k1c2 }
/-- com/example/corelith/corelith/diversity/QuotasBindPinLaw -/
def k1 : Class := { plain "com/example/corelith/corelith/diversity/QuotasBindPinLaw" (some 0) with
  accessFlags := 49
  interfaces := #[]
  cf := some (fileOf pool1 14 #[] #[{ accessFlags := 1, nameIndex := 5, descriptorIndex := 6, attributes := #[] }, { accessFlags := 10, nameIndex := 17, descriptorIndex := 12, attributes := #[] }, { accessFlags := 9, nameIndex := 40, descriptorIndex := 41, attributes := #[] }] 49 2 #[] #[])
  fields := #[]
  methods := #[k1m0, k1m1, k1m2]
  instanceTypes := #[]
  staticTypes := #[]
  resolved := Array.replicate 46 none
  statics := none }

def pool2 : Array CpInfo := pool [(1, .methodref 2 3), (0, .class_ 4), (0, .nameAndType 5 6), (0, u "java/lang/Object"), (0, u "<init>"), (0, u "()V"), (0, .class_ 8), (0, u "java/lang/Record")] 13

def k2c0 : Code := { maxStack := 1, maxLocals := 1, code := jdk_30_method_1_code, exceptionTable := #[], attributes := #[] }
def k2m0 : Method := { name := "<init>", desc := "()V", sig := { parameters := [], returnType := none }, accessFlags := 4, code := some k2c0 }
/-- java/lang/Record -/
def k2 : Class := { plain "java/lang/Record" (some 0) with
  accessFlags := 1057
  interfaces := #[]
  cf := some (fileOf pool2 7 #[] #[{ accessFlags := 4, nameIndex := 5, descriptorIndex := 6, attributes := #[] }] 1057 2 #[] #[])
  fields := #[]
  methods := #[k2m0]
  instanceTypes := #[]
  staticTypes := #[]
  resolved := Array.replicate 22 none
  statics := none }

def pool3 : Array CpInfo := pool [(1, .methodref 2 3), (0, .class_ 4), (0, .nameAndType 5 6), (0, u "java/lang/Record"), (0, u "<init>"), (0, u "()V"), (12, .fieldref 20 21), (0, .class_ 22), (0, .nameAndType 23 24), (0, u "com/example/corelith/corelith/diversity/Quotas"), (0, u "categories"), (0, u "[I"), (0, .fieldref 20 26), (0, .nameAndType 27 28), (0, u "capacity"), (0, u "I"), (3, u "([II)V"), (3, .methodref 20 37), (0, .nameAndType 38 39), (0, u "of"), (0, u "(I)I"), (20, u "bind"), (0, u "(I)Z"), (0, u "mostKept"), (0, u "([I)I")] 37

def k3c0 : Code := { maxStack := 4, maxLocals := 7, code := prog_10_method_1_code, exceptionTable := #[], attributes := #[] }
def k3m0 : Method := { name := "<init>", desc := "([II)V", sig := { parameters := [(.array .int), .int], returnType := none }, accessFlags := 0, code := some k3c0 }
def k3c1 : Code := { maxStack := 2, maxLocals := 2, code := prog_10_method_4_code, exceptionTable := #[], attributes := #[] }
def k3m1 : Method := { name := "of", desc := "(I)I", sig := { parameters := [.int], returnType := some .int }, accessFlags := 0, code := some k3c1 }
def k3c2 : Code := { maxStack := 2, maxLocals := 2, code := prog_10_method_5_code, exceptionTable := #[], attributes := #[] }
def k3m2 : Method := { name := "bind", desc := "(I)Z", sig := { parameters := [.int], returnType := some .boolean }, accessFlags := 0, code := some k3c2 }
def k3c3 : Code := { maxStack := 4, maxLocals := 8, code := prog_10_method_6_code, exceptionTable := #[], attributes := #[] }
def k3m3 : Method := { name := "mostKept", desc := "([I)I", sig := { parameters := [(.array .int)], returnType := some .int }, accessFlags := 0, code := some k3c3 }
/-- com/example/corelith/corelith/diversity/Quotas -/
def k3 : Class := { plain "com/example/corelith/corelith/diversity/Quotas" (some 2) with
  accessFlags := 48
  interfaces := #[]
  cf := some (fileOf pool3 20 #[] #[{ accessFlags := 0, nameIndex := 5, descriptorIndex := 32, attributes := #[] }, { accessFlags := 0, nameIndex := 38, descriptorIndex := 39, attributes := #[] }, { accessFlags := 0, nameIndex := 60, descriptorIndex := 61, attributes := #[] }, { accessFlags := 0, nameIndex := 62, descriptorIndex := 63, attributes := #[] }] 48 2 #[] #[{ accessFlags := 18, nameIndex := 23, descriptorIndex := 24, attributes := #[] }, { accessFlags := 18, nameIndex := 27, descriptorIndex := 28, attributes := #[] }])
  fields := #[{ name := "categories", type := (.array .int), accessFlags := 18, slot := 0, constantValue := 0 }, { name := "capacity", type := .int, accessFlags := 18, slot := 1, constantValue := 0 }]
  methods := #[k3m0, k3m1, k3m2, k3m3]
  instanceTypes := #[(.array .int), .int]
  staticTypes := #[]
  resolved := Array.replicate 101 none
  statics := none }

def pool4 : Array CpInfo := pool [(1, .class_ 2), (0, u "java/lang/Math"), (1, .class_ 6), (1, u "java/lang/Object"), (0, u "<init>"), (0, u "()V"), (89, .class_ 100), (1, u "java/lang/Math$RandomNumberGeneratorHolder"), (71, u "negativeZeroFloatBits"), (0, u "J"), (2, u "negativeZeroDoubleBits"), (21, u "max"), (2, u "min"), (43, u "$assertionsDisabled"), (0, u "Z"), (88, u "(II)I"), (2, u "twoToTheDoubleScaleDown"), (0, u "D"), (4, u "twoToTheDoubleScaleUp"), (9, u "E"), (3, u "PI"), (2, u "TAU"), (2, u "DEGREES_TO_RADIANS"), (0, u "RADIANS_TO_DEGREES")] 94

def k4m0 : Method := { name := "<init>", desc := "()V", sig := { parameters := [], returnType := none }, accessFlags := 2, code := none }
def k4c1 : Code := { maxStack := 2, maxLocals := 2, code := jdk_29_method_65_code, exceptionTable := #[], attributes := #[] }
def k4m1 : Method := { name := "max", desc := "(II)I", sig := { parameters := [.int, .int], returnType := some .int }, accessFlags := 9, code := some k4c1 }
def k4c2 : Code := { maxStack := 2, maxLocals := 2, code := jdk_29_method_69_code, exceptionTable := #[], attributes := #[] }
def k4m2 : Method := { name := "min", desc := "(II)I", sig := { parameters := [.int, .int], returnType := some .int }, accessFlags := 9, code := some k4c2 }
/-- java/lang/Math -/
def k4 : Class := { plain "java/lang/Math" (some 0) with
  accessFlags := 49
  interfaces := #[]
  cf := some (fileOf pool4 1 #[.nestMembers #[98]] #[{ accessFlags := 2, nameIndex := 7, descriptorIndex := 8, attributes := #[] }, { accessFlags := 9, nameIndex := 198, descriptorIndex := 335, attributes := #[] }, { accessFlags := 9, nameIndex := 201, descriptorIndex := 335, attributes := #[] }] 49 4 #[] #[{ accessFlags := 25, nameIndex := 354, descriptorIndex := 339, attributes := #[] }, { accessFlags := 25, nameIndex := 358, descriptorIndex := 339, attributes := #[] }, { accessFlags := 25, nameIndex := 361, descriptorIndex := 339, attributes := #[] }, { accessFlags := 26, nameIndex := 364, descriptorIndex := 339, attributes := #[] }, { accessFlags := 26, nameIndex := 365, descriptorIndex := 339, attributes := #[] }, { accessFlags := 26, nameIndex := 172, descriptorIndex := 173, attributes := #[] }, { accessFlags := 26, nameIndex := 176, descriptorIndex := 173, attributes := #[] }, { accessFlags := 8, nameIndex := 344, descriptorIndex := 339, attributes := #[] }, { accessFlags := 8, nameIndex := 338, descriptorIndex := 339, attributes := #[] }, { accessFlags := 4120, nameIndex := 245, descriptorIndex := 246, attributes := #[] }])
  fields := #[{ name := "E", type := .double, accessFlags := 25, slot := 0, constantValue := 0 }, { name := "PI", type := .double, accessFlags := 25, slot := 1, constantValue := 0 }, { name := "TAU", type := .double, accessFlags := 25, slot := 2, constantValue := 0 }, { name := "DEGREES_TO_RADIANS", type := .double, accessFlags := 26, slot := 3, constantValue := 0 }, { name := "RADIANS_TO_DEGREES", type := .double, accessFlags := 26, slot := 4, constantValue := 0 }, { name := "negativeZeroFloatBits", type := .long, accessFlags := 26, slot := 5, constantValue := 0 }, { name := "negativeZeroDoubleBits", type := .long, accessFlags := 26, slot := 6, constantValue := 0 }, { name := "twoToTheDoubleScaleUp", type := .double, accessFlags := 8, slot := 7, constantValue := 0 }, { name := "twoToTheDoubleScaleDown", type := .double, accessFlags := 8, slot := 8, constantValue := 0 }, { name := "$assertionsDisabled", type := .boolean, accessFlags := 4120, slot := 9, constantValue := 0 }]
  methods := #[k4m0, k4m1, k4m2]
  instanceTypes := #[]
  staticTypes := #[.double, .double, .double, .double, .double, .long, .long, .double, .double, .boolean]
  resolved := Array.replicate 460 none
  statics := none }

def pool5 : Array CpInfo := pool [(1, u "java/lang/Cloneable"), (0, .class_ 1), (0, u "java/lang/Object"), (0, .class_ 3)] 3

/-- java/lang/Cloneable -/
def k5 : Class := { plain "java/lang/Cloneable" (some 0) with
  accessFlags := 1537
  interfaces := #[]
  cf := some (fileOf pool5 2 #[] #[] 1537 4 #[] #[])
  fields := #[]
  methods := #[]
  instanceTypes := #[]
  staticTypes := #[]
  resolved := Array.replicate 8 none
  statics := none }

def pool6 : Array CpInfo := pool [(1, u "java/io/Serializable"), (0, .class_ 1), (0, u "java/lang/Object"), (0, .class_ 3)] 3

/-- java/io/Serializable -/
def k6 : Class := { plain "java/io/Serializable" (some 0) with
  accessFlags := 1537
  interfaces := #[]
  cf := some (fileOf pool6 2 #[] #[] 1537 4 #[] #[])
  fields := #[]
  methods := #[]
  instanceTypes := #[]
  staticTypes := #[]
  resolved := Array.replicate 8 none
  statics := none }

/-- the primitive byte -/
def k7 : Class := { plain "byte" none with kind := .primitive 'B', accessFlags := 0x411 }
/-- [B -/
def k8 : Class := { plain "[B" (some 0) with kind := .array 7 .byte, interfaces := #[5, 6], accessFlags := 1041 }

/-- the primitive int -/
def k9 : Class := { plain "int" none with kind := .primitive 'I', accessFlags := 0x411 }
/-- [I -/
def k10 : Class := { plain "[I" (some 0) with kind := .array 9 .int, interfaces := #[5, 6], accessFlags := 1041 }

def heap : Heap := #[]
def classes : Array Class := #[k0, k1, k2, k3, k4, k5, k6, k7, k8, k9, k10]
def interned : List (Array UInt16 × Addr) := []
def slotsUsed : Nat := 0
def theMethod : MethodId := ⟨1, 2⟩
def args0 : Array Value := #[.int 5, .int 6, .int 7, .int 8, .int 3]
def aboutOver (below : List Frame) : State where
  vm := { classes := classes, interned := interned.toArray }
  heap := heap
  slotsUsed := slotsUsed
  threads := #[{ frames := .invoking theMethod args0 :: below }]
def below0 : List Frame := [.native { method := ⟨0, 0⟩, args := #[] }]
def about1 : State := aboutOver below0
def p0 : Program := .bare "" "" ""
def e0 : Env := launch0.env 0 0 0
theorem w_frames : about1.frames = Frame.invoking theMethod args0 :: below0 := rfl
set_option maxRecDepth 65536 in
theorem w_args : argsFit about1.vm theMethod args0 = true := by decide +kernel
set_option maxRecDepth 65536 in
theorem w_heap : heapFits about1 = true := by decide +kernel
set_option maxRecDepth 65536 in
theorem w_runnable : about1.curStatus? = some .runnable := by decide +kernel
set_option maxRecDepth 65536 in
theorem w_alone : about1.alone = true := by decide +kernel
set_option maxRecDepth 65536 in
theorem w_named : about1.methodNamed? x = some theMethod := by decide +kernel
set_option maxRecDepth 65536 in
theorem w_hears : about1.hears theMethod below0 = true := by decide +kernel
set_option maxRecDepth 65536 in
theorem w_ripe : about1.ripe theMethod args0 below0 = true := by decide +kernel
theorem w_running : about1.status = .running := rfl
set_option maxRecDepth 65536 in
theorem w_room : about1.hasRoom e0.platform room_1 = true :=
  launch0.hasRoom_least _ room_1 (by decide +kernel) (by decide +kernel) (by decide +kernel) (by decide +kernel) (by decide +kernel) (by decide +kernel)
theorem allAtoms_all (ts : List Jvm.Cond) (a : Array Jvm.Value) (st : Jvm.State) : (allAtoms ts).before a st = ts.all (fun c => c.before a st) := by
  induction ts with
  | nil => rfl
  | cons c t ih =>
    show (Jvm.Cond.and c (allAtoms t)).before a st = _
    rw [Jvm.Cond.before_and, ih, List.all_cons]
def words1 : List Jvm.Cond := Jvm.Cond.code x code maxLocals ret :: tables_1
/-- a 'code' word, met by the world's own term for the bytes: nothing is compared byte by byte -/
theorem code_word {y : MethodName} {bytes : ByteArray} {mx : Nat} {rt : Option FieldType} {a : Array Value} {s : State} {m : MethodId} {meth : Method} {c : Code} (h1 : s.methodNamed? y = some m) (h2 : s.vm.method? m = some meth) (h3 : meth.code = some c) (h4 : c.code = bytes)
    (h5 : (c.maxLocals == mx && c.exceptionTable.isEmpty && decide (c.maxStack ≤ mostOperands) && decide (meth.sig.returnType = rt) && !meth.locks && decide (parseMethodDescriptor y.desc = some meth.sig)) = true) : (Jvm.Cond.code y bytes mx rt).before a s = true := by
  simp only [Bool.and_eq_true, beq_iff_eq, Bool.not_eq_true', decide_eq_true_eq] at h5
  obtain ⟨⟨⟨⟨⟨g1, g2⟩, g3⟩, g4⟩, g5⟩, g6⟩ := h5
  simp [Cond.before, Cond.holds, Cond.value, h1, h2, h3, h4, g1, g2, g3, g4, g5, g6]
def isCode : Jvm.Cond → Bool
  | .code _ _ _ _ => true
  | _ => false
theorem all_split {L : List Jvm.Cond} {P : Jvm.Cond → Bool} (h1 : L.all (fun c => isCode c || P c) = true) (h2 : ∀ c ∈ L.filter isCode, P c = true) : L.all P = true := by
  refine List.all_eq_true.mpr fun c hc => ?_
  have h := List.all_eq_true.mp h1 c hc
  rcases Bool.eq_false_or_eq_true (isCode c) with hi | hi
  · exact h2 c (List.mem_filter.mpr ⟨hc, hi⟩)
  · simpa [hi] using h
set_option maxRecDepth 65536 in
theorem w_c0 : (Jvm.Cond.code x code maxLocals ret).before args0 about1 = true := code_word (m := ⟨1, 2⟩) (meth := k1m2) (c := k1c2) (by decide +kernel) rfl rfl rfl (by decide +kernel)
set_option maxRecDepth 65536 in
theorem w_c1 : (Jvm.Cond.code ({ cls := "com/example/corelith/corelith/diversity/QuotasBindPinLaw", name := "cat", desc := "(II)I" } : Jvm.MethodName) method_2_code (2 : Nat) (Option.some Jvm.ClassFile.FieldType.int)).before args0 about1 = true := code_word (m := ⟨1, 1⟩) (meth := k1m1) (c := k1c1) (by decide +kernel) rfl rfl rfl (by decide +kernel)
set_option maxRecDepth 65536 in
theorem w_c2 : (Jvm.Cond.code ({ cls := "com/example/corelith/corelith/diversity/Quotas", name := "<init>", desc := "([II)V" } : Jvm.MethodName) prog_10_method_1_code (7 : Nat) (Option.none : Option Jvm.ClassFile.FieldType)).before args0 about1 = true := code_word (m := ⟨3, 0⟩) (meth := k3m0) (c := k3c0) (by decide +kernel) rfl rfl rfl (by decide +kernel)
set_option maxRecDepth 65536 in
theorem w_c3 : (Jvm.Cond.code ({ cls := "java/lang/Record", name := "<init>", desc := "()V" } : Jvm.MethodName) jdk_30_method_1_code (1 : Nat) (Option.none : Option Jvm.ClassFile.FieldType)).before args0 about1 = true := code_word (m := ⟨2, 0⟩) (meth := k2m0) (c := k2c0) (by decide +kernel) rfl rfl rfl (by decide +kernel)
set_option maxRecDepth 65536 in
theorem w_c4 : (Jvm.Cond.code ({ cls := "java/lang/Object", name := "<init>", desc := "()V" } : Jvm.MethodName) object_method_1_code (1 : Nat) (Option.none : Option Jvm.ClassFile.FieldType)).before args0 about1 = true := code_word (m := ⟨0, 0⟩) (meth := k0m0) (c := k0c0) (by decide +kernel) rfl rfl rfl (by decide +kernel)
set_option maxRecDepth 65536 in
theorem w_c5 : (Jvm.Cond.code ({ cls := "com/example/corelith/corelith/diversity/Quotas", name := "mostKept", desc := "([I)I" } : Jvm.MethodName) prog_10_method_6_code (8 : Nat) (Option.some Jvm.ClassFile.FieldType.int)).before args0 about1 = true := code_word (m := ⟨3, 3⟩) (meth := k3m3) (c := k3c3) (by decide +kernel) rfl rfl rfl (by decide +kernel)
set_option maxRecDepth 65536 in
theorem w_c6 : (Jvm.Cond.code ({ cls := "com/example/corelith/corelith/diversity/Quotas", name := "of", desc := "(I)I" } : Jvm.MethodName) prog_10_method_4_code (2 : Nat) (Option.some Jvm.ClassFile.FieldType.int)).before args0 about1 = true := code_word (m := ⟨3, 1⟩) (meth := k3m1) (c := k3c1) (by decide +kernel) rfl rfl rfl (by decide +kernel)
set_option maxRecDepth 65536 in
theorem w_c7 : (Jvm.Cond.code ({ cls := "com/example/corelith/corelith/diversity/Quotas", name := "bind", desc := "(I)Z" } : Jvm.MethodName) prog_10_method_5_code (2 : Nat) (Option.some Jvm.ClassFile.FieldType.boolean)).before args0 about1 = true := code_word (m := ⟨3, 2⟩) (meth := k3m2) (c := k3c2) (by decide +kernel) rfl rfl rfl (by decide +kernel)
set_option maxRecDepth 65536 in
theorem w_c8 : (Jvm.Cond.code ({ cls := "java/lang/Math", name := "min", desc := "(II)I" } : Jvm.MethodName) jdk_29_method_69_code (2 : Nat) (Option.some Jvm.ClassFile.FieldType.int)).before args0 about1 = true := code_word (m := ⟨4, 2⟩) (meth := k4m2) (c := k4c2) (by decide +kernel) rfl rfl rfl (by decide +kernel)
set_option maxRecDepth 65536 in
theorem w_c9 : (Jvm.Cond.code ({ cls := "java/lang/Math", name := "max", desc := "(II)I" } : Jvm.MethodName) jdk_29_method_65_code (2 : Nat) (Option.some Jvm.ClassFile.FieldType.int)).before args0 about1 = true := code_word (m := ⟨4, 1⟩) (meth := k4m1) (c := k4c1) (by decide +kernel) rfl rfl rfl (by decide +kernel)
def codes1 : List Jvm.Cond := [Jvm.Cond.code x code maxLocals ret, Jvm.Cond.code ({ cls := "com/example/corelith/corelith/diversity/QuotasBindPinLaw", name := "cat", desc := "(II)I" } : Jvm.MethodName) method_2_code (2 : Nat) (Option.some Jvm.ClassFile.FieldType.int), Jvm.Cond.code ({ cls := "com/example/corelith/corelith/diversity/Quotas", name := "<init>", desc := "([II)V" } : Jvm.MethodName) prog_10_method_1_code (7 : Nat) (Option.none : Option Jvm.ClassFile.FieldType), Jvm.Cond.code ({ cls := "java/lang/Record", name := "<init>", desc := "()V" } : Jvm.MethodName) jdk_30_method_1_code (1 : Nat) (Option.none : Option Jvm.ClassFile.FieldType), Jvm.Cond.code ({ cls := "java/lang/Object", name := "<init>", desc := "()V" } : Jvm.MethodName) object_method_1_code (1 : Nat) (Option.none : Option Jvm.ClassFile.FieldType), Jvm.Cond.code ({ cls := "com/example/corelith/corelith/diversity/Quotas", name := "mostKept", desc := "([I)I" } : Jvm.MethodName) prog_10_method_6_code (8 : Nat) (Option.some Jvm.ClassFile.FieldType.int), Jvm.Cond.code ({ cls := "com/example/corelith/corelith/diversity/Quotas", name := "of", desc := "(I)I" } : Jvm.MethodName) prog_10_method_4_code (2 : Nat) (Option.some Jvm.ClassFile.FieldType.int), Jvm.Cond.code ({ cls := "com/example/corelith/corelith/diversity/Quotas", name := "bind", desc := "(I)Z" } : Jvm.MethodName) prog_10_method_5_code (2 : Nat) (Option.some Jvm.ClassFile.FieldType.boolean), Jvm.Cond.code ({ cls := "java/lang/Math", name := "min", desc := "(II)I" } : Jvm.MethodName) jdk_29_method_69_code (2 : Nat) (Option.some Jvm.ClassFile.FieldType.int), Jvm.Cond.code ({ cls := "java/lang/Math", name := "max", desc := "(II)I" } : Jvm.MethodName) jdk_29_method_65_code (2 : Nat) (Option.some Jvm.ClassFile.FieldType.int)]
set_option maxRecDepth 65536 in
theorem codes_eq : words1.filter isCode = codes1 := rfl
theorem w_codes : ∀ c ∈ words1.filter isCode, c.before args0 about1 = true := by
  rw [codes_eq]
  intro c hc
  simp only [codes1, List.mem_cons, List.not_mem_nil, or_false] at hc
  rcases hc with rfl | rfl | rfl | rfl | rfl | rfl | rfl | rfl | rfl | rfl
  · exact w_c0
  · exact w_c1
  · exact w_c2
  · exact w_c3
  · exact w_c4
  · exact w_c5
  · exact w_c6
  · exact w_c7
  · exact w_c8
  · exact w_c9
set_option maxRecDepth 65536 in
theorem w_t1 : (words1.take 24).all (fun c => isCode c || c.before args0 about1) = true := by decide +kernel
set_option maxRecDepth 65536 in
theorem w_t2 : (words1.drop 24).all (fun c => isCode c || c.before args0 about1) = true := by decide +kernel
theorem w_tables : (allAtoms (Jvm.Cond.code x code maxLocals ret :: tables_1)).before args0 about1 = true := by
  rw [allAtoms_all]
  show words1.all (fun c => c.before args0 about1) = true
  refine all_split ?_ w_codes
  rw [← List.take_append_drop 24 words1, List.all_append, w_t1, w_t2]
  rfl
set_option maxRecDepth 65536 in
theorem w_case : (Jvm.Cond.and given_1 narrow_1).before args0 about1 = true := by decide +kernel
theorem w_applies : (headSpec (Jvm.Cond.code x code maxLocals ret :: tables_1) room_1).applies x e0.platform about1 = true :=
  (Spec.applies_iff w_frames).mpr ⟨w_running, w_runnable, w_alone, w_named, w_hears, w_ripe, w_room, w_tables⟩
theorem atStart : AtStart classFile x code maxLocals ret World_1 tables_1 room_1 Calls_1 rest_1 Pre_1 launch0 p0 e0 about1 theMethod args0 below0 :=
  ⟨lists_1, trivial, launch0.admits_env _ _ _, launch0.least_env, fairChoices_fair.cas, fairChoices_fair.clock, w_frames, w_args, w_heap, w_applies, trivial, trivial, w_case⟩
end start1
theorem witness_1 : WitnessClaimed_1 := ⟨start1.p0, start1.e0, start1.about1, start1.theMethod, start1.args0, start1.below0, start1.atStart⟩
end Jvm.Pilot.@@N@@
