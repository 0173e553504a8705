import JvmDerived
import JvmDerived.Pilot.@@N@@Statement
import JvmDerived.Pilot.@@N@@Code
set_option linter.unusedVariables false
set_option linter.unusedSimpArgs false
namespace Jvm.Own
open Jvm Jvm.ClassFile Sem Op Lib Jvm.Free Jvm.Stand Jvm.LawKit Jvm.RoadKit
/-- the run from A ends, and G holds of its end -/
def Runs (p : Program) (e : Env) (below : List Frame) (A : State) (G : Outcome → State → Prop) : Prop :=
  ∃ s₂ o, Steps p.tables e below A s₂ ∧ s₂.status = .running ∧ Ended s₂ below o ∧ G o s₂
section A
variable {p : Program} {e : Env} {below : List Frame} {A B : State} {G : Outcome → State → Prop}
theorem Runs.of (k : Runs p e below B G) (h : ∀ t, Steps p.tables e below B t → Steps p.tables e below A t) : Runs p e below A G := by
  obtain ⟨t, o, hs, r⟩ := k
  exact ⟨t, o, h t hs, r⟩
theorem Runs.dia {P : Prop} [Decidable P] {B : Int32 → State} {vt vf : Int32} (ht : P → Runs p e below (B vt) G → Runs p e below A G) (hf : ¬ P → Runs p e below (B vf) G → Runs p e below A G) (k : Runs p e below (B (if P then vt else vf)) G) : Runs p e below A G := by
  by_cases hc : P
  · rw [if_pos hc] at k; exact ht hc k
  · rw [if_neg hc] at k; exact hf hc k
theorem Runs.via (k : Runs p e below B G) (h : Steps p.tables e below A B) : Runs p e below A G := k.of fun _ q => h.trans q
end A
/-- what stood at h0 is written at ws alone -/
def Wrote (h0 : Heap) (ws : List Addr) (L : List Loc) : Prop := ∀ y ∈ L, y.base ∈ ws ∨ h0.size ≤ y.base
theorem Wrote.nil {h0 : Heap} {ws : List Addr} : Wrote h0 ws [] := fun _ q => nomatch q
theorem Wrote.app {h0 h : Heap} {ws ws' : List Addr} {L L' : List Loc} (N : Wrote h0 ws L) (N' : Wrote h ws' L') (hs : h0.size ≤ h.size) (hw : ∀ x ∈ ws', x ∈ ws ∨ h0.size ≤ x) : Wrote h0 ws (L ++ L') := fun y q =>
  (List.mem_append.mp q).elim (N y) fun r => (N' y r).elim (hw _) fun z => Or.inr (Nat.le_trans hs z)
theorem Wrote.snoc {h0 : Heap} {ws : List Addr} {L : List Loc} {a : Addr} {i : Nat} (N : Wrote h0 ws L) (q : a ∈ ws ∨ h0.size ≤ a) : Wrote h0 ws (L ++ [⟨a, i⟩]) := fun y r =>
  (List.mem_append.mp r).elim (N y) fun z => by cases List.mem_singleton.mp z; exact q
/-- where a walk stands: the method's own facts, the heap as it is now, what was written since h0 -/
def Here (p : Program) (l : Launch) (e : Env) (R : Room) (s : State) (m : MethodId) (args : Array Value) (below : List Frame) (meth : Method) (c : Code)
    (y : MethodName) (bytes : ByteArray) (maxL : Nat) (ret : Option FieldType) (Z : State) (h0 : Heap) (ws : List Addr) (T : State) (cells slots : Nat) (h : Heap) : Prop :=
  (p.tables.exec = Jvm.exec ∧ Z.Warmed39 s.vm ∧ c.code = bytes ∧ c.maxLocals = maxL ∧ s.vm.findClass y.cls = some m.cls ∧ meth.name = y.name ∧ meth.sig.returnType = ret ∧ meth.locks = false) ∧
  T.heap = h ∧ Keep h0 h ws ∧ ∃ locs, Stand p l e R s m args below meth c T locs cells slots ∧ Wrote h0 ws locs
/-- how a walk must end: it returns, Q holds of the result and the heap, what stood at h0 is written at ws alone -/
def Out (s : State) (h0 : Heap) (ws : List Addr) (rm : Room) (Q : Option Value → Heap → Prop) (o : Outcome) (U : State) : Prop :=
  ∃ v L, o = .returned v ∧ (Q v U.heap ∧ Keep h0 U.heap ws ∧ Wrote h0 ws L) ∧ FrameEnd s o U L rm.cells rm.slots
/-- a method's contract at the heap h0 and these arguments -/
def Ct (l : Launch) (Z : State) (y : MethodName) (bytes : ByteArray) (maxL : Nat) (ret : Option FieldType) (rm : Room) (as : Array Value) (h0 : Heap) (ws : List Addr) (Q : Option Value → Heap → Prop) : Prop :=
  ∀ wz, MetFree l y (head1 (Jvm.Cond.code y bytes maxL ret :: wz) rm) (fun a U => a = as ∧ Z.Warmed39 U.vm ∧ U.heap = h0) (fun _ _ _ _ _ => True)
    (fun _ U o U' => ∃ v L, o = .returned v ∧ (Q v U'.heap ∧ Keep h0 U'.heap ws ∧ Wrote h0 ws L) ∧ FrameEnd U o U' L rm.cells rm.slots)
section B
variable {p : Program} {l : Launch} {e : Env} {R : Room} {s : State} {m : MethodId} {args : Array Value} {below : List Frame} {meth : Method} {c : Code} {y : MethodName} {bytes : ByteArray} {maxL : Nat} {ret : Option FieldType} {Z : State} {h0 : Heap} {ws : List Addr} {T : State} {cells slots : Nat} {h : Heap} {G : Outcome → State → Prop} {a0 : Array Value}
theorem Ct.of {rm : Room} {as : Array Value} {Q : Option Value → Heap → Prop} (hp : plainFor y = true)
    (body : ∀ p e s m below meth c T, Here p l e rm s m as below meth c y bytes maxL ret Z h0 ws T 0 0 h0 → Runs p e below (T.setTop (entryFrame m as maxL)) (Out s h0 ws rm Q)) :
    Ct l Z y bytes maxL ret rm as h0 ws Q := fun wz => by
  refine MetFree.of_bodySF hp hisR ?_
  intro p e s m args below meth c s₁ Bd hml0 hP hK
  obtain ⟨rfl, hZ, hh⟩ := hP
  have e0 : s₁.heap = h0 := by rw [← hh, Bd.state]; rfl
  exact body p e s m below meth c s₁ ⟨⟨Bd.exec, hZ, Bd.bytes, hml0, findClass_of_methodNamed Bd.named, (name_of_methodNamed Bd.named Bd.method).1, Bd.returns, BodyLoose.notSynchronized Bd⟩, e0, Keep.refl _ _, [], Stand.of_body Bd, Wrote.nil⟩
theorem Ct.mono {rm : Room} {as : Array Value} {Q Q' : Option Value → Heap → Prop} (h : Ct l Z y bytes maxL ret rm as h0 ws Q) (hq : ∀ v h, Q v h → Q' v h) : Ct l Z y bytes maxL ret rm as h0 ws Q' := fun wz => by
  intro p e ha hc hk s m args below hf happ hP hK
  obtain ⟨n, o, w1, w2, w3, v, L, q1, q2, q3⟩ := h wz p e ha hc hk s m args below hf happ hP hK
  exact ⟨n, o, w1, w2, w3, v, L, q1, ⟨hq _ _ q2.1, q2.2⟩, q3⟩
/-- from one frame to another that is the same -/
theorem Runs.top {g g' : JFrame} (q : g = g') (k : Runs p e below (T.setTop g') G) : Runs p e below (T.setTop g) G := q ▸ k
theorem Here.keep (X : Here p l e R s m args below meth c y bytes maxL ret Z h0 ws T cells slots h) : Keep h0 h ws := X.2.2.1
theorem Here.hZ (X : Here p l e R s m args below meth c y bytes maxL ret Z h0 ws T cells slots h) : Z.Warmed39 s.vm := X.1.2.1
theorem Here.size (X : Here p l e R s m args below meth c y bytes maxL ret Z h0 ws T cells slots h) : h0.size ≤ h.size := X.2.2.1.1
/-- a plain step -/
theorem Here.step (X : Here p l e R s m args below meth c y bytes maxL ret Z h0 ws T cells slots h) {g g' : JFrame}
    (st : ∀ locs, p.tables.exec = Jvm.exec → c.code = bytes → Z.Warmed39 s.vm → s.vm.findClass y.cls = some m.cls → T.heap = h → Stand p l e R s m args below meth c T locs cells slots → ∀ t, Steps p.tables e below (T.setTop g') t → Steps p.tables e below (T.setTop g) t)
    (k : Runs p e below (T.setTop g') G) : Runs p e below (T.setTop g) G := by
  obtain ⟨⟨x1, x2, x3, x4, x5, x6, x7, x8⟩, x9, x10, locs, S, N⟩ := X
  exact k.of (st locs x1 x3 x2 x5 x9 S)
/-- a step that leaves the heap as it is -/
theorem Here.stepT (X : Here p l e R s m args below meth c y bytes maxL ret Z h0 ws T cells slots h) {g g' : JFrame}
    (st : ∀ locs, p.tables.exec = Jvm.exec → c.code = bytes → c.maxLocals = maxL → Z.Warmed39 s.vm → s.vm.findClass y.cls = some m.cls → T.heap = h → Stand p l e R s m args below meth c T locs cells slots → ∃ T', Stand p l e R s m args below meth c T' locs cells slots ∧ T'.heap = h ∧ ∀ t, Steps p.tables e below (T'.setTop g') t → Steps p.tables e below (T.setTop g) t)
    (k : ∀ T', Here p l e R s m args below meth c y bytes maxL ret Z h0 ws T' cells slots h → Runs p e below (T'.setTop g') G) : Runs p e below (T.setTop g) G := by
  obtain ⟨⟨x1, x2, x3, x4, x5, x6, x7, x8⟩, x9, x10, locs, S, N⟩ := X
  obtain ⟨T', S', e', q⟩ := st locs x1 x3 x4 x2 x5 x9 S
  exact (k T' ⟨⟨x1, x2, x3, x4, x5, x6, x7, x8⟩, e', x10, locs, S', N⟩).of q
/-- a step that writes one slot -/
theorem Here.stepW (X : Here p l e R s m args below meth c y bytes maxL ret Z h0 ws T cells slots h) {g g' : JFrame} {a : Addr} {i : Nat} {v : Value} (hn : a ∈ ws ∨ h0.size ≤ a)
    (st : ∀ locs, p.tables.exec = Jvm.exec → c.code = bytes → meth.name = y.name → Z.Warmed39 s.vm → s.vm.findClass y.cls = some m.cls → T.heap = h → Stand p l e R s m args below meth c T locs cells slots → ∃ T' h', Stand p l e R s m args below meth c T' (locs ++ [⟨a, i⟩]) cells slots ∧ T'.heap = h' ∧ Wr h h' a i v ∧ ∀ t, Steps p.tables e below (T'.setTop g') t → Steps p.tables e below (T.setTop g) t)
    (k : ∀ T' h', Here p l e R s m args below meth c y bytes maxL ret Z h0 ws T' cells slots h' → Wr h h' a i v → Runs p e below (T'.setTop g') G) : Runs p e below (T.setTop g) G := by
  obtain ⟨⟨x1, x2, x3, x4, x5, x6, x7, x8⟩, x9, x10, locs, S, N⟩ := X
  obtain ⟨T', h', S', e', W, q⟩ := st locs x1 x3 x6 x2 x5 x9 S
  exact (k T' h' ⟨⟨x1, x2, x3, x4, x5, x6, x7, x8⟩, e', x10.wr W hn, _, S', N.snoc hn⟩ W).of q
theorem Here.iload (X : Here p l e R s m args below meth c y bytes maxL ret Z h0 ws T cells slots h) {pc pc' : Nat} {Ls : Array Slot} {St : List Value} {i : Nat} {v : Int32} (hd : decode bytes pc = .ok (.iload i, 2)) (hl : Ls[i]? = some (.val (.int v))) (hp : pc + 2 = pc') (k : Runs p e below (T.setTop (mkF m pc' Ls (.int v :: St))) G) : Runs p e below (T.setTop (mkF m pc Ls (St))) G := by
  subst hp
  exact X.step (fun _ hx hb' _ hown _ S t q => XS.iload S.here hx rfl (hb hb' hd) hl q) k
theorem Here.iloadN (X : Here p l e R s m args below meth c y bytes maxL ret Z h0 ws T cells slots h) {pc pc' : Nat} {Ls : Array Slot} {St : List Value} {i : Fin 4} {v : Int32} (hd : decode bytes pc = .ok (.iload_n i, 1)) (hl : Ls[i.val]? = some (.val (.int v))) (hp : pc + 1 = pc') (k : Runs p e below (T.setTop (mkF m pc' Ls (.int v :: St))) G) : Runs p e below (T.setTop (mkF m pc Ls (St))) G := by
  subst hp
  exact X.step (fun _ hx hb' _ hown _ S t q => XS.iloadN S.here hx rfl (hb hb' hd) hl q) k
theorem Here.lload (X : Here p l e R s m args below meth c y bytes maxL ret Z h0 ws T cells slots h) {pc pc' : Nat} {Ls : Array Slot} {St : List Value} {i : Nat} {v : Int64} (hd : decode bytes pc = .ok (.lload i, 2)) (hl : Ls[i]? = some (.val (.long v))) (hp : pc + 2 = pc') (k : Runs p e below (T.setTop (mkF m pc' Ls (.long v :: St))) G) : Runs p e below (T.setTop (mkF m pc Ls (St))) G := by
  subst hp
  exact X.step (fun _ hx hb' _ hown _ S t q => XS.lload S.here hx rfl (hb hb' hd) hl q) k
theorem Here.lloadN (X : Here p l e R s m args below meth c y bytes maxL ret Z h0 ws T cells slots h) {pc pc' : Nat} {Ls : Array Slot} {St : List Value} {i : Fin 4} {v : Int64} (hd : decode bytes pc = .ok (.lload_n i, 1)) (hl : Ls[i.val]? = some (.val (.long v))) (hp : pc + 1 = pc') (k : Runs p e below (T.setTop (mkF m pc' Ls (.long v :: St))) G) : Runs p e below (T.setTop (mkF m pc Ls (St))) G := by
  subst hp
  exact X.step (fun _ hx hb' _ hown _ S t q => XS.lloadN S.here hx rfl (hb hb' hd) hl q) k
theorem Here.aload (X : Here p l e R s m args below meth c y bytes maxL ret Z h0 ws T cells slots h) {pc pc' : Nat} {Ls : Array Slot} {St : List Value} {i : Nat} {v : Value} (hd : decode bytes pc = .ok (.aload i, 2)) (hl : Ls[i]? = some (.val v)) (hv : v.isRef = true) (hp : pc + 2 = pc') (k : Runs p e below (T.setTop (mkF m pc' Ls (v :: St))) G) : Runs p e below (T.setTop (mkF m pc Ls (St))) G := by
  subst hp
  exact X.step (fun _ hx hb' _ hown _ S t q => XS.aload S.here hx rfl (hb hb' hd) hl hv q) k
theorem Here.aloadN (X : Here p l e R s m args below meth c y bytes maxL ret Z h0 ws T cells slots h) {pc pc' : Nat} {Ls : Array Slot} {St : List Value} {i : Fin 4} {v : Value} (hd : decode bytes pc = .ok (.aload_n i, 1)) (hl : Ls[i.val]? = some (.val v)) (hv : v.isRef = true) (hp : pc + 1 = pc') (k : Runs p e below (T.setTop (mkF m pc' Ls (v :: St))) G) : Runs p e below (T.setTop (mkF m pc Ls (St))) G := by
  subst hp
  exact X.step (fun _ hx hb' _ hown _ S t q => XS.aloadN S.here hx rfl (hb hb' hd) hl hv q) k
theorem Here.istore (X : Here p l e R s m args below meth c y bytes maxL ret Z h0 ws T cells slots h) {pc pc' : Nat} {Ls : Array Slot} {St : List Value} {i : Nat} {v : Int32} {l' : Array Slot} (hd : decode bytes pc = .ok (.istore i, 2)) (hl : storeLocals Ls i (.int v) = some l') (hp : pc + 2 = pc') (k : Runs p e below (T.setTop (mkF m pc' l' (St))) G) : Runs p e below (T.setTop (mkF m pc Ls (.int v :: St))) G := by
  subst hp
  exact X.step (fun _ hx hb' _ hown _ S t q => XS.istore S.here hx rfl (hb hb' hd) rfl hl q) k
theorem Here.istoreN (X : Here p l e R s m args below meth c y bytes maxL ret Z h0 ws T cells slots h) {pc pc' : Nat} {Ls : Array Slot} {St : List Value} {i : Fin 4} {v : Int32} {l' : Array Slot} (hd : decode bytes pc = .ok (.istore_n i, 1)) (hl : storeLocals Ls i.val (.int v) = some l') (hp : pc + 1 = pc') (k : Runs p e below (T.setTop (mkF m pc' l' (St))) G) : Runs p e below (T.setTop (mkF m pc Ls (.int v :: St))) G := by
  subst hp
  exact X.step (fun _ hx hb' _ hown _ S t q => XS.istoreN S.here hx rfl (hb hb' hd) rfl hl q) k
theorem Here.lstore (X : Here p l e R s m args below meth c y bytes maxL ret Z h0 ws T cells slots h) {pc pc' : Nat} {Ls : Array Slot} {St : List Value} {i : Nat} {v : Int64} {l' : Array Slot} (hd : decode bytes pc = .ok (.lstore i, 2)) (hl : storeLocals Ls i (.long v) = some l') (hp : pc + 2 = pc') (k : Runs p e below (T.setTop (mkF m pc' l' (St))) G) : Runs p e below (T.setTop (mkF m pc Ls (.long v :: St))) G := by
  subst hp
  exact X.step (fun _ hx hb' _ hown _ S t q => XS.lstore S.here hx rfl (hb hb' hd) rfl hl q) k
theorem Here.lstoreN (X : Here p l e R s m args below meth c y bytes maxL ret Z h0 ws T cells slots h) {pc pc' : Nat} {Ls : Array Slot} {St : List Value} {i : Fin 4} {v : Int64} {l' : Array Slot} (hd : decode bytes pc = .ok (.lstore_n i, 1)) (hl : storeLocals Ls i.val (.long v) = some l') (hp : pc + 1 = pc') (k : Runs p e below (T.setTop (mkF m pc' l' (St))) G) : Runs p e below (T.setTop (mkF m pc Ls (.long v :: St))) G := by
  subst hp
  exact X.step (fun _ hx hb' _ hown _ S t q => XS.lstoreN S.here hx rfl (hb hb' hd) rfl hl q) k
theorem Here.astore (X : Here p l e R s m args below meth c y bytes maxL ret Z h0 ws T cells slots h) {pc pc' : Nat} {Ls : Array Slot} {St : List Value} {i : Nat} {v : Value} {l' : Array Slot} (hd : decode bytes pc = .ok (.astore i, 2)) (hv : v.isRef = true) (hl : storeLocals Ls i v = some l') (hp : pc + 2 = pc') (k : Runs p e below (T.setTop (mkF m pc' l' (St))) G) : Runs p e below (T.setTop (mkF m pc Ls (v :: St))) G := by
  subst hp
  exact X.step (fun _ hx hb' _ hown _ S t q => XS.astore S.here hx rfl (hb hb' hd) rfl hv hl q) k
theorem Here.astoreN (X : Here p l e R s m args below meth c y bytes maxL ret Z h0 ws T cells slots h) {pc pc' : Nat} {Ls : Array Slot} {St : List Value} {i : Fin 4} {v : Value} {l' : Array Slot} (hd : decode bytes pc = .ok (.astore_n i, 1)) (hv : v.isRef = true) (hl : storeLocals Ls i.val v = some l') (hp : pc + 1 = pc') (k : Runs p e below (T.setTop (mkF m pc' l' (St))) G) : Runs p e below (T.setTop (mkF m pc Ls (v :: St))) G := by
  subst hp
  exact X.step (fun _ hx hb' _ hown _ S t q => XS.astoreN S.here hx rfl (hb hb' hd) rfl hv hl q) k
theorem Here.iconst (X : Here p l e R s m args below meth c y bytes maxL ret Z h0 ws T cells slots h) {pc pc' : Nat} {Ls : Array Slot} {St : List Value} {i : Int} {z : Int32} (hd : decode bytes pc = .ok (.iconst i, 1)) (hz : Int32.ofInt i = z) (hp : pc + 1 = pc') (k : Runs p e below (T.setTop (mkF m pc' Ls (.int z :: St))) G) : Runs p e below (T.setTop (mkF m pc Ls (St))) G := by
  subst hp
  exact X.step (fun _ hx hb' _ hown _ S t q => XS.iconst S.here hx rfl (hb hb' hd) (hz ▸ q)) k
theorem Here.bipush (X : Here p l e R s m args below meth c y bytes maxL ret Z h0 ws T cells slots h) {pc pc' : Nat} {Ls : Array Slot} {St : List Value} {i : Int} {z : Int32} (hd : decode bytes pc = .ok (.bipush i, 2)) (hz : (Int8.ofInt i).toInt32 = z) (hp : pc + 2 = pc') (k : Runs p e below (T.setTop (mkF m pc' Ls (.int z :: St))) G) : Runs p e below (T.setTop (mkF m pc Ls (St))) G := by
  subst hp
  exact X.step (fun _ hx hb' _ hown _ S t q => XS.bipush S.here hx rfl (hb hb' hd) (hz ▸ q)) k
theorem Here.sipush (X : Here p l e R s m args below meth c y bytes maxL ret Z h0 ws T cells slots h) {pc pc' : Nat} {Ls : Array Slot} {St : List Value} {i : Int} {z : Int32} (hd : decode bytes pc = .ok (.sipush i, 3)) (hz : (Int16.ofInt i).toInt32 = z) (hp : pc + 3 = pc') (k : Runs p e below (T.setTop (mkF m pc' Ls (.int z :: St))) G) : Runs p e below (T.setTop (mkF m pc Ls (St))) G := by
  subst hp
  exact X.step (fun _ hx hb' _ hown _ S t q => XS.sipush S.here hx rfl (hb hb' hd) (hz ▸ q)) k
theorem Here.lconst0 (X : Here p l e R s m args below meth c y bytes maxL ret Z h0 ws T cells slots h) {pc pc' : Nat} {Ls : Array Slot} {St : List Value}  (hd : decode bytes pc = .ok (.lconst 0, 1))  (hp : pc + 1 = pc') (k : Runs p e below (T.setTop (mkF m pc' Ls (.long 0 :: St))) G) : Runs p e below (T.setTop (mkF m pc Ls (St))) G := by
  subst hp
  exact X.step (fun _ hx hb' _ hown _ S t q => XS.lconst S.here hx rfl (hb hb' hd) q) k
theorem Here.lconst1 (X : Here p l e R s m args below meth c y bytes maxL ret Z h0 ws T cells slots h) {pc pc' : Nat} {Ls : Array Slot} {St : List Value}  (hd : decode bytes pc = .ok (.lconst 1, 1))  (hp : pc + 1 = pc') (k : Runs p e below (T.setTop (mkF m pc' Ls (.long 1 :: St))) G) : Runs p e below (T.setTop (mkF m pc Ls (St))) G := by
  subst hp
  exact X.step (fun _ hx hb' _ hown _ S t q => XS.lconst S.here hx rfl (hb hb' hd) q) k
theorem Here.aconstNull (X : Here p l e R s m args below meth c y bytes maxL ret Z h0 ws T cells slots h) {pc pc' : Nat} {Ls : Array Slot} {St : List Value}  (hd : decode bytes pc = .ok (.aconst_null, 1))  (hp : pc + 1 = pc') (k : Runs p e below (T.setTop (mkF m pc' Ls (.null :: St))) G) : Runs p e below (T.setTop (mkF m pc Ls (St))) G := by
  subst hp
  exact X.step (fun _ hx hb' _ hown _ S t q => XS.aconstNull S.here hx rfl (hb hb' hd) q) k
theorem Here.iadd (X : Here p l e R s m args below meth c y bytes maxL ret Z h0 ws T cells slots h) {pc pc' : Nat} {Ls : Array Slot} {St : List Value} {a b : Int32} (hd : decode bytes pc = .ok (.iadd, 1))  (hp : pc + 1 = pc') (k : Runs p e below (T.setTop (mkF m pc' Ls (.int (a + b) :: St))) G) : Runs p e below (T.setTop (mkF m pc Ls (.int b :: .int a :: St))) G := by
  subst hp
  exact X.step (fun _ hx hb' _ hown _ S t q => XS.iadd S.here hx rfl (hb hb' hd) rfl q) k
theorem Here.isub (X : Here p l e R s m args below meth c y bytes maxL ret Z h0 ws T cells slots h) {pc pc' : Nat} {Ls : Array Slot} {St : List Value} {a b : Int32} (hd : decode bytes pc = .ok (.isub, 1))  (hp : pc + 1 = pc') (k : Runs p e below (T.setTop (mkF m pc' Ls (.int (a - b) :: St))) G) : Runs p e below (T.setTop (mkF m pc Ls (.int b :: .int a :: St))) G := by
  subst hp
  exact X.step (fun _ hx hb' _ hown _ S t q => XS.isub S.here hx rfl (hb hb' hd) rfl q) k
theorem Here.imul (X : Here p l e R s m args below meth c y bytes maxL ret Z h0 ws T cells slots h) {pc pc' : Nat} {Ls : Array Slot} {St : List Value} {a b : Int32} (hd : decode bytes pc = .ok (.imul, 1))  (hp : pc + 1 = pc') (k : Runs p e below (T.setTop (mkF m pc' Ls (.int (a * b) :: St))) G) : Runs p e below (T.setTop (mkF m pc Ls (.int b :: .int a :: St))) G := by
  subst hp
  exact X.step (fun _ hx hb' _ hown _ S t q => XS.imul S.here hx rfl (hb hb' hd) rfl q) k
theorem Here.iand (X : Here p l e R s m args below meth c y bytes maxL ret Z h0 ws T cells slots h) {pc pc' : Nat} {Ls : Array Slot} {St : List Value} {a b : Int32} (hd : decode bytes pc = .ok (.iand, 1))  (hp : pc + 1 = pc') (k : Runs p e below (T.setTop (mkF m pc' Ls (.int (a &&& b) :: St))) G) : Runs p e below (T.setTop (mkF m pc Ls (.int b :: .int a :: St))) G := by
  subst hp
  exact X.step (fun _ hx hb' _ hown _ S t q => XS.iand S.here hx rfl (hb hb' hd) rfl q) k
theorem Here.ior (X : Here p l e R s m args below meth c y bytes maxL ret Z h0 ws T cells slots h) {pc pc' : Nat} {Ls : Array Slot} {St : List Value} {a b : Int32} (hd : decode bytes pc = .ok (.ior, 1))  (hp : pc + 1 = pc') (k : Runs p e below (T.setTop (mkF m pc' Ls (.int (a ||| b) :: St))) G) : Runs p e below (T.setTop (mkF m pc Ls (.int b :: .int a :: St))) G := by
  subst hp
  exact X.step (fun _ hx hb' _ hown _ S t q => XS.ior S.here hx rfl (hb hb' hd) rfl q) k
theorem Here.ixor (X : Here p l e R s m args below meth c y bytes maxL ret Z h0 ws T cells slots h) {pc pc' : Nat} {Ls : Array Slot} {St : List Value} {a b : Int32} (hd : decode bytes pc = .ok (.ixor, 1))  (hp : pc + 1 = pc') (k : Runs p e below (T.setTop (mkF m pc' Ls (.int (a ^^^ b) :: St))) G) : Runs p e below (T.setTop (mkF m pc Ls (.int b :: .int a :: St))) G := by
  subst hp
  exact X.step (fun _ hx hb' _ hown _ S t q => XS.ixor S.here hx rfl (hb hb' hd) rfl q) k
theorem Here.ladd (X : Here p l e R s m args below meth c y bytes maxL ret Z h0 ws T cells slots h) {pc pc' : Nat} {Ls : Array Slot} {St : List Value} {a b : Int64} (hd : decode bytes pc = .ok (.ladd, 1))  (hp : pc + 1 = pc') (k : Runs p e below (T.setTop (mkF m pc' Ls (.long (a + b) :: St))) G) : Runs p e below (T.setTop (mkF m pc Ls (.long b :: .long a :: St))) G := by
  subst hp
  exact X.step (fun _ hx hb' _ hown _ S t q => XS.ladd S.here hx rfl (hb hb' hd) rfl q) k
theorem Here.lsub (X : Here p l e R s m args below meth c y bytes maxL ret Z h0 ws T cells slots h) {pc pc' : Nat} {Ls : Array Slot} {St : List Value} {a b : Int64} (hd : decode bytes pc = .ok (.lsub, 1))  (hp : pc + 1 = pc') (k : Runs p e below (T.setTop (mkF m pc' Ls (.long (a - b) :: St))) G) : Runs p e below (T.setTop (mkF m pc Ls (.long b :: .long a :: St))) G := by
  subst hp
  exact X.step (fun _ hx hb' _ hown _ S t q => XS.lsub S.here hx rfl (hb hb' hd) rfl q) k
theorem Here.lmul (X : Here p l e R s m args below meth c y bytes maxL ret Z h0 ws T cells slots h) {pc pc' : Nat} {Ls : Array Slot} {St : List Value} {a b : Int64} (hd : decode bytes pc = .ok (.lmul, 1))  (hp : pc + 1 = pc') (k : Runs p e below (T.setTop (mkF m pc' Ls (.long (a * b) :: St))) G) : Runs p e below (T.setTop (mkF m pc Ls (.long b :: .long a :: St))) G := by
  subst hp
  exact X.step (fun _ hx hb' _ hown _ S t q => XS.lmul S.here hx rfl (hb hb' hd) rfl q) k
theorem Here.land (X : Here p l e R s m args below meth c y bytes maxL ret Z h0 ws T cells slots h) {pc pc' : Nat} {Ls : Array Slot} {St : List Value} {a b : Int64} (hd : decode bytes pc = .ok (.land, 1))  (hp : pc + 1 = pc') (k : Runs p e below (T.setTop (mkF m pc' Ls (.long (a &&& b) :: St))) G) : Runs p e below (T.setTop (mkF m pc Ls (.long b :: .long a :: St))) G := by
  subst hp
  exact X.step (fun _ hx hb' _ hown _ S t q => XS.land S.here hx rfl (hb hb' hd) rfl q) k
theorem Here.lor (X : Here p l e R s m args below meth c y bytes maxL ret Z h0 ws T cells slots h) {pc pc' : Nat} {Ls : Array Slot} {St : List Value} {a b : Int64} (hd : decode bytes pc = .ok (.lor, 1))  (hp : pc + 1 = pc') (k : Runs p e below (T.setTop (mkF m pc' Ls (.long (a ||| b) :: St))) G) : Runs p e below (T.setTop (mkF m pc Ls (.long b :: .long a :: St))) G := by
  subst hp
  exact X.step (fun _ hx hb' _ hown _ S t q => XS.lor S.here hx rfl (hb hb' hd) rfl q) k
theorem Here.lxor (X : Here p l e R s m args below meth c y bytes maxL ret Z h0 ws T cells slots h) {pc pc' : Nat} {Ls : Array Slot} {St : List Value} {a b : Int64} (hd : decode bytes pc = .ok (.lxor, 1))  (hp : pc + 1 = pc') (k : Runs p e below (T.setTop (mkF m pc' Ls (.long (a ^^^ b) :: St))) G) : Runs p e below (T.setTop (mkF m pc Ls (.long b :: .long a :: St))) G := by
  subst hp
  exact X.step (fun _ hx hb' _ hown _ S t q => XS.lxor S.here hx rfl (hb hb' hd) rfl q) k
theorem Here.ishl (X : Here p l e R s m args below meth c y bytes maxL ret Z h0 ws T cells slots h) {pc pc' : Nat} {Ls : Array Slot} {St : List Value} {a b : Int32} (hd : decode bytes pc = .ok (.ishl, 1))  (hp : pc + 1 = pc') (k : Runs p e below (T.setTop (mkF m pc' Ls (.int (a <<< (b &&& 31)) :: St))) G) : Runs p e below (T.setTop (mkF m pc Ls (.int b :: .int a :: St))) G := by
  subst hp
  exact X.step (fun _ hx hb' _ hown _ S t q => XS.ishl S.here hx rfl (hb hb' hd) rfl q) k
theorem Here.ishr (X : Here p l e R s m args below meth c y bytes maxL ret Z h0 ws T cells slots h) {pc pc' : Nat} {Ls : Array Slot} {St : List Value} {a b : Int32} (hd : decode bytes pc = .ok (.ishr, 1))  (hp : pc + 1 = pc') (k : Runs p e below (T.setTop (mkF m pc' Ls (.int (a >>> (b &&& 31)) :: St))) G) : Runs p e below (T.setTop (mkF m pc Ls (.int b :: .int a :: St))) G := by
  subst hp
  exact X.step (fun _ hx hb' _ hown _ S t q => XS.ishr S.here hx rfl (hb hb' hd) rfl q) k
theorem Here.iushr (X : Here p l e R s m args below meth c y bytes maxL ret Z h0 ws T cells slots h) {pc pc' : Nat} {Ls : Array Slot} {St : List Value} {a b : Int32} (hd : decode bytes pc = .ok (.iushr, 1))  (hp : pc + 1 = pc') (k : Runs p e below (T.setTop (mkF m pc' Ls (.int ((a.toUInt32 >>> (b &&& 31).toUInt32).toInt32) :: St))) G) : Runs p e below (T.setTop (mkF m pc Ls (.int b :: .int a :: St))) G := by
  subst hp
  exact X.step (fun _ hx hb' _ hown _ S t q => XS.iushr S.here hx rfl (hb hb' hd) rfl q) k
theorem Here.lshl (X : Here p l e R s m args below meth c y bytes maxL ret Z h0 ws T cells slots h) {pc pc' : Nat} {Ls : Array Slot} {St : List Value} {a : Int64} {b : Int32} (hd : decode bytes pc = .ok (.lshl, 1))  (hp : pc + 1 = pc') (k : Runs p e below (T.setTop (mkF m pc' Ls (.long (a <<< (b &&& 0x3f).toInt64) :: St))) G) : Runs p e below (T.setTop (mkF m pc Ls (.int b :: .long a :: St))) G := by
  subst hp
  exact X.step (fun _ hx hb' _ hown _ S t q => XS.lshl S.here hx rfl (hb hb' hd) rfl q) k
theorem Here.lshr (X : Here p l e R s m args below meth c y bytes maxL ret Z h0 ws T cells slots h) {pc pc' : Nat} {Ls : Array Slot} {St : List Value} {a : Int64} {b : Int32} (hd : decode bytes pc = .ok (.lshr, 1))  (hp : pc + 1 = pc') (k : Runs p e below (T.setTop (mkF m pc' Ls (.long (a >>> (b &&& 0x3f).toInt64) :: St))) G) : Runs p e below (T.setTop (mkF m pc Ls (.int b :: .long a :: St))) G := by
  subst hp
  exact X.step (fun _ hx hb' _ hown _ S t q => XS.lshr S.here hx rfl (hb hb' hd) rfl q) k
theorem Here.lushr (X : Here p l e R s m args below meth c y bytes maxL ret Z h0 ws T cells slots h) {pc pc' : Nat} {Ls : Array Slot} {St : List Value} {a : Int64} {b : Int32} (hd : decode bytes pc = .ok (.lushr, 1))  (hp : pc + 1 = pc') (k : Runs p e below (T.setTop (mkF m pc' Ls (.long ((a.toUInt64 >>> (b &&& 0x3f).toInt64.toUInt64).toInt64) :: St))) G) : Runs p e below (T.setTop (mkF m pc Ls (.int b :: .long a :: St))) G := by
  subst hp
  exact X.step (fun _ hx hb' _ hown _ S t q => XS.lushr S.here hx rfl (hb hb' hd) rfl q) k
theorem Here.ineg (X : Here p l e R s m args below meth c y bytes maxL ret Z h0 ws T cells slots h) {pc pc' : Nat} {Ls : Array Slot} {St : List Value} {a : Int32} (hd : decode bytes pc = .ok (.ineg, 1))  (hp : pc + 1 = pc') (k : Runs p e below (T.setTop (mkF m pc' Ls (.int (-a) :: St))) G) : Runs p e below (T.setTop (mkF m pc Ls (.int a :: St))) G := by
  subst hp
  exact X.step (fun _ hx hb' _ hown _ S t q => XS.ineg S.here hx rfl (hb hb' hd) rfl q) k
theorem Here.lneg (X : Here p l e R s m args below meth c y bytes maxL ret Z h0 ws T cells slots h) {pc pc' : Nat} {Ls : Array Slot} {St : List Value} {a : Int64} (hd : decode bytes pc = .ok (.lneg, 1))  (hp : pc + 1 = pc') (k : Runs p e below (T.setTop (mkF m pc' Ls (.long (-a) :: St))) G) : Runs p e below (T.setTop (mkF m pc Ls (.long a :: St))) G := by
  subst hp
  exact X.step (fun _ hx hb' _ hown _ S t q => XS.lneg S.here hx rfl (hb hb' hd) rfl q) k
theorem Here.lcmp (X : Here p l e R s m args below meth c y bytes maxL ret Z h0 ws T cells slots h) {pc pc' : Nat} {Ls : Array Slot} {St : List Value} {a b : Int64} (hd : decode bytes pc = .ok (.lcmp, 1))  (hp : pc + 1 = pc') (k : Runs p e below (T.setTop (mkF m pc' Ls (.int (lcmpW a b) :: St))) G) : Runs p e below (T.setTop (mkF m pc Ls (.long b :: .long a :: St))) G := by
  subst hp
  exact X.step (fun _ hx hb' _ hown _ S t q => XS.lcmp S.here hx rfl (hb hb' hd) rfl q) k
theorem Here.i2l (X : Here p l e R s m args below meth c y bytes maxL ret Z h0 ws T cells slots h) {pc pc' : Nat} {Ls : Array Slot} {St : List Value} {a : Int32} (hd : decode bytes pc = .ok (.i2l, 1))  (hp : pc + 1 = pc') (k : Runs p e below (T.setTop (mkF m pc' Ls (.long a.toInt64 :: St))) G) : Runs p e below (T.setTop (mkF m pc Ls (.int a :: St))) G := by
  subst hp
  exact X.step (fun _ hx hb' _ hown _ S t q => XS.i2l S.here hx rfl (hb hb' hd) rfl q) k
theorem Here.l2i (X : Here p l e R s m args below meth c y bytes maxL ret Z h0 ws T cells slots h) {pc pc' : Nat} {Ls : Array Slot} {St : List Value} {a : Int64} (hd : decode bytes pc = .ok (.l2i, 1))  (hp : pc + 1 = pc') (k : Runs p e below (T.setTop (mkF m pc' Ls (.int a.toInt32 :: St))) G) : Runs p e below (T.setTop (mkF m pc Ls (.long a :: St))) G := by
  subst hp
  exact X.step (fun _ hx hb' _ hown _ S t q => XS.l2i S.here hx rfl (hb hb' hd) rfl q) k
theorem Here.i2b (X : Here p l e R s m args below meth c y bytes maxL ret Z h0 ws T cells slots h) {pc pc' : Nat} {Ls : Array Slot} {St : List Value} {a : Int32} (hd : decode bytes pc = .ok (.i2b, 1))  (hp : pc + 1 = pc') (k : Runs p e below (T.setTop (mkF m pc' Ls (.int a.toInt8.toInt32 :: St))) G) : Runs p e below (T.setTop (mkF m pc Ls (.int a :: St))) G := by
  subst hp
  exact X.step (fun _ hx hb' _ hown _ S t q => XS.i2b S.here hx rfl (hb hb' hd) rfl q) k
theorem Here.i2s (X : Here p l e R s m args below meth c y bytes maxL ret Z h0 ws T cells slots h) {pc pc' : Nat} {Ls : Array Slot} {St : List Value} {a : Int32} (hd : decode bytes pc = .ok (.i2s, 1))  (hp : pc + 1 = pc') (k : Runs p e below (T.setTop (mkF m pc' Ls (.int a.toInt16.toInt32 :: St))) G) : Runs p e below (T.setTop (mkF m pc Ls (.int a :: St))) G := by
  subst hp
  exact X.step (fun _ hx hb' _ hown _ S t q => XS.i2s S.here hx rfl (hb hb' hd) rfl q) k
theorem Here.i2c (X : Here p l e R s m args below meth c y bytes maxL ret Z h0 ws T cells slots h) {pc pc' : Nat} {Ls : Array Slot} {St : List Value} {a : Int32} (hd : decode bytes pc = .ok (.i2c, 1))  (hp : pc + 1 = pc') (k : Runs p e below (T.setTop (mkF m pc' Ls (.int a.toUInt32.toUInt16.toUInt32.toInt32 :: St))) G) : Runs p e below (T.setTop (mkF m pc Ls (.int a :: St))) G := by
  subst hp
  exact X.step (fun _ hx hb' _ hown _ S t q => XS.i2c S.here hx rfl (hb hb' hd) rfl q) k
theorem Here.irem (X : Here p l e R s m args below meth c y bytes maxL ret Z h0 ws T cells slots h) {pc pc' : Nat} {Ls : Array Slot} {St : List Value} {a b : Int32} (hd : decode bytes pc = .ok (.irem, 1)) (hy : b ≠ 0) (hp : pc + 1 = pc') (k : Runs p e below (T.setTop (mkF m pc' Ls (.int (a % b) :: St))) G) : Runs p e below (T.setTop (mkF m pc Ls (.int b :: .int a :: St))) G := by
  subst hp
  exact X.step (fun _ hx hb' _ hown _ S t q => iremM S hx rfl (hb hb' hd) rfl hy q) k
theorem Here.idiv (X : Here p l e R s m args below meth c y bytes maxL ret Z h0 ws T cells slots h) {pc pc' : Nat} {Ls : Array Slot} {St : List Value} {a b : Int32} (hd : decode bytes pc = .ok (.idiv, 1)) (hy : b ≠ 0) (hp : pc + 1 = pc') (k : Runs p e below (T.setTop (mkF m pc' Ls (.int (a / b) :: St))) G) : Runs p e below (T.setTop (mkF m pc Ls (.int b :: .int a :: St))) G := by
  subst hp
  exact X.step (fun _ hx hb' _ hown _ S t q => XS.idiv S.here hx rfl (hb hb' hd) rfl hy q) k
theorem Here.iinc (X : Here p l e R s m args below meth c y bytes maxL ret Z h0 ws T cells slots h) {pc pc' : Nat} {Ls : Array Slot} {St : List Value} {i : Nat} {cst : Int} {v z : Int32} {l' : Array Slot} (hd : decode bytes pc = .ok (.iinc i cst, 3)) (hl : Ls[i]? = some (.val (.int v))) (hz : Int32.ofInt cst = z) (hl' : storeLocals Ls i (.int (v + z)) = some l') (hp : pc + 3 = pc') (k : Runs p e below (T.setTop (mkF m pc' l' (St))) G) : Runs p e below (T.setTop (mkF m pc Ls (St))) G := by
  subst hp
  exact X.step (fun _ hx hb' _ hown _ S t q => XS.iinc S.here hx rfl (hb hb' hd) hl (hz ▸ hl') q) k
theorem Here.dup (X : Here p l e R s m args below meth c y bytes maxL ret Z h0 ws T cells slots h) {pc pc' : Nat} {Ls : Array Slot} {St : List Value} {v : Value} (hd : decode bytes pc = .ok (.dup, 1)) (hv : v.category = 1) (hp : pc + 1 = pc') (k : Runs p e below (T.setTop (mkF m pc' Ls (v :: v :: St))) G) : Runs p e below (T.setTop (mkF m pc Ls (v :: St))) G := by
  subst hp
  exact X.step (fun _ hx hb' _ hown _ S t q => XS.dup S.here hx rfl (hb hb' hd) rfl hv q) k
theorem Here.dupX1 (X : Here p l e R s m args below meth c y bytes maxL ret Z h0 ws T cells slots h) {pc pc' : Nat} {Ls : Array Slot} {St : List Value} {v w : Value} (hd : decode bytes pc = .ok (.dup_x1, 1)) (hv : v.category = 1) (hw : w.category = 1) (hp : pc + 1 = pc') (k : Runs p e below (T.setTop (mkF m pc' Ls (v :: w :: v :: St))) G) : Runs p e below (T.setTop (mkF m pc Ls (v :: w :: St))) G := by
  subst hp
  exact X.step (fun _ hx hb' _ hown _ S t q => XS.dupX1 S.here hx rfl (hb hb' hd) rfl hv hw q) k
theorem Here.dup2 (X : Here p l e R s m args below meth c y bytes maxL ret Z h0 ws T cells slots h) {pc pc' : Nat} {Ls : Array Slot} {St : List Value} {v w : Value} (hd : decode bytes pc = .ok (.dup2, 1)) (hv : v.category = 1) (hw : w.category = 1) (hp : pc + 1 = pc') (k : Runs p e below (T.setTop (mkF m pc' Ls (v :: w :: v :: w :: St))) G) : Runs p e below (T.setTop (mkF m pc Ls (v :: w :: St))) G := by
  subst hp
  exact X.step (fun _ hx hb' _ hown _ S t q => Jvm.Free.XT.dup2 S.here hx rfl (hb hb' hd) rfl hv hw q) k
theorem Here.dup2L (X : Here p l e R s m args below meth c y bytes maxL ret Z h0 ws T cells slots h) {pc pc' : Nat} {Ls : Array Slot} {St : List Value} {v : Int64} (hd : decode bytes pc = .ok (.dup2, 1))  (hp : pc + 1 = pc') (k : Runs p e below (T.setTop (mkF m pc' Ls (.long v :: .long v :: St))) G) : Runs p e below (T.setTop (mkF m pc Ls (.long v :: St))) G := by
  subst hp
  exact X.step (fun _ hx hb' _ hown _ S t q => Jvm.Free.XT.dup2L S.here hx rfl (hb hb' hd) rfl q) k
theorem Here.pop (X : Here p l e R s m args below meth c y bytes maxL ret Z h0 ws T cells slots h) {pc pc' : Nat} {Ls : Array Slot} {St : List Value} {v : Value} (hd : decode bytes pc = .ok (.pop, 1)) (hv : v.category = 1) (hp : pc + 1 = pc') (k : Runs p e below (T.setTop (mkF m pc' Ls (St))) G) : Runs p e below (T.setTop (mkF m pc Ls (v :: St))) G := by
  subst hp
  exact X.step (fun _ hx hb' _ hown _ S t q => XS.pop S.here hx rfl (hb hb' hd) rfl hv q) k
theorem Here.ldcInt (X : Here p l e R s m args below meth c y bytes maxL ret Z h0 ws T cells slots h) {pc pc' : Nat} {Ls : Array Slot} {St : List Value} {i : Nat} {v : Int32} (w : (Jvm.Cond.constant y.cls i v).before a0 Z = true) (hd : decode bytes pc = .ok (.ldc i, 2)) (hp : pc + 2 = pc') (k : Runs p e below (T.setTop (mkF m pc' Ls (.int v :: St))) G) : Runs p e below (T.setTop (mkF m pc Ls St)) G := by
  subst hp
  exact X.step (fun _ hx hb' hZ hown _ S t q => S.ldcInt hx hown (mvT hZ w) (g := mkF m pc Ls St) rfl (hb hb' hd) t q) k
theorem Here.ldcwInt (X : Here p l e R s m args below meth c y bytes maxL ret Z h0 ws T cells slots h) {pc pc' : Nat} {Ls : Array Slot} {St : List Value} {i : Nat} {v : Int32} (w : (Jvm.Cond.constant y.cls i v).before a0 Z = true) (hd : decode bytes pc = .ok (.ldc_w i, 3)) (hp : pc + 3 = pc') (k : Runs p e below (T.setTop (mkF m pc' Ls (.int v :: St))) G) : Runs p e below (T.setTop (mkF m pc Ls St)) G := by
  subst hp
  exact X.step (fun _ hx hb' hZ hown _ S t q => S.ldcwInt hx hown (mvT hZ w) (g := mkF m pc Ls St) rfl (hb hb' hd) t q) k
theorem Here.ldc2 (X : Here p l e R s m args below meth c y bytes maxL ret Z h0 ws T cells slots h) {pc pc' : Nat} {Ls : Array Slot} {St : List Value} {i : Nat} {v : Int64} (w : (Jvm.Cond.constantLong y.cls i v).before a0 Z = true) (hd : decode bytes pc = .ok (.ldc2_w i, 3)) (hp : pc + 3 = pc') (k : Runs p e below (T.setTop (mkF m pc' Ls (.long v :: St))) G) : Runs p e below (T.setTop (mkF m pc Ls St)) G := by
  subst hp
  exact X.step (fun _ hx hb' hZ hown _ S t q => S.ldc2Long hx hown (mvT hZ w) (g := mkF m pc Ls St) rfl (hb hb' hd) t q) k
theorem Here.goto (X : Here p l e R s m args below meth c y bytes maxL ret Z h0 ws T cells slots h) {pc pc' : Nat} {Ls : Array Slot} {St : List Value} {o : Int}  (hd : decode bytes pc = .ok (.goto o, 3))  (ho : 0 ≤ (pc : Int) + o) (hp : ((pc : Int) + o).toNat = pc') (k : Runs p e below (T.setTop (mkF m pc' Ls St)) G) : Runs p e below (T.setTop (mkF m pc Ls (St))) G := by
  exact X.step (fun _ hx hb' _ hown _ S t q => XS.goto S.here hx rfl rfl (hb hb' hd) ho hp q) k
theorem Here.ifYes (X : Here p l e R s m args below meth c y bytes maxL ret Z h0 ws T cells slots h) {pc pc' : Nat} {Ls : Array Slot} {St : List Value} {o : Int} {cd : ClassFile.Cond} {a : Int32} (hd : decode bytes pc = .ok (.ifCond cd o, 3)) (hc : if_icmp.holds cd a 0 = true) (ho : 0 ≤ (pc : Int) + o) (hp : ((pc : Int) + o).toNat = pc') (k : Runs p e below (T.setTop (mkF m pc' Ls St)) G) : Runs p e below (T.setTop (mkF m pc Ls (.int a :: St))) G := by
  exact X.step (fun _ hx hb' _ hown _ S t q => XS.ifYes S.here hx rfl rfl (hb hb' hd) rfl ((if0 _ _).trans hc) ho hp q) k
theorem Here.icmpYes (X : Here p l e R s m args below meth c y bytes maxL ret Z h0 ws T cells slots h) {pc pc' : Nat} {Ls : Array Slot} {St : List Value} {o : Int} {cd : ClassFile.Cond} {a b : Int32} (hd : decode bytes pc = .ok (.if_icmp cd o, 3)) (hc : if_icmp.holds cd a b = true) (ho : 0 ≤ (pc : Int) + o) (hp : ((pc : Int) + o).toNat = pc') (k : Runs p e below (T.setTop (mkF m pc' Ls St)) G) : Runs p e below (T.setTop (mkF m pc Ls (.int b :: .int a :: St))) G := by
  exact X.step (fun _ hx hb' _ hown _ S t q => XS.icmpYes S.here hx rfl rfl (hb hb' hd) rfl hc ho hp q) k
theorem Here.ifnullYes (X : Here p l e R s m args below meth c y bytes maxL ret Z h0 ws T cells slots h) {pc pc' : Nat} {Ls : Array Slot} {St : List Value} {o : Int}  (hd : decode bytes pc = .ok (.ifnull o, 3))  (ho : 0 ≤ (pc : Int) + o) (hp : ((pc : Int) + o).toNat = pc') (k : Runs p e below (T.setTop (mkF m pc' Ls St)) G) : Runs p e below (T.setTop (mkF m pc Ls (.null :: St))) G := by
  exact X.step (fun _ hx hb' _ hown _ S t q => XS.ifnullYes S.here hx rfl rfl (hb hb' hd) rfl ho hp q) k
theorem Here.ifnonnullYes (X : Here p l e R s m args below meth c y bytes maxL ret Z h0 ws T cells slots h) {pc pc' : Nat} {Ls : Array Slot} {St : List Value} {o : Int} {b : Addr} (hd : decode bytes pc = .ok (.ifnonnull o, 3))  (ho : 0 ≤ (pc : Int) + o) (hp : ((pc : Int) + o).toNat = pc') (k : Runs p e below (T.setTop (mkF m pc' Ls St)) G) : Runs p e below (T.setTop (mkF m pc Ls (.ref b :: St))) G := by
  exact X.step (fun _ hx hb' _ hown _ S t q => XS.ifnonnullYes S.here hx rfl rfl (hb hb' hd) rfl ho hp q) k
theorem Here.ifNo (X : Here p l e R s m args below meth c y bytes maxL ret Z h0 ws T cells slots h) {pc pc' : Nat} {Ls : Array Slot} {St : List Value} {o : Int} {cd : ClassFile.Cond} {a : Int32} (hd : decode bytes pc = .ok (.ifCond cd o, 3)) (hc : if_icmp.holds cd a 0 = false) (hp : pc + 3 = pc') (k : Runs p e below (T.setTop (mkF m pc' Ls (St))) G) : Runs p e below (T.setTop (mkF m pc Ls (.int a :: St))) G := by
  subst hp
  exact X.step (fun _ hx hb' _ hown _ S t q => XS.ifNo S.here hx rfl (hb hb' hd) rfl ((if0 _ _).trans hc) q) k
theorem Here.icmpNo (X : Here p l e R s m args below meth c y bytes maxL ret Z h0 ws T cells slots h) {pc pc' : Nat} {Ls : Array Slot} {St : List Value} {o : Int} {cd : ClassFile.Cond} {a b : Int32} (hd : decode bytes pc = .ok (.if_icmp cd o, 3)) (hc : if_icmp.holds cd a b = false) (hp : pc + 3 = pc') (k : Runs p e below (T.setTop (mkF m pc' Ls (St))) G) : Runs p e below (T.setTop (mkF m pc Ls (.int b :: .int a :: St))) G := by
  subst hp
  exact X.step (fun _ hx hb' _ hown _ S t q => XS.icmpNo S.here hx rfl (hb hb' hd) rfl hc q) k
theorem Here.ifnullNo (X : Here p l e R s m args below meth c y bytes maxL ret Z h0 ws T cells slots h) {pc pc' : Nat} {Ls : Array Slot} {St : List Value} {o : Int} {b : Addr} (hd : decode bytes pc = .ok (.ifnull o, 3))  (hp : pc + 3 = pc') (k : Runs p e below (T.setTop (mkF m pc' Ls (St))) G) : Runs p e below (T.setTop (mkF m pc Ls (.ref b :: St))) G := by
  subst hp
  exact X.step (fun _ hx hb' _ hown _ S t q => XS.ifnullNo S.here hx rfl (hb hb' hd) rfl q) k
theorem Here.ifnonnullNo (X : Here p l e R s m args below meth c y bytes maxL ret Z h0 ws T cells slots h) {pc pc' : Nat} {Ls : Array Slot} {St : List Value} {o : Int} (hd : decode bytes pc = .ok (.ifnonnull o, 3))  (hp : pc + 3 = pc') (k : Runs p e below (T.setTop (mkF m pc' Ls (St))) G) : Runs p e below (T.setTop (mkF m pc Ls (.null :: St))) G := by
  subst hp
  exact X.step (fun _ hx hb' _ hown _ S t q => XS.ifnonnullNo S.here hx rfl (hb hb' hd) rfl q) k
theorem Here.acmp (X : Here p l e R s m args below meth c y bytes maxL ret Z h0 ws T cells slots h) {pc pc' : Nat} {Ls : Array Slot} {St : List Value} {o : Int} {cd : ACond} {u v : Value} {same : Bool} (hd : decode bytes pc = .ok (.if_acmp cd o, 3)) (hu : u.isRef = true) (hv : v.isRef = true) (hq : decide (u = v) = same) (ho : 0 ≤ (pc : Int) + o) (hp : pc' = if acV cd same = true then ((pc : Int) + o).toNat else pc + 3) (k : Runs p e below (T.setTop (mkF m pc' Ls St)) G) : Runs p e below (T.setTop (mkF m pc Ls (v :: u :: St))) G := by
  exact X.step (fun _ hx hb' _ hown _ S t q => Jvm.RoadKit.acmp (g := mkF m pc Ls (v :: u :: St)) S hx rfl hu hv rfl (hb hb' hd) rfl hq ho hp q) k
theorem Here.getfield (X : Here p l e R s m args below meth c y bytes maxL ret Z h0 ws T cells slots h) {pc pc' : Nat} {Ls : Array Slot} {St : List Value} {R0 O n d host : String} {i : Nat} {a : Addr} {v : Value} (w : (Jvm.Cond.fieldLink y.cls i R0 n d).before a0 Z = true ∨ (Jvm.Cond.fieldLinkNest y.cls i R0 n d host).before a0 Z = true) (via : Via Z R0 O n d) (F : Fld Z h a O n d v) (hd : decode bytes pc = .ok (.getfield i, 3)) (hp : pc + 3 = pc')
    (k : ∀ T', Here p l e R s m args below meth c y bytes maxL ret Z h0 ws T' cells slots h → Runs p e below (T'.setTop (mkF m pc' Ls (v :: St))) G) : Runs p e below (T.setTop (mkF m pc Ls (.ref a :: St))) G := by
  subst hp
  exact X.stepT (fun _ hx hb' _ hZ hown eT S => getF S hx hZ hown w via eT F (g := mkF m pc Ls (.ref a :: St)) rfl rfl (hb hb' hd)) k
theorem Here.getstatic (X : Here p l e R s m args below meth c y bytes maxL ret Z h0 ws T cells slots h) {pc pc' : Nat} {Ls : Array Slot} {St : List Value} {R0 O n d host : String} {i : Nat} {v : Value} (w : (Jvm.Cond.fieldLink y.cls i R0 n d).before a0 Z = true ∨ (Jvm.Cond.fieldLinkNest y.cls i R0 n d host).before a0 Z = true) (via : Via Z R0 O n d) (F : Sta Z h O n d v) (hd : decode bytes pc = .ok (.getstatic i, 3)) (hp : pc + 3 = pc')
    (k : ∀ T', Here p l e R s m args below meth c y bytes maxL ret Z h0 ws T' cells slots h → Runs p e below (T'.setTop (mkF m pc' Ls (v :: St))) G) : Runs p e below (T.setTop (mkF m pc Ls St)) G := by
  subst hp
  exact X.stepT (fun _ hx hb' _ hZ hown eT S => getS2 S hx hZ hown w via eT F (g := mkF m pc Ls St) rfl (hb hb' hd)) k
theorem Here.putfield (X : Here p l e R s m args below meth c y bytes maxL ret Z h0 ws T cells slots h) {pc pc' : Nat} {Ls : Array Slot} {St : List Value} {R0 O n d host C : String} {i kk : Nat} {ty : FieldType} {a : Addr} {v old : Value} (w : (Jvm.Cond.fieldLink y.cls i R0 n d).before a0 Z = true ∨ (Jvm.Cond.fieldLinkNest y.cls i R0 n d host).before a0 Z = true) (via : Via Z R0 O n d) (F : Fld Z h a O n d old) (E : Exa Z h a C)
    (L : (Jvm.Cond.lays C O n d).before a0 Z = true ∨ ((Jvm.Cond.laysFinal C O n d).before a0 Z = true ∧ y.cls = O ∧ y.name = "<init>")) (wi : (Jvm.Cond.instantiable C kk).before a0 Z = true) (hty : parseFieldDescriptor d = some ty) (hn : narrow ty v = v) (hf : fits ty v = true) (hd : decode bytes pc = .ok (.putfield i, 3)) (hp : pc + 3 = pc') (hws : a ∈ ws ∨ h0.size ≤ a)
    (k : ∀ T' h', Here p l e R s m args below meth c y bytes maxL ret Z h0 ws T' cells slots h' → Wr h h' a (Jvm.RoadKit.slotOf Z O n d) v → Runs p e below (T'.setTop (mkF m pc' Ls St)) G) : Runs p e below (T.setTop (mkF m pc Ls (v :: .ref a :: St))) G := by
  subst hp
  exact X.stepW hws (fun _ hx hb' hnm hZ hown eT S => putF S hx hZ hown w via eT F E (L.imp id fun q => ⟨q.1, q.2.1, hnm.trans q.2.2⟩) wi hty hn hf (g := mkF m pc Ls (v :: .ref a :: St)) rfl rfl (hb hb' hd)) k
theorem Here.putfieldN (X : Here p l e R s m args below meth c y bytes maxL ret Z h0 ws T cells slots h) {pc pc' : Nat} {Ls : Array Slot} {St : List Value} {R0 O n d C : String} {i kk : Nat} {ty : FieldType} {a : Addr} {v v' old : Value} (w : (Jvm.Cond.fieldLink y.cls i R0 n d).before a0 Z = true) (via : Via Z R0 O n d) (F : Fld Z h a O n d old) (E : Exa Z h a C)
    (L : (Jvm.Cond.lays C O n d).before a0 Z = true ∨ ((Jvm.Cond.laysFinal C O n d).before a0 Z = true ∧ y.cls = O ∧ y.name = "<init>")) (wi : (Jvm.Cond.instantiable C kk).before a0 Z = true) (hty : parseFieldDescriptor d = some ty) (hn : narrow ty v = v') (hf : fits ty v' = true) (hd : decode bytes pc = .ok (.putfield i, 3)) (hp : pc + 3 = pc') (hws : a ∈ ws ∨ h0.size ≤ a)
    (k : ∀ T' h', Here p l e R s m args below meth c y bytes maxL ret Z h0 ws T' cells slots h' → Wr h h' a (Jvm.RoadKit.slotOf Z O n d) v' → Runs p e below (T'.setTop (mkF m pc' Ls St)) G) : Runs p e below (T.setTop (mkF m pc Ls (v :: .ref a :: St))) G := by
  subst hp
  exact X.stepW hws (fun _ hx hb' hnm hZ hown eT S => putFN S hx hZ hown w via eT F E (L.imp id fun q => ⟨q.1, q.2.1, hnm.trans q.2.2⟩) wi hty hn hf (g := mkF m pc Ls (v :: .ref a :: St)) rfl rfl (hb hb' hd)) k
theorem Here.new (X : Here p l e R s m args below meth c y bytes maxL ret Z h0 ws T cells slots h) {pc pc' : Nat} {Ls : Array Slot} {St : List Value} {C : String} {i n : Nat} (w : (Jvm.Cond.classLink y.cls i C).before a0 Z = true) (wi : (Jvm.Cond.instantiable C n).before a0 Z = true) (wz : (Jvm.Cond.initialized C).before a0 Z = true) (hd : decode bytes pc = .ok (.new i, 3)) (hp : pc + 3 = pc') (hc : cells + 1 ≤ R.cells) (hl : slots + n ≤ R.slots)
    (k : ∀ T' h' b, Here p l e R s m args below meth c y bytes maxL ret Z h0 ws T' (cells + 1) (slots + n) h' → b = h.size → Ext h h' → Exa Z h' b C → (∀ {O nm d : String} {ty : FieldType}, Laid Z a0 C O nm d → parseFieldDescriptor d = some ty → Fld Z h' b O nm d (defaultValue ty)) → Runs p e below (T'.setTop (mkF m pc' Ls (.ref b :: St))) G) : Runs p e below (T.setTop (mkF m pc Ls St)) G := by
  subst hp
  obtain ⟨⟨x1, x2, x3, x4, x5, x6, x7, x8⟩, x9, x10, locs, S, N⟩ := X
  obtain ⟨T', h', S', e', E, A, D, -, st⟩ := newO S x1 x2 x5 w wi wz x9 (g := mkF m pc Ls St) rfl (hb x3 hd) hc hl
  exact (k T' h' _ ⟨⟨x1, x2, x3, x4, x5, x6, x7, x8⟩, e', x10.ext E, _, S', N⟩ rfl E A D).of st
theorem Here.initObj (X : Here p l e R s m args below meth c y bytes maxL ret Z h0 ws T cells slots h) {pc pc' : Nat} {Ls : Array Slot} {St : List Value} {i : Nat} {a : Addr} (w1 : (Jvm.Cond.methodLink y.cls i Lib.objectInit).before a0 Z = true) (w2 : (Jvm.Cond.instanceMethod Lib.objectInit).before a0 Z = true) (w3 : (Jvm.Cond.code Lib.objectInit ⟨#[0xb1]⟩ 1 none).before a0 Z = true) (hsz : Ls.size = maxL) (hd : decode bytes pc = .ok (.invokespecial i, 3)) (hp : pc + 3 = pc') (hf : 1 ≤ R.frames) {W : Nat} (hW : (St.map fun v => v.category).sum = W) (hl : W + 12 ≤ R.locals)
    (k : ∀ T', Here p l e R s m args below meth c y bytes maxL ret Z h0 ws T' cells slots h → Runs p e below (T'.setTop (mkF m pc' Ls St)) G) : Runs p e below (T.setTop (mkF m pc Ls (.ref a :: St))) G := by
  subst hp
  exact X.stepT (fun _ hx hb' hml hZ hown eT S => initO S hx hZ hown w1 w2 w3 eT (g := mkF m pc Ls (.ref a :: St)) rfl (hsz.trans hml.symm) rfl (hb hb' hd) hf (W := W) (by show 2 * 0 + _ ≤ _; rw [hW]; omega) hl) k
theorem Here.castYes (X : Here p l e R s m args below meth c y bytes maxL ret Z h0 ws T cells slots h) {pc pc' : Nat} {Ls : Array Slot} {St : List Value} {K : String} {i : Nat} {a : Addr} (w : (Jvm.Cond.classLink y.cls i K).before a0 Z = true) (F : Jvm.RoadKit.Ins Z h a K true) (hd : decode bytes pc = .ok (.checkcast i, 3)) (hp : pc + 3 = pc')
    (k : ∀ T', Here p l e R s m args below meth c y bytes maxL ret Z h0 ws T' cells slots h → Runs p e below (T'.setTop (mkF m pc' Ls (.ref a :: St))) G) : Runs p e below (T.setTop (mkF m pc Ls (.ref a :: St))) G := by
  subst hp
  exact X.stepT (fun _ hx hb' _ hZ hown eT S => castY S hx hZ hown w eT F (g := mkF m pc Ls (.ref a :: St)) rfl rfl (hb hb' hd)) k
theorem Here.instYes (X : Here p l e R s m args below meth c y bytes maxL ret Z h0 ws T cells slots h) {pc pc' : Nat} {Ls : Array Slot} {St : List Value} {K : String} {i : Nat} {a : Addr} (w : (Jvm.Cond.classLink y.cls i K).before a0 Z = true) (F : Jvm.RoadKit.Ins Z h a K true) (hd : decode bytes pc = .ok (.instanceof i, 3)) (hp : pc + 3 = pc')
    (k : ∀ T', Here p l e R s m args below meth c y bytes maxL ret Z h0 ws T' cells slots h → Runs p e below (T'.setTop (mkF m pc' Ls (.int (1 : Int32) :: St))) G) : Runs p e below (T.setTop (mkF m pc Ls (.ref a :: St))) G := by
  subst hp
  exact X.stepT (fun _ hx hb' _ hZ hown eT S => instY S hx hZ hown w eT F (g := mkF m pc Ls (.ref a :: St)) rfl rfl (hb hb' hd)) k
theorem Here.instNo (X : Here p l e R s m args below meth c y bytes maxL ret Z h0 ws T cells slots h) {pc pc' : Nat} {Ls : Array Slot} {St : List Value} {C K : String} {i : Nat} {a : Addr} (w : (Jvm.Cond.classLink y.cls i K).before a0 Z = true) (E : Exa Z h a C) (F : ∃ c t, Z.vm.findClass C = some c ∧ Z.vm.findClass K = some t ∧ Z.vm.assignable c t = false) (hd : decode bytes pc = .ok (.instanceof i, 3)) (hp : pc + 3 = pc')
    (k : ∀ T', Here p l e R s m args below meth c y bytes maxL ret Z h0 ws T' cells slots h → Runs p e below (T'.setTop (mkF m pc' Ls (.int (0 : Int32) :: St))) G) : Runs p e below (T.setTop (mkF m pc Ls (.ref a :: St))) G := by
  subst hp
  exact X.stepT (fun _ hx hb' _ hZ hown eT S => Jvm.RoadKit.instNo S hx hZ hown w eT E F (g := mkF m pc Ls (.ref a :: St)) rfl rfl (hb hb' hd)) k
theorem Here.checkcastNull (X : Here p l e R s m args below meth c y bytes maxL ret Z h0 ws T cells slots h) {pc pc' : Nat} {Ls : Array Slot} {St : List Value} {i : Nat} (hd : decode bytes pc = .ok (.checkcast i, 3)) (hp : pc + 3 = pc') (k : Runs p e below (T.setTop (mkF m pc' Ls (.null :: St))) G) : Runs p e below (T.setTop (mkF m pc Ls (.null :: St))) G := by
  subst hp
  exact X.step (fun _ hx hb' _ _ _ S t q => S.checkcastNull hx (g := mkF m pc Ls (.null :: St)) rfl rfl (hb hb' hd) t q) k
theorem Here.instanceofNull (X : Here p l e R s m args below meth c y bytes maxL ret Z h0 ws T cells slots h) {pc pc' : Nat} {Ls : Array Slot} {St : List Value} {i : Nat} (hd : decode bytes pc = .ok (.instanceof i, 3)) (hp : pc + 3 = pc') (k : Runs p e below (T.setTop (mkF m pc' Ls (.int (0 : Int32) :: St))) G) : Runs p e below (T.setTop (mkF m pc Ls (.null :: St))) G := by
  subst hp
  exact X.step (fun _ hx hb' _ _ _ S t q => S.instanceofNull hx (g := mkF m pc Ls (.null :: St)) rfl rfl (hb hb' hd) t q) k
theorem Here.aaload (X : Here p l e R s m args below meth c y bytes maxL ret Z h0 ws T cells slots h) {pc pc' : Nat} {Ls : Array Slot} {St : List Value} {a : Addr} {cl : Cell} {ty : FieldType} {j : Int32} {v : Value} (A : Arr Z h a cl ty) (hty : ty.isReference = true) (hj : ¬ (j < 0 ∨ cl.slots.size ≤ j.toNatClampNeg)) (hv : cl.slots[j.toNatClampNeg]? = some v) (hd : decode bytes pc = .ok (.aaload, 1)) (hp : pc + 1 = pc')
    (k : Runs p e below (T.setTop (mkF m pc' Ls (v :: St))) G) : Runs p e below (T.setTop (mkF m pc Ls (.int j :: .ref a :: St))) G := by
  subst hp
  exact X.step (fun _ hx hb' hZ _ eT S t q => S.aaload hx (j := j) (v := v) (by rw [eT]; exact A.1) (State.isArrayOf_alike hZ.alike A.2.1) hty A.2.2 hj hv (g := mkF m pc Ls (.int j :: .ref a :: St)) rfl rfl (hb hb' hd) t q) k
theorem sta_keep0 {C n d : String} {v : Value} {h' : Heap} (F : Sta Z h C n d v) (K : Keep h h' []) : Sta Z h' C n d v := by
  obtain ⟨cf, i, k, f, st, cell, h1, h2, h3, h4, h5, r⟩ := F
  exact ⟨cf, i, k, f, st, cell, h1, h2, h3, h4, K.2.1 _ _ h5 nin0, r⟩
theorem arr_keep0 {a : Addr} {cl : Cell} {ty : FieldType} {h' : Heap} (F : Arr Z h a cl ty) (K : Keep h h' []) : Arr Z h' a cl ty := ⟨K.2.1 _ _ F.1 nin0, F.2⟩
theorem allWs0 {P : Addr → Prop} : ∀ x ∈ ([] : List Addr), P x := fun _ q => nomatch q
/-! arrays: the list of their values -/
/-- the array at a holds just these values -/
def Lst (Z : State) (h : Heap) (a : Addr) (ty : FieldType) (vs : List Value) : Prop := ∃ cl : Cell, Arr Z h a cl ty ∧ cl.slots = vs.toArray ∧ vs.length < 2 ^ 31
section L
variable {a b : Addr} {ty : FieldType} {vs : List Value} {h' : Heap} {sl : Nat} {v : Value} {ws' : List Addr} {C' : String}
theorem Lst.lt (F : Lst Z h a ty vs) : a < h.size := by obtain ⟨c, A, -⟩ := F; exact A.lt
theorem Lst.len (F : Lst Z h a ty vs) : vs.length < 2 ^ 31 := by obtain ⟨c, A, -, q⟩ := F; exact q
theorem Lst.ext (F : Lst Z h a ty vs) (E : Ext h h') : Lst Z h' a ty vs := by obtain ⟨c, A, r⟩ := F; exact ⟨c, A.ext E, r⟩
theorem Lst.other (F : Lst Z h b ty vs) (W : Wr h h' a sl v) (q : b ≠ a) : Lst Z h' b ty vs := by obtain ⟨c, A, r⟩ := F; exact ⟨c, A.other W q, r⟩
theorem Lst.keep (F : Lst Z h a ty vs) (K : Keep h h' ws') (q : a ∉ ws') : Lst Z h' a ty vs := by obtain ⟨c, A, r⟩ := F; exact ⟨c, ⟨K.2.1 a c A.1 q, A.2⟩, r⟩
theorem Lst.set (F : Lst Z h a ty vs) (W : Wr h h' a sl v) : Lst Z h' a ty (vs.set sl v) := by
  obtain ⟨c, A, r, q⟩ := F
  exact ⟨_, A.same W, by simp [Cell.setSlot, r], by simpa using q⟩
theorem Lst.ne (F : Lst Z h a ty vs) (wi : (Jvm.Cond.instantiable C' sl).before a0 Z = true) (G : Exa Z h b C') : b ≠ a := by obtain ⟨c, A, -⟩ := F; exact ne_arr G wi A
end L
/-- the place j lies inside a list -/
def Inb (j : Int32) (n : Nat) : Prop := 0 ≤ j.toInt ∧ j.toInt < (n : Int)
theorem nat_of_ins {j : Int32} {n : Nat} (q : Inb j n) : j.toNatClampNeg = j.toInt.toNat ∧ j.toInt.toNat < n ∧ ¬ j < 0 := by
  obtain ⟨q1, q2⟩ := q
  refine ⟨rfl, by omega, fun z => ?_⟩
  have : j.toInt < (0 : Int32).toInt := Int32.lt_iff_toInt_lt.mp z
  simp at this; omega
theorem in_of_ins {cl : Cell} {vs : List Value} {j : Int32} (r : cl.slots = vs.toArray) (q : Inb j vs.length) : ¬ (j < 0 ∨ cl.slots.size ≤ j.toNatClampNeg) := by
  obtain ⟨q1, q2, q3⟩ := nat_of_ins q
  rw [q1, r]; simp only [List.size_toArray]; intro z; rcases z with z | z
  · exact q3 z
  · omega
theorem at_of_ins {cl : Cell} {vs : List Value} {j : Int32} {v : Value} (r : cl.slots = vs.toArray) (hv : vs[j.toInt.toNat]? = some v) : cl.slots[j.toNatClampNeg]? = some v := by
  rw [r]; exact (by simpa using hv : vs.toArray[j.toInt.toNat]? = some v)
theorem Here.newarray (X : Here p l e R s m args below meth c y bytes maxL ret Z h0 ws T cells slots h) {pc pc' : Nat} {Ls : Array Slot} {St : List Value} {aty : ArrayType} {ty : FieldType} {n : Int32} (hty : newarray.typeOf aty = ty) (w : (Jvm.Cond.arrayClass ty).before a0 Z = true) (hd : decode bytes pc = .ok (.newarray aty, 2)) (hp : pc + 2 = pc') {cap : Nat} (hn : Inb n (cap + 1)) (hb8 : cap * 8 ≤ 536870912) (hc : cells + 1 ≤ R.cells) (hl : slots + cap ≤ R.slots)
    (k : ∀ T' h' b, Here p l e R s m args below meth c y bytes maxL ret Z h0 ws T' (cells + 1) (slots + cap) h' → b = h.size → Ext h h' → Lst Z h' b ty (List.replicate n.toInt.toNat (defaultValue ty)) → Runs p e below (T'.setTop (mkF m pc' Ls (.ref b :: St))) G) : Runs p e below (T.setTop (mkF m pc Ls (.int n :: St))) G := by
  subst hp; subst hty
  obtain ⟨n1, n2, n3⟩ := nat_of_ins hn
  obtain ⟨⟨x1, x2, x3, x4, x5, x6, x7, x8⟩, x9, x10, locs, S, N⟩ := X
  obtain ⟨T', h', cA, S', e', E, A, st⟩ := newP S x1 x2 w x9 (g := mkF m pc Ls (.int n :: St)) rfl (hb x3 hd) rfl n3 (cap := cap) (by rw [n1]; omega) hb8 hc hl
  exact (k T' h' _ ⟨⟨x1, x2, x3, x4, x5, x6, x7, x8⟩, e', x10.ext E, _, S', N⟩ rfl E ⟨_, A, by show Array.replicate n.toNatClampNeg _ = _; rw [n1, List.toArray_replicate], by rw [List.length_replicate]; omega⟩).of st
theorem Here.arraylength (X : Here p l e R s m args below meth c y bytes maxL ret Z h0 ws T cells slots h) {pc pc' : Nat} {Ls : Array Slot} {St : List Value} {a : Addr} {ty : FieldType} {vs : List Value} {n : Int32} (F : Lst Z h a ty vs) (hn : vs.length.toInt32 = n) (hd : decode bytes pc = .ok (.arraylength, 1)) (hp : pc + 1 = pc')
    (k : Runs p e below (T.setTop (mkF m pc' Ls (.int n :: St))) G) : Runs p e below (T.setTop (mkF m pc Ls (.ref a :: St))) G := by
  subst hp
  obtain ⟨cl, A, r, -⟩ := F
  exact X.step (fun _ hx hb' hZ _ eT S t q => S.arraylength hx (by rw [eT]; exact A.1) (State.isArrayOf_alike hZ.alike A.2.1) (g := mkF m pc Ls (.ref a :: St)) rfl rfl (hb hb' hd) t (by rw [r, List.size_toArray, hn]; exact q)) k
theorem Here.iaload (X : Here p l e R s m args below meth c y bytes maxL ret Z h0 ws T cells slots h) {pc pc' : Nat} {Ls : Array Slot} {St : List Value} {a : Addr} {vs : List Value} {j : Int32} {v : Value} (F : Lst Z h a .int vs) (hj : Inb j vs.length) (hv : vs[j.toInt.toNat]? = some v) (hd : decode bytes pc = .ok (.iaload, 1)) (hp : pc + 1 = pc')
    (k : Runs p e below (T.setTop (mkF m pc' Ls (v :: St))) G) : Runs p e below (T.setTop (mkF m pc Ls (.int j :: .ref a :: St))) G := by
  subst hp
  obtain ⟨cl, A, r, -⟩ := F
  exact X.step (fun _ hx hb' hZ _ eT S t q => S.iaload hx (j := j) (v := v) (by rw [eT]; exact A.1) (State.isArrayOf_alike hZ.alike A.2.1) A.2.2 (in_of_ins r hj) (at_of_ins r hv) (g := mkF m pc Ls (.int j :: .ref a :: St)) rfl rfl (hb hb' hd) t q) k
theorem Here.laload (X : Here p l e R s m args below meth c y bytes maxL ret Z h0 ws T cells slots h) {pc pc' : Nat} {Ls : Array Slot} {St : List Value} {a : Addr} {vs : List Value} {j : Int32} {v : Value} (F : Lst Z h a .long vs) (hj : Inb j vs.length) (hv : vs[j.toInt.toNat]? = some v) (hd : decode bytes pc = .ok (.laload, 1)) (hp : pc + 1 = pc')
    (k : Runs p e below (T.setTop (mkF m pc' Ls (v :: St))) G) : Runs p e below (T.setTop (mkF m pc Ls (.int j :: .ref a :: St))) G := by
  subst hp
  obtain ⟨cl, A, r, -⟩ := F
  exact X.step (fun _ hx hb' hZ _ eT S t q => S.laload hx (j := j) (v := v) (by rw [eT]; exact A.1) (State.isArrayOf_alike hZ.alike A.2.1) A.2.2 (in_of_ins r hj) (at_of_ins r hv) (g := mkF m pc Ls (.int j :: .ref a :: St)) rfl rfl (hb hb' hd) t q) k
theorem Here.caload (X : Here p l e R s m args below meth c y bytes maxL ret Z h0 ws T cells slots h) {pc pc' : Nat} {Ls : Array Slot} {St : List Value} {a : Addr} {vs : List Value} {j : Int32} {v : Value} (F : Lst Z h a .char vs) (hj : Inb j vs.length) (hv : vs[j.toInt.toNat]? = some v) (hd : decode bytes pc = .ok (.caload, 1)) (hp : pc + 1 = pc')
    (k : Runs p e below (T.setTop (mkF m pc' Ls (v :: St))) G) : Runs p e below (T.setTop (mkF m pc Ls (.int j :: .ref a :: St))) G := by
  subst hp
  obtain ⟨cl, A, r, -⟩ := F
  exact X.step (fun _ hx hb' hZ _ eT S t q => S.caload hx (j := j) (v := v) (by rw [eT]; exact A.1) (State.isArrayOf_alike hZ.alike A.2.1) A.2.2 (in_of_ins r hj) (at_of_ins r hv) (g := mkF m pc Ls (.int j :: .ref a :: St)) rfl rfl (hb hb' hd) t q) k
theorem Here.baload (X : Here p l e R s m args below meth c y bytes maxL ret Z h0 ws T cells slots h) {pc pc' : Nat} {Ls : Array Slot} {St : List Value} {a : Addr} {vs : List Value} {j : Int32} {v : Value} (F : Lst Z h a .byte vs) (hj : Inb j vs.length) (hv : vs[j.toInt.toNat]? = some v) (hd : decode bytes pc = .ok (.baload, 1)) (hp : pc + 1 = pc')
    (k : Runs p e below (T.setTop (mkF m pc' Ls (v :: St))) G) : Runs p e below (T.setTop (mkF m pc Ls (.int j :: .ref a :: St))) G := by
  subst hp
  obtain ⟨cl, A, r, -⟩ := F
  exact X.step (fun _ hx hb' hZ _ eT S t q => S.baloadBytes hx (j := j) (v := v) (by rw [eT]; exact A.1) (State.isArrayOf_alike hZ.alike A.2.1) A.2.2 (in_of_ins r hj) (at_of_ins r hv) (g := mkF m pc Ls (.int j :: .ref a :: St)) rfl rfl (hb hb' hd) t q) k
theorem Here.iastore (X : Here p l e R s m args below meth c y bytes maxL ret Z h0 ws T cells slots h) {pc pc' : Nat} {Ls : Array Slot} {St : List Value} {a : Addr} {vs : List Value} {j : Int32} {x : Int32} (F : Lst Z h a .int vs) (hj : Inb j vs.length) (hd : decode bytes pc = .ok (.iastore, 1)) (hp : pc + 1 = pc') (hws : a ∈ ws ∨ h0.size ≤ a)
    (k : ∀ T' h', Here p l e R s m args below meth c y bytes maxL ret Z h0 ws T' cells slots h' → Wr h h' a j.toInt.toNat (.int x) → Runs p e below (T'.setTop (mkF m pc' Ls St)) G) : Runs p e below (T.setTop (mkF m pc Ls (.int x :: .int j :: .ref a :: St))) G := by
  subst hp
  obtain ⟨cl, A, r, -⟩ := F
  exact X.stepW hws (fun _ hx hb' _ hZ _ eT S => stI S hx hZ eT A (j := j) (in_of_ins r hj) (g := mkF m pc Ls (.int x :: .int j :: .ref a :: St)) rfl rfl (hb hb' hd)) k
theorem Here.lastore (X : Here p l e R s m args below meth c y bytes maxL ret Z h0 ws T cells slots h) {pc pc' : Nat} {Ls : Array Slot} {St : List Value} {a : Addr} {vs : List Value} {j : Int32} {x : Int64} (F : Lst Z h a .long vs) (hj : Inb j vs.length) (hd : decode bytes pc = .ok (.lastore, 1)) (hp : pc + 1 = pc') (hws : a ∈ ws ∨ h0.size ≤ a)
    (k : ∀ T' h', Here p l e R s m args below meth c y bytes maxL ret Z h0 ws T' cells slots h' → Wr h h' a j.toInt.toNat (.long x) → Runs p e below (T'.setTop (mkF m pc' Ls St)) G) : Runs p e below (T.setTop (mkF m pc Ls (.long x :: .int j :: .ref a :: St))) G := by
  subst hp
  obtain ⟨cl, A, r, -⟩ := F
  exact X.stepW hws (fun _ hx hb' _ hZ _ eT S => stJ S hx hZ eT A (j := j) (in_of_ins r hj) (g := mkF m pc Ls (.long x :: .int j :: .ref a :: St)) rfl rfl (hb hb' hd)) k
theorem Here.castore (X : Here p l e R s m args below meth c y bytes maxL ret Z h0 ws T cells slots h) {pc pc' : Nat} {Ls : Array Slot} {St : List Value} {a : Addr} {vs : List Value} {j : Int32} {x : Int32} (F : Lst Z h a .char vs) (hj : Inb j vs.length) (hd : decode bytes pc = .ok (.castore, 1)) (hp : pc + 1 = pc') (hws : a ∈ ws ∨ h0.size ≤ a)
    (k : ∀ T' h', Here p l e R s m args below meth c y bytes maxL ret Z h0 ws T' cells slots h' → Wr h h' a j.toInt.toNat (.int (nar .char x)) → Runs p e below (T'.setTop (mkF m pc' Ls St)) G) : Runs p e below (T.setTop (mkF m pc Ls (.int x :: .int j :: .ref a :: St))) G := by
  subst hp
  obtain ⟨cl, A, r, -⟩ := F
  exact X.stepW hws (fun _ hx hb' _ hZ _ eT S => stC S hx hZ eT A (j := j) (in_of_ins r hj) (g := mkF m pc Ls (.int x :: .int j :: .ref a :: St)) rfl rfl (hb hb' hd)) k
theorem Here.bastore (X : Here p l e R s m args below meth c y bytes maxL ret Z h0 ws T cells slots h) {pc pc' : Nat} {Ls : Array Slot} {St : List Value} {a : Addr} {vs : List Value} {j : Int32} {x : Int32} (F : Lst Z h a .byte vs) (hj : Inb j vs.length) (hd : decode bytes pc = .ok (.bastore, 1)) (hp : pc + 1 = pc') (hws : a ∈ ws ∨ h0.size ≤ a)
    (k : ∀ T' h', Here p l e R s m args below meth c y bytes maxL ret Z h0 ws T' cells slots h' → Wr h h' a j.toInt.toNat (.int x.toInt8.toInt32) → Runs p e below (T'.setTop (mkF m pc' Ls St)) G) : Runs p e below (T.setTop (mkF m pc Ls (.int x :: .int j :: .ref a :: St))) G := by
  subst hp
  obtain ⟨cl, A, r, -⟩ := F
  exact X.stepW hws (fun _ hx hb' _ hZ _ eT S => stB S hx hZ eT A (j := j) (in_of_ins r hj) (g := mkF m pc Ls (.int x :: .int j :: .ref a :: St)) rfl rfl (hb hb' hd)) k
/-! calls by a contract -/
variable {y' : MethodName} {bytes' : ByteArray} {maxL' : Nat} {ret' : Option FieldType} {rm : Room} {as : Array Value} {ws' : List Addr} {Q : Option Value → Heap → Prop}
theorem backCt (X : Here p l e R s m args below meth c y bytes maxL ret Z h0 ws T cells slots h) {len W : Nat} (hM : Ct l Z y' bytes' maxL' ret' rm as h ws' Q) (wc : (Jvm.Cond.code y' bytes' maxL' ret').before a0 Z = true) (wz : (Jvm.Cond.initialized y'.cls).before a0 Z = true) (hf : rm.frames + 1 ≤ R.frames) (hl : W + (maxL' + 11) + rm.locals ≤ R.locals) :
    Back l R p e below s args y' len W (fun A a => a = as ∧ A.U.heap = h ∧ A.cells + rm.cells ≤ R.cells ∧ A.slots + rm.slots ≤ R.slots)
      (fun A _ v B => ∃ L, (Q v B.U.heap ∧ Keep h B.U.heap ws' ∧ Wrote h ws' L) ∧ B.locs = A.locs ++ L ∧ B.cells = A.cells + rm.cells ∧ B.slots = A.slots + rm.slots) :=
  backOf (Q := fun v h' L => Q v h' ∧ Keep h h' ws' ∧ Wrote h ws' L) (hM []) X.hZ wc wz hf hl
theorem Here.back (X : Here p l e R s m args below meth c y bytes maxL ret Z h0 ws T cells slots h) {U : State} {locs : List Loc} {h' : Heap} {L : List Loc} (N : Wrote h0 ws locs) (hU : Stand p l e R s m args below meth c U (locs ++ L) (cells + rm.cells) (slots + rm.slots)) (e' : U.heap = h') (K : Keep h h' ws') (N' : Wrote h ws' L) (hws : ∀ x ∈ ws', x ∈ ws ∨ h0.size ≤ x) :
    Here p l e R s m args below meth c y bytes maxL ret Z h0 ws U (cells + rm.cells) (slots + rm.slots) h' :=
  ⟨X.1, e', X.keep.trans K hws, _, hU, N.app N' X.size hws⟩
theorem Here.callS (X : Here p l e R s m args below meth c y bytes maxL ret Z h0 ws T cells slots h) {pc pc' : Nat} {Ls : Array Slot} {St : List Value} {i : Nat} {sig : MethodDescriptor} {argsL rest : List Value} (hM : Ct l Z y' bytes' maxL' ret' rm as h ws' Q) (w1 : (Jvm.Cond.methodLink y.cls i y').before a0 Z = true) (w2 : (Jvm.Cond.static y').before a0 Z = true) (w3 : (Jvm.Cond.initialized y'.cls).before a0 Z = true) (w4 : (Jvm.Cond.code y' bytes' maxL' ret').before a0 Z = true)
    (hy : y'.cls ≠ "java/lang/invoke/MethodHandle" ∧ y'.cls ≠ "java/lang/invoke/VarHandle") (hsig : parseMethodDescriptor y'.desc = some sig) (hlen : argsL.length = sig.parameters.length) (has : argsL.toArray = as) (hst : St = argsL.reverse ++ rest) (hsz : Ls.size = maxL) (hd : decode bytes pc = .ok (.invokestatic i, 3)) (hp : pc + 3 = pc')
    (hf : rm.frames + 1 ≤ R.frames) {W : Nat} (hW : (rest.map fun v => v.category).sum = W) (hl : W + (maxL' + 11) + rm.locals ≤ R.locals) (hc : cells + rm.cells ≤ R.cells) (hs : slots + rm.slots ≤ R.slots) (hws : ∀ x ∈ ws', x ∈ ws ∨ h0.size ≤ x)
    (k : ∀ T' h' v, Here p l e R s m args below meth c y bytes maxL ret Z h0 ws T' (cells + rm.cells) (slots + rm.slots) h' → Keep h h' ws' → Q v h' → Runs p e below (T'.setTop (mkF m pc' Ls (v.toList ++ rest))) G) : Runs p e below (T.setTop (mkF m pc Ls St)) G := by
  subst hp hst
  have X' := X
  obtain ⟨⟨x1, x2, x3, x4, x5, x6, x7, x8⟩, x9, x10, locs, S, N⟩ := X
  obtain ⟨v, vm₁, ⟨U, lo, ce, sl⟩, -, SU, ⟨Lc, hQ, z1, z2, z3⟩, st⟩ := Jvm.LawKit.callS S x1 (y := y') x5 (mvT x2 w1) (mvT x2 w2) (mvT x2 w3) (mvT x2 w4) hy (backCt X' hM w4 w3 hf hl) (g := mkF m pc Ls (argsL.reverse ++ rest)) rfl (hsz.trans x4.symm) (argsL := argsL) (rest := rest) (lenOf hsig hlen) rfl (by show 2 * 0 + _ ≤ _; rw [hW]; omega) (hb x3 hd) (fun _ _ => ⟨has, x9, hc, hs⟩)
  dsimp only [Pt.U, Pt.locs, Pt.cells, Pt.slots] at SU z1 z2 z3 st hQ
  subst z1 z2 z3
  exact (k U _ v (X'.back N SU rfl hQ.2.1 hQ.2.2 hws) hQ.2.1 hQ.1).of st
theorem Here.special (X : Here p l e R s m args below meth c y bytes maxL ret Z h0 ws T cells slots h) {pc pc' : Nat} {Ls : Array Slot} {St : List Value} {i : Nat} {sig : MethodDescriptor} {a : Addr} {argsL rest : List Value} (hM : Ct l Z y' bytes' maxL' none rm as h ws' Q) (hin : y'.name = "<init>") (w1 : (Jvm.Cond.methodLink y.cls i y').before a0 Z = true) (w2 : (Jvm.Cond.instanceMethod y').before a0 Z = true) (w3 : (Jvm.Cond.initialized y'.cls).before a0 Z = true) (w4 : (Jvm.Cond.code y' bytes' maxL' none).before a0 Z = true)
    (hy : y'.cls ≠ "java/lang/invoke/MethodHandle" ∧ y'.cls ≠ "java/lang/invoke/VarHandle") (hsig : parseMethodDescriptor y'.desc = some sig) (hlen : argsL.length = sig.parameters.length) (has : (.ref a :: argsL).toArray = as) (hst : St = argsL.reverse ++ .ref a :: rest) (hsz : Ls.size = maxL) (hd : decode bytes pc = .ok (.invokespecial i, 3)) (hp : pc + 3 = pc')
    (hf : rm.frames + 1 ≤ R.frames) {W : Nat} (hW : (rest.map fun v => v.category).sum = W) (hl : W + (maxL' + 11) + rm.locals ≤ R.locals) (hc : cells + rm.cells ≤ R.cells) (hs : slots + rm.slots ≤ R.slots) (hws : ∀ x ∈ ws', x ∈ ws ∨ h0.size ≤ x)
    (k : ∀ T' h' v, Here p l e R s m args below meth c y bytes maxL ret Z h0 ws T' (cells + rm.cells) (slots + rm.slots) h' → Keep h h' ws' → Q v h' → Runs p e below (T'.setTop (mkF m pc' Ls (v.toList ++ rest))) G) : Runs p e below (T.setTop (mkF m pc Ls St)) G := by
  subst hp hst
  have X' := X
  obtain ⟨⟨x1, x2, x3, x4, x5, x6, x7, x8⟩, x9, x10, locs, S, N⟩ := X
  obtain ⟨v, vm₁, ⟨U, lo, ce, sl⟩, -, SU, ⟨Lc, hQ, z1, z2, z3⟩, st⟩ := S.specialBack x1 (y := y') hin x5 (mvT x2 w1) (mvT x2 w2) (mvT x2 w4) hy (backCt X' hM w4 w3 hf hl) (g := mkF m pc Ls (argsL.reverse ++ .ref a :: rest)) rfl (hsz.trans x4.symm) (Steps.refl _) (a := a) (argsL := argsL) (rest := rest) (lenOf hsig hlen) rfl (by show 2 * 0 + _ ≤ _; rw [hW]; omega) (hb x3 hd) (fun _ _ => ⟨has, x9, hc, hs⟩)
  dsimp only [Pt.U, Pt.locs, Pt.cells, Pt.slots] at SU z1 z2 z3 st hQ
  subst z1 z2 z3
  exact (k U _ v (X'.back N SU rfl hQ.2.1 hQ.2.2 hws) hQ.2.1 hQ.1).via st
theorem Here.virtual (X : Here p l e R s m args below meth c y bytes maxL ret Z h0 ws T cells slots h) {pc pc' : Nat} {Ls : Array Slot} {St : List Value} {i : Nat} {yr : MethodName} {C : String} {sig : MethodDescriptor} {a : Addr} {argsL rest : List Value} (hM : Ct l Z y' bytes' maxL' ret' rm as h ws' Q) (w1 : (Jvm.Cond.methodLink y.cls i yr).before a0 Z = true) (w5 : (Jvm.Cond.declares yr).before a0 Z = true) (nf : ∀ args, (Jvm.Cond.selects C yr y').before args s = true → NotFace s yr) (w6 : (Jvm.Cond.selects C yr y').before a0 Z = true) (w2 : (Jvm.Cond.instanceMethod y').before a0 Z = true) (w3 : (Jvm.Cond.initialized y'.cls).before a0 Z = true) (w4 : (Jvm.Cond.code y' bytes' maxL' ret').before a0 Z = true)
    (hy : yr.cls ≠ "java/lang/invoke/MethodHandle" ∧ yr.cls ≠ "java/lang/invoke/VarHandle") (E : Exa Z h a C) (hsig : parseMethodDescriptor yr.desc = some sig) (hlen : argsL.length = sig.parameters.length) (has : (.ref a :: argsL).toArray = as) (hst : St = argsL.reverse ++ .ref a :: rest) (hsz : Ls.size = maxL) (hd : decode bytes pc = .ok (.invokevirtual i, 3)) (hp : pc + 3 = pc')
    (hf : rm.frames + 1 ≤ R.frames) {W : Nat} (hW : (rest.map fun v => v.category).sum = W) (hl : W + (maxL' + 11) + rm.locals ≤ R.locals) (hc : cells + rm.cells ≤ R.cells) (hs : slots + rm.slots ≤ R.slots) (hws : ∀ x ∈ ws', x ∈ ws ∨ h0.size ≤ x)
    (k : ∀ T' h' v, Here p l e R s m args below meth c y bytes maxL ret Z h0 ws T' (cells + rm.cells) (slots + rm.slots) h' → Keep h h' ws' → Q v h' → Runs p e below (T'.setTop (mkF m pc' Ls (v.toList ++ rest))) G) : Runs p e below (T.setTop (mkF m pc Ls St)) G := by
  subst hp hst
  have X' := X
  obtain ⟨⟨x1, x2, x3, x4, x5, x6, x7, x8⟩, x9, x10, locs, S, N⟩ := X
  obtain ⟨cq, kq, q1, q2, q3⟩ := isOf (T := T) x2 x9 E
  obtain ⟨v, vm₁, ⟨U, lo, ce, sl⟩, -, SU, ⟨Lc, hQ, z1, z2, z3⟩, st⟩ := S.virtualBack x1 (y := yr) (z := y') x5 (mvT x2 w1) (mvT x2 w5) (nf args (mvT x2 w6)) (mvT x2 w6) (mvT x2 w2) hy (backCt X' hM w4 w3 hf hl) q1 q3 (g := mkF m pc Ls (argsL.reverse ++ .ref a :: rest)) rfl (hsz.trans x4.symm) (Steps.refl _) (argsL := argsL) (rest := rest) (lenOf hsig hlen) rfl (by show 2 * 0 + _ ≤ _; rw [hW]; omega) (hb x3 hd) (fun _ _ => ⟨has, x9, hc, hs⟩)
  dsimp only [Pt.U, Pt.locs, Pt.cells, Pt.slots] at SU z1 z2 z3 st hQ
  subst z1 z2 z3
  exact (k U _ v (X'.back N SU rfl hQ.2.1 hQ.2.2 hws) hQ.2.1 hQ.1).via st
theorem Here.priv (X : Here p l e R s m args below meth c y bytes maxL ret Z h0 ws T cells slots h) {pc pc' : Nat} {Ls : Array Slot} {St : List Value} {i : Nat} {C : String} {sig : MethodDescriptor} {a : Addr} {argsL rest : List Value} (hM : Ct l Z y' bytes' maxL' ret' rm as h ws' Q) (w1 : (Jvm.Cond.methodLink y.cls i y').before a0 Z = true) (w6 : (Jvm.Cond.selects y'.cls y' y').before a0 Z = true) (w7 : (Jvm.Cond.privateMethod y').before a0 Z = true) (w2 : (Jvm.Cond.instanceMethod y').before a0 Z = true) (w3 : (Jvm.Cond.initialized y'.cls).before a0 Z = true) (w4 : (Jvm.Cond.code y' bytes' maxL' ret').before a0 Z = true)
    (hy : y'.cls ≠ "java/lang/invoke/MethodHandle" ∧ y'.cls ≠ "java/lang/invoke/VarHandle") (E : Exa Z h a C) (hsig : parseMethodDescriptor y'.desc = some sig) (hlen : argsL.length = sig.parameters.length) (has : (.ref a :: argsL).toArray = as) (hst : St = argsL.reverse ++ .ref a :: rest) (hsz : Ls.size = maxL) (hd : decode bytes pc = .ok (.invokevirtual i, 3)) (hp : pc + 3 = pc')
    (hf : rm.frames + 1 ≤ R.frames) {W : Nat} (hW : (rest.map fun v => v.category).sum = W) (hl : W + (maxL' + 11) + rm.locals ≤ R.locals) (hc : cells + rm.cells ≤ R.cells) (hs : slots + rm.slots ≤ R.slots) (hws : ∀ x ∈ ws', x ∈ ws ∨ h0.size ≤ x)
    (k : ∀ T' h' v, Here p l e R s m args below meth c y bytes maxL ret Z h0 ws T' (cells + rm.cells) (slots + rm.slots) h' → Keep h h' ws' → Q v h' → Runs p e below (T'.setTop (mkF m pc' Ls (v.toList ++ rest))) G) : Runs p e below (T.setTop (mkF m pc Ls St)) G := by
  subst hp hst
  have X' := X
  obtain ⟨⟨x1, x2, x3, x4, x5, x6, x7, x8⟩, x9, x10, locs, S, N⟩ := X
  obtain ⟨cq, q1, q2⟩ := E.cell
  obtain ⟨v, vm₁, ⟨U, lo, ce, sl⟩, -, SU, ⟨Lc, hQ, z1, z2, z3⟩, st⟩ := S.privateBack x1 (y := y') x5 (mvT x2 w1) (mvT x2 w2) (mvT x2 w6) (Cond.privateMethod_at (mvP x2 w7 (args := #[]))) (mvT x2 w4) hy (backCt X' hM w4 w3 hf hl) (g := mkF m pc Ls (argsL.reverse ++ .ref a :: rest)) rfl (hsz.trans x4.symm) (Steps.refl _) (a := a) (by rw [x9]; exact q1) q2 (argsL := argsL) (rest := rest) (lenOf hsig hlen) rfl (by show 2 * 0 + _ ≤ _; rw [hW]; omega) (hb x3 hd) (fun _ _ => ⟨has, x9, hc, hs⟩)
  dsimp only [Pt.U, Pt.locs, Pt.cells, Pt.slots] at SU z1 z2 z3 st hQ
  subst z1 z2 z3
  exact (k U _ v (X'.back N SU rfl hQ.2.1 hQ.2.2 hws) hQ.2.1 hQ.1).via st

/-! the returns -/
theorem Here.leave (X : Here p l e R s m args below meth c y bytes maxL ret Z h0 ws T cells slots h) {Q : Option Value → Heap → Prop} {rm : Room} {g : JFrame} {v : Option Value} (hv : ret = none → v = none) (hc : cells ≤ rm.cells) (hs : slots ≤ rm.slots) (hq : Q v h)
    (st : ∀ locs fs, p.tables.exec = Jvm.exec → c.code = bytes → meth.sig.returnType = ret → Stand p l e R s m args below meth c T locs cells slots → (∀ (f : JFrame) (acts : List Action), f.method = m → f.locked = none → f.entered = [] → (doReturn e (T.setTop f) acts v).1 = T.setFrames fs) → Steps p.tables e below (T.setTop g) (T.setFrames fs)) :
    Runs p e below (T.setTop g) (Out s h0 ws rm Q) := by
  obtain ⟨⟨x1, x2, x3, x4, x5, x6, x7, x8⟩, x9, x10, locs, S, N⟩ := X
  obtain ⟨fs, hr, hrun, hended, hW, hsame⟩ := S.leave (v := v) (fun h => hv (x7 ▸ h)) x8
  refine ⟨_, _, st locs fs x1 x3 x7 S hr, hrun, hended, v, locs, rfl, ⟨?_, ?_, N⟩, ⟨_, rfl⟩, hW, hsame.mono hc hs⟩
  · show Q v T.heap; rw [x9]; exact hq
  · show Keep h0 T.heap ws; rw [x9]; exact x10
theorem Here.ireturn (X : Here p l e R s m args below meth c y bytes maxL ret Z h0 ws T cells slots h) {Q : Option Value → Heap → Prop} {rm : Room} {pc : Nat} {Ls : Array Slot} {St : List Value} {z : Int32} (hr : ret = some .int) (hd : decode bytes pc = .ok (.ireturn, 1)) (hc : cells ≤ rm.cells) (hs : slots ≤ rm.slots) (hq : Q (some (.int z)) h) : Runs p e below (T.setTop (mkF m pc Ls (.int z :: St))) (Out s h0 ws rm Q) := by
  subst hr
  exact X.leave (fun h => nomatch h) hc hs hq fun _ _ hx hb' hret S hl => retOut S hx hret rfl (Or.inl ⟨rfl, Or.inl rfl, _, rfl⟩) (hb hb' hd) hl
theorem Here.zreturn (X : Here p l e R s m args below meth c y bytes maxL ret Z h0 ws T cells slots h) {Q : Option Value → Heap → Prop} {rm : Room} {pc : Nat} {Ls : Array Slot} {St : List Value} {z z' : Int32} {t : FieldType} (hr : ret = some t) (ht : t = .boolean ∨ t = .byte ∨ t = .char ∨ t = .short) (hd : decode bytes pc = .ok (.ireturn, 1)) (hz : nar t z = z') (hc : cells ≤ rm.cells) (hs : slots ≤ rm.slots) (hq : Q (some (.int z')) h) : Runs p e below (T.setTop (mkF m pc Ls (.int z :: St))) (Out s h0 ws rm Q) := by
  subst hr hz
  exact X.leave (fun h => nomatch h) hc hs hq fun _ _ hx hb' hret S hl => retN S hx hret ht (hb hb' hd) hl
theorem Here.lreturn (X : Here p l e R s m args below meth c y bytes maxL ret Z h0 ws T cells slots h) {Q : Option Value → Heap → Prop} {rm : Room} {pc : Nat} {Ls : Array Slot} {St : List Value} {z : Int64} (hr : ret = some .long) (hd : decode bytes pc = .ok (.lreturn, 1)) (hc : cells ≤ rm.cells) (hs : slots ≤ rm.slots) (hq : Q (some (.long z)) h) : Runs p e below (T.setTop (mkF m pc Ls (.long z :: St))) (Out s h0 ws rm Q) := by
  subst hr
  exact X.leave (fun h => nomatch h) hc hs hq fun _ _ hx hb' hret S hl => retOut S hx hret rfl (Or.inr (Or.inl ⟨rfl, rfl, _, rfl⟩)) (hb hb' hd) hl
theorem Here.areturn (X : Here p l e R s m args below meth c y bytes maxL ret Z h0 ws T cells slots h) {Q : Option Value → Heap → Prop} {rm : Room} {pc : Nat} {Ls : Array Slot} {St : List Value} {v : Value} {t : FieldType} (hr : ret = some t) (ht : t.isReference = true) (hv : v.isRef = true) (hn : narrow t v = v) (hd : decode bytes pc = .ok (.areturn, 1)) (hc : cells ≤ rm.cells) (hs : slots ≤ rm.slots) (hq : Q (some v) h) : Runs p e below (T.setTop (mkF m pc Ls (v :: St))) (Out s h0 ws rm Q) := by
  subst hr
  exact X.leave (fun h => nomatch h) hc hs hq fun _ _ hx hb' hret S hl => retOut S hx hret hn (Or.inr (Or.inr (Or.inr (Or.inr ⟨rfl, ht, hv⟩)))) (hb hb' hd) hl
theorem Here.vreturn (X : Here p l e R s m args below meth c y bytes maxL ret Z h0 ws T cells slots h) {Q : Option Value → Heap → Prop} {rm : Room} {pc : Nat} {Ls : Array Slot} (hr : ret = none) (hd : decode bytes pc = .ok (.return_, 1)) (hc : cells ≤ rm.cells) (hs : slots ≤ rm.slots) (hq : Q none h) : Runs p e below (T.setTop (mkF m pc Ls [])) (Out s h0 ws rm Q) := by
  subst hr
  exact X.leave (fun _ => rfl) hc hs hq fun _ _ hx hb' hret S hl => S.returnOut hx hret (hb hb' hd) hl
end B
end Jvm.Own
namespace Jvm.Pilot.@@N@@
open Jvm Jvm.ClassFile Sem Op Lib Jvm.Free Jvm.Stand Jvm.LawKit Jvm.RoadKit Bundle Jvm.Own Jvm.Pilot.@@N@@.Jvm.D
abbrev y1 : MethodName := ⟨"com/example/rummage/rummage/PrefixTableOfPinLaw", "pick", "(IIIII)I"⟩
abbrev y2 : MethodName := ⟨"com/example/rummage/rummage/PrefixTable", "of", "([I)[I"⟩
abbrev y3 : MethodName := ⟨"com/example/rummage/rummage/PrefixTableOfPinLaw", "ok", "([I[III)Z"⟩
abbrev y4 : MethodName := ⟨"com/example/rummage/rummage/PrefixTableOfPinLaw", "border", "([II)I"⟩
abbrev y5 : MethodName := ⟨"com/example/rummage/rummage/PrefixTableOfPinLaw", "eq", "([III)Z"⟩
theorem pd_0 : parseMethodDescriptor "([III)Z" = some ⟨[(.array .int), .int, .int], some .boolean⟩ := by decide +kernel
theorem pd_1 : parseMethodDescriptor "([II)I" = some ⟨[(.array .int), .int], some .int⟩ := by decide +kernel
theorem pd_2 : parseMethodDescriptor "(IIIII)I" = some ⟨[.int, .int, .int, .int, .int], some .int⟩ := by decide +kernel
theorem pd_3 : parseMethodDescriptor "([I)[I" = some ⟨[(.array .int)], some (.array .int)⟩ := by decide +kernel
theorem pd_4 : parseMethodDescriptor "([I[III)Z" = some ⟨[(.array .int), (.array .int), .int, .int], some .boolean⟩ := by decide +kernel
theorem wd_0 {a0 : Array Value} {Z : State} (hw : ∀ d ∈ tables_1, d.before a0 Z = true) : (Jvm.Cond.constant "com/example/rummage/rummage/PrefixTableOfPinLaw" (17 : Nat) (2147483647 : Int32)).before a0 Z = true := hw _ (List.mem_of_getElem? (i := 0) rfl)
theorem wd_1 {a0 : Array Value} {Z : State} (hw : ∀ d ∈ tables_1, d.before a0 Z = true) : (Jvm.Cond.methodLink "com/example/rummage/rummage/PrefixTableOfPinLaw" (18 : Nat) ({ cls := "com/example/rummage/rummage/PrefixTableOfPinLaw", name := "pick", desc := "(IIIII)I" } : Jvm.MethodName)).before a0 Z = true := hw _ (List.mem_of_getElem? (i := 1) rfl)
theorem wd_2 {a0 : Array Value} {Z : State} (hw : ∀ d ∈ tables_1, d.before a0 Z = true) : (Jvm.Cond.static ({ cls := "com/example/rummage/rummage/PrefixTableOfPinLaw", name := "pick", desc := "(IIIII)I" } : Jvm.MethodName)).before a0 Z = true := hw _ (List.mem_of_getElem? (i := 2) rfl)
theorem wd_3 {a0 : Array Value} {Z : State} (hw : ∀ d ∈ tables_1, d.before a0 Z = true) : (Jvm.Cond.initialized "com/example/rummage/rummage/PrefixTableOfPinLaw").before a0 Z = true := hw _ (List.mem_of_getElem? (i := 3) rfl)
theorem wd_4 {a0 : Array Value} {Z : State} (hw : ∀ d ∈ tables_1, d.before a0 Z = true) : (Jvm.Cond.code ({ cls := "com/example/rummage/rummage/PrefixTableOfPinLaw", name := "pick", desc := "(IIIII)I" } : Jvm.MethodName) method_2_code (5 : Nat) (Option.some Jvm.ClassFile.FieldType.int)).before a0 Z = true := hw _ (List.mem_of_getElem? (i := 4) rfl)
theorem wd_5 {a0 : Array Value} {Z : State} (hw : ∀ d ∈ tables_1, d.before a0 Z = true) : (Jvm.Cond.arrayClass Jvm.ClassFile.FieldType.int).before a0 Z = true := hw _ (List.mem_of_getElem? (i := 5) rfl)
theorem wd_6 {a0 : Array Value} {Z : State} (hw : ∀ d ∈ tables_1, d.before a0 Z = true) : (Jvm.Cond.methodLink "com/example/rummage/rummage/PrefixTableOfPinLaw" (22 : Nat) ({ cls := "com/example/rummage/rummage/PrefixTable", name := "of", desc := "([I)[I" } : Jvm.MethodName)).before a0 Z = true := hw _ (List.mem_of_getElem? (i := 6) rfl)
theorem wd_7 {a0 : Array Value} {Z : State} (hw : ∀ d ∈ tables_1, d.before a0 Z = true) : (Jvm.Cond.static ({ cls := "com/example/rummage/rummage/PrefixTable", name := "of", desc := "([I)[I" } : Jvm.MethodName)).before a0 Z = true := hw _ (List.mem_of_getElem? (i := 7) rfl)
theorem wd_8 {a0 : Array Value} {Z : State} (hw : ∀ d ∈ tables_1, d.before a0 Z = true) : (Jvm.Cond.initialized "com/example/rummage/rummage/PrefixTable").before a0 Z = true := hw _ (List.mem_of_getElem? (i := 8) rfl)
theorem wd_9 {a0 : Array Value} {Z : State} (hw : ∀ d ∈ tables_1, d.before a0 Z = true) : (Jvm.Cond.code ({ cls := "com/example/rummage/rummage/PrefixTable", name := "of", desc := "([I)[I" } : Jvm.MethodName) prog_19_method_2_code (5 : Nat) (Option.some (Jvm.ClassFile.FieldType.array Jvm.ClassFile.FieldType.int))).before a0 Z = true := hw _ (List.mem_of_getElem? (i := 9) rfl)
theorem wd_10 {a0 : Array Value} {Z : State} (hw : ∀ d ∈ tables_1, d.before a0 Z = true) : (Jvm.Cond.methodLink "com/example/rummage/rummage/PrefixTableOfPinLaw" (28 : Nat) ({ cls := "com/example/rummage/rummage/PrefixTableOfPinLaw", name := "ok", desc := "([I[III)Z" } : Jvm.MethodName)).before a0 Z = true := hw _ (List.mem_of_getElem? (i := 10) rfl)
theorem wd_11 {a0 : Array Value} {Z : State} (hw : ∀ d ∈ tables_1, d.before a0 Z = true) : (Jvm.Cond.static ({ cls := "com/example/rummage/rummage/PrefixTableOfPinLaw", name := "ok", desc := "([I[III)Z" } : Jvm.MethodName)).before a0 Z = true := hw _ (List.mem_of_getElem? (i := 11) rfl)
theorem wd_12 {a0 : Array Value} {Z : State} (hw : ∀ d ∈ tables_1, d.before a0 Z = true) : (Jvm.Cond.code ({ cls := "com/example/rummage/rummage/PrefixTableOfPinLaw", name := "ok", desc := "([I[III)Z" } : Jvm.MethodName) method_5_code (4 : Nat) (Option.some Jvm.ClassFile.FieldType.boolean)).before a0 Z = true := hw _ (List.mem_of_getElem? (i := 12) rfl)
theorem wd_13 {a0 : Array Value} {Z : State} (hw : ∀ d ∈ tables_1, d.before a0 Z = true) : (Jvm.Cond.methodLink "com/example/rummage/rummage/PrefixTableOfPinLaw" (13 : Nat) ({ cls := "com/example/rummage/rummage/PrefixTableOfPinLaw", name := "border", desc := "([II)I" } : Jvm.MethodName)).before a0 Z = true := hw _ (List.mem_of_getElem? (i := 13) rfl)
theorem wd_14 {a0 : Array Value} {Z : State} (hw : ∀ d ∈ tables_1, d.before a0 Z = true) : (Jvm.Cond.static ({ cls := "com/example/rummage/rummage/PrefixTableOfPinLaw", name := "border", desc := "([II)I" } : Jvm.MethodName)).before a0 Z = true := hw _ (List.mem_of_getElem? (i := 14) rfl)
theorem wd_15 {a0 : Array Value} {Z : State} (hw : ∀ d ∈ tables_1, d.before a0 Z = true) : (Jvm.Cond.code ({ cls := "com/example/rummage/rummage/PrefixTableOfPinLaw", name := "border", desc := "([II)I" } : Jvm.MethodName) method_4_code (2 : Nat) (Option.some Jvm.ClassFile.FieldType.int)).before a0 Z = true := hw _ (List.mem_of_getElem? (i := 15) rfl)
theorem wd_16 {a0 : Array Value} {Z : State} (hw : ∀ d ∈ tables_1, d.before a0 Z = true) : (Jvm.Cond.methodLink "com/example/rummage/rummage/PrefixTableOfPinLaw" (7 : Nat) ({ cls := "com/example/rummage/rummage/PrefixTableOfPinLaw", name := "eq", desc := "([III)Z" } : Jvm.MethodName)).before a0 Z = true := hw _ (List.mem_of_getElem? (i := 16) rfl)
theorem wd_17 {a0 : Array Value} {Z : State} (hw : ∀ d ∈ tables_1, d.before a0 Z = true) : (Jvm.Cond.static ({ cls := "com/example/rummage/rummage/PrefixTableOfPinLaw", name := "eq", desc := "([III)Z" } : Jvm.MethodName)).before a0 Z = true := hw _ (List.mem_of_getElem? (i := 17) rfl)
theorem wd_18 {a0 : Array Value} {Z : State} (hw : ∀ d ∈ tables_1, d.before a0 Z = true) : (Jvm.Cond.code ({ cls := "com/example/rummage/rummage/PrefixTableOfPinLaw", name := "eq", desc := "([III)Z" } : Jvm.MethodName) method_3_code (4 : Nat) (Option.some Jvm.ClassFile.FieldType.boolean)).before a0 Z = true := hw _ (List.mem_of_getElem? (i := 18) rfl)
theorem d1_0 : decode method_2_code 0 = .ok (.iload_n 0, 1) := by decide +kernel
theorem d1_1 : decode method_2_code 1 = .ok (.ifCond .ne 5, 3) := by decide +kernel
theorem d1_4 : decode method_2_code 4 = .ok (.iload_n 1, 1) := by decide +kernel
theorem d1_5 : decode method_2_code 5 = .ok (.ireturn, 1) := by decide +kernel
theorem d1_6 : decode method_2_code 6 = .ok (.iload_n 0, 1) := by decide +kernel
theorem d1_7 : decode method_2_code 7 = .ok (.iconst 1, 1) := by decide +kernel
theorem d1_8 : decode method_2_code 8 = .ok (.if_icmp .ne 5, 3) := by decide +kernel
theorem d1_11 : decode method_2_code 11 = .ok (.iload_n 2, 1) := by decide +kernel
theorem d1_12 : decode method_2_code 12 = .ok (.ireturn, 1) := by decide +kernel
theorem d1_13 : decode method_2_code 13 = .ok (.iload_n 0, 1) := by decide +kernel
theorem d1_14 : decode method_2_code 14 = .ok (.iconst 2, 1) := by decide +kernel
theorem d1_15 : decode method_2_code 15 = .ok (.if_icmp .ne 5, 3) := by decide +kernel
theorem d1_18 : decode method_2_code 18 = .ok (.iload_n 3, 1) := by decide +kernel
theorem d1_19 : decode method_2_code 19 = .ok (.ireturn, 1) := by decide +kernel
theorem d1_20 : decode method_2_code 20 = .ok (.iload 4, 2) := by decide +kernel
theorem d1_22 : decode method_2_code 22 = .ok (.ireturn, 1) := by decide +kernel
theorem d2_0 : decode prog_19_method_2_code 0 = .ok (.aload_n 0, 1) := by decide +kernel
theorem d2_1 : decode prog_19_method_2_code 1 = .ok (.arraylength, 1) := by decide +kernel
theorem d2_2 : decode prog_19_method_2_code 2 = .ok (.newarray .int, 2) := by decide +kernel
theorem d2_4 : decode prog_19_method_2_code 4 = .ok (.astore_n 1, 1) := by decide +kernel
theorem d2_5 : decode prog_19_method_2_code 5 = .ok (.iconst 0, 1) := by decide +kernel
theorem d2_6 : decode prog_19_method_2_code 6 = .ok (.istore_n 2, 1) := by decide +kernel
theorem d2_7 : decode prog_19_method_2_code 7 = .ok (.iconst 1, 1) := by decide +kernel
theorem d2_8 : decode prog_19_method_2_code 8 = .ok (.istore_n 3, 1) := by decide +kernel
theorem d2_9 : decode prog_19_method_2_code 9 = .ok (.iload_n 3, 1) := by decide +kernel
theorem d2_10 : decode prog_19_method_2_code 10 = .ok (.aload_n 1, 1) := by decide +kernel
theorem d2_11 : decode prog_19_method_2_code 11 = .ok (.arraylength, 1) := by decide +kernel
theorem d2_12 : decode prog_19_method_2_code 12 = .ok (.if_icmp .ge 50, 3) := by decide +kernel
theorem d2_15 : decode prog_19_method_2_code 15 = .ok (.aload_n 0, 1) := by decide +kernel
theorem d2_16 : decode prog_19_method_2_code 16 = .ok (.iload_n 3, 1) := by decide +kernel
theorem d2_17 : decode prog_19_method_2_code 17 = .ok (.iaload, 1) := by decide +kernel
theorem d2_18 : decode prog_19_method_2_code 18 = .ok (.istore 4, 2) := by decide +kernel
theorem d2_20 : decode prog_19_method_2_code 20 = .ok (.iload_n 2, 1) := by decide +kernel
theorem d2_21 : decode prog_19_method_2_code 21 = .ok (.ifCond .le 20, 3) := by decide +kernel
theorem d2_24 : decode prog_19_method_2_code 24 = .ok (.aload_n 0, 1) := by decide +kernel
theorem d2_25 : decode prog_19_method_2_code 25 = .ok (.iload_n 2, 1) := by decide +kernel
theorem d2_26 : decode prog_19_method_2_code 26 = .ok (.iaload, 1) := by decide +kernel
theorem d2_27 : decode prog_19_method_2_code 27 = .ok (.iload 4, 2) := by decide +kernel
theorem d2_29 : decode prog_19_method_2_code 29 = .ok (.if_icmp .eq 12, 3) := by decide +kernel
theorem d2_32 : decode prog_19_method_2_code 32 = .ok (.aload_n 1, 1) := by decide +kernel
theorem d2_33 : decode prog_19_method_2_code 33 = .ok (.iload_n 2, 1) := by decide +kernel
theorem d2_34 : decode prog_19_method_2_code 34 = .ok (.iconst 1, 1) := by decide +kernel
theorem d2_35 : decode prog_19_method_2_code 35 = .ok (.isub, 1) := by decide +kernel
theorem d2_36 : decode prog_19_method_2_code 36 = .ok (.iaload, 1) := by decide +kernel
theorem d2_37 : decode prog_19_method_2_code 37 = .ok (.istore_n 2, 1) := by decide +kernel
theorem d2_38 : decode prog_19_method_2_code 38 = .ok (.goto (-18), 3) := by decide +kernel
theorem d2_41 : decode prog_19_method_2_code 41 = .ok (.aload_n 0, 1) := by decide +kernel
theorem d2_42 : decode prog_19_method_2_code 42 = .ok (.iload_n 2, 1) := by decide +kernel
theorem d2_43 : decode prog_19_method_2_code 43 = .ok (.iaload, 1) := by decide +kernel
theorem d2_44 : decode prog_19_method_2_code 44 = .ok (.iload 4, 2) := by decide +kernel
theorem d2_46 : decode prog_19_method_2_code 46 = .ok (.if_icmp .ne 6, 3) := by decide +kernel
theorem d2_49 : decode prog_19_method_2_code 49 = .ok (.iinc 2 1, 3) := by decide +kernel
theorem d2_52 : decode prog_19_method_2_code 52 = .ok (.aload_n 1, 1) := by decide +kernel
theorem d2_53 : decode prog_19_method_2_code 53 = .ok (.iload_n 3, 1) := by decide +kernel
theorem d2_54 : decode prog_19_method_2_code 54 = .ok (.iload_n 2, 1) := by decide +kernel
theorem d2_55 : decode prog_19_method_2_code 55 = .ok (.iastore, 1) := by decide +kernel
theorem d2_56 : decode prog_19_method_2_code 56 = .ok (.iinc 3 1, 3) := by decide +kernel
theorem d2_59 : decode prog_19_method_2_code 59 = .ok (.goto (-50), 3) := by decide +kernel
theorem d2_62 : decode prog_19_method_2_code 62 = .ok (.aload_n 1, 1) := by decide +kernel
theorem d2_63 : decode prog_19_method_2_code 63 = .ok (.areturn, 1) := by decide +kernel
theorem d3_0 : decode method_5_code 0 = .ok (.iload_n 2, 1) := by decide +kernel
theorem d3_1 : decode method_5_code 1 = .ok (.iload_n 3, 1) := by decide +kernel
theorem d3_2 : decode method_5_code 2 = .ok (.if_icmp .ge 14, 3) := by decide +kernel
theorem d3_5 : decode method_5_code 5 = .ok (.aload_n 0, 1) := by decide +kernel
theorem d3_6 : decode method_5_code 6 = .ok (.iload_n 2, 1) := by decide +kernel
theorem d3_7 : decode method_5_code 7 = .ok (.iaload, 1) := by decide +kernel
theorem d3_8 : decode method_5_code 8 = .ok (.aload_n 1, 1) := by decide +kernel
theorem d3_9 : decode method_5_code 9 = .ok (.iload_n 2, 1) := by decide +kernel
theorem d3_10 : decode method_5_code 10 = .ok (.invokestatic 13, 3) := by decide +kernel
theorem d3_13 : decode method_5_code 13 = .ok (.if_icmp .ne 7, 3) := by decide +kernel
theorem d3_16 : decode method_5_code 16 = .ok (.iconst 1, 1) := by decide +kernel
theorem d3_17 : decode method_5_code 17 = .ok (.goto 4, 3) := by decide +kernel
theorem d3_21 : decode method_5_code 21 = .ok (.ireturn, 1) := by decide +kernel
theorem d4_0 : decode method_4_code 0 = .ok (.iload_n 1, 1) := by decide +kernel
theorem d4_1 : decode method_4_code 1 = .ok (.iconst 5, 1) := by decide +kernel
theorem d4_2 : decode method_4_code 2 = .ok (.if_icmp .lt 14, 3) := by decide +kernel
theorem d4_5 : decode method_4_code 5 = .ok (.aload_n 0, 1) := by decide +kernel
theorem d4_6 : decode method_4_code 6 = .ok (.iload_n 1, 1) := by decide +kernel
theorem d4_7 : decode method_4_code 7 = .ok (.iconst 5, 1) := by decide +kernel
theorem d4_8 : decode method_4_code 8 = .ok (.invokestatic 7, 3) := by decide +kernel
theorem d4_11 : decode method_4_code 11 = .ok (.ifCond .eq 5, 3) := by decide +kernel
theorem d4_14 : decode method_4_code 14 = .ok (.iconst 5, 1) := by decide +kernel
theorem d4_15 : decode method_4_code 15 = .ok (.ireturn, 1) := by decide +kernel
theorem d4_16 : decode method_4_code 16 = .ok (.iload_n 1, 1) := by decide +kernel
theorem d4_17 : decode method_4_code 17 = .ok (.iconst 4, 1) := by decide +kernel
theorem d4_18 : decode method_4_code 18 = .ok (.if_icmp .lt 14, 3) := by decide +kernel
theorem d4_21 : decode method_4_code 21 = .ok (.aload_n 0, 1) := by decide +kernel
theorem d4_22 : decode method_4_code 22 = .ok (.iload_n 1, 1) := by decide +kernel
theorem d4_23 : decode method_4_code 23 = .ok (.iconst 4, 1) := by decide +kernel
theorem d4_24 : decode method_4_code 24 = .ok (.invokestatic 7, 3) := by decide +kernel
theorem d4_27 : decode method_4_code 27 = .ok (.ifCond .eq 5, 3) := by decide +kernel
theorem d4_30 : decode method_4_code 30 = .ok (.iconst 4, 1) := by decide +kernel
theorem d4_31 : decode method_4_code 31 = .ok (.ireturn, 1) := by decide +kernel
theorem d4_32 : decode method_4_code 32 = .ok (.iload_n 1, 1) := by decide +kernel
theorem d4_33 : decode method_4_code 33 = .ok (.iconst 3, 1) := by decide +kernel
theorem d4_34 : decode method_4_code 34 = .ok (.if_icmp .lt 14, 3) := by decide +kernel
theorem d4_37 : decode method_4_code 37 = .ok (.aload_n 0, 1) := by decide +kernel
theorem d4_38 : decode method_4_code 38 = .ok (.iload_n 1, 1) := by decide +kernel
theorem d4_39 : decode method_4_code 39 = .ok (.iconst 3, 1) := by decide +kernel
theorem d4_40 : decode method_4_code 40 = .ok (.invokestatic 7, 3) := by decide +kernel
theorem d4_43 : decode method_4_code 43 = .ok (.ifCond .eq 5, 3) := by decide +kernel
theorem d4_46 : decode method_4_code 46 = .ok (.iconst 3, 1) := by decide +kernel
theorem d4_47 : decode method_4_code 47 = .ok (.ireturn, 1) := by decide +kernel
theorem d4_48 : decode method_4_code 48 = .ok (.iload_n 1, 1) := by decide +kernel
theorem d4_49 : decode method_4_code 49 = .ok (.iconst 2, 1) := by decide +kernel
theorem d4_50 : decode method_4_code 50 = .ok (.if_icmp .lt 14, 3) := by decide +kernel
theorem d4_53 : decode method_4_code 53 = .ok (.aload_n 0, 1) := by decide +kernel
theorem d4_54 : decode method_4_code 54 = .ok (.iload_n 1, 1) := by decide +kernel
theorem d4_55 : decode method_4_code 55 = .ok (.iconst 2, 1) := by decide +kernel
theorem d4_56 : decode method_4_code 56 = .ok (.invokestatic 7, 3) := by decide +kernel
theorem d4_59 : decode method_4_code 59 = .ok (.ifCond .eq 5, 3) := by decide +kernel
theorem d4_62 : decode method_4_code 62 = .ok (.iconst 2, 1) := by decide +kernel
theorem d4_63 : decode method_4_code 63 = .ok (.ireturn, 1) := by decide +kernel
theorem d4_64 : decode method_4_code 64 = .ok (.iload_n 1, 1) := by decide +kernel
theorem d4_65 : decode method_4_code 65 = .ok (.iconst 1, 1) := by decide +kernel
theorem d4_66 : decode method_4_code 66 = .ok (.if_icmp .lt 14, 3) := by decide +kernel
theorem d4_69 : decode method_4_code 69 = .ok (.aload_n 0, 1) := by decide +kernel
theorem d4_70 : decode method_4_code 70 = .ok (.iload_n 1, 1) := by decide +kernel
theorem d4_71 : decode method_4_code 71 = .ok (.iconst 1, 1) := by decide +kernel
theorem d4_72 : decode method_4_code 72 = .ok (.invokestatic 7, 3) := by decide +kernel
theorem d4_75 : decode method_4_code 75 = .ok (.ifCond .eq 5, 3) := by decide +kernel
theorem d4_78 : decode method_4_code 78 = .ok (.iconst 1, 1) := by decide +kernel
theorem d4_79 : decode method_4_code 79 = .ok (.ireturn, 1) := by decide +kernel
theorem d4_80 : decode method_4_code 80 = .ok (.iconst 0, 1) := by decide +kernel
theorem d4_81 : decode method_4_code 81 = .ok (.ireturn, 1) := by decide +kernel
theorem d5_0 : decode method_3_code 0 = .ok (.iload_n 1, 1) := by decide +kernel
theorem d5_1 : decode method_3_code 1 = .ok (.iload_n 2, 1) := by decide +kernel
theorem d5_2 : decode method_3_code 2 = .ok (.isub, 1) := by decide +kernel
theorem d5_3 : decode method_3_code 3 = .ok (.iconst 1, 1) := by decide +kernel
theorem d5_4 : decode method_3_code 4 = .ok (.iadd, 1) := by decide +kernel
theorem d5_5 : decode method_3_code 5 = .ok (.istore_n 3, 1) := by decide +kernel
theorem d5_6 : decode method_3_code 6 = .ok (.iload_n 2, 1) := by decide +kernel
theorem d5_7 : decode method_3_code 7 = .ok (.iconst 1, 1) := by decide +kernel
theorem d5_8 : decode method_3_code 8 = .ok (.if_icmp .lt 12, 3) := by decide +kernel
theorem d5_11 : decode method_3_code 11 = .ok (.aload_n 0, 1) := by decide +kernel
theorem d5_12 : decode method_3_code 12 = .ok (.iconst 0, 1) := by decide +kernel
theorem d5_13 : decode method_3_code 13 = .ok (.iaload, 1) := by decide +kernel
theorem d5_14 : decode method_3_code 14 = .ok (.aload_n 0, 1) := by decide +kernel
theorem d5_15 : decode method_3_code 15 = .ok (.iload_n 3, 1) := by decide +kernel
theorem d5_16 : decode method_3_code 16 = .ok (.iaload, 1) := by decide +kernel
theorem d5_17 : decode method_3_code 17 = .ok (.if_icmp .ne 71, 3) := by decide +kernel
theorem d5_20 : decode method_3_code 20 = .ok (.iload_n 2, 1) := by decide +kernel
theorem d5_21 : decode method_3_code 21 = .ok (.iconst 2, 1) := by decide +kernel
theorem d5_22 : decode method_3_code 22 = .ok (.if_icmp .lt 14, 3) := by decide +kernel
theorem d5_25 : decode method_3_code 25 = .ok (.aload_n 0, 1) := by decide +kernel
theorem d5_26 : decode method_3_code 26 = .ok (.iconst 1, 1) := by decide +kernel
theorem d5_27 : decode method_3_code 27 = .ok (.iaload, 1) := by decide +kernel
theorem d5_28 : decode method_3_code 28 = .ok (.aload_n 0, 1) := by decide +kernel
theorem d5_29 : decode method_3_code 29 = .ok (.iload_n 3, 1) := by decide +kernel
theorem d5_30 : decode method_3_code 30 = .ok (.iconst 1, 1) := by decide +kernel
theorem d5_31 : decode method_3_code 31 = .ok (.iadd, 1) := by decide +kernel
theorem d5_32 : decode method_3_code 32 = .ok (.iaload, 1) := by decide +kernel
theorem d5_33 : decode method_3_code 33 = .ok (.if_icmp .ne 55, 3) := by decide +kernel
theorem d5_36 : decode method_3_code 36 = .ok (.iload_n 2, 1) := by decide +kernel
theorem d5_37 : decode method_3_code 37 = .ok (.iconst 3, 1) := by decide +kernel
theorem d5_38 : decode method_3_code 38 = .ok (.if_icmp .lt 14, 3) := by decide +kernel
theorem d5_41 : decode method_3_code 41 = .ok (.aload_n 0, 1) := by decide +kernel
theorem d5_42 : decode method_3_code 42 = .ok (.iconst 2, 1) := by decide +kernel
theorem d5_43 : decode method_3_code 43 = .ok (.iaload, 1) := by decide +kernel
theorem d5_44 : decode method_3_code 44 = .ok (.aload_n 0, 1) := by decide +kernel
theorem d5_45 : decode method_3_code 45 = .ok (.iload_n 3, 1) := by decide +kernel
theorem d5_46 : decode method_3_code 46 = .ok (.iconst 2, 1) := by decide +kernel
theorem d5_47 : decode method_3_code 47 = .ok (.iadd, 1) := by decide +kernel
theorem d5_48 : decode method_3_code 48 = .ok (.iaload, 1) := by decide +kernel
theorem d5_49 : decode method_3_code 49 = .ok (.if_icmp .ne 39, 3) := by decide +kernel
theorem d5_52 : decode method_3_code 52 = .ok (.iload_n 2, 1) := by decide +kernel
theorem d5_53 : decode method_3_code 53 = .ok (.iconst 4, 1) := by decide +kernel
theorem d5_54 : decode method_3_code 54 = .ok (.if_icmp .lt 14, 3) := by decide +kernel
theorem d5_57 : decode method_3_code 57 = .ok (.aload_n 0, 1) := by decide +kernel
theorem d5_58 : decode method_3_code 58 = .ok (.iconst 3, 1) := by decide +kernel
theorem d5_59 : decode method_3_code 59 = .ok (.iaload, 1) := by decide +kernel
theorem d5_60 : decode method_3_code 60 = .ok (.aload_n 0, 1) := by decide +kernel
theorem d5_61 : decode method_3_code 61 = .ok (.iload_n 3, 1) := by decide +kernel
theorem d5_62 : decode method_3_code 62 = .ok (.iconst 3, 1) := by decide +kernel
theorem d5_63 : decode method_3_code 63 = .ok (.iadd, 1) := by decide +kernel
theorem d5_64 : decode method_3_code 64 = .ok (.iaload, 1) := by decide +kernel
theorem d5_65 : decode method_3_code 65 = .ok (.if_icmp .ne 23, 3) := by decide +kernel
theorem d5_68 : decode method_3_code 68 = .ok (.iload_n 2, 1) := by decide +kernel
theorem d5_69 : decode method_3_code 69 = .ok (.iconst 5, 1) := by decide +kernel
theorem d5_70 : decode method_3_code 70 = .ok (.if_icmp .lt 14, 3) := by decide +kernel
theorem d5_73 : decode method_3_code 73 = .ok (.aload_n 0, 1) := by decide +kernel
theorem d5_74 : decode method_3_code 74 = .ok (.iconst 4, 1) := by decide +kernel
theorem d5_75 : decode method_3_code 75 = .ok (.iaload, 1) := by decide +kernel
theorem d5_76 : decode method_3_code 76 = .ok (.aload_n 0, 1) := by decide +kernel
theorem d5_77 : decode method_3_code 77 = .ok (.iload_n 3, 1) := by decide +kernel
theorem d5_78 : decode method_3_code 78 = .ok (.iconst 4, 1) := by decide +kernel
theorem d5_79 : decode method_3_code 79 = .ok (.iadd, 1) := by decide +kernel
theorem d5_80 : decode method_3_code 80 = .ok (.iaload, 1) := by decide +kernel
theorem d5_81 : decode method_3_code 81 = .ok (.if_icmp .ne 7, 3) := by decide +kernel
theorem d5_84 : decode method_3_code 84 = .ok (.iconst 1, 1) := by decide +kernel
theorem d5_85 : decode method_3_code 85 = .ok (.goto 4, 3) := by decide +kernel
theorem d5_88 : decode method_3_code 88 = .ok (.iconst 0, 1) := by decide +kernel
theorem d5_89 : decode method_3_code 89 = .ok (.ireturn, 1) := by decide +kernel
def own_kw (q : Nat → Nat → Bool) (tab : Nat → Nat) (i : Nat) : Nat → Nat → Nat
  | 0, k => k
  | f + 1, k => if k = 0 then k else if q k i then k else own_kw q tab i f (tab (k - 1))
def own_ks (q : Nat → Nat → Bool) (tab : Nat → Nat) (i k : Nat) : Nat := if q (own_kw q tab i k k) i then own_kw q tab i k k + 1 else own_kw q tab i k k
def own_upn (f : Nat → Nat) (s a : Nat) : Nat → Nat := fun t => if t = s then a else f t
def own_kmp (q : Nat → Nat → Bool) : Nat → Nat × (Nat → Nat)
  | 0 => (0, fun _ => 0)
  | i + 1 => (own_ks q (own_kmp q i).2 (i + 1) (own_kmp q i).1, own_upn (own_kmp q i).2 (i + 1) (own_ks q (own_kmp q i).2 (i + 1) (own_kmp q i).1))
def own_eqs (q : Nat → Nat → Bool) (i k : Nat) : Bool := (List.range k).all fun j => q j (i - k + 1 + j)
def own_bd (q : Nat → Nat → Bool) (i : Nat) : Nat :=
  if 5 ≤ i ∧ own_eqs q i 5 = true then 5 else if 4 ≤ i ∧ own_eqs q i 4 = true then 4 else if 3 ≤ i ∧ own_eqs q i 3 = true then 3 else if 2 ≤ i ∧ own_eqs q i 2 = true then 2 else if 1 ≤ i ∧ own_eqs q i 1 = true then 1 else 0
def own_bq (b01 b02 b12 b03 b13 b23 b04 b14 b24 b34 b05 b15 b25 b35 b45 : Bool) (i j : Nat) : Bool :=
  let g (i j : Nat) : Bool := match i, j with
    | 0, 1 => b01 | 0, 2 => b02 | 1, 2 => b12 | 0, 3 => b03 | 1, 3 => b13 | 2, 3 => b23 | 0, 4 => b04 | 1, 4 => b14 | 2, 4 => b24 | 3, 4 => b34 | 0, _ => b05 | 1, _ => b15 | 2, _ => b25 | 3, _ => b35 | _, _ => b45
  if min i 5 = min j 5 then true else if min i 5 < min j 5 then g (min i 5) (min j 5) else g (min j 5) (min i 5)
def own_chk (q : Nat → Nat → Bool) : Bool := [0, 1, 2, 3, 4, 5].all fun m => (List.range (m + 1)).all fun i => (own_kmp q m).2 i == own_bd q i
/-- three truths of an equality -/
def own_tr (a b c : Bool) : Bool := !((a && b && !c) || (a && !b && c) || (!a && b && c))
theorem own_all : ∀ b01 b02 b12 : Bool, own_tr b01 b12 b02 = true → ∀ b03 b13 b23 : Bool, (own_tr b01 b13 b03 && own_tr b02 b23 b03 && own_tr b12 b23 b13) = true →
    ∀ b04 b14 b24 b34 : Bool, (own_tr b01 b14 b04 && own_tr b02 b24 b04 && own_tr b12 b24 b14 && own_tr b03 b34 b04 && own_tr b13 b34 b14 && own_tr b23 b34 b24) = true →
    ∀ b05 b15 b25 b35 b45 : Bool, (own_tr b01 b15 b05 && own_tr b02 b25 b05 && own_tr b12 b25 b15 && own_tr b03 b35 b05 && own_tr b13 b35 b15 && own_tr b23 b35 b25 && own_tr b04 b45 b05 && own_tr b14 b45 b15 && own_tr b24 b45 b25 && own_tr b34 b45 b35) = true →
    own_chk (own_bq b01 b02 b12 b03 b13 b23 b04 b14 b24 b34 b05 b15 b25 b35 b45) = true := by decide +kernel
def own_eqf (p : Nat → Int32) (i j : Nat) : Bool := decide (p i = p j)
theorem own_trp {α : Type} [DecidableEq α] (x y z : α) : own_tr (decide (x = y)) (decide (y = z)) (decide (x = z)) = true := by
  by_cases h1 : x = y <;> by_cases h2 : y = z <;> by_cases h3 : x = z <;> simp_all [own_tr]
theorem own_chk_p (p : Nat → Int32) (hp : ∀ i, 5 ≤ i → p i = p 5) : own_chk (own_eqf p) = true := by
  have e : own_eqf p = own_bq (decide (p 0 = p 1)) (decide (p 0 = p 2)) (decide (p 1 = p 2)) (decide (p 0 = p 3)) (decide (p 1 = p 3)) (decide (p 2 = p 3)) (decide (p 0 = p 4)) (decide (p 1 = p 4)) (decide (p 2 = p 4)) (decide (p 3 = p 4)) (decide (p 0 = p 5)) (decide (p 1 = p 5)) (decide (p 2 = p 5)) (decide (p 3 = p 5)) (decide (p 4 = p 5)) := by
    funext i j
    have hi : p i = p (min i 5) := by
      by_cases h : 5 ≤ i
      · rw [hp i h, Nat.min_eq_right h]
      · rw [Nat.min_eq_left (by omega)]
    have hj : p j = p (min j 5) := by
      by_cases h : 5 ≤ j
      · rw [hp j h, Nat.min_eq_right h]
      · rw [Nat.min_eq_left (by omega)]
    have li : min i 5 ≤ 5 := Nat.min_le_right _ _
    have lj : min j 5 ≤ 5 := Nat.min_le_right _ _
    unfold own_eqf own_bq
    rw [hi, hj]
    generalize min i 5 = a at li
    generalize min j 5 = b at lj
    match a, li, b, lj with
    | 0, _, 0, _ | 1, _, 1, _ | 2, _, 2, _ | 3, _, 3, _ | 4, _, 4, _ | 5, _, 5, _ => simp
    | 0, _, 1, _ | 0, _, 2, _ | 0, _, 3, _ | 0, _, 4, _ | 0, _, 5, _ | 1, _, 2, _ | 1, _, 3, _ | 1, _, 4, _ | 1, _, 5, _ | 2, _, 3, _ | 2, _, 4, _ | 2, _, 5, _ | 3, _, 4, _ | 3, _, 5, _ | 4, _, 5, _ => simp
    | 1, _, 0, _ | 2, _, 0, _ | 3, _, 0, _ | 4, _, 0, _ | 5, _, 0, _ | 2, _, 1, _ | 3, _, 1, _ | 4, _, 1, _ | 5, _, 1, _ | 3, _, 2, _ | 4, _, 2, _ | 5, _, 2, _ | 4, _, 3, _ | 5, _, 3, _ | 5, _, 4, _ => simp [eq_comm]
  rw [e]
  refine own_all _ _ _ (own_trp _ _ _) _ _ _ ?_ _ _ _ _ ?_ _ _ _ _ _ ?_ <;> simp only [own_trp, Bool.and_self]
theorem own_tab_bd (p : Nat → Int32) (hp : ∀ i, 5 ≤ i → p i = p 5) {m i : Nat} (hm : m ≤ 5) (hi : i ≤ m) : (own_kmp (own_eqf p) m).2 i = own_bd (own_eqf p) i := by
  have h := own_chk_p p hp
  unfold own_chk at h
  rw [List.all_eq_true] at h
  have h2 := h m (by have : m = 0 ∨ m = 1 ∨ m = 2 ∨ m = 3 ∨ m = 4 ∨ m = 5 := by omega
                     rcases this with rfl | rfl | rfl | rfl | rfl | rfl <;> simp)
  rw [List.all_eq_true] at h2
  have h3 := h2 i (List.mem_range.mpr (by omega))
  simpa using h3
theorem own_kw_le (q : Nat → Nat → Bool) (tab : Nat → Nat) (i : Nat) (ht : ∀ j, tab j ≤ j) : ∀ f k, own_kw q tab i f k ≤ k
  | 0, k => Nat.le_refl k
  | f + 1, k => by
    unfold own_kw
    split
    · exact Nat.le_refl k
    · split
      · exact Nat.le_refl k
      · have := own_kw_le q tab i ht f (tab (k - 1))
        have h2 := ht (k - 1)
        omega
theorem own_kmp_le (q : Nat → Nat → Bool) : ∀ i, (own_kmp q i).1 ≤ i ∧ ∀ j, (own_kmp q i).2 j ≤ j
  | 0 => ⟨Nat.le_refl _, fun j => Nat.zero_le j⟩
  | i + 1 => by
    obtain ⟨h1, h2⟩ := own_kmp_le q i
    have h3 := own_kw_le q (own_kmp q i).2 (i + 1) h2 (own_kmp q i).1 (own_kmp q i).1
    have h4 : own_ks q (own_kmp q i).2 (i + 1) (own_kmp q i).1 ≤ i + 1 := by
      unfold own_ks; split <;> omega
    refine ⟨h4, fun j => ?_⟩
    show own_upn _ _ _ j ≤ j
    unfold own_upn
    split
    · subst_vars; exact h4
    · exact h2 j
def own_tn (n : Nat) (v : Nat → Int32) : List Value := (List.range n).map fun t => .int (v t)
theorem own_tn_len (n : Nat) (v : Nat → Int32) : (own_tn n v).length = n := by simp [own_tn]
theorem own_tn_get {n : Nat} (v : Nat → Int32) {t : Nat} (h : t < n) : (own_tn n v)[t]? = some (.int (v t)) := by simp [own_tn, List.getElem?_range h]
theorem own_tn_at {n : Nat} {v : Nat → Int32} {z : Int32} {j : Nat} (hz : z.toInt.toNat = j) (hj : j < n) : (own_tn n v)[z.toInt.toNat]? = some (.int (v j)) := by rw [hz]; exact own_tn_get v hj
theorem own_i32 {n : Nat} (h : n < 2147483648) : n.toInt32.toInt = (n : Int) := by
  have : n.toInt32 = Int32.ofNat n := rfl
  rw [this]; exact Int32.toInt_ofNat_of_lt (by simpa using h)
theorem own_il {n : Nat} {v : Nat → Int32} {z : Int32} {j : Nat} (hz : z.toInt = (j : Int)) (hj : j < n) : Inb z (own_tn n v).length := by rw [own_tn_len]; exact ⟨by omega, by omega⟩
theorem own_ilt {z : Int32} {j : Nat} (hz : z.toInt = (j : Int)) : z.toInt.toNat = j := by omega
theorem own_inc (k : Nat) : k.toInt32 + (1 : Int32) = (k + 1).toInt32 := by
  show Int32.ofNat k + 1 = Int32.ofNat (k + 1)
  rw [Int32.ofNat_add]; rfl
theorem own_dec {k : Nat} (h : 0 < k) (h2 : k < 2147483648) : (k.toInt32 - (1 : Int32)).toInt = ((k - 1 : Nat) : Int) := by
  have e := c_isub k.toInt32 (1 : Int32)
  have e1 := own_i32 h2
  have e2 : (1 : Int32).toInt = 1 := rfl
  have r := rng32 (k.toInt32 - (1 : Int32))
  omega
theorem own_lt32 {i n : Nat} (hi : i < 2147483648) (hn : n < 2147483648) : i.toInt32 < n.toInt32 ↔ i < n := by
  rw [Int32.lt_iff_toInt_lt, own_i32 hi, own_i32 hn]; omega
def own_upd {α : Type} (f : Nat → α) (s : Nat) (a : α) : Nat → α := fun t => if t = s then a else f t
theorem own_tn_upd {n : Nat} (v : Nat → Int32) (i : Nat) (x : Int32) : (own_tn n v).set i (.int x) = own_tn n (own_upd v i x) := by
  apply List.ext_getElem?
  intro j
  by_cases hj : j < n
  · rw [own_tn_get _ hj, List.getElem?_set]
    by_cases ht : i = j
    · subst ht; simp [own_tn_len, hj, own_upd]
    · rw [if_neg ht, own_tn_get _ hj]; simp [own_upd, Ne.symm ht]
  · rw [List.getElem?_eq_none (by simp [own_tn_len]; omega), List.getElem?_eq_none (by simp [own_tn_len]; omega)]
def own_tb (p : Nat → Int32) (n i : Nat) : Int32 := ((own_kmp (own_eqf p) (n - 1)).2 i).toInt32
theorem own_tn_set {n : Nat} (tab : Nat → Nat) (i k : Nat) : (own_tn n fun t => (tab t).toInt32).set i (.int k.toInt32) = own_tn n fun t => (own_upn tab i k t).toInt32 := by
  apply List.ext_getElem?
  intro j
  by_cases hj : j < n
  · rw [own_tn_get _ hj, List.getElem?_set]
    by_cases ht : i = j
    · subst ht; simp [own_tn_len, hj, own_upn]
    · rw [if_neg ht, own_tn_get _ hj]; simp [own_upn, Ne.symm ht]
  · rw [List.getElem?_eq_none (by simp [own_tn_len]; omega), List.getElem?_eq_none (by simp [own_tn_len]; omega)]

set_option maxRecDepth 65536 in
set_option maxHeartbeats 40000000 in
theorem ct1 (l : Launch) (Z : State) (a0 : Array Value) (hw : ∀ d ∈ tables_1, d.before a0 Z = true) (i x1 x2 x3 x4 : Int32) (h0 : Heap)  :
    Ct l Z y1 method_2_code 5 (some .int) ({ frames := 0, cells := 0, slots := 0, locals := 0 } : Room) #[(.int i), (.int x1), (.int x2), (.int x3), (.int x4)] h0 [] (fun v h => (∃ r, v = some (.int r)) ∧ h0 = h) := by
  refine Ct.of (plainFor_of_name (by first | (simp [plainName, overriddenIn]; done) | decide +kernel)) ?_
  intro p e s m below meth c T0 X0
  refine Runs.top (g' := mkF m 0 #[.val (.int i), .val (.int x1), .val (.int x2), .val (.int x3), .val (.int x4)] []) (by first | (simp [entryFrame, mkF, argsToLocals, Value.category]; done) | rfl) ?_
  refine X0.iloadN (pc' := 1) d1_0 rfl rfl ?_
  by_cases hc1 : i = (0 : Int32)
  · refine X0.ifNo (pc' := 4) d1_1 (teq hc1).2 rfl ?_
    refine X0.iloadN (pc' := 5) d1_4 rfl rfl ?_
    exact X0.ireturn rfl d1_5 (by decide) (by decide) ⟨⟨_, rfl⟩, rfl⟩
  · refine X0.ifYes (pc' := 6) d1_1 (feq hc1).2 (by decide) (by decide) ?_
    refine X0.iloadN (pc' := 7) d1_6 rfl rfl ?_
    refine X0.iconst (pc' := 8) (z := 1) d1_7 rfl rfl ?_
    by_cases hc2 : i = (1 : Int32)
    · refine X0.icmpNo (pc' := 11) d1_8 (teq hc2).2 rfl ?_
      refine X0.iloadN (pc' := 12) d1_11 rfl rfl ?_
      exact X0.ireturn rfl d1_12 (by decide) (by decide) ⟨⟨_, rfl⟩, rfl⟩
    · refine X0.icmpYes (pc' := 13) d1_8 (feq hc2).2 (by decide) (by decide) ?_
      refine X0.iloadN (pc' := 14) d1_13 rfl rfl ?_
      refine X0.iconst (pc' := 15) (z := 2) d1_14 rfl rfl ?_
      by_cases hc3 : i = (2 : Int32)
      · refine X0.icmpNo (pc' := 18) d1_15 (teq hc3).2 rfl ?_
        refine X0.iloadN (pc' := 19) d1_18 rfl rfl ?_
        exact X0.ireturn rfl d1_19 (by decide) (by decide) ⟨⟨_, rfl⟩, rfl⟩
      · refine X0.icmpYes (pc' := 20) d1_15 (feq hc3).2 (by decide) (by decide) ?_
        refine X0.iload (pc' := 22) d1_20 rfl rfl ?_
        exact X0.ireturn rfl d1_22 (by decide) (by decide) ⟨⟨_, rfl⟩, rfl⟩
theorem own_npos {k : Nat} (h : k = 0) : ¬ (0 : Int32) < k.toInt32 := by subst h; decide
theorem own_pos {k n : Nat} (h : ¬ k = 0) (hk : k < n ∧ n < 2147483648) : (0 : Int32) < k.toInt32 := by
  rw [Int32.lt_iff_toInt_lt, own_i32 (by omega)]
  have e : (0 : Int32).toInt = 0 := rfl
  omega
set_option maxRecDepth 65536 in
set_option maxHeartbeats 40000000 in
theorem lpi2 {pr : Program} {l : Launch} {e : Env} {R : Room} {s : State} {m : MethodId} {args : Array Value} {below : List Frame} {meth : Method} {c : Code} {ret : Option FieldType} {Z : State} {h0 : Heap} {ws : List Addr} {G : Outcome → State → Prop} {a0 : Array Value} (hw : ∀ d ∈ tables_1, d.before a0 Z = true) {a b : Addr} {p : Nat → Int32} {tab : Nat → Nat} {n i : Nat} {cells slots : Nat} {h : Heap} (hn : n ≤ 6) (hi : i < n) (ht : ∀ j, tab j ≤ j) (Va : Lst Z h a .int (own_tn n p)) (Vb : Lst Z h b .int (own_tn n fun t => (tab t).toInt32)) :
    ∀ (f k : Nat) (T : State), Here pr l e R s m args below meth c y2 prog_19_method_2_code 5 ret Z h0 ws T cells slots h → k ≤ f → k < i → (∀ T', Here pr l e R s m args below meth c y2 prog_19_method_2_code 5 ret Z h0 ws T' cells slots h → Runs pr e below (T'.setTop (mkF m 41 #[.val (.ref a), .val (.ref b), .val (.int (own_kw (own_eqf p) tab i f k).toInt32), .val (.int i.toInt32), .val (.int (p i))] [])) G) → Runs pr e below (T.setTop (mkF m 20 #[.val (.ref a), .val (.ref b), .val (.int k.toInt32), .val (.int i.toInt32), .val (.int (p i))] [])) G := by
  intro f
  induction f with
  | zero =>
    intro k T X hf hk kx
    have hk0 : k = 0 := by omega
    refine X.iloadN (pc' := 21) d2_20 rfl rfl ?_
    refine X.ifYes (pc' := 41) d2_21 (flt (own_npos hk0)).2.2.2 (by decide) (by decide) ?_
    have := kx T X
    first | exact this | (unfold own_kw at this; rw [if_pos hk0] at this; exact this)
  | succ f ih =>
    intro k T X hf hki kx
    have hk : k < n ∧ n < 2147483648 := by omega
    by_cases hk0 : k = 0
    · refine X.iloadN (pc' := 21) d2_20 rfl rfl ?_
      refine X.ifYes (pc' := 41) d2_21 (flt (own_npos hk0)).2.2.2 (by decide) (by decide) ?_
      have := kx T X
      first | exact this | (unfold own_kw at this; rw [if_pos hk0] at this; exact this)
    · refine X.iloadN (pc' := 21) d2_20 rfl rfl ?_
      refine X.ifNo (pc' := 24) d2_21 (tlt (own_pos hk0 hk)).2.2.2 rfl ?_
      refine X.aloadN (pc' := 25) d2_24 rfl rfl rfl ?_
      refine X.iloadN (pc' := 26) d2_25 rfl rfl ?_
      refine X.iaload (pc' := 27) (v := (.int (p k))) Va (own_il (own_i32 (by omega)) (by omega : k < n)) (own_tn_at (own_ilt (own_i32 (by omega))) (by omega : k < n)) d2_26 rfl ?_
      refine X.iload (pc' := 29) d2_27 rfl rfl ?_
      by_cases hc1 : (p k) = (p i)
      · refine X.icmpYes (pc' := 41) d2_29 (teq hc1).1 (by decide) (by decide) ?_
        have := kx T X
        unfold own_kw at this
        rw [if_neg hk0, if_pos (by simp [own_eqf, hc1])] at this
        exact this
      · refine X.icmpNo (pc' := 32) d2_29 (feq hc1).1 rfl ?_
        refine X.aloadN (pc' := 33) d2_32 rfl rfl rfl ?_
        refine X.iloadN (pc' := 34) d2_33 rfl rfl ?_
        refine X.iconst (pc' := 35) (z := 1) d2_34 rfl rfl ?_
        refine X.isub (pc' := 36) d2_35 rfl ?_
        refine X.iaload (pc' := 37) (v := (.int (tab (k - 1)).toInt32)) Vb (own_il (own_dec (by omega) (by omega)) (by omega : k - 1 < n)) (own_tn_at (own_ilt (own_dec (by omega) (by omega))) (by omega : k - 1 < n)) d2_36 rfl ?_
        refine X.istoreN (pc' := 38) (l' := #[.val (.ref a), .val (.ref b), .val (.int (tab (k - 1)).toInt32), .val (.int i.toInt32), .val (.int (p i))]) d2_37 rfl rfl ?_
        refine X.goto (pc' := 20) d2_38 (by decide) (by decide) ?_
        have ht1 := ht (k - 1)
        refine ih (tab (k - 1)) T X (by omega) (by omega) (fun T' X' => ?_)
        have := kx T' X'
        unfold own_kw at this
        rw [if_neg hk0, if_neg (by simp [own_eqf, hc1])] at this
        exact this
set_option maxRecDepth 65536 in
set_option maxHeartbeats 40000000 in
theorem lpo2 {pr : Program} {l : Launch} {e : Env} {R : Room} {s : State} {m : MethodId} {args : Array Value} {below : List Frame} {meth : Method} {c : Code} {ret : Option FieldType} {Z : State} {h0 : Heap} {ws : List Addr} {G : Outcome → State → Prop} {a0 : Array Value} (hw : ∀ d ∈ tables_1, d.before a0 Z = true) {a b : Addr} {p : Nat → Int32} {n : Nat} {cells slots : Nat} (hn : n ≤ 6) (hab : a ≠ b) (sz_b : h0.size ≤ b) :
    ∀ (d j : Nat) (T : State) (h : Heap) (s4 : Slot), Here pr l e R s m args below meth c y2 prog_19_method_2_code 5 ret Z h0 ws T cells slots h → One s4 → n ≤ j + 1 + d → j ≤ n - 1 → Lst Z h a .int (own_tn n p) → Lst Z h b .int (own_tn n fun t => ((own_kmp (own_eqf p) j).2 t).toInt32) → (∀ T' h' s4', Here pr l e R s m args below meth c y2 prog_19_method_2_code 5 ret Z h0 ws T' cells slots h' → Lst Z h' a .int (own_tn n p) → Lst Z h' b .int (own_tn n fun t => ((own_kmp (own_eqf p) (n - 1)).2 t).toInt32) → Runs pr e below (T'.setTop (mkF m 62 #[.val (.ref a), .val (.ref b), .val (.int (own_kmp (own_eqf p) (n - 1)).1.toInt32), .val (.int ((n - 1) + 1).toInt32), s4'] [])) G) → Runs pr e below (T.setTop (mkF m 9 #[.val (.ref a), .val (.ref b), .val (.int (own_kmp (own_eqf p) j).1.toInt32), .val (.int (j + 1).toInt32), s4] [])) G := by
  intro d
  induction d with
  | zero =>
    intro j T h s4 X hs4 hd hj Va Vb kx
    have hi : ¬ j + 1 < n := by omega
    refine X.iloadN (pc' := 10) d2_9 rfl rfl ?_
    refine X.aloadN (pc' := 11) d2_10 rfl rfl rfl ?_
    refine X.arraylength (pc' := 12) (n := n.toInt32) Vb (by rw [own_tn_len]) d2_11 rfl ?_
    refine X.icmpYes (pc' := 62) d2_12 (flt (fun q => hi ((own_lt32 (by omega) (by omega)).mp q))).2.1 (by decide) (by decide) ?_
    obtain rfl : j = n - 1 := by omega
    exact kx _ _ _ X Va Vb
  | succ d ih =>
    intro j T h s4 X hs4 hd hj Va Vb kx
    have hk := own_kmp_le (own_eqf p) j
    have hk1 := hk.1
    by_cases hi : j + 1 < n
    · refine X.iloadN (pc' := 10) d2_9 rfl rfl ?_
      refine X.aloadN (pc' := 11) d2_10 rfl rfl rfl ?_
      refine X.arraylength (pc' := 12) (n := n.toInt32) Vb (by rw [own_tn_len]) d2_11 rfl ?_
      refine X.icmpNo (pc' := 15) d2_12 (tlt ((own_lt32 (by omega) (by omega)).mpr hi)).2.1 rfl ?_
      refine X.aloadN (pc' := 16) d2_15 rfl rfl rfl ?_
      refine X.iloadN (pc' := 17) d2_16 rfl rfl ?_
      refine X.iaload (pc' := 18) (v := (.int (p (j + 1)))) Va (own_il (own_i32 (by omega)) hi) (own_tn_at (own_ilt (own_i32 (by omega))) hi) d2_17 rfl ?_
      refine X.istore (pc' := 20) (l' := #[.val (.ref a), .val (.ref b), .val (.int (own_kmp (own_eqf p) j).1.toInt32), .val (.int (j + 1).toInt32), .val (.int (p (j + 1)))]) d2_18 (XS.store1 rfl hs4 rfl) rfl ?_
      refine lpi2 hw hn hi hk.2 Va Vb (own_kmp (own_eqf p) j).1 _ _ X (Nat.le_refl _) (by omega) (fun T5 X5 => ?_)
      have hKle := own_kw_le (own_eqf p) (own_kmp (own_eqf p) j).2 (j + 1) hk.2 (own_kmp (own_eqf p) j).1 (own_kmp (own_eqf p) j).1
      obtain ⟨K, hK⟩ : ∃ K, K = (own_kw (own_eqf p) (own_kmp (own_eqf p) j).2 (j + 1) (own_kmp (own_eqf p) j).1 (own_kmp (own_eqf p) j).1) := ⟨_, rfl⟩
      rw [← hK] at hKle ⊢
      refine X5.aloadN (pc' := 42) d2_41 rfl rfl rfl ?_
      refine X5.iloadN (pc' := 43) d2_42 rfl rfl ?_
      refine X5.iaload (pc' := 44) (v := (.int (p K))) Va (own_il (own_i32 (by omega)) (by omega : K < n)) (own_tn_at (own_ilt (own_i32 (by omega))) (by omega : K < n)) d2_43 rfl ?_
      refine X5.iload (pc' := 46) d2_44 rfl rfl ?_
      by_cases hc1 : (p K) = (p (j + 1))
      · refine X5.icmpNo (pc' := 49) d2_46 (teq hc1).2 rfl ?_
        refine X5.iinc (pc' := 52) (z := 1) (l' := #[.val (.ref a), .val (.ref b), .val (.int (K + 1).toInt32), .val (.int (j + 1).toInt32), .val (.int (p (j + 1)))]) d2_49 rfl rfl (by rw [own_inc]; rfl) rfl ?_
        refine X5.aloadN (pc' := 53) d2_52 rfl rfl rfl ?_
        refine X5.iloadN (pc' := 54) d2_53 rfl rfl ?_
        refine X5.iloadN (pc' := 55) d2_54 rfl rfl ?_
        refine X5.iastore (pc' := 56) Vb (own_il (own_i32 (by omega)) hi) d2_55 rfl (Or.inr sz_b) (fun T2 h2 X2 W2 => ?_)
        have V2 : Lst Z h2 b .int (own_tn n fun t => (own_upn (own_kmp (own_eqf p) j).2 (j + 1) (K + 1) t).toInt32) := ((congrArg (fun u => List.set _ u _) (own_ilt (own_i32 (by omega : j + 1 < 2147483648)))).trans (own_tn_set (n := n) (own_kmp (own_eqf p) j).2 (j + 1) (K + 1))) ▸ Vb.set W2
        have Va_2 := Va.other W2 hab
        refine X2.iinc (pc' := 59) (z := 1) (l' := #[.val (.ref a), .val (.ref b), .val (.int (K + 1).toInt32), .val (.int (j + 1 + 1).toInt32), .val (.int (p (j + 1)))]) d2_56 rfl rfl (by rw [own_inc]; rfl) rfl ?_
        refine X2.goto (pc' := 9) d2_59 (by decide) (by decide) ?_
        have eK : own_kmp (own_eqf p) (j + 1) = (K + 1, own_upn (own_kmp (own_eqf p) j).2 (j + 1) (K + 1)) := by
          show (own_ks _ _ _ _, own_upn _ _ (own_ks _ _ _ _)) = _
          unfold own_ks
          rw [← hK]
          simp [own_eqf, hc1]
        have q := ih (j + 1) T2 h2 (.val (.int (p (j + 1)))) X2 (One.val rfl) (by omega) (by omega) Va_2 (by rw [eK]; exact V2) kx
        rw [eK] at q
        exact q
      · refine X5.icmpYes (pc' := 52) d2_46 (feq hc1).2 (by decide) (by decide) ?_
        refine X5.aloadN (pc' := 53) d2_52 rfl rfl rfl ?_
        refine X5.iloadN (pc' := 54) d2_53 rfl rfl ?_
        refine X5.iloadN (pc' := 55) d2_54 rfl rfl ?_
        refine X5.iastore (pc' := 56) Vb (own_il (own_i32 (by omega)) hi) d2_55 rfl (Or.inr sz_b) (fun T3 h3 X3 W3 => ?_)
        have V3 : Lst Z h3 b .int (own_tn n fun t => (own_upn (own_kmp (own_eqf p) j).2 (j + 1) K t).toInt32) := ((congrArg (fun u => List.set _ u _) (own_ilt (own_i32 (by omega : j + 1 < 2147483648)))).trans (own_tn_set (n := n) (own_kmp (own_eqf p) j).2 (j + 1) K)) ▸ Vb.set W3
        have Va_3 := Va.other W3 hab
        refine X3.iinc (pc' := 59) (z := 1) (l' := #[.val (.ref a), .val (.ref b), .val (.int K.toInt32), .val (.int (j + 1 + 1).toInt32), .val (.int (p (j + 1)))]) d2_56 rfl rfl (by rw [own_inc]; rfl) rfl ?_
        refine X3.goto (pc' := 9) d2_59 (by decide) (by decide) ?_
        have eK : own_kmp (own_eqf p) (j + 1) = (K, own_upn (own_kmp (own_eqf p) j).2 (j + 1) (K)) := by
          show (own_ks _ _ _ _, own_upn _ _ (own_ks _ _ _ _)) = _
          unfold own_ks
          rw [← hK]
          simp [own_eqf, hc1]
        have q := ih (j + 1) T3 h3 (.val (.int (p (j + 1)))) X3 (One.val rfl) (by omega) (by omega) Va_3 (by rw [eK]; exact V3) kx
        rw [eK] at q
        exact q
    · refine X.iloadN (pc' := 10) d2_9 rfl rfl ?_
      refine X.aloadN (pc' := 11) d2_10 rfl rfl rfl ?_
      refine X.arraylength (pc' := 12) (n := n.toInt32) Vb (by rw [own_tn_len]) d2_11 rfl ?_
      refine X.icmpYes (pc' := 62) d2_12 (flt (fun q => hi ((own_lt32 (by omega) (by omega)).mp q))).2.1 (by decide) (by decide) ?_
      obtain rfl : j = n - 1 := by omega
      exact kx _ _ _ X Va Vb
set_option maxRecDepth 65536 in
set_option maxHeartbeats 40000000 in
theorem ct2 (l : Launch) (Z : State) (a0 : Array Value) (hw : ∀ d ∈ tables_1, d.before a0 Z = true) (a : Addr) (p : Nat → Int32) (n : Nat) (h0 : Heap) (hn : n ≤ 6) (Va : Lst Z h0 a .int (own_tn n p)) :
    Ct l Z y2 prog_19_method_2_code 5 (some (.array .int)) ({ frames := 0, cells := 1, slots := 6, locals := 0 } : Room) #[(.ref a)] h0 [] (fun v h => ∃ b, v = some (.ref b) ∧ h0.size ≤ b ∧ Lst Z h b .int (own_tn n (own_tb p n))) := by
  refine Ct.of (plainFor_of_name (by first | (simp [plainName, overriddenIn]; done) | decide +kernel)) ?_
  intro pr e s m below meth c T0 X0
  refine Runs.top (g' := mkF m 0 #[.val (.ref a), .unset, .unset, .unset, .unset] []) (by first | (simp [entryFrame, mkF, argsToLocals, Value.category]; done) | rfl) ?_
  refine X0.aloadN (pc' := 1) d2_0 rfl rfl rfl ?_
  refine X0.arraylength (pc' := 2) (n := n.toInt32) Va (by rw [own_tn_len]) d2_1 rfl ?_
  refine X0.newarray (pc' := 4) (ty := .int) rfl (wd_5 hw) d2_2 rfl (cap := 6) ⟨by rw [own_i32 (by omega)]; omega, by rw [own_i32 (by omega)]; omega⟩ (by decide) (by decide) (by decide) (fun T1 h1 b1 X1 g1 E1 V1 => ?_)
  have sz_b1 : h0.size ≤ b1 := g1 ▸ X0.size
  have ne_a_b1 : a ≠ b1 := Nat.ne_of_lt (g1 ▸ Va.lt)
  have Va_1 := Va.ext E1
  refine X1.astoreN (pc' := 5) (l' := #[.val (.ref a), .val (.ref b1), .unset, .unset, .unset]) d2_4 rfl rfl rfl ?_
  refine X1.iconst (pc' := 6) (z := 0) d2_5 rfl rfl ?_
  refine X1.istoreN (pc' := 7) (l' := #[.val (.ref a), .val (.ref b1), .val (.int (0 : Int32)), .unset, .unset]) d2_6 rfl rfl ?_
  refine X1.iconst (pc' := 8) (z := 1) d2_7 rfl rfl ?_
  refine X1.istoreN (pc' := 9) (l' := #[.val (.ref a), .val (.ref b1), .val (.int (0 : Int32)), .val (.int (1 : Int32)), .unset]) d2_8 rfl rfl ?_
  have e0n : n.toInt32.toInt.toNat = n := own_ilt (own_i32 (by omega))
  have Vb0 : Lst Z h1 b1 .int (own_tn n fun t => ((own_kmp (own_eqf p) 0).2 t).toInt32) := by
    have q := V1
    rw [e0n] at q
    have e2 : List.replicate n (Value.int (0 : Int32)) = own_tn n (fun t => ((own_kmp (own_eqf p) 0).2 t).toInt32) := by
      show _ = (List.range n).map (fun _ => Value.int (0 : Int32))
      rw [List.map_const', List.length_range]
    exact e2 ▸ q
  refine lpo2 hw hn ne_a_b1 sz_b1 n 0 T1 h1 .unset X1 One.u (by omega) (by omega) Va_1 Vb0 (fun T7 h7 s7 X7 Va7 Vb7 => ?_)
  refine X7.aloadN (pc' := 63) d2_62 rfl rfl rfl ?_
  exact X7.areturn rfl rfl rfl rfl d2_63 (by decide) (by decide) ⟨b1, rfl, sz_b1, Vb7⟩
set_option maxRecDepth 65536 in
set_option maxHeartbeats 40000000 in
theorem ct5_1_1 (l : Launch) (Z : State) (a0 : Array Value) (hw : ∀ d ∈ tables_1, d.before a0 Z = true) (a : Addr) (P : Nat → Int32) (n : Nat) (h0 : Heap) (Va : Lst Z h0 a .int (own_tn n P)) (hn : 1 < n) :
    Ct l Z y5 method_3_code 4 (some .boolean) ({ frames := 0, cells := 0, slots := 0, locals := 0 } : Room) #[(.ref a), (.int (1 : Int32)), (.int (1 : Int32))] h0 [] (fun v h => v = some (.int (if own_eqs (own_eqf P) 1 1 = true then (1 : Int32) else 0)) ∧ h0 = h) := by
  refine Ct.of (plainFor_of_name (by first | (simp [plainName, overriddenIn]; done) | decide +kernel)) ?_
  intro p e s m below meth c T0 X0
  refine Runs.top (g' := mkF m 0 #[.val (.ref a), .val (.int (1 : Int32)), .val (.int (1 : Int32)), .unset] []) (by first | (simp [entryFrame, mkF, argsToLocals, Value.category]; done) | rfl) ?_
  refine X0.iloadN (pc' := 1) d5_0 rfl rfl ?_
  refine X0.iloadN (pc' := 2) d5_1 rfl rfl ?_
  refine X0.isub (pc' := 3) d5_2 rfl ?_
  show Runs p e below (T0.setTop (mkF m 3 #[.val (.ref a), .val (.int (1 : Int32)), .val (.int (1 : Int32)), .unset] [(.int (0 : Int32))])) _
  refine X0.iconst (pc' := 4) (z := 1) d5_3 rfl rfl ?_
  refine X0.iadd (pc' := 5) d5_4 rfl ?_
  show Runs p e below (T0.setTop (mkF m 5 #[.val (.ref a), .val (.int (1 : Int32)), .val (.int (1 : Int32)), .unset] [(.int (1 : Int32))])) _
  refine X0.istoreN (pc' := 6) (l' := #[.val (.ref a), .val (.int (1 : Int32)), .val (.int (1 : Int32)), .val (.int (1 : Int32))]) d5_5 rfl rfl ?_
  refine X0.iloadN (pc' := 7) d5_6 rfl rfl ?_
  refine X0.iconst (pc' := 8) (z := 1) d5_7 rfl rfl ?_
  refine X0.icmpNo (pc' := 11) d5_8 (by decide) rfl ?_
  refine X0.aloadN (pc' := 12) d5_11 rfl rfl rfl ?_
  refine X0.iconst (pc' := 13) (z := 0) d5_12 rfl rfl ?_
  refine X0.iaload (pc' := 14) (v := (.int (P 0))) Va (own_il (z := (0 : Int32)) (j := 0) rfl (by omega)) (own_tn_at (z := (0 : Int32)) (j := 0) rfl (by omega)) d5_13 rfl ?_
  refine X0.aloadN (pc' := 15) d5_14 rfl rfl rfl ?_
  refine X0.iloadN (pc' := 16) d5_15 rfl rfl ?_
  refine X0.iaload (pc' := 17) (v := (.int (P 1))) Va (own_il (z := (1 : Int32)) (j := 1) rfl (by omega)) (own_tn_at (z := (1 : Int32)) (j := 1) rfl (by omega)) d5_16 rfl ?_
  by_cases hc1 : (P 0) = (P 1)
  · refine X0.icmpNo (pc' := 20) d5_17 (teq hc1).2 rfl ?_
    refine X0.iloadN (pc' := 21) d5_20 rfl rfl ?_
    refine X0.iconst (pc' := 22) (z := 2) d5_21 rfl rfl ?_
    refine X0.icmpYes (pc' := 36) d5_22 (by decide) (by decide) (by decide) ?_
    refine X0.iloadN (pc' := 37) d5_36 rfl rfl ?_
    refine X0.iconst (pc' := 38) (z := 3) d5_37 rfl rfl ?_
    refine X0.icmpYes (pc' := 52) d5_38 (by decide) (by decide) (by decide) ?_
    refine X0.iloadN (pc' := 53) d5_52 rfl rfl ?_
    refine X0.iconst (pc' := 54) (z := 4) d5_53 rfl rfl ?_
    refine X0.icmpYes (pc' := 68) d5_54 (by decide) (by decide) (by decide) ?_
    refine X0.iloadN (pc' := 69) d5_68 rfl rfl ?_
    refine X0.iconst (pc' := 70) (z := 5) d5_69 rfl rfl ?_
    refine X0.icmpYes (pc' := 84) d5_70 (by decide) (by decide) (by decide) ?_
    refine X0.iconst (pc' := 85) (z := 1) d5_84 rfl rfl ?_
    refine X0.goto (pc' := 89) d5_85 (by decide) (by decide) ?_
    exact X0.zreturn (z' := (1 : Int32)) rfl (by simp) d5_89 rfl (by decide) (by decide) ⟨by rw [show own_eqs (own_eqf P) 1 1 = (decide (P 0 = P 1) && true) from rfl]; simp [hc1], rfl⟩
  · refine X0.icmpYes (pc' := 88) d5_17 (feq hc1).2 (by decide) (by decide) ?_
    refine X0.iconst (pc' := 89) (z := 0) d5_88 rfl rfl ?_
    exact X0.zreturn (z' := (0 : Int32)) rfl (by simp) d5_89 rfl (by decide) (by decide) ⟨by rw [show own_eqs (own_eqf P) 1 1 = (decide (P 0 = P 1) && true) from rfl]; simp [hc1], rfl⟩
set_option maxRecDepth 65536 in
set_option maxHeartbeats 40000000 in
theorem ct5_2_1 (l : Launch) (Z : State) (a0 : Array Value) (hw : ∀ d ∈ tables_1, d.before a0 Z = true) (a : Addr) (P : Nat → Int32) (n : Nat) (h0 : Heap) (Va : Lst Z h0 a .int (own_tn n P)) (hn : 2 < n) :
    Ct l Z y5 method_3_code 4 (some .boolean) ({ frames := 0, cells := 0, slots := 0, locals := 0 } : Room) #[(.ref a), (.int (2 : Int32)), (.int (1 : Int32))] h0 [] (fun v h => v = some (.int (if own_eqs (own_eqf P) 2 1 = true then (1 : Int32) else 0)) ∧ h0 = h) := by
  refine Ct.of (plainFor_of_name (by first | (simp [plainName, overriddenIn]; done) | decide +kernel)) ?_
  intro p e s m below meth c T0 X0
  refine Runs.top (g' := mkF m 0 #[.val (.ref a), .val (.int (2 : Int32)), .val (.int (1 : Int32)), .unset] []) (by first | (simp [entryFrame, mkF, argsToLocals, Value.category]; done) | rfl) ?_
  refine X0.iloadN (pc' := 1) d5_0 rfl rfl ?_
  refine X0.iloadN (pc' := 2) d5_1 rfl rfl ?_
  refine X0.isub (pc' := 3) d5_2 rfl ?_
  show Runs p e below (T0.setTop (mkF m 3 #[.val (.ref a), .val (.int (2 : Int32)), .val (.int (1 : Int32)), .unset] [(.int (1 : Int32))])) _
  refine X0.iconst (pc' := 4) (z := 1) d5_3 rfl rfl ?_
  refine X0.iadd (pc' := 5) d5_4 rfl ?_
  show Runs p e below (T0.setTop (mkF m 5 #[.val (.ref a), .val (.int (2 : Int32)), .val (.int (1 : Int32)), .unset] [(.int (2 : Int32))])) _
  refine X0.istoreN (pc' := 6) (l' := #[.val (.ref a), .val (.int (2 : Int32)), .val (.int (1 : Int32)), .val (.int (2 : Int32))]) d5_5 rfl rfl ?_
  refine X0.iloadN (pc' := 7) d5_6 rfl rfl ?_
  refine X0.iconst (pc' := 8) (z := 1) d5_7 rfl rfl ?_
  refine X0.icmpNo (pc' := 11) d5_8 (by decide) rfl ?_
  refine X0.aloadN (pc' := 12) d5_11 rfl rfl rfl ?_
  refine X0.iconst (pc' := 13) (z := 0) d5_12 rfl rfl ?_
  refine X0.iaload (pc' := 14) (v := (.int (P 0))) Va (own_il (z := (0 : Int32)) (j := 0) rfl (by omega)) (own_tn_at (z := (0 : Int32)) (j := 0) rfl (by omega)) d5_13 rfl ?_
  refine X0.aloadN (pc' := 15) d5_14 rfl rfl rfl ?_
  refine X0.iloadN (pc' := 16) d5_15 rfl rfl ?_
  refine X0.iaload (pc' := 17) (v := (.int (P 2))) Va (own_il (z := (2 : Int32)) (j := 2) rfl (by omega)) (own_tn_at (z := (2 : Int32)) (j := 2) rfl (by omega)) d5_16 rfl ?_
  by_cases hc1 : (P 0) = (P 2)
  · refine X0.icmpNo (pc' := 20) d5_17 (teq hc1).2 rfl ?_
    refine X0.iloadN (pc' := 21) d5_20 rfl rfl ?_
    refine X0.iconst (pc' := 22) (z := 2) d5_21 rfl rfl ?_
    refine X0.icmpYes (pc' := 36) d5_22 (by decide) (by decide) (by decide) ?_
    refine X0.iloadN (pc' := 37) d5_36 rfl rfl ?_
    refine X0.iconst (pc' := 38) (z := 3) d5_37 rfl rfl ?_
    refine X0.icmpYes (pc' := 52) d5_38 (by decide) (by decide) (by decide) ?_
    refine X0.iloadN (pc' := 53) d5_52 rfl rfl ?_
    refine X0.iconst (pc' := 54) (z := 4) d5_53 rfl rfl ?_
    refine X0.icmpYes (pc' := 68) d5_54 (by decide) (by decide) (by decide) ?_
    refine X0.iloadN (pc' := 69) d5_68 rfl rfl ?_
    refine X0.iconst (pc' := 70) (z := 5) d5_69 rfl rfl ?_
    refine X0.icmpYes (pc' := 84) d5_70 (by decide) (by decide) (by decide) ?_
    refine X0.iconst (pc' := 85) (z := 1) d5_84 rfl rfl ?_
    refine X0.goto (pc' := 89) d5_85 (by decide) (by decide) ?_
    exact X0.zreturn (z' := (1 : Int32)) rfl (by simp) d5_89 rfl (by decide) (by decide) ⟨by rw [show own_eqs (own_eqf P) 2 1 = (decide (P 0 = P 2) && true) from rfl]; simp [hc1], rfl⟩
  · refine X0.icmpYes (pc' := 88) d5_17 (feq hc1).2 (by decide) (by decide) ?_
    refine X0.iconst (pc' := 89) (z := 0) d5_88 rfl rfl ?_
    exact X0.zreturn (z' := (0 : Int32)) rfl (by simp) d5_89 rfl (by decide) (by decide) ⟨by rw [show own_eqs (own_eqf P) 2 1 = (decide (P 0 = P 2) && true) from rfl]; simp [hc1], rfl⟩
set_option maxRecDepth 65536 in
set_option maxHeartbeats 40000000 in
theorem ct5_2_2 (l : Launch) (Z : State) (a0 : Array Value) (hw : ∀ d ∈ tables_1, d.before a0 Z = true) (a : Addr) (P : Nat → Int32) (n : Nat) (h0 : Heap) (Va : Lst Z h0 a .int (own_tn n P)) (hn : 2 < n) :
    Ct l Z y5 method_3_code 4 (some .boolean) ({ frames := 0, cells := 0, slots := 0, locals := 0 } : Room) #[(.ref a), (.int (2 : Int32)), (.int (2 : Int32))] h0 [] (fun v h => v = some (.int (if own_eqs (own_eqf P) 2 2 = true then (1 : Int32) else 0)) ∧ h0 = h) := by
  refine Ct.of (plainFor_of_name (by first | (simp [plainName, overriddenIn]; done) | decide +kernel)) ?_
  intro p e s m below meth c T0 X0
  refine Runs.top (g' := mkF m 0 #[.val (.ref a), .val (.int (2 : Int32)), .val (.int (2 : Int32)), .unset] []) (by first | (simp [entryFrame, mkF, argsToLocals, Value.category]; done) | rfl) ?_
  refine X0.iloadN (pc' := 1) d5_0 rfl rfl ?_
  refine X0.iloadN (pc' := 2) d5_1 rfl rfl ?_
  refine X0.isub (pc' := 3) d5_2 rfl ?_
  show Runs p e below (T0.setTop (mkF m 3 #[.val (.ref a), .val (.int (2 : Int32)), .val (.int (2 : Int32)), .unset] [(.int (0 : Int32))])) _
  refine X0.iconst (pc' := 4) (z := 1) d5_3 rfl rfl ?_
  refine X0.iadd (pc' := 5) d5_4 rfl ?_
  show Runs p e below (T0.setTop (mkF m 5 #[.val (.ref a), .val (.int (2 : Int32)), .val (.int (2 : Int32)), .unset] [(.int (1 : Int32))])) _
  refine X0.istoreN (pc' := 6) (l' := #[.val (.ref a), .val (.int (2 : Int32)), .val (.int (2 : Int32)), .val (.int (1 : Int32))]) d5_5 rfl rfl ?_
  refine X0.iloadN (pc' := 7) d5_6 rfl rfl ?_
  refine X0.iconst (pc' := 8) (z := 1) d5_7 rfl rfl ?_
  refine X0.icmpNo (pc' := 11) d5_8 (by decide) rfl ?_
  refine X0.aloadN (pc' := 12) d5_11 rfl rfl rfl ?_
  refine X0.iconst (pc' := 13) (z := 0) d5_12 rfl rfl ?_
  refine X0.iaload (pc' := 14) (v := (.int (P 0))) Va (own_il (z := (0 : Int32)) (j := 0) rfl (by omega)) (own_tn_at (z := (0 : Int32)) (j := 0) rfl (by omega)) d5_13 rfl ?_
  refine X0.aloadN (pc' := 15) d5_14 rfl rfl rfl ?_
  refine X0.iloadN (pc' := 16) d5_15 rfl rfl ?_
  refine X0.iaload (pc' := 17) (v := (.int (P 1))) Va (own_il (z := (1 : Int32)) (j := 1) rfl (by omega)) (own_tn_at (z := (1 : Int32)) (j := 1) rfl (by omega)) d5_16 rfl ?_
  by_cases hc1 : (P 0) = (P 1)
  · refine X0.icmpNo (pc' := 20) d5_17 (teq hc1).2 rfl ?_
    refine X0.iloadN (pc' := 21) d5_20 rfl rfl ?_
    refine X0.iconst (pc' := 22) (z := 2) d5_21 rfl rfl ?_
    refine X0.icmpNo (pc' := 25) d5_22 (by decide) rfl ?_
    refine X0.aloadN (pc' := 26) d5_25 rfl rfl rfl ?_
    refine X0.iconst (pc' := 27) (z := 1) d5_26 rfl rfl ?_
    refine X0.iaload (pc' := 28) (v := (.int (P 1))) Va (own_il (z := (1 : Int32)) (j := 1) rfl (by omega)) (own_tn_at (z := (1 : Int32)) (j := 1) rfl (by omega)) d5_27 rfl ?_
    refine X0.aloadN (pc' := 29) d5_28 rfl rfl rfl ?_
    refine X0.iloadN (pc' := 30) d5_29 rfl rfl ?_
    refine X0.iconst (pc' := 31) (z := 1) d5_30 rfl rfl ?_
    refine X0.iadd (pc' := 32) d5_31 rfl ?_
    show Runs p e below (T0.setTop (mkF m 32 #[.val (.ref a), .val (.int (2 : Int32)), .val (.int (2 : Int32)), .val (.int (1 : Int32))] [(.int (2 : Int32)), (.ref a), (.int (P 1))])) _
    refine X0.iaload (pc' := 33) (v := (.int (P 2))) Va (own_il (z := (2 : Int32)) (j := 2) rfl (by omega)) (own_tn_at (z := (2 : Int32)) (j := 2) rfl (by omega)) d5_32 rfl ?_
    by_cases hc2 : (P 1) = (P 2)
    · refine X0.icmpNo (pc' := 36) d5_33 (teq hc2).2 rfl ?_
      refine X0.iloadN (pc' := 37) d5_36 rfl rfl ?_
      refine X0.iconst (pc' := 38) (z := 3) d5_37 rfl rfl ?_
      refine X0.icmpYes (pc' := 52) d5_38 (by decide) (by decide) (by decide) ?_
      refine X0.iloadN (pc' := 53) d5_52 rfl rfl ?_
      refine X0.iconst (pc' := 54) (z := 4) d5_53 rfl rfl ?_
      refine X0.icmpYes (pc' := 68) d5_54 (by decide) (by decide) (by decide) ?_
      refine X0.iloadN (pc' := 69) d5_68 rfl rfl ?_
      refine X0.iconst (pc' := 70) (z := 5) d5_69 rfl rfl ?_
      refine X0.icmpYes (pc' := 84) d5_70 (by decide) (by decide) (by decide) ?_
      refine X0.iconst (pc' := 85) (z := 1) d5_84 rfl rfl ?_
      refine X0.goto (pc' := 89) d5_85 (by decide) (by decide) ?_
      exact X0.zreturn (z' := (1 : Int32)) rfl (by simp) d5_89 rfl (by decide) (by decide) ⟨by rw [show own_eqs (own_eqf P) 2 2 = (decide (P 0 = P 1) && (decide (P 1 = P 2) && true)) from rfl]; simp [hc1, hc2], rfl⟩
    · refine X0.icmpYes (pc' := 88) d5_33 (feq hc2).2 (by decide) (by decide) ?_
      refine X0.iconst (pc' := 89) (z := 0) d5_88 rfl rfl ?_
      exact X0.zreturn (z' := (0 : Int32)) rfl (by simp) d5_89 rfl (by decide) (by decide) ⟨by rw [show own_eqs (own_eqf P) 2 2 = (decide (P 0 = P 1) && (decide (P 1 = P 2) && true)) from rfl]; simp [hc1, hc2], rfl⟩
  · refine X0.icmpYes (pc' := 88) d5_17 (feq hc1).2 (by decide) (by decide) ?_
    refine X0.iconst (pc' := 89) (z := 0) d5_88 rfl rfl ?_
    exact X0.zreturn (z' := (0 : Int32)) rfl (by simp) d5_89 rfl (by decide) (by decide) ⟨by rw [show own_eqs (own_eqf P) 2 2 = (decide (P 0 = P 1) && (decide (P 1 = P 2) && true)) from rfl]; simp [hc1], rfl⟩
set_option maxRecDepth 65536 in
set_option maxHeartbeats 40000000 in
theorem ct5_3_1 (l : Launch) (Z : State) (a0 : Array Value) (hw : ∀ d ∈ tables_1, d.before a0 Z = true) (a : Addr) (P : Nat → Int32) (n : Nat) (h0 : Heap) (Va : Lst Z h0 a .int (own_tn n P)) (hn : 3 < n) :
    Ct l Z y5 method_3_code 4 (some .boolean) ({ frames := 0, cells := 0, slots := 0, locals := 0 } : Room) #[(.ref a), (.int (3 : Int32)), (.int (1 : Int32))] h0 [] (fun v h => v = some (.int (if own_eqs (own_eqf P) 3 1 = true then (1 : Int32) else 0)) ∧ h0 = h) := by
  refine Ct.of (plainFor_of_name (by first | (simp [plainName, overriddenIn]; done) | decide +kernel)) ?_
  intro p e s m below meth c T0 X0
  refine Runs.top (g' := mkF m 0 #[.val (.ref a), .val (.int (3 : Int32)), .val (.int (1 : Int32)), .unset] []) (by first | (simp [entryFrame, mkF, argsToLocals, Value.category]; done) | rfl) ?_
  refine X0.iloadN (pc' := 1) d5_0 rfl rfl ?_
  refine X0.iloadN (pc' := 2) d5_1 rfl rfl ?_
  refine X0.isub (pc' := 3) d5_2 rfl ?_
  show Runs p e below (T0.setTop (mkF m 3 #[.val (.ref a), .val (.int (3 : Int32)), .val (.int (1 : Int32)), .unset] [(.int (2 : Int32))])) _
  refine X0.iconst (pc' := 4) (z := 1) d5_3 rfl rfl ?_
  refine X0.iadd (pc' := 5) d5_4 rfl ?_
  show Runs p e below (T0.setTop (mkF m 5 #[.val (.ref a), .val (.int (3 : Int32)), .val (.int (1 : Int32)), .unset] [(.int (3 : Int32))])) _
  refine X0.istoreN (pc' := 6) (l' := #[.val (.ref a), .val (.int (3 : Int32)), .val (.int (1 : Int32)), .val (.int (3 : Int32))]) d5_5 rfl rfl ?_
  refine X0.iloadN (pc' := 7) d5_6 rfl rfl ?_
  refine X0.iconst (pc' := 8) (z := 1) d5_7 rfl rfl ?_
  refine X0.icmpNo (pc' := 11) d5_8 (by decide) rfl ?_
  refine X0.aloadN (pc' := 12) d5_11 rfl rfl rfl ?_
  refine X0.iconst (pc' := 13) (z := 0) d5_12 rfl rfl ?_
  refine X0.iaload (pc' := 14) (v := (.int (P 0))) Va (own_il (z := (0 : Int32)) (j := 0) rfl (by omega)) (own_tn_at (z := (0 : Int32)) (j := 0) rfl (by omega)) d5_13 rfl ?_
  refine X0.aloadN (pc' := 15) d5_14 rfl rfl rfl ?_
  refine X0.iloadN (pc' := 16) d5_15 rfl rfl ?_
  refine X0.iaload (pc' := 17) (v := (.int (P 3))) Va (own_il (z := (3 : Int32)) (j := 3) rfl (by omega)) (own_tn_at (z := (3 : Int32)) (j := 3) rfl (by omega)) d5_16 rfl ?_
  by_cases hc1 : (P 0) = (P 3)
  · refine X0.icmpNo (pc' := 20) d5_17 (teq hc1).2 rfl ?_
    refine X0.iloadN (pc' := 21) d5_20 rfl rfl ?_
    refine X0.iconst (pc' := 22) (z := 2) d5_21 rfl rfl ?_
    refine X0.icmpYes (pc' := 36) d5_22 (by decide) (by decide) (by decide) ?_
    refine X0.iloadN (pc' := 37) d5_36 rfl rfl ?_
    refine X0.iconst (pc' := 38) (z := 3) d5_37 rfl rfl ?_
    refine X0.icmpYes (pc' := 52) d5_38 (by decide) (by decide) (by decide) ?_
    refine X0.iloadN (pc' := 53) d5_52 rfl rfl ?_
    refine X0.iconst (pc' := 54) (z := 4) d5_53 rfl rfl ?_
    refine X0.icmpYes (pc' := 68) d5_54 (by decide) (by decide) (by decide) ?_
    refine X0.iloadN (pc' := 69) d5_68 rfl rfl ?_
    refine X0.iconst (pc' := 70) (z := 5) d5_69 rfl rfl ?_
    refine X0.icmpYes (pc' := 84) d5_70 (by decide) (by decide) (by decide) ?_
    refine X0.iconst (pc' := 85) (z := 1) d5_84 rfl rfl ?_
    refine X0.goto (pc' := 89) d5_85 (by decide) (by decide) ?_
    exact X0.zreturn (z' := (1 : Int32)) rfl (by simp) d5_89 rfl (by decide) (by decide) ⟨by rw [show own_eqs (own_eqf P) 3 1 = (decide (P 0 = P 3) && true) from rfl]; simp [hc1], rfl⟩
  · refine X0.icmpYes (pc' := 88) d5_17 (feq hc1).2 (by decide) (by decide) ?_
    refine X0.iconst (pc' := 89) (z := 0) d5_88 rfl rfl ?_
    exact X0.zreturn (z' := (0 : Int32)) rfl (by simp) d5_89 rfl (by decide) (by decide) ⟨by rw [show own_eqs (own_eqf P) 3 1 = (decide (P 0 = P 3) && true) from rfl]; simp [hc1], rfl⟩
set_option maxRecDepth 65536 in
set_option maxHeartbeats 40000000 in
theorem ct5_3_2 (l : Launch) (Z : State) (a0 : Array Value) (hw : ∀ d ∈ tables_1, d.before a0 Z = true) (a : Addr) (P : Nat → Int32) (n : Nat) (h0 : Heap) (Va : Lst Z h0 a .int (own_tn n P)) (hn : 3 < n) :
    Ct l Z y5 method_3_code 4 (some .boolean) ({ frames := 0, cells := 0, slots := 0, locals := 0 } : Room) #[(.ref a), (.int (3 : Int32)), (.int (2 : Int32))] h0 [] (fun v h => v = some (.int (if own_eqs (own_eqf P) 3 2 = true then (1 : Int32) else 0)) ∧ h0 = h) := by
  refine Ct.of (plainFor_of_name (by first | (simp [plainName, overriddenIn]; done) | decide +kernel)) ?_
  intro p e s m below meth c T0 X0
  refine Runs.top (g' := mkF m 0 #[.val (.ref a), .val (.int (3 : Int32)), .val (.int (2 : Int32)), .unset] []) (by first | (simp [entryFrame, mkF, argsToLocals, Value.category]; done) | rfl) ?_
  refine X0.iloadN (pc' := 1) d5_0 rfl rfl ?_
  refine X0.iloadN (pc' := 2) d5_1 rfl rfl ?_
  refine X0.isub (pc' := 3) d5_2 rfl ?_
  show Runs p e below (T0.setTop (mkF m 3 #[.val (.ref a), .val (.int (3 : Int32)), .val (.int (2 : Int32)), .unset] [(.int (1 : Int32))])) _
  refine X0.iconst (pc' := 4) (z := 1) d5_3 rfl rfl ?_
  refine X0.iadd (pc' := 5) d5_4 rfl ?_
  show Runs p e below (T0.setTop (mkF m 5 #[.val (.ref a), .val (.int (3 : Int32)), .val (.int (2 : Int32)), .unset] [(.int (2 : Int32))])) _
  refine X0.istoreN (pc' := 6) (l' := #[.val (.ref a), .val (.int (3 : Int32)), .val (.int (2 : Int32)), .val (.int (2 : Int32))]) d5_5 rfl rfl ?_
  refine X0.iloadN (pc' := 7) d5_6 rfl rfl ?_
  refine X0.iconst (pc' := 8) (z := 1) d5_7 rfl rfl ?_
  refine X0.icmpNo (pc' := 11) d5_8 (by decide) rfl ?_
  refine X0.aloadN (pc' := 12) d5_11 rfl rfl rfl ?_
  refine X0.iconst (pc' := 13) (z := 0) d5_12 rfl rfl ?_
  refine X0.iaload (pc' := 14) (v := (.int (P 0))) Va (own_il (z := (0 : Int32)) (j := 0) rfl (by omega)) (own_tn_at (z := (0 : Int32)) (j := 0) rfl (by omega)) d5_13 rfl ?_
  refine X0.aloadN (pc' := 15) d5_14 rfl rfl rfl ?_
  refine X0.iloadN (pc' := 16) d5_15 rfl rfl ?_
  refine X0.iaload (pc' := 17) (v := (.int (P 2))) Va (own_il (z := (2 : Int32)) (j := 2) rfl (by omega)) (own_tn_at (z := (2 : Int32)) (j := 2) rfl (by omega)) d5_16 rfl ?_
  by_cases hc1 : (P 0) = (P 2)
  · refine X0.icmpNo (pc' := 20) d5_17 (teq hc1).2 rfl ?_
    refine X0.iloadN (pc' := 21) d5_20 rfl rfl ?_
    refine X0.iconst (pc' := 22) (z := 2) d5_21 rfl rfl ?_
    refine X0.icmpNo (pc' := 25) d5_22 (by decide) rfl ?_
    refine X0.aloadN (pc' := 26) d5_25 rfl rfl rfl ?_
    refine X0.iconst (pc' := 27) (z := 1) d5_26 rfl rfl ?_
    refine X0.iaload (pc' := 28) (v := (.int (P 1))) Va (own_il (z := (1 : Int32)) (j := 1) rfl (by omega)) (own_tn_at (z := (1 : Int32)) (j := 1) rfl (by omega)) d5_27 rfl ?_
    refine X0.aloadN (pc' := 29) d5_28 rfl rfl rfl ?_
    refine X0.iloadN (pc' := 30) d5_29 rfl rfl ?_
    refine X0.iconst (pc' := 31) (z := 1) d5_30 rfl rfl ?_
    refine X0.iadd (pc' := 32) d5_31 rfl ?_
    show Runs p e below (T0.setTop (mkF m 32 #[.val (.ref a), .val (.int (3 : Int32)), .val (.int (2 : Int32)), .val (.int (2 : Int32))] [(.int (3 : Int32)), (.ref a), (.int (P 1))])) _
    refine X0.iaload (pc' := 33) (v := (.int (P 3))) Va (own_il (z := (3 : Int32)) (j := 3) rfl (by omega)) (own_tn_at (z := (3 : Int32)) (j := 3) rfl (by omega)) d5_32 rfl ?_
    by_cases hc2 : (P 1) = (P 3)
    · refine X0.icmpNo (pc' := 36) d5_33 (teq hc2).2 rfl ?_
      refine X0.iloadN (pc' := 37) d5_36 rfl rfl ?_
      refine X0.iconst (pc' := 38) (z := 3) d5_37 rfl rfl ?_
      refine X0.icmpYes (pc' := 52) d5_38 (by decide) (by decide) (by decide) ?_
      refine X0.iloadN (pc' := 53) d5_52 rfl rfl ?_
      refine X0.iconst (pc' := 54) (z := 4) d5_53 rfl rfl ?_
      refine X0.icmpYes (pc' := 68) d5_54 (by decide) (by decide) (by decide) ?_
      refine X0.iloadN (pc' := 69) d5_68 rfl rfl ?_
      refine X0.iconst (pc' := 70) (z := 5) d5_69 rfl rfl ?_
      refine X0.icmpYes (pc' := 84) d5_70 (by decide) (by decide) (by decide) ?_
      refine X0.iconst (pc' := 85) (z := 1) d5_84 rfl rfl ?_
      refine X0.goto (pc' := 89) d5_85 (by decide) (by decide) ?_
      exact X0.zreturn (z' := (1 : Int32)) rfl (by simp) d5_89 rfl (by decide) (by decide) ⟨by rw [show own_eqs (own_eqf P) 3 2 = (decide (P 0 = P 2) && (decide (P 1 = P 3) && true)) from rfl]; simp [hc1, hc2], rfl⟩
    · refine X0.icmpYes (pc' := 88) d5_33 (feq hc2).2 (by decide) (by decide) ?_
      refine X0.iconst (pc' := 89) (z := 0) d5_88 rfl rfl ?_
      exact X0.zreturn (z' := (0 : Int32)) rfl (by simp) d5_89 rfl (by decide) (by decide) ⟨by rw [show own_eqs (own_eqf P) 3 2 = (decide (P 0 = P 2) && (decide (P 1 = P 3) && true)) from rfl]; simp [hc1, hc2], rfl⟩
  · refine X0.icmpYes (pc' := 88) d5_17 (feq hc1).2 (by decide) (by decide) ?_
    refine X0.iconst (pc' := 89) (z := 0) d5_88 rfl rfl ?_
    exact X0.zreturn (z' := (0 : Int32)) rfl (by simp) d5_89 rfl (by decide) (by decide) ⟨by rw [show own_eqs (own_eqf P) 3 2 = (decide (P 0 = P 2) && (decide (P 1 = P 3) && true)) from rfl]; simp [hc1], rfl⟩
set_option maxRecDepth 65536 in
set_option maxHeartbeats 40000000 in
theorem ct5_3_3 (l : Launch) (Z : State) (a0 : Array Value) (hw : ∀ d ∈ tables_1, d.before a0 Z = true) (a : Addr) (P : Nat → Int32) (n : Nat) (h0 : Heap) (Va : Lst Z h0 a .int (own_tn n P)) (hn : 3 < n) :
    Ct l Z y5 method_3_code 4 (some .boolean) ({ frames := 0, cells := 0, slots := 0, locals := 0 } : Room) #[(.ref a), (.int (3 : Int32)), (.int (3 : Int32))] h0 [] (fun v h => v = some (.int (if own_eqs (own_eqf P) 3 3 = true then (1 : Int32) else 0)) ∧ h0 = h) := by
  refine Ct.of (plainFor_of_name (by first | (simp [plainName, overriddenIn]; done) | decide +kernel)) ?_
  intro p e s m below meth c T0 X0
  refine Runs.top (g' := mkF m 0 #[.val (.ref a), .val (.int (3 : Int32)), .val (.int (3 : Int32)), .unset] []) (by first | (simp [entryFrame, mkF, argsToLocals, Value.category]; done) | rfl) ?_
  refine X0.iloadN (pc' := 1) d5_0 rfl rfl ?_
  refine X0.iloadN (pc' := 2) d5_1 rfl rfl ?_
  refine X0.isub (pc' := 3) d5_2 rfl ?_
  show Runs p e below (T0.setTop (mkF m 3 #[.val (.ref a), .val (.int (3 : Int32)), .val (.int (3 : Int32)), .unset] [(.int (0 : Int32))])) _
  refine X0.iconst (pc' := 4) (z := 1) d5_3 rfl rfl ?_
  refine X0.iadd (pc' := 5) d5_4 rfl ?_
  show Runs p e below (T0.setTop (mkF m 5 #[.val (.ref a), .val (.int (3 : Int32)), .val (.int (3 : Int32)), .unset] [(.int (1 : Int32))])) _
  refine X0.istoreN (pc' := 6) (l' := #[.val (.ref a), .val (.int (3 : Int32)), .val (.int (3 : Int32)), .val (.int (1 : Int32))]) d5_5 rfl rfl ?_
  refine X0.iloadN (pc' := 7) d5_6 rfl rfl ?_
  refine X0.iconst (pc' := 8) (z := 1) d5_7 rfl rfl ?_
  refine X0.icmpNo (pc' := 11) d5_8 (by decide) rfl ?_
  refine X0.aloadN (pc' := 12) d5_11 rfl rfl rfl ?_
  refine X0.iconst (pc' := 13) (z := 0) d5_12 rfl rfl ?_
  refine X0.iaload (pc' := 14) (v := (.int (P 0))) Va (own_il (z := (0 : Int32)) (j := 0) rfl (by omega)) (own_tn_at (z := (0 : Int32)) (j := 0) rfl (by omega)) d5_13 rfl ?_
  refine X0.aloadN (pc' := 15) d5_14 rfl rfl rfl ?_
  refine X0.iloadN (pc' := 16) d5_15 rfl rfl ?_
  refine X0.iaload (pc' := 17) (v := (.int (P 1))) Va (own_il (z := (1 : Int32)) (j := 1) rfl (by omega)) (own_tn_at (z := (1 : Int32)) (j := 1) rfl (by omega)) d5_16 rfl ?_
  by_cases hc1 : (P 0) = (P 1)
  · refine X0.icmpNo (pc' := 20) d5_17 (teq hc1).2 rfl ?_
    refine X0.iloadN (pc' := 21) d5_20 rfl rfl ?_
    refine X0.iconst (pc' := 22) (z := 2) d5_21 rfl rfl ?_
    refine X0.icmpNo (pc' := 25) d5_22 (by decide) rfl ?_
    refine X0.aloadN (pc' := 26) d5_25 rfl rfl rfl ?_
    refine X0.iconst (pc' := 27) (z := 1) d5_26 rfl rfl ?_
    refine X0.iaload (pc' := 28) (v := (.int (P 1))) Va (own_il (z := (1 : Int32)) (j := 1) rfl (by omega)) (own_tn_at (z := (1 : Int32)) (j := 1) rfl (by omega)) d5_27 rfl ?_
    refine X0.aloadN (pc' := 29) d5_28 rfl rfl rfl ?_
    refine X0.iloadN (pc' := 30) d5_29 rfl rfl ?_
    refine X0.iconst (pc' := 31) (z := 1) d5_30 rfl rfl ?_
    refine X0.iadd (pc' := 32) d5_31 rfl ?_
    show Runs p e below (T0.setTop (mkF m 32 #[.val (.ref a), .val (.int (3 : Int32)), .val (.int (3 : Int32)), .val (.int (1 : Int32))] [(.int (2 : Int32)), (.ref a), (.int (P 1))])) _
    refine X0.iaload (pc' := 33) (v := (.int (P 2))) Va (own_il (z := (2 : Int32)) (j := 2) rfl (by omega)) (own_tn_at (z := (2 : Int32)) (j := 2) rfl (by omega)) d5_32 rfl ?_
    by_cases hc2 : (P 1) = (P 2)
    · refine X0.icmpNo (pc' := 36) d5_33 (teq hc2).2 rfl ?_
      refine X0.iloadN (pc' := 37) d5_36 rfl rfl ?_
      refine X0.iconst (pc' := 38) (z := 3) d5_37 rfl rfl ?_
      refine X0.icmpNo (pc' := 41) d5_38 (by decide) rfl ?_
      refine X0.aloadN (pc' := 42) d5_41 rfl rfl rfl ?_
      refine X0.iconst (pc' := 43) (z := 2) d5_42 rfl rfl ?_
      refine X0.iaload (pc' := 44) (v := (.int (P 2))) Va (own_il (z := (2 : Int32)) (j := 2) rfl (by omega)) (own_tn_at (z := (2 : Int32)) (j := 2) rfl (by omega)) d5_43 rfl ?_
      refine X0.aloadN (pc' := 45) d5_44 rfl rfl rfl ?_
      refine X0.iloadN (pc' := 46) d5_45 rfl rfl ?_
      refine X0.iconst (pc' := 47) (z := 2) d5_46 rfl rfl ?_
      refine X0.iadd (pc' := 48) d5_47 rfl ?_
      show Runs p e below (T0.setTop (mkF m 48 #[.val (.ref a), .val (.int (3 : Int32)), .val (.int (3 : Int32)), .val (.int (1 : Int32))] [(.int (3 : Int32)), (.ref a), (.int (P 2))])) _
      refine X0.iaload (pc' := 49) (v := (.int (P 3))) Va (own_il (z := (3 : Int32)) (j := 3) rfl (by omega)) (own_tn_at (z := (3 : Int32)) (j := 3) rfl (by omega)) d5_48 rfl ?_
      by_cases hc3 : (P 2) = (P 3)
      · refine X0.icmpNo (pc' := 52) d5_49 (teq hc3).2 rfl ?_
        refine X0.iloadN (pc' := 53) d5_52 rfl rfl ?_
        refine X0.iconst (pc' := 54) (z := 4) d5_53 rfl rfl ?_
        refine X0.icmpYes (pc' := 68) d5_54 (by decide) (by decide) (by decide) ?_
        refine X0.iloadN (pc' := 69) d5_68 rfl rfl ?_
        refine X0.iconst (pc' := 70) (z := 5) d5_69 rfl rfl ?_
        refine X0.icmpYes (pc' := 84) d5_70 (by decide) (by decide) (by decide) ?_
        refine X0.iconst (pc' := 85) (z := 1) d5_84 rfl rfl ?_
        refine X0.goto (pc' := 89) d5_85 (by decide) (by decide) ?_
        exact X0.zreturn (z' := (1 : Int32)) rfl (by simp) d5_89 rfl (by decide) (by decide) ⟨by rw [show own_eqs (own_eqf P) 3 3 = (decide (P 0 = P 1) && (decide (P 1 = P 2) && (decide (P 2 = P 3) && true))) from rfl]; simp [hc1, hc2, hc3], rfl⟩
      · refine X0.icmpYes (pc' := 88) d5_49 (feq hc3).2 (by decide) (by decide) ?_
        refine X0.iconst (pc' := 89) (z := 0) d5_88 rfl rfl ?_
        exact X0.zreturn (z' := (0 : Int32)) rfl (by simp) d5_89 rfl (by decide) (by decide) ⟨by rw [show own_eqs (own_eqf P) 3 3 = (decide (P 0 = P 1) && (decide (P 1 = P 2) && (decide (P 2 = P 3) && true))) from rfl]; simp [hc1, hc2, hc3], rfl⟩
    · refine X0.icmpYes (pc' := 88) d5_33 (feq hc2).2 (by decide) (by decide) ?_
      refine X0.iconst (pc' := 89) (z := 0) d5_88 rfl rfl ?_
      exact X0.zreturn (z' := (0 : Int32)) rfl (by simp) d5_89 rfl (by decide) (by decide) ⟨by rw [show own_eqs (own_eqf P) 3 3 = (decide (P 0 = P 1) && (decide (P 1 = P 2) && (decide (P 2 = P 3) && true))) from rfl]; simp [hc1, hc2], rfl⟩
  · refine X0.icmpYes (pc' := 88) d5_17 (feq hc1).2 (by decide) (by decide) ?_
    refine X0.iconst (pc' := 89) (z := 0) d5_88 rfl rfl ?_
    exact X0.zreturn (z' := (0 : Int32)) rfl (by simp) d5_89 rfl (by decide) (by decide) ⟨by rw [show own_eqs (own_eqf P) 3 3 = (decide (P 0 = P 1) && (decide (P 1 = P 2) && (decide (P 2 = P 3) && true))) from rfl]; simp [hc1], rfl⟩
set_option maxRecDepth 65536 in
set_option maxHeartbeats 40000000 in
theorem ct5_4_1 (l : Launch) (Z : State) (a0 : Array Value) (hw : ∀ d ∈ tables_1, d.before a0 Z = true) (a : Addr) (P : Nat → Int32) (n : Nat) (h0 : Heap) (Va : Lst Z h0 a .int (own_tn n P)) (hn : 4 < n) :
    Ct l Z y5 method_3_code 4 (some .boolean) ({ frames := 0, cells := 0, slots := 0, locals := 0 } : Room) #[(.ref a), (.int (4 : Int32)), (.int (1 : Int32))] h0 [] (fun v h => v = some (.int (if own_eqs (own_eqf P) 4 1 = true then (1 : Int32) else 0)) ∧ h0 = h) := by
  refine Ct.of (plainFor_of_name (by first | (simp [plainName, overriddenIn]; done) | decide +kernel)) ?_
  intro p e s m below meth c T0 X0
  refine Runs.top (g' := mkF m 0 #[.val (.ref a), .val (.int (4 : Int32)), .val (.int (1 : Int32)), .unset] []) (by first | (simp [entryFrame, mkF, argsToLocals, Value.category]; done) | rfl) ?_
  refine X0.iloadN (pc' := 1) d5_0 rfl rfl ?_
  refine X0.iloadN (pc' := 2) d5_1 rfl rfl ?_
  refine X0.isub (pc' := 3) d5_2 rfl ?_
  show Runs p e below (T0.setTop (mkF m 3 #[.val (.ref a), .val (.int (4 : Int32)), .val (.int (1 : Int32)), .unset] [(.int (3 : Int32))])) _
  refine X0.iconst (pc' := 4) (z := 1) d5_3 rfl rfl ?_
  refine X0.iadd (pc' := 5) d5_4 rfl ?_
  show Runs p e below (T0.setTop (mkF m 5 #[.val (.ref a), .val (.int (4 : Int32)), .val (.int (1 : Int32)), .unset] [(.int (4 : Int32))])) _
  refine X0.istoreN (pc' := 6) (l' := #[.val (.ref a), .val (.int (4 : Int32)), .val (.int (1 : Int32)), .val (.int (4 : Int32))]) d5_5 rfl rfl ?_
  refine X0.iloadN (pc' := 7) d5_6 rfl rfl ?_
  refine X0.iconst (pc' := 8) (z := 1) d5_7 rfl rfl ?_
  refine X0.icmpNo (pc' := 11) d5_8 (by decide) rfl ?_
  refine X0.aloadN (pc' := 12) d5_11 rfl rfl rfl ?_
  refine X0.iconst (pc' := 13) (z := 0) d5_12 rfl rfl ?_
  refine X0.iaload (pc' := 14) (v := (.int (P 0))) Va (own_il (z := (0 : Int32)) (j := 0) rfl (by omega)) (own_tn_at (z := (0 : Int32)) (j := 0) rfl (by omega)) d5_13 rfl ?_
  refine X0.aloadN (pc' := 15) d5_14 rfl rfl rfl ?_
  refine X0.iloadN (pc' := 16) d5_15 rfl rfl ?_
  refine X0.iaload (pc' := 17) (v := (.int (P 4))) Va (own_il (z := (4 : Int32)) (j := 4) rfl (by omega)) (own_tn_at (z := (4 : Int32)) (j := 4) rfl (by omega)) d5_16 rfl ?_
  by_cases hc1 : (P 0) = (P 4)
  · refine X0.icmpNo (pc' := 20) d5_17 (teq hc1).2 rfl ?_
    refine X0.iloadN (pc' := 21) d5_20 rfl rfl ?_
    refine X0.iconst (pc' := 22) (z := 2) d5_21 rfl rfl ?_
    refine X0.icmpYes (pc' := 36) d5_22 (by decide) (by decide) (by decide) ?_
    refine X0.iloadN (pc' := 37) d5_36 rfl rfl ?_
    refine X0.iconst (pc' := 38) (z := 3) d5_37 rfl rfl ?_
    refine X0.icmpYes (pc' := 52) d5_38 (by decide) (by decide) (by decide) ?_
    refine X0.iloadN (pc' := 53) d5_52 rfl rfl ?_
    refine X0.iconst (pc' := 54) (z := 4) d5_53 rfl rfl ?_
    refine X0.icmpYes (pc' := 68) d5_54 (by decide) (by decide) (by decide) ?_
    refine X0.iloadN (pc' := 69) d5_68 rfl rfl ?_
    refine X0.iconst (pc' := 70) (z := 5) d5_69 rfl rfl ?_
    refine X0.icmpYes (pc' := 84) d5_70 (by decide) (by decide) (by decide) ?_
    refine X0.iconst (pc' := 85) (z := 1) d5_84 rfl rfl ?_
    refine X0.goto (pc' := 89) d5_85 (by decide) (by decide) ?_
    exact X0.zreturn (z' := (1 : Int32)) rfl (by simp) d5_89 rfl (by decide) (by decide) ⟨by rw [show own_eqs (own_eqf P) 4 1 = (decide (P 0 = P 4) && true) from rfl]; simp [hc1], rfl⟩
  · refine X0.icmpYes (pc' := 88) d5_17 (feq hc1).2 (by decide) (by decide) ?_
    refine X0.iconst (pc' := 89) (z := 0) d5_88 rfl rfl ?_
    exact X0.zreturn (z' := (0 : Int32)) rfl (by simp) d5_89 rfl (by decide) (by decide) ⟨by rw [show own_eqs (own_eqf P) 4 1 = (decide (P 0 = P 4) && true) from rfl]; simp [hc1], rfl⟩
set_option maxRecDepth 65536 in
set_option maxHeartbeats 40000000 in
theorem ct5_4_2 (l : Launch) (Z : State) (a0 : Array Value) (hw : ∀ d ∈ tables_1, d.before a0 Z = true) (a : Addr) (P : Nat → Int32) (n : Nat) (h0 : Heap) (Va : Lst Z h0 a .int (own_tn n P)) (hn : 4 < n) :
    Ct l Z y5 method_3_code 4 (some .boolean) ({ frames := 0, cells := 0, slots := 0, locals := 0 } : Room) #[(.ref a), (.int (4 : Int32)), (.int (2 : Int32))] h0 [] (fun v h => v = some (.int (if own_eqs (own_eqf P) 4 2 = true then (1 : Int32) else 0)) ∧ h0 = h) := by
  refine Ct.of (plainFor_of_name (by first | (simp [plainName, overriddenIn]; done) | decide +kernel)) ?_
  intro p e s m below meth c T0 X0
  refine Runs.top (g' := mkF m 0 #[.val (.ref a), .val (.int (4 : Int32)), .val (.int (2 : Int32)), .unset] []) (by first | (simp [entryFrame, mkF, argsToLocals, Value.category]; done) | rfl) ?_
  refine X0.iloadN (pc' := 1) d5_0 rfl rfl ?_
  refine X0.iloadN (pc' := 2) d5_1 rfl rfl ?_
  refine X0.isub (pc' := 3) d5_2 rfl ?_
  show Runs p e below (T0.setTop (mkF m 3 #[.val (.ref a), .val (.int (4 : Int32)), .val (.int (2 : Int32)), .unset] [(.int (2 : Int32))])) _
  refine X0.iconst (pc' := 4) (z := 1) d5_3 rfl rfl ?_
  refine X0.iadd (pc' := 5) d5_4 rfl ?_
  show Runs p e below (T0.setTop (mkF m 5 #[.val (.ref a), .val (.int (4 : Int32)), .val (.int (2 : Int32)), .unset] [(.int (3 : Int32))])) _
  refine X0.istoreN (pc' := 6) (l' := #[.val (.ref a), .val (.int (4 : Int32)), .val (.int (2 : Int32)), .val (.int (3 : Int32))]) d5_5 rfl rfl ?_
  refine X0.iloadN (pc' := 7) d5_6 rfl rfl ?_
  refine X0.iconst (pc' := 8) (z := 1) d5_7 rfl rfl ?_
  refine X0.icmpNo (pc' := 11) d5_8 (by decide) rfl ?_
  refine X0.aloadN (pc' := 12) d5_11 rfl rfl rfl ?_
  refine X0.iconst (pc' := 13) (z := 0) d5_12 rfl rfl ?_
  refine X0.iaload (pc' := 14) (v := (.int (P 0))) Va (own_il (z := (0 : Int32)) (j := 0) rfl (by omega)) (own_tn_at (z := (0 : Int32)) (j := 0) rfl (by omega)) d5_13 rfl ?_
  refine X0.aloadN (pc' := 15) d5_14 rfl rfl rfl ?_
  refine X0.iloadN (pc' := 16) d5_15 rfl rfl ?_
  refine X0.iaload (pc' := 17) (v := (.int (P 3))) Va (own_il (z := (3 : Int32)) (j := 3) rfl (by omega)) (own_tn_at (z := (3 : Int32)) (j := 3) rfl (by omega)) d5_16 rfl ?_
  by_cases hc1 : (P 0) = (P 3)
  · refine X0.icmpNo (pc' := 20) d5_17 (teq hc1).2 rfl ?_
    refine X0.iloadN (pc' := 21) d5_20 rfl rfl ?_
    refine X0.iconst (pc' := 22) (z := 2) d5_21 rfl rfl ?_
    refine X0.icmpNo (pc' := 25) d5_22 (by decide) rfl ?_
    refine X0.aloadN (pc' := 26) d5_25 rfl rfl rfl ?_
    refine X0.iconst (pc' := 27) (z := 1) d5_26 rfl rfl ?_
    refine X0.iaload (pc' := 28) (v := (.int (P 1))) Va (own_il (z := (1 : Int32)) (j := 1) rfl (by omega)) (own_tn_at (z := (1 : Int32)) (j := 1) rfl (by omega)) d5_27 rfl ?_
    refine X0.aloadN (pc' := 29) d5_28 rfl rfl rfl ?_
    refine X0.iloadN (pc' := 30) d5_29 rfl rfl ?_
    refine X0.iconst (pc' := 31) (z := 1) d5_30 rfl rfl ?_
    refine X0.iadd (pc' := 32) d5_31 rfl ?_
    show Runs p e below (T0.setTop (mkF m 32 #[.val (.ref a), .val (.int (4 : Int32)), .val (.int (2 : Int32)), .val (.int (3 : Int32))] [(.int (4 : Int32)), (.ref a), (.int (P 1))])) _
    refine X0.iaload (pc' := 33) (v := (.int (P 4))) Va (own_il (z := (4 : Int32)) (j := 4) rfl (by omega)) (own_tn_at (z := (4 : Int32)) (j := 4) rfl (by omega)) d5_32 rfl ?_
    by_cases hc2 : (P 1) = (P 4)
    · refine X0.icmpNo (pc' := 36) d5_33 (teq hc2).2 rfl ?_
      refine X0.iloadN (pc' := 37) d5_36 rfl rfl ?_
      refine X0.iconst (pc' := 38) (z := 3) d5_37 rfl rfl ?_
      refine X0.icmpYes (pc' := 52) d5_38 (by decide) (by decide) (by decide) ?_
      refine X0.iloadN (pc' := 53) d5_52 rfl rfl ?_
      refine X0.iconst (pc' := 54) (z := 4) d5_53 rfl rfl ?_
      refine X0.icmpYes (pc' := 68) d5_54 (by decide) (by decide) (by decide) ?_
      refine X0.iloadN (pc' := 69) d5_68 rfl rfl ?_
      refine X0.iconst (pc' := 70) (z := 5) d5_69 rfl rfl ?_
      refine X0.icmpYes (pc' := 84) d5_70 (by decide) (by decide) (by decide) ?_
      refine X0.iconst (pc' := 85) (z := 1) d5_84 rfl rfl ?_
      refine X0.goto (pc' := 89) d5_85 (by decide) (by decide) ?_
      exact X0.zreturn (z' := (1 : Int32)) rfl (by simp) d5_89 rfl (by decide) (by decide) ⟨by rw [show own_eqs (own_eqf P) 4 2 = (decide (P 0 = P 3) && (decide (P 1 = P 4) && true)) from rfl]; simp [hc1, hc2], rfl⟩
    · refine X0.icmpYes (pc' := 88) d5_33 (feq hc2).2 (by decide) (by decide) ?_
      refine X0.iconst (pc' := 89) (z := 0) d5_88 rfl rfl ?_
      exact X0.zreturn (z' := (0 : Int32)) rfl (by simp) d5_89 rfl (by decide) (by decide) ⟨by rw [show own_eqs (own_eqf P) 4 2 = (decide (P 0 = P 3) && (decide (P 1 = P 4) && true)) from rfl]; simp [hc1, hc2], rfl⟩
  · refine X0.icmpYes (pc' := 88) d5_17 (feq hc1).2 (by decide) (by decide) ?_
    refine X0.iconst (pc' := 89) (z := 0) d5_88 rfl rfl ?_
    exact X0.zreturn (z' := (0 : Int32)) rfl (by simp) d5_89 rfl (by decide) (by decide) ⟨by rw [show own_eqs (own_eqf P) 4 2 = (decide (P 0 = P 3) && (decide (P 1 = P 4) && true)) from rfl]; simp [hc1], rfl⟩
set_option maxRecDepth 65536 in
set_option maxHeartbeats 40000000 in
theorem ct5_4_3 (l : Launch) (Z : State) (a0 : Array Value) (hw : ∀ d ∈ tables_1, d.before a0 Z = true) (a : Addr) (P : Nat → Int32) (n : Nat) (h0 : Heap) (Va : Lst Z h0 a .int (own_tn n P)) (hn : 4 < n) :
    Ct l Z y5 method_3_code 4 (some .boolean) ({ frames := 0, cells := 0, slots := 0, locals := 0 } : Room) #[(.ref a), (.int (4 : Int32)), (.int (3 : Int32))] h0 [] (fun v h => v = some (.int (if own_eqs (own_eqf P) 4 3 = true then (1 : Int32) else 0)) ∧ h0 = h) := by
  refine Ct.of (plainFor_of_name (by first | (simp [plainName, overriddenIn]; done) | decide +kernel)) ?_
  intro p e s m below meth c T0 X0
  refine Runs.top (g' := mkF m 0 #[.val (.ref a), .val (.int (4 : Int32)), .val (.int (3 : Int32)), .unset] []) (by first | (simp [entryFrame, mkF, argsToLocals, Value.category]; done) | rfl) ?_
  refine X0.iloadN (pc' := 1) d5_0 rfl rfl ?_
  refine X0.iloadN (pc' := 2) d5_1 rfl rfl ?_
  refine X0.isub (pc' := 3) d5_2 rfl ?_
  show Runs p e below (T0.setTop (mkF m 3 #[.val (.ref a), .val (.int (4 : Int32)), .val (.int (3 : Int32)), .unset] [(.int (1 : Int32))])) _
  refine X0.iconst (pc' := 4) (z := 1) d5_3 rfl rfl ?_
  refine X0.iadd (pc' := 5) d5_4 rfl ?_
  show Runs p e below (T0.setTop (mkF m 5 #[.val (.ref a), .val (.int (4 : Int32)), .val (.int (3 : Int32)), .unset] [(.int (2 : Int32))])) _
  refine X0.istoreN (pc' := 6) (l' := #[.val (.ref a), .val (.int (4 : Int32)), .val (.int (3 : Int32)), .val (.int (2 : Int32))]) d5_5 rfl rfl ?_
  refine X0.iloadN (pc' := 7) d5_6 rfl rfl ?_
  refine X0.iconst (pc' := 8) (z := 1) d5_7 rfl rfl ?_
  refine X0.icmpNo (pc' := 11) d5_8 (by decide) rfl ?_
  refine X0.aloadN (pc' := 12) d5_11 rfl rfl rfl ?_
  refine X0.iconst (pc' := 13) (z := 0) d5_12 rfl rfl ?_
  refine X0.iaload (pc' := 14) (v := (.int (P 0))) Va (own_il (z := (0 : Int32)) (j := 0) rfl (by omega)) (own_tn_at (z := (0 : Int32)) (j := 0) rfl (by omega)) d5_13 rfl ?_
  refine X0.aloadN (pc' := 15) d5_14 rfl rfl rfl ?_
  refine X0.iloadN (pc' := 16) d5_15 rfl rfl ?_
  refine X0.iaload (pc' := 17) (v := (.int (P 2))) Va (own_il (z := (2 : Int32)) (j := 2) rfl (by omega)) (own_tn_at (z := (2 : Int32)) (j := 2) rfl (by omega)) d5_16 rfl ?_
  by_cases hc1 : (P 0) = (P 2)
  · refine X0.icmpNo (pc' := 20) d5_17 (teq hc1).2 rfl ?_
    refine X0.iloadN (pc' := 21) d5_20 rfl rfl ?_
    refine X0.iconst (pc' := 22) (z := 2) d5_21 rfl rfl ?_
    refine X0.icmpNo (pc' := 25) d5_22 (by decide) rfl ?_
    refine X0.aloadN (pc' := 26) d5_25 rfl rfl rfl ?_
    refine X0.iconst (pc' := 27) (z := 1) d5_26 rfl rfl ?_
    refine X0.iaload (pc' := 28) (v := (.int (P 1))) Va (own_il (z := (1 : Int32)) (j := 1) rfl (by omega)) (own_tn_at (z := (1 : Int32)) (j := 1) rfl (by omega)) d5_27 rfl ?_
    refine X0.aloadN (pc' := 29) d5_28 rfl rfl rfl ?_
    refine X0.iloadN (pc' := 30) d5_29 rfl rfl ?_
    refine X0.iconst (pc' := 31) (z := 1) d5_30 rfl rfl ?_
    refine X0.iadd (pc' := 32) d5_31 rfl ?_
    show Runs p e below (T0.setTop (mkF m 32 #[.val (.ref a), .val (.int (4 : Int32)), .val (.int (3 : Int32)), .val (.int (2 : Int32))] [(.int (3 : Int32)), (.ref a), (.int (P 1))])) _
    refine X0.iaload (pc' := 33) (v := (.int (P 3))) Va (own_il (z := (3 : Int32)) (j := 3) rfl (by omega)) (own_tn_at (z := (3 : Int32)) (j := 3) rfl (by omega)) d5_32 rfl ?_
    by_cases hc2 : (P 1) = (P 3)
    · refine X0.icmpNo (pc' := 36) d5_33 (teq hc2).2 rfl ?_
      refine X0.iloadN (pc' := 37) d5_36 rfl rfl ?_
      refine X0.iconst (pc' := 38) (z := 3) d5_37 rfl rfl ?_
      refine X0.icmpNo (pc' := 41) d5_38 (by decide) rfl ?_
      refine X0.aloadN (pc' := 42) d5_41 rfl rfl rfl ?_
      refine X0.iconst (pc' := 43) (z := 2) d5_42 rfl rfl ?_
      refine X0.iaload (pc' := 44) (v := (.int (P 2))) Va (own_il (z := (2 : Int32)) (j := 2) rfl (by omega)) (own_tn_at (z := (2 : Int32)) (j := 2) rfl (by omega)) d5_43 rfl ?_
      refine X0.aloadN (pc' := 45) d5_44 rfl rfl rfl ?_
      refine X0.iloadN (pc' := 46) d5_45 rfl rfl ?_
      refine X0.iconst (pc' := 47) (z := 2) d5_46 rfl rfl ?_
      refine X0.iadd (pc' := 48) d5_47 rfl ?_
      show Runs p e below (T0.setTop (mkF m 48 #[.val (.ref a), .val (.int (4 : Int32)), .val (.int (3 : Int32)), .val (.int (2 : Int32))] [(.int (4 : Int32)), (.ref a), (.int (P 2))])) _
      refine X0.iaload (pc' := 49) (v := (.int (P 4))) Va (own_il (z := (4 : Int32)) (j := 4) rfl (by omega)) (own_tn_at (z := (4 : Int32)) (j := 4) rfl (by omega)) d5_48 rfl ?_
      by_cases hc3 : (P 2) = (P 4)
      · refine X0.icmpNo (pc' := 52) d5_49 (teq hc3).2 rfl ?_
        refine X0.iloadN (pc' := 53) d5_52 rfl rfl ?_
        refine X0.iconst (pc' := 54) (z := 4) d5_53 rfl rfl ?_
        refine X0.icmpYes (pc' := 68) d5_54 (by decide) (by decide) (by decide) ?_
        refine X0.iloadN (pc' := 69) d5_68 rfl rfl ?_
        refine X0.iconst (pc' := 70) (z := 5) d5_69 rfl rfl ?_
        refine X0.icmpYes (pc' := 84) d5_70 (by decide) (by decide) (by decide) ?_
        refine X0.iconst (pc' := 85) (z := 1) d5_84 rfl rfl ?_
        refine X0.goto (pc' := 89) d5_85 (by decide) (by decide) ?_
        exact X0.zreturn (z' := (1 : Int32)) rfl (by simp) d5_89 rfl (by decide) (by decide) ⟨by rw [show own_eqs (own_eqf P) 4 3 = (decide (P 0 = P 2) && (decide (P 1 = P 3) && (decide (P 2 = P 4) && true))) from rfl]; simp [hc1, hc2, hc3], rfl⟩
      · refine X0.icmpYes (pc' := 88) d5_49 (feq hc3).2 (by decide) (by decide) ?_
        refine X0.iconst (pc' := 89) (z := 0) d5_88 rfl rfl ?_
        exact X0.zreturn (z' := (0 : Int32)) rfl (by simp) d5_89 rfl (by decide) (by decide) ⟨by rw [show own_eqs (own_eqf P) 4 3 = (decide (P 0 = P 2) && (decide (P 1 = P 3) && (decide (P 2 = P 4) && true))) from rfl]; simp [hc1, hc2, hc3], rfl⟩
    · refine X0.icmpYes (pc' := 88) d5_33 (feq hc2).2 (by decide) (by decide) ?_
      refine X0.iconst (pc' := 89) (z := 0) d5_88 rfl rfl ?_
      exact X0.zreturn (z' := (0 : Int32)) rfl (by simp) d5_89 rfl (by decide) (by decide) ⟨by rw [show own_eqs (own_eqf P) 4 3 = (decide (P 0 = P 2) && (decide (P 1 = P 3) && (decide (P 2 = P 4) && true))) from rfl]; simp [hc1, hc2], rfl⟩
  · refine X0.icmpYes (pc' := 88) d5_17 (feq hc1).2 (by decide) (by decide) ?_
    refine X0.iconst (pc' := 89) (z := 0) d5_88 rfl rfl ?_
    exact X0.zreturn (z' := (0 : Int32)) rfl (by simp) d5_89 rfl (by decide) (by decide) ⟨by rw [show own_eqs (own_eqf P) 4 3 = (decide (P 0 = P 2) && (decide (P 1 = P 3) && (decide (P 2 = P 4) && true))) from rfl]; simp [hc1], rfl⟩
set_option maxRecDepth 65536 in
set_option maxHeartbeats 40000000 in
theorem ct5_4_4 (l : Launch) (Z : State) (a0 : Array Value) (hw : ∀ d ∈ tables_1, d.before a0 Z = true) (a : Addr) (P : Nat → Int32) (n : Nat) (h0 : Heap) (Va : Lst Z h0 a .int (own_tn n P)) (hn : 4 < n) :
    Ct l Z y5 method_3_code 4 (some .boolean) ({ frames := 0, cells := 0, slots := 0, locals := 0 } : Room) #[(.ref a), (.int (4 : Int32)), (.int (4 : Int32))] h0 [] (fun v h => v = some (.int (if own_eqs (own_eqf P) 4 4 = true then (1 : Int32) else 0)) ∧ h0 = h) := by
  refine Ct.of (plainFor_of_name (by first | (simp [plainName, overriddenIn]; done) | decide +kernel)) ?_
  intro p e s m below meth c T0 X0
  refine Runs.top (g' := mkF m 0 #[.val (.ref a), .val (.int (4 : Int32)), .val (.int (4 : Int32)), .unset] []) (by first | (simp [entryFrame, mkF, argsToLocals, Value.category]; done) | rfl) ?_
  refine X0.iloadN (pc' := 1) d5_0 rfl rfl ?_
  refine X0.iloadN (pc' := 2) d5_1 rfl rfl ?_
  refine X0.isub (pc' := 3) d5_2 rfl ?_
  show Runs p e below (T0.setTop (mkF m 3 #[.val (.ref a), .val (.int (4 : Int32)), .val (.int (4 : Int32)), .unset] [(.int (0 : Int32))])) _
  refine X0.iconst (pc' := 4) (z := 1) d5_3 rfl rfl ?_
  refine X0.iadd (pc' := 5) d5_4 rfl ?_
  show Runs p e below (T0.setTop (mkF m 5 #[.val (.ref a), .val (.int (4 : Int32)), .val (.int (4 : Int32)), .unset] [(.int (1 : Int32))])) _
  refine X0.istoreN (pc' := 6) (l' := #[.val (.ref a), .val (.int (4 : Int32)), .val (.int (4 : Int32)), .val (.int (1 : Int32))]) d5_5 rfl rfl ?_
  refine X0.iloadN (pc' := 7) d5_6 rfl rfl ?_
  refine X0.iconst (pc' := 8) (z := 1) d5_7 rfl rfl ?_
  refine X0.icmpNo (pc' := 11) d5_8 (by decide) rfl ?_
  refine X0.aloadN (pc' := 12) d5_11 rfl rfl rfl ?_
  refine X0.iconst (pc' := 13) (z := 0) d5_12 rfl rfl ?_
  refine X0.iaload (pc' := 14) (v := (.int (P 0))) Va (own_il (z := (0 : Int32)) (j := 0) rfl (by omega)) (own_tn_at (z := (0 : Int32)) (j := 0) rfl (by omega)) d5_13 rfl ?_
  refine X0.aloadN (pc' := 15) d5_14 rfl rfl rfl ?_
  refine X0.iloadN (pc' := 16) d5_15 rfl rfl ?_
  refine X0.iaload (pc' := 17) (v := (.int (P 1))) Va (own_il (z := (1 : Int32)) (j := 1) rfl (by omega)) (own_tn_at (z := (1 : Int32)) (j := 1) rfl (by omega)) d5_16 rfl ?_
  by_cases hc1 : (P 0) = (P 1)
  · refine X0.icmpNo (pc' := 20) d5_17 (teq hc1).2 rfl ?_
    refine X0.iloadN (pc' := 21) d5_20 rfl rfl ?_
    refine X0.iconst (pc' := 22) (z := 2) d5_21 rfl rfl ?_
    refine X0.icmpNo (pc' := 25) d5_22 (by decide) rfl ?_
    refine X0.aloadN (pc' := 26) d5_25 rfl rfl rfl ?_
    refine X0.iconst (pc' := 27) (z := 1) d5_26 rfl rfl ?_
    refine X0.iaload (pc' := 28) (v := (.int (P 1))) Va (own_il (z := (1 : Int32)) (j := 1) rfl (by omega)) (own_tn_at (z := (1 : Int32)) (j := 1) rfl (by omega)) d5_27 rfl ?_
    refine X0.aloadN (pc' := 29) d5_28 rfl rfl rfl ?_
    refine X0.iloadN (pc' := 30) d5_29 rfl rfl ?_
    refine X0.iconst (pc' := 31) (z := 1) d5_30 rfl rfl ?_
    refine X0.iadd (pc' := 32) d5_31 rfl ?_
    show Runs p e below (T0.setTop (mkF m 32 #[.val (.ref a), .val (.int (4 : Int32)), .val (.int (4 : Int32)), .val (.int (1 : Int32))] [(.int (2 : Int32)), (.ref a), (.int (P 1))])) _
    refine X0.iaload (pc' := 33) (v := (.int (P 2))) Va (own_il (z := (2 : Int32)) (j := 2) rfl (by omega)) (own_tn_at (z := (2 : Int32)) (j := 2) rfl (by omega)) d5_32 rfl ?_
    by_cases hc2 : (P 1) = (P 2)
    · refine X0.icmpNo (pc' := 36) d5_33 (teq hc2).2 rfl ?_
      refine X0.iloadN (pc' := 37) d5_36 rfl rfl ?_
      refine X0.iconst (pc' := 38) (z := 3) d5_37 rfl rfl ?_
      refine X0.icmpNo (pc' := 41) d5_38 (by decide) rfl ?_
      refine X0.aloadN (pc' := 42) d5_41 rfl rfl rfl ?_
      refine X0.iconst (pc' := 43) (z := 2) d5_42 rfl rfl ?_
      refine X0.iaload (pc' := 44) (v := (.int (P 2))) Va (own_il (z := (2 : Int32)) (j := 2) rfl (by omega)) (own_tn_at (z := (2 : Int32)) (j := 2) rfl (by omega)) d5_43 rfl ?_
      refine X0.aloadN (pc' := 45) d5_44 rfl rfl rfl ?_
      refine X0.iloadN (pc' := 46) d5_45 rfl rfl ?_
      refine X0.iconst (pc' := 47) (z := 2) d5_46 rfl rfl ?_
      refine X0.iadd (pc' := 48) d5_47 rfl ?_
      show Runs p e below (T0.setTop (mkF m 48 #[.val (.ref a), .val (.int (4 : Int32)), .val (.int (4 : Int32)), .val (.int (1 : Int32))] [(.int (3 : Int32)), (.ref a), (.int (P 2))])) _
      refine X0.iaload (pc' := 49) (v := (.int (P 3))) Va (own_il (z := (3 : Int32)) (j := 3) rfl (by omega)) (own_tn_at (z := (3 : Int32)) (j := 3) rfl (by omega)) d5_48 rfl ?_
      by_cases hc3 : (P 2) = (P 3)
      · refine X0.icmpNo (pc' := 52) d5_49 (teq hc3).2 rfl ?_
        refine X0.iloadN (pc' := 53) d5_52 rfl rfl ?_
        refine X0.iconst (pc' := 54) (z := 4) d5_53 rfl rfl ?_
        refine X0.icmpNo (pc' := 57) d5_54 (by decide) rfl ?_
        refine X0.aloadN (pc' := 58) d5_57 rfl rfl rfl ?_
        refine X0.iconst (pc' := 59) (z := 3) d5_58 rfl rfl ?_
        refine X0.iaload (pc' := 60) (v := (.int (P 3))) Va (own_il (z := (3 : Int32)) (j := 3) rfl (by omega)) (own_tn_at (z := (3 : Int32)) (j := 3) rfl (by omega)) d5_59 rfl ?_
        refine X0.aloadN (pc' := 61) d5_60 rfl rfl rfl ?_
        refine X0.iloadN (pc' := 62) d5_61 rfl rfl ?_
        refine X0.iconst (pc' := 63) (z := 3) d5_62 rfl rfl ?_
        refine X0.iadd (pc' := 64) d5_63 rfl ?_
        show Runs p e below (T0.setTop (mkF m 64 #[.val (.ref a), .val (.int (4 : Int32)), .val (.int (4 : Int32)), .val (.int (1 : Int32))] [(.int (4 : Int32)), (.ref a), (.int (P 3))])) _
        refine X0.iaload (pc' := 65) (v := (.int (P 4))) Va (own_il (z := (4 : Int32)) (j := 4) rfl (by omega)) (own_tn_at (z := (4 : Int32)) (j := 4) rfl (by omega)) d5_64 rfl ?_
        by_cases hc4 : (P 3) = (P 4)
        · refine X0.icmpNo (pc' := 68) d5_65 (teq hc4).2 rfl ?_
          refine X0.iloadN (pc' := 69) d5_68 rfl rfl ?_
          refine X0.iconst (pc' := 70) (z := 5) d5_69 rfl rfl ?_
          refine X0.icmpYes (pc' := 84) d5_70 (by decide) (by decide) (by decide) ?_
          refine X0.iconst (pc' := 85) (z := 1) d5_84 rfl rfl ?_
          refine X0.goto (pc' := 89) d5_85 (by decide) (by decide) ?_
          exact X0.zreturn (z' := (1 : Int32)) rfl (by simp) d5_89 rfl (by decide) (by decide) ⟨by rw [show own_eqs (own_eqf P) 4 4 = (decide (P 0 = P 1) && (decide (P 1 = P 2) && (decide (P 2 = P 3) && (decide (P 3 = P 4) && true)))) from rfl]; simp [hc1, hc2, hc3, hc4], rfl⟩
        · refine X0.icmpYes (pc' := 88) d5_65 (feq hc4).2 (by decide) (by decide) ?_
          refine X0.iconst (pc' := 89) (z := 0) d5_88 rfl rfl ?_
          exact X0.zreturn (z' := (0 : Int32)) rfl (by simp) d5_89 rfl (by decide) (by decide) ⟨by rw [show own_eqs (own_eqf P) 4 4 = (decide (P 0 = P 1) && (decide (P 1 = P 2) && (decide (P 2 = P 3) && (decide (P 3 = P 4) && true)))) from rfl]; simp [hc1, hc2, hc3, hc4], rfl⟩
      · refine X0.icmpYes (pc' := 88) d5_49 (feq hc3).2 (by decide) (by decide) ?_
        refine X0.iconst (pc' := 89) (z := 0) d5_88 rfl rfl ?_
        exact X0.zreturn (z' := (0 : Int32)) rfl (by simp) d5_89 rfl (by decide) (by decide) ⟨by rw [show own_eqs (own_eqf P) 4 4 = (decide (P 0 = P 1) && (decide (P 1 = P 2) && (decide (P 2 = P 3) && (decide (P 3 = P 4) && true)))) from rfl]; simp [hc1, hc2, hc3], rfl⟩
    · refine X0.icmpYes (pc' := 88) d5_33 (feq hc2).2 (by decide) (by decide) ?_
      refine X0.iconst (pc' := 89) (z := 0) d5_88 rfl rfl ?_
      exact X0.zreturn (z' := (0 : Int32)) rfl (by simp) d5_89 rfl (by decide) (by decide) ⟨by rw [show own_eqs (own_eqf P) 4 4 = (decide (P 0 = P 1) && (decide (P 1 = P 2) && (decide (P 2 = P 3) && (decide (P 3 = P 4) && true)))) from rfl]; simp [hc1, hc2], rfl⟩
  · refine X0.icmpYes (pc' := 88) d5_17 (feq hc1).2 (by decide) (by decide) ?_
    refine X0.iconst (pc' := 89) (z := 0) d5_88 rfl rfl ?_
    exact X0.zreturn (z' := (0 : Int32)) rfl (by simp) d5_89 rfl (by decide) (by decide) ⟨by rw [show own_eqs (own_eqf P) 4 4 = (decide (P 0 = P 1) && (decide (P 1 = P 2) && (decide (P 2 = P 3) && (decide (P 3 = P 4) && true)))) from rfl]; simp [hc1], rfl⟩
set_option maxRecDepth 65536 in
set_option maxHeartbeats 40000000 in
theorem ct5_5_1 (l : Launch) (Z : State) (a0 : Array Value) (hw : ∀ d ∈ tables_1, d.before a0 Z = true) (a : Addr) (P : Nat → Int32) (n : Nat) (h0 : Heap) (Va : Lst Z h0 a .int (own_tn n P)) (hn : 5 < n) :
    Ct l Z y5 method_3_code 4 (some .boolean) ({ frames := 0, cells := 0, slots := 0, locals := 0 } : Room) #[(.ref a), (.int (5 : Int32)), (.int (1 : Int32))] h0 [] (fun v h => v = some (.int (if own_eqs (own_eqf P) 5 1 = true then (1 : Int32) else 0)) ∧ h0 = h) := by
  refine Ct.of (plainFor_of_name (by first | (simp [plainName, overriddenIn]; done) | decide +kernel)) ?_
  intro p e s m below meth c T0 X0
  refine Runs.top (g' := mkF m 0 #[.val (.ref a), .val (.int (5 : Int32)), .val (.int (1 : Int32)), .unset] []) (by first | (simp [entryFrame, mkF, argsToLocals, Value.category]; done) | rfl) ?_
  refine X0.iloadN (pc' := 1) d5_0 rfl rfl ?_
  refine X0.iloadN (pc' := 2) d5_1 rfl rfl ?_
  refine X0.isub (pc' := 3) d5_2 rfl ?_
  show Runs p e below (T0.setTop (mkF m 3 #[.val (.ref a), .val (.int (5 : Int32)), .val (.int (1 : Int32)), .unset] [(.int (4 : Int32))])) _
  refine X0.iconst (pc' := 4) (z := 1) d5_3 rfl rfl ?_
  refine X0.iadd (pc' := 5) d5_4 rfl ?_
  show Runs p e below (T0.setTop (mkF m 5 #[.val (.ref a), .val (.int (5 : Int32)), .val (.int (1 : Int32)), .unset] [(.int (5 : Int32))])) _
  refine X0.istoreN (pc' := 6) (l' := #[.val (.ref a), .val (.int (5 : Int32)), .val (.int (1 : Int32)), .val (.int (5 : Int32))]) d5_5 rfl rfl ?_
  refine X0.iloadN (pc' := 7) d5_6 rfl rfl ?_
  refine X0.iconst (pc' := 8) (z := 1) d5_7 rfl rfl ?_
  refine X0.icmpNo (pc' := 11) d5_8 (by decide) rfl ?_
  refine X0.aloadN (pc' := 12) d5_11 rfl rfl rfl ?_
  refine X0.iconst (pc' := 13) (z := 0) d5_12 rfl rfl ?_
  refine X0.iaload (pc' := 14) (v := (.int (P 0))) Va (own_il (z := (0 : Int32)) (j := 0) rfl (by omega)) (own_tn_at (z := (0 : Int32)) (j := 0) rfl (by omega)) d5_13 rfl ?_
  refine X0.aloadN (pc' := 15) d5_14 rfl rfl rfl ?_
  refine X0.iloadN (pc' := 16) d5_15 rfl rfl ?_
  refine X0.iaload (pc' := 17) (v := (.int (P 5))) Va (own_il (z := (5 : Int32)) (j := 5) rfl (by omega)) (own_tn_at (z := (5 : Int32)) (j := 5) rfl (by omega)) d5_16 rfl ?_
  by_cases hc1 : (P 0) = (P 5)
  · refine X0.icmpNo (pc' := 20) d5_17 (teq hc1).2 rfl ?_
    refine X0.iloadN (pc' := 21) d5_20 rfl rfl ?_
    refine X0.iconst (pc' := 22) (z := 2) d5_21 rfl rfl ?_
    refine X0.icmpYes (pc' := 36) d5_22 (by decide) (by decide) (by decide) ?_
    refine X0.iloadN (pc' := 37) d5_36 rfl rfl ?_
    refine X0.iconst (pc' := 38) (z := 3) d5_37 rfl rfl ?_
    refine X0.icmpYes (pc' := 52) d5_38 (by decide) (by decide) (by decide) ?_
    refine X0.iloadN (pc' := 53) d5_52 rfl rfl ?_
    refine X0.iconst (pc' := 54) (z := 4) d5_53 rfl rfl ?_
    refine X0.icmpYes (pc' := 68) d5_54 (by decide) (by decide) (by decide) ?_
    refine X0.iloadN (pc' := 69) d5_68 rfl rfl ?_
    refine X0.iconst (pc' := 70) (z := 5) d5_69 rfl rfl ?_
    refine X0.icmpYes (pc' := 84) d5_70 (by decide) (by decide) (by decide) ?_
    refine X0.iconst (pc' := 85) (z := 1) d5_84 rfl rfl ?_
    refine X0.goto (pc' := 89) d5_85 (by decide) (by decide) ?_
    exact X0.zreturn (z' := (1 : Int32)) rfl (by simp) d5_89 rfl (by decide) (by decide) ⟨by rw [show own_eqs (own_eqf P) 5 1 = (decide (P 0 = P 5) && true) from rfl]; simp [hc1], rfl⟩
  · refine X0.icmpYes (pc' := 88) d5_17 (feq hc1).2 (by decide) (by decide) ?_
    refine X0.iconst (pc' := 89) (z := 0) d5_88 rfl rfl ?_
    exact X0.zreturn (z' := (0 : Int32)) rfl (by simp) d5_89 rfl (by decide) (by decide) ⟨by rw [show own_eqs (own_eqf P) 5 1 = (decide (P 0 = P 5) && true) from rfl]; simp [hc1], rfl⟩
set_option maxRecDepth 65536 in
set_option maxHeartbeats 40000000 in
theorem ct5_5_2 (l : Launch) (Z : State) (a0 : Array Value) (hw : ∀ d ∈ tables_1, d.before a0 Z = true) (a : Addr) (P : Nat → Int32) (n : Nat) (h0 : Heap) (Va : Lst Z h0 a .int (own_tn n P)) (hn : 5 < n) :
    Ct l Z y5 method_3_code 4 (some .boolean) ({ frames := 0, cells := 0, slots := 0, locals := 0 } : Room) #[(.ref a), (.int (5 : Int32)), (.int (2 : Int32))] h0 [] (fun v h => v = some (.int (if own_eqs (own_eqf P) 5 2 = true then (1 : Int32) else 0)) ∧ h0 = h) := by
  refine Ct.of (plainFor_of_name (by first | (simp [plainName, overriddenIn]; done) | decide +kernel)) ?_
  intro p e s m below meth c T0 X0
  refine Runs.top (g' := mkF m 0 #[.val (.ref a), .val (.int (5 : Int32)), .val (.int (2 : Int32)), .unset] []) (by first | (simp [entryFrame, mkF, argsToLocals, Value.category]; done) | rfl) ?_
  refine X0.iloadN (pc' := 1) d5_0 rfl rfl ?_
  refine X0.iloadN (pc' := 2) d5_1 rfl rfl ?_
  refine X0.isub (pc' := 3) d5_2 rfl ?_
  show Runs p e below (T0.setTop (mkF m 3 #[.val (.ref a), .val (.int (5 : Int32)), .val (.int (2 : Int32)), .unset] [(.int (3 : Int32))])) _
  refine X0.iconst (pc' := 4) (z := 1) d5_3 rfl rfl ?_
  refine X0.iadd (pc' := 5) d5_4 rfl ?_
  show Runs p e below (T0.setTop (mkF m 5 #[.val (.ref a), .val (.int (5 : Int32)), .val (.int (2 : Int32)), .unset] [(.int (4 : Int32))])) _
  refine X0.istoreN (pc' := 6) (l' := #[.val (.ref a), .val (.int (5 : Int32)), .val (.int (2 : Int32)), .val (.int (4 : Int32))]) d5_5 rfl rfl ?_
  refine X0.iloadN (pc' := 7) d5_6 rfl rfl ?_
  refine X0.iconst (pc' := 8) (z := 1) d5_7 rfl rfl ?_
  refine X0.icmpNo (pc' := 11) d5_8 (by decide) rfl ?_
  refine X0.aloadN (pc' := 12) d5_11 rfl rfl rfl ?_
  refine X0.iconst (pc' := 13) (z := 0) d5_12 rfl rfl ?_
  refine X0.iaload (pc' := 14) (v := (.int (P 0))) Va (own_il (z := (0 : Int32)) (j := 0) rfl (by omega)) (own_tn_at (z := (0 : Int32)) (j := 0) rfl (by omega)) d5_13 rfl ?_
  refine X0.aloadN (pc' := 15) d5_14 rfl rfl rfl ?_
  refine X0.iloadN (pc' := 16) d5_15 rfl rfl ?_
  refine X0.iaload (pc' := 17) (v := (.int (P 4))) Va (own_il (z := (4 : Int32)) (j := 4) rfl (by omega)) (own_tn_at (z := (4 : Int32)) (j := 4) rfl (by omega)) d5_16 rfl ?_
  by_cases hc1 : (P 0) = (P 4)
  · refine X0.icmpNo (pc' := 20) d5_17 (teq hc1).2 rfl ?_
    refine X0.iloadN (pc' := 21) d5_20 rfl rfl ?_
    refine X0.iconst (pc' := 22) (z := 2) d5_21 rfl rfl ?_
    refine X0.icmpNo (pc' := 25) d5_22 (by decide) rfl ?_
    refine X0.aloadN (pc' := 26) d5_25 rfl rfl rfl ?_
    refine X0.iconst (pc' := 27) (z := 1) d5_26 rfl rfl ?_
    refine X0.iaload (pc' := 28) (v := (.int (P 1))) Va (own_il (z := (1 : Int32)) (j := 1) rfl (by omega)) (own_tn_at (z := (1 : Int32)) (j := 1) rfl (by omega)) d5_27 rfl ?_
    refine X0.aloadN (pc' := 29) d5_28 rfl rfl rfl ?_
    refine X0.iloadN (pc' := 30) d5_29 rfl rfl ?_
    refine X0.iconst (pc' := 31) (z := 1) d5_30 rfl rfl ?_
    refine X0.iadd (pc' := 32) d5_31 rfl ?_
    show Runs p e below (T0.setTop (mkF m 32 #[.val (.ref a), .val (.int (5 : Int32)), .val (.int (2 : Int32)), .val (.int (4 : Int32))] [(.int (5 : Int32)), (.ref a), (.int (P 1))])) _
    refine X0.iaload (pc' := 33) (v := (.int (P 5))) Va (own_il (z := (5 : Int32)) (j := 5) rfl (by omega)) (own_tn_at (z := (5 : Int32)) (j := 5) rfl (by omega)) d5_32 rfl ?_
    by_cases hc2 : (P 1) = (P 5)
    · refine X0.icmpNo (pc' := 36) d5_33 (teq hc2).2 rfl ?_
      refine X0.iloadN (pc' := 37) d5_36 rfl rfl ?_
      refine X0.iconst (pc' := 38) (z := 3) d5_37 rfl rfl ?_
      refine X0.icmpYes (pc' := 52) d5_38 (by decide) (by decide) (by decide) ?_
      refine X0.iloadN (pc' := 53) d5_52 rfl rfl ?_
      refine X0.iconst (pc' := 54) (z := 4) d5_53 rfl rfl ?_
      refine X0.icmpYes (pc' := 68) d5_54 (by decide) (by decide) (by decide) ?_
      refine X0.iloadN (pc' := 69) d5_68 rfl rfl ?_
      refine X0.iconst (pc' := 70) (z := 5) d5_69 rfl rfl ?_
      refine X0.icmpYes (pc' := 84) d5_70 (by decide) (by decide) (by decide) ?_
      refine X0.iconst (pc' := 85) (z := 1) d5_84 rfl rfl ?_
      refine X0.goto (pc' := 89) d5_85 (by decide) (by decide) ?_
      exact X0.zreturn (z' := (1 : Int32)) rfl (by simp) d5_89 rfl (by decide) (by decide) ⟨by rw [show own_eqs (own_eqf P) 5 2 = (decide (P 0 = P 4) && (decide (P 1 = P 5) && true)) from rfl]; simp [hc1, hc2], rfl⟩
    · refine X0.icmpYes (pc' := 88) d5_33 (feq hc2).2 (by decide) (by decide) ?_
      refine X0.iconst (pc' := 89) (z := 0) d5_88 rfl rfl ?_
      exact X0.zreturn (z' := (0 : Int32)) rfl (by simp) d5_89 rfl (by decide) (by decide) ⟨by rw [show own_eqs (own_eqf P) 5 2 = (decide (P 0 = P 4) && (decide (P 1 = P 5) && true)) from rfl]; simp [hc1, hc2], rfl⟩
  · refine X0.icmpYes (pc' := 88) d5_17 (feq hc1).2 (by decide) (by decide) ?_
    refine X0.iconst (pc' := 89) (z := 0) d5_88 rfl rfl ?_
    exact X0.zreturn (z' := (0 : Int32)) rfl (by simp) d5_89 rfl (by decide) (by decide) ⟨by rw [show own_eqs (own_eqf P) 5 2 = (decide (P 0 = P 4) && (decide (P 1 = P 5) && true)) from rfl]; simp [hc1], rfl⟩
set_option maxRecDepth 65536 in
set_option maxHeartbeats 40000000 in
theorem ct5_5_3 (l : Launch) (Z : State) (a0 : Array Value) (hw : ∀ d ∈ tables_1, d.before a0 Z = true) (a : Addr) (P : Nat → Int32) (n : Nat) (h0 : Heap) (Va : Lst Z h0 a .int (own_tn n P)) (hn : 5 < n) :
    Ct l Z y5 method_3_code 4 (some .boolean) ({ frames := 0, cells := 0, slots := 0, locals := 0 } : Room) #[(.ref a), (.int (5 : Int32)), (.int (3 : Int32))] h0 [] (fun v h => v = some (.int (if own_eqs (own_eqf P) 5 3 = true then (1 : Int32) else 0)) ∧ h0 = h) := by
  refine Ct.of (plainFor_of_name (by first | (simp [plainName, overriddenIn]; done) | decide +kernel)) ?_
  intro p e s m below meth c T0 X0
  refine Runs.top (g' := mkF m 0 #[.val (.ref a), .val (.int (5 : Int32)), .val (.int (3 : Int32)), .unset] []) (by first | (simp [entryFrame, mkF, argsToLocals, Value.category]; done) | rfl) ?_
  refine X0.iloadN (pc' := 1) d5_0 rfl rfl ?_
  refine X0.iloadN (pc' := 2) d5_1 rfl rfl ?_
  refine X0.isub (pc' := 3) d5_2 rfl ?_
  show Runs p e below (T0.setTop (mkF m 3 #[.val (.ref a), .val (.int (5 : Int32)), .val (.int (3 : Int32)), .unset] [(.int (2 : Int32))])) _
  refine X0.iconst (pc' := 4) (z := 1) d5_3 rfl rfl ?_
  refine X0.iadd (pc' := 5) d5_4 rfl ?_
  show Runs p e below (T0.setTop (mkF m 5 #[.val (.ref a), .val (.int (5 : Int32)), .val (.int (3 : Int32)), .unset] [(.int (3 : Int32))])) _
  refine X0.istoreN (pc' := 6) (l' := #[.val (.ref a), .val (.int (5 : Int32)), .val (.int (3 : Int32)), .val (.int (3 : Int32))]) d5_5 rfl rfl ?_
  refine X0.iloadN (pc' := 7) d5_6 rfl rfl ?_
  refine X0.iconst (pc' := 8) (z := 1) d5_7 rfl rfl ?_
  refine X0.icmpNo (pc' := 11) d5_8 (by decide) rfl ?_
  refine X0.aloadN (pc' := 12) d5_11 rfl rfl rfl ?_
  refine X0.iconst (pc' := 13) (z := 0) d5_12 rfl rfl ?_
  refine X0.iaload (pc' := 14) (v := (.int (P 0))) Va (own_il (z := (0 : Int32)) (j := 0) rfl (by omega)) (own_tn_at (z := (0 : Int32)) (j := 0) rfl (by omega)) d5_13 rfl ?_
  refine X0.aloadN (pc' := 15) d5_14 rfl rfl rfl ?_
  refine X0.iloadN (pc' := 16) d5_15 rfl rfl ?_
  refine X0.iaload (pc' := 17) (v := (.int (P 3))) Va (own_il (z := (3 : Int32)) (j := 3) rfl (by omega)) (own_tn_at (z := (3 : Int32)) (j := 3) rfl (by omega)) d5_16 rfl ?_
  by_cases hc1 : (P 0) = (P 3)
  · refine X0.icmpNo (pc' := 20) d5_17 (teq hc1).2 rfl ?_
    refine X0.iloadN (pc' := 21) d5_20 rfl rfl ?_
    refine X0.iconst (pc' := 22) (z := 2) d5_21 rfl rfl ?_
    refine X0.icmpNo (pc' := 25) d5_22 (by decide) rfl ?_
    refine X0.aloadN (pc' := 26) d5_25 rfl rfl rfl ?_
    refine X0.iconst (pc' := 27) (z := 1) d5_26 rfl rfl ?_
    refine X0.iaload (pc' := 28) (v := (.int (P 1))) Va (own_il (z := (1 : Int32)) (j := 1) rfl (by omega)) (own_tn_at (z := (1 : Int32)) (j := 1) rfl (by omega)) d5_27 rfl ?_
    refine X0.aloadN (pc' := 29) d5_28 rfl rfl rfl ?_
    refine X0.iloadN (pc' := 30) d5_29 rfl rfl ?_
    refine X0.iconst (pc' := 31) (z := 1) d5_30 rfl rfl ?_
    refine X0.iadd (pc' := 32) d5_31 rfl ?_
    show Runs p e below (T0.setTop (mkF m 32 #[.val (.ref a), .val (.int (5 : Int32)), .val (.int (3 : Int32)), .val (.int (3 : Int32))] [(.int (4 : Int32)), (.ref a), (.int (P 1))])) _
    refine X0.iaload (pc' := 33) (v := (.int (P 4))) Va (own_il (z := (4 : Int32)) (j := 4) rfl (by omega)) (own_tn_at (z := (4 : Int32)) (j := 4) rfl (by omega)) d5_32 rfl ?_
    by_cases hc2 : (P 1) = (P 4)
    · refine X0.icmpNo (pc' := 36) d5_33 (teq hc2).2 rfl ?_
      refine X0.iloadN (pc' := 37) d5_36 rfl rfl ?_
      refine X0.iconst (pc' := 38) (z := 3) d5_37 rfl rfl ?_
      refine X0.icmpNo (pc' := 41) d5_38 (by decide) rfl ?_
      refine X0.aloadN (pc' := 42) d5_41 rfl rfl rfl ?_
      refine X0.iconst (pc' := 43) (z := 2) d5_42 rfl rfl ?_
      refine X0.iaload (pc' := 44) (v := (.int (P 2))) Va (own_il (z := (2 : Int32)) (j := 2) rfl (by omega)) (own_tn_at (z := (2 : Int32)) (j := 2) rfl (by omega)) d5_43 rfl ?_
      refine X0.aloadN (pc' := 45) d5_44 rfl rfl rfl ?_
      refine X0.iloadN (pc' := 46) d5_45 rfl rfl ?_
      refine X0.iconst (pc' := 47) (z := 2) d5_46 rfl rfl ?_
      refine X0.iadd (pc' := 48) d5_47 rfl ?_
      show Runs p e below (T0.setTop (mkF m 48 #[.val (.ref a), .val (.int (5 : Int32)), .val (.int (3 : Int32)), .val (.int (3 : Int32))] [(.int (5 : Int32)), (.ref a), (.int (P 2))])) _
      refine X0.iaload (pc' := 49) (v := (.int (P 5))) Va (own_il (z := (5 : Int32)) (j := 5) rfl (by omega)) (own_tn_at (z := (5 : Int32)) (j := 5) rfl (by omega)) d5_48 rfl ?_
      by_cases hc3 : (P 2) = (P 5)
      · refine X0.icmpNo (pc' := 52) d5_49 (teq hc3).2 rfl ?_
        refine X0.iloadN (pc' := 53) d5_52 rfl rfl ?_
        refine X0.iconst (pc' := 54) (z := 4) d5_53 rfl rfl ?_
        refine X0.icmpYes (pc' := 68) d5_54 (by decide) (by decide) (by decide) ?_
        refine X0.iloadN (pc' := 69) d5_68 rfl rfl ?_
        refine X0.iconst (pc' := 70) (z := 5) d5_69 rfl rfl ?_
        refine X0.icmpYes (pc' := 84) d5_70 (by decide) (by decide) (by decide) ?_
        refine X0.iconst (pc' := 85) (z := 1) d5_84 rfl rfl ?_
        refine X0.goto (pc' := 89) d5_85 (by decide) (by decide) ?_
        exact X0.zreturn (z' := (1 : Int32)) rfl (by simp) d5_89 rfl (by decide) (by decide) ⟨by rw [show own_eqs (own_eqf P) 5 3 = (decide (P 0 = P 3) && (decide (P 1 = P 4) && (decide (P 2 = P 5) && true))) from rfl]; simp [hc1, hc2, hc3], rfl⟩
      · refine X0.icmpYes (pc' := 88) d5_49 (feq hc3).2 (by decide) (by decide) ?_
        refine X0.iconst (pc' := 89) (z := 0) d5_88 rfl rfl ?_
        exact X0.zreturn (z' := (0 : Int32)) rfl (by simp) d5_89 rfl (by decide) (by decide) ⟨by rw [show own_eqs (own_eqf P) 5 3 = (decide (P 0 = P 3) && (decide (P 1 = P 4) && (decide (P 2 = P 5) && true))) from rfl]; simp [hc1, hc2, hc3], rfl⟩
    · refine X0.icmpYes (pc' := 88) d5_33 (feq hc2).2 (by decide) (by decide) ?_
      refine X0.iconst (pc' := 89) (z := 0) d5_88 rfl rfl ?_
      exact X0.zreturn (z' := (0 : Int32)) rfl (by simp) d5_89 rfl (by decide) (by decide) ⟨by rw [show own_eqs (own_eqf P) 5 3 = (decide (P 0 = P 3) && (decide (P 1 = P 4) && (decide (P 2 = P 5) && true))) from rfl]; simp [hc1, hc2], rfl⟩
  · refine X0.icmpYes (pc' := 88) d5_17 (feq hc1).2 (by decide) (by decide) ?_
    refine X0.iconst (pc' := 89) (z := 0) d5_88 rfl rfl ?_
    exact X0.zreturn (z' := (0 : Int32)) rfl (by simp) d5_89 rfl (by decide) (by decide) ⟨by rw [show own_eqs (own_eqf P) 5 3 = (decide (P 0 = P 3) && (decide (P 1 = P 4) && (decide (P 2 = P 5) && true))) from rfl]; simp [hc1], rfl⟩
set_option maxRecDepth 65536 in
set_option maxHeartbeats 40000000 in
theorem ct5_5_4 (l : Launch) (Z : State) (a0 : Array Value) (hw : ∀ d ∈ tables_1, d.before a0 Z = true) (a : Addr) (P : Nat → Int32) (n : Nat) (h0 : Heap) (Va : Lst Z h0 a .int (own_tn n P)) (hn : 5 < n) :
    Ct l Z y5 method_3_code 4 (some .boolean) ({ frames := 0, cells := 0, slots := 0, locals := 0 } : Room) #[(.ref a), (.int (5 : Int32)), (.int (4 : Int32))] h0 [] (fun v h => v = some (.int (if own_eqs (own_eqf P) 5 4 = true then (1 : Int32) else 0)) ∧ h0 = h) := by
  refine Ct.of (plainFor_of_name (by first | (simp [plainName, overriddenIn]; done) | decide +kernel)) ?_
  intro p e s m below meth c T0 X0
  refine Runs.top (g' := mkF m 0 #[.val (.ref a), .val (.int (5 : Int32)), .val (.int (4 : Int32)), .unset] []) (by first | (simp [entryFrame, mkF, argsToLocals, Value.category]; done) | rfl) ?_
  refine X0.iloadN (pc' := 1) d5_0 rfl rfl ?_
  refine X0.iloadN (pc' := 2) d5_1 rfl rfl ?_
  refine X0.isub (pc' := 3) d5_2 rfl ?_
  show Runs p e below (T0.setTop (mkF m 3 #[.val (.ref a), .val (.int (5 : Int32)), .val (.int (4 : Int32)), .unset] [(.int (1 : Int32))])) _
  refine X0.iconst (pc' := 4) (z := 1) d5_3 rfl rfl ?_
  refine X0.iadd (pc' := 5) d5_4 rfl ?_
  show Runs p e below (T0.setTop (mkF m 5 #[.val (.ref a), .val (.int (5 : Int32)), .val (.int (4 : Int32)), .unset] [(.int (2 : Int32))])) _
  refine X0.istoreN (pc' := 6) (l' := #[.val (.ref a), .val (.int (5 : Int32)), .val (.int (4 : Int32)), .val (.int (2 : Int32))]) d5_5 rfl rfl ?_
  refine X0.iloadN (pc' := 7) d5_6 rfl rfl ?_
  refine X0.iconst (pc' := 8) (z := 1) d5_7 rfl rfl ?_
  refine X0.icmpNo (pc' := 11) d5_8 (by decide) rfl ?_
  refine X0.aloadN (pc' := 12) d5_11 rfl rfl rfl ?_
  refine X0.iconst (pc' := 13) (z := 0) d5_12 rfl rfl ?_
  refine X0.iaload (pc' := 14) (v := (.int (P 0))) Va (own_il (z := (0 : Int32)) (j := 0) rfl (by omega)) (own_tn_at (z := (0 : Int32)) (j := 0) rfl (by omega)) d5_13 rfl ?_
  refine X0.aloadN (pc' := 15) d5_14 rfl rfl rfl ?_
  refine X0.iloadN (pc' := 16) d5_15 rfl rfl ?_
  refine X0.iaload (pc' := 17) (v := (.int (P 2))) Va (own_il (z := (2 : Int32)) (j := 2) rfl (by omega)) (own_tn_at (z := (2 : Int32)) (j := 2) rfl (by omega)) d5_16 rfl ?_
  by_cases hc1 : (P 0) = (P 2)
  · refine X0.icmpNo (pc' := 20) d5_17 (teq hc1).2 rfl ?_
    refine X0.iloadN (pc' := 21) d5_20 rfl rfl ?_
    refine X0.iconst (pc' := 22) (z := 2) d5_21 rfl rfl ?_
    refine X0.icmpNo (pc' := 25) d5_22 (by decide) rfl ?_
    refine X0.aloadN (pc' := 26) d5_25 rfl rfl rfl ?_
    refine X0.iconst (pc' := 27) (z := 1) d5_26 rfl rfl ?_
    refine X0.iaload (pc' := 28) (v := (.int (P 1))) Va (own_il (z := (1 : Int32)) (j := 1) rfl (by omega)) (own_tn_at (z := (1 : Int32)) (j := 1) rfl (by omega)) d5_27 rfl ?_
    refine X0.aloadN (pc' := 29) d5_28 rfl rfl rfl ?_
    refine X0.iloadN (pc' := 30) d5_29 rfl rfl ?_
    refine X0.iconst (pc' := 31) (z := 1) d5_30 rfl rfl ?_
    refine X0.iadd (pc' := 32) d5_31 rfl ?_
    show Runs p e below (T0.setTop (mkF m 32 #[.val (.ref a), .val (.int (5 : Int32)), .val (.int (4 : Int32)), .val (.int (2 : Int32))] [(.int (3 : Int32)), (.ref a), (.int (P 1))])) _
    refine X0.iaload (pc' := 33) (v := (.int (P 3))) Va (own_il (z := (3 : Int32)) (j := 3) rfl (by omega)) (own_tn_at (z := (3 : Int32)) (j := 3) rfl (by omega)) d5_32 rfl ?_
    by_cases hc2 : (P 1) = (P 3)
    · refine X0.icmpNo (pc' := 36) d5_33 (teq hc2).2 rfl ?_
      refine X0.iloadN (pc' := 37) d5_36 rfl rfl ?_
      refine X0.iconst (pc' := 38) (z := 3) d5_37 rfl rfl ?_
      refine X0.icmpNo (pc' := 41) d5_38 (by decide) rfl ?_
      refine X0.aloadN (pc' := 42) d5_41 rfl rfl rfl ?_
      refine X0.iconst (pc' := 43) (z := 2) d5_42 rfl rfl ?_
      refine X0.iaload (pc' := 44) (v := (.int (P 2))) Va (own_il (z := (2 : Int32)) (j := 2) rfl (by omega)) (own_tn_at (z := (2 : Int32)) (j := 2) rfl (by omega)) d5_43 rfl ?_
      refine X0.aloadN (pc' := 45) d5_44 rfl rfl rfl ?_
      refine X0.iloadN (pc' := 46) d5_45 rfl rfl ?_
      refine X0.iconst (pc' := 47) (z := 2) d5_46 rfl rfl ?_
      refine X0.iadd (pc' := 48) d5_47 rfl ?_
      show Runs p e below (T0.setTop (mkF m 48 #[.val (.ref a), .val (.int (5 : Int32)), .val (.int (4 : Int32)), .val (.int (2 : Int32))] [(.int (4 : Int32)), (.ref a), (.int (P 2))])) _
      refine X0.iaload (pc' := 49) (v := (.int (P 4))) Va (own_il (z := (4 : Int32)) (j := 4) rfl (by omega)) (own_tn_at (z := (4 : Int32)) (j := 4) rfl (by omega)) d5_48 rfl ?_
      by_cases hc3 : (P 2) = (P 4)
      · refine X0.icmpNo (pc' := 52) d5_49 (teq hc3).2 rfl ?_
        refine X0.iloadN (pc' := 53) d5_52 rfl rfl ?_
        refine X0.iconst (pc' := 54) (z := 4) d5_53 rfl rfl ?_
        refine X0.icmpNo (pc' := 57) d5_54 (by decide) rfl ?_
        refine X0.aloadN (pc' := 58) d5_57 rfl rfl rfl ?_
        refine X0.iconst (pc' := 59) (z := 3) d5_58 rfl rfl ?_
        refine X0.iaload (pc' := 60) (v := (.int (P 3))) Va (own_il (z := (3 : Int32)) (j := 3) rfl (by omega)) (own_tn_at (z := (3 : Int32)) (j := 3) rfl (by omega)) d5_59 rfl ?_
        refine X0.aloadN (pc' := 61) d5_60 rfl rfl rfl ?_
        refine X0.iloadN (pc' := 62) d5_61 rfl rfl ?_
        refine X0.iconst (pc' := 63) (z := 3) d5_62 rfl rfl ?_
        refine X0.iadd (pc' := 64) d5_63 rfl ?_
        show Runs p e below (T0.setTop (mkF m 64 #[.val (.ref a), .val (.int (5 : Int32)), .val (.int (4 : Int32)), .val (.int (2 : Int32))] [(.int (5 : Int32)), (.ref a), (.int (P 3))])) _
        refine X0.iaload (pc' := 65) (v := (.int (P 5))) Va (own_il (z := (5 : Int32)) (j := 5) rfl (by omega)) (own_tn_at (z := (5 : Int32)) (j := 5) rfl (by omega)) d5_64 rfl ?_
        by_cases hc4 : (P 3) = (P 5)
        · refine X0.icmpNo (pc' := 68) d5_65 (teq hc4).2 rfl ?_
          refine X0.iloadN (pc' := 69) d5_68 rfl rfl ?_
          refine X0.iconst (pc' := 70) (z := 5) d5_69 rfl rfl ?_
          refine X0.icmpYes (pc' := 84) d5_70 (by decide) (by decide) (by decide) ?_
          refine X0.iconst (pc' := 85) (z := 1) d5_84 rfl rfl ?_
          refine X0.goto (pc' := 89) d5_85 (by decide) (by decide) ?_
          exact X0.zreturn (z' := (1 : Int32)) rfl (by simp) d5_89 rfl (by decide) (by decide) ⟨by rw [show own_eqs (own_eqf P) 5 4 = (decide (P 0 = P 2) && (decide (P 1 = P 3) && (decide (P 2 = P 4) && (decide (P 3 = P 5) && true)))) from rfl]; simp [hc1, hc2, hc3, hc4], rfl⟩
        · refine X0.icmpYes (pc' := 88) d5_65 (feq hc4).2 (by decide) (by decide) ?_
          refine X0.iconst (pc' := 89) (z := 0) d5_88 rfl rfl ?_
          exact X0.zreturn (z' := (0 : Int32)) rfl (by simp) d5_89 rfl (by decide) (by decide) ⟨by rw [show own_eqs (own_eqf P) 5 4 = (decide (P 0 = P 2) && (decide (P 1 = P 3) && (decide (P 2 = P 4) && (decide (P 3 = P 5) && true)))) from rfl]; simp [hc1, hc2, hc3, hc4], rfl⟩
      · refine X0.icmpYes (pc' := 88) d5_49 (feq hc3).2 (by decide) (by decide) ?_
        refine X0.iconst (pc' := 89) (z := 0) d5_88 rfl rfl ?_
        exact X0.zreturn (z' := (0 : Int32)) rfl (by simp) d5_89 rfl (by decide) (by decide) ⟨by rw [show own_eqs (own_eqf P) 5 4 = (decide (P 0 = P 2) && (decide (P 1 = P 3) && (decide (P 2 = P 4) && (decide (P 3 = P 5) && true)))) from rfl]; simp [hc1, hc2, hc3], rfl⟩
    · refine X0.icmpYes (pc' := 88) d5_33 (feq hc2).2 (by decide) (by decide) ?_
      refine X0.iconst (pc' := 89) (z := 0) d5_88 rfl rfl ?_
      exact X0.zreturn (z' := (0 : Int32)) rfl (by simp) d5_89 rfl (by decide) (by decide) ⟨by rw [show own_eqs (own_eqf P) 5 4 = (decide (P 0 = P 2) && (decide (P 1 = P 3) && (decide (P 2 = P 4) && (decide (P 3 = P 5) && true)))) from rfl]; simp [hc1, hc2], rfl⟩
  · refine X0.icmpYes (pc' := 88) d5_17 (feq hc1).2 (by decide) (by decide) ?_
    refine X0.iconst (pc' := 89) (z := 0) d5_88 rfl rfl ?_
    exact X0.zreturn (z' := (0 : Int32)) rfl (by simp) d5_89 rfl (by decide) (by decide) ⟨by rw [show own_eqs (own_eqf P) 5 4 = (decide (P 0 = P 2) && (decide (P 1 = P 3) && (decide (P 2 = P 4) && (decide (P 3 = P 5) && true)))) from rfl]; simp [hc1], rfl⟩
set_option maxRecDepth 65536 in
set_option maxHeartbeats 40000000 in
theorem ct5_5_5 (l : Launch) (Z : State) (a0 : Array Value) (hw : ∀ d ∈ tables_1, d.before a0 Z = true) (a : Addr) (P : Nat → Int32) (n : Nat) (h0 : Heap) (Va : Lst Z h0 a .int (own_tn n P)) (hn : 5 < n) :
    Ct l Z y5 method_3_code 4 (some .boolean) ({ frames := 0, cells := 0, slots := 0, locals := 0 } : Room) #[(.ref a), (.int (5 : Int32)), (.int (5 : Int32))] h0 [] (fun v h => v = some (.int (if own_eqs (own_eqf P) 5 5 = true then (1 : Int32) else 0)) ∧ h0 = h) := by
  refine Ct.of (plainFor_of_name (by first | (simp [plainName, overriddenIn]; done) | decide +kernel)) ?_
  intro p e s m below meth c T0 X0
  refine Runs.top (g' := mkF m 0 #[.val (.ref a), .val (.int (5 : Int32)), .val (.int (5 : Int32)), .unset] []) (by first | (simp [entryFrame, mkF, argsToLocals, Value.category]; done) | rfl) ?_
  refine X0.iloadN (pc' := 1) d5_0 rfl rfl ?_
  refine X0.iloadN (pc' := 2) d5_1 rfl rfl ?_
  refine X0.isub (pc' := 3) d5_2 rfl ?_
  show Runs p e below (T0.setTop (mkF m 3 #[.val (.ref a), .val (.int (5 : Int32)), .val (.int (5 : Int32)), .unset] [(.int (0 : Int32))])) _
  refine X0.iconst (pc' := 4) (z := 1) d5_3 rfl rfl ?_
  refine X0.iadd (pc' := 5) d5_4 rfl ?_
  show Runs p e below (T0.setTop (mkF m 5 #[.val (.ref a), .val (.int (5 : Int32)), .val (.int (5 : Int32)), .unset] [(.int (1 : Int32))])) _
  refine X0.istoreN (pc' := 6) (l' := #[.val (.ref a), .val (.int (5 : Int32)), .val (.int (5 : Int32)), .val (.int (1 : Int32))]) d5_5 rfl rfl ?_
  refine X0.iloadN (pc' := 7) d5_6 rfl rfl ?_
  refine X0.iconst (pc' := 8) (z := 1) d5_7 rfl rfl ?_
  refine X0.icmpNo (pc' := 11) d5_8 (by decide) rfl ?_
  refine X0.aloadN (pc' := 12) d5_11 rfl rfl rfl ?_
  refine X0.iconst (pc' := 13) (z := 0) d5_12 rfl rfl ?_
  refine X0.iaload (pc' := 14) (v := (.int (P 0))) Va (own_il (z := (0 : Int32)) (j := 0) rfl (by omega)) (own_tn_at (z := (0 : Int32)) (j := 0) rfl (by omega)) d5_13 rfl ?_
  refine X0.aloadN (pc' := 15) d5_14 rfl rfl rfl ?_
  refine X0.iloadN (pc' := 16) d5_15 rfl rfl ?_
  refine X0.iaload (pc' := 17) (v := (.int (P 1))) Va (own_il (z := (1 : Int32)) (j := 1) rfl (by omega)) (own_tn_at (z := (1 : Int32)) (j := 1) rfl (by omega)) d5_16 rfl ?_
  by_cases hc1 : (P 0) = (P 1)
  · refine X0.icmpNo (pc' := 20) d5_17 (teq hc1).2 rfl ?_
    refine X0.iloadN (pc' := 21) d5_20 rfl rfl ?_
    refine X0.iconst (pc' := 22) (z := 2) d5_21 rfl rfl ?_
    refine X0.icmpNo (pc' := 25) d5_22 (by decide) rfl ?_
    refine X0.aloadN (pc' := 26) d5_25 rfl rfl rfl ?_
    refine X0.iconst (pc' := 27) (z := 1) d5_26 rfl rfl ?_
    refine X0.iaload (pc' := 28) (v := (.int (P 1))) Va (own_il (z := (1 : Int32)) (j := 1) rfl (by omega)) (own_tn_at (z := (1 : Int32)) (j := 1) rfl (by omega)) d5_27 rfl ?_
    refine X0.aloadN (pc' := 29) d5_28 rfl rfl rfl ?_
    refine X0.iloadN (pc' := 30) d5_29 rfl rfl ?_
    refine X0.iconst (pc' := 31) (z := 1) d5_30 rfl rfl ?_
    refine X0.iadd (pc' := 32) d5_31 rfl ?_
    show Runs p e below (T0.setTop (mkF m 32 #[.val (.ref a), .val (.int (5 : Int32)), .val (.int (5 : Int32)), .val (.int (1 : Int32))] [(.int (2 : Int32)), (.ref a), (.int (P 1))])) _
    refine X0.iaload (pc' := 33) (v := (.int (P 2))) Va (own_il (z := (2 : Int32)) (j := 2) rfl (by omega)) (own_tn_at (z := (2 : Int32)) (j := 2) rfl (by omega)) d5_32 rfl ?_
    by_cases hc2 : (P 1) = (P 2)
    · refine X0.icmpNo (pc' := 36) d5_33 (teq hc2).2 rfl ?_
      refine X0.iloadN (pc' := 37) d5_36 rfl rfl ?_
      refine X0.iconst (pc' := 38) (z := 3) d5_37 rfl rfl ?_
      refine X0.icmpNo (pc' := 41) d5_38 (by decide) rfl ?_
      refine X0.aloadN (pc' := 42) d5_41 rfl rfl rfl ?_
      refine X0.iconst (pc' := 43) (z := 2) d5_42 rfl rfl ?_
      refine X0.iaload (pc' := 44) (v := (.int (P 2))) Va (own_il (z := (2 : Int32)) (j := 2) rfl (by omega)) (own_tn_at (z := (2 : Int32)) (j := 2) rfl (by omega)) d5_43 rfl ?_
      refine X0.aloadN (pc' := 45) d5_44 rfl rfl rfl ?_
      refine X0.iloadN (pc' := 46) d5_45 rfl rfl ?_
      refine X0.iconst (pc' := 47) (z := 2) d5_46 rfl rfl ?_
      refine X0.iadd (pc' := 48) d5_47 rfl ?_
      show Runs p e below (T0.setTop (mkF m 48 #[.val (.ref a), .val (.int (5 : Int32)), .val (.int (5 : Int32)), .val (.int (1 : Int32))] [(.int (3 : Int32)), (.ref a), (.int (P 2))])) _
      refine X0.iaload (pc' := 49) (v := (.int (P 3))) Va (own_il (z := (3 : Int32)) (j := 3) rfl (by omega)) (own_tn_at (z := (3 : Int32)) (j := 3) rfl (by omega)) d5_48 rfl ?_
      by_cases hc3 : (P 2) = (P 3)
      · refine X0.icmpNo (pc' := 52) d5_49 (teq hc3).2 rfl ?_
        refine X0.iloadN (pc' := 53) d5_52 rfl rfl ?_
        refine X0.iconst (pc' := 54) (z := 4) d5_53 rfl rfl ?_
        refine X0.icmpNo (pc' := 57) d5_54 (by decide) rfl ?_
        refine X0.aloadN (pc' := 58) d5_57 rfl rfl rfl ?_
        refine X0.iconst (pc' := 59) (z := 3) d5_58 rfl rfl ?_
        refine X0.iaload (pc' := 60) (v := (.int (P 3))) Va (own_il (z := (3 : Int32)) (j := 3) rfl (by omega)) (own_tn_at (z := (3 : Int32)) (j := 3) rfl (by omega)) d5_59 rfl ?_
        refine X0.aloadN (pc' := 61) d5_60 rfl rfl rfl ?_
        refine X0.iloadN (pc' := 62) d5_61 rfl rfl ?_
        refine X0.iconst (pc' := 63) (z := 3) d5_62 rfl rfl ?_
        refine X0.iadd (pc' := 64) d5_63 rfl ?_
        show Runs p e below (T0.setTop (mkF m 64 #[.val (.ref a), .val (.int (5 : Int32)), .val (.int (5 : Int32)), .val (.int (1 : Int32))] [(.int (4 : Int32)), (.ref a), (.int (P 3))])) _
        refine X0.iaload (pc' := 65) (v := (.int (P 4))) Va (own_il (z := (4 : Int32)) (j := 4) rfl (by omega)) (own_tn_at (z := (4 : Int32)) (j := 4) rfl (by omega)) d5_64 rfl ?_
        by_cases hc4 : (P 3) = (P 4)
        · refine X0.icmpNo (pc' := 68) d5_65 (teq hc4).2 rfl ?_
          refine X0.iloadN (pc' := 69) d5_68 rfl rfl ?_
          refine X0.iconst (pc' := 70) (z := 5) d5_69 rfl rfl ?_
          refine X0.icmpNo (pc' := 73) d5_70 (by decide) rfl ?_
          refine X0.aloadN (pc' := 74) d5_73 rfl rfl rfl ?_
          refine X0.iconst (pc' := 75) (z := 4) d5_74 rfl rfl ?_
          refine X0.iaload (pc' := 76) (v := (.int (P 4))) Va (own_il (z := (4 : Int32)) (j := 4) rfl (by omega)) (own_tn_at (z := (4 : Int32)) (j := 4) rfl (by omega)) d5_75 rfl ?_
          refine X0.aloadN (pc' := 77) d5_76 rfl rfl rfl ?_
          refine X0.iloadN (pc' := 78) d5_77 rfl rfl ?_
          refine X0.iconst (pc' := 79) (z := 4) d5_78 rfl rfl ?_
          refine X0.iadd (pc' := 80) d5_79 rfl ?_
          show Runs p e below (T0.setTop (mkF m 80 #[.val (.ref a), .val (.int (5 : Int32)), .val (.int (5 : Int32)), .val (.int (1 : Int32))] [(.int (5 : Int32)), (.ref a), (.int (P 4))])) _
          refine X0.iaload (pc' := 81) (v := (.int (P 5))) Va (own_il (z := (5 : Int32)) (j := 5) rfl (by omega)) (own_tn_at (z := (5 : Int32)) (j := 5) rfl (by omega)) d5_80 rfl ?_
          by_cases hc5 : (P 4) = (P 5)
          · refine X0.icmpNo (pc' := 84) d5_81 (teq hc5).2 rfl ?_
            refine X0.iconst (pc' := 85) (z := 1) d5_84 rfl rfl ?_
            refine X0.goto (pc' := 89) d5_85 (by decide) (by decide) ?_
            exact X0.zreturn (z' := (1 : Int32)) rfl (by simp) d5_89 rfl (by decide) (by decide) ⟨by rw [show own_eqs (own_eqf P) 5 5 = (decide (P 0 = P 1) && (decide (P 1 = P 2) && (decide (P 2 = P 3) && (decide (P 3 = P 4) && (decide (P 4 = P 5) && true))))) from rfl]; simp [hc1, hc2, hc3, hc4, hc5], rfl⟩
          · refine X0.icmpYes (pc' := 88) d5_81 (feq hc5).2 (by decide) (by decide) ?_
            refine X0.iconst (pc' := 89) (z := 0) d5_88 rfl rfl ?_
            exact X0.zreturn (z' := (0 : Int32)) rfl (by simp) d5_89 rfl (by decide) (by decide) ⟨by rw [show own_eqs (own_eqf P) 5 5 = (decide (P 0 = P 1) && (decide (P 1 = P 2) && (decide (P 2 = P 3) && (decide (P 3 = P 4) && (decide (P 4 = P 5) && true))))) from rfl]; simp [hc1, hc2, hc3, hc4, hc5], rfl⟩
        · refine X0.icmpYes (pc' := 88) d5_65 (feq hc4).2 (by decide) (by decide) ?_
          refine X0.iconst (pc' := 89) (z := 0) d5_88 rfl rfl ?_
          exact X0.zreturn (z' := (0 : Int32)) rfl (by simp) d5_89 rfl (by decide) (by decide) ⟨by rw [show own_eqs (own_eqf P) 5 5 = (decide (P 0 = P 1) && (decide (P 1 = P 2) && (decide (P 2 = P 3) && (decide (P 3 = P 4) && (decide (P 4 = P 5) && true))))) from rfl]; simp [hc1, hc2, hc3, hc4], rfl⟩
      · refine X0.icmpYes (pc' := 88) d5_49 (feq hc3).2 (by decide) (by decide) ?_
        refine X0.iconst (pc' := 89) (z := 0) d5_88 rfl rfl ?_
        exact X0.zreturn (z' := (0 : Int32)) rfl (by simp) d5_89 rfl (by decide) (by decide) ⟨by rw [show own_eqs (own_eqf P) 5 5 = (decide (P 0 = P 1) && (decide (P 1 = P 2) && (decide (P 2 = P 3) && (decide (P 3 = P 4) && (decide (P 4 = P 5) && true))))) from rfl]; simp [hc1, hc2, hc3], rfl⟩
    · refine X0.icmpYes (pc' := 88) d5_33 (feq hc2).2 (by decide) (by decide) ?_
      refine X0.iconst (pc' := 89) (z := 0) d5_88 rfl rfl ?_
      exact X0.zreturn (z' := (0 : Int32)) rfl (by simp) d5_89 rfl (by decide) (by decide) ⟨by rw [show own_eqs (own_eqf P) 5 5 = (decide (P 0 = P 1) && (decide (P 1 = P 2) && (decide (P 2 = P 3) && (decide (P 3 = P 4) && (decide (P 4 = P 5) && true))))) from rfl]; simp [hc1, hc2], rfl⟩
  · refine X0.icmpYes (pc' := 88) d5_17 (feq hc1).2 (by decide) (by decide) ?_
    refine X0.iconst (pc' := 89) (z := 0) d5_88 rfl rfl ?_
    exact X0.zreturn (z' := (0 : Int32)) rfl (by simp) d5_89 rfl (by decide) (by decide) ⟨by rw [show own_eqs (own_eqf P) 5 5 = (decide (P 0 = P 1) && (decide (P 1 = P 2) && (decide (P 2 = P 3) && (decide (P 3 = P 4) && (decide (P 4 = P 5) && true))))) from rfl]; simp [hc1], rfl⟩
set_option maxRecDepth 65536 in
set_option maxHeartbeats 40000000 in
theorem ct4_0 (l : Launch) (Z : State) (a0 : Array Value) (hw : ∀ d ∈ tables_1, d.before a0 Z = true) (a : Addr) (P : Nat → Int32) (n : Nat) (h0 : Heap) (Va : Lst Z h0 a .int (own_tn n P)) (hn : 0 < n) :
    Ct l Z y4 method_4_code 2 (some .int) ({ frames := 1, cells := 0, slots := 0, locals := 15 } : Room) #[(.ref a), (.int (0 : Int32))] h0 [] (fun v h => v = some (.int (own_bd (own_eqf P) 0).toInt32) ∧ h0 = h) := by
  refine Ct.of (plainFor_of_name (by first | (simp [plainName, overriddenIn]; done) | decide +kernel)) ?_
  intro p e s m below meth c T0 X0
  refine Runs.top (g' := mkF m 0 #[.val (.ref a), .val (.int (0 : Int32))] []) (by first | (simp [entryFrame, mkF, argsToLocals, Value.category]; done) | rfl) ?_
  refine X0.iloadN (pc' := 1) d4_0 rfl rfl ?_
  refine X0.iconst (pc' := 2) (z := 5) d4_1 rfl rfl ?_
  refine X0.icmpYes (pc' := 16) d4_2 (by decide) (by decide) (by decide) ?_
  refine X0.iloadN (pc' := 17) d4_16 rfl rfl ?_
  refine X0.iconst (pc' := 18) (z := 4) d4_17 rfl rfl ?_
  refine X0.icmpYes (pc' := 32) d4_18 (by decide) (by decide) (by decide) ?_
  refine X0.iloadN (pc' := 33) d4_32 rfl rfl ?_
  refine X0.iconst (pc' := 34) (z := 3) d4_33 rfl rfl ?_
  refine X0.icmpYes (pc' := 48) d4_34 (by decide) (by decide) (by decide) ?_
  refine X0.iloadN (pc' := 49) d4_48 rfl rfl ?_
  refine X0.iconst (pc' := 50) (z := 2) d4_49 rfl rfl ?_
  refine X0.icmpYes (pc' := 64) d4_50 (by decide) (by decide) (by decide) ?_
  refine X0.iloadN (pc' := 65) d4_64 rfl rfl ?_
  refine X0.iconst (pc' := 66) (z := 1) d4_65 rfl rfl ?_
  refine X0.icmpYes (pc' := 80) d4_66 (by decide) (by decide) (by decide) ?_
  refine X0.iconst (pc' := 81) (z := 0) d4_80 rfl rfl ?_
  exact X0.ireturn rfl d4_81 (by decide) (by decide) ⟨by rw [show own_bd (own_eqf P) 0 = 0 by simp [own_bd, own_bd]]; rfl, rfl⟩
set_option maxRecDepth 65536 in
set_option maxHeartbeats 40000000 in
theorem ct4_1 (l : Launch) (Z : State) (a0 : Array Value) (hw : ∀ d ∈ tables_1, d.before a0 Z = true) (a : Addr) (P : Nat → Int32) (n : Nat) (h0 : Heap) (Va : Lst Z h0 a .int (own_tn n P)) (hn : 1 < n) :
    Ct l Z y4 method_4_code 2 (some .int) ({ frames := 1, cells := 0, slots := 0, locals := 15 } : Room) #[(.ref a), (.int (1 : Int32))] h0 [] (fun v h => v = some (.int (own_bd (own_eqf P) 1).toInt32) ∧ h0 = h) := by
  refine Ct.of (plainFor_of_name (by first | (simp [plainName, overriddenIn]; done) | decide +kernel)) ?_
  intro p e s m below meth c T0 X0
  refine Runs.top (g' := mkF m 0 #[.val (.ref a), .val (.int (1 : Int32))] []) (by first | (simp [entryFrame, mkF, argsToLocals, Value.category]; done) | rfl) ?_
  refine X0.iloadN (pc' := 1) d4_0 rfl rfl ?_
  refine X0.iconst (pc' := 2) (z := 5) d4_1 rfl rfl ?_
  refine X0.icmpYes (pc' := 16) d4_2 (by decide) (by decide) (by decide) ?_
  refine X0.iloadN (pc' := 17) d4_16 rfl rfl ?_
  refine X0.iconst (pc' := 18) (z := 4) d4_17 rfl rfl ?_
  refine X0.icmpYes (pc' := 32) d4_18 (by decide) (by decide) (by decide) ?_
  refine X0.iloadN (pc' := 33) d4_32 rfl rfl ?_
  refine X0.iconst (pc' := 34) (z := 3) d4_33 rfl rfl ?_
  refine X0.icmpYes (pc' := 48) d4_34 (by decide) (by decide) (by decide) ?_
  refine X0.iloadN (pc' := 49) d4_48 rfl rfl ?_
  refine X0.iconst (pc' := 50) (z := 2) d4_49 rfl rfl ?_
  refine X0.icmpYes (pc' := 64) d4_50 (by decide) (by decide) (by decide) ?_
  refine X0.iloadN (pc' := 65) d4_64 rfl rfl ?_
  refine X0.iconst (pc' := 66) (z := 1) d4_65 rfl rfl ?_
  refine X0.icmpNo (pc' := 69) d4_66 (by decide) rfl ?_
  refine X0.aloadN (pc' := 70) d4_69 rfl rfl rfl ?_
  refine X0.iloadN (pc' := 71) d4_70 rfl rfl ?_
  refine X0.iconst (pc' := 72) (z := 1) d4_71 rfl rfl ?_
  refine X0.callS (pc' := 75) (W := 0) (argsL := [(.ref a), (.int (1 : Int32)), (.int (1 : Int32))]) (rest := []) (ct5_1_1 l Z a0 hw a P n h0 Va hn) (wd_16 hw) (wd_17 hw) (wd_3 hw) (wd_18 hw) (by decide) pd_0 rfl rfl rfl rfl d4_72 rfl (by decide) rfl (by decide) (by decide) (by decide) allWs0 (fun T1 h1 v1 X1 K1 Q1 => ?_)
  obtain ⟨rfl, rfl⟩ := Q1
  show Runs p e below (T1.setTop (mkF m 75 #[.val (.ref a), .val (.int (1 : Int32))] [(.int (if own_eqs (own_eqf P) 1 1 = true then (1 : Int32) else 0))])) _
  by_cases hc2 : own_eqs (own_eqf P) 1 1 = true
  · refine X1.ifNo (pc' := 78) d4_75 (by rw [if_pos hc2]; decide) rfl ?_
    refine X1.iconst (pc' := 79) (z := 1) d4_78 rfl rfl ?_
    exact X1.ireturn rfl d4_79 (by decide) (by decide) ⟨by rw [show own_bd (own_eqf P) 1 = 1 by simp [own_bd, hc2]]; rfl, rfl⟩
  · refine X1.ifYes (pc' := 80) d4_75 (by rw [if_neg hc2]; decide) (by decide) (by decide) ?_
    refine X1.iconst (pc' := 81) (z := 0) d4_80 rfl rfl ?_
    exact X1.ireturn rfl d4_81 (by decide) (by decide) ⟨by rw [show own_bd (own_eqf P) 1 = 0 by simp [own_bd, hc2]]; rfl, rfl⟩
set_option maxRecDepth 65536 in
set_option maxHeartbeats 40000000 in
theorem ct4_2 (l : Launch) (Z : State) (a0 : Array Value) (hw : ∀ d ∈ tables_1, d.before a0 Z = true) (a : Addr) (P : Nat → Int32) (n : Nat) (h0 : Heap) (Va : Lst Z h0 a .int (own_tn n P)) (hn : 2 < n) :
    Ct l Z y4 method_4_code 2 (some .int) ({ frames := 1, cells := 0, slots := 0, locals := 15 } : Room) #[(.ref a), (.int (2 : Int32))] h0 [] (fun v h => v = some (.int (own_bd (own_eqf P) 2).toInt32) ∧ h0 = h) := by
  refine Ct.of (plainFor_of_name (by first | (simp [plainName, overriddenIn]; done) | decide +kernel)) ?_
  intro p e s m below meth c T0 X0
  refine Runs.top (g' := mkF m 0 #[.val (.ref a), .val (.int (2 : Int32))] []) (by first | (simp [entryFrame, mkF, argsToLocals, Value.category]; done) | rfl) ?_
  refine X0.iloadN (pc' := 1) d4_0 rfl rfl ?_
  refine X0.iconst (pc' := 2) (z := 5) d4_1 rfl rfl ?_
  refine X0.icmpYes (pc' := 16) d4_2 (by decide) (by decide) (by decide) ?_
  refine X0.iloadN (pc' := 17) d4_16 rfl rfl ?_
  refine X0.iconst (pc' := 18) (z := 4) d4_17 rfl rfl ?_
  refine X0.icmpYes (pc' := 32) d4_18 (by decide) (by decide) (by decide) ?_
  refine X0.iloadN (pc' := 33) d4_32 rfl rfl ?_
  refine X0.iconst (pc' := 34) (z := 3) d4_33 rfl rfl ?_
  refine X0.icmpYes (pc' := 48) d4_34 (by decide) (by decide) (by decide) ?_
  refine X0.iloadN (pc' := 49) d4_48 rfl rfl ?_
  refine X0.iconst (pc' := 50) (z := 2) d4_49 rfl rfl ?_
  refine X0.icmpNo (pc' := 53) d4_50 (by decide) rfl ?_
  refine X0.aloadN (pc' := 54) d4_53 rfl rfl rfl ?_
  refine X0.iloadN (pc' := 55) d4_54 rfl rfl ?_
  refine X0.iconst (pc' := 56) (z := 2) d4_55 rfl rfl ?_
  refine X0.callS (pc' := 59) (W := 0) (argsL := [(.ref a), (.int (2 : Int32)), (.int (2 : Int32))]) (rest := []) (ct5_2_2 l Z a0 hw a P n h0 Va hn) (wd_16 hw) (wd_17 hw) (wd_3 hw) (wd_18 hw) (by decide) pd_0 rfl rfl rfl rfl d4_56 rfl (by decide) rfl (by decide) (by decide) (by decide) allWs0 (fun T1 h1 v1 X1 K1 Q1 => ?_)
  obtain ⟨rfl, rfl⟩ := Q1
  show Runs p e below (T1.setTop (mkF m 59 #[.val (.ref a), .val (.int (2 : Int32))] [(.int (if own_eqs (own_eqf P) 2 2 = true then (1 : Int32) else 0))])) _
  by_cases hc2 : own_eqs (own_eqf P) 2 2 = true
  · refine X1.ifNo (pc' := 62) d4_59 (by rw [if_pos hc2]; decide) rfl ?_
    refine X1.iconst (pc' := 63) (z := 2) d4_62 rfl rfl ?_
    exact X1.ireturn rfl d4_63 (by decide) (by decide) ⟨by rw [show own_bd (own_eqf P) 2 = 2 by simp [own_bd, hc2]]; rfl, rfl⟩
  · refine X1.ifYes (pc' := 64) d4_59 (by rw [if_neg hc2]; decide) (by decide) (by decide) ?_
    refine X1.iloadN (pc' := 65) d4_64 rfl rfl ?_
    refine X1.iconst (pc' := 66) (z := 1) d4_65 rfl rfl ?_
    refine X1.icmpNo (pc' := 69) d4_66 (by decide) rfl ?_
    refine X1.aloadN (pc' := 70) d4_69 rfl rfl rfl ?_
    refine X1.iloadN (pc' := 71) d4_70 rfl rfl ?_
    refine X1.iconst (pc' := 72) (z := 1) d4_71 rfl rfl ?_
    refine X1.callS (pc' := 75) (W := 0) (argsL := [(.ref a), (.int (2 : Int32)), (.int (1 : Int32))]) (rest := []) (ct5_2_1 l Z a0 hw a P n h0 Va hn) (wd_16 hw) (wd_17 hw) (wd_3 hw) (wd_18 hw) (by decide) pd_0 rfl rfl rfl rfl d4_72 rfl (by decide) rfl (by decide) (by decide) (by decide) allWs0 (fun T3 h3 v3 X3 K3 Q3 => ?_)
    obtain ⟨rfl, rfl⟩ := Q3
    show Runs p e below (T3.setTop (mkF m 75 #[.val (.ref a), .val (.int (2 : Int32))] [(.int (if own_eqs (own_eqf P) 2 1 = true then (1 : Int32) else 0))])) _
    by_cases hc4 : own_eqs (own_eqf P) 2 1 = true
    · refine X3.ifNo (pc' := 78) d4_75 (by rw [if_pos hc4]; decide) rfl ?_
      refine X3.iconst (pc' := 79) (z := 1) d4_78 rfl rfl ?_
      exact X3.ireturn rfl d4_79 (by decide) (by decide) ⟨by rw [show own_bd (own_eqf P) 2 = 1 by simp [own_bd, hc2, hc4]]; rfl, rfl⟩
    · refine X3.ifYes (pc' := 80) d4_75 (by rw [if_neg hc4]; decide) (by decide) (by decide) ?_
      refine X3.iconst (pc' := 81) (z := 0) d4_80 rfl rfl ?_
      exact X3.ireturn rfl d4_81 (by decide) (by decide) ⟨by rw [show own_bd (own_eqf P) 2 = 0 by simp [own_bd, hc2, hc4]]; rfl, rfl⟩
set_option maxRecDepth 65536 in
set_option maxHeartbeats 40000000 in
theorem ct4_3 (l : Launch) (Z : State) (a0 : Array Value) (hw : ∀ d ∈ tables_1, d.before a0 Z = true) (a : Addr) (P : Nat → Int32) (n : Nat) (h0 : Heap) (Va : Lst Z h0 a .int (own_tn n P)) (hn : 3 < n) :
    Ct l Z y4 method_4_code 2 (some .int) ({ frames := 1, cells := 0, slots := 0, locals := 15 } : Room) #[(.ref a), (.int (3 : Int32))] h0 [] (fun v h => v = some (.int (own_bd (own_eqf P) 3).toInt32) ∧ h0 = h) := by
  refine Ct.of (plainFor_of_name (by first | (simp [plainName, overriddenIn]; done) | decide +kernel)) ?_
  intro p e s m below meth c T0 X0
  refine Runs.top (g' := mkF m 0 #[.val (.ref a), .val (.int (3 : Int32))] []) (by first | (simp [entryFrame, mkF, argsToLocals, Value.category]; done) | rfl) ?_
  refine X0.iloadN (pc' := 1) d4_0 rfl rfl ?_
  refine X0.iconst (pc' := 2) (z := 5) d4_1 rfl rfl ?_
  refine X0.icmpYes (pc' := 16) d4_2 (by decide) (by decide) (by decide) ?_
  refine X0.iloadN (pc' := 17) d4_16 rfl rfl ?_
  refine X0.iconst (pc' := 18) (z := 4) d4_17 rfl rfl ?_
  refine X0.icmpYes (pc' := 32) d4_18 (by decide) (by decide) (by decide) ?_
  refine X0.iloadN (pc' := 33) d4_32 rfl rfl ?_
  refine X0.iconst (pc' := 34) (z := 3) d4_33 rfl rfl ?_
  refine X0.icmpNo (pc' := 37) d4_34 (by decide) rfl ?_
  refine X0.aloadN (pc' := 38) d4_37 rfl rfl rfl ?_
  refine X0.iloadN (pc' := 39) d4_38 rfl rfl ?_
  refine X0.iconst (pc' := 40) (z := 3) d4_39 rfl rfl ?_
  refine X0.callS (pc' := 43) (W := 0) (argsL := [(.ref a), (.int (3 : Int32)), (.int (3 : Int32))]) (rest := []) (ct5_3_3 l Z a0 hw a P n h0 Va hn) (wd_16 hw) (wd_17 hw) (wd_3 hw) (wd_18 hw) (by decide) pd_0 rfl rfl rfl rfl d4_40 rfl (by decide) rfl (by decide) (by decide) (by decide) allWs0 (fun T1 h1 v1 X1 K1 Q1 => ?_)
  obtain ⟨rfl, rfl⟩ := Q1
  show Runs p e below (T1.setTop (mkF m 43 #[.val (.ref a), .val (.int (3 : Int32))] [(.int (if own_eqs (own_eqf P) 3 3 = true then (1 : Int32) else 0))])) _
  by_cases hc2 : own_eqs (own_eqf P) 3 3 = true
  · refine X1.ifNo (pc' := 46) d4_43 (by rw [if_pos hc2]; decide) rfl ?_
    refine X1.iconst (pc' := 47) (z := 3) d4_46 rfl rfl ?_
    exact X1.ireturn rfl d4_47 (by decide) (by decide) ⟨by rw [show own_bd (own_eqf P) 3 = 3 by simp [own_bd, hc2]]; rfl, rfl⟩
  · refine X1.ifYes (pc' := 48) d4_43 (by rw [if_neg hc2]; decide) (by decide) (by decide) ?_
    refine X1.iloadN (pc' := 49) d4_48 rfl rfl ?_
    refine X1.iconst (pc' := 50) (z := 2) d4_49 rfl rfl ?_
    refine X1.icmpNo (pc' := 53) d4_50 (by decide) rfl ?_
    refine X1.aloadN (pc' := 54) d4_53 rfl rfl rfl ?_
    refine X1.iloadN (pc' := 55) d4_54 rfl rfl ?_
    refine X1.iconst (pc' := 56) (z := 2) d4_55 rfl rfl ?_
    refine X1.callS (pc' := 59) (W := 0) (argsL := [(.ref a), (.int (3 : Int32)), (.int (2 : Int32))]) (rest := []) (ct5_3_2 l Z a0 hw a P n h0 Va hn) (wd_16 hw) (wd_17 hw) (wd_3 hw) (wd_18 hw) (by decide) pd_0 rfl rfl rfl rfl d4_56 rfl (by decide) rfl (by decide) (by decide) (by decide) allWs0 (fun T3 h3 v3 X3 K3 Q3 => ?_)
    obtain ⟨rfl, rfl⟩ := Q3
    show Runs p e below (T3.setTop (mkF m 59 #[.val (.ref a), .val (.int (3 : Int32))] [(.int (if own_eqs (own_eqf P) 3 2 = true then (1 : Int32) else 0))])) _
    by_cases hc4 : own_eqs (own_eqf P) 3 2 = true
    · refine X3.ifNo (pc' := 62) d4_59 (by rw [if_pos hc4]; decide) rfl ?_
      refine X3.iconst (pc' := 63) (z := 2) d4_62 rfl rfl ?_
      exact X3.ireturn rfl d4_63 (by decide) (by decide) ⟨by rw [show own_bd (own_eqf P) 3 = 2 by simp [own_bd, hc2, hc4]]; rfl, rfl⟩
    · refine X3.ifYes (pc' := 64) d4_59 (by rw [if_neg hc4]; decide) (by decide) (by decide) ?_
      refine X3.iloadN (pc' := 65) d4_64 rfl rfl ?_
      refine X3.iconst (pc' := 66) (z := 1) d4_65 rfl rfl ?_
      refine X3.icmpNo (pc' := 69) d4_66 (by decide) rfl ?_
      refine X3.aloadN (pc' := 70) d4_69 rfl rfl rfl ?_
      refine X3.iloadN (pc' := 71) d4_70 rfl rfl ?_
      refine X3.iconst (pc' := 72) (z := 1) d4_71 rfl rfl ?_
      refine X3.callS (pc' := 75) (W := 0) (argsL := [(.ref a), (.int (3 : Int32)), (.int (1 : Int32))]) (rest := []) (ct5_3_1 l Z a0 hw a P n h0 Va hn) (wd_16 hw) (wd_17 hw) (wd_3 hw) (wd_18 hw) (by decide) pd_0 rfl rfl rfl rfl d4_72 rfl (by decide) rfl (by decide) (by decide) (by decide) allWs0 (fun T5 h5 v5 X5 K5 Q5 => ?_)
      obtain ⟨rfl, rfl⟩ := Q5
      show Runs p e below (T5.setTop (mkF m 75 #[.val (.ref a), .val (.int (3 : Int32))] [(.int (if own_eqs (own_eqf P) 3 1 = true then (1 : Int32) else 0))])) _
      by_cases hc6 : own_eqs (own_eqf P) 3 1 = true
      · refine X5.ifNo (pc' := 78) d4_75 (by rw [if_pos hc6]; decide) rfl ?_
        refine X5.iconst (pc' := 79) (z := 1) d4_78 rfl rfl ?_
        exact X5.ireturn rfl d4_79 (by decide) (by decide) ⟨by rw [show own_bd (own_eqf P) 3 = 1 by simp [own_bd, hc2, hc4, hc6]]; rfl, rfl⟩
      · refine X5.ifYes (pc' := 80) d4_75 (by rw [if_neg hc6]; decide) (by decide) (by decide) ?_
        refine X5.iconst (pc' := 81) (z := 0) d4_80 rfl rfl ?_
        exact X5.ireturn rfl d4_81 (by decide) (by decide) ⟨by rw [show own_bd (own_eqf P) 3 = 0 by simp [own_bd, hc2, hc4, hc6]]; rfl, rfl⟩
set_option maxRecDepth 65536 in
set_option maxHeartbeats 40000000 in
theorem ct4_4 (l : Launch) (Z : State) (a0 : Array Value) (hw : ∀ d ∈ tables_1, d.before a0 Z = true) (a : Addr) (P : Nat → Int32) (n : Nat) (h0 : Heap) (Va : Lst Z h0 a .int (own_tn n P)) (hn : 4 < n) :
    Ct l Z y4 method_4_code 2 (some .int) ({ frames := 1, cells := 0, slots := 0, locals := 15 } : Room) #[(.ref a), (.int (4 : Int32))] h0 [] (fun v h => v = some (.int (own_bd (own_eqf P) 4).toInt32) ∧ h0 = h) := by
  refine Ct.of (plainFor_of_name (by first | (simp [plainName, overriddenIn]; done) | decide +kernel)) ?_
  intro p e s m below meth c T0 X0
  refine Runs.top (g' := mkF m 0 #[.val (.ref a), .val (.int (4 : Int32))] []) (by first | (simp [entryFrame, mkF, argsToLocals, Value.category]; done) | rfl) ?_
  refine X0.iloadN (pc' := 1) d4_0 rfl rfl ?_
  refine X0.iconst (pc' := 2) (z := 5) d4_1 rfl rfl ?_
  refine X0.icmpYes (pc' := 16) d4_2 (by decide) (by decide) (by decide) ?_
  refine X0.iloadN (pc' := 17) d4_16 rfl rfl ?_
  refine X0.iconst (pc' := 18) (z := 4) d4_17 rfl rfl ?_
  refine X0.icmpNo (pc' := 21) d4_18 (by decide) rfl ?_
  refine X0.aloadN (pc' := 22) d4_21 rfl rfl rfl ?_
  refine X0.iloadN (pc' := 23) d4_22 rfl rfl ?_
  refine X0.iconst (pc' := 24) (z := 4) d4_23 rfl rfl ?_
  refine X0.callS (pc' := 27) (W := 0) (argsL := [(.ref a), (.int (4 : Int32)), (.int (4 : Int32))]) (rest := []) (ct5_4_4 l Z a0 hw a P n h0 Va hn) (wd_16 hw) (wd_17 hw) (wd_3 hw) (wd_18 hw) (by decide) pd_0 rfl rfl rfl rfl d4_24 rfl (by decide) rfl (by decide) (by decide) (by decide) allWs0 (fun T1 h1 v1 X1 K1 Q1 => ?_)
  obtain ⟨rfl, rfl⟩ := Q1
  show Runs p e below (T1.setTop (mkF m 27 #[.val (.ref a), .val (.int (4 : Int32))] [(.int (if own_eqs (own_eqf P) 4 4 = true then (1 : Int32) else 0))])) _
  by_cases hc2 : own_eqs (own_eqf P) 4 4 = true
  · refine X1.ifNo (pc' := 30) d4_27 (by rw [if_pos hc2]; decide) rfl ?_
    refine X1.iconst (pc' := 31) (z := 4) d4_30 rfl rfl ?_
    exact X1.ireturn rfl d4_31 (by decide) (by decide) ⟨by rw [show own_bd (own_eqf P) 4 = 4 by simp [own_bd, hc2]]; rfl, rfl⟩
  · refine X1.ifYes (pc' := 32) d4_27 (by rw [if_neg hc2]; decide) (by decide) (by decide) ?_
    refine X1.iloadN (pc' := 33) d4_32 rfl rfl ?_
    refine X1.iconst (pc' := 34) (z := 3) d4_33 rfl rfl ?_
    refine X1.icmpNo (pc' := 37) d4_34 (by decide) rfl ?_
    refine X1.aloadN (pc' := 38) d4_37 rfl rfl rfl ?_
    refine X1.iloadN (pc' := 39) d4_38 rfl rfl ?_
    refine X1.iconst (pc' := 40) (z := 3) d4_39 rfl rfl ?_
    refine X1.callS (pc' := 43) (W := 0) (argsL := [(.ref a), (.int (4 : Int32)), (.int (3 : Int32))]) (rest := []) (ct5_4_3 l Z a0 hw a P n h0 Va hn) (wd_16 hw) (wd_17 hw) (wd_3 hw) (wd_18 hw) (by decide) pd_0 rfl rfl rfl rfl d4_40 rfl (by decide) rfl (by decide) (by decide) (by decide) allWs0 (fun T3 h3 v3 X3 K3 Q3 => ?_)
    obtain ⟨rfl, rfl⟩ := Q3
    show Runs p e below (T3.setTop (mkF m 43 #[.val (.ref a), .val (.int (4 : Int32))] [(.int (if own_eqs (own_eqf P) 4 3 = true then (1 : Int32) else 0))])) _
    by_cases hc4 : own_eqs (own_eqf P) 4 3 = true
    · refine X3.ifNo (pc' := 46) d4_43 (by rw [if_pos hc4]; decide) rfl ?_
      refine X3.iconst (pc' := 47) (z := 3) d4_46 rfl rfl ?_
      exact X3.ireturn rfl d4_47 (by decide) (by decide) ⟨by rw [show own_bd (own_eqf P) 4 = 3 by simp [own_bd, hc2, hc4]]; rfl, rfl⟩
    · refine X3.ifYes (pc' := 48) d4_43 (by rw [if_neg hc4]; decide) (by decide) (by decide) ?_
      refine X3.iloadN (pc' := 49) d4_48 rfl rfl ?_
      refine X3.iconst (pc' := 50) (z := 2) d4_49 rfl rfl ?_
      refine X3.icmpNo (pc' := 53) d4_50 (by decide) rfl ?_
      refine X3.aloadN (pc' := 54) d4_53 rfl rfl rfl ?_
      refine X3.iloadN (pc' := 55) d4_54 rfl rfl ?_
      refine X3.iconst (pc' := 56) (z := 2) d4_55 rfl rfl ?_
      refine X3.callS (pc' := 59) (W := 0) (argsL := [(.ref a), (.int (4 : Int32)), (.int (2 : Int32))]) (rest := []) (ct5_4_2 l Z a0 hw a P n h0 Va hn) (wd_16 hw) (wd_17 hw) (wd_3 hw) (wd_18 hw) (by decide) pd_0 rfl rfl rfl rfl d4_56 rfl (by decide) rfl (by decide) (by decide) (by decide) allWs0 (fun T5 h5 v5 X5 K5 Q5 => ?_)
      obtain ⟨rfl, rfl⟩ := Q5
      show Runs p e below (T5.setTop (mkF m 59 #[.val (.ref a), .val (.int (4 : Int32))] [(.int (if own_eqs (own_eqf P) 4 2 = true then (1 : Int32) else 0))])) _
      by_cases hc6 : own_eqs (own_eqf P) 4 2 = true
      · refine X5.ifNo (pc' := 62) d4_59 (by rw [if_pos hc6]; decide) rfl ?_
        refine X5.iconst (pc' := 63) (z := 2) d4_62 rfl rfl ?_
        exact X5.ireturn rfl d4_63 (by decide) (by decide) ⟨by rw [show own_bd (own_eqf P) 4 = 2 by simp [own_bd, hc2, hc4, hc6]]; rfl, rfl⟩
      · refine X5.ifYes (pc' := 64) d4_59 (by rw [if_neg hc6]; decide) (by decide) (by decide) ?_
        refine X5.iloadN (pc' := 65) d4_64 rfl rfl ?_
        refine X5.iconst (pc' := 66) (z := 1) d4_65 rfl rfl ?_
        refine X5.icmpNo (pc' := 69) d4_66 (by decide) rfl ?_
        refine X5.aloadN (pc' := 70) d4_69 rfl rfl rfl ?_
        refine X5.iloadN (pc' := 71) d4_70 rfl rfl ?_
        refine X5.iconst (pc' := 72) (z := 1) d4_71 rfl rfl ?_
        refine X5.callS (pc' := 75) (W := 0) (argsL := [(.ref a), (.int (4 : Int32)), (.int (1 : Int32))]) (rest := []) (ct5_4_1 l Z a0 hw a P n h0 Va hn) (wd_16 hw) (wd_17 hw) (wd_3 hw) (wd_18 hw) (by decide) pd_0 rfl rfl rfl rfl d4_72 rfl (by decide) rfl (by decide) (by decide) (by decide) allWs0 (fun T7 h7 v7 X7 K7 Q7 => ?_)
        obtain ⟨rfl, rfl⟩ := Q7
        show Runs p e below (T7.setTop (mkF m 75 #[.val (.ref a), .val (.int (4 : Int32))] [(.int (if own_eqs (own_eqf P) 4 1 = true then (1 : Int32) else 0))])) _
        by_cases hc8 : own_eqs (own_eqf P) 4 1 = true
        · refine X7.ifNo (pc' := 78) d4_75 (by rw [if_pos hc8]; decide) rfl ?_
          refine X7.iconst (pc' := 79) (z := 1) d4_78 rfl rfl ?_
          exact X7.ireturn rfl d4_79 (by decide) (by decide) ⟨by rw [show own_bd (own_eqf P) 4 = 1 by simp [own_bd, hc2, hc4, hc6, hc8]]; rfl, rfl⟩
        · refine X7.ifYes (pc' := 80) d4_75 (by rw [if_neg hc8]; decide) (by decide) (by decide) ?_
          refine X7.iconst (pc' := 81) (z := 0) d4_80 rfl rfl ?_
          exact X7.ireturn rfl d4_81 (by decide) (by decide) ⟨by rw [show own_bd (own_eqf P) 4 = 0 by simp [own_bd, hc2, hc4, hc6, hc8]]; rfl, rfl⟩
set_option maxRecDepth 65536 in
set_option maxHeartbeats 40000000 in
theorem ct4_5 (l : Launch) (Z : State) (a0 : Array Value) (hw : ∀ d ∈ tables_1, d.before a0 Z = true) (a : Addr) (P : Nat → Int32) (n : Nat) (h0 : Heap) (Va : Lst Z h0 a .int (own_tn n P)) (hn : 5 < n) :
    Ct l Z y4 method_4_code 2 (some .int) ({ frames := 1, cells := 0, slots := 0, locals := 15 } : Room) #[(.ref a), (.int (5 : Int32))] h0 [] (fun v h => v = some (.int (own_bd (own_eqf P) 5).toInt32) ∧ h0 = h) := by
  refine Ct.of (plainFor_of_name (by first | (simp [plainName, overriddenIn]; done) | decide +kernel)) ?_
  intro p e s m below meth c T0 X0
  refine Runs.top (g' := mkF m 0 #[.val (.ref a), .val (.int (5 : Int32))] []) (by first | (simp [entryFrame, mkF, argsToLocals, Value.category]; done) | rfl) ?_
  refine X0.iloadN (pc' := 1) d4_0 rfl rfl ?_
  refine X0.iconst (pc' := 2) (z := 5) d4_1 rfl rfl ?_
  refine X0.icmpNo (pc' := 5) d4_2 (by decide) rfl ?_
  refine X0.aloadN (pc' := 6) d4_5 rfl rfl rfl ?_
  refine X0.iloadN (pc' := 7) d4_6 rfl rfl ?_
  refine X0.iconst (pc' := 8) (z := 5) d4_7 rfl rfl ?_
  refine X0.callS (pc' := 11) (W := 0) (argsL := [(.ref a), (.int (5 : Int32)), (.int (5 : Int32))]) (rest := []) (ct5_5_5 l Z a0 hw a P n h0 Va hn) (wd_16 hw) (wd_17 hw) (wd_3 hw) (wd_18 hw) (by decide) pd_0 rfl rfl rfl rfl d4_8 rfl (by decide) rfl (by decide) (by decide) (by decide) allWs0 (fun T1 h1 v1 X1 K1 Q1 => ?_)
  obtain ⟨rfl, rfl⟩ := Q1
  show Runs p e below (T1.setTop (mkF m 11 #[.val (.ref a), .val (.int (5 : Int32))] [(.int (if own_eqs (own_eqf P) 5 5 = true then (1 : Int32) else 0))])) _
  by_cases hc2 : own_eqs (own_eqf P) 5 5 = true
  · refine X1.ifNo (pc' := 14) d4_11 (by rw [if_pos hc2]; decide) rfl ?_
    refine X1.iconst (pc' := 15) (z := 5) d4_14 rfl rfl ?_
    exact X1.ireturn rfl d4_15 (by decide) (by decide) ⟨by rw [show own_bd (own_eqf P) 5 = 5 by simp [own_bd, hc2]]; rfl, rfl⟩
  · refine X1.ifYes (pc' := 16) d4_11 (by rw [if_neg hc2]; decide) (by decide) (by decide) ?_
    refine X1.iloadN (pc' := 17) d4_16 rfl rfl ?_
    refine X1.iconst (pc' := 18) (z := 4) d4_17 rfl rfl ?_
    refine X1.icmpNo (pc' := 21) d4_18 (by decide) rfl ?_
    refine X1.aloadN (pc' := 22) d4_21 rfl rfl rfl ?_
    refine X1.iloadN (pc' := 23) d4_22 rfl rfl ?_
    refine X1.iconst (pc' := 24) (z := 4) d4_23 rfl rfl ?_
    refine X1.callS (pc' := 27) (W := 0) (argsL := [(.ref a), (.int (5 : Int32)), (.int (4 : Int32))]) (rest := []) (ct5_5_4 l Z a0 hw a P n h0 Va hn) (wd_16 hw) (wd_17 hw) (wd_3 hw) (wd_18 hw) (by decide) pd_0 rfl rfl rfl rfl d4_24 rfl (by decide) rfl (by decide) (by decide) (by decide) allWs0 (fun T3 h3 v3 X3 K3 Q3 => ?_)
    obtain ⟨rfl, rfl⟩ := Q3
    show Runs p e below (T3.setTop (mkF m 27 #[.val (.ref a), .val (.int (5 : Int32))] [(.int (if own_eqs (own_eqf P) 5 4 = true then (1 : Int32) else 0))])) _
    by_cases hc4 : own_eqs (own_eqf P) 5 4 = true
    · refine X3.ifNo (pc' := 30) d4_27 (by rw [if_pos hc4]; decide) rfl ?_
      refine X3.iconst (pc' := 31) (z := 4) d4_30 rfl rfl ?_
      exact X3.ireturn rfl d4_31 (by decide) (by decide) ⟨by rw [show own_bd (own_eqf P) 5 = 4 by simp [own_bd, hc2, hc4]]; rfl, rfl⟩
    · refine X3.ifYes (pc' := 32) d4_27 (by rw [if_neg hc4]; decide) (by decide) (by decide) ?_
      refine X3.iloadN (pc' := 33) d4_32 rfl rfl ?_
      refine X3.iconst (pc' := 34) (z := 3) d4_33 rfl rfl ?_
      refine X3.icmpNo (pc' := 37) d4_34 (by decide) rfl ?_
      refine X3.aloadN (pc' := 38) d4_37 rfl rfl rfl ?_
      refine X3.iloadN (pc' := 39) d4_38 rfl rfl ?_
      refine X3.iconst (pc' := 40) (z := 3) d4_39 rfl rfl ?_
      refine X3.callS (pc' := 43) (W := 0) (argsL := [(.ref a), (.int (5 : Int32)), (.int (3 : Int32))]) (rest := []) (ct5_5_3 l Z a0 hw a P n h0 Va hn) (wd_16 hw) (wd_17 hw) (wd_3 hw) (wd_18 hw) (by decide) pd_0 rfl rfl rfl rfl d4_40 rfl (by decide) rfl (by decide) (by decide) (by decide) allWs0 (fun T5 h5 v5 X5 K5 Q5 => ?_)
      obtain ⟨rfl, rfl⟩ := Q5
      show Runs p e below (T5.setTop (mkF m 43 #[.val (.ref a), .val (.int (5 : Int32))] [(.int (if own_eqs (own_eqf P) 5 3 = true then (1 : Int32) else 0))])) _
      by_cases hc6 : own_eqs (own_eqf P) 5 3 = true
      · refine X5.ifNo (pc' := 46) d4_43 (by rw [if_pos hc6]; decide) rfl ?_
        refine X5.iconst (pc' := 47) (z := 3) d4_46 rfl rfl ?_
        exact X5.ireturn rfl d4_47 (by decide) (by decide) ⟨by rw [show own_bd (own_eqf P) 5 = 3 by simp [own_bd, hc2, hc4, hc6]]; rfl, rfl⟩
      · refine X5.ifYes (pc' := 48) d4_43 (by rw [if_neg hc6]; decide) (by decide) (by decide) ?_
        refine X5.iloadN (pc' := 49) d4_48 rfl rfl ?_
        refine X5.iconst (pc' := 50) (z := 2) d4_49 rfl rfl ?_
        refine X5.icmpNo (pc' := 53) d4_50 (by decide) rfl ?_
        refine X5.aloadN (pc' := 54) d4_53 rfl rfl rfl ?_
        refine X5.iloadN (pc' := 55) d4_54 rfl rfl ?_
        refine X5.iconst (pc' := 56) (z := 2) d4_55 rfl rfl ?_
        refine X5.callS (pc' := 59) (W := 0) (argsL := [(.ref a), (.int (5 : Int32)), (.int (2 : Int32))]) (rest := []) (ct5_5_2 l Z a0 hw a P n h0 Va hn) (wd_16 hw) (wd_17 hw) (wd_3 hw) (wd_18 hw) (by decide) pd_0 rfl rfl rfl rfl d4_56 rfl (by decide) rfl (by decide) (by decide) (by decide) allWs0 (fun T7 h7 v7 X7 K7 Q7 => ?_)
        obtain ⟨rfl, rfl⟩ := Q7
        show Runs p e below (T7.setTop (mkF m 59 #[.val (.ref a), .val (.int (5 : Int32))] [(.int (if own_eqs (own_eqf P) 5 2 = true then (1 : Int32) else 0))])) _
        by_cases hc8 : own_eqs (own_eqf P) 5 2 = true
        · refine X7.ifNo (pc' := 62) d4_59 (by rw [if_pos hc8]; decide) rfl ?_
          refine X7.iconst (pc' := 63) (z := 2) d4_62 rfl rfl ?_
          exact X7.ireturn rfl d4_63 (by decide) (by decide) ⟨by rw [show own_bd (own_eqf P) 5 = 2 by simp [own_bd, hc2, hc4, hc6, hc8]]; rfl, rfl⟩
        · refine X7.ifYes (pc' := 64) d4_59 (by rw [if_neg hc8]; decide) (by decide) (by decide) ?_
          refine X7.iloadN (pc' := 65) d4_64 rfl rfl ?_
          refine X7.iconst (pc' := 66) (z := 1) d4_65 rfl rfl ?_
          refine X7.icmpNo (pc' := 69) d4_66 (by decide) rfl ?_
          refine X7.aloadN (pc' := 70) d4_69 rfl rfl rfl ?_
          refine X7.iloadN (pc' := 71) d4_70 rfl rfl ?_
          refine X7.iconst (pc' := 72) (z := 1) d4_71 rfl rfl ?_
          refine X7.callS (pc' := 75) (W := 0) (argsL := [(.ref a), (.int (5 : Int32)), (.int (1 : Int32))]) (rest := []) (ct5_5_1 l Z a0 hw a P n h0 Va hn) (wd_16 hw) (wd_17 hw) (wd_3 hw) (wd_18 hw) (by decide) pd_0 rfl rfl rfl rfl d4_72 rfl (by decide) rfl (by decide) (by decide) (by decide) allWs0 (fun T9 h9 v9 X9 K9 Q9 => ?_)
          obtain ⟨rfl, rfl⟩ := Q9
          show Runs p e below (T9.setTop (mkF m 75 #[.val (.ref a), .val (.int (5 : Int32))] [(.int (if own_eqs (own_eqf P) 5 1 = true then (1 : Int32) else 0))])) _
          by_cases hc10 : own_eqs (own_eqf P) 5 1 = true
          · refine X9.ifNo (pc' := 78) d4_75 (by rw [if_pos hc10]; decide) rfl ?_
            refine X9.iconst (pc' := 79) (z := 1) d4_78 rfl rfl ?_
            exact X9.ireturn rfl d4_79 (by decide) (by decide) ⟨by rw [show own_bd (own_eqf P) 5 = 1 by simp [own_bd, hc2, hc4, hc6, hc8, hc10]]; rfl, rfl⟩
          · refine X9.ifYes (pc' := 80) d4_75 (by rw [if_neg hc10]; decide) (by decide) (by decide) ?_
            refine X9.iconst (pc' := 81) (z := 0) d4_80 rfl rfl ?_
            exact X9.ireturn rfl d4_81 (by decide) (by decide) ⟨by rw [show own_bd (own_eqf P) 5 = 0 by simp [own_bd, hc2, hc4, hc6, hc8, hc10]]; rfl, rfl⟩
set_option maxRecDepth 65536 in
set_option maxHeartbeats 40000000 in
theorem ct3g (l : Launch) (Z : State) (a0 : Array Value) (hw : ∀ d ∈ tables_1, d.before a0 Z = true) (t a : Addr) (i n : Int32) (h0 : Heap) (hge : ¬ i < n) :
    Ct l Z y3 method_5_code 4 (some .boolean) ({ frames := 0, cells := 0, slots := 0, locals := 0 } : Room) #[(.ref t), (.ref a), (.int i), (.int n)] h0 [] (fun v h => v = some (.int (1 : Int32)) ∧ h0 = h) := by
  refine Ct.of (plainFor_of_name (by first | (simp [plainName, overriddenIn]; done) | decide +kernel)) ?_
  intro p e s m below meth c T0 X0
  refine Runs.top (g' := mkF m 0 #[.val (.ref t), .val (.ref a), .val (.int i), .val (.int n)] []) (by first | (simp [entryFrame, mkF, argsToLocals, Value.category]; done) | rfl) ?_
  refine X0.iloadN (pc' := 1) d3_0 rfl rfl ?_
  refine X0.iloadN (pc' := 2) d3_1 rfl rfl ?_
  refine X0.icmpYes (pc' := 16) d3_2 (flt hge).2.1 (by decide) (by decide) ?_
  refine X0.iconst (pc' := 17) (z := 1) d3_16 rfl rfl ?_
  refine X0.goto (pc' := 21) d3_17 (by decide) (by decide) ?_
  exact X0.zreturn (z' := (1 : Int32)) rfl (by simp) d3_21 rfl (by decide) (by decide) ⟨rfl, rfl⟩
set_option maxRecDepth 65536 in
set_option maxHeartbeats 40000000 in
theorem ct3_0 (l : Launch) (Z : State) (a0 : Array Value) (hw : ∀ d ∈ tables_1, d.before a0 Z = true) (t a : Addr) (P F : Nat → Int32) (n : Nat) (z : Int32) (h0 : Heap) (Va : Lst Z h0 a .int (own_tn n P)) (Vt : Lst Z h0 t .int (own_tn n F)) (hn : 0 < n) (hz : (0 : Int32) < z) (hb : F 0 = (own_bd (own_eqf P) 0).toInt32) :
    Ct l Z y3 method_5_code 4 (some .boolean) ({ frames := 2, cells := 0, slots := 0, locals := 29 } : Room) #[(.ref t), (.ref a), (.int (0 : Int32)), (.int z)] h0 [] (fun v h => v = some (.int (1 : Int32)) ∧ h0 = h) := by
  refine Ct.of (plainFor_of_name (by first | (simp [plainName, overriddenIn]; done) | decide +kernel)) ?_
  intro p e s m below meth c T0 X0
  refine Runs.top (g' := mkF m 0 #[.val (.ref t), .val (.ref a), .val (.int (0 : Int32)), .val (.int z)] []) (by first | (simp [entryFrame, mkF, argsToLocals, Value.category]; done) | rfl) ?_
  refine X0.iloadN (pc' := 1) d3_0 rfl rfl ?_
  refine X0.iloadN (pc' := 2) d3_1 rfl rfl ?_
  refine X0.icmpNo (pc' := 5) d3_2 (tlt hz).2.1 rfl ?_
  refine X0.aloadN (pc' := 6) d3_5 rfl rfl rfl ?_
  refine X0.iloadN (pc' := 7) d3_6 rfl rfl ?_
  refine X0.iaload (pc' := 8) (v := (.int (F 0))) Vt (own_il (z := (0 : Int32)) (j := 0) rfl hn) (own_tn_at (z := (0 : Int32)) (j := 0) rfl hn) d3_7 rfl ?_
  refine X0.aloadN (pc' := 9) d3_8 rfl rfl rfl ?_
  refine X0.iloadN (pc' := 10) d3_9 rfl rfl ?_
  refine X0.callS (pc' := 13) (W := 1) (argsL := [(.ref a), (.int (0 : Int32))]) (rest := [(.int (F 0))]) (ct4_0 l Z a0 hw a P n h0 Va hn) (wd_13 hw) (wd_14 hw) (wd_3 hw) (wd_15 hw) (by decide) pd_1 rfl rfl rfl rfl d3_10 rfl (by decide) rfl (by decide) (by decide) (by decide) allWs0 (fun T1 h1 v1 X1 K1 Q1 => ?_)
  obtain ⟨rfl, rfl⟩ := Q1
  show Runs p e below (T1.setTop (mkF m 13 #[.val (.ref t), .val (.ref a), .val (.int (0 : Int32)), .val (.int z)] [(.int (own_bd (own_eqf P) 0).toInt32), (.int (F 0))])) _
  refine X1.icmpNo (pc' := 16) d3_13 (teq hb).2 rfl ?_
  refine X1.iconst (pc' := 17) (z := 1) d3_16 rfl rfl ?_
  refine X1.goto (pc' := 21) d3_17 (by decide) (by decide) ?_
  exact X1.zreturn (z' := (1 : Int32)) rfl (by simp) d3_21 rfl (by decide) (by decide) ⟨rfl, rfl⟩
set_option maxRecDepth 65536 in
set_option maxHeartbeats 40000000 in
theorem ct3_1 (l : Launch) (Z : State) (a0 : Array Value) (hw : ∀ d ∈ tables_1, d.before a0 Z = true) (t a : Addr) (P F : Nat → Int32) (n : Nat) (z : Int32) (h0 : Heap) (Va : Lst Z h0 a .int (own_tn n P)) (Vt : Lst Z h0 t .int (own_tn n F)) (hn : 1 < n) (hz : (1 : Int32) < z) (hb : F 1 = (own_bd (own_eqf P) 1).toInt32) :
    Ct l Z y3 method_5_code 4 (some .boolean) ({ frames := 2, cells := 0, slots := 0, locals := 29 } : Room) #[(.ref t), (.ref a), (.int (1 : Int32)), (.int z)] h0 [] (fun v h => v = some (.int (1 : Int32)) ∧ h0 = h) := by
  refine Ct.of (plainFor_of_name (by first | (simp [plainName, overriddenIn]; done) | decide +kernel)) ?_
  intro p e s m below meth c T0 X0
  refine Runs.top (g' := mkF m 0 #[.val (.ref t), .val (.ref a), .val (.int (1 : Int32)), .val (.int z)] []) (by first | (simp [entryFrame, mkF, argsToLocals, Value.category]; done) | rfl) ?_
  refine X0.iloadN (pc' := 1) d3_0 rfl rfl ?_
  refine X0.iloadN (pc' := 2) d3_1 rfl rfl ?_
  refine X0.icmpNo (pc' := 5) d3_2 (tlt hz).2.1 rfl ?_
  refine X0.aloadN (pc' := 6) d3_5 rfl rfl rfl ?_
  refine X0.iloadN (pc' := 7) d3_6 rfl rfl ?_
  refine X0.iaload (pc' := 8) (v := (.int (F 1))) Vt (own_il (z := (1 : Int32)) (j := 1) rfl hn) (own_tn_at (z := (1 : Int32)) (j := 1) rfl hn) d3_7 rfl ?_
  refine X0.aloadN (pc' := 9) d3_8 rfl rfl rfl ?_
  refine X0.iloadN (pc' := 10) d3_9 rfl rfl ?_
  refine X0.callS (pc' := 13) (W := 1) (argsL := [(.ref a), (.int (1 : Int32))]) (rest := [(.int (F 1))]) (ct4_1 l Z a0 hw a P n h0 Va hn) (wd_13 hw) (wd_14 hw) (wd_3 hw) (wd_15 hw) (by decide) pd_1 rfl rfl rfl rfl d3_10 rfl (by decide) rfl (by decide) (by decide) (by decide) allWs0 (fun T1 h1 v1 X1 K1 Q1 => ?_)
  obtain ⟨rfl, rfl⟩ := Q1
  show Runs p e below (T1.setTop (mkF m 13 #[.val (.ref t), .val (.ref a), .val (.int (1 : Int32)), .val (.int z)] [(.int (own_bd (own_eqf P) 1).toInt32), (.int (F 1))])) _
  refine X1.icmpNo (pc' := 16) d3_13 (teq hb).2 rfl ?_
  refine X1.iconst (pc' := 17) (z := 1) d3_16 rfl rfl ?_
  refine X1.goto (pc' := 21) d3_17 (by decide) (by decide) ?_
  exact X1.zreturn (z' := (1 : Int32)) rfl (by simp) d3_21 rfl (by decide) (by decide) ⟨rfl, rfl⟩
set_option maxRecDepth 65536 in
set_option maxHeartbeats 40000000 in
theorem ct3_2 (l : Launch) (Z : State) (a0 : Array Value) (hw : ∀ d ∈ tables_1, d.before a0 Z = true) (t a : Addr) (P F : Nat → Int32) (n : Nat) (z : Int32) (h0 : Heap) (Va : Lst Z h0 a .int (own_tn n P)) (Vt : Lst Z h0 t .int (own_tn n F)) (hn : 2 < n) (hz : (2 : Int32) < z) (hb : F 2 = (own_bd (own_eqf P) 2).toInt32) :
    Ct l Z y3 method_5_code 4 (some .boolean) ({ frames := 2, cells := 0, slots := 0, locals := 29 } : Room) #[(.ref t), (.ref a), (.int (2 : Int32)), (.int z)] h0 [] (fun v h => v = some (.int (1 : Int32)) ∧ h0 = h) := by
  refine Ct.of (plainFor_of_name (by first | (simp [plainName, overriddenIn]; done) | decide +kernel)) ?_
  intro p e s m below meth c T0 X0
  refine Runs.top (g' := mkF m 0 #[.val (.ref t), .val (.ref a), .val (.int (2 : Int32)), .val (.int z)] []) (by first | (simp [entryFrame, mkF, argsToLocals, Value.category]; done) | rfl) ?_
  refine X0.iloadN (pc' := 1) d3_0 rfl rfl ?_
  refine X0.iloadN (pc' := 2) d3_1 rfl rfl ?_
  refine X0.icmpNo (pc' := 5) d3_2 (tlt hz).2.1 rfl ?_
  refine X0.aloadN (pc' := 6) d3_5 rfl rfl rfl ?_
  refine X0.iloadN (pc' := 7) d3_6 rfl rfl ?_
  refine X0.iaload (pc' := 8) (v := (.int (F 2))) Vt (own_il (z := (2 : Int32)) (j := 2) rfl hn) (own_tn_at (z := (2 : Int32)) (j := 2) rfl hn) d3_7 rfl ?_
  refine X0.aloadN (pc' := 9) d3_8 rfl rfl rfl ?_
  refine X0.iloadN (pc' := 10) d3_9 rfl rfl ?_
  refine X0.callS (pc' := 13) (W := 1) (argsL := [(.ref a), (.int (2 : Int32))]) (rest := [(.int (F 2))]) (ct4_2 l Z a0 hw a P n h0 Va hn) (wd_13 hw) (wd_14 hw) (wd_3 hw) (wd_15 hw) (by decide) pd_1 rfl rfl rfl rfl d3_10 rfl (by decide) rfl (by decide) (by decide) (by decide) allWs0 (fun T1 h1 v1 X1 K1 Q1 => ?_)
  obtain ⟨rfl, rfl⟩ := Q1
  show Runs p e below (T1.setTop (mkF m 13 #[.val (.ref t), .val (.ref a), .val (.int (2 : Int32)), .val (.int z)] [(.int (own_bd (own_eqf P) 2).toInt32), (.int (F 2))])) _
  refine X1.icmpNo (pc' := 16) d3_13 (teq hb).2 rfl ?_
  refine X1.iconst (pc' := 17) (z := 1) d3_16 rfl rfl ?_
  refine X1.goto (pc' := 21) d3_17 (by decide) (by decide) ?_
  exact X1.zreturn (z' := (1 : Int32)) rfl (by simp) d3_21 rfl (by decide) (by decide) ⟨rfl, rfl⟩
set_option maxRecDepth 65536 in
set_option maxHeartbeats 40000000 in
theorem ct3_3 (l : Launch) (Z : State) (a0 : Array Value) (hw : ∀ d ∈ tables_1, d.before a0 Z = true) (t a : Addr) (P F : Nat → Int32) (n : Nat) (z : Int32) (h0 : Heap) (Va : Lst Z h0 a .int (own_tn n P)) (Vt : Lst Z h0 t .int (own_tn n F)) (hn : 3 < n) (hz : (3 : Int32) < z) (hb : F 3 = (own_bd (own_eqf P) 3).toInt32) :
    Ct l Z y3 method_5_code 4 (some .boolean) ({ frames := 2, cells := 0, slots := 0, locals := 29 } : Room) #[(.ref t), (.ref a), (.int (3 : Int32)), (.int z)] h0 [] (fun v h => v = some (.int (1 : Int32)) ∧ h0 = h) := by
  refine Ct.of (plainFor_of_name (by first | (simp [plainName, overriddenIn]; done) | decide +kernel)) ?_
  intro p e s m below meth c T0 X0
  refine Runs.top (g' := mkF m 0 #[.val (.ref t), .val (.ref a), .val (.int (3 : Int32)), .val (.int z)] []) (by first | (simp [entryFrame, mkF, argsToLocals, Value.category]; done) | rfl) ?_
  refine X0.iloadN (pc' := 1) d3_0 rfl rfl ?_
  refine X0.iloadN (pc' := 2) d3_1 rfl rfl ?_
  refine X0.icmpNo (pc' := 5) d3_2 (tlt hz).2.1 rfl ?_
  refine X0.aloadN (pc' := 6) d3_5 rfl rfl rfl ?_
  refine X0.iloadN (pc' := 7) d3_6 rfl rfl ?_
  refine X0.iaload (pc' := 8) (v := (.int (F 3))) Vt (own_il (z := (3 : Int32)) (j := 3) rfl hn) (own_tn_at (z := (3 : Int32)) (j := 3) rfl hn) d3_7 rfl ?_
  refine X0.aloadN (pc' := 9) d3_8 rfl rfl rfl ?_
  refine X0.iloadN (pc' := 10) d3_9 rfl rfl ?_
  refine X0.callS (pc' := 13) (W := 1) (argsL := [(.ref a), (.int (3 : Int32))]) (rest := [(.int (F 3))]) (ct4_3 l Z a0 hw a P n h0 Va hn) (wd_13 hw) (wd_14 hw) (wd_3 hw) (wd_15 hw) (by decide) pd_1 rfl rfl rfl rfl d3_10 rfl (by decide) rfl (by decide) (by decide) (by decide) allWs0 (fun T1 h1 v1 X1 K1 Q1 => ?_)
  obtain ⟨rfl, rfl⟩ := Q1
  show Runs p e below (T1.setTop (mkF m 13 #[.val (.ref t), .val (.ref a), .val (.int (3 : Int32)), .val (.int z)] [(.int (own_bd (own_eqf P) 3).toInt32), (.int (F 3))])) _
  refine X1.icmpNo (pc' := 16) d3_13 (teq hb).2 rfl ?_
  refine X1.iconst (pc' := 17) (z := 1) d3_16 rfl rfl ?_
  refine X1.goto (pc' := 21) d3_17 (by decide) (by decide) ?_
  exact X1.zreturn (z' := (1 : Int32)) rfl (by simp) d3_21 rfl (by decide) (by decide) ⟨rfl, rfl⟩
set_option maxRecDepth 65536 in
set_option maxHeartbeats 40000000 in
theorem ct3_4 (l : Launch) (Z : State) (a0 : Array Value) (hw : ∀ d ∈ tables_1, d.before a0 Z = true) (t a : Addr) (P F : Nat → Int32) (n : Nat) (z : Int32) (h0 : Heap) (Va : Lst Z h0 a .int (own_tn n P)) (Vt : Lst Z h0 t .int (own_tn n F)) (hn : 4 < n) (hz : (4 : Int32) < z) (hb : F 4 = (own_bd (own_eqf P) 4).toInt32) :
    Ct l Z y3 method_5_code 4 (some .boolean) ({ frames := 2, cells := 0, slots := 0, locals := 29 } : Room) #[(.ref t), (.ref a), (.int (4 : Int32)), (.int z)] h0 [] (fun v h => v = some (.int (1 : Int32)) ∧ h0 = h) := by
  refine Ct.of (plainFor_of_name (by first | (simp [plainName, overriddenIn]; done) | decide +kernel)) ?_
  intro p e s m below meth c T0 X0
  refine Runs.top (g' := mkF m 0 #[.val (.ref t), .val (.ref a), .val (.int (4 : Int32)), .val (.int z)] []) (by first | (simp [entryFrame, mkF, argsToLocals, Value.category]; done) | rfl) ?_
  refine X0.iloadN (pc' := 1) d3_0 rfl rfl ?_
  refine X0.iloadN (pc' := 2) d3_1 rfl rfl ?_
  refine X0.icmpNo (pc' := 5) d3_2 (tlt hz).2.1 rfl ?_
  refine X0.aloadN (pc' := 6) d3_5 rfl rfl rfl ?_
  refine X0.iloadN (pc' := 7) d3_6 rfl rfl ?_
  refine X0.iaload (pc' := 8) (v := (.int (F 4))) Vt (own_il (z := (4 : Int32)) (j := 4) rfl hn) (own_tn_at (z := (4 : Int32)) (j := 4) rfl hn) d3_7 rfl ?_
  refine X0.aloadN (pc' := 9) d3_8 rfl rfl rfl ?_
  refine X0.iloadN (pc' := 10) d3_9 rfl rfl ?_
  refine X0.callS (pc' := 13) (W := 1) (argsL := [(.ref a), (.int (4 : Int32))]) (rest := [(.int (F 4))]) (ct4_4 l Z a0 hw a P n h0 Va hn) (wd_13 hw) (wd_14 hw) (wd_3 hw) (wd_15 hw) (by decide) pd_1 rfl rfl rfl rfl d3_10 rfl (by decide) rfl (by decide) (by decide) (by decide) allWs0 (fun T1 h1 v1 X1 K1 Q1 => ?_)
  obtain ⟨rfl, rfl⟩ := Q1
  show Runs p e below (T1.setTop (mkF m 13 #[.val (.ref t), .val (.ref a), .val (.int (4 : Int32)), .val (.int z)] [(.int (own_bd (own_eqf P) 4).toInt32), (.int (F 4))])) _
  refine X1.icmpNo (pc' := 16) d3_13 (teq hb).2 rfl ?_
  refine X1.iconst (pc' := 17) (z := 1) d3_16 rfl rfl ?_
  refine X1.goto (pc' := 21) d3_17 (by decide) (by decide) ?_
  exact X1.zreturn (z' := (1 : Int32)) rfl (by simp) d3_21 rfl (by decide) (by decide) ⟨rfl, rfl⟩
set_option maxRecDepth 65536 in
set_option maxHeartbeats 40000000 in
theorem ct3_5 (l : Launch) (Z : State) (a0 : Array Value) (hw : ∀ d ∈ tables_1, d.before a0 Z = true) (t a : Addr) (P F : Nat → Int32) (n : Nat) (z : Int32) (h0 : Heap) (Va : Lst Z h0 a .int (own_tn n P)) (Vt : Lst Z h0 t .int (own_tn n F)) (hn : 5 < n) (hz : (5 : Int32) < z) (hb : F 5 = (own_bd (own_eqf P) 5).toInt32) :
    Ct l Z y3 method_5_code 4 (some .boolean) ({ frames := 2, cells := 0, slots := 0, locals := 29 } : Room) #[(.ref t), (.ref a), (.int (5 : Int32)), (.int z)] h0 [] (fun v h => v = some (.int (1 : Int32)) ∧ h0 = h) := by
  refine Ct.of (plainFor_of_name (by first | (simp [plainName, overriddenIn]; done) | decide +kernel)) ?_
  intro p e s m below meth c T0 X0
  refine Runs.top (g' := mkF m 0 #[.val (.ref t), .val (.ref a), .val (.int (5 : Int32)), .val (.int z)] []) (by first | (simp [entryFrame, mkF, argsToLocals, Value.category]; done) | rfl) ?_
  refine X0.iloadN (pc' := 1) d3_0 rfl rfl ?_
  refine X0.iloadN (pc' := 2) d3_1 rfl rfl ?_
  refine X0.icmpNo (pc' := 5) d3_2 (tlt hz).2.1 rfl ?_
  refine X0.aloadN (pc' := 6) d3_5 rfl rfl rfl ?_
  refine X0.iloadN (pc' := 7) d3_6 rfl rfl ?_
  refine X0.iaload (pc' := 8) (v := (.int (F 5))) Vt (own_il (z := (5 : Int32)) (j := 5) rfl hn) (own_tn_at (z := (5 : Int32)) (j := 5) rfl hn) d3_7 rfl ?_
  refine X0.aloadN (pc' := 9) d3_8 rfl rfl rfl ?_
  refine X0.iloadN (pc' := 10) d3_9 rfl rfl ?_
  refine X0.callS (pc' := 13) (W := 1) (argsL := [(.ref a), (.int (5 : Int32))]) (rest := [(.int (F 5))]) (ct4_5 l Z a0 hw a P n h0 Va hn) (wd_13 hw) (wd_14 hw) (wd_3 hw) (wd_15 hw) (by decide) pd_1 rfl rfl rfl rfl d3_10 rfl (by decide) rfl (by decide) (by decide) (by decide) allWs0 (fun T1 h1 v1 X1 K1 Q1 => ?_)
  obtain ⟨rfl, rfl⟩ := Q1
  show Runs p e below (T1.setTop (mkF m 13 #[.val (.ref t), .val (.ref a), .val (.int (5 : Int32)), .val (.int z)] [(.int (own_bd (own_eqf P) 5).toInt32), (.int (F 5))])) _
  refine X1.icmpNo (pc' := 16) d3_13 (teq hb).2 rfl ?_
  refine X1.iconst (pc' := 17) (z := 1) d3_16 rfl rfl ?_
  refine X1.goto (pc' := 21) d3_17 (by decide) (by decide) ?_
  exact X1.zreturn (z' := (1 : Int32)) rfl (by simp) d3_21 rfl (by decide) (by decide) ⟨rfl, rfl⟩
def own_pf (s0 s1 s2 s3 s4 s5 : Int32) : Nat → Int32
  | 0 => s0
  | 1 => s1
  | 2 => s2
  | 3 => s3
  | 4 => s4
  | _ => s5
theorem own_pf5 (s0 s1 s2 s3 s4 s5 : Int32) : ∀ i, 5 ≤ i → own_pf s0 s1 s2 s3 s4 s5 i = own_pf s0 s1 s2 s3 s4 s5 5
  | 0, h | 1, h | 2, h | 3, h | 4, h => absurd h (by decide)
  | n + 5, _ => rfl
theorem own_hb {s0 s1 s2 s3 s4 s5 : Int32} {n i : Nat} (hn : n - 1 ≤ 5) (hi : i ≤ n - 1) : own_tb (own_pf s0 s1 s2 s3 s4 s5) n i = (own_bd (own_eqf (own_pf s0 s1 s2 s3 s4 s5)) i).toInt32 := by
  unfold own_tb; rw [own_tab_bd _ (own_pf5 s0 s1 s2 s3 s4 s5) hn hi]
theorem own_seven (q : Int32) : ∀ z, z = (q &&& (2147483647 : Int32)) % (7 : Int32) → z = (0 : Int32) ∨ z = (1 : Int32) ∨ z = (2 : Int32) ∨ z = (3 : Int32) ∨ z = (4 : Int32) ∨ z = (5 : Int32) ∨ z = (6 : Int32) := by
  intro z hz
  have h1 := c_mask q (2147483647 : Int32) 31 (by decide) (by decide)
  have h2 := (c_iremV (q &&& (2147483647 : Int32)) (7 : Int32)).1 (by omega) (by decide)
  rw [← hz] at h2
  have e : (7 : Int32).toInt = 7 := rfl
  rw [e] at h2
  have : z.toInt = 0 ∨ z.toInt = 1 ∨ z.toInt = 2 ∨ z.toInt = 3 ∨ z.toInt = 4 ∨ z.toInt = 5 ∨ z.toInt = 6 := by omega
  rcases this with h | h | h | h | h | h | h <;> simp [← Int32.toInt_inj, h]

set_option maxRecDepth 65536 in
set_option maxHeartbeats 40000000 in
theorem ct0 (l : Launch) (Z : State) (a0 : Array Value) (hw : ∀ d ∈ tables_1, d.before a0 Z = true) (q1 q2 q3 q4 q5 q6 : Int32) (h0 : Heap)  :
    Ct l Z x code maxLocals ret room_1 #[(.int q1), (.int q2), (.int q3), (.int q4), (.int q5), (.int q6)] h0 [] (fun v h => v = some (.int 1)) := by
  refine Ct.of (plainFor_of_name (by first | (simp [plainName, overriddenIn]; done) | decide +kernel)) ?_
  intro p e s m below meth c T0 X0
  refine Runs.top (g' := mkF m 0 #[.val (.int q1), .val (.int q2), .val (.int q3), .val (.int q4), .val (.int q5), .val (.int q6), .unset, .unset, .unset, .unset, .unset, .unset, .unset, .unset, .unset] []) (by first | (simp [entryFrame, mkF, argsToLocals, Value.category, maxLocals]; done) | rfl) ?_
  refine X0.iloadN (pc' := 1) at_0 rfl rfl ?_
  refine X0.ldcInt (pc' := 3) (wd_0 hw) at_1 rfl ?_
  refine X0.iand (pc' := 4) at_3 rfl ?_
  refine X0.bipush (pc' := 6) (z := 7) at_4 rfl rfl ?_
  refine X0.irem (pc' := 7) at_6 (by decide) rfl ?_
  refine X0.istore (pc' := 9) (l' := #[.val (.int q1), .val (.int q2), .val (.int q3), .val (.int q4), .val (.int q5), .val (.int q6), .val (.int ((q2 &&& (2147483647 : Int32)) % (7 : Int32))), .unset, .unset, .unset, .unset, .unset, .unset, .unset, .unset]) at_7 rfl rfl ?_
  refine X0.iloadN (pc' := 10) at_9 rfl rfl ?_
  refine X0.iconst (pc' := 11) (z := 3) at_10 rfl rfl ?_
  refine X0.iand (pc' := 12) at_11 rfl ?_
  refine X0.iloadN (pc' := 13) at_12 rfl rfl ?_
  refine X0.iloadN (pc' := 14) at_13 rfl rfl ?_
  refine X0.iload (pc' := 16) at_14 rfl rfl ?_
  refine X0.iload (pc' := 18) at_16 rfl rfl ?_
  refine X0.callS (pc' := 21) (W := 0) (argsL := [(.int (q1 &&& (3 : Int32))), (.int q3), (.int q4), (.int q5), (.int q6)]) (rest := []) (ct1 l Z a0 hw (q1 &&& (3 : Int32)) q3 q4 q5 q6 h0) (wd_1 hw) (wd_2 hw) (wd_3 hw) (wd_4 hw) (by decide) pd_2 rfl rfl rfl rfl at_18 rfl (by decide) rfl (by decide) (by decide) (by decide) allWs0 (fun T1 h1 v1 X1 K1 Q1 => ?_)
  obtain ⟨⟨s1, rfl⟩, rfl⟩ := Q1
  show Runs p e below (T1.setTop (mkF m 21 #[.val (.int q1), .val (.int q2), .val (.int q3), .val (.int q4), .val (.int q5), .val (.int q6), .val (.int ((q2 &&& (2147483647 : Int32)) % (7 : Int32))), .unset, .unset, .unset, .unset, .unset, .unset, .unset, .unset] [(.int s1)])) _
  refine X1.istore (pc' := 23) (l' := #[.val (.int q1), .val (.int q2), .val (.int q3), .val (.int q4), .val (.int q5), .val (.int q6), .val (.int ((q2 &&& (2147483647 : Int32)) % (7 : Int32))), .val (.int s1), .unset, .unset, .unset, .unset, .unset, .unset, .unset]) at_21 rfl rfl ?_
  refine X1.iloadN (pc' := 24) at_23 rfl rfl ?_
  refine X1.iconst (pc' := 25) (z := 2) at_24 rfl rfl ?_
  refine X1.iushr (pc' := 26) at_25 rfl ?_
  refine X1.iconst (pc' := 27) (z := 3) at_26 rfl rfl ?_
  refine X1.iand (pc' := 28) at_27 rfl ?_
  refine X1.iloadN (pc' := 29) at_28 rfl rfl ?_
  refine X1.iloadN (pc' := 30) at_29 rfl rfl ?_
  refine X1.iload (pc' := 32) at_30 rfl rfl ?_
  refine X1.iload (pc' := 34) at_32 rfl rfl ?_
  refine X1.callS (pc' := 37) (W := 0) (argsL := [(.int (((q1.toUInt32 >>> ((2 : Int32) &&& 31).toUInt32).toInt32) &&& (3 : Int32))), (.int q3), (.int q4), (.int q5), (.int q6)]) (rest := []) (ct1 l Z a0 hw (((q1.toUInt32 >>> ((2 : Int32) &&& 31).toUInt32).toInt32) &&& (3 : Int32)) q3 q4 q5 q6 h0) (wd_1 hw) (wd_2 hw) (wd_3 hw) (wd_4 hw) (by decide) pd_2 rfl rfl rfl rfl at_34 rfl (by decide) rfl (by decide) (by decide) (by decide) allWs0 (fun T2 h2 v2 X2 K2 Q2 => ?_)
  obtain ⟨⟨s2, rfl⟩, rfl⟩ := Q2
  show Runs p e below (T2.setTop (mkF m 37 #[.val (.int q1), .val (.int q2), .val (.int q3), .val (.int q4), .val (.int q5), .val (.int q6), .val (.int ((q2 &&& (2147483647 : Int32)) % (7 : Int32))), .val (.int s1), .unset, .unset, .unset, .unset, .unset, .unset, .unset] [(.int s2)])) _
  refine X2.istore (pc' := 39) (l' := #[.val (.int q1), .val (.int q2), .val (.int q3), .val (.int q4), .val (.int q5), .val (.int q6), .val (.int ((q2 &&& (2147483647 : Int32)) % (7 : Int32))), .val (.int s1), .val (.int s2), .unset, .unset, .unset, .unset, .unset, .unset]) at_37 rfl rfl ?_
  refine X2.iloadN (pc' := 40) at_39 rfl rfl ?_
  refine X2.iconst (pc' := 41) (z := 4) at_40 rfl rfl ?_
  refine X2.iushr (pc' := 42) at_41 rfl ?_
  refine X2.iconst (pc' := 43) (z := 3) at_42 rfl rfl ?_
  refine X2.iand (pc' := 44) at_43 rfl ?_
  refine X2.iloadN (pc' := 45) at_44 rfl rfl ?_
  refine X2.iloadN (pc' := 46) at_45 rfl rfl ?_
  refine X2.iload (pc' := 48) at_46 rfl rfl ?_
  refine X2.iload (pc' := 50) at_48 rfl rfl ?_
  refine X2.callS (pc' := 53) (W := 0) (argsL := [(.int (((q1.toUInt32 >>> ((4 : Int32) &&& 31).toUInt32).toInt32) &&& (3 : Int32))), (.int q3), (.int q4), (.int q5), (.int q6)]) (rest := []) (ct1 l Z a0 hw (((q1.toUInt32 >>> ((4 : Int32) &&& 31).toUInt32).toInt32) &&& (3 : Int32)) q3 q4 q5 q6 h0) (wd_1 hw) (wd_2 hw) (wd_3 hw) (wd_4 hw) (by decide) pd_2 rfl rfl rfl rfl at_50 rfl (by decide) rfl (by decide) (by decide) (by decide) allWs0 (fun T3 h3 v3 X3 K3 Q3 => ?_)
  obtain ⟨⟨s3, rfl⟩, rfl⟩ := Q3
  show Runs p e below (T3.setTop (mkF m 53 #[.val (.int q1), .val (.int q2), .val (.int q3), .val (.int q4), .val (.int q5), .val (.int q6), .val (.int ((q2 &&& (2147483647 : Int32)) % (7 : Int32))), .val (.int s1), .val (.int s2), .unset, .unset, .unset, .unset, .unset, .unset] [(.int s3)])) _
  refine X3.istore (pc' := 55) (l' := #[.val (.int q1), .val (.int q2), .val (.int q3), .val (.int q4), .val (.int q5), .val (.int q6), .val (.int ((q2 &&& (2147483647 : Int32)) % (7 : Int32))), .val (.int s1), .val (.int s2), .val (.int s3), .unset, .unset, .unset, .unset, .unset]) at_53 rfl rfl ?_
  refine X3.iloadN (pc' := 56) at_55 rfl rfl ?_
  refine X3.bipush (pc' := 58) (z := 6) at_56 rfl rfl ?_
  refine X3.iushr (pc' := 59) at_58 rfl ?_
  refine X3.iconst (pc' := 60) (z := 3) at_59 rfl rfl ?_
  refine X3.iand (pc' := 61) at_60 rfl ?_
  refine X3.iloadN (pc' := 62) at_61 rfl rfl ?_
  refine X3.iloadN (pc' := 63) at_62 rfl rfl ?_
  refine X3.iload (pc' := 65) at_63 rfl rfl ?_
  refine X3.iload (pc' := 67) at_65 rfl rfl ?_
  refine X3.callS (pc' := 70) (W := 0) (argsL := [(.int (((q1.toUInt32 >>> ((6 : Int32) &&& 31).toUInt32).toInt32) &&& (3 : Int32))), (.int q3), (.int q4), (.int q5), (.int q6)]) (rest := []) (ct1 l Z a0 hw (((q1.toUInt32 >>> ((6 : Int32) &&& 31).toUInt32).toInt32) &&& (3 : Int32)) q3 q4 q5 q6 h0) (wd_1 hw) (wd_2 hw) (wd_3 hw) (wd_4 hw) (by decide) pd_2 rfl rfl rfl rfl at_67 rfl (by decide) rfl (by decide) (by decide) (by decide) allWs0 (fun T4 h4 v4 X4 K4 Q4 => ?_)
  obtain ⟨⟨s4, rfl⟩, rfl⟩ := Q4
  show Runs p e below (T4.setTop (mkF m 70 #[.val (.int q1), .val (.int q2), .val (.int q3), .val (.int q4), .val (.int q5), .val (.int q6), .val (.int ((q2 &&& (2147483647 : Int32)) % (7 : Int32))), .val (.int s1), .val (.int s2), .val (.int s3), .unset, .unset, .unset, .unset, .unset] [(.int s4)])) _
  refine X4.istore (pc' := 72) (l' := #[.val (.int q1), .val (.int q2), .val (.int q3), .val (.int q4), .val (.int q5), .val (.int q6), .val (.int ((q2 &&& (2147483647 : Int32)) % (7 : Int32))), .val (.int s1), .val (.int s2), .val (.int s3), .val (.int s4), .unset, .unset, .unset, .unset]) at_70 rfl rfl ?_
  refine X4.iloadN (pc' := 73) at_72 rfl rfl ?_
  refine X4.bipush (pc' := 75) (z := 8) at_73 rfl rfl ?_
  refine X4.iushr (pc' := 76) at_75 rfl ?_
  refine X4.iconst (pc' := 77) (z := 3) at_76 rfl rfl ?_
  refine X4.iand (pc' := 78) at_77 rfl ?_
  refine X4.iloadN (pc' := 79) at_78 rfl rfl ?_
  refine X4.iloadN (pc' := 80) at_79 rfl rfl ?_
  refine X4.iload (pc' := 82) at_80 rfl rfl ?_
  refine X4.iload (pc' := 84) at_82 rfl rfl ?_
  refine X4.callS (pc' := 87) (W := 0) (argsL := [(.int (((q1.toUInt32 >>> ((8 : Int32) &&& 31).toUInt32).toInt32) &&& (3 : Int32))), (.int q3), (.int q4), (.int q5), (.int q6)]) (rest := []) (ct1 l Z a0 hw (((q1.toUInt32 >>> ((8 : Int32) &&& 31).toUInt32).toInt32) &&& (3 : Int32)) q3 q4 q5 q6 h0) (wd_1 hw) (wd_2 hw) (wd_3 hw) (wd_4 hw) (by decide) pd_2 rfl rfl rfl rfl at_84 rfl (by decide) rfl (by decide) (by decide) (by decide) allWs0 (fun T5 h5 v5 X5 K5 Q5 => ?_)
  obtain ⟨⟨s5, rfl⟩, rfl⟩ := Q5
  show Runs p e below (T5.setTop (mkF m 87 #[.val (.int q1), .val (.int q2), .val (.int q3), .val (.int q4), .val (.int q5), .val (.int q6), .val (.int ((q2 &&& (2147483647 : Int32)) % (7 : Int32))), .val (.int s1), .val (.int s2), .val (.int s3), .val (.int s4), .unset, .unset, .unset, .unset] [(.int s5)])) _
  refine X5.istore (pc' := 89) (l' := #[.val (.int q1), .val (.int q2), .val (.int q3), .val (.int q4), .val (.int q5), .val (.int q6), .val (.int ((q2 &&& (2147483647 : Int32)) % (7 : Int32))), .val (.int s1), .val (.int s2), .val (.int s3), .val (.int s4), .val (.int s5), .unset, .unset, .unset]) at_87 rfl rfl ?_
  refine X5.iloadN (pc' := 90) at_89 rfl rfl ?_
  refine X5.bipush (pc' := 92) (z := 10) at_90 rfl rfl ?_
  refine X5.iushr (pc' := 93) at_92 rfl ?_
  refine X5.iconst (pc' := 94) (z := 3) at_93 rfl rfl ?_
  refine X5.iand (pc' := 95) at_94 rfl ?_
  refine X5.iloadN (pc' := 96) at_95 rfl rfl ?_
  refine X5.iloadN (pc' := 97) at_96 rfl rfl ?_
  refine X5.iload (pc' := 99) at_97 rfl rfl ?_
  refine X5.iload (pc' := 101) at_99 rfl rfl ?_
  refine X5.callS (pc' := 104) (W := 0) (argsL := [(.int (((q1.toUInt32 >>> ((10 : Int32) &&& 31).toUInt32).toInt32) &&& (3 : Int32))), (.int q3), (.int q4), (.int q5), (.int q6)]) (rest := []) (ct1 l Z a0 hw (((q1.toUInt32 >>> ((10 : Int32) &&& 31).toUInt32).toInt32) &&& (3 : Int32)) q3 q4 q5 q6 h0) (wd_1 hw) (wd_2 hw) (wd_3 hw) (wd_4 hw) (by decide) pd_2 rfl rfl rfl rfl at_101 rfl (by decide) rfl (by decide) (by decide) (by decide) allWs0 (fun T6 h6 v6 X6 K6 Q6 => ?_)
  obtain ⟨⟨s6, rfl⟩, rfl⟩ := Q6
  show Runs p e below (T6.setTop (mkF m 104 #[.val (.int q1), .val (.int q2), .val (.int q3), .val (.int q4), .val (.int q5), .val (.int q6), .val (.int ((q2 &&& (2147483647 : Int32)) % (7 : Int32))), .val (.int s1), .val (.int s2), .val (.int s3), .val (.int s4), .val (.int s5), .unset, .unset, .unset] [(.int s6)])) _
  refine X6.istore (pc' := 106) (l' := #[.val (.int q1), .val (.int q2), .val (.int q3), .val (.int q4), .val (.int q5), .val (.int q6), .val (.int ((q2 &&& (2147483647 : Int32)) % (7 : Int32))), .val (.int s1), .val (.int s2), .val (.int s3), .val (.int s4), .val (.int s5), .val (.int s6), .unset, .unset]) at_104 rfl rfl ?_
  have hz := own_seven q2 _ rfl
  generalize ((q2 &&& (2147483647 : Int32)) % (7 : Int32)) = z at hz ⊢
  rcases hz with rfl | rfl | rfl | rfl | rfl | rfl | rfl
  · refine X6.iload (pc' := 108) at_106 rfl rfl ?_
    refine X6.newarray (pc' := 110) (ty := .int) rfl (wd_5 hw) at_108 rfl (cap := 0) ⟨by decide, by decide⟩ (by decide) (by decide) (by decide) (fun T7 h7 b7 X7 g7 E7 V7 => ?_)
    have sz_b7 : h0.size ≤ b7 := g7 ▸ X6.size
    have V7' : Lst Z h7 b7 .int [] := V7
    refine X7.astore (pc' := 112) (l' := #[.val (.int q1), .val (.int q2), .val (.int q3), .val (.int q4), .val (.int q5), .val (.int q6), .val (.int (0 : Int32)), .val (.int s1), .val (.int s2), .val (.int s3), .val (.int s4), .val (.int s5), .val (.int s6), .val (.ref b7), .unset]) at_110 rfl rfl rfl ?_
    refine X7.iload (pc' := 114) at_112 rfl rfl ?_
    refine X7.ifYes (pc' := 123) at_114 (by decide) (by decide) (by decide) ?_
    refine X7.iload (pc' := 125) at_123 rfl rfl ?_
    refine X7.iconst (pc' := 126) (z := 1) at_125 rfl rfl ?_
    refine X7.icmpYes (pc' := 135) at_126 (by decide) (by decide) (by decide) ?_
    refine X7.iload (pc' := 137) at_135 rfl rfl ?_
    refine X7.iconst (pc' := 138) (z := 2) at_137 rfl rfl ?_
    refine X7.icmpYes (pc' := 147) at_138 (by decide) (by decide) (by decide) ?_
    refine X7.iload (pc' := 149) at_147 rfl rfl ?_
    refine X7.iconst (pc' := 150) (z := 3) at_149 rfl rfl ?_
    refine X7.icmpYes (pc' := 159) at_150 (by decide) (by decide) (by decide) ?_
    refine X7.iload (pc' := 161) at_159 rfl rfl ?_
    refine X7.iconst (pc' := 162) (z := 4) at_161 rfl rfl ?_
    refine X7.icmpYes (pc' := 171) at_162 (by decide) (by decide) (by decide) ?_
    refine X7.iload (pc' := 173) at_171 rfl rfl ?_
    refine X7.iconst (pc' := 174) (z := 5) at_173 rfl rfl ?_
    refine X7.icmpYes (pc' := 183) at_174 (by decide) (by decide) (by decide) ?_
    refine X7.aload (pc' := 185) at_183 rfl rfl rfl ?_
    refine X7.callS (pc' := 188) (W := 0) (argsL := [(.ref b7)]) (rest := []) (ct2 l Z a0 hw b7 (own_pf s1 s2 s3 s4 s5 s6) 0 h7 (by decide) V7') (wd_6 hw) (wd_7 hw) (wd_8 hw) (wd_9 hw) (by decide) pd_3 rfl rfl rfl rfl at_185 rfl (by decide) rfl (by decide) (by decide) (by decide) allWs0 (fun T8 h8 v8 X8 K8 Q8 => ?_)
    have V7'_8 := V7'.keep K8 nin0
    obtain ⟨r8, rfl, zr, Vr⟩ := Q8
    have Vr' : Lst Z h8 r8 .int [] := Vr
    have sz_r8 : h0.size ≤ r8 := Nat.le_trans X7.size zr
    have ne_b7_r8 : b7 ≠ r8 := Nat.ne_of_lt (Nat.lt_of_lt_of_le V7'.lt zr)
    show Runs p e below (T8.setTop (mkF m 188 #[.val (.int q1), .val (.int q2), .val (.int q3), .val (.int q4), .val (.int q5), .val (.int q6), .val (.int (0 : Int32)), .val (.int s1), .val (.int s2), .val (.int s3), .val (.int s4), .val (.int s5), .val (.int s6), .val (.ref b7), .unset] [(.ref r8)])) _
    refine X8.astore (pc' := 190) (l' := #[.val (.int q1), .val (.int q2), .val (.int q3), .val (.int q4), .val (.int q5), .val (.int q6), .val (.int (0 : Int32)), .val (.int s1), .val (.int s2), .val (.int s3), .val (.int s4), .val (.int s5), .val (.int s6), .val (.ref b7), .val (.ref r8)]) at_188 rfl rfl rfl ?_
    refine X8.aload (pc' := 192) at_190 rfl rfl rfl ?_
    refine X8.ifnullNo (pc' := 195) at_192 rfl ?_
    refine X8.aload (pc' := 197) at_195 rfl rfl rfl ?_
    refine X8.aload (pc' := 199) at_197 rfl rfl rfl ?_
    refine X8.acmp (pc' := 202) (u := (.ref r8)) (v := (.ref b7)) (same := false) at_199 rfl rfl (decide_eq_false fun q => (Ne.symm ne_b7_r8) (Value.ref.inj q)) (by decide) (by decide) ?_
    refine X8.aload (pc' := 204) at_202 rfl rfl rfl ?_
    refine X8.arraylength (pc' := 205) (n := (0 : Int32)) Vr' rfl at_204 rfl ?_
    refine X8.iload (pc' := 207) at_205 rfl rfl ?_
    refine X8.icmpYes (pc' := 212) at_207 (by decide) (by decide) (by decide) ?_
    refine X8.iload (pc' := 214) at_212 rfl rfl ?_
    refine X8.ifYes (pc' := 228) at_214 (by decide) (by decide) (by decide) ?_
    refine X8.iload (pc' := 230) at_228 rfl rfl ?_
    refine X8.iconst (pc' := 231) (z := 1) at_230 rfl rfl ?_
    refine X8.icmpYes (pc' := 245) at_231 (by decide) (by decide) (by decide) ?_
    refine X8.iload (pc' := 247) at_245 rfl rfl ?_
    refine X8.iconst (pc' := 248) (z := 2) at_247 rfl rfl ?_
    refine X8.icmpYes (pc' := 262) at_248 (by decide) (by decide) (by decide) ?_
    refine X8.iload (pc' := 264) at_262 rfl rfl ?_
    refine X8.iconst (pc' := 265) (z := 3) at_264 rfl rfl ?_
    refine X8.icmpYes (pc' := 279) at_265 (by decide) (by decide) (by decide) ?_
    refine X8.iload (pc' := 281) at_279 rfl rfl ?_
    refine X8.iconst (pc' := 282) (z := 4) at_281 rfl rfl ?_
    refine X8.icmpYes (pc' := 296) at_282 (by decide) (by decide) (by decide) ?_
    refine X8.iload (pc' := 298) at_296 rfl rfl ?_
    refine X8.iconst (pc' := 299) (z := 5) at_298 rfl rfl ?_
    refine X8.icmpYes (pc' := 313) at_299 (by decide) (by decide) (by decide) ?_
    refine X8.aload (pc' := 315) at_313 rfl rfl rfl ?_
    refine X8.aload (pc' := 317) at_315 rfl rfl rfl ?_
    refine X8.iconst (pc' := 318) (z := 0) at_317 rfl rfl ?_
    refine X8.iload (pc' := 320) at_318 rfl rfl ?_
    refine X8.callS (pc' := 323) (W := 0) (argsL := [(.ref r8), (.ref b7), (.int (0 : Int32)), (.int (0 : Int32))]) (rest := []) (ct3g l Z a0 hw r8 b7 (0 : Int32) (0 : Int32) h8 (by decide)) (wd_10 hw) (wd_11 hw) (wd_3 hw) (wd_12 hw) (by decide) pd_4 rfl rfl rfl rfl at_320 rfl (by decide) rfl (by decide) (by decide) (by decide) allWs0 (fun T9 h9 v9 X9 K9 Q9 => ?_)
    obtain ⟨rfl, rfl⟩ := Q9
    show Runs p e below (T9.setTop (mkF m 323 #[.val (.int q1), .val (.int q2), .val (.int q3), .val (.int q4), .val (.int q5), .val (.int q6), .val (.int (0 : Int32)), .val (.int s1), .val (.int s2), .val (.int s3), .val (.int s4), .val (.int s5), .val (.int s6), .val (.ref b7), .val (.ref r8)] [(.int (1 : Int32))])) _
    refine X9.ifNo (pc' := 326) at_323 (by decide) rfl ?_
    refine X9.aload (pc' := 328) at_326 rfl rfl rfl ?_
    refine X9.aload (pc' := 330) at_328 rfl rfl rfl ?_
    refine X9.iconst (pc' := 331) (z := 1) at_330 rfl rfl ?_
    refine X9.iload (pc' := 333) at_331 rfl rfl ?_
    refine X9.callS (pc' := 336) (W := 0) (argsL := [(.ref r8), (.ref b7), (.int (1 : Int32)), (.int (0 : Int32))]) (rest := []) (ct3g l Z a0 hw r8 b7 (1 : Int32) (0 : Int32) h8 (by decide)) (wd_10 hw) (wd_11 hw) (wd_3 hw) (wd_12 hw) (by decide) pd_4 rfl rfl rfl rfl at_333 rfl (by decide) rfl (by decide) (by decide) (by decide) allWs0 (fun T10 h10 v10 X10 K10 Q10 => ?_)
    obtain ⟨rfl, rfl⟩ := Q10
    show Runs p e below (T10.setTop (mkF m 336 #[.val (.int q1), .val (.int q2), .val (.int q3), .val (.int q4), .val (.int q5), .val (.int q6), .val (.int (0 : Int32)), .val (.int s1), .val (.int s2), .val (.int s3), .val (.int s4), .val (.int s5), .val (.int s6), .val (.ref b7), .val (.ref r8)] [(.int (1 : Int32))])) _
    refine X10.ifNo (pc' := 339) at_336 (by decide) rfl ?_
    refine X10.aload (pc' := 341) at_339 rfl rfl rfl ?_
    refine X10.aload (pc' := 343) at_341 rfl rfl rfl ?_
    refine X10.iconst (pc' := 344) (z := 2) at_343 rfl rfl ?_
    refine X10.iload (pc' := 346) at_344 rfl rfl ?_
    refine X10.callS (pc' := 349) (W := 0) (argsL := [(.ref r8), (.ref b7), (.int (2 : Int32)), (.int (0 : Int32))]) (rest := []) (ct3g l Z a0 hw r8 b7 (2 : Int32) (0 : Int32) h8 (by decide)) (wd_10 hw) (wd_11 hw) (wd_3 hw) (wd_12 hw) (by decide) pd_4 rfl rfl rfl rfl at_346 rfl (by decide) rfl (by decide) (by decide) (by decide) allWs0 (fun T11 h11 v11 X11 K11 Q11 => ?_)
    obtain ⟨rfl, rfl⟩ := Q11
    show Runs p e below (T11.setTop (mkF m 349 #[.val (.int q1), .val (.int q2), .val (.int q3), .val (.int q4), .val (.int q5), .val (.int q6), .val (.int (0 : Int32)), .val (.int s1), .val (.int s2), .val (.int s3), .val (.int s4), .val (.int s5), .val (.int s6), .val (.ref b7), .val (.ref r8)] [(.int (1 : Int32))])) _
    refine X11.ifNo (pc' := 352) at_349 (by decide) rfl ?_
    refine X11.aload (pc' := 354) at_352 rfl rfl rfl ?_
    refine X11.aload (pc' := 356) at_354 rfl rfl rfl ?_
    refine X11.iconst (pc' := 357) (z := 3) at_356 rfl rfl ?_
    refine X11.iload (pc' := 359) at_357 rfl rfl ?_
    refine X11.callS (pc' := 362) (W := 0) (argsL := [(.ref r8), (.ref b7), (.int (3 : Int32)), (.int (0 : Int32))]) (rest := []) (ct3g l Z a0 hw r8 b7 (3 : Int32) (0 : Int32) h8 (by decide)) (wd_10 hw) (wd_11 hw) (wd_3 hw) (wd_12 hw) (by decide) pd_4 rfl rfl rfl rfl at_359 rfl (by decide) rfl (by decide) (by decide) (by decide) allWs0 (fun T12 h12 v12 X12 K12 Q12 => ?_)
    obtain ⟨rfl, rfl⟩ := Q12
    show Runs p e below (T12.setTop (mkF m 362 #[.val (.int q1), .val (.int q2), .val (.int q3), .val (.int q4), .val (.int q5), .val (.int q6), .val (.int (0 : Int32)), .val (.int s1), .val (.int s2), .val (.int s3), .val (.int s4), .val (.int s5), .val (.int s6), .val (.ref b7), .val (.ref r8)] [(.int (1 : Int32))])) _
    refine X12.ifNo (pc' := 365) at_362 (by decide) rfl ?_
    refine X12.aload (pc' := 367) at_365 rfl rfl rfl ?_
    refine X12.aload (pc' := 369) at_367 rfl rfl rfl ?_
    refine X12.iconst (pc' := 370) (z := 4) at_369 rfl rfl ?_
    refine X12.iload (pc' := 372) at_370 rfl rfl ?_
    refine X12.callS (pc' := 375) (W := 0) (argsL := [(.ref r8), (.ref b7), (.int (4 : Int32)), (.int (0 : Int32))]) (rest := []) (ct3g l Z a0 hw r8 b7 (4 : Int32) (0 : Int32) h8 (by decide)) (wd_10 hw) (wd_11 hw) (wd_3 hw) (wd_12 hw) (by decide) pd_4 rfl rfl rfl rfl at_372 rfl (by decide) rfl (by decide) (by decide) (by decide) allWs0 (fun T13 h13 v13 X13 K13 Q13 => ?_)
    obtain ⟨rfl, rfl⟩ := Q13
    show Runs p e below (T13.setTop (mkF m 375 #[.val (.int q1), .val (.int q2), .val (.int q3), .val (.int q4), .val (.int q5), .val (.int q6), .val (.int (0 : Int32)), .val (.int s1), .val (.int s2), .val (.int s3), .val (.int s4), .val (.int s5), .val (.int s6), .val (.ref b7), .val (.ref r8)] [(.int (1 : Int32))])) _
    refine X13.ifNo (pc' := 378) at_375 (by decide) rfl ?_
    refine X13.aload (pc' := 380) at_378 rfl rfl rfl ?_
    refine X13.aload (pc' := 382) at_380 rfl rfl rfl ?_
    refine X13.iconst (pc' := 383) (z := 5) at_382 rfl rfl ?_
    refine X13.iload (pc' := 385) at_383 rfl rfl ?_
    refine X13.callS (pc' := 388) (W := 0) (argsL := [(.ref r8), (.ref b7), (.int (5 : Int32)), (.int (0 : Int32))]) (rest := []) (ct3g l Z a0 hw r8 b7 (5 : Int32) (0 : Int32) h8 (by decide)) (wd_10 hw) (wd_11 hw) (wd_3 hw) (wd_12 hw) (by decide) pd_4 rfl rfl rfl rfl at_385 rfl (by decide) rfl (by decide) (by decide) (by decide) allWs0 (fun T14 h14 v14 X14 K14 Q14 => ?_)
    obtain ⟨rfl, rfl⟩ := Q14
    show Runs p e below (T14.setTop (mkF m 388 #[.val (.int q1), .val (.int q2), .val (.int q3), .val (.int q4), .val (.int q5), .val (.int q6), .val (.int (0 : Int32)), .val (.int s1), .val (.int s2), .val (.int s3), .val (.int s4), .val (.int s5), .val (.int s6), .val (.ref b7), .val (.ref r8)] [(.int (1 : Int32))])) _
    refine X14.ifNo (pc' := 391) at_388 (by decide) rfl ?_
    refine X14.iconst (pc' := 392) (z := 1) at_391 rfl rfl ?_
    refine X14.goto (pc' := 396) at_392 (by decide) (by decide) ?_
    exact X14.zreturn (z' := (1 : Int32)) rfl (by simp) at_396 rfl (by decide) (by decide) rfl
  · refine X6.iload (pc' := 108) at_106 rfl rfl ?_
    refine X6.newarray (pc' := 110) (ty := .int) rfl (wd_5 hw) at_108 rfl (cap := 1) ⟨by decide, by decide⟩ (by decide) (by decide) (by decide) (fun T15 h15 b15 X15 g15 E15 V15 => ?_)
    have sz_b15 : h0.size ≤ b15 := g15 ▸ X6.size
    have V15' : Lst Z h15 b15 .int [(.int (0 : Int32))] := V15
    refine X15.astore (pc' := 112) (l' := #[.val (.int q1), .val (.int q2), .val (.int q3), .val (.int q4), .val (.int q5), .val (.int q6), .val (.int (1 : Int32)), .val (.int s1), .val (.int s2), .val (.int s3), .val (.int s4), .val (.int s5), .val (.int s6), .val (.ref b15), .unset]) at_110 rfl rfl rfl ?_
    refine X15.iload (pc' := 114) at_112 rfl rfl ?_
    refine X15.ifNo (pc' := 117) at_114 (by decide) rfl ?_
    refine X15.aload (pc' := 119) at_117 rfl rfl rfl ?_
    refine X15.iconst (pc' := 120) (z := 0) at_119 rfl rfl ?_
    refine X15.iload (pc' := 122) at_120 rfl rfl ?_
    refine X15.iastore (pc' := 123) V15' (show Inb (0 : Int32) 1 from ⟨by decide, by decide⟩) at_122 rfl (Or.inr sz_b15) (fun T16 h16 X16 W16 => ?_)
    have V16 : Lst Z h16 b15 .int [(.int s1)] := V15'.set W16
    refine X16.iload (pc' := 125) at_123 rfl rfl ?_
    refine X16.iconst (pc' := 126) (z := 1) at_125 rfl rfl ?_
    refine X16.icmpYes (pc' := 135) at_126 (by decide) (by decide) (by decide) ?_
    refine X16.iload (pc' := 137) at_135 rfl rfl ?_
    refine X16.iconst (pc' := 138) (z := 2) at_137 rfl rfl ?_
    refine X16.icmpYes (pc' := 147) at_138 (by decide) (by decide) (by decide) ?_
    refine X16.iload (pc' := 149) at_147 rfl rfl ?_
    refine X16.iconst (pc' := 150) (z := 3) at_149 rfl rfl ?_
    refine X16.icmpYes (pc' := 159) at_150 (by decide) (by decide) (by decide) ?_
    refine X16.iload (pc' := 161) at_159 rfl rfl ?_
    refine X16.iconst (pc' := 162) (z := 4) at_161 rfl rfl ?_
    refine X16.icmpYes (pc' := 171) at_162 (by decide) (by decide) (by decide) ?_
    refine X16.iload (pc' := 173) at_171 rfl rfl ?_
    refine X16.iconst (pc' := 174) (z := 5) at_173 rfl rfl ?_
    refine X16.icmpYes (pc' := 183) at_174 (by decide) (by decide) (by decide) ?_
    refine X16.aload (pc' := 185) at_183 rfl rfl rfl ?_
    refine X16.callS (pc' := 188) (W := 0) (argsL := [(.ref b15)]) (rest := []) (ct2 l Z a0 hw b15 (own_pf s1 s2 s3 s4 s5 s6) 1 h16 (by decide) V16) (wd_6 hw) (wd_7 hw) (wd_8 hw) (wd_9 hw) (by decide) pd_3 rfl rfl rfl rfl at_185 rfl (by decide) rfl (by decide) (by decide) (by decide) allWs0 (fun T17 h17 v17 X17 K17 Q17 => ?_)
    have V16_17 := V16.keep K17 nin0
    obtain ⟨r17, rfl, zr, Vr⟩ := Q17
    have Vr' : Lst Z h17 r17 .int [(.int (own_tb (own_pf s1 s2 s3 s4 s5 s6) 1 0))] := Vr
    have sz_r17 : h0.size ≤ r17 := Nat.le_trans X16.size zr
    have ne_b15_r17 : b15 ≠ r17 := Nat.ne_of_lt (Nat.lt_of_lt_of_le V16.lt zr)
    show Runs p e below (T17.setTop (mkF m 188 #[.val (.int q1), .val (.int q2), .val (.int q3), .val (.int q4), .val (.int q5), .val (.int q6), .val (.int (1 : Int32)), .val (.int s1), .val (.int s2), .val (.int s3), .val (.int s4), .val (.int s5), .val (.int s6), .val (.ref b15), .unset] [(.ref r17)])) _
    refine X17.astore (pc' := 190) (l' := #[.val (.int q1), .val (.int q2), .val (.int q3), .val (.int q4), .val (.int q5), .val (.int q6), .val (.int (1 : Int32)), .val (.int s1), .val (.int s2), .val (.int s3), .val (.int s4), .val (.int s5), .val (.int s6), .val (.ref b15), .val (.ref r17)]) at_188 rfl rfl rfl ?_
    refine X17.aload (pc' := 192) at_190 rfl rfl rfl ?_
    refine X17.ifnullNo (pc' := 195) at_192 rfl ?_
    refine X17.aload (pc' := 197) at_195 rfl rfl rfl ?_
    refine X17.aload (pc' := 199) at_197 rfl rfl rfl ?_
    refine X17.acmp (pc' := 202) (u := (.ref r17)) (v := (.ref b15)) (same := false) at_199 rfl rfl (decide_eq_false fun q => (Ne.symm ne_b15_r17) (Value.ref.inj q)) (by decide) (by decide) ?_
    refine X17.aload (pc' := 204) at_202 rfl rfl rfl ?_
    refine X17.arraylength (pc' := 205) (n := (1 : Int32)) Vr' rfl at_204 rfl ?_
    refine X17.iload (pc' := 207) at_205 rfl rfl ?_
    refine X17.icmpYes (pc' := 212) at_207 (by decide) (by decide) (by decide) ?_
    refine X17.iload (pc' := 214) at_212 rfl rfl ?_
    refine X17.ifNo (pc' := 217) at_214 (by decide) rfl ?_
    refine X17.aload (pc' := 219) at_217 rfl rfl rfl ?_
    refine X17.iconst (pc' := 220) (z := 0) at_219 rfl rfl ?_
    refine X17.iaload (pc' := 221) (v := (.int s1)) V16_17 (show Inb (0 : Int32) 1 from ⟨by decide, by decide⟩) rfl at_220 rfl ?_
    refine X17.iload (pc' := 223) at_221 rfl rfl ?_
    refine X17.icmpYes (pc' := 228) at_223 (teq rfl).1 (by decide) (by decide) ?_
    refine X17.iload (pc' := 230) at_228 rfl rfl ?_
    refine X17.iconst (pc' := 231) (z := 1) at_230 rfl rfl ?_
    refine X17.icmpYes (pc' := 245) at_231 (by decide) (by decide) (by decide) ?_
    refine X17.iload (pc' := 247) at_245 rfl rfl ?_
    refine X17.iconst (pc' := 248) (z := 2) at_247 rfl rfl ?_
    refine X17.icmpYes (pc' := 262) at_248 (by decide) (by decide) (by decide) ?_
    refine X17.iload (pc' := 264) at_262 rfl rfl ?_
    refine X17.iconst (pc' := 265) (z := 3) at_264 rfl rfl ?_
    refine X17.icmpYes (pc' := 279) at_265 (by decide) (by decide) (by decide) ?_
    refine X17.iload (pc' := 281) at_279 rfl rfl ?_
    refine X17.iconst (pc' := 282) (z := 4) at_281 rfl rfl ?_
    refine X17.icmpYes (pc' := 296) at_282 (by decide) (by decide) (by decide) ?_
    refine X17.iload (pc' := 298) at_296 rfl rfl ?_
    refine X17.iconst (pc' := 299) (z := 5) at_298 rfl rfl ?_
    refine X17.icmpYes (pc' := 313) at_299 (by decide) (by decide) (by decide) ?_
    refine X17.aload (pc' := 315) at_313 rfl rfl rfl ?_
    refine X17.aload (pc' := 317) at_315 rfl rfl rfl ?_
    refine X17.iconst (pc' := 318) (z := 0) at_317 rfl rfl ?_
    refine X17.iload (pc' := 320) at_318 rfl rfl ?_
    refine X17.callS (pc' := 323) (W := 0) (argsL := [(.ref r17), (.ref b15), (.int (0 : Int32)), (.int (1 : Int32))]) (rest := []) (ct3_0 l Z a0 hw r17 b15 (own_pf s1 s2 s3 s4 s5 s6) (own_tb (own_pf s1 s2 s3 s4 s5 s6) 1) 1 (1 : Int32) h17 V16_17 Vr' (by decide) (by decide) (own_hb (by decide) (by decide))) (wd_10 hw) (wd_11 hw) (wd_3 hw) (wd_12 hw) (by decide) pd_4 rfl rfl rfl rfl at_320 rfl (by decide) rfl (by decide) (by decide) (by decide) allWs0 (fun T18 h18 v18 X18 K18 Q18 => ?_)
    obtain ⟨rfl, rfl⟩ := Q18
    show Runs p e below (T18.setTop (mkF m 323 #[.val (.int q1), .val (.int q2), .val (.int q3), .val (.int q4), .val (.int q5), .val (.int q6), .val (.int (1 : Int32)), .val (.int s1), .val (.int s2), .val (.int s3), .val (.int s4), .val (.int s5), .val (.int s6), .val (.ref b15), .val (.ref r17)] [(.int (1 : Int32))])) _
    refine X18.ifNo (pc' := 326) at_323 (by decide) rfl ?_
    refine X18.aload (pc' := 328) at_326 rfl rfl rfl ?_
    refine X18.aload (pc' := 330) at_328 rfl rfl rfl ?_
    refine X18.iconst (pc' := 331) (z := 1) at_330 rfl rfl ?_
    refine X18.iload (pc' := 333) at_331 rfl rfl ?_
    refine X18.callS (pc' := 336) (W := 0) (argsL := [(.ref r17), (.ref b15), (.int (1 : Int32)), (.int (1 : Int32))]) (rest := []) (ct3g l Z a0 hw r17 b15 (1 : Int32) (1 : Int32) h17 (by decide)) (wd_10 hw) (wd_11 hw) (wd_3 hw) (wd_12 hw) (by decide) pd_4 rfl rfl rfl rfl at_333 rfl (by decide) rfl (by decide) (by decide) (by decide) allWs0 (fun T19 h19 v19 X19 K19 Q19 => ?_)
    obtain ⟨rfl, rfl⟩ := Q19
    show Runs p e below (T19.setTop (mkF m 336 #[.val (.int q1), .val (.int q2), .val (.int q3), .val (.int q4), .val (.int q5), .val (.int q6), .val (.int (1 : Int32)), .val (.int s1), .val (.int s2), .val (.int s3), .val (.int s4), .val (.int s5), .val (.int s6), .val (.ref b15), .val (.ref r17)] [(.int (1 : Int32))])) _
    refine X19.ifNo (pc' := 339) at_336 (by decide) rfl ?_
    refine X19.aload (pc' := 341) at_339 rfl rfl rfl ?_
    refine X19.aload (pc' := 343) at_341 rfl rfl rfl ?_
    refine X19.iconst (pc' := 344) (z := 2) at_343 rfl rfl ?_
    refine X19.iload (pc' := 346) at_344 rfl rfl ?_
    refine X19.callS (pc' := 349) (W := 0) (argsL := [(.ref r17), (.ref b15), (.int (2 : Int32)), (.int (1 : Int32))]) (rest := []) (ct3g l Z a0 hw r17 b15 (2 : Int32) (1 : Int32) h17 (by decide)) (wd_10 hw) (wd_11 hw) (wd_3 hw) (wd_12 hw) (by decide) pd_4 rfl rfl rfl rfl at_346 rfl (by decide) rfl (by decide) (by decide) (by decide) allWs0 (fun T20 h20 v20 X20 K20 Q20 => ?_)
    obtain ⟨rfl, rfl⟩ := Q20
    show Runs p e below (T20.setTop (mkF m 349 #[.val (.int q1), .val (.int q2), .val (.int q3), .val (.int q4), .val (.int q5), .val (.int q6), .val (.int (1 : Int32)), .val (.int s1), .val (.int s2), .val (.int s3), .val (.int s4), .val (.int s5), .val (.int s6), .val (.ref b15), .val (.ref r17)] [(.int (1 : Int32))])) _
    refine X20.ifNo (pc' := 352) at_349 (by decide) rfl ?_
    refine X20.aload (pc' := 354) at_352 rfl rfl rfl ?_
    refine X20.aload (pc' := 356) at_354 rfl rfl rfl ?_
    refine X20.iconst (pc' := 357) (z := 3) at_356 rfl rfl ?_
    refine X20.iload (pc' := 359) at_357 rfl rfl ?_
    refine X20.callS (pc' := 362) (W := 0) (argsL := [(.ref r17), (.ref b15), (.int (3 : Int32)), (.int (1 : Int32))]) (rest := []) (ct3g l Z a0 hw r17 b15 (3 : Int32) (1 : Int32) h17 (by decide)) (wd_10 hw) (wd_11 hw) (wd_3 hw) (wd_12 hw) (by decide) pd_4 rfl rfl rfl rfl at_359 rfl (by decide) rfl (by decide) (by decide) (by decide) allWs0 (fun T21 h21 v21 X21 K21 Q21 => ?_)
    obtain ⟨rfl, rfl⟩ := Q21
    show Runs p e below (T21.setTop (mkF m 362 #[.val (.int q1), .val (.int q2), .val (.int q3), .val (.int q4), .val (.int q5), .val (.int q6), .val (.int (1 : Int32)), .val (.int s1), .val (.int s2), .val (.int s3), .val (.int s4), .val (.int s5), .val (.int s6), .val (.ref b15), .val (.ref r17)] [(.int (1 : Int32))])) _
    refine X21.ifNo (pc' := 365) at_362 (by decide) rfl ?_
    refine X21.aload (pc' := 367) at_365 rfl rfl rfl ?_
    refine X21.aload (pc' := 369) at_367 rfl rfl rfl ?_
    refine X21.iconst (pc' := 370) (z := 4) at_369 rfl rfl ?_
    refine X21.iload (pc' := 372) at_370 rfl rfl ?_
    refine X21.callS (pc' := 375) (W := 0) (argsL := [(.ref r17), (.ref b15), (.int (4 : Int32)), (.int (1 : Int32))]) (rest := []) (ct3g l Z a0 hw r17 b15 (4 : Int32) (1 : Int32) h17 (by decide)) (wd_10 hw) (wd_11 hw) (wd_3 hw) (wd_12 hw) (by decide) pd_4 rfl rfl rfl rfl at_372 rfl (by decide) rfl (by decide) (by decide) (by decide) allWs0 (fun T22 h22 v22 X22 K22 Q22 => ?_)
    obtain ⟨rfl, rfl⟩ := Q22
    show Runs p e below (T22.setTop (mkF m 375 #[.val (.int q1), .val (.int q2), .val (.int q3), .val (.int q4), .val (.int q5), .val (.int q6), .val (.int (1 : Int32)), .val (.int s1), .val (.int s2), .val (.int s3), .val (.int s4), .val (.int s5), .val (.int s6), .val (.ref b15), .val (.ref r17)] [(.int (1 : Int32))])) _
    refine X22.ifNo (pc' := 378) at_375 (by decide) rfl ?_
    refine X22.aload (pc' := 380) at_378 rfl rfl rfl ?_
    refine X22.aload (pc' := 382) at_380 rfl rfl rfl ?_
    refine X22.iconst (pc' := 383) (z := 5) at_382 rfl rfl ?_
    refine X22.iload (pc' := 385) at_383 rfl rfl ?_
    refine X22.callS (pc' := 388) (W := 0) (argsL := [(.ref r17), (.ref b15), (.int (5 : Int32)), (.int (1 : Int32))]) (rest := []) (ct3g l Z a0 hw r17 b15 (5 : Int32) (1 : Int32) h17 (by decide)) (wd_10 hw) (wd_11 hw) (wd_3 hw) (wd_12 hw) (by decide) pd_4 rfl rfl rfl rfl at_385 rfl (by decide) rfl (by decide) (by decide) (by decide) allWs0 (fun T23 h23 v23 X23 K23 Q23 => ?_)
    obtain ⟨rfl, rfl⟩ := Q23
    show Runs p e below (T23.setTop (mkF m 388 #[.val (.int q1), .val (.int q2), .val (.int q3), .val (.int q4), .val (.int q5), .val (.int q6), .val (.int (1 : Int32)), .val (.int s1), .val (.int s2), .val (.int s3), .val (.int s4), .val (.int s5), .val (.int s6), .val (.ref b15), .val (.ref r17)] [(.int (1 : Int32))])) _
    refine X23.ifNo (pc' := 391) at_388 (by decide) rfl ?_
    refine X23.iconst (pc' := 392) (z := 1) at_391 rfl rfl ?_
    refine X23.goto (pc' := 396) at_392 (by decide) (by decide) ?_
    exact X23.zreturn (z' := (1 : Int32)) rfl (by simp) at_396 rfl (by decide) (by decide) rfl
  · refine X6.iload (pc' := 108) at_106 rfl rfl ?_
    refine X6.newarray (pc' := 110) (ty := .int) rfl (wd_5 hw) at_108 rfl (cap := 2) ⟨by decide, by decide⟩ (by decide) (by decide) (by decide) (fun T24 h24 b24 X24 g24 E24 V24 => ?_)
    have sz_b24 : h0.size ≤ b24 := g24 ▸ X6.size
    have V24' : Lst Z h24 b24 .int [(.int (0 : Int32)), (.int (0 : Int32))] := V24
    refine X24.astore (pc' := 112) (l' := #[.val (.int q1), .val (.int q2), .val (.int q3), .val (.int q4), .val (.int q5), .val (.int q6), .val (.int (2 : Int32)), .val (.int s1), .val (.int s2), .val (.int s3), .val (.int s4), .val (.int s5), .val (.int s6), .val (.ref b24), .unset]) at_110 rfl rfl rfl ?_
    refine X24.iload (pc' := 114) at_112 rfl rfl ?_
    refine X24.ifNo (pc' := 117) at_114 (by decide) rfl ?_
    refine X24.aload (pc' := 119) at_117 rfl rfl rfl ?_
    refine X24.iconst (pc' := 120) (z := 0) at_119 rfl rfl ?_
    refine X24.iload (pc' := 122) at_120 rfl rfl ?_
    refine X24.iastore (pc' := 123) V24' (show Inb (0 : Int32) 2 from ⟨by decide, by decide⟩) at_122 rfl (Or.inr sz_b24) (fun T25 h25 X25 W25 => ?_)
    have V25 : Lst Z h25 b24 .int [(.int s1), (.int (0 : Int32))] := V24'.set W25
    refine X25.iload (pc' := 125) at_123 rfl rfl ?_
    refine X25.iconst (pc' := 126) (z := 1) at_125 rfl rfl ?_
    refine X25.icmpNo (pc' := 129) at_126 (by decide) rfl ?_
    refine X25.aload (pc' := 131) at_129 rfl rfl rfl ?_
    refine X25.iconst (pc' := 132) (z := 1) at_131 rfl rfl ?_
    refine X25.iload (pc' := 134) at_132 rfl rfl ?_
    refine X25.iastore (pc' := 135) V25 (show Inb (1 : Int32) 2 from ⟨by decide, by decide⟩) at_134 rfl (Or.inr sz_b24) (fun T26 h26 X26 W26 => ?_)
    have V26 : Lst Z h26 b24 .int [(.int s1), (.int s2)] := V25.set W26
    refine X26.iload (pc' := 137) at_135 rfl rfl ?_
    refine X26.iconst (pc' := 138) (z := 2) at_137 rfl rfl ?_
    refine X26.icmpYes (pc' := 147) at_138 (by decide) (by decide) (by decide) ?_
    refine X26.iload (pc' := 149) at_147 rfl rfl ?_
    refine X26.iconst (pc' := 150) (z := 3) at_149 rfl rfl ?_
    refine X26.icmpYes (pc' := 159) at_150 (by decide) (by decide) (by decide) ?_
    refine X26.iload (pc' := 161) at_159 rfl rfl ?_
    refine X26.iconst (pc' := 162) (z := 4) at_161 rfl rfl ?_
    refine X26.icmpYes (pc' := 171) at_162 (by decide) (by decide) (by decide) ?_
    refine X26.iload (pc' := 173) at_171 rfl rfl ?_
    refine X26.iconst (pc' := 174) (z := 5) at_173 rfl rfl ?_
    refine X26.icmpYes (pc' := 183) at_174 (by decide) (by decide) (by decide) ?_
    refine X26.aload (pc' := 185) at_183 rfl rfl rfl ?_
    refine X26.callS (pc' := 188) (W := 0) (argsL := [(.ref b24)]) (rest := []) (ct2 l Z a0 hw b24 (own_pf s1 s2 s3 s4 s5 s6) 2 h26 (by decide) V26) (wd_6 hw) (wd_7 hw) (wd_8 hw) (wd_9 hw) (by decide) pd_3 rfl rfl rfl rfl at_185 rfl (by decide) rfl (by decide) (by decide) (by decide) allWs0 (fun T27 h27 v27 X27 K27 Q27 => ?_)
    have V26_27 := V26.keep K27 nin0
    obtain ⟨r27, rfl, zr, Vr⟩ := Q27
    have Vr' : Lst Z h27 r27 .int [(.int (own_tb (own_pf s1 s2 s3 s4 s5 s6) 2 0)), (.int (own_tb (own_pf s1 s2 s3 s4 s5 s6) 2 1))] := Vr
    have sz_r27 : h0.size ≤ r27 := Nat.le_trans X26.size zr
    have ne_b24_r27 : b24 ≠ r27 := Nat.ne_of_lt (Nat.lt_of_lt_of_le V26.lt zr)
    show Runs p e below (T27.setTop (mkF m 188 #[.val (.int q1), .val (.int q2), .val (.int q3), .val (.int q4), .val (.int q5), .val (.int q6), .val (.int (2 : Int32)), .val (.int s1), .val (.int s2), .val (.int s3), .val (.int s4), .val (.int s5), .val (.int s6), .val (.ref b24), .unset] [(.ref r27)])) _
    refine X27.astore (pc' := 190) (l' := #[.val (.int q1), .val (.int q2), .val (.int q3), .val (.int q4), .val (.int q5), .val (.int q6), .val (.int (2 : Int32)), .val (.int s1), .val (.int s2), .val (.int s3), .val (.int s4), .val (.int s5), .val (.int s6), .val (.ref b24), .val (.ref r27)]) at_188 rfl rfl rfl ?_
    refine X27.aload (pc' := 192) at_190 rfl rfl rfl ?_
    refine X27.ifnullNo (pc' := 195) at_192 rfl ?_
    refine X27.aload (pc' := 197) at_195 rfl rfl rfl ?_
    refine X27.aload (pc' := 199) at_197 rfl rfl rfl ?_
    refine X27.acmp (pc' := 202) (u := (.ref r27)) (v := (.ref b24)) (same := false) at_199 rfl rfl (decide_eq_false fun q => (Ne.symm ne_b24_r27) (Value.ref.inj q)) (by decide) (by decide) ?_
    refine X27.aload (pc' := 204) at_202 rfl rfl rfl ?_
    refine X27.arraylength (pc' := 205) (n := (2 : Int32)) Vr' rfl at_204 rfl ?_
    refine X27.iload (pc' := 207) at_205 rfl rfl ?_
    refine X27.icmpYes (pc' := 212) at_207 (by decide) (by decide) (by decide) ?_
    refine X27.iload (pc' := 214) at_212 rfl rfl ?_
    refine X27.ifNo (pc' := 217) at_214 (by decide) rfl ?_
    refine X27.aload (pc' := 219) at_217 rfl rfl rfl ?_
    refine X27.iconst (pc' := 220) (z := 0) at_219 rfl rfl ?_
    refine X27.iaload (pc' := 221) (v := (.int s1)) V26_27 (show Inb (0 : Int32) 2 from ⟨by decide, by decide⟩) rfl at_220 rfl ?_
    refine X27.iload (pc' := 223) at_221 rfl rfl ?_
    refine X27.icmpYes (pc' := 228) at_223 (teq rfl).1 (by decide) (by decide) ?_
    refine X27.iload (pc' := 230) at_228 rfl rfl ?_
    refine X27.iconst (pc' := 231) (z := 1) at_230 rfl rfl ?_
    refine X27.icmpNo (pc' := 234) at_231 (by decide) rfl ?_
    refine X27.aload (pc' := 236) at_234 rfl rfl rfl ?_
    refine X27.iconst (pc' := 237) (z := 1) at_236 rfl rfl ?_
    refine X27.iaload (pc' := 238) (v := (.int s2)) V26_27 (show Inb (1 : Int32) 2 from ⟨by decide, by decide⟩) rfl at_237 rfl ?_
    refine X27.iload (pc' := 240) at_238 rfl rfl ?_
    refine X27.icmpYes (pc' := 245) at_240 (teq rfl).1 (by decide) (by decide) ?_
    refine X27.iload (pc' := 247) at_245 rfl rfl ?_
    refine X27.iconst (pc' := 248) (z := 2) at_247 rfl rfl ?_
    refine X27.icmpYes (pc' := 262) at_248 (by decide) (by decide) (by decide) ?_
    refine X27.iload (pc' := 264) at_262 rfl rfl ?_
    refine X27.iconst (pc' := 265) (z := 3) at_264 rfl rfl ?_
    refine X27.icmpYes (pc' := 279) at_265 (by decide) (by decide) (by decide) ?_
    refine X27.iload (pc' := 281) at_279 rfl rfl ?_
    refine X27.iconst (pc' := 282) (z := 4) at_281 rfl rfl ?_
    refine X27.icmpYes (pc' := 296) at_282 (by decide) (by decide) (by decide) ?_
    refine X27.iload (pc' := 298) at_296 rfl rfl ?_
    refine X27.iconst (pc' := 299) (z := 5) at_298 rfl rfl ?_
    refine X27.icmpYes (pc' := 313) at_299 (by decide) (by decide) (by decide) ?_
    refine X27.aload (pc' := 315) at_313 rfl rfl rfl ?_
    refine X27.aload (pc' := 317) at_315 rfl rfl rfl ?_
    refine X27.iconst (pc' := 318) (z := 0) at_317 rfl rfl ?_
    refine X27.iload (pc' := 320) at_318 rfl rfl ?_
    refine X27.callS (pc' := 323) (W := 0) (argsL := [(.ref r27), (.ref b24), (.int (0 : Int32)), (.int (2 : Int32))]) (rest := []) (ct3_0 l Z a0 hw r27 b24 (own_pf s1 s2 s3 s4 s5 s6) (own_tb (own_pf s1 s2 s3 s4 s5 s6) 2) 2 (2 : Int32) h27 V26_27 Vr' (by decide) (by decide) (own_hb (by decide) (by decide))) (wd_10 hw) (wd_11 hw) (wd_3 hw) (wd_12 hw) (by decide) pd_4 rfl rfl rfl rfl at_320 rfl (by decide) rfl (by decide) (by decide) (by decide) allWs0 (fun T28 h28 v28 X28 K28 Q28 => ?_)
    obtain ⟨rfl, rfl⟩ := Q28
    show Runs p e below (T28.setTop (mkF m 323 #[.val (.int q1), .val (.int q2), .val (.int q3), .val (.int q4), .val (.int q5), .val (.int q6), .val (.int (2 : Int32)), .val (.int s1), .val (.int s2), .val (.int s3), .val (.int s4), .val (.int s5), .val (.int s6), .val (.ref b24), .val (.ref r27)] [(.int (1 : Int32))])) _
    refine X28.ifNo (pc' := 326) at_323 (by decide) rfl ?_
    refine X28.aload (pc' := 328) at_326 rfl rfl rfl ?_
    refine X28.aload (pc' := 330) at_328 rfl rfl rfl ?_
    refine X28.iconst (pc' := 331) (z := 1) at_330 rfl rfl ?_
    refine X28.iload (pc' := 333) at_331 rfl rfl ?_
    refine X28.callS (pc' := 336) (W := 0) (argsL := [(.ref r27), (.ref b24), (.int (1 : Int32)), (.int (2 : Int32))]) (rest := []) (ct3_1 l Z a0 hw r27 b24 (own_pf s1 s2 s3 s4 s5 s6) (own_tb (own_pf s1 s2 s3 s4 s5 s6) 2) 2 (2 : Int32) h27 V26_27 Vr' (by decide) (by decide) (own_hb (by decide) (by decide))) (wd_10 hw) (wd_11 hw) (wd_3 hw) (wd_12 hw) (by decide) pd_4 rfl rfl rfl rfl at_333 rfl (by decide) rfl (by decide) (by decide) (by decide) allWs0 (fun T29 h29 v29 X29 K29 Q29 => ?_)
    obtain ⟨rfl, rfl⟩ := Q29
    show Runs p e below (T29.setTop (mkF m 336 #[.val (.int q1), .val (.int q2), .val (.int q3), .val (.int q4), .val (.int q5), .val (.int q6), .val (.int (2 : Int32)), .val (.int s1), .val (.int s2), .val (.int s3), .val (.int s4), .val (.int s5), .val (.int s6), .val (.ref b24), .val (.ref r27)] [(.int (1 : Int32))])) _
    refine X29.ifNo (pc' := 339) at_336 (by decide) rfl ?_
    refine X29.aload (pc' := 341) at_339 rfl rfl rfl ?_
    refine X29.aload (pc' := 343) at_341 rfl rfl rfl ?_
    refine X29.iconst (pc' := 344) (z := 2) at_343 rfl rfl ?_
    refine X29.iload (pc' := 346) at_344 rfl rfl ?_
    refine X29.callS (pc' := 349) (W := 0) (argsL := [(.ref r27), (.ref b24), (.int (2 : Int32)), (.int (2 : Int32))]) (rest := []) (ct3g l Z a0 hw r27 b24 (2 : Int32) (2 : Int32) h27 (by decide)) (wd_10 hw) (wd_11 hw) (wd_3 hw) (wd_12 hw) (by decide) pd_4 rfl rfl rfl rfl at_346 rfl (by decide) rfl (by decide) (by decide) (by decide) allWs0 (fun T30 h30 v30 X30 K30 Q30 => ?_)
    obtain ⟨rfl, rfl⟩ := Q30
    show Runs p e below (T30.setTop (mkF m 349 #[.val (.int q1), .val (.int q2), .val (.int q3), .val (.int q4), .val (.int q5), .val (.int q6), .val (.int (2 : Int32)), .val (.int s1), .val (.int s2), .val (.int s3), .val (.int s4), .val (.int s5), .val (.int s6), .val (.ref b24), .val (.ref r27)] [(.int (1 : Int32))])) _
    refine X30.ifNo (pc' := 352) at_349 (by decide) rfl ?_
    refine X30.aload (pc' := 354) at_352 rfl rfl rfl ?_
    refine X30.aload (pc' := 356) at_354 rfl rfl rfl ?_
    refine X30.iconst (pc' := 357) (z := 3) at_356 rfl rfl ?_
    refine X30.iload (pc' := 359) at_357 rfl rfl ?_
    refine X30.callS (pc' := 362) (W := 0) (argsL := [(.ref r27), (.ref b24), (.int (3 : Int32)), (.int (2 : Int32))]) (rest := []) (ct3g l Z a0 hw r27 b24 (3 : Int32) (2 : Int32) h27 (by decide)) (wd_10 hw) (wd_11 hw) (wd_3 hw) (wd_12 hw) (by decide) pd_4 rfl rfl rfl rfl at_359 rfl (by decide) rfl (by decide) (by decide) (by decide) allWs0 (fun T31 h31 v31 X31 K31 Q31 => ?_)
    obtain ⟨rfl, rfl⟩ := Q31
    show Runs p e below (T31.setTop (mkF m 362 #[.val (.int q1), .val (.int q2), .val (.int q3), .val (.int q4), .val (.int q5), .val (.int q6), .val (.int (2 : Int32)), .val (.int s1), .val (.int s2), .val (.int s3), .val (.int s4), .val (.int s5), .val (.int s6), .val (.ref b24), .val (.ref r27)] [(.int (1 : Int32))])) _
    refine X31.ifNo (pc' := 365) at_362 (by decide) rfl ?_
    refine X31.aload (pc' := 367) at_365 rfl rfl rfl ?_
    refine X31.aload (pc' := 369) at_367 rfl rfl rfl ?_
    refine X31.iconst (pc' := 370) (z := 4) at_369 rfl rfl ?_
    refine X31.iload (pc' := 372) at_370 rfl rfl ?_
    refine X31.callS (pc' := 375) (W := 0) (argsL := [(.ref r27), (.ref b24), (.int (4 : Int32)), (.int (2 : Int32))]) (rest := []) (ct3g l Z a0 hw r27 b24 (4 : Int32) (2 : Int32) h27 (by decide)) (wd_10 hw) (wd_11 hw) (wd_3 hw) (wd_12 hw) (by decide) pd_4 rfl rfl rfl rfl at_372 rfl (by decide) rfl (by decide) (by decide) (by decide) allWs0 (fun T32 h32 v32 X32 K32 Q32 => ?_)
    obtain ⟨rfl, rfl⟩ := Q32
    show Runs p e below (T32.setTop (mkF m 375 #[.val (.int q1), .val (.int q2), .val (.int q3), .val (.int q4), .val (.int q5), .val (.int q6), .val (.int (2 : Int32)), .val (.int s1), .val (.int s2), .val (.int s3), .val (.int s4), .val (.int s5), .val (.int s6), .val (.ref b24), .val (.ref r27)] [(.int (1 : Int32))])) _
    refine X32.ifNo (pc' := 378) at_375 (by decide) rfl ?_
    refine X32.aload (pc' := 380) at_378 rfl rfl rfl ?_
    refine X32.aload (pc' := 382) at_380 rfl rfl rfl ?_
    refine X32.iconst (pc' := 383) (z := 5) at_382 rfl rfl ?_
    refine X32.iload (pc' := 385) at_383 rfl rfl ?_
    refine X32.callS (pc' := 388) (W := 0) (argsL := [(.ref r27), (.ref b24), (.int (5 : Int32)), (.int (2 : Int32))]) (rest := []) (ct3g l Z a0 hw r27 b24 (5 : Int32) (2 : Int32) h27 (by decide)) (wd_10 hw) (wd_11 hw) (wd_3 hw) (wd_12 hw) (by decide) pd_4 rfl rfl rfl rfl at_385 rfl (by decide) rfl (by decide) (by decide) (by decide) allWs0 (fun T33 h33 v33 X33 K33 Q33 => ?_)
    obtain ⟨rfl, rfl⟩ := Q33
    show Runs p e below (T33.setTop (mkF m 388 #[.val (.int q1), .val (.int q2), .val (.int q3), .val (.int q4), .val (.int q5), .val (.int q6), .val (.int (2 : Int32)), .val (.int s1), .val (.int s2), .val (.int s3), .val (.int s4), .val (.int s5), .val (.int s6), .val (.ref b24), .val (.ref r27)] [(.int (1 : Int32))])) _
    refine X33.ifNo (pc' := 391) at_388 (by decide) rfl ?_
    refine X33.iconst (pc' := 392) (z := 1) at_391 rfl rfl ?_
    refine X33.goto (pc' := 396) at_392 (by decide) (by decide) ?_
    exact X33.zreturn (z' := (1 : Int32)) rfl (by simp) at_396 rfl (by decide) (by decide) rfl
  · refine X6.iload (pc' := 108) at_106 rfl rfl ?_
    refine X6.newarray (pc' := 110) (ty := .int) rfl (wd_5 hw) at_108 rfl (cap := 3) ⟨by decide, by decide⟩ (by decide) (by decide) (by decide) (fun T34 h34 b34 X34 g34 E34 V34 => ?_)
    have sz_b34 : h0.size ≤ b34 := g34 ▸ X6.size
    have V34' : Lst Z h34 b34 .int [(.int (0 : Int32)), (.int (0 : Int32)), (.int (0 : Int32))] := V34
    refine X34.astore (pc' := 112) (l' := #[.val (.int q1), .val (.int q2), .val (.int q3), .val (.int q4), .val (.int q5), .val (.int q6), .val (.int (3 : Int32)), .val (.int s1), .val (.int s2), .val (.int s3), .val (.int s4), .val (.int s5), .val (.int s6), .val (.ref b34), .unset]) at_110 rfl rfl rfl ?_
    refine X34.iload (pc' := 114) at_112 rfl rfl ?_
    refine X34.ifNo (pc' := 117) at_114 (by decide) rfl ?_
    refine X34.aload (pc' := 119) at_117 rfl rfl rfl ?_
    refine X34.iconst (pc' := 120) (z := 0) at_119 rfl rfl ?_
    refine X34.iload (pc' := 122) at_120 rfl rfl ?_
    refine X34.iastore (pc' := 123) V34' (show Inb (0 : Int32) 3 from ⟨by decide, by decide⟩) at_122 rfl (Or.inr sz_b34) (fun T35 h35 X35 W35 => ?_)
    have V35 : Lst Z h35 b34 .int [(.int s1), (.int (0 : Int32)), (.int (0 : Int32))] := V34'.set W35
    refine X35.iload (pc' := 125) at_123 rfl rfl ?_
    refine X35.iconst (pc' := 126) (z := 1) at_125 rfl rfl ?_
    refine X35.icmpNo (pc' := 129) at_126 (by decide) rfl ?_
    refine X35.aload (pc' := 131) at_129 rfl rfl rfl ?_
    refine X35.iconst (pc' := 132) (z := 1) at_131 rfl rfl ?_
    refine X35.iload (pc' := 134) at_132 rfl rfl ?_
    refine X35.iastore (pc' := 135) V35 (show Inb (1 : Int32) 3 from ⟨by decide, by decide⟩) at_134 rfl (Or.inr sz_b34) (fun T36 h36 X36 W36 => ?_)
    have V36 : Lst Z h36 b34 .int [(.int s1), (.int s2), (.int (0 : Int32))] := V35.set W36
    refine X36.iload (pc' := 137) at_135 rfl rfl ?_
    refine X36.iconst (pc' := 138) (z := 2) at_137 rfl rfl ?_
    refine X36.icmpNo (pc' := 141) at_138 (by decide) rfl ?_
    refine X36.aload (pc' := 143) at_141 rfl rfl rfl ?_
    refine X36.iconst (pc' := 144) (z := 2) at_143 rfl rfl ?_
    refine X36.iload (pc' := 146) at_144 rfl rfl ?_
    refine X36.iastore (pc' := 147) V36 (show Inb (2 : Int32) 3 from ⟨by decide, by decide⟩) at_146 rfl (Or.inr sz_b34) (fun T37 h37 X37 W37 => ?_)
    have V37 : Lst Z h37 b34 .int [(.int s1), (.int s2), (.int s3)] := V36.set W37
    refine X37.iload (pc' := 149) at_147 rfl rfl ?_
    refine X37.iconst (pc' := 150) (z := 3) at_149 rfl rfl ?_
    refine X37.icmpYes (pc' := 159) at_150 (by decide) (by decide) (by decide) ?_
    refine X37.iload (pc' := 161) at_159 rfl rfl ?_
    refine X37.iconst (pc' := 162) (z := 4) at_161 rfl rfl ?_
    refine X37.icmpYes (pc' := 171) at_162 (by decide) (by decide) (by decide) ?_
    refine X37.iload (pc' := 173) at_171 rfl rfl ?_
    refine X37.iconst (pc' := 174) (z := 5) at_173 rfl rfl ?_
    refine X37.icmpYes (pc' := 183) at_174 (by decide) (by decide) (by decide) ?_
    refine X37.aload (pc' := 185) at_183 rfl rfl rfl ?_
    refine X37.callS (pc' := 188) (W := 0) (argsL := [(.ref b34)]) (rest := []) (ct2 l Z a0 hw b34 (own_pf s1 s2 s3 s4 s5 s6) 3 h37 (by decide) V37) (wd_6 hw) (wd_7 hw) (wd_8 hw) (wd_9 hw) (by decide) pd_3 rfl rfl rfl rfl at_185 rfl (by decide) rfl (by decide) (by decide) (by decide) allWs0 (fun T38 h38 v38 X38 K38 Q38 => ?_)
    have V37_38 := V37.keep K38 nin0
    obtain ⟨r38, rfl, zr, Vr⟩ := Q38
    have Vr' : Lst Z h38 r38 .int [(.int (own_tb (own_pf s1 s2 s3 s4 s5 s6) 3 0)), (.int (own_tb (own_pf s1 s2 s3 s4 s5 s6) 3 1)), (.int (own_tb (own_pf s1 s2 s3 s4 s5 s6) 3 2))] := Vr
    have sz_r38 : h0.size ≤ r38 := Nat.le_trans X37.size zr
    have ne_b34_r38 : b34 ≠ r38 := Nat.ne_of_lt (Nat.lt_of_lt_of_le V37.lt zr)
    show Runs p e below (T38.setTop (mkF m 188 #[.val (.int q1), .val (.int q2), .val (.int q3), .val (.int q4), .val (.int q5), .val (.int q6), .val (.int (3 : Int32)), .val (.int s1), .val (.int s2), .val (.int s3), .val (.int s4), .val (.int s5), .val (.int s6), .val (.ref b34), .unset] [(.ref r38)])) _
    refine X38.astore (pc' := 190) (l' := #[.val (.int q1), .val (.int q2), .val (.int q3), .val (.int q4), .val (.int q5), .val (.int q6), .val (.int (3 : Int32)), .val (.int s1), .val (.int s2), .val (.int s3), .val (.int s4), .val (.int s5), .val (.int s6), .val (.ref b34), .val (.ref r38)]) at_188 rfl rfl rfl ?_
    refine X38.aload (pc' := 192) at_190 rfl rfl rfl ?_
    refine X38.ifnullNo (pc' := 195) at_192 rfl ?_
    refine X38.aload (pc' := 197) at_195 rfl rfl rfl ?_
    refine X38.aload (pc' := 199) at_197 rfl rfl rfl ?_
    refine X38.acmp (pc' := 202) (u := (.ref r38)) (v := (.ref b34)) (same := false) at_199 rfl rfl (decide_eq_false fun q => (Ne.symm ne_b34_r38) (Value.ref.inj q)) (by decide) (by decide) ?_
    refine X38.aload (pc' := 204) at_202 rfl rfl rfl ?_
    refine X38.arraylength (pc' := 205) (n := (3 : Int32)) Vr' rfl at_204 rfl ?_
    refine X38.iload (pc' := 207) at_205 rfl rfl ?_
    refine X38.icmpYes (pc' := 212) at_207 (by decide) (by decide) (by decide) ?_
    refine X38.iload (pc' := 214) at_212 rfl rfl ?_
    refine X38.ifNo (pc' := 217) at_214 (by decide) rfl ?_
    refine X38.aload (pc' := 219) at_217 rfl rfl rfl ?_
    refine X38.iconst (pc' := 220) (z := 0) at_219 rfl rfl ?_
    refine X38.iaload (pc' := 221) (v := (.int s1)) V37_38 (show Inb (0 : Int32) 3 from ⟨by decide, by decide⟩) rfl at_220 rfl ?_
    refine X38.iload (pc' := 223) at_221 rfl rfl ?_
    refine X38.icmpYes (pc' := 228) at_223 (teq rfl).1 (by decide) (by decide) ?_
    refine X38.iload (pc' := 230) at_228 rfl rfl ?_
    refine X38.iconst (pc' := 231) (z := 1) at_230 rfl rfl ?_
    refine X38.icmpNo (pc' := 234) at_231 (by decide) rfl ?_
    refine X38.aload (pc' := 236) at_234 rfl rfl rfl ?_
    refine X38.iconst (pc' := 237) (z := 1) at_236 rfl rfl ?_
    refine X38.iaload (pc' := 238) (v := (.int s2)) V37_38 (show Inb (1 : Int32) 3 from ⟨by decide, by decide⟩) rfl at_237 rfl ?_
    refine X38.iload (pc' := 240) at_238 rfl rfl ?_
    refine X38.icmpYes (pc' := 245) at_240 (teq rfl).1 (by decide) (by decide) ?_
    refine X38.iload (pc' := 247) at_245 rfl rfl ?_
    refine X38.iconst (pc' := 248) (z := 2) at_247 rfl rfl ?_
    refine X38.icmpNo (pc' := 251) at_248 (by decide) rfl ?_
    refine X38.aload (pc' := 253) at_251 rfl rfl rfl ?_
    refine X38.iconst (pc' := 254) (z := 2) at_253 rfl rfl ?_
    refine X38.iaload (pc' := 255) (v := (.int s3)) V37_38 (show Inb (2 : Int32) 3 from ⟨by decide, by decide⟩) rfl at_254 rfl ?_
    refine X38.iload (pc' := 257) at_255 rfl rfl ?_
    refine X38.icmpYes (pc' := 262) at_257 (teq rfl).1 (by decide) (by decide) ?_
    refine X38.iload (pc' := 264) at_262 rfl rfl ?_
    refine X38.iconst (pc' := 265) (z := 3) at_264 rfl rfl ?_
    refine X38.icmpYes (pc' := 279) at_265 (by decide) (by decide) (by decide) ?_
    refine X38.iload (pc' := 281) at_279 rfl rfl ?_
    refine X38.iconst (pc' := 282) (z := 4) at_281 rfl rfl ?_
    refine X38.icmpYes (pc' := 296) at_282 (by decide) (by decide) (by decide) ?_
    refine X38.iload (pc' := 298) at_296 rfl rfl ?_
    refine X38.iconst (pc' := 299) (z := 5) at_298 rfl rfl ?_
    refine X38.icmpYes (pc' := 313) at_299 (by decide) (by decide) (by decide) ?_
    refine X38.aload (pc' := 315) at_313 rfl rfl rfl ?_
    refine X38.aload (pc' := 317) at_315 rfl rfl rfl ?_
    refine X38.iconst (pc' := 318) (z := 0) at_317 rfl rfl ?_
    refine X38.iload (pc' := 320) at_318 rfl rfl ?_
    refine X38.callS (pc' := 323) (W := 0) (argsL := [(.ref r38), (.ref b34), (.int (0 : Int32)), (.int (3 : Int32))]) (rest := []) (ct3_0 l Z a0 hw r38 b34 (own_pf s1 s2 s3 s4 s5 s6) (own_tb (own_pf s1 s2 s3 s4 s5 s6) 3) 3 (3 : Int32) h38 V37_38 Vr' (by decide) (by decide) (own_hb (by decide) (by decide))) (wd_10 hw) (wd_11 hw) (wd_3 hw) (wd_12 hw) (by decide) pd_4 rfl rfl rfl rfl at_320 rfl (by decide) rfl (by decide) (by decide) (by decide) allWs0 (fun T39 h39 v39 X39 K39 Q39 => ?_)
    obtain ⟨rfl, rfl⟩ := Q39
    show Runs p e below (T39.setTop (mkF m 323 #[.val (.int q1), .val (.int q2), .val (.int q3), .val (.int q4), .val (.int q5), .val (.int q6), .val (.int (3 : Int32)), .val (.int s1), .val (.int s2), .val (.int s3), .val (.int s4), .val (.int s5), .val (.int s6), .val (.ref b34), .val (.ref r38)] [(.int (1 : Int32))])) _
    refine X39.ifNo (pc' := 326) at_323 (by decide) rfl ?_
    refine X39.aload (pc' := 328) at_326 rfl rfl rfl ?_
    refine X39.aload (pc' := 330) at_328 rfl rfl rfl ?_
    refine X39.iconst (pc' := 331) (z := 1) at_330 rfl rfl ?_
    refine X39.iload (pc' := 333) at_331 rfl rfl ?_
    refine X39.callS (pc' := 336) (W := 0) (argsL := [(.ref r38), (.ref b34), (.int (1 : Int32)), (.int (3 : Int32))]) (rest := []) (ct3_1 l Z a0 hw r38 b34 (own_pf s1 s2 s3 s4 s5 s6) (own_tb (own_pf s1 s2 s3 s4 s5 s6) 3) 3 (3 : Int32) h38 V37_38 Vr' (by decide) (by decide) (own_hb (by decide) (by decide))) (wd_10 hw) (wd_11 hw) (wd_3 hw) (wd_12 hw) (by decide) pd_4 rfl rfl rfl rfl at_333 rfl (by decide) rfl (by decide) (by decide) (by decide) allWs0 (fun T40 h40 v40 X40 K40 Q40 => ?_)
    obtain ⟨rfl, rfl⟩ := Q40
    show Runs p e below (T40.setTop (mkF m 336 #[.val (.int q1), .val (.int q2), .val (.int q3), .val (.int q4), .val (.int q5), .val (.int q6), .val (.int (3 : Int32)), .val (.int s1), .val (.int s2), .val (.int s3), .val (.int s4), .val (.int s5), .val (.int s6), .val (.ref b34), .val (.ref r38)] [(.int (1 : Int32))])) _
    refine X40.ifNo (pc' := 339) at_336 (by decide) rfl ?_
    refine X40.aload (pc' := 341) at_339 rfl rfl rfl ?_
    refine X40.aload (pc' := 343) at_341 rfl rfl rfl ?_
    refine X40.iconst (pc' := 344) (z := 2) at_343 rfl rfl ?_
    refine X40.iload (pc' := 346) at_344 rfl rfl ?_
    refine X40.callS (pc' := 349) (W := 0) (argsL := [(.ref r38), (.ref b34), (.int (2 : Int32)), (.int (3 : Int32))]) (rest := []) (ct3_2 l Z a0 hw r38 b34 (own_pf s1 s2 s3 s4 s5 s6) (own_tb (own_pf s1 s2 s3 s4 s5 s6) 3) 3 (3 : Int32) h38 V37_38 Vr' (by decide) (by decide) (own_hb (by decide) (by decide))) (wd_10 hw) (wd_11 hw) (wd_3 hw) (wd_12 hw) (by decide) pd_4 rfl rfl rfl rfl at_346 rfl (by decide) rfl (by decide) (by decide) (by decide) allWs0 (fun T41 h41 v41 X41 K41 Q41 => ?_)
    obtain ⟨rfl, rfl⟩ := Q41
    show Runs p e below (T41.setTop (mkF m 349 #[.val (.int q1), .val (.int q2), .val (.int q3), .val (.int q4), .val (.int q5), .val (.int q6), .val (.int (3 : Int32)), .val (.int s1), .val (.int s2), .val (.int s3), .val (.int s4), .val (.int s5), .val (.int s6), .val (.ref b34), .val (.ref r38)] [(.int (1 : Int32))])) _
    refine X41.ifNo (pc' := 352) at_349 (by decide) rfl ?_
    refine X41.aload (pc' := 354) at_352 rfl rfl rfl ?_
    refine X41.aload (pc' := 356) at_354 rfl rfl rfl ?_
    refine X41.iconst (pc' := 357) (z := 3) at_356 rfl rfl ?_
    refine X41.iload (pc' := 359) at_357 rfl rfl ?_
    refine X41.callS (pc' := 362) (W := 0) (argsL := [(.ref r38), (.ref b34), (.int (3 : Int32)), (.int (3 : Int32))]) (rest := []) (ct3g l Z a0 hw r38 b34 (3 : Int32) (3 : Int32) h38 (by decide)) (wd_10 hw) (wd_11 hw) (wd_3 hw) (wd_12 hw) (by decide) pd_4 rfl rfl rfl rfl at_359 rfl (by decide) rfl (by decide) (by decide) (by decide) allWs0 (fun T42 h42 v42 X42 K42 Q42 => ?_)
    obtain ⟨rfl, rfl⟩ := Q42
    show Runs p e below (T42.setTop (mkF m 362 #[.val (.int q1), .val (.int q2), .val (.int q3), .val (.int q4), .val (.int q5), .val (.int q6), .val (.int (3 : Int32)), .val (.int s1), .val (.int s2), .val (.int s3), .val (.int s4), .val (.int s5), .val (.int s6), .val (.ref b34), .val (.ref r38)] [(.int (1 : Int32))])) _
    refine X42.ifNo (pc' := 365) at_362 (by decide) rfl ?_
    refine X42.aload (pc' := 367) at_365 rfl rfl rfl ?_
    refine X42.aload (pc' := 369) at_367 rfl rfl rfl ?_
    refine X42.iconst (pc' := 370) (z := 4) at_369 rfl rfl ?_
    refine X42.iload (pc' := 372) at_370 rfl rfl ?_
    refine X42.callS (pc' := 375) (W := 0) (argsL := [(.ref r38), (.ref b34), (.int (4 : Int32)), (.int (3 : Int32))]) (rest := []) (ct3g l Z a0 hw r38 b34 (4 : Int32) (3 : Int32) h38 (by decide)) (wd_10 hw) (wd_11 hw) (wd_3 hw) (wd_12 hw) (by decide) pd_4 rfl rfl rfl rfl at_372 rfl (by decide) rfl (by decide) (by decide) (by decide) allWs0 (fun T43 h43 v43 X43 K43 Q43 => ?_)
    obtain ⟨rfl, rfl⟩ := Q43
    show Runs p e below (T43.setTop (mkF m 375 #[.val (.int q1), .val (.int q2), .val (.int q3), .val (.int q4), .val (.int q5), .val (.int q6), .val (.int (3 : Int32)), .val (.int s1), .val (.int s2), .val (.int s3), .val (.int s4), .val (.int s5), .val (.int s6), .val (.ref b34), .val (.ref r38)] [(.int (1 : Int32))])) _
    refine X43.ifNo (pc' := 378) at_375 (by decide) rfl ?_
    refine X43.aload (pc' := 380) at_378 rfl rfl rfl ?_
    refine X43.aload (pc' := 382) at_380 rfl rfl rfl ?_
    refine X43.iconst (pc' := 383) (z := 5) at_382 rfl rfl ?_
    refine X43.iload (pc' := 385) at_383 rfl rfl ?_
    refine X43.callS (pc' := 388) (W := 0) (argsL := [(.ref r38), (.ref b34), (.int (5 : Int32)), (.int (3 : Int32))]) (rest := []) (ct3g l Z a0 hw r38 b34 (5 : Int32) (3 : Int32) h38 (by decide)) (wd_10 hw) (wd_11 hw) (wd_3 hw) (wd_12 hw) (by decide) pd_4 rfl rfl rfl rfl at_385 rfl (by decide) rfl (by decide) (by decide) (by decide) allWs0 (fun T44 h44 v44 X44 K44 Q44 => ?_)
    obtain ⟨rfl, rfl⟩ := Q44
    show Runs p e below (T44.setTop (mkF m 388 #[.val (.int q1), .val (.int q2), .val (.int q3), .val (.int q4), .val (.int q5), .val (.int q6), .val (.int (3 : Int32)), .val (.int s1), .val (.int s2), .val (.int s3), .val (.int s4), .val (.int s5), .val (.int s6), .val (.ref b34), .val (.ref r38)] [(.int (1 : Int32))])) _
    refine X44.ifNo (pc' := 391) at_388 (by decide) rfl ?_
    refine X44.iconst (pc' := 392) (z := 1) at_391 rfl rfl ?_
    refine X44.goto (pc' := 396) at_392 (by decide) (by decide) ?_
    exact X44.zreturn (z' := (1 : Int32)) rfl (by simp) at_396 rfl (by decide) (by decide) rfl
  · refine X6.iload (pc' := 108) at_106 rfl rfl ?_
    refine X6.newarray (pc' := 110) (ty := .int) rfl (wd_5 hw) at_108 rfl (cap := 4) ⟨by decide, by decide⟩ (by decide) (by decide) (by decide) (fun T45 h45 b45 X45 g45 E45 V45 => ?_)
    have sz_b45 : h0.size ≤ b45 := g45 ▸ X6.size
    have V45' : Lst Z h45 b45 .int [(.int (0 : Int32)), (.int (0 : Int32)), (.int (0 : Int32)), (.int (0 : Int32))] := V45
    refine X45.astore (pc' := 112) (l' := #[.val (.int q1), .val (.int q2), .val (.int q3), .val (.int q4), .val (.int q5), .val (.int q6), .val (.int (4 : Int32)), .val (.int s1), .val (.int s2), .val (.int s3), .val (.int s4), .val (.int s5), .val (.int s6), .val (.ref b45), .unset]) at_110 rfl rfl rfl ?_
    refine X45.iload (pc' := 114) at_112 rfl rfl ?_
    refine X45.ifNo (pc' := 117) at_114 (by decide) rfl ?_
    refine X45.aload (pc' := 119) at_117 rfl rfl rfl ?_
    refine X45.iconst (pc' := 120) (z := 0) at_119 rfl rfl ?_
    refine X45.iload (pc' := 122) at_120 rfl rfl ?_
    refine X45.iastore (pc' := 123) V45' (show Inb (0 : Int32) 4 from ⟨by decide, by decide⟩) at_122 rfl (Or.inr sz_b45) (fun T46 h46 X46 W46 => ?_)
    have V46 : Lst Z h46 b45 .int [(.int s1), (.int (0 : Int32)), (.int (0 : Int32)), (.int (0 : Int32))] := V45'.set W46
    refine X46.iload (pc' := 125) at_123 rfl rfl ?_
    refine X46.iconst (pc' := 126) (z := 1) at_125 rfl rfl ?_
    refine X46.icmpNo (pc' := 129) at_126 (by decide) rfl ?_
    refine X46.aload (pc' := 131) at_129 rfl rfl rfl ?_
    refine X46.iconst (pc' := 132) (z := 1) at_131 rfl rfl ?_
    refine X46.iload (pc' := 134) at_132 rfl rfl ?_
    refine X46.iastore (pc' := 135) V46 (show Inb (1 : Int32) 4 from ⟨by decide, by decide⟩) at_134 rfl (Or.inr sz_b45) (fun T47 h47 X47 W47 => ?_)
    have V47 : Lst Z h47 b45 .int [(.int s1), (.int s2), (.int (0 : Int32)), (.int (0 : Int32))] := V46.set W47
    refine X47.iload (pc' := 137) at_135 rfl rfl ?_
    refine X47.iconst (pc' := 138) (z := 2) at_137 rfl rfl ?_
    refine X47.icmpNo (pc' := 141) at_138 (by decide) rfl ?_
    refine X47.aload (pc' := 143) at_141 rfl rfl rfl ?_
    refine X47.iconst (pc' := 144) (z := 2) at_143 rfl rfl ?_
    refine X47.iload (pc' := 146) at_144 rfl rfl ?_
    refine X47.iastore (pc' := 147) V47 (show Inb (2 : Int32) 4 from ⟨by decide, by decide⟩) at_146 rfl (Or.inr sz_b45) (fun T48 h48 X48 W48 => ?_)
    have V48 : Lst Z h48 b45 .int [(.int s1), (.int s2), (.int s3), (.int (0 : Int32))] := V47.set W48
    refine X48.iload (pc' := 149) at_147 rfl rfl ?_
    refine X48.iconst (pc' := 150) (z := 3) at_149 rfl rfl ?_
    refine X48.icmpNo (pc' := 153) at_150 (by decide) rfl ?_
    refine X48.aload (pc' := 155) at_153 rfl rfl rfl ?_
    refine X48.iconst (pc' := 156) (z := 3) at_155 rfl rfl ?_
    refine X48.iload (pc' := 158) at_156 rfl rfl ?_
    refine X48.iastore (pc' := 159) V48 (show Inb (3 : Int32) 4 from ⟨by decide, by decide⟩) at_158 rfl (Or.inr sz_b45) (fun T49 h49 X49 W49 => ?_)
    have V49 : Lst Z h49 b45 .int [(.int s1), (.int s2), (.int s3), (.int s4)] := V48.set W49
    refine X49.iload (pc' := 161) at_159 rfl rfl ?_
    refine X49.iconst (pc' := 162) (z := 4) at_161 rfl rfl ?_
    refine X49.icmpYes (pc' := 171) at_162 (by decide) (by decide) (by decide) ?_
    refine X49.iload (pc' := 173) at_171 rfl rfl ?_
    refine X49.iconst (pc' := 174) (z := 5) at_173 rfl rfl ?_
    refine X49.icmpYes (pc' := 183) at_174 (by decide) (by decide) (by decide) ?_
    refine X49.aload (pc' := 185) at_183 rfl rfl rfl ?_
    refine X49.callS (pc' := 188) (W := 0) (argsL := [(.ref b45)]) (rest := []) (ct2 l Z a0 hw b45 (own_pf s1 s2 s3 s4 s5 s6) 4 h49 (by decide) V49) (wd_6 hw) (wd_7 hw) (wd_8 hw) (wd_9 hw) (by decide) pd_3 rfl rfl rfl rfl at_185 rfl (by decide) rfl (by decide) (by decide) (by decide) allWs0 (fun T50 h50 v50 X50 K50 Q50 => ?_)
    have V49_50 := V49.keep K50 nin0
    obtain ⟨r50, rfl, zr, Vr⟩ := Q50
    have Vr' : Lst Z h50 r50 .int [(.int (own_tb (own_pf s1 s2 s3 s4 s5 s6) 4 0)), (.int (own_tb (own_pf s1 s2 s3 s4 s5 s6) 4 1)), (.int (own_tb (own_pf s1 s2 s3 s4 s5 s6) 4 2)), (.int (own_tb (own_pf s1 s2 s3 s4 s5 s6) 4 3))] := Vr
    have sz_r50 : h0.size ≤ r50 := Nat.le_trans X49.size zr
    have ne_b45_r50 : b45 ≠ r50 := Nat.ne_of_lt (Nat.lt_of_lt_of_le V49.lt zr)
    show Runs p e below (T50.setTop (mkF m 188 #[.val (.int q1), .val (.int q2), .val (.int q3), .val (.int q4), .val (.int q5), .val (.int q6), .val (.int (4 : Int32)), .val (.int s1), .val (.int s2), .val (.int s3), .val (.int s4), .val (.int s5), .val (.int s6), .val (.ref b45), .unset] [(.ref r50)])) _
    refine X50.astore (pc' := 190) (l' := #[.val (.int q1), .val (.int q2), .val (.int q3), .val (.int q4), .val (.int q5), .val (.int q6), .val (.int (4 : Int32)), .val (.int s1), .val (.int s2), .val (.int s3), .val (.int s4), .val (.int s5), .val (.int s6), .val (.ref b45), .val (.ref r50)]) at_188 rfl rfl rfl ?_
    refine X50.aload (pc' := 192) at_190 rfl rfl rfl ?_
    refine X50.ifnullNo (pc' := 195) at_192 rfl ?_
    refine X50.aload (pc' := 197) at_195 rfl rfl rfl ?_
    refine X50.aload (pc' := 199) at_197 rfl rfl rfl ?_
    refine X50.acmp (pc' := 202) (u := (.ref r50)) (v := (.ref b45)) (same := false) at_199 rfl rfl (decide_eq_false fun q => (Ne.symm ne_b45_r50) (Value.ref.inj q)) (by decide) (by decide) ?_
    refine X50.aload (pc' := 204) at_202 rfl rfl rfl ?_
    refine X50.arraylength (pc' := 205) (n := (4 : Int32)) Vr' rfl at_204 rfl ?_
    refine X50.iload (pc' := 207) at_205 rfl rfl ?_
    refine X50.icmpYes (pc' := 212) at_207 (by decide) (by decide) (by decide) ?_
    refine X50.iload (pc' := 214) at_212 rfl rfl ?_
    refine X50.ifNo (pc' := 217) at_214 (by decide) rfl ?_
    refine X50.aload (pc' := 219) at_217 rfl rfl rfl ?_
    refine X50.iconst (pc' := 220) (z := 0) at_219 rfl rfl ?_
    refine X50.iaload (pc' := 221) (v := (.int s1)) V49_50 (show Inb (0 : Int32) 4 from ⟨by decide, by decide⟩) rfl at_220 rfl ?_
    refine X50.iload (pc' := 223) at_221 rfl rfl ?_
    refine X50.icmpYes (pc' := 228) at_223 (teq rfl).1 (by decide) (by decide) ?_
    refine X50.iload (pc' := 230) at_228 rfl rfl ?_
    refine X50.iconst (pc' := 231) (z := 1) at_230 rfl rfl ?_
    refine X50.icmpNo (pc' := 234) at_231 (by decide) rfl ?_
    refine X50.aload (pc' := 236) at_234 rfl rfl rfl ?_
    refine X50.iconst (pc' := 237) (z := 1) at_236 rfl rfl ?_
    refine X50.iaload (pc' := 238) (v := (.int s2)) V49_50 (show Inb (1 : Int32) 4 from ⟨by decide, by decide⟩) rfl at_237 rfl ?_
    refine X50.iload (pc' := 240) at_238 rfl rfl ?_
    refine X50.icmpYes (pc' := 245) at_240 (teq rfl).1 (by decide) (by decide) ?_
    refine X50.iload (pc' := 247) at_245 rfl rfl ?_
    refine X50.iconst (pc' := 248) (z := 2) at_247 rfl rfl ?_
    refine X50.icmpNo (pc' := 251) at_248 (by decide) rfl ?_
    refine X50.aload (pc' := 253) at_251 rfl rfl rfl ?_
    refine X50.iconst (pc' := 254) (z := 2) at_253 rfl rfl ?_
    refine X50.iaload (pc' := 255) (v := (.int s3)) V49_50 (show Inb (2 : Int32) 4 from ⟨by decide, by decide⟩) rfl at_254 rfl ?_
    refine X50.iload (pc' := 257) at_255 rfl rfl ?_
    refine X50.icmpYes (pc' := 262) at_257 (teq rfl).1 (by decide) (by decide) ?_
    refine X50.iload (pc' := 264) at_262 rfl rfl ?_
    refine X50.iconst (pc' := 265) (z := 3) at_264 rfl rfl ?_
    refine X50.icmpNo (pc' := 268) at_265 (by decide) rfl ?_
    refine X50.aload (pc' := 270) at_268 rfl rfl rfl ?_
    refine X50.iconst (pc' := 271) (z := 3) at_270 rfl rfl ?_
    refine X50.iaload (pc' := 272) (v := (.int s4)) V49_50 (show Inb (3 : Int32) 4 from ⟨by decide, by decide⟩) rfl at_271 rfl ?_
    refine X50.iload (pc' := 274) at_272 rfl rfl ?_
    refine X50.icmpYes (pc' := 279) at_274 (teq rfl).1 (by decide) (by decide) ?_
    refine X50.iload (pc' := 281) at_279 rfl rfl ?_
    refine X50.iconst (pc' := 282) (z := 4) at_281 rfl rfl ?_
    refine X50.icmpYes (pc' := 296) at_282 (by decide) (by decide) (by decide) ?_
    refine X50.iload (pc' := 298) at_296 rfl rfl ?_
    refine X50.iconst (pc' := 299) (z := 5) at_298 rfl rfl ?_
    refine X50.icmpYes (pc' := 313) at_299 (by decide) (by decide) (by decide) ?_
    refine X50.aload (pc' := 315) at_313 rfl rfl rfl ?_
    refine X50.aload (pc' := 317) at_315 rfl rfl rfl ?_
    refine X50.iconst (pc' := 318) (z := 0) at_317 rfl rfl ?_
    refine X50.iload (pc' := 320) at_318 rfl rfl ?_
    refine X50.callS (pc' := 323) (W := 0) (argsL := [(.ref r50), (.ref b45), (.int (0 : Int32)), (.int (4 : Int32))]) (rest := []) (ct3_0 l Z a0 hw r50 b45 (own_pf s1 s2 s3 s4 s5 s6) (own_tb (own_pf s1 s2 s3 s4 s5 s6) 4) 4 (4 : Int32) h50 V49_50 Vr' (by decide) (by decide) (own_hb (by decide) (by decide))) (wd_10 hw) (wd_11 hw) (wd_3 hw) (wd_12 hw) (by decide) pd_4 rfl rfl rfl rfl at_320 rfl (by decide) rfl (by decide) (by decide) (by decide) allWs0 (fun T51 h51 v51 X51 K51 Q51 => ?_)
    obtain ⟨rfl, rfl⟩ := Q51
    show Runs p e below (T51.setTop (mkF m 323 #[.val (.int q1), .val (.int q2), .val (.int q3), .val (.int q4), .val (.int q5), .val (.int q6), .val (.int (4 : Int32)), .val (.int s1), .val (.int s2), .val (.int s3), .val (.int s4), .val (.int s5), .val (.int s6), .val (.ref b45), .val (.ref r50)] [(.int (1 : Int32))])) _
    refine X51.ifNo (pc' := 326) at_323 (by decide) rfl ?_
    refine X51.aload (pc' := 328) at_326 rfl rfl rfl ?_
    refine X51.aload (pc' := 330) at_328 rfl rfl rfl ?_
    refine X51.iconst (pc' := 331) (z := 1) at_330 rfl rfl ?_
    refine X51.iload (pc' := 333) at_331 rfl rfl ?_
    refine X51.callS (pc' := 336) (W := 0) (argsL := [(.ref r50), (.ref b45), (.int (1 : Int32)), (.int (4 : Int32))]) (rest := []) (ct3_1 l Z a0 hw r50 b45 (own_pf s1 s2 s3 s4 s5 s6) (own_tb (own_pf s1 s2 s3 s4 s5 s6) 4) 4 (4 : Int32) h50 V49_50 Vr' (by decide) (by decide) (own_hb (by decide) (by decide))) (wd_10 hw) (wd_11 hw) (wd_3 hw) (wd_12 hw) (by decide) pd_4 rfl rfl rfl rfl at_333 rfl (by decide) rfl (by decide) (by decide) (by decide) allWs0 (fun T52 h52 v52 X52 K52 Q52 => ?_)
    obtain ⟨rfl, rfl⟩ := Q52
    show Runs p e below (T52.setTop (mkF m 336 #[.val (.int q1), .val (.int q2), .val (.int q3), .val (.int q4), .val (.int q5), .val (.int q6), .val (.int (4 : Int32)), .val (.int s1), .val (.int s2), .val (.int s3), .val (.int s4), .val (.int s5), .val (.int s6), .val (.ref b45), .val (.ref r50)] [(.int (1 : Int32))])) _
    refine X52.ifNo (pc' := 339) at_336 (by decide) rfl ?_
    refine X52.aload (pc' := 341) at_339 rfl rfl rfl ?_
    refine X52.aload (pc' := 343) at_341 rfl rfl rfl ?_
    refine X52.iconst (pc' := 344) (z := 2) at_343 rfl rfl ?_
    refine X52.iload (pc' := 346) at_344 rfl rfl ?_
    refine X52.callS (pc' := 349) (W := 0) (argsL := [(.ref r50), (.ref b45), (.int (2 : Int32)), (.int (4 : Int32))]) (rest := []) (ct3_2 l Z a0 hw r50 b45 (own_pf s1 s2 s3 s4 s5 s6) (own_tb (own_pf s1 s2 s3 s4 s5 s6) 4) 4 (4 : Int32) h50 V49_50 Vr' (by decide) (by decide) (own_hb (by decide) (by decide))) (wd_10 hw) (wd_11 hw) (wd_3 hw) (wd_12 hw) (by decide) pd_4 rfl rfl rfl rfl at_346 rfl (by decide) rfl (by decide) (by decide) (by decide) allWs0 (fun T53 h53 v53 X53 K53 Q53 => ?_)
    obtain ⟨rfl, rfl⟩ := Q53
    show Runs p e below (T53.setTop (mkF m 349 #[.val (.int q1), .val (.int q2), .val (.int q3), .val (.int q4), .val (.int q5), .val (.int q6), .val (.int (4 : Int32)), .val (.int s1), .val (.int s2), .val (.int s3), .val (.int s4), .val (.int s5), .val (.int s6), .val (.ref b45), .val (.ref r50)] [(.int (1 : Int32))])) _
    refine X53.ifNo (pc' := 352) at_349 (by decide) rfl ?_
    refine X53.aload (pc' := 354) at_352 rfl rfl rfl ?_
    refine X53.aload (pc' := 356) at_354 rfl rfl rfl ?_
    refine X53.iconst (pc' := 357) (z := 3) at_356 rfl rfl ?_
    refine X53.iload (pc' := 359) at_357 rfl rfl ?_
    refine X53.callS (pc' := 362) (W := 0) (argsL := [(.ref r50), (.ref b45), (.int (3 : Int32)), (.int (4 : Int32))]) (rest := []) (ct3_3 l Z a0 hw r50 b45 (own_pf s1 s2 s3 s4 s5 s6) (own_tb (own_pf s1 s2 s3 s4 s5 s6) 4) 4 (4 : Int32) h50 V49_50 Vr' (by decide) (by decide) (own_hb (by decide) (by decide))) (wd_10 hw) (wd_11 hw) (wd_3 hw) (wd_12 hw) (by decide) pd_4 rfl rfl rfl rfl at_359 rfl (by decide) rfl (by decide) (by decide) (by decide) allWs0 (fun T54 h54 v54 X54 K54 Q54 => ?_)
    obtain ⟨rfl, rfl⟩ := Q54
    show Runs p e below (T54.setTop (mkF m 362 #[.val (.int q1), .val (.int q2), .val (.int q3), .val (.int q4), .val (.int q5), .val (.int q6), .val (.int (4 : Int32)), .val (.int s1), .val (.int s2), .val (.int s3), .val (.int s4), .val (.int s5), .val (.int s6), .val (.ref b45), .val (.ref r50)] [(.int (1 : Int32))])) _
    refine X54.ifNo (pc' := 365) at_362 (by decide) rfl ?_
    refine X54.aload (pc' := 367) at_365 rfl rfl rfl ?_
    refine X54.aload (pc' := 369) at_367 rfl rfl rfl ?_
    refine X54.iconst (pc' := 370) (z := 4) at_369 rfl rfl ?_
    refine X54.iload (pc' := 372) at_370 rfl rfl ?_
    refine X54.callS (pc' := 375) (W := 0) (argsL := [(.ref r50), (.ref b45), (.int (4 : Int32)), (.int (4 : Int32))]) (rest := []) (ct3g l Z a0 hw r50 b45 (4 : Int32) (4 : Int32) h50 (by decide)) (wd_10 hw) (wd_11 hw) (wd_3 hw) (wd_12 hw) (by decide) pd_4 rfl rfl rfl rfl at_372 rfl (by decide) rfl (by decide) (by decide) (by decide) allWs0 (fun T55 h55 v55 X55 K55 Q55 => ?_)
    obtain ⟨rfl, rfl⟩ := Q55
    show Runs p e below (T55.setTop (mkF m 375 #[.val (.int q1), .val (.int q2), .val (.int q3), .val (.int q4), .val (.int q5), .val (.int q6), .val (.int (4 : Int32)), .val (.int s1), .val (.int s2), .val (.int s3), .val (.int s4), .val (.int s5), .val (.int s6), .val (.ref b45), .val (.ref r50)] [(.int (1 : Int32))])) _
    refine X55.ifNo (pc' := 378) at_375 (by decide) rfl ?_
    refine X55.aload (pc' := 380) at_378 rfl rfl rfl ?_
    refine X55.aload (pc' := 382) at_380 rfl rfl rfl ?_
    refine X55.iconst (pc' := 383) (z := 5) at_382 rfl rfl ?_
    refine X55.iload (pc' := 385) at_383 rfl rfl ?_
    refine X55.callS (pc' := 388) (W := 0) (argsL := [(.ref r50), (.ref b45), (.int (5 : Int32)), (.int (4 : Int32))]) (rest := []) (ct3g l Z a0 hw r50 b45 (5 : Int32) (4 : Int32) h50 (by decide)) (wd_10 hw) (wd_11 hw) (wd_3 hw) (wd_12 hw) (by decide) pd_4 rfl rfl rfl rfl at_385 rfl (by decide) rfl (by decide) (by decide) (by decide) allWs0 (fun T56 h56 v56 X56 K56 Q56 => ?_)
    obtain ⟨rfl, rfl⟩ := Q56
    show Runs p e below (T56.setTop (mkF m 388 #[.val (.int q1), .val (.int q2), .val (.int q3), .val (.int q4), .val (.int q5), .val (.int q6), .val (.int (4 : Int32)), .val (.int s1), .val (.int s2), .val (.int s3), .val (.int s4), .val (.int s5), .val (.int s6), .val (.ref b45), .val (.ref r50)] [(.int (1 : Int32))])) _
    refine X56.ifNo (pc' := 391) at_388 (by decide) rfl ?_
    refine X56.iconst (pc' := 392) (z := 1) at_391 rfl rfl ?_
    refine X56.goto (pc' := 396) at_392 (by decide) (by decide) ?_
    exact X56.zreturn (z' := (1 : Int32)) rfl (by simp) at_396 rfl (by decide) (by decide) rfl
  · refine X6.iload (pc' := 108) at_106 rfl rfl ?_
    refine X6.newarray (pc' := 110) (ty := .int) rfl (wd_5 hw) at_108 rfl (cap := 5) ⟨by decide, by decide⟩ (by decide) (by decide) (by decide) (fun T57 h57 b57 X57 g57 E57 V57 => ?_)
    have sz_b57 : h0.size ≤ b57 := g57 ▸ X6.size
    have V57' : Lst Z h57 b57 .int [(.int (0 : Int32)), (.int (0 : Int32)), (.int (0 : Int32)), (.int (0 : Int32)), (.int (0 : Int32))] := V57
    refine X57.astore (pc' := 112) (l' := #[.val (.int q1), .val (.int q2), .val (.int q3), .val (.int q4), .val (.int q5), .val (.int q6), .val (.int (5 : Int32)), .val (.int s1), .val (.int s2), .val (.int s3), .val (.int s4), .val (.int s5), .val (.int s6), .val (.ref b57), .unset]) at_110 rfl rfl rfl ?_
    refine X57.iload (pc' := 114) at_112 rfl rfl ?_
    refine X57.ifNo (pc' := 117) at_114 (by decide) rfl ?_
    refine X57.aload (pc' := 119) at_117 rfl rfl rfl ?_
    refine X57.iconst (pc' := 120) (z := 0) at_119 rfl rfl ?_
    refine X57.iload (pc' := 122) at_120 rfl rfl ?_
    refine X57.iastore (pc' := 123) V57' (show Inb (0 : Int32) 5 from ⟨by decide, by decide⟩) at_122 rfl (Or.inr sz_b57) (fun T58 h58 X58 W58 => ?_)
    have V58 : Lst Z h58 b57 .int [(.int s1), (.int (0 : Int32)), (.int (0 : Int32)), (.int (0 : Int32)), (.int (0 : Int32))] := V57'.set W58
    refine X58.iload (pc' := 125) at_123 rfl rfl ?_
    refine X58.iconst (pc' := 126) (z := 1) at_125 rfl rfl ?_
    refine X58.icmpNo (pc' := 129) at_126 (by decide) rfl ?_
    refine X58.aload (pc' := 131) at_129 rfl rfl rfl ?_
    refine X58.iconst (pc' := 132) (z := 1) at_131 rfl rfl ?_
    refine X58.iload (pc' := 134) at_132 rfl rfl ?_
    refine X58.iastore (pc' := 135) V58 (show Inb (1 : Int32) 5 from ⟨by decide, by decide⟩) at_134 rfl (Or.inr sz_b57) (fun T59 h59 X59 W59 => ?_)
    have V59 : Lst Z h59 b57 .int [(.int s1), (.int s2), (.int (0 : Int32)), (.int (0 : Int32)), (.int (0 : Int32))] := V58.set W59
    refine X59.iload (pc' := 137) at_135 rfl rfl ?_
    refine X59.iconst (pc' := 138) (z := 2) at_137 rfl rfl ?_
    refine X59.icmpNo (pc' := 141) at_138 (by decide) rfl ?_
    refine X59.aload (pc' := 143) at_141 rfl rfl rfl ?_
    refine X59.iconst (pc' := 144) (z := 2) at_143 rfl rfl ?_
    refine X59.iload (pc' := 146) at_144 rfl rfl ?_
    refine X59.iastore (pc' := 147) V59 (show Inb (2 : Int32) 5 from ⟨by decide, by decide⟩) at_146 rfl (Or.inr sz_b57) (fun T60 h60 X60 W60 => ?_)
    have V60 : Lst Z h60 b57 .int [(.int s1), (.int s2), (.int s3), (.int (0 : Int32)), (.int (0 : Int32))] := V59.set W60
    refine X60.iload (pc' := 149) at_147 rfl rfl ?_
    refine X60.iconst (pc' := 150) (z := 3) at_149 rfl rfl ?_
    refine X60.icmpNo (pc' := 153) at_150 (by decide) rfl ?_
    refine X60.aload (pc' := 155) at_153 rfl rfl rfl ?_
    refine X60.iconst (pc' := 156) (z := 3) at_155 rfl rfl ?_
    refine X60.iload (pc' := 158) at_156 rfl rfl ?_
    refine X60.iastore (pc' := 159) V60 (show Inb (3 : Int32) 5 from ⟨by decide, by decide⟩) at_158 rfl (Or.inr sz_b57) (fun T61 h61 X61 W61 => ?_)
    have V61 : Lst Z h61 b57 .int [(.int s1), (.int s2), (.int s3), (.int s4), (.int (0 : Int32))] := V60.set W61
    refine X61.iload (pc' := 161) at_159 rfl rfl ?_
    refine X61.iconst (pc' := 162) (z := 4) at_161 rfl rfl ?_
    refine X61.icmpNo (pc' := 165) at_162 (by decide) rfl ?_
    refine X61.aload (pc' := 167) at_165 rfl rfl rfl ?_
    refine X61.iconst (pc' := 168) (z := 4) at_167 rfl rfl ?_
    refine X61.iload (pc' := 170) at_168 rfl rfl ?_
    refine X61.iastore (pc' := 171) V61 (show Inb (4 : Int32) 5 from ⟨by decide, by decide⟩) at_170 rfl (Or.inr sz_b57) (fun T62 h62 X62 W62 => ?_)
    have V62 : Lst Z h62 b57 .int [(.int s1), (.int s2), (.int s3), (.int s4), (.int s5)] := V61.set W62
    refine X62.iload (pc' := 173) at_171 rfl rfl ?_
    refine X62.iconst (pc' := 174) (z := 5) at_173 rfl rfl ?_
    refine X62.icmpYes (pc' := 183) at_174 (by decide) (by decide) (by decide) ?_
    refine X62.aload (pc' := 185) at_183 rfl rfl rfl ?_
    refine X62.callS (pc' := 188) (W := 0) (argsL := [(.ref b57)]) (rest := []) (ct2 l Z a0 hw b57 (own_pf s1 s2 s3 s4 s5 s6) 5 h62 (by decide) V62) (wd_6 hw) (wd_7 hw) (wd_8 hw) (wd_9 hw) (by decide) pd_3 rfl rfl rfl rfl at_185 rfl (by decide) rfl (by decide) (by decide) (by decide) allWs0 (fun T63 h63 v63 X63 K63 Q63 => ?_)
    have V62_63 := V62.keep K63 nin0
    obtain ⟨r63, rfl, zr, Vr⟩ := Q63
    have Vr' : Lst Z h63 r63 .int [(.int (own_tb (own_pf s1 s2 s3 s4 s5 s6) 5 0)), (.int (own_tb (own_pf s1 s2 s3 s4 s5 s6) 5 1)), (.int (own_tb (own_pf s1 s2 s3 s4 s5 s6) 5 2)), (.int (own_tb (own_pf s1 s2 s3 s4 s5 s6) 5 3)), (.int (own_tb (own_pf s1 s2 s3 s4 s5 s6) 5 4))] := Vr
    have sz_r63 : h0.size ≤ r63 := Nat.le_trans X62.size zr
    have ne_b57_r63 : b57 ≠ r63 := Nat.ne_of_lt (Nat.lt_of_lt_of_le V62.lt zr)
    show Runs p e below (T63.setTop (mkF m 188 #[.val (.int q1), .val (.int q2), .val (.int q3), .val (.int q4), .val (.int q5), .val (.int q6), .val (.int (5 : Int32)), .val (.int s1), .val (.int s2), .val (.int s3), .val (.int s4), .val (.int s5), .val (.int s6), .val (.ref b57), .unset] [(.ref r63)])) _
    refine X63.astore (pc' := 190) (l' := #[.val (.int q1), .val (.int q2), .val (.int q3), .val (.int q4), .val (.int q5), .val (.int q6), .val (.int (5 : Int32)), .val (.int s1), .val (.int s2), .val (.int s3), .val (.int s4), .val (.int s5), .val (.int s6), .val (.ref b57), .val (.ref r63)]) at_188 rfl rfl rfl ?_
    refine X63.aload (pc' := 192) at_190 rfl rfl rfl ?_
    refine X63.ifnullNo (pc' := 195) at_192 rfl ?_
    refine X63.aload (pc' := 197) at_195 rfl rfl rfl ?_
    refine X63.aload (pc' := 199) at_197 rfl rfl rfl ?_
    refine X63.acmp (pc' := 202) (u := (.ref r63)) (v := (.ref b57)) (same := false) at_199 rfl rfl (decide_eq_false fun q => (Ne.symm ne_b57_r63) (Value.ref.inj q)) (by decide) (by decide) ?_
    refine X63.aload (pc' := 204) at_202 rfl rfl rfl ?_
    refine X63.arraylength (pc' := 205) (n := (5 : Int32)) Vr' rfl at_204 rfl ?_
    refine X63.iload (pc' := 207) at_205 rfl rfl ?_
    refine X63.icmpYes (pc' := 212) at_207 (by decide) (by decide) (by decide) ?_
    refine X63.iload (pc' := 214) at_212 rfl rfl ?_
    refine X63.ifNo (pc' := 217) at_214 (by decide) rfl ?_
    refine X63.aload (pc' := 219) at_217 rfl rfl rfl ?_
    refine X63.iconst (pc' := 220) (z := 0) at_219 rfl rfl ?_
    refine X63.iaload (pc' := 221) (v := (.int s1)) V62_63 (show Inb (0 : Int32) 5 from ⟨by decide, by decide⟩) rfl at_220 rfl ?_
    refine X63.iload (pc' := 223) at_221 rfl rfl ?_
    refine X63.icmpYes (pc' := 228) at_223 (teq rfl).1 (by decide) (by decide) ?_
    refine X63.iload (pc' := 230) at_228 rfl rfl ?_
    refine X63.iconst (pc' := 231) (z := 1) at_230 rfl rfl ?_
    refine X63.icmpNo (pc' := 234) at_231 (by decide) rfl ?_
    refine X63.aload (pc' := 236) at_234 rfl rfl rfl ?_
    refine X63.iconst (pc' := 237) (z := 1) at_236 rfl rfl ?_
    refine X63.iaload (pc' := 238) (v := (.int s2)) V62_63 (show Inb (1 : Int32) 5 from ⟨by decide, by decide⟩) rfl at_237 rfl ?_
    refine X63.iload (pc' := 240) at_238 rfl rfl ?_
    refine X63.icmpYes (pc' := 245) at_240 (teq rfl).1 (by decide) (by decide) ?_
    refine X63.iload (pc' := 247) at_245 rfl rfl ?_
    refine X63.iconst (pc' := 248) (z := 2) at_247 rfl rfl ?_
    refine X63.icmpNo (pc' := 251) at_248 (by decide) rfl ?_
    refine X63.aload (pc' := 253) at_251 rfl rfl rfl ?_
    refine X63.iconst (pc' := 254) (z := 2) at_253 rfl rfl ?_
    refine X63.iaload (pc' := 255) (v := (.int s3)) V62_63 (show Inb (2 : Int32) 5 from ⟨by decide, by decide⟩) rfl at_254 rfl ?_
    refine X63.iload (pc' := 257) at_255 rfl rfl ?_
    refine X63.icmpYes (pc' := 262) at_257 (teq rfl).1 (by decide) (by decide) ?_
    refine X63.iload (pc' := 264) at_262 rfl rfl ?_
    refine X63.iconst (pc' := 265) (z := 3) at_264 rfl rfl ?_
    refine X63.icmpNo (pc' := 268) at_265 (by decide) rfl ?_
    refine X63.aload (pc' := 270) at_268 rfl rfl rfl ?_
    refine X63.iconst (pc' := 271) (z := 3) at_270 rfl rfl ?_
    refine X63.iaload (pc' := 272) (v := (.int s4)) V62_63 (show Inb (3 : Int32) 5 from ⟨by decide, by decide⟩) rfl at_271 rfl ?_
    refine X63.iload (pc' := 274) at_272 rfl rfl ?_
    refine X63.icmpYes (pc' := 279) at_274 (teq rfl).1 (by decide) (by decide) ?_
    refine X63.iload (pc' := 281) at_279 rfl rfl ?_
    refine X63.iconst (pc' := 282) (z := 4) at_281 rfl rfl ?_
    refine X63.icmpNo (pc' := 285) at_282 (by decide) rfl ?_
    refine X63.aload (pc' := 287) at_285 rfl rfl rfl ?_
    refine X63.iconst (pc' := 288) (z := 4) at_287 rfl rfl ?_
    refine X63.iaload (pc' := 289) (v := (.int s5)) V62_63 (show Inb (4 : Int32) 5 from ⟨by decide, by decide⟩) rfl at_288 rfl ?_
    refine X63.iload (pc' := 291) at_289 rfl rfl ?_
    refine X63.icmpYes (pc' := 296) at_291 (teq rfl).1 (by decide) (by decide) ?_
    refine X63.iload (pc' := 298) at_296 rfl rfl ?_
    refine X63.iconst (pc' := 299) (z := 5) at_298 rfl rfl ?_
    refine X63.icmpYes (pc' := 313) at_299 (by decide) (by decide) (by decide) ?_
    refine X63.aload (pc' := 315) at_313 rfl rfl rfl ?_
    refine X63.aload (pc' := 317) at_315 rfl rfl rfl ?_
    refine X63.iconst (pc' := 318) (z := 0) at_317 rfl rfl ?_
    refine X63.iload (pc' := 320) at_318 rfl rfl ?_
    refine X63.callS (pc' := 323) (W := 0) (argsL := [(.ref r63), (.ref b57), (.int (0 : Int32)), (.int (5 : Int32))]) (rest := []) (ct3_0 l Z a0 hw r63 b57 (own_pf s1 s2 s3 s4 s5 s6) (own_tb (own_pf s1 s2 s3 s4 s5 s6) 5) 5 (5 : Int32) h63 V62_63 Vr' (by decide) (by decide) (own_hb (by decide) (by decide))) (wd_10 hw) (wd_11 hw) (wd_3 hw) (wd_12 hw) (by decide) pd_4 rfl rfl rfl rfl at_320 rfl (by decide) rfl (by decide) (by decide) (by decide) allWs0 (fun T64 h64 v64 X64 K64 Q64 => ?_)
    obtain ⟨rfl, rfl⟩ := Q64
    show Runs p e below (T64.setTop (mkF m 323 #[.val (.int q1), .val (.int q2), .val (.int q3), .val (.int q4), .val (.int q5), .val (.int q6), .val (.int (5 : Int32)), .val (.int s1), .val (.int s2), .val (.int s3), .val (.int s4), .val (.int s5), .val (.int s6), .val (.ref b57), .val (.ref r63)] [(.int (1 : Int32))])) _
    refine X64.ifNo (pc' := 326) at_323 (by decide) rfl ?_
    refine X64.aload (pc' := 328) at_326 rfl rfl rfl ?_
    refine X64.aload (pc' := 330) at_328 rfl rfl rfl ?_
    refine X64.iconst (pc' := 331) (z := 1) at_330 rfl rfl ?_
    refine X64.iload (pc' := 333) at_331 rfl rfl ?_
    refine X64.callS (pc' := 336) (W := 0) (argsL := [(.ref r63), (.ref b57), (.int (1 : Int32)), (.int (5 : Int32))]) (rest := []) (ct3_1 l Z a0 hw r63 b57 (own_pf s1 s2 s3 s4 s5 s6) (own_tb (own_pf s1 s2 s3 s4 s5 s6) 5) 5 (5 : Int32) h63 V62_63 Vr' (by decide) (by decide) (own_hb (by decide) (by decide))) (wd_10 hw) (wd_11 hw) (wd_3 hw) (wd_12 hw) (by decide) pd_4 rfl rfl rfl rfl at_333 rfl (by decide) rfl (by decide) (by decide) (by decide) allWs0 (fun T65 h65 v65 X65 K65 Q65 => ?_)
    obtain ⟨rfl, rfl⟩ := Q65
    show Runs p e below (T65.setTop (mkF m 336 #[.val (.int q1), .val (.int q2), .val (.int q3), .val (.int q4), .val (.int q5), .val (.int q6), .val (.int (5 : Int32)), .val (.int s1), .val (.int s2), .val (.int s3), .val (.int s4), .val (.int s5), .val (.int s6), .val (.ref b57), .val (.ref r63)] [(.int (1 : Int32))])) _
    refine X65.ifNo (pc' := 339) at_336 (by decide) rfl ?_
    refine X65.aload (pc' := 341) at_339 rfl rfl rfl ?_
    refine X65.aload (pc' := 343) at_341 rfl rfl rfl ?_
    refine X65.iconst (pc' := 344) (z := 2) at_343 rfl rfl ?_
    refine X65.iload (pc' := 346) at_344 rfl rfl ?_
    refine X65.callS (pc' := 349) (W := 0) (argsL := [(.ref r63), (.ref b57), (.int (2 : Int32)), (.int (5 : Int32))]) (rest := []) (ct3_2 l Z a0 hw r63 b57 (own_pf s1 s2 s3 s4 s5 s6) (own_tb (own_pf s1 s2 s3 s4 s5 s6) 5) 5 (5 : Int32) h63 V62_63 Vr' (by decide) (by decide) (own_hb (by decide) (by decide))) (wd_10 hw) (wd_11 hw) (wd_3 hw) (wd_12 hw) (by decide) pd_4 rfl rfl rfl rfl at_346 rfl (by decide) rfl (by decide) (by decide) (by decide) allWs0 (fun T66 h66 v66 X66 K66 Q66 => ?_)
    obtain ⟨rfl, rfl⟩ := Q66
    show Runs p e below (T66.setTop (mkF m 349 #[.val (.int q1), .val (.int q2), .val (.int q3), .val (.int q4), .val (.int q5), .val (.int q6), .val (.int (5 : Int32)), .val (.int s1), .val (.int s2), .val (.int s3), .val (.int s4), .val (.int s5), .val (.int s6), .val (.ref b57), .val (.ref r63)] [(.int (1 : Int32))])) _
    refine X66.ifNo (pc' := 352) at_349 (by decide) rfl ?_
    refine X66.aload (pc' := 354) at_352 rfl rfl rfl ?_
    refine X66.aload (pc' := 356) at_354 rfl rfl rfl ?_
    refine X66.iconst (pc' := 357) (z := 3) at_356 rfl rfl ?_
    refine X66.iload (pc' := 359) at_357 rfl rfl ?_
    refine X66.callS (pc' := 362) (W := 0) (argsL := [(.ref r63), (.ref b57), (.int (3 : Int32)), (.int (5 : Int32))]) (rest := []) (ct3_3 l Z a0 hw r63 b57 (own_pf s1 s2 s3 s4 s5 s6) (own_tb (own_pf s1 s2 s3 s4 s5 s6) 5) 5 (5 : Int32) h63 V62_63 Vr' (by decide) (by decide) (own_hb (by decide) (by decide))) (wd_10 hw) (wd_11 hw) (wd_3 hw) (wd_12 hw) (by decide) pd_4 rfl rfl rfl rfl at_359 rfl (by decide) rfl (by decide) (by decide) (by decide) allWs0 (fun T67 h67 v67 X67 K67 Q67 => ?_)
    obtain ⟨rfl, rfl⟩ := Q67
    show Runs p e below (T67.setTop (mkF m 362 #[.val (.int q1), .val (.int q2), .val (.int q3), .val (.int q4), .val (.int q5), .val (.int q6), .val (.int (5 : Int32)), .val (.int s1), .val (.int s2), .val (.int s3), .val (.int s4), .val (.int s5), .val (.int s6), .val (.ref b57), .val (.ref r63)] [(.int (1 : Int32))])) _
    refine X67.ifNo (pc' := 365) at_362 (by decide) rfl ?_
    refine X67.aload (pc' := 367) at_365 rfl rfl rfl ?_
    refine X67.aload (pc' := 369) at_367 rfl rfl rfl ?_
    refine X67.iconst (pc' := 370) (z := 4) at_369 rfl rfl ?_
    refine X67.iload (pc' := 372) at_370 rfl rfl ?_
    refine X67.callS (pc' := 375) (W := 0) (argsL := [(.ref r63), (.ref b57), (.int (4 : Int32)), (.int (5 : Int32))]) (rest := []) (ct3_4 l Z a0 hw r63 b57 (own_pf s1 s2 s3 s4 s5 s6) (own_tb (own_pf s1 s2 s3 s4 s5 s6) 5) 5 (5 : Int32) h63 V62_63 Vr' (by decide) (by decide) (own_hb (by decide) (by decide))) (wd_10 hw) (wd_11 hw) (wd_3 hw) (wd_12 hw) (by decide) pd_4 rfl rfl rfl rfl at_372 rfl (by decide) rfl (by decide) (by decide) (by decide) allWs0 (fun T68 h68 v68 X68 K68 Q68 => ?_)
    obtain ⟨rfl, rfl⟩ := Q68
    show Runs p e below (T68.setTop (mkF m 375 #[.val (.int q1), .val (.int q2), .val (.int q3), .val (.int q4), .val (.int q5), .val (.int q6), .val (.int (5 : Int32)), .val (.int s1), .val (.int s2), .val (.int s3), .val (.int s4), .val (.int s5), .val (.int s6), .val (.ref b57), .val (.ref r63)] [(.int (1 : Int32))])) _
    refine X68.ifNo (pc' := 378) at_375 (by decide) rfl ?_
    refine X68.aload (pc' := 380) at_378 rfl rfl rfl ?_
    refine X68.aload (pc' := 382) at_380 rfl rfl rfl ?_
    refine X68.iconst (pc' := 383) (z := 5) at_382 rfl rfl ?_
    refine X68.iload (pc' := 385) at_383 rfl rfl ?_
    refine X68.callS (pc' := 388) (W := 0) (argsL := [(.ref r63), (.ref b57), (.int (5 : Int32)), (.int (5 : Int32))]) (rest := []) (ct3g l Z a0 hw r63 b57 (5 : Int32) (5 : Int32) h63 (by decide)) (wd_10 hw) (wd_11 hw) (wd_3 hw) (wd_12 hw) (by decide) pd_4 rfl rfl rfl rfl at_385 rfl (by decide) rfl (by decide) (by decide) (by decide) allWs0 (fun T69 h69 v69 X69 K69 Q69 => ?_)
    obtain ⟨rfl, rfl⟩ := Q69
    show Runs p e below (T69.setTop (mkF m 388 #[.val (.int q1), .val (.int q2), .val (.int q3), .val (.int q4), .val (.int q5), .val (.int q6), .val (.int (5 : Int32)), .val (.int s1), .val (.int s2), .val (.int s3), .val (.int s4), .val (.int s5), .val (.int s6), .val (.ref b57), .val (.ref r63)] [(.int (1 : Int32))])) _
    refine X69.ifNo (pc' := 391) at_388 (by decide) rfl ?_
    refine X69.iconst (pc' := 392) (z := 1) at_391 rfl rfl ?_
    refine X69.goto (pc' := 396) at_392 (by decide) (by decide) ?_
    exact X69.zreturn (z' := (1 : Int32)) rfl (by simp) at_396 rfl (by decide) (by decide) rfl
  · refine X6.iload (pc' := 108) at_106 rfl rfl ?_
    refine X6.newarray (pc' := 110) (ty := .int) rfl (wd_5 hw) at_108 rfl (cap := 6) ⟨by decide, by decide⟩ (by decide) (by decide) (by decide) (fun T70 h70 b70 X70 g70 E70 V70 => ?_)
    have sz_b70 : h0.size ≤ b70 := g70 ▸ X6.size
    have V70' : Lst Z h70 b70 .int [(.int (0 : Int32)), (.int (0 : Int32)), (.int (0 : Int32)), (.int (0 : Int32)), (.int (0 : Int32)), (.int (0 : Int32))] := V70
    refine X70.astore (pc' := 112) (l' := #[.val (.int q1), .val (.int q2), .val (.int q3), .val (.int q4), .val (.int q5), .val (.int q6), .val (.int (6 : Int32)), .val (.int s1), .val (.int s2), .val (.int s3), .val (.int s4), .val (.int s5), .val (.int s6), .val (.ref b70), .unset]) at_110 rfl rfl rfl ?_
    refine X70.iload (pc' := 114) at_112 rfl rfl ?_
    refine X70.ifNo (pc' := 117) at_114 (by decide) rfl ?_
    refine X70.aload (pc' := 119) at_117 rfl rfl rfl ?_
    refine X70.iconst (pc' := 120) (z := 0) at_119 rfl rfl ?_
    refine X70.iload (pc' := 122) at_120 rfl rfl ?_
    refine X70.iastore (pc' := 123) V70' (show Inb (0 : Int32) 6 from ⟨by decide, by decide⟩) at_122 rfl (Or.inr sz_b70) (fun T71 h71 X71 W71 => ?_)
    have V71 : Lst Z h71 b70 .int [(.int s1), (.int (0 : Int32)), (.int (0 : Int32)), (.int (0 : Int32)), (.int (0 : Int32)), (.int (0 : Int32))] := V70'.set W71
    refine X71.iload (pc' := 125) at_123 rfl rfl ?_
    refine X71.iconst (pc' := 126) (z := 1) at_125 rfl rfl ?_
    refine X71.icmpNo (pc' := 129) at_126 (by decide) rfl ?_
    refine X71.aload (pc' := 131) at_129 rfl rfl rfl ?_
    refine X71.iconst (pc' := 132) (z := 1) at_131 rfl rfl ?_
    refine X71.iload (pc' := 134) at_132 rfl rfl ?_
    refine X71.iastore (pc' := 135) V71 (show Inb (1 : Int32) 6 from ⟨by decide, by decide⟩) at_134 rfl (Or.inr sz_b70) (fun T72 h72 X72 W72 => ?_)
    have V72 : Lst Z h72 b70 .int [(.int s1), (.int s2), (.int (0 : Int32)), (.int (0 : Int32)), (.int (0 : Int32)), (.int (0 : Int32))] := V71.set W72
    refine X72.iload (pc' := 137) at_135 rfl rfl ?_
    refine X72.iconst (pc' := 138) (z := 2) at_137 rfl rfl ?_
    refine X72.icmpNo (pc' := 141) at_138 (by decide) rfl ?_
    refine X72.aload (pc' := 143) at_141 rfl rfl rfl ?_
    refine X72.iconst (pc' := 144) (z := 2) at_143 rfl rfl ?_
    refine X72.iload (pc' := 146) at_144 rfl rfl ?_
    refine X72.iastore (pc' := 147) V72 (show Inb (2 : Int32) 6 from ⟨by decide, by decide⟩) at_146 rfl (Or.inr sz_b70) (fun T73 h73 X73 W73 => ?_)
    have V73 : Lst Z h73 b70 .int [(.int s1), (.int s2), (.int s3), (.int (0 : Int32)), (.int (0 : Int32)), (.int (0 : Int32))] := V72.set W73
    refine X73.iload (pc' := 149) at_147 rfl rfl ?_
    refine X73.iconst (pc' := 150) (z := 3) at_149 rfl rfl ?_
    refine X73.icmpNo (pc' := 153) at_150 (by decide) rfl ?_
    refine X73.aload (pc' := 155) at_153 rfl rfl rfl ?_
    refine X73.iconst (pc' := 156) (z := 3) at_155 rfl rfl ?_
    refine X73.iload (pc' := 158) at_156 rfl rfl ?_
    refine X73.iastore (pc' := 159) V73 (show Inb (3 : Int32) 6 from ⟨by decide, by decide⟩) at_158 rfl (Or.inr sz_b70) (fun T74 h74 X74 W74 => ?_)
    have V74 : Lst Z h74 b70 .int [(.int s1), (.int s2), (.int s3), (.int s4), (.int (0 : Int32)), (.int (0 : Int32))] := V73.set W74
    refine X74.iload (pc' := 161) at_159 rfl rfl ?_
    refine X74.iconst (pc' := 162) (z := 4) at_161 rfl rfl ?_
    refine X74.icmpNo (pc' := 165) at_162 (by decide) rfl ?_
    refine X74.aload (pc' := 167) at_165 rfl rfl rfl ?_
    refine X74.iconst (pc' := 168) (z := 4) at_167 rfl rfl ?_
    refine X74.iload (pc' := 170) at_168 rfl rfl ?_
    refine X74.iastore (pc' := 171) V74 (show Inb (4 : Int32) 6 from ⟨by decide, by decide⟩) at_170 rfl (Or.inr sz_b70) (fun T75 h75 X75 W75 => ?_)
    have V75 : Lst Z h75 b70 .int [(.int s1), (.int s2), (.int s3), (.int s4), (.int s5), (.int (0 : Int32))] := V74.set W75
    refine X75.iload (pc' := 173) at_171 rfl rfl ?_
    refine X75.iconst (pc' := 174) (z := 5) at_173 rfl rfl ?_
    refine X75.icmpNo (pc' := 177) at_174 (by decide) rfl ?_
    refine X75.aload (pc' := 179) at_177 rfl rfl rfl ?_
    refine X75.iconst (pc' := 180) (z := 5) at_179 rfl rfl ?_
    refine X75.iload (pc' := 182) at_180 rfl rfl ?_
    refine X75.iastore (pc' := 183) V75 (show Inb (5 : Int32) 6 from ⟨by decide, by decide⟩) at_182 rfl (Or.inr sz_b70) (fun T76 h76 X76 W76 => ?_)
    have V76 : Lst Z h76 b70 .int [(.int s1), (.int s2), (.int s3), (.int s4), (.int s5), (.int s6)] := V75.set W76
    refine X76.aload (pc' := 185) at_183 rfl rfl rfl ?_
    refine X76.callS (pc' := 188) (W := 0) (argsL := [(.ref b70)]) (rest := []) (ct2 l Z a0 hw b70 (own_pf s1 s2 s3 s4 s5 s6) 6 h76 (by decide) V76) (wd_6 hw) (wd_7 hw) (wd_8 hw) (wd_9 hw) (by decide) pd_3 rfl rfl rfl rfl at_185 rfl (by decide) rfl (by decide) (by decide) (by decide) allWs0 (fun T77 h77 v77 X77 K77 Q77 => ?_)
    have V76_77 := V76.keep K77 nin0
    obtain ⟨r77, rfl, zr, Vr⟩ := Q77
    have Vr' : Lst Z h77 r77 .int [(.int (own_tb (own_pf s1 s2 s3 s4 s5 s6) 6 0)), (.int (own_tb (own_pf s1 s2 s3 s4 s5 s6) 6 1)), (.int (own_tb (own_pf s1 s2 s3 s4 s5 s6) 6 2)), (.int (own_tb (own_pf s1 s2 s3 s4 s5 s6) 6 3)), (.int (own_tb (own_pf s1 s2 s3 s4 s5 s6) 6 4)), (.int (own_tb (own_pf s1 s2 s3 s4 s5 s6) 6 5))] := Vr
    have sz_r77 : h0.size ≤ r77 := Nat.le_trans X76.size zr
    have ne_b70_r77 : b70 ≠ r77 := Nat.ne_of_lt (Nat.lt_of_lt_of_le V76.lt zr)
    show Runs p e below (T77.setTop (mkF m 188 #[.val (.int q1), .val (.int q2), .val (.int q3), .val (.int q4), .val (.int q5), .val (.int q6), .val (.int (6 : Int32)), .val (.int s1), .val (.int s2), .val (.int s3), .val (.int s4), .val (.int s5), .val (.int s6), .val (.ref b70), .unset] [(.ref r77)])) _
    refine X77.astore (pc' := 190) (l' := #[.val (.int q1), .val (.int q2), .val (.int q3), .val (.int q4), .val (.int q5), .val (.int q6), .val (.int (6 : Int32)), .val (.int s1), .val (.int s2), .val (.int s3), .val (.int s4), .val (.int s5), .val (.int s6), .val (.ref b70), .val (.ref r77)]) at_188 rfl rfl rfl ?_
    refine X77.aload (pc' := 192) at_190 rfl rfl rfl ?_
    refine X77.ifnullNo (pc' := 195) at_192 rfl ?_
    refine X77.aload (pc' := 197) at_195 rfl rfl rfl ?_
    refine X77.aload (pc' := 199) at_197 rfl rfl rfl ?_
    refine X77.acmp (pc' := 202) (u := (.ref r77)) (v := (.ref b70)) (same := false) at_199 rfl rfl (decide_eq_false fun q => (Ne.symm ne_b70_r77) (Value.ref.inj q)) (by decide) (by decide) ?_
    refine X77.aload (pc' := 204) at_202 rfl rfl rfl ?_
    refine X77.arraylength (pc' := 205) (n := (6 : Int32)) Vr' rfl at_204 rfl ?_
    refine X77.iload (pc' := 207) at_205 rfl rfl ?_
    refine X77.icmpYes (pc' := 212) at_207 (by decide) (by decide) (by decide) ?_
    refine X77.iload (pc' := 214) at_212 rfl rfl ?_
    refine X77.ifNo (pc' := 217) at_214 (by decide) rfl ?_
    refine X77.aload (pc' := 219) at_217 rfl rfl rfl ?_
    refine X77.iconst (pc' := 220) (z := 0) at_219 rfl rfl ?_
    refine X77.iaload (pc' := 221) (v := (.int s1)) V76_77 (show Inb (0 : Int32) 6 from ⟨by decide, by decide⟩) rfl at_220 rfl ?_
    refine X77.iload (pc' := 223) at_221 rfl rfl ?_
    refine X77.icmpYes (pc' := 228) at_223 (teq rfl).1 (by decide) (by decide) ?_
    refine X77.iload (pc' := 230) at_228 rfl rfl ?_
    refine X77.iconst (pc' := 231) (z := 1) at_230 rfl rfl ?_
    refine X77.icmpNo (pc' := 234) at_231 (by decide) rfl ?_
    refine X77.aload (pc' := 236) at_234 rfl rfl rfl ?_
    refine X77.iconst (pc' := 237) (z := 1) at_236 rfl rfl ?_
    refine X77.iaload (pc' := 238) (v := (.int s2)) V76_77 (show Inb (1 : Int32) 6 from ⟨by decide, by decide⟩) rfl at_237 rfl ?_
    refine X77.iload (pc' := 240) at_238 rfl rfl ?_
    refine X77.icmpYes (pc' := 245) at_240 (teq rfl).1 (by decide) (by decide) ?_
    refine X77.iload (pc' := 247) at_245 rfl rfl ?_
    refine X77.iconst (pc' := 248) (z := 2) at_247 rfl rfl ?_
    refine X77.icmpNo (pc' := 251) at_248 (by decide) rfl ?_
    refine X77.aload (pc' := 253) at_251 rfl rfl rfl ?_
    refine X77.iconst (pc' := 254) (z := 2) at_253 rfl rfl ?_
    refine X77.iaload (pc' := 255) (v := (.int s3)) V76_77 (show Inb (2 : Int32) 6 from ⟨by decide, by decide⟩) rfl at_254 rfl ?_
    refine X77.iload (pc' := 257) at_255 rfl rfl ?_
    refine X77.icmpYes (pc' := 262) at_257 (teq rfl).1 (by decide) (by decide) ?_
    refine X77.iload (pc' := 264) at_262 rfl rfl ?_
    refine X77.iconst (pc' := 265) (z := 3) at_264 rfl rfl ?_
    refine X77.icmpNo (pc' := 268) at_265 (by decide) rfl ?_
    refine X77.aload (pc' := 270) at_268 rfl rfl rfl ?_
    refine X77.iconst (pc' := 271) (z := 3) at_270 rfl rfl ?_
    refine X77.iaload (pc' := 272) (v := (.int s4)) V76_77 (show Inb (3 : Int32) 6 from ⟨by decide, by decide⟩) rfl at_271 rfl ?_
    refine X77.iload (pc' := 274) at_272 rfl rfl ?_
    refine X77.icmpYes (pc' := 279) at_274 (teq rfl).1 (by decide) (by decide) ?_
    refine X77.iload (pc' := 281) at_279 rfl rfl ?_
    refine X77.iconst (pc' := 282) (z := 4) at_281 rfl rfl ?_
    refine X77.icmpNo (pc' := 285) at_282 (by decide) rfl ?_
    refine X77.aload (pc' := 287) at_285 rfl rfl rfl ?_
    refine X77.iconst (pc' := 288) (z := 4) at_287 rfl rfl ?_
    refine X77.iaload (pc' := 289) (v := (.int s5)) V76_77 (show Inb (4 : Int32) 6 from ⟨by decide, by decide⟩) rfl at_288 rfl ?_
    refine X77.iload (pc' := 291) at_289 rfl rfl ?_
    refine X77.icmpYes (pc' := 296) at_291 (teq rfl).1 (by decide) (by decide) ?_
    refine X77.iload (pc' := 298) at_296 rfl rfl ?_
    refine X77.iconst (pc' := 299) (z := 5) at_298 rfl rfl ?_
    refine X77.icmpNo (pc' := 302) at_299 (by decide) rfl ?_
    refine X77.aload (pc' := 304) at_302 rfl rfl rfl ?_
    refine X77.iconst (pc' := 305) (z := 5) at_304 rfl rfl ?_
    refine X77.iaload (pc' := 306) (v := (.int s6)) V76_77 (show Inb (5 : Int32) 6 from ⟨by decide, by decide⟩) rfl at_305 rfl ?_
    refine X77.iload (pc' := 308) at_306 rfl rfl ?_
    refine X77.icmpYes (pc' := 313) at_308 (teq rfl).1 (by decide) (by decide) ?_
    refine X77.aload (pc' := 315) at_313 rfl rfl rfl ?_
    refine X77.aload (pc' := 317) at_315 rfl rfl rfl ?_
    refine X77.iconst (pc' := 318) (z := 0) at_317 rfl rfl ?_
    refine X77.iload (pc' := 320) at_318 rfl rfl ?_
    refine X77.callS (pc' := 323) (W := 0) (argsL := [(.ref r77), (.ref b70), (.int (0 : Int32)), (.int (6 : Int32))]) (rest := []) (ct3_0 l Z a0 hw r77 b70 (own_pf s1 s2 s3 s4 s5 s6) (own_tb (own_pf s1 s2 s3 s4 s5 s6) 6) 6 (6 : Int32) h77 V76_77 Vr' (by decide) (by decide) (own_hb (by decide) (by decide))) (wd_10 hw) (wd_11 hw) (wd_3 hw) (wd_12 hw) (by decide) pd_4 rfl rfl rfl rfl at_320 rfl (by decide) rfl (by decide) (by decide) (by decide) allWs0 (fun T78 h78 v78 X78 K78 Q78 => ?_)
    obtain ⟨rfl, rfl⟩ := Q78
    show Runs p e below (T78.setTop (mkF m 323 #[.val (.int q1), .val (.int q2), .val (.int q3), .val (.int q4), .val (.int q5), .val (.int q6), .val (.int (6 : Int32)), .val (.int s1), .val (.int s2), .val (.int s3), .val (.int s4), .val (.int s5), .val (.int s6), .val (.ref b70), .val (.ref r77)] [(.int (1 : Int32))])) _
    refine X78.ifNo (pc' := 326) at_323 (by decide) rfl ?_
    refine X78.aload (pc' := 328) at_326 rfl rfl rfl ?_
    refine X78.aload (pc' := 330) at_328 rfl rfl rfl ?_
    refine X78.iconst (pc' := 331) (z := 1) at_330 rfl rfl ?_
    refine X78.iload (pc' := 333) at_331 rfl rfl ?_
    refine X78.callS (pc' := 336) (W := 0) (argsL := [(.ref r77), (.ref b70), (.int (1 : Int32)), (.int (6 : Int32))]) (rest := []) (ct3_1 l Z a0 hw r77 b70 (own_pf s1 s2 s3 s4 s5 s6) (own_tb (own_pf s1 s2 s3 s4 s5 s6) 6) 6 (6 : Int32) h77 V76_77 Vr' (by decide) (by decide) (own_hb (by decide) (by decide))) (wd_10 hw) (wd_11 hw) (wd_3 hw) (wd_12 hw) (by decide) pd_4 rfl rfl rfl rfl at_333 rfl (by decide) rfl (by decide) (by decide) (by decide) allWs0 (fun T79 h79 v79 X79 K79 Q79 => ?_)
    obtain ⟨rfl, rfl⟩ := Q79
    show Runs p e below (T79.setTop (mkF m 336 #[.val (.int q1), .val (.int q2), .val (.int q3), .val (.int q4), .val (.int q5), .val (.int q6), .val (.int (6 : Int32)), .val (.int s1), .val (.int s2), .val (.int s3), .val (.int s4), .val (.int s5), .val (.int s6), .val (.ref b70), .val (.ref r77)] [(.int (1 : Int32))])) _
    refine X79.ifNo (pc' := 339) at_336 (by decide) rfl ?_
    refine X79.aload (pc' := 341) at_339 rfl rfl rfl ?_
    refine X79.aload (pc' := 343) at_341 rfl rfl rfl ?_
    refine X79.iconst (pc' := 344) (z := 2) at_343 rfl rfl ?_
    refine X79.iload (pc' := 346) at_344 rfl rfl ?_
    refine X79.callS (pc' := 349) (W := 0) (argsL := [(.ref r77), (.ref b70), (.int (2 : Int32)), (.int (6 : Int32))]) (rest := []) (ct3_2 l Z a0 hw r77 b70 (own_pf s1 s2 s3 s4 s5 s6) (own_tb (own_pf s1 s2 s3 s4 s5 s6) 6) 6 (6 : Int32) h77 V76_77 Vr' (by decide) (by decide) (own_hb (by decide) (by decide))) (wd_10 hw) (wd_11 hw) (wd_3 hw) (wd_12 hw) (by decide) pd_4 rfl rfl rfl rfl at_346 rfl (by decide) rfl (by decide) (by decide) (by decide) allWs0 (fun T80 h80 v80 X80 K80 Q80 => ?_)
    obtain ⟨rfl, rfl⟩ := Q80
    show Runs p e below (T80.setTop (mkF m 349 #[.val (.int q1), .val (.int q2), .val (.int q3), .val (.int q4), .val (.int q5), .val (.int q6), .val (.int (6 : Int32)), .val (.int s1), .val (.int s2), .val (.int s3), .val (.int s4), .val (.int s5), .val (.int s6), .val (.ref b70), .val (.ref r77)] [(.int (1 : Int32))])) _
    refine X80.ifNo (pc' := 352) at_349 (by decide) rfl ?_
    refine X80.aload (pc' := 354) at_352 rfl rfl rfl ?_
    refine X80.aload (pc' := 356) at_354 rfl rfl rfl ?_
    refine X80.iconst (pc' := 357) (z := 3) at_356 rfl rfl ?_
    refine X80.iload (pc' := 359) at_357 rfl rfl ?_
    refine X80.callS (pc' := 362) (W := 0) (argsL := [(.ref r77), (.ref b70), (.int (3 : Int32)), (.int (6 : Int32))]) (rest := []) (ct3_3 l Z a0 hw r77 b70 (own_pf s1 s2 s3 s4 s5 s6) (own_tb (own_pf s1 s2 s3 s4 s5 s6) 6) 6 (6 : Int32) h77 V76_77 Vr' (by decide) (by decide) (own_hb (by decide) (by decide))) (wd_10 hw) (wd_11 hw) (wd_3 hw) (wd_12 hw) (by decide) pd_4 rfl rfl rfl rfl at_359 rfl (by decide) rfl (by decide) (by decide) (by decide) allWs0 (fun T81 h81 v81 X81 K81 Q81 => ?_)
    obtain ⟨rfl, rfl⟩ := Q81
    show Runs p e below (T81.setTop (mkF m 362 #[.val (.int q1), .val (.int q2), .val (.int q3), .val (.int q4), .val (.int q5), .val (.int q6), .val (.int (6 : Int32)), .val (.int s1), .val (.int s2), .val (.int s3), .val (.int s4), .val (.int s5), .val (.int s6), .val (.ref b70), .val (.ref r77)] [(.int (1 : Int32))])) _
    refine X81.ifNo (pc' := 365) at_362 (by decide) rfl ?_
    refine X81.aload (pc' := 367) at_365 rfl rfl rfl ?_
    refine X81.aload (pc' := 369) at_367 rfl rfl rfl ?_
    refine X81.iconst (pc' := 370) (z := 4) at_369 rfl rfl ?_
    refine X81.iload (pc' := 372) at_370 rfl rfl ?_
    refine X81.callS (pc' := 375) (W := 0) (argsL := [(.ref r77), (.ref b70), (.int (4 : Int32)), (.int (6 : Int32))]) (rest := []) (ct3_4 l Z a0 hw r77 b70 (own_pf s1 s2 s3 s4 s5 s6) (own_tb (own_pf s1 s2 s3 s4 s5 s6) 6) 6 (6 : Int32) h77 V76_77 Vr' (by decide) (by decide) (own_hb (by decide) (by decide))) (wd_10 hw) (wd_11 hw) (wd_3 hw) (wd_12 hw) (by decide) pd_4 rfl rfl rfl rfl at_372 rfl (by decide) rfl (by decide) (by decide) (by decide) allWs0 (fun T82 h82 v82 X82 K82 Q82 => ?_)
    obtain ⟨rfl, rfl⟩ := Q82
    show Runs p e below (T82.setTop (mkF m 375 #[.val (.int q1), .val (.int q2), .val (.int q3), .val (.int q4), .val (.int q5), .val (.int q6), .val (.int (6 : Int32)), .val (.int s1), .val (.int s2), .val (.int s3), .val (.int s4), .val (.int s5), .val (.int s6), .val (.ref b70), .val (.ref r77)] [(.int (1 : Int32))])) _
    refine X82.ifNo (pc' := 378) at_375 (by decide) rfl ?_
    refine X82.aload (pc' := 380) at_378 rfl rfl rfl ?_
    refine X82.aload (pc' := 382) at_380 rfl rfl rfl ?_
    refine X82.iconst (pc' := 383) (z := 5) at_382 rfl rfl ?_
    refine X82.iload (pc' := 385) at_383 rfl rfl ?_
    refine X82.callS (pc' := 388) (W := 0) (argsL := [(.ref r77), (.ref b70), (.int (5 : Int32)), (.int (6 : Int32))]) (rest := []) (ct3_5 l Z a0 hw r77 b70 (own_pf s1 s2 s3 s4 s5 s6) (own_tb (own_pf s1 s2 s3 s4 s5 s6) 6) 6 (6 : Int32) h77 V76_77 Vr' (by decide) (by decide) (own_hb (by decide) (by decide))) (wd_10 hw) (wd_11 hw) (wd_3 hw) (wd_12 hw) (by decide) pd_4 rfl rfl rfl rfl at_385 rfl (by decide) rfl (by decide) (by decide) (by decide) allWs0 (fun T83 h83 v83 X83 K83 Q83 => ?_)
    obtain ⟨rfl, rfl⟩ := Q83
    show Runs p e below (T83.setTop (mkF m 388 #[.val (.int q1), .val (.int q2), .val (.int q3), .val (.int q4), .val (.int q5), .val (.int q6), .val (.int (6 : Int32)), .val (.int s1), .val (.int s2), .val (.int s3), .val (.int s4), .val (.int s5), .val (.int s6), .val (.ref b70), .val (.ref r77)] [(.int (1 : Int32))])) _
    refine X83.ifNo (pc' := 391) at_388 (by decide) rfl ?_
    refine X83.iconst (pc' := 392) (z := 1) at_391 rfl rfl ?_
    refine X83.goto (pc' := 396) at_392 (by decide) (by decide) ?_
    exact X83.zreturn (z' := (1 : Int32)) rfl (by simp) at_396 rfl (by decide) (by decide) rfl
set_option maxRecDepth 65536 in
set_option maxHeartbeats 40000000 in
theorem comes_1 {Post : Tables → Env → Array Value → State → Outcome → State → Prop} (hpost : ∀ tb e args s v u, (limb_1_1.after args s (.returned v) u = true ∧ limb_1_2.after args s (.returned v) u = true ∧ True) → FrameEnd s (.returned v) u (Jvm.fieldLocs frame_1_writes args s ++ Jvm.arrayLocs frame_1_arrays args s ++ Jvm.staticLocs frame_1_statics s) 16 128 → Post tb e args s (.returned v) u) :
    ArmFor flags0 classFile x code maxLocals ret World_1 tables_1 room_1 Calls_1 rest_1 Pre_1 Post := by
  intro l hfl _ _ p e ha hc hk s m args below hf hA hF happ hP
  obtain ⟨hcalls, hrest, hpre⟩ := hP
  obtain ⟨-, -, -, hnamed, -, -, -, hat⟩ := (Spec.applies_iff hf).mp happ
  obtain ⟨hg, hn⟩ := and_e (Cond.before_iff.mp (show (Jvm.Cond.and given_1 narrow_1).before args s = true from hpre))
  obtain ⟨g1, g2⟩ := and_e hg
  obtain ⟨g3, g4⟩ := and_e g2
  obtain ⟨g5, g6⟩ := and_e g4
  obtain ⟨g7, g8⟩ := and_e g6
  obtain ⟨g9, g10⟩ := and_e g8
  obtain ⟨g11, g12⟩ := and_e g10
  obtain ⟨w0, w1, w2, w3, w4, w5, rfl⟩ : ∃ w0 w1 w2 w3 w4 w5 : Value, args = #[w0, w1, w2, w3, w4, w5] := by
    have hs : args.size = 6 := by simpa [Cond.value, given_1] using g1
    obtain ⟨L⟩ := args
    match L, hs with
    | [w0, w1, w2, w3, w4, w5], _ => exact ⟨w0, w1, w2, w3, w4, w5, rfl⟩
  have hw := fun d (hd : d ∈ tables_1) => atoms_spec (ws := Jvm.Cond.code x code maxLocals ret :: tables_1) hat d (List.mem_cons_of_mem _ hd)
  obtain ⟨i0, ei0⟩ := is_v g3
  obtain rfl : w0 = (.int i0) := Option.some.inj ei0
  obtain ⟨i1, ei1⟩ := is_v g5
  obtain rfl : w1 = (.int i1) := Option.some.inj ei1
  obtain ⟨i2, ei2⟩ := is_v g7
  obtain rfl : w2 = (.int i2) := Option.some.inj ei2
  obtain ⟨i3, ei3⟩ := is_v g9
  obtain rfl : w3 = (.int i3) := Option.some.inj ei3
  obtain ⟨i4, ei4⟩ := is_v g11
  obtain rfl : w4 = (.int i4) := Option.some.inj ei4
  obtain ⟨i5, ei5⟩ := is_v g12
  obtain rfl : w5 = (.int i5) := Option.some.inj ei5
  obtain ⟨n, o, h1, h2, h3, _, L, rfl, ⟨rfl, -, N⟩, hq⟩ := ct0 l s _ hw i0 i1 i2 i3 i4 i5 s.heap tables_1 p e ha hc hk s m _ below hf ((Spec.applies_iff_loose hf).mp happ).1 ⟨rfl, State.Warmed39.refl s, rfl⟩ trivial
  refine ⟨n, _, h1, h2, h3, hpost _ _ _ _ _ _ ⟨Cond.after_iff.mpr rfl, Cond.after_iff.mpr (eq_i res_at (Term.int_eval (1)) rfl), trivial⟩ ⟨hq.1, hq.2.1, (hq.2.2.sift fun y hy => Or.inr ((N y hy).elim (fun z => nomatch z) id)).mono (by decide) (by decide)⟩⟩
theorem main_1_1 : Claimed_1_1 := comes_1 fun _ _ _ _ _ _ h hF => ⟨h.1, hF⟩
theorem main_1_2 : Claimed_1_2 := comes_1 fun _ _ _ _ _ _ h hF => ⟨h.2.1, hF⟩
end Jvm.Pilot.@@N@@
namespace Jvm.Pilot.@@N@@
open Jvm Jvm.ClassFile Sem Op Lib Jvm.Free Jvm.Stand Jvm.Pilot.@@N@@.Jvm.D
/-! MADE BY PROGRAM (witnessworld.py) out of the Statement's table words and the real class files: 9 classes; the members and pool entries that the words name. The judged class is class 1, her method 5. -/
namespace start1
open Jvm.ClassFile
def u (s : String) : CpInfo := .utf8 (stringToUtf16 s)
/-- a pool by its gaps: so many unusable entries, then the entry; so many at the end -/
def gap : Nat → List CpInfo → List CpInfo
  | 0, r => r
  | n + 1, r => .unusable :: gap n r
def poolList (es : List (Nat × CpInfo)) (last : Nat) : List CpInfo := es.foldr (fun e r => gap e.1 (e.2 :: r)) (gap last [])
def pool (es : List (Nat × CpInfo)) (last : Nat) : Array CpInfo := ⟨poolList es last⟩
def fileOf (pool : Array CpInfo) (this : Nat) (attrs : Array Attribute := #[]) (ms : Array MethodInfo := #[]) (fl : Nat := 33) (sup : Nat := 0) (ifs : Array Nat := #[]) (fds : Array FieldInfo := #[]) : ClassFile where
  minorVersion := 0
  majorVersion := 65
  constantPool := pool
  accessFlags := fl
  thisClass := this
  superClass := sup
  interfaces := ifs
  fields := fds
  methods := ms
  attributes := attrs
def plain (name : String) (sup : Option ClassId) : Class where
  name := name
  kind := .ordinary
  loader := none
  accessFlags := 33
  super := sup
  interfaces := #[]
  cf := none
  fields := #[]
  methods := #[]
  instanceTypes := #[]
  staticTypes := #[]
  resolved := #[]
  callSites := []
  init := .initialized
  statics := none
  mirror := none

def pool0 : Array CpInfo := pool [(5, u "<init>"), (0, u "()V"), (1, .class_ 10), (1, u "java/lang/Object")] 113

def k0m0 : Method := { name := "<init>", desc := "()V", sig := { parameters := [], returnType := none }, accessFlags := 1, code := none }
/-- java/lang/Object -/
def k0 : Class := { plain "java/lang/Object" none with
  accessFlags := 33
  interfaces := #[]
  cf := some (fileOf pool0 8 #[] #[{ accessFlags := 1, nameIndex := 5, descriptorIndex := 6, attributes := #[] }] 33 0 #[] #[])
  fields := #[]
  methods := #[k0m0]
  instanceTypes := #[]
  staticTypes := #[]
  resolved := Array.replicate 124 none
  statics := none }

def pool1 : Array CpInfo := pool [(2, .class_ 4), (1, u "java/lang/Object"), (0, u "<init>"), (0, u "()V"), (0, .methodref 8 9), (0, .class_ 10), (0, .nameAndType 11 12), (0, u "com/example/rummage/rummage/PrefixTableOfPinLaw"), (0, u "eq"), (0, u "([III)Z"), (0, .methodref 8 14), (0, .nameAndType 15 16), (0, u "border"), (0, u "([II)I"), (0, .integer 2147483647), (0, .methodref 8 19), (0, .nameAndType 20 21), (0, u "pick"), (0, u "(IIIII)I"), (0, .methodref 23 24), (0, .class_ 25), (0, .nameAndType 26 27), (0, u "com/example/rummage/rummage/PrefixTable"), (0, u "of"), (0, u "([I)[I"), (0, .methodref 8 29), (0, .nameAndType 30 31), (0, u "ok"), (0, u "([I[III)Z"), (3, u "law"), (0, u "(IIIIII)Z")] 4

def k1m0 : Method := { name := "<init>", desc := "()V", sig := { parameters := [], returnType := none }, accessFlags := 2, code := none }
def k1c1 : Code := { maxStack := 2, maxLocals := 5, code := method_2_code, exceptionTable := #[], attributes := #[] }
def k1m1 : Method := { name := "pick", desc := "(IIIII)I", sig := { parameters := [.int, .int, .int, .int, .int], returnType := some .int }, accessFlags := 10, code := some k1c1 }
def k1c2 : Code := { maxStack := 4, maxLocals := 4, code := method_3_code, exceptionTable := #[], attributes := #[] }
def k1m2 : Method := { name := "eq", desc := "([III)Z", sig := { parameters := [(.array .int), .int, .int], returnType := some .boolean }, accessFlags := 10, code := some k1c2 }
def k1c3 : Code := { maxStack := 3, maxLocals := 2, code := method_4_code, exceptionTable := #[], attributes := #[] }
def k1m3 : Method := { name := "border", desc := "([II)I", sig := { parameters := [(.array .int), .int], returnType := some .int }, accessFlags := 10, code := some k1c3 }
def k1c4 : Code := { maxStack := 3, maxLocals := 4, code := method_5_code, exceptionTable := #[], attributes := #[] }
def k1m4 : Method := { name := "ok", desc := "([I[III)Z", sig := { parameters := [(.array .int), (.array .int), .int, .int], returnType := some .boolean }, accessFlags := 10, code := some k1c4 }
def k1c5 : Code := { maxStack := 5, maxLocals := 15, code := code, exceptionTable := #[], attributes := #[] }
def k1m5 : Method := { name := "law", desc := "(IIIIII)Z", sig := { parameters := [.int, .int, .int, .int, .int, .int], returnType := some .boolean }, accessFlags := 9, code := some k1c5 }
/-- com/example/rummage/rummage/PrefixTableOfPinLaw -/
def k1 : Class := { plain "com/example/rummage/rummage/PrefixTableOfPinLaw" (some 0) with
  accessFlags := 49
  interfaces := #[]
  cf := some (fileOf pool1 8 #[] #[{ accessFlags := 2, nameIndex := 5, descriptorIndex := 6, attributes := #[] }, { accessFlags := 10, nameIndex := 20, descriptorIndex := 21, attributes := #[] }, { accessFlags := 10, nameIndex := 11, descriptorIndex := 12, attributes := #[] }, { accessFlags := 10, nameIndex := 15, descriptorIndex := 16, attributes := #[] }, { accessFlags := 10, nameIndex := 30, descriptorIndex := 31, attributes := #[] }, { accessFlags := 9, nameIndex := 35, descriptorIndex := 36, attributes := #[] }] 49 2 #[] #[])
  fields := #[]
  methods := #[k1m0, k1m1, k1m2, k1m3, k1m4, k1m5]
  instanceTypes := #[]
  staticTypes := #[]
  resolved := Array.replicate 41 none
  statics := none }

def pool2 : Array CpInfo := pool [(2, .class_ 4), (1, u "java/lang/Object"), (0, u "<init>"), (0, u "()V"), (0, .class_ 8), (0, u "com/example/rummage/rummage/PrefixTable"), (2, u "of"), (0, u "([I)[I")] 5

def k2m0 : Method := { name := "<init>", desc := "()V", sig := { parameters := [], returnType := none }, accessFlags := 2, code := none }
def k2c1 : Code := { maxStack := 3, maxLocals := 5, code := prog_19_method_2_code, exceptionTable := #[], attributes := #[] }
def k2m1 : Method := { name := "of", desc := "([I)[I", sig := { parameters := [(.array .int)], returnType := some (.array .int) }, accessFlags := 8, code := some k2c1 }
/-- com/example/rummage/rummage/PrefixTable -/
def k2 : Class := { plain "com/example/rummage/rummage/PrefixTable" (some 0) with
  accessFlags := 48
  interfaces := #[]
  cf := some (fileOf pool2 7 #[] #[{ accessFlags := 2, nameIndex := 5, descriptorIndex := 6, attributes := #[] }, { accessFlags := 8, nameIndex := 11, descriptorIndex := 12, attributes := #[] }] 48 2 #[] #[])
  fields := #[]
  methods := #[k2m0, k2m1]
  instanceTypes := #[]
  staticTypes := #[]
  resolved := Array.replicate 18 none
  statics := none }

def pool3 : Array CpInfo := pool [(1, u "java/lang/Cloneable"), (0, .class_ 1), (0, u "java/lang/Object"), (0, .class_ 3)] 3

/-- java/lang/Cloneable -/
def k3 : Class := { plain "java/lang/Cloneable" (some 0) with
  accessFlags := 1537
  interfaces := #[]
  cf := some (fileOf pool3 2 #[] #[] 1537 4 #[] #[])
  fields := #[]
  methods := #[]
  instanceTypes := #[]
  staticTypes := #[]
  resolved := Array.replicate 8 none
  statics := none }

def pool4 : Array CpInfo := pool [(1, u "java/io/Serializable"), (0, .class_ 1), (0, u "java/lang/Object"), (0, .class_ 3)] 3

/-- java/io/Serializable -/
def k4 : Class := { plain "java/io/Serializable" (some 0) with
  accessFlags := 1537
  interfaces := #[]
  cf := some (fileOf pool4 2 #[] #[] 1537 4 #[] #[])
  fields := #[]
  methods := #[]
  instanceTypes := #[]
  staticTypes := #[]
  resolved := Array.replicate 8 none
  statics := none }

/-- the primitive byte -/
def k5 : Class := { plain "byte" none with kind := .primitive 'B', accessFlags := 0x411 }
/-- [B -/
def k6 : Class := { plain "[B" (some 0) with kind := .array 5 .byte, interfaces := #[3, 4], accessFlags := 1041 }

/-- the primitive int -/
def k7 : Class := { plain "int" none with kind := .primitive 'I', accessFlags := 0x411 }
/-- [I -/
def k8 : Class := { plain "[I" (some 0) with kind := .array 7 .int, interfaces := #[3, 4], accessFlags := 1041 }

def heap : Heap := #[]
def classes : Array Class := #[k0, k1, k2, k3, k4, k5, k6, k7, k8]
def interned : List (Array UInt16 × Addr) := []
def slotsUsed : Nat := 0
def theMethod : MethodId := ⟨1, 5⟩
def args0 : Array Value := #[.int 5, .int 6, .int 7, .int 8, .int 3, .int 13]
def aboutOver (below : List Frame) : State where
  vm := { classes := classes, interned := interned.toArray }
  heap := heap
  slotsUsed := slotsUsed
  threads := #[{ frames := .invoking theMethod args0 :: below }]
def below0 : List Frame := [.native { method := ⟨0, 0⟩, args := #[] }]
def about1 : State := aboutOver below0
def p0 : Program := .bare "" "" ""
def e0 : Env := launch0.env 0 0 0
theorem w_frames : about1.frames = Frame.invoking theMethod args0 :: below0 := rfl
set_option maxRecDepth 65536 in
theorem w_args : argsFit about1.vm theMethod args0 = true := by decide +kernel
set_option maxRecDepth 65536 in
theorem w_heap : heapFits about1 = true := by decide +kernel
set_option maxRecDepth 65536 in
theorem w_runnable : about1.curStatus? = some .runnable := by decide +kernel
set_option maxRecDepth 65536 in
theorem w_alone : about1.alone = true := by decide +kernel
set_option maxRecDepth 65536 in
theorem w_named : about1.methodNamed? x = some theMethod := by decide +kernel
set_option maxRecDepth 65536 in
theorem w_hears : about1.hears theMethod below0 = true := by decide +kernel
set_option maxRecDepth 65536 in
theorem w_ripe : about1.ripe theMethod args0 below0 = true := by decide +kernel
theorem w_running : about1.status = .running := rfl
set_option maxRecDepth 65536 in
theorem w_room : about1.hasRoom e0.platform room_1 = true :=
  launch0.hasRoom_least _ room_1 (by decide +kernel) (by decide +kernel) (by decide +kernel) (by decide +kernel) (by decide +kernel) (by decide +kernel)
theorem allAtoms_all (ts : List Jvm.Cond) (a : Array Jvm.Value) (st : Jvm.State) : (allAtoms ts).before a st = ts.all (fun c => c.before a st) := by
  induction ts with
  | nil => rfl
  | cons c t ih =>
    show (Jvm.Cond.and c (allAtoms t)).before a st = _
    rw [Jvm.Cond.before_and, ih, List.all_cons]
def words1 : List Jvm.Cond := Jvm.Cond.code x code maxLocals ret :: tables_1
/-- a 'code' word, met by the world's own term for the bytes: nothing is compared byte by byte -/
theorem code_word {y : MethodName} {bytes : ByteArray} {mx : Nat} {rt : Option FieldType} {a : Array Value} {s : State} {m : MethodId} {meth : Method} {c : Code} (h1 : s.methodNamed? y = some m) (h2 : s.vm.method? m = some meth) (h3 : meth.code = some c) (h4 : c.code = bytes)
    (h5 : (c.maxLocals == mx && c.exceptionTable.isEmpty && decide (c.maxStack ≤ mostOperands) && decide (meth.sig.returnType = rt) && !meth.locks && decide (parseMethodDescriptor y.desc = some meth.sig)) = true) : (Jvm.Cond.code y bytes mx rt).before a s = true := by
  simp only [Bool.and_eq_true, beq_iff_eq, Bool.not_eq_true', decide_eq_true_eq] at h5
  obtain ⟨⟨⟨⟨⟨g1, g2⟩, g3⟩, g4⟩, g5⟩, g6⟩ := h5
  simp [Cond.before, Cond.holds, Cond.value, h1, h2, h3, h4, g1, g2, g3, g4, g5, g6]
def isCode : Jvm.Cond → Bool
  | .code _ _ _ _ => true
  | _ => false
theorem all_split {L : List Jvm.Cond} {P : Jvm.Cond → Bool} (h1 : L.all (fun c => isCode c || P c) = true) (h2 : ∀ c ∈ L.filter isCode, P c = true) : L.all P = true := by
  refine List.all_eq_true.mpr fun c hc => ?_
  have h := List.all_eq_true.mp h1 c hc
  rcases Bool.eq_false_or_eq_true (isCode c) with hi | hi
  · exact h2 c (List.mem_filter.mpr ⟨hc, hi⟩)
  · simpa [hi] using h
set_option maxRecDepth 65536 in
theorem w_c0 : (Jvm.Cond.code x code maxLocals ret).before args0 about1 = true := code_word (m := ⟨1, 5⟩) (meth := k1m5) (c := k1c5) (by decide +kernel) rfl rfl rfl (by decide +kernel)
set_option maxRecDepth 65536 in
theorem w_c1 : (Jvm.Cond.code ({ cls := "com/example/rummage/rummage/PrefixTableOfPinLaw", name := "pick", desc := "(IIIII)I" } : Jvm.MethodName) method_2_code (5 : Nat) (Option.some Jvm.ClassFile.FieldType.int)).before args0 about1 = true := code_word (m := ⟨1, 1⟩) (meth := k1m1) (c := k1c1) (by decide +kernel) rfl rfl rfl (by decide +kernel)
set_option maxRecDepth 65536 in
theorem w_c2 : (Jvm.Cond.code ({ cls := "com/example/rummage/rummage/PrefixTable", name := "of", desc := "([I)[I" } : Jvm.MethodName) prog_19_method_2_code (5 : Nat) (Option.some (Jvm.ClassFile.FieldType.array Jvm.ClassFile.FieldType.int))).before args0 about1 = true := code_word (m := ⟨2, 1⟩) (meth := k2m1) (c := k2c1) (by decide +kernel) rfl rfl rfl (by decide +kernel)
set_option maxRecDepth 65536 in
theorem w_c3 : (Jvm.Cond.code ({ cls := "com/example/rummage/rummage/PrefixTableOfPinLaw", name := "ok", desc := "([I[III)Z" } : Jvm.MethodName) method_5_code (4 : Nat) (Option.some Jvm.ClassFile.FieldType.boolean)).before args0 about1 = true := code_word (m := ⟨1, 4⟩) (meth := k1m4) (c := k1c4) (by decide +kernel) rfl rfl rfl (by decide +kernel)
set_option maxRecDepth 65536 in
theorem w_c4 : (Jvm.Cond.code ({ cls := "com/example/rummage/rummage/PrefixTableOfPinLaw", name := "border", desc := "([II)I" } : Jvm.MethodName) method_4_code (2 : Nat) (Option.some Jvm.ClassFile.FieldType.int)).before args0 about1 = true := code_word (m := ⟨1, 3⟩) (meth := k1m3) (c := k1c3) (by decide +kernel) rfl rfl rfl (by decide +kernel)
set_option maxRecDepth 65536 in
theorem w_c5 : (Jvm.Cond.code ({ cls := "com/example/rummage/rummage/PrefixTableOfPinLaw", name := "eq", desc := "([III)Z" } : Jvm.MethodName) method_3_code (4 : Nat) (Option.some Jvm.ClassFile.FieldType.boolean)).before args0 about1 = true := code_word (m := ⟨1, 2⟩) (meth := k1m2) (c := k1c2) (by decide +kernel) rfl rfl rfl (by decide +kernel)
def codes1 : List Jvm.Cond := [Jvm.Cond.code x code maxLocals ret, Jvm.Cond.code ({ cls := "com/example/rummage/rummage/PrefixTableOfPinLaw", name := "pick", desc := "(IIIII)I" } : Jvm.MethodName) method_2_code (5 : Nat) (Option.some Jvm.ClassFile.FieldType.int), Jvm.Cond.code ({ cls := "com/example/rummage/rummage/PrefixTable", name := "of", desc := "([I)[I" } : Jvm.MethodName) prog_19_method_2_code (5 : Nat) (Option.some (Jvm.ClassFile.FieldType.array Jvm.ClassFile.FieldType.int)), Jvm.Cond.code ({ cls := "com/example/rummage/rummage/PrefixTableOfPinLaw", name := "ok", desc := "([I[III)Z" } : Jvm.MethodName) method_5_code (4 : Nat) (Option.some Jvm.ClassFile.FieldType.boolean), Jvm.Cond.code ({ cls := "com/example/rummage/rummage/PrefixTableOfPinLaw", name := "border", desc := "([II)I" } : Jvm.MethodName) method_4_code (2 : Nat) (Option.some Jvm.ClassFile.FieldType.int), Jvm.Cond.code ({ cls := "com/example/rummage/rummage/PrefixTableOfPinLaw", name := "eq", desc := "([III)Z" } : Jvm.MethodName) method_3_code (4 : Nat) (Option.some Jvm.ClassFile.FieldType.boolean)]
set_option maxRecDepth 65536 in
theorem codes_eq : words1.filter isCode = codes1 := rfl
theorem w_codes : ∀ c ∈ words1.filter isCode, c.before args0 about1 = true := by
  rw [codes_eq]
  intro c hc
  simp only [codes1, List.mem_cons, List.not_mem_nil, or_false] at hc
  rcases hc with rfl | rfl | rfl | rfl | rfl | rfl
  · exact w_c0
  · exact w_c1
  · exact w_c2
  · exact w_c3
  · exact w_c4
  · exact w_c5
set_option maxRecDepth 65536 in
theorem w_t1 : words1.all (fun c => isCode c || c.before args0 about1) = true := by decide +kernel
theorem w_tables : (allAtoms (Jvm.Cond.code x code maxLocals ret :: tables_1)).before args0 about1 = true := by
  rw [allAtoms_all]
  show words1.all (fun c => c.before args0 about1) = true
  refine all_split ?_ w_codes
  rw [w_t1]
set_option maxRecDepth 65536 in
theorem w_case : (Jvm.Cond.and given_1 narrow_1).before args0 about1 = true := by decide +kernel
theorem w_applies : (headSpec (Jvm.Cond.code x code maxLocals ret :: tables_1) room_1).applies x e0.platform about1 = true :=
  (Spec.applies_iff w_frames).mpr ⟨w_running, w_runnable, w_alone, w_named, w_hears, w_ripe, w_room, w_tables⟩
theorem atStart : AtStart classFile x code maxLocals ret World_1 tables_1 room_1 Calls_1 rest_1 Pre_1 launch0 p0 e0 about1 theMethod args0 below0 :=
  ⟨lists_1, trivial, launch0.admits_env _ _ _, launch0.least_env, fairChoices_fair.cas, fairChoices_fair.clock, w_frames, w_args, w_heap, w_applies, trivial, trivial, w_case⟩
end start1
theorem witness_1 : WitnessClaimed_1 := ⟨start1.p0, start1.e0, start1.about1, start1.theMethod, start1.args0, start1.below0, start1.atStart⟩
end Jvm.Pilot.@@N@@
