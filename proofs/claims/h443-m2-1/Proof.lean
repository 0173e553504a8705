import JvmDerived
import JvmDerived.Pilot.@@N@@Statement
import JvmDerived.Pilot.@@N@@Code
set_option linter.unusedVariables false
set_option linter.unusedSimpArgs false
namespace Jvm.Own
open Jvm Jvm.ClassFile Sem Op Lib Jvm.Free Jvm.Stand Jvm.LawKit Jvm.RoadKit
/-- the run from A ends, and G holds of its end -/
def Runs (p : Program) (e : Env) (below : List Frame) (A : State) (G : Outcome → State → Prop) : Prop :=
  ∃ s₂ o, Steps p.tables e below A s₂ ∧ s₂.status = .running ∧ Ended s₂ below o ∧ G o s₂
section A
variable {p : Program} {e : Env} {below : List Frame} {A B : State} {G : Outcome → State → Prop}
theorem Runs.of (k : Runs p e below B G) (h : ∀ t, Steps p.tables e below B t → Steps p.tables e below A t) : Runs p e below A G := by
  obtain ⟨t, o, hs, r⟩ := k
  exact ⟨t, o, h t hs, r⟩
theorem Runs.dia {P : Prop} [Decidable P] {B : Int32 → State} {vt vf : Int32} (ht : P → Runs p e below (B vt) G → Runs p e below A G) (hf : ¬ P → Runs p e below (B vf) G → Runs p e below A G) (k : Runs p e below (B (if P then vt else vf)) G) : Runs p e below A G := by
  by_cases hc : P
  · rw [if_pos hc] at k; exact ht hc k
  · rw [if_neg hc] at k; exact hf hc k
theorem Runs.via (k : Runs p e below B G) (h : Steps p.tables e below A B) : Runs p e below A G := k.of fun _ q => h.trans q
end A
/-- what stood at h0 is written at ws alone -/
def Wrote (h0 : Heap) (ws : List Addr) (L : List Loc) : Prop := ∀ y ∈ L, y.base ∈ ws ∨ h0.size ≤ y.base
theorem Wrote.nil {h0 : Heap} {ws : List Addr} : Wrote h0 ws [] := fun _ q => nomatch q
theorem Wrote.app {h0 h : Heap} {ws ws' : List Addr} {L L' : List Loc} (N : Wrote h0 ws L) (N' : Wrote h ws' L') (hs : h0.size ≤ h.size) (hw : ∀ x ∈ ws', x ∈ ws ∨ h0.size ≤ x) : Wrote h0 ws (L ++ L') := fun y q =>
  (List.mem_append.mp q).elim (N y) fun r => (N' y r).elim (hw _) fun z => Or.inr (Nat.le_trans hs z)
theorem Wrote.snoc {h0 : Heap} {ws : List Addr} {L : List Loc} {a : Addr} {i : Nat} (N : Wrote h0 ws L) (q : a ∈ ws ∨ h0.size ≤ a) : Wrote h0 ws (L ++ [⟨a, i⟩]) := fun y r =>
  (List.mem_append.mp r).elim (N y) fun z => by cases List.mem_singleton.mp z; exact q
/-- where a walk stands: the method's own facts, the heap as it is now, what was written since h0 -/
def Here (p : Program) (l : Launch) (e : Env) (R : Room) (s : State) (m : MethodId) (args : Array Value) (below : List Frame) (meth : Method) (c : Code)
    (y : MethodName) (bytes : ByteArray) (maxL : Nat) (ret : Option FieldType) (Z : State) (h0 : Heap) (ws : List Addr) (T : State) (cells slots : Nat) (h : Heap) : Prop :=
  (p.tables.exec = Jvm.exec ∧ Z.Warmed39 s.vm ∧ c.code = bytes ∧ c.maxLocals = maxL ∧ s.vm.findClass y.cls = some m.cls ∧ meth.name = y.name ∧ meth.sig.returnType = ret ∧ meth.locks = false) ∧
  T.heap = h ∧ Keep h0 h ws ∧ ∃ locs, Stand p l e R s m args below meth c T locs cells slots ∧ Wrote h0 ws locs
/-- how a walk must end: it returns, Q holds of the result and the heap, what stood at h0 is written at ws alone -/
def Out (s : State) (h0 : Heap) (ws : List Addr) (rm : Room) (Q : Option Value → Heap → Prop) (o : Outcome) (U : State) : Prop :=
  ∃ v L, o = .returned v ∧ (Q v U.heap ∧ Keep h0 U.heap ws ∧ Wrote h0 ws L) ∧ FrameEnd s o U L rm.cells rm.slots
/-- a method's contract at the heap h0 and these arguments -/
def Ct (l : Launch) (Z : State) (y : MethodName) (bytes : ByteArray) (maxL : Nat) (ret : Option FieldType) (rm : Room) (as : Array Value) (h0 : Heap) (ws : List Addr) (Q : Option Value → Heap → Prop) : Prop :=
  ∀ wz, MetFree l y (head1 (Jvm.Cond.code y bytes maxL ret :: wz) rm) (fun a U => a = as ∧ Z.Warmed39 U.vm ∧ U.heap = h0) (fun _ _ _ _ _ => True)
    (fun _ U o U' => ∃ v L, o = .returned v ∧ (Q v U'.heap ∧ Keep h0 U'.heap ws ∧ Wrote h0 ws L) ∧ FrameEnd U o U' L rm.cells rm.slots)
section B
variable {p : Program} {l : Launch} {e : Env} {R : Room} {s : State} {m : MethodId} {args : Array Value} {below : List Frame} {meth : Method} {c : Code} {y : MethodName} {bytes : ByteArray} {maxL : Nat} {ret : Option FieldType} {Z : State} {h0 : Heap} {ws : List Addr} {T : State} {cells slots : Nat} {h : Heap} {G : Outcome → State → Prop} {a0 : Array Value}
theorem Ct.of {rm : Room} {as : Array Value} {Q : Option Value → Heap → Prop} (hp : plainFor y = true)
    (body : ∀ p e s m below meth c T, Here p l e rm s m as below meth c y bytes maxL ret Z h0 ws T 0 0 h0 → Runs p e below (T.setTop (entryFrame m as maxL)) (Out s h0 ws rm Q)) :
    Ct l Z y bytes maxL ret rm as h0 ws Q := fun wz => by
  refine MetFree.of_bodySF hp hisR ?_
  intro p e s m args below meth c s₁ Bd hml0 hP hK
  obtain ⟨rfl, hZ, hh⟩ := hP
  have e0 : s₁.heap = h0 := by rw [← hh, Bd.state]; rfl
  exact body p e s m below meth c s₁ ⟨⟨Bd.exec, hZ, Bd.bytes, hml0, findClass_of_methodNamed Bd.named, (name_of_methodNamed Bd.named Bd.method).1, Bd.returns, BodyLoose.notSynchronized Bd⟩, e0, Keep.refl _ _, [], Stand.of_body Bd, Wrote.nil⟩
theorem Ct.mono {rm : Room} {as : Array Value} {Q Q' : Option Value → Heap → Prop} (h : Ct l Z y bytes maxL ret rm as h0 ws Q) (hq : ∀ v h, Q v h → Q' v h) : Ct l Z y bytes maxL ret rm as h0 ws Q' := fun wz => by
  intro p e ha hc hk s m args below hf happ hP hK
  obtain ⟨n, o, w1, w2, w3, v, L, q1, q2, q3⟩ := h wz p e ha hc hk s m args below hf happ hP hK
  exact ⟨n, o, w1, w2, w3, v, L, q1, ⟨hq _ _ q2.1, q2.2⟩, q3⟩
/-- from one frame to another that is the same -/
theorem Runs.top {g g' : JFrame} (q : g = g') (k : Runs p e below (T.setTop g') G) : Runs p e below (T.setTop g) G := q ▸ k
theorem Here.keep (X : Here p l e R s m args below meth c y bytes maxL ret Z h0 ws T cells slots h) : Keep h0 h ws := X.2.2.1
theorem Here.hZ (X : Here p l e R s m args below meth c y bytes maxL ret Z h0 ws T cells slots h) : Z.Warmed39 s.vm := X.1.2.1
theorem Here.size (X : Here p l e R s m args below meth c y bytes maxL ret Z h0 ws T cells slots h) : h0.size ≤ h.size := X.2.2.1.1
/-- a plain step -/
theorem Here.step (X : Here p l e R s m args below meth c y bytes maxL ret Z h0 ws T cells slots h) {g g' : JFrame}
    (st : ∀ locs, p.tables.exec = Jvm.exec → c.code = bytes → Z.Warmed39 s.vm → s.vm.findClass y.cls = some m.cls → T.heap = h → Stand p l e R s m args below meth c T locs cells slots → ∀ t, Steps p.tables e below (T.setTop g') t → Steps p.tables e below (T.setTop g) t)
    (k : Runs p e below (T.setTop g') G) : Runs p e below (T.setTop g) G := by
  obtain ⟨⟨x1, x2, x3, x4, x5, x6, x7, x8⟩, x9, x10, locs, S, N⟩ := X
  exact k.of (st locs x1 x3 x2 x5 x9 S)
/-- a step that leaves the heap as it is -/
theorem Here.stepT (X : Here p l e R s m args below meth c y bytes maxL ret Z h0 ws T cells slots h) {g g' : JFrame}
    (st : ∀ locs, p.tables.exec = Jvm.exec → c.code = bytes → c.maxLocals = maxL → Z.Warmed39 s.vm → s.vm.findClass y.cls = some m.cls → T.heap = h → Stand p l e R s m args below meth c T locs cells slots → ∃ T', Stand p l e R s m args below meth c T' locs cells slots ∧ T'.heap = h ∧ ∀ t, Steps p.tables e below (T'.setTop g') t → Steps p.tables e below (T.setTop g) t)
    (k : ∀ T', Here p l e R s m args below meth c y bytes maxL ret Z h0 ws T' cells slots h → Runs p e below (T'.setTop g') G) : Runs p e below (T.setTop g) G := by
  obtain ⟨⟨x1, x2, x3, x4, x5, x6, x7, x8⟩, x9, x10, locs, S, N⟩ := X
  obtain ⟨T', S', e', q⟩ := st locs x1 x3 x4 x2 x5 x9 S
  exact (k T' ⟨⟨x1, x2, x3, x4, x5, x6, x7, x8⟩, e', x10, locs, S', N⟩).of q
/-- a step that writes one slot -/
theorem Here.stepW (X : Here p l e R s m args below meth c y bytes maxL ret Z h0 ws T cells slots h) {g g' : JFrame} {a : Addr} {i : Nat} {v : Value} (hn : a ∈ ws ∨ h0.size ≤ a)
    (st : ∀ locs, p.tables.exec = Jvm.exec → c.code = bytes → meth.name = y.name → Z.Warmed39 s.vm → s.vm.findClass y.cls = some m.cls → T.heap = h → Stand p l e R s m args below meth c T locs cells slots → ∃ T' h', Stand p l e R s m args below meth c T' (locs ++ [⟨a, i⟩]) cells slots ∧ T'.heap = h' ∧ Wr h h' a i v ∧ ∀ t, Steps p.tables e below (T'.setTop g') t → Steps p.tables e below (T.setTop g) t)
    (k : ∀ T' h', Here p l e R s m args below meth c y bytes maxL ret Z h0 ws T' cells slots h' → Wr h h' a i v → Runs p e below (T'.setTop g') G) : Runs p e below (T.setTop g) G := by
  obtain ⟨⟨x1, x2, x3, x4, x5, x6, x7, x8⟩, x9, x10, locs, S, N⟩ := X
  obtain ⟨T', h', S', e', W, q⟩ := st locs x1 x3 x6 x2 x5 x9 S
  exact (k T' h' ⟨⟨x1, x2, x3, x4, x5, x6, x7, x8⟩, e', x10.wr W hn, _, S', N.snoc hn⟩ W).of q
theorem Here.iload (X : Here p l e R s m args below meth c y bytes maxL ret Z h0 ws T cells slots h) {pc pc' : Nat} {Ls : Array Slot} {St : List Value} {i : Nat} {v : Int32} (hd : decode bytes pc = .ok (.iload i, 2)) (hl : Ls[i]? = some (.val (.int v))) (hp : pc + 2 = pc') (k : Runs p e below (T.setTop (mkF m pc' Ls (.int v :: St))) G) : Runs p e below (T.setTop (mkF m pc Ls (St))) G := by
  subst hp
  exact X.step (fun _ hx hb' _ hown _ S t q => XS.iload S.here hx rfl (hb hb' hd) hl q) k
theorem Here.iloadN (X : Here p l e R s m args below meth c y bytes maxL ret Z h0 ws T cells slots h) {pc pc' : Nat} {Ls : Array Slot} {St : List Value} {i : Fin 4} {v : Int32} (hd : decode bytes pc = .ok (.iload_n i, 1)) (hl : Ls[i.val]? = some (.val (.int v))) (hp : pc + 1 = pc') (k : Runs p e below (T.setTop (mkF m pc' Ls (.int v :: St))) G) : Runs p e below (T.setTop (mkF m pc Ls (St))) G := by
  subst hp
  exact X.step (fun _ hx hb' _ hown _ S t q => XS.iloadN S.here hx rfl (hb hb' hd) hl q) k
theorem Here.lload (X : Here p l e R s m args below meth c y bytes maxL ret Z h0 ws T cells slots h) {pc pc' : Nat} {Ls : Array Slot} {St : List Value} {i : Nat} {v : Int64} (hd : decode bytes pc = .ok (.lload i, 2)) (hl : Ls[i]? = some (.val (.long v))) (hp : pc + 2 = pc') (k : Runs p e below (T.setTop (mkF m pc' Ls (.long v :: St))) G) : Runs p e below (T.setTop (mkF m pc Ls (St))) G := by
  subst hp
  exact X.step (fun _ hx hb' _ hown _ S t q => XS.lload S.here hx rfl (hb hb' hd) hl q) k
theorem Here.lloadN (X : Here p l e R s m args below meth c y bytes maxL ret Z h0 ws T cells slots h) {pc pc' : Nat} {Ls : Array Slot} {St : List Value} {i : Fin 4} {v : Int64} (hd : decode bytes pc = .ok (.lload_n i, 1)) (hl : Ls[i.val]? = some (.val (.long v))) (hp : pc + 1 = pc') (k : Runs p e below (T.setTop (mkF m pc' Ls (.long v :: St))) G) : Runs p e below (T.setTop (mkF m pc Ls (St))) G := by
  subst hp
  exact X.step (fun _ hx hb' _ hown _ S t q => XS.lloadN S.here hx rfl (hb hb' hd) hl q) k
theorem Here.aload (X : Here p l e R s m args below meth c y bytes maxL ret Z h0 ws T cells slots h) {pc pc' : Nat} {Ls : Array Slot} {St : List Value} {i : Nat} {v : Value} (hd : decode bytes pc = .ok (.aload i, 2)) (hl : Ls[i]? = some (.val v)) (hv : v.isRef = true) (hp : pc + 2 = pc') (k : Runs p e below (T.setTop (mkF m pc' Ls (v :: St))) G) : Runs p e below (T.setTop (mkF m pc Ls (St))) G := by
  subst hp
  exact X.step (fun _ hx hb' _ hown _ S t q => XS.aload S.here hx rfl (hb hb' hd) hl hv q) k
theorem Here.aloadN (X : Here p l e R s m args below meth c y bytes maxL ret Z h0 ws T cells slots h) {pc pc' : Nat} {Ls : Array Slot} {St : List Value} {i : Fin 4} {v : Value} (hd : decode bytes pc = .ok (.aload_n i, 1)) (hl : Ls[i.val]? = some (.val v)) (hv : v.isRef = true) (hp : pc + 1 = pc') (k : Runs p e below (T.setTop (mkF m pc' Ls (v :: St))) G) : Runs p e below (T.setTop (mkF m pc Ls (St))) G := by
  subst hp
  exact X.step (fun _ hx hb' _ hown _ S t q => XS.aloadN S.here hx rfl (hb hb' hd) hl hv q) k
theorem Here.istore (X : Here p l e R s m args below meth c y bytes maxL ret Z h0 ws T cells slots h) {pc pc' : Nat} {Ls : Array Slot} {St : List Value} {i : Nat} {v : Int32} {l' : Array Slot} (hd : decode bytes pc = .ok (.istore i, 2)) (hl : storeLocals Ls i (.int v) = some l') (hp : pc + 2 = pc') (k : Runs p e below (T.setTop (mkF m pc' l' (St))) G) : Runs p e below (T.setTop (mkF m pc Ls (.int v :: St))) G := by
  subst hp
  exact X.step (fun _ hx hb' _ hown _ S t q => XS.istore S.here hx rfl (hb hb' hd) rfl hl q) k
theorem Here.istoreN (X : Here p l e R s m args below meth c y bytes maxL ret Z h0 ws T cells slots h) {pc pc' : Nat} {Ls : Array Slot} {St : List Value} {i : Fin 4} {v : Int32} {l' : Array Slot} (hd : decode bytes pc = .ok (.istore_n i, 1)) (hl : storeLocals Ls i.val (.int v) = some l') (hp : pc + 1 = pc') (k : Runs p e below (T.setTop (mkF m pc' l' (St))) G) : Runs p e below (T.setTop (mkF m pc Ls (.int v :: St))) G := by
  subst hp
  exact X.step (fun _ hx hb' _ hown _ S t q => XS.istoreN S.here hx rfl (hb hb' hd) rfl hl q) k
theorem Here.lstore (X : Here p l e R s m args below meth c y bytes maxL ret Z h0 ws T cells slots h) {pc pc' : Nat} {Ls : Array Slot} {St : List Value} {i : Nat} {v : Int64} {l' : Array Slot} (hd : decode bytes pc = .ok (.lstore i, 2)) (hl : storeLocals Ls i (.long v) = some l') (hp : pc + 2 = pc') (k : Runs p e below (T.setTop (mkF m pc' l' (St))) G) : Runs p e below (T.setTop (mkF m pc Ls (.long v :: St))) G := by
  subst hp
  exact X.step (fun _ hx hb' _ hown _ S t q => XS.lstore S.here hx rfl (hb hb' hd) rfl hl q) k
theorem Here.lstoreN (X : Here p l e R s m args below meth c y bytes maxL ret Z h0 ws T cells slots h) {pc pc' : Nat} {Ls : Array Slot} {St : List Value} {i : Fin 4} {v : Int64} {l' : Array Slot} (hd : decode bytes pc = .ok (.lstore_n i, 1)) (hl : storeLocals Ls i.val (.long v) = some l') (hp : pc + 1 = pc') (k : Runs p e below (T.setTop (mkF m pc' l' (St))) G) : Runs p e below (T.setTop (mkF m pc Ls (.long v :: St))) G := by
  subst hp
  exact X.step (fun _ hx hb' _ hown _ S t q => XS.lstoreN S.here hx rfl (hb hb' hd) rfl hl q) k
theorem Here.astore (X : Here p l e R s m args below meth c y bytes maxL ret Z h0 ws T cells slots h) {pc pc' : Nat} {Ls : Array Slot} {St : List Value} {i : Nat} {v : Value} {l' : Array Slot} (hd : decode bytes pc = .ok (.astore i, 2)) (hv : v.isRef = true) (hl : storeLocals Ls i v = some l') (hp : pc + 2 = pc') (k : Runs p e below (T.setTop (mkF m pc' l' (St))) G) : Runs p e below (T.setTop (mkF m pc Ls (v :: St))) G := by
  subst hp
  exact X.step (fun _ hx hb' _ hown _ S t q => XS.astore S.here hx rfl (hb hb' hd) rfl hv hl q) k
theorem Here.astoreN (X : Here p l e R s m args below meth c y bytes maxL ret Z h0 ws T cells slots h) {pc pc' : Nat} {Ls : Array Slot} {St : List Value} {i : Fin 4} {v : Value} {l' : Array Slot} (hd : decode bytes pc = .ok (.astore_n i, 1)) (hv : v.isRef = true) (hl : storeLocals Ls i.val v = some l') (hp : pc + 1 = pc') (k : Runs p e below (T.setTop (mkF m pc' l' (St))) G) : Runs p e below (T.setTop (mkF m pc Ls (v :: St))) G := by
  subst hp
  exact X.step (fun _ hx hb' _ hown _ S t q => XS.astoreN S.here hx rfl (hb hb' hd) rfl hv hl q) k
theorem Here.iconst (X : Here p l e R s m args below meth c y bytes maxL ret Z h0 ws T cells slots h) {pc pc' : Nat} {Ls : Array Slot} {St : List Value} {i : Int} {z : Int32} (hd : decode bytes pc = .ok (.iconst i, 1)) (hz : Int32.ofInt i = z) (hp : pc + 1 = pc') (k : Runs p e below (T.setTop (mkF m pc' Ls (.int z :: St))) G) : Runs p e below (T.setTop (mkF m pc Ls (St))) G := by
  subst hp
  exact X.step (fun _ hx hb' _ hown _ S t q => XS.iconst S.here hx rfl (hb hb' hd) (hz ▸ q)) k
theorem Here.bipush (X : Here p l e R s m args below meth c y bytes maxL ret Z h0 ws T cells slots h) {pc pc' : Nat} {Ls : Array Slot} {St : List Value} {i : Int} {z : Int32} (hd : decode bytes pc = .ok (.bipush i, 2)) (hz : (Int8.ofInt i).toInt32 = z) (hp : pc + 2 = pc') (k : Runs p e below (T.setTop (mkF m pc' Ls (.int z :: St))) G) : Runs p e below (T.setTop (mkF m pc Ls (St))) G := by
  subst hp
  exact X.step (fun _ hx hb' _ hown _ S t q => XS.bipush S.here hx rfl (hb hb' hd) (hz ▸ q)) k
theorem Here.sipush (X : Here p l e R s m args below meth c y bytes maxL ret Z h0 ws T cells slots h) {pc pc' : Nat} {Ls : Array Slot} {St : List Value} {i : Int} {z : Int32} (hd : decode bytes pc = .ok (.sipush i, 3)) (hz : (Int16.ofInt i).toInt32 = z) (hp : pc + 3 = pc') (k : Runs p e below (T.setTop (mkF m pc' Ls (.int z :: St))) G) : Runs p e below (T.setTop (mkF m pc Ls (St))) G := by
  subst hp
  exact X.step (fun _ hx hb' _ hown _ S t q => XS.sipush S.here hx rfl (hb hb' hd) (hz ▸ q)) k
theorem Here.lconst0 (X : Here p l e R s m args below meth c y bytes maxL ret Z h0 ws T cells slots h) {pc pc' : Nat} {Ls : Array Slot} {St : List Value}  (hd : decode bytes pc = .ok (.lconst 0, 1))  (hp : pc + 1 = pc') (k : Runs p e below (T.setTop (mkF m pc' Ls (.long 0 :: St))) G) : Runs p e below (T.setTop (mkF m pc Ls (St))) G := by
  subst hp
  exact X.step (fun _ hx hb' _ hown _ S t q => XS.lconst S.here hx rfl (hb hb' hd) q) k
theorem Here.lconst1 (X : Here p l e R s m args below meth c y bytes maxL ret Z h0 ws T cells slots h) {pc pc' : Nat} {Ls : Array Slot} {St : List Value}  (hd : decode bytes pc = .ok (.lconst 1, 1))  (hp : pc + 1 = pc') (k : Runs p e below (T.setTop (mkF m pc' Ls (.long 1 :: St))) G) : Runs p e below (T.setTop (mkF m pc Ls (St))) G := by
  subst hp
  exact X.step (fun _ hx hb' _ hown _ S t q => XS.lconst S.here hx rfl (hb hb' hd) q) k
theorem Here.aconstNull (X : Here p l e R s m args below meth c y bytes maxL ret Z h0 ws T cells slots h) {pc pc' : Nat} {Ls : Array Slot} {St : List Value}  (hd : decode bytes pc = .ok (.aconst_null, 1))  (hp : pc + 1 = pc') (k : Runs p e below (T.setTop (mkF m pc' Ls (.null :: St))) G) : Runs p e below (T.setTop (mkF m pc Ls (St))) G := by
  subst hp
  exact X.step (fun _ hx hb' _ hown _ S t q => XS.aconstNull S.here hx rfl (hb hb' hd) q) k
theorem Here.iadd (X : Here p l e R s m args below meth c y bytes maxL ret Z h0 ws T cells slots h) {pc pc' : Nat} {Ls : Array Slot} {St : List Value} {a b : Int32} (hd : decode bytes pc = .ok (.iadd, 1))  (hp : pc + 1 = pc') (k : Runs p e below (T.setTop (mkF m pc' Ls (.int (a + b) :: St))) G) : Runs p e below (T.setTop (mkF m pc Ls (.int b :: .int a :: St))) G := by
  subst hp
  exact X.step (fun _ hx hb' _ hown _ S t q => XS.iadd S.here hx rfl (hb hb' hd) rfl q) k
theorem Here.isub (X : Here p l e R s m args below meth c y bytes maxL ret Z h0 ws T cells slots h) {pc pc' : Nat} {Ls : Array Slot} {St : List Value} {a b : Int32} (hd : decode bytes pc = .ok (.isub, 1))  (hp : pc + 1 = pc') (k : Runs p e below (T.setTop (mkF m pc' Ls (.int (a - b) :: St))) G) : Runs p e below (T.setTop (mkF m pc Ls (.int b :: .int a :: St))) G := by
  subst hp
  exact X.step (fun _ hx hb' _ hown _ S t q => XS.isub S.here hx rfl (hb hb' hd) rfl q) k
theorem Here.imul (X : Here p l e R s m args below meth c y bytes maxL ret Z h0 ws T cells slots h) {pc pc' : Nat} {Ls : Array Slot} {St : List Value} {a b : Int32} (hd : decode bytes pc = .ok (.imul, 1))  (hp : pc + 1 = pc') (k : Runs p e below (T.setTop (mkF m pc' Ls (.int (a * b) :: St))) G) : Runs p e below (T.setTop (mkF m pc Ls (.int b :: .int a :: St))) G := by
  subst hp
  exact X.step (fun _ hx hb' _ hown _ S t q => XS.imul S.here hx rfl (hb hb' hd) rfl q) k
theorem Here.iand (X : Here p l e R s m args below meth c y bytes maxL ret Z h0 ws T cells slots h) {pc pc' : Nat} {Ls : Array Slot} {St : List Value} {a b : Int32} (hd : decode bytes pc = .ok (.iand, 1))  (hp : pc + 1 = pc') (k : Runs p e below (T.setTop (mkF m pc' Ls (.int (a &&& b) :: St))) G) : Runs p e below (T.setTop (mkF m pc Ls (.int b :: .int a :: St))) G := by
  subst hp
  exact X.step (fun _ hx hb' _ hown _ S t q => XS.iand S.here hx rfl (hb hb' hd) rfl q) k
theorem Here.ior (X : Here p l e R s m args below meth c y bytes maxL ret Z h0 ws T cells slots h) {pc pc' : Nat} {Ls : Array Slot} {St : List Value} {a b : Int32} (hd : decode bytes pc = .ok (.ior, 1))  (hp : pc + 1 = pc') (k : Runs p e below (T.setTop (mkF m pc' Ls (.int (a ||| b) :: St))) G) : Runs p e below (T.setTop (mkF m pc Ls (.int b :: .int a :: St))) G := by
  subst hp
  exact X.step (fun _ hx hb' _ hown _ S t q => XS.ior S.here hx rfl (hb hb' hd) rfl q) k
theorem Here.ixor (X : Here p l e R s m args below meth c y bytes maxL ret Z h0 ws T cells slots h) {pc pc' : Nat} {Ls : Array Slot} {St : List Value} {a b : Int32} (hd : decode bytes pc = .ok (.ixor, 1))  (hp : pc + 1 = pc') (k : Runs p e below (T.setTop (mkF m pc' Ls (.int (a ^^^ b) :: St))) G) : Runs p e below (T.setTop (mkF m pc Ls (.int b :: .int a :: St))) G := by
  subst hp
  exact X.step (fun _ hx hb' _ hown _ S t q => XS.ixor S.here hx rfl (hb hb' hd) rfl q) k
theorem Here.ladd (X : Here p l e R s m args below meth c y bytes maxL ret Z h0 ws T cells slots h) {pc pc' : Nat} {Ls : Array Slot} {St : List Value} {a b : Int64} (hd : decode bytes pc = .ok (.ladd, 1))  (hp : pc + 1 = pc') (k : Runs p e below (T.setTop (mkF m pc' Ls (.long (a + b) :: St))) G) : Runs p e below (T.setTop (mkF m pc Ls (.long b :: .long a :: St))) G := by
  subst hp
  exact X.step (fun _ hx hb' _ hown _ S t q => XS.ladd S.here hx rfl (hb hb' hd) rfl q) k
theorem Here.lsub (X : Here p l e R s m args below meth c y bytes maxL ret Z h0 ws T cells slots h) {pc pc' : Nat} {Ls : Array Slot} {St : List Value} {a b : Int64} (hd : decode bytes pc = .ok (.lsub, 1))  (hp : pc + 1 = pc') (k : Runs p e below (T.setTop (mkF m pc' Ls (.long (a - b) :: St))) G) : Runs p e below (T.setTop (mkF m pc Ls (.long b :: .long a :: St))) G := by
  subst hp
  exact X.step (fun _ hx hb' _ hown _ S t q => XS.lsub S.here hx rfl (hb hb' hd) rfl q) k
theorem Here.lmul (X : Here p l e R s m args below meth c y bytes maxL ret Z h0 ws T cells slots h) {pc pc' : Nat} {Ls : Array Slot} {St : List Value} {a b : Int64} (hd : decode bytes pc = .ok (.lmul, 1))  (hp : pc + 1 = pc') (k : Runs p e below (T.setTop (mkF m pc' Ls (.long (a * b) :: St))) G) : Runs p e below (T.setTop (mkF m pc Ls (.long b :: .long a :: St))) G := by
  subst hp
  exact X.step (fun _ hx hb' _ hown _ S t q => XS.lmul S.here hx rfl (hb hb' hd) rfl q) k
theorem Here.land (X : Here p l e R s m args below meth c y bytes maxL ret Z h0 ws T cells slots h) {pc pc' : Nat} {Ls : Array Slot} {St : List Value} {a b : Int64} (hd : decode bytes pc = .ok (.land, 1))  (hp : pc + 1 = pc') (k : Runs p e below (T.setTop (mkF m pc' Ls (.long (a &&& b) :: St))) G) : Runs p e below (T.setTop (mkF m pc Ls (.long b :: .long a :: St))) G := by
  subst hp
  exact X.step (fun _ hx hb' _ hown _ S t q => XS.land S.here hx rfl (hb hb' hd) rfl q) k
theorem Here.lor (X : Here p l e R s m args below meth c y bytes maxL ret Z h0 ws T cells slots h) {pc pc' : Nat} {Ls : Array Slot} {St : List Value} {a b : Int64} (hd : decode bytes pc = .ok (.lor, 1))  (hp : pc + 1 = pc') (k : Runs p e below (T.setTop (mkF m pc' Ls (.long (a ||| b) :: St))) G) : Runs p e below (T.setTop (mkF m pc Ls (.long b :: .long a :: St))) G := by
  subst hp
  exact X.step (fun _ hx hb' _ hown _ S t q => XS.lor S.here hx rfl (hb hb' hd) rfl q) k
theorem Here.lxor (X : Here p l e R s m args below meth c y bytes maxL ret Z h0 ws T cells slots h) {pc pc' : Nat} {Ls : Array Slot} {St : List Value} {a b : Int64} (hd : decode bytes pc = .ok (.lxor, 1))  (hp : pc + 1 = pc') (k : Runs p e below (T.setTop (mkF m pc' Ls (.long (a ^^^ b) :: St))) G) : Runs p e below (T.setTop (mkF m pc Ls (.long b :: .long a :: St))) G := by
  subst hp
  exact X.step (fun _ hx hb' _ hown _ S t q => XS.lxor S.here hx rfl (hb hb' hd) rfl q) k
theorem Here.ishl (X : Here p l e R s m args below meth c y bytes maxL ret Z h0 ws T cells slots h) {pc pc' : Nat} {Ls : Array Slot} {St : List Value} {a b : Int32} (hd : decode bytes pc = .ok (.ishl, 1))  (hp : pc + 1 = pc') (k : Runs p e below (T.setTop (mkF m pc' Ls (.int (a <<< (b &&& 31)) :: St))) G) : Runs p e below (T.setTop (mkF m pc Ls (.int b :: .int a :: St))) G := by
  subst hp
  exact X.step (fun _ hx hb' _ hown _ S t q => XS.ishl S.here hx rfl (hb hb' hd) rfl q) k
theorem Here.ishr (X : Here p l e R s m args below meth c y bytes maxL ret Z h0 ws T cells slots h) {pc pc' : Nat} {Ls : Array Slot} {St : List Value} {a b : Int32} (hd : decode bytes pc = .ok (.ishr, 1))  (hp : pc + 1 = pc') (k : Runs p e below (T.setTop (mkF m pc' Ls (.int (a >>> (b &&& 31)) :: St))) G) : Runs p e below (T.setTop (mkF m pc Ls (.int b :: .int a :: St))) G := by
  subst hp
  exact X.step (fun _ hx hb' _ hown _ S t q => XS.ishr S.here hx rfl (hb hb' hd) rfl q) k
theorem Here.iushr (X : Here p l e R s m args below meth c y bytes maxL ret Z h0 ws T cells slots h) {pc pc' : Nat} {Ls : Array Slot} {St : List Value} {a b : Int32} (hd : decode bytes pc = .ok (.iushr, 1))  (hp : pc + 1 = pc') (k : Runs p e below (T.setTop (mkF m pc' Ls (.int ((a.toUInt32 >>> (b &&& 31).toUInt32).toInt32) :: St))) G) : Runs p e below (T.setTop (mkF m pc Ls (.int b :: .int a :: St))) G := by
  subst hp
  exact X.step (fun _ hx hb' _ hown _ S t q => XS.iushr S.here hx rfl (hb hb' hd) rfl q) k
theorem Here.lshl (X : Here p l e R s m args below meth c y bytes maxL ret Z h0 ws T cells slots h) {pc pc' : Nat} {Ls : Array Slot} {St : List Value} {a : Int64} {b : Int32} (hd : decode bytes pc = .ok (.lshl, 1))  (hp : pc + 1 = pc') (k : Runs p e below (T.setTop (mkF m pc' Ls (.long (a <<< (b &&& 0x3f).toInt64) :: St))) G) : Runs p e below (T.setTop (mkF m pc Ls (.int b :: .long a :: St))) G := by
  subst hp
  exact X.step (fun _ hx hb' _ hown _ S t q => XS.lshl S.here hx rfl (hb hb' hd) rfl q) k
theorem Here.lshr (X : Here p l e R s m args below meth c y bytes maxL ret Z h0 ws T cells slots h) {pc pc' : Nat} {Ls : Array Slot} {St : List Value} {a : Int64} {b : Int32} (hd : decode bytes pc = .ok (.lshr, 1))  (hp : pc + 1 = pc') (k : Runs p e below (T.setTop (mkF m pc' Ls (.long (a >>> (b &&& 0x3f).toInt64) :: St))) G) : Runs p e below (T.setTop (mkF m pc Ls (.int b :: .long a :: St))) G := by
  subst hp
  exact X.step (fun _ hx hb' _ hown _ S t q => XS.lshr S.here hx rfl (hb hb' hd) rfl q) k
theorem Here.lushr (X : Here p l e R s m args below meth c y bytes maxL ret Z h0 ws T cells slots h) {pc pc' : Nat} {Ls : Array Slot} {St : List Value} {a : Int64} {b : Int32} (hd : decode bytes pc = .ok (.lushr, 1))  (hp : pc + 1 = pc') (k : Runs p e below (T.setTop (mkF m pc' Ls (.long ((a.toUInt64 >>> (b &&& 0x3f).toInt64.toUInt64).toInt64) :: St))) G) : Runs p e below (T.setTop (mkF m pc Ls (.int b :: .long a :: St))) G := by
  subst hp
  exact X.step (fun _ hx hb' _ hown _ S t q => XS.lushr S.here hx rfl (hb hb' hd) rfl q) k
theorem Here.ineg (X : Here p l e R s m args below meth c y bytes maxL ret Z h0 ws T cells slots h) {pc pc' : Nat} {Ls : Array Slot} {St : List Value} {a : Int32} (hd : decode bytes pc = .ok (.ineg, 1))  (hp : pc + 1 = pc') (k : Runs p e below (T.setTop (mkF m pc' Ls (.int (-a) :: St))) G) : Runs p e below (T.setTop (mkF m pc Ls (.int a :: St))) G := by
  subst hp
  exact X.step (fun _ hx hb' _ hown _ S t q => XS.ineg S.here hx rfl (hb hb' hd) rfl q) k
theorem Here.lneg (X : Here p l e R s m args below meth c y bytes maxL ret Z h0 ws T cells slots h) {pc pc' : Nat} {Ls : Array Slot} {St : List Value} {a : Int64} (hd : decode bytes pc = .ok (.lneg, 1))  (hp : pc + 1 = pc') (k : Runs p e below (T.setTop (mkF m pc' Ls (.long (-a) :: St))) G) : Runs p e below (T.setTop (mkF m pc Ls (.long a :: St))) G := by
  subst hp
  exact X.step (fun _ hx hb' _ hown _ S t q => XS.lneg S.here hx rfl (hb hb' hd) rfl q) k
theorem Here.lcmp (X : Here p l e R s m args below meth c y bytes maxL ret Z h0 ws T cells slots h) {pc pc' : Nat} {Ls : Array Slot} {St : List Value} {a b : Int64} (hd : decode bytes pc = .ok (.lcmp, 1))  (hp : pc + 1 = pc') (k : Runs p e below (T.setTop (mkF m pc' Ls (.int (lcmpW a b) :: St))) G) : Runs p e below (T.setTop (mkF m pc Ls (.long b :: .long a :: St))) G := by
  subst hp
  exact X.step (fun _ hx hb' _ hown _ S t q => XS.lcmp S.here hx rfl (hb hb' hd) rfl q) k
theorem Here.i2l (X : Here p l e R s m args below meth c y bytes maxL ret Z h0 ws T cells slots h) {pc pc' : Nat} {Ls : Array Slot} {St : List Value} {a : Int32} (hd : decode bytes pc = .ok (.i2l, 1))  (hp : pc + 1 = pc') (k : Runs p e below (T.setTop (mkF m pc' Ls (.long a.toInt64 :: St))) G) : Runs p e below (T.setTop (mkF m pc Ls (.int a :: St))) G := by
  subst hp
  exact X.step (fun _ hx hb' _ hown _ S t q => XS.i2l S.here hx rfl (hb hb' hd) rfl q) k
theorem Here.l2i (X : Here p l e R s m args below meth c y bytes maxL ret Z h0 ws T cells slots h) {pc pc' : Nat} {Ls : Array Slot} {St : List Value} {a : Int64} (hd : decode bytes pc = .ok (.l2i, 1))  (hp : pc + 1 = pc') (k : Runs p e below (T.setTop (mkF m pc' Ls (.int a.toInt32 :: St))) G) : Runs p e below (T.setTop (mkF m pc Ls (.long a :: St))) G := by
  subst hp
  exact X.step (fun _ hx hb' _ hown _ S t q => XS.l2i S.here hx rfl (hb hb' hd) rfl q) k
theorem Here.i2b (X : Here p l e R s m args below meth c y bytes maxL ret Z h0 ws T cells slots h) {pc pc' : Nat} {Ls : Array Slot} {St : List Value} {a : Int32} (hd : decode bytes pc = .ok (.i2b, 1))  (hp : pc + 1 = pc') (k : Runs p e below (T.setTop (mkF m pc' Ls (.int a.toInt8.toInt32 :: St))) G) : Runs p e below (T.setTop (mkF m pc Ls (.int a :: St))) G := by
  subst hp
  exact X.step (fun _ hx hb' _ hown _ S t q => XS.i2b S.here hx rfl (hb hb' hd) rfl q) k
theorem Here.i2s (X : Here p l e R s m args below meth c y bytes maxL ret Z h0 ws T cells slots h) {pc pc' : Nat} {Ls : Array Slot} {St : List Value} {a : Int32} (hd : decode bytes pc = .ok (.i2s, 1))  (hp : pc + 1 = pc') (k : Runs p e below (T.setTop (mkF m pc' Ls (.int a.toInt16.toInt32 :: St))) G) : Runs p e below (T.setTop (mkF m pc Ls (.int a :: St))) G := by
  subst hp
  exact X.step (fun _ hx hb' _ hown _ S t q => XS.i2s S.here hx rfl (hb hb' hd) rfl q) k
theorem Here.i2c (X : Here p l e R s m args below meth c y bytes maxL ret Z h0 ws T cells slots h) {pc pc' : Nat} {Ls : Array Slot} {St : List Value} {a : Int32} (hd : decode bytes pc = .ok (.i2c, 1))  (hp : pc + 1 = pc') (k : Runs p e below (T.setTop (mkF m pc' Ls (.int a.toUInt32.toUInt16.toUInt32.toInt32 :: St))) G) : Runs p e below (T.setTop (mkF m pc Ls (.int a :: St))) G := by
  subst hp
  exact X.step (fun _ hx hb' _ hown _ S t q => XS.i2c S.here hx rfl (hb hb' hd) rfl q) k
theorem Here.irem (X : Here p l e R s m args below meth c y bytes maxL ret Z h0 ws T cells slots h) {pc pc' : Nat} {Ls : Array Slot} {St : List Value} {a b : Int32} (hd : decode bytes pc = .ok (.irem, 1)) (hy : b ≠ 0) (hp : pc + 1 = pc') (k : Runs p e below (T.setTop (mkF m pc' Ls (.int (a % b) :: St))) G) : Runs p e below (T.setTop (mkF m pc Ls (.int b :: .int a :: St))) G := by
  subst hp
  exact X.step (fun _ hx hb' _ hown _ S t q => iremM S hx rfl (hb hb' hd) rfl hy q) k
theorem Here.idiv (X : Here p l e R s m args below meth c y bytes maxL ret Z h0 ws T cells slots h) {pc pc' : Nat} {Ls : Array Slot} {St : List Value} {a b : Int32} (hd : decode bytes pc = .ok (.idiv, 1)) (hy : b ≠ 0) (hp : pc + 1 = pc') (k : Runs p e below (T.setTop (mkF m pc' Ls (.int (a / b) :: St))) G) : Runs p e below (T.setTop (mkF m pc Ls (.int b :: .int a :: St))) G := by
  subst hp
  exact X.step (fun _ hx hb' _ hown _ S t q => XS.idiv S.here hx rfl (hb hb' hd) rfl hy q) k
theorem Here.iinc (X : Here p l e R s m args below meth c y bytes maxL ret Z h0 ws T cells slots h) {pc pc' : Nat} {Ls : Array Slot} {St : List Value} {i : Nat} {cst : Int} {v z : Int32} {l' : Array Slot} (hd : decode bytes pc = .ok (.iinc i cst, 3)) (hl : Ls[i]? = some (.val (.int v))) (hz : Int32.ofInt cst = z) (hl' : storeLocals Ls i (.int (v + z)) = some l') (hp : pc + 3 = pc') (k : Runs p e below (T.setTop (mkF m pc' l' (St))) G) : Runs p e below (T.setTop (mkF m pc Ls (St))) G := by
  subst hp
  exact X.step (fun _ hx hb' _ hown _ S t q => XS.iinc S.here hx rfl (hb hb' hd) hl (hz ▸ hl') q) k
theorem Here.dup (X : Here p l e R s m args below meth c y bytes maxL ret Z h0 ws T cells slots h) {pc pc' : Nat} {Ls : Array Slot} {St : List Value} {v : Value} (hd : decode bytes pc = .ok (.dup, 1)) (hv : v.category = 1) (hp : pc + 1 = pc') (k : Runs p e below (T.setTop (mkF m pc' Ls (v :: v :: St))) G) : Runs p e below (T.setTop (mkF m pc Ls (v :: St))) G := by
  subst hp
  exact X.step (fun _ hx hb' _ hown _ S t q => XS.dup S.here hx rfl (hb hb' hd) rfl hv q) k
theorem Here.dupX1 (X : Here p l e R s m args below meth c y bytes maxL ret Z h0 ws T cells slots h) {pc pc' : Nat} {Ls : Array Slot} {St : List Value} {v w : Value} (hd : decode bytes pc = .ok (.dup_x1, 1)) (hv : v.category = 1) (hw : w.category = 1) (hp : pc + 1 = pc') (k : Runs p e below (T.setTop (mkF m pc' Ls (v :: w :: v :: St))) G) : Runs p e below (T.setTop (mkF m pc Ls (v :: w :: St))) G := by
  subst hp
  exact X.step (fun _ hx hb' _ hown _ S t q => XS.dupX1 S.here hx rfl (hb hb' hd) rfl hv hw q) k
theorem Here.dup2 (X : Here p l e R s m args below meth c y bytes maxL ret Z h0 ws T cells slots h) {pc pc' : Nat} {Ls : Array Slot} {St : List Value} {v w : Value} (hd : decode bytes pc = .ok (.dup2, 1)) (hv : v.category = 1) (hw : w.category = 1) (hp : pc + 1 = pc') (k : Runs p e below (T.setTop (mkF m pc' Ls (v :: w :: v :: w :: St))) G) : Runs p e below (T.setTop (mkF m pc Ls (v :: w :: St))) G := by
  subst hp
  exact X.step (fun _ hx hb' _ hown _ S t q => Jvm.Free.XT.dup2 S.here hx rfl (hb hb' hd) rfl hv hw q) k
theorem Here.dup2L (X : Here p l e R s m args below meth c y bytes maxL ret Z h0 ws T cells slots h) {pc pc' : Nat} {Ls : Array Slot} {St : List Value} {v : Int64} (hd : decode bytes pc = .ok (.dup2, 1))  (hp : pc + 1 = pc') (k : Runs p e below (T.setTop (mkF m pc' Ls (.long v :: .long v :: St))) G) : Runs p e below (T.setTop (mkF m pc Ls (.long v :: St))) G := by
  subst hp
  exact X.step (fun _ hx hb' _ hown _ S t q => Jvm.Free.XT.dup2L S.here hx rfl (hb hb' hd) rfl q) k
theorem Here.pop (X : Here p l e R s m args below meth c y bytes maxL ret Z h0 ws T cells slots h) {pc pc' : Nat} {Ls : Array Slot} {St : List Value} {v : Value} (hd : decode bytes pc = .ok (.pop, 1)) (hv : v.category = 1) (hp : pc + 1 = pc') (k : Runs p e below (T.setTop (mkF m pc' Ls (St))) G) : Runs p e below (T.setTop (mkF m pc Ls (v :: St))) G := by
  subst hp
  exact X.step (fun _ hx hb' _ hown _ S t q => XS.pop S.here hx rfl (hb hb' hd) rfl hv q) k
theorem Here.ldcInt (X : Here p l e R s m args below meth c y bytes maxL ret Z h0 ws T cells slots h) {pc pc' : Nat} {Ls : Array Slot} {St : List Value} {i : Nat} {v : Int32} (w : (Jvm.Cond.constant y.cls i v).before a0 Z = true) (hd : decode bytes pc = .ok (.ldc i, 2)) (hp : pc + 2 = pc') (k : Runs p e below (T.setTop (mkF m pc' Ls (.int v :: St))) G) : Runs p e below (T.setTop (mkF m pc Ls St)) G := by
  subst hp
  exact X.step (fun _ hx hb' hZ hown _ S t q => S.ldcInt hx hown (mvT hZ w) (g := mkF m pc Ls St) rfl (hb hb' hd) t q) k
theorem Here.ldcwInt (X : Here p l e R s m args below meth c y bytes maxL ret Z h0 ws T cells slots h) {pc pc' : Nat} {Ls : Array Slot} {St : List Value} {i : Nat} {v : Int32} (w : (Jvm.Cond.constant y.cls i v).before a0 Z = true) (hd : decode bytes pc = .ok (.ldc_w i, 3)) (hp : pc + 3 = pc') (k : Runs p e below (T.setTop (mkF m pc' Ls (.int v :: St))) G) : Runs p e below (T.setTop (mkF m pc Ls St)) G := by
  subst hp
  exact X.step (fun _ hx hb' hZ hown _ S t q => S.ldcwInt hx hown (mvT hZ w) (g := mkF m pc Ls St) rfl (hb hb' hd) t q) k
theorem Here.ldc2 (X : Here p l e R s m args below meth c y bytes maxL ret Z h0 ws T cells slots h) {pc pc' : Nat} {Ls : Array Slot} {St : List Value} {i : Nat} {v : Int64} (w : (Jvm.Cond.constantLong y.cls i v).before a0 Z = true) (hd : decode bytes pc = .ok (.ldc2_w i, 3)) (hp : pc + 3 = pc') (k : Runs p e below (T.setTop (mkF m pc' Ls (.long v :: St))) G) : Runs p e below (T.setTop (mkF m pc Ls St)) G := by
  subst hp
  exact X.step (fun _ hx hb' hZ hown _ S t q => S.ldc2Long hx hown (mvT hZ w) (g := mkF m pc Ls St) rfl (hb hb' hd) t q) k
theorem Here.goto (X : Here p l e R s m args below meth c y bytes maxL ret Z h0 ws T cells slots h) {pc pc' : Nat} {Ls : Array Slot} {St : List Value} {o : Int}  (hd : decode bytes pc = .ok (.goto o, 3))  (ho : 0 ≤ (pc : Int) + o) (hp : ((pc : Int) + o).toNat = pc') (k : Runs p e below (T.setTop (mkF m pc' Ls St)) G) : Runs p e below (T.setTop (mkF m pc Ls (St))) G := by
  exact X.step (fun _ hx hb' _ hown _ S t q => XS.goto S.here hx rfl rfl (hb hb' hd) ho hp q) k
theorem Here.ifYes (X : Here p l e R s m args below meth c y bytes maxL ret Z h0 ws T cells slots h) {pc pc' : Nat} {Ls : Array Slot} {St : List Value} {o : Int} {cd : ClassFile.Cond} {a : Int32} (hd : decode bytes pc = .ok (.ifCond cd o, 3)) (hc : if_icmp.holds cd a 0 = true) (ho : 0 ≤ (pc : Int) + o) (hp : ((pc : Int) + o).toNat = pc') (k : Runs p e below (T.setTop (mkF m pc' Ls St)) G) : Runs p e below (T.setTop (mkF m pc Ls (.int a :: St))) G := by
  exact X.step (fun _ hx hb' _ hown _ S t q => XS.ifYes S.here hx rfl rfl (hb hb' hd) rfl ((if0 _ _).trans hc) ho hp q) k
theorem Here.icmpYes (X : Here p l e R s m args below meth c y bytes maxL ret Z h0 ws T cells slots h) {pc pc' : Nat} {Ls : Array Slot} {St : List Value} {o : Int} {cd : ClassFile.Cond} {a b : Int32} (hd : decode bytes pc = .ok (.if_icmp cd o, 3)) (hc : if_icmp.holds cd a b = true) (ho : 0 ≤ (pc : Int) + o) (hp : ((pc : Int) + o).toNat = pc') (k : Runs p e below (T.setTop (mkF m pc' Ls St)) G) : Runs p e below (T.setTop (mkF m pc Ls (.int b :: .int a :: St))) G := by
  exact X.step (fun _ hx hb' _ hown _ S t q => XS.icmpYes S.here hx rfl rfl (hb hb' hd) rfl hc ho hp q) k
theorem Here.ifnullYes (X : Here p l e R s m args below meth c y bytes maxL ret Z h0 ws T cells slots h) {pc pc' : Nat} {Ls : Array Slot} {St : List Value} {o : Int}  (hd : decode bytes pc = .ok (.ifnull o, 3))  (ho : 0 ≤ (pc : Int) + o) (hp : ((pc : Int) + o).toNat = pc') (k : Runs p e below (T.setTop (mkF m pc' Ls St)) G) : Runs p e below (T.setTop (mkF m pc Ls (.null :: St))) G := by
  exact X.step (fun _ hx hb' _ hown _ S t q => XS.ifnullYes S.here hx rfl rfl (hb hb' hd) rfl ho hp q) k
theorem Here.ifnonnullYes (X : Here p l e R s m args below meth c y bytes maxL ret Z h0 ws T cells slots h) {pc pc' : Nat} {Ls : Array Slot} {St : List Value} {o : Int} {b : Addr} (hd : decode bytes pc = .ok (.ifnonnull o, 3))  (ho : 0 ≤ (pc : Int) + o) (hp : ((pc : Int) + o).toNat = pc') (k : Runs p e below (T.setTop (mkF m pc' Ls St)) G) : Runs p e below (T.setTop (mkF m pc Ls (.ref b :: St))) G := by
  exact X.step (fun _ hx hb' _ hown _ S t q => XS.ifnonnullYes S.here hx rfl rfl (hb hb' hd) rfl ho hp q) k
theorem Here.ifNo (X : Here p l e R s m args below meth c y bytes maxL ret Z h0 ws T cells slots h) {pc pc' : Nat} {Ls : Array Slot} {St : List Value} {o : Int} {cd : ClassFile.Cond} {a : Int32} (hd : decode bytes pc = .ok (.ifCond cd o, 3)) (hc : if_icmp.holds cd a 0 = false) (hp : pc + 3 = pc') (k : Runs p e below (T.setTop (mkF m pc' Ls (St))) G) : Runs p e below (T.setTop (mkF m pc Ls (.int a :: St))) G := by
  subst hp
  exact X.step (fun _ hx hb' _ hown _ S t q => XS.ifNo S.here hx rfl (hb hb' hd) rfl ((if0 _ _).trans hc) q) k
theorem Here.icmpNo (X : Here p l e R s m args below meth c y bytes maxL ret Z h0 ws T cells slots h) {pc pc' : Nat} {Ls : Array Slot} {St : List Value} {o : Int} {cd : ClassFile.Cond} {a b : Int32} (hd : decode bytes pc = .ok (.if_icmp cd o, 3)) (hc : if_icmp.holds cd a b = false) (hp : pc + 3 = pc') (k : Runs p e below (T.setTop (mkF m pc' Ls (St))) G) : Runs p e below (T.setTop (mkF m pc Ls (.int b :: .int a :: St))) G := by
  subst hp
  exact X.step (fun _ hx hb' _ hown _ S t q => XS.icmpNo S.here hx rfl (hb hb' hd) rfl hc q) k
theorem Here.ifnullNo (X : Here p l e R s m args below meth c y bytes maxL ret Z h0 ws T cells slots h) {pc pc' : Nat} {Ls : Array Slot} {St : List Value} {o : Int} {b : Addr} (hd : decode bytes pc = .ok (.ifnull o, 3))  (hp : pc + 3 = pc') (k : Runs p e below (T.setTop (mkF m pc' Ls (St))) G) : Runs p e below (T.setTop (mkF m pc Ls (.ref b :: St))) G := by
  subst hp
  exact X.step (fun _ hx hb' _ hown _ S t q => XS.ifnullNo S.here hx rfl (hb hb' hd) rfl q) k
theorem Here.ifnonnullNo (X : Here p l e R s m args below meth c y bytes maxL ret Z h0 ws T cells slots h) {pc pc' : Nat} {Ls : Array Slot} {St : List Value} {o : Int} (hd : decode bytes pc = .ok (.ifnonnull o, 3))  (hp : pc + 3 = pc') (k : Runs p e below (T.setTop (mkF m pc' Ls (St))) G) : Runs p e below (T.setTop (mkF m pc Ls (.null :: St))) G := by
  subst hp
  exact X.step (fun _ hx hb' _ hown _ S t q => XS.ifnonnullNo S.here hx rfl (hb hb' hd) rfl q) k
theorem Here.acmp (X : Here p l e R s m args below meth c y bytes maxL ret Z h0 ws T cells slots h) {pc pc' : Nat} {Ls : Array Slot} {St : List Value} {o : Int} {cd : ACond} {u v : Value} {same : Bool} (hd : decode bytes pc = .ok (.if_acmp cd o, 3)) (hu : u.isRef = true) (hv : v.isRef = true) (hq : decide (u = v) = same) (ho : 0 ≤ (pc : Int) + o) (hp : pc' = if acV cd same = true then ((pc : Int) + o).toNat else pc + 3) (k : Runs p e below (T.setTop (mkF m pc' Ls St)) G) : Runs p e below (T.setTop (mkF m pc Ls (v :: u :: St))) G := by
  exact X.step (fun _ hx hb' _ hown _ S t q => Jvm.RoadKit.acmp (g := mkF m pc Ls (v :: u :: St)) S hx rfl hu hv rfl (hb hb' hd) rfl hq ho hp q) k
theorem Here.getfield (X : Here p l e R s m args below meth c y bytes maxL ret Z h0 ws T cells slots h) {pc pc' : Nat} {Ls : Array Slot} {St : List Value} {R0 O n d host : String} {i : Nat} {a : Addr} {v : Value} (w : (Jvm.Cond.fieldLink y.cls i R0 n d).before a0 Z = true ∨ (Jvm.Cond.fieldLinkNest y.cls i R0 n d host).before a0 Z = true) (via : Via Z R0 O n d) (F : Fld Z h a O n d v) (hd : decode bytes pc = .ok (.getfield i, 3)) (hp : pc + 3 = pc')
    (k : ∀ T', Here p l e R s m args below meth c y bytes maxL ret Z h0 ws T' cells slots h → Runs p e below (T'.setTop (mkF m pc' Ls (v :: St))) G) : Runs p e below (T.setTop (mkF m pc Ls (.ref a :: St))) G := by
  subst hp
  exact X.stepT (fun _ hx hb' _ hZ hown eT S => getF S hx hZ hown w via eT F (g := mkF m pc Ls (.ref a :: St)) rfl rfl (hb hb' hd)) k
theorem Here.getstatic (X : Here p l e R s m args below meth c y bytes maxL ret Z h0 ws T cells slots h) {pc pc' : Nat} {Ls : Array Slot} {St : List Value} {R0 O n d host : String} {i : Nat} {v : Value} (w : (Jvm.Cond.fieldLink y.cls i R0 n d).before a0 Z = true ∨ (Jvm.Cond.fieldLinkNest y.cls i R0 n d host).before a0 Z = true) (via : Via Z R0 O n d) (F : Sta Z h O n d v) (hd : decode bytes pc = .ok (.getstatic i, 3)) (hp : pc + 3 = pc')
    (k : ∀ T', Here p l e R s m args below meth c y bytes maxL ret Z h0 ws T' cells slots h → Runs p e below (T'.setTop (mkF m pc' Ls (v :: St))) G) : Runs p e below (T.setTop (mkF m pc Ls St)) G := by
  subst hp
  exact X.stepT (fun _ hx hb' _ hZ hown eT S => getS2 S hx hZ hown w via eT F (g := mkF m pc Ls St) rfl (hb hb' hd)) k
theorem Here.putfield (X : Here p l e R s m args below meth c y bytes maxL ret Z h0 ws T cells slots h) {pc pc' : Nat} {Ls : Array Slot} {St : List Value} {R0 O n d host C : String} {i kk : Nat} {ty : FieldType} {a : Addr} {v old : Value} (w : (Jvm.Cond.fieldLink y.cls i R0 n d).before a0 Z = true ∨ (Jvm.Cond.fieldLinkNest y.cls i R0 n d host).before a0 Z = true) (via : Via Z R0 O n d) (F : Fld Z h a O n d old) (E : Exa Z h a C)
    (L : (Jvm.Cond.lays C O n d).before a0 Z = true ∨ ((Jvm.Cond.laysFinal C O n d).before a0 Z = true ∧ y.cls = O ∧ y.name = "<init>")) (wi : (Jvm.Cond.instantiable C kk).before a0 Z = true) (hty : parseFieldDescriptor d = some ty) (hn : narrow ty v = v) (hf : fits ty v = true) (hd : decode bytes pc = .ok (.putfield i, 3)) (hp : pc + 3 = pc') (hws : a ∈ ws ∨ h0.size ≤ a)
    (k : ∀ T' h', Here p l e R s m args below meth c y bytes maxL ret Z h0 ws T' cells slots h' → Wr h h' a (Jvm.RoadKit.slotOf Z O n d) v → Runs p e below (T'.setTop (mkF m pc' Ls St)) G) : Runs p e below (T.setTop (mkF m pc Ls (v :: .ref a :: St))) G := by
  subst hp
  exact X.stepW hws (fun _ hx hb' hnm hZ hown eT S => putF S hx hZ hown w via eT F E (L.imp id fun q => ⟨q.1, q.2.1, hnm.trans q.2.2⟩) wi hty hn hf (g := mkF m pc Ls (v :: .ref a :: St)) rfl rfl (hb hb' hd)) k
theorem Here.putfieldN (X : Here p l e R s m args below meth c y bytes maxL ret Z h0 ws T cells slots h) {pc pc' : Nat} {Ls : Array Slot} {St : List Value} {R0 O n d C : String} {i kk : Nat} {ty : FieldType} {a : Addr} {v v' old : Value} (w : (Jvm.Cond.fieldLink y.cls i R0 n d).before a0 Z = true) (via : Via Z R0 O n d) (F : Fld Z h a O n d old) (E : Exa Z h a C)
    (L : (Jvm.Cond.lays C O n d).before a0 Z = true ∨ ((Jvm.Cond.laysFinal C O n d).before a0 Z = true ∧ y.cls = O ∧ y.name = "<init>")) (wi : (Jvm.Cond.instantiable C kk).before a0 Z = true) (hty : parseFieldDescriptor d = some ty) (hn : narrow ty v = v') (hf : fits ty v' = true) (hd : decode bytes pc = .ok (.putfield i, 3)) (hp : pc + 3 = pc') (hws : a ∈ ws ∨ h0.size ≤ a)
    (k : ∀ T' h', Here p l e R s m args below meth c y bytes maxL ret Z h0 ws T' cells slots h' → Wr h h' a (Jvm.RoadKit.slotOf Z O n d) v' → Runs p e below (T'.setTop (mkF m pc' Ls St)) G) : Runs p e below (T.setTop (mkF m pc Ls (v :: .ref a :: St))) G := by
  subst hp
  exact X.stepW hws (fun _ hx hb' hnm hZ hown eT S => putFN S hx hZ hown w via eT F E (L.imp id fun q => ⟨q.1, q.2.1, hnm.trans q.2.2⟩) wi hty hn hf (g := mkF m pc Ls (v :: .ref a :: St)) rfl rfl (hb hb' hd)) k
theorem Here.new (X : Here p l e R s m args below meth c y bytes maxL ret Z h0 ws T cells slots h) {pc pc' : Nat} {Ls : Array Slot} {St : List Value} {C : String} {i n : Nat} (w : (Jvm.Cond.classLink y.cls i C).before a0 Z = true) (wi : (Jvm.Cond.instantiable C n).before a0 Z = true) (wz : (Jvm.Cond.initialized C).before a0 Z = true) (hd : decode bytes pc = .ok (.new i, 3)) (hp : pc + 3 = pc') (hc : cells + 1 ≤ R.cells) (hl : slots + n ≤ R.slots)
    (k : ∀ T' h' b, Here p l e R s m args below meth c y bytes maxL ret Z h0 ws T' (cells + 1) (slots + n) h' → b = h.size → Ext h h' → Exa Z h' b C → (∀ {O nm d : String} {ty : FieldType}, Laid Z a0 C O nm d → parseFieldDescriptor d = some ty → Fld Z h' b O nm d (defaultValue ty)) → Runs p e below (T'.setTop (mkF m pc' Ls (.ref b :: St))) G) : Runs p e below (T.setTop (mkF m pc Ls St)) G := by
  subst hp
  obtain ⟨⟨x1, x2, x3, x4, x5, x6, x7, x8⟩, x9, x10, locs, S, N⟩ := X
  obtain ⟨T', h', S', e', E, A, D, -, st⟩ := newO S x1 x2 x5 w wi wz x9 (g := mkF m pc Ls St) rfl (hb x3 hd) hc hl
  exact (k T' h' _ ⟨⟨x1, x2, x3, x4, x5, x6, x7, x8⟩, e', x10.ext E, _, S', N⟩ rfl E A D).of st
theorem Here.initObj (X : Here p l e R s m args below meth c y bytes maxL ret Z h0 ws T cells slots h) {pc pc' : Nat} {Ls : Array Slot} {St : List Value} {i : Nat} {a : Addr} (w1 : (Jvm.Cond.methodLink y.cls i Lib.objectInit).before a0 Z = true) (w2 : (Jvm.Cond.instanceMethod Lib.objectInit).before a0 Z = true) (w3 : (Jvm.Cond.code Lib.objectInit ⟨#[0xb1]⟩ 1 none).before a0 Z = true) (hsz : Ls.size = maxL) (hd : decode bytes pc = .ok (.invokespecial i, 3)) (hp : pc + 3 = pc') (hf : 1 ≤ R.frames) {W : Nat} (hW : (St.map fun v => v.category).sum = W) (hl : W + 12 ≤ R.locals)
    (k : ∀ T', Here p l e R s m args below meth c y bytes maxL ret Z h0 ws T' cells slots h → Runs p e below (T'.setTop (mkF m pc' Ls St)) G) : Runs p e below (T.setTop (mkF m pc Ls (.ref a :: St))) G := by
  subst hp
  exact X.stepT (fun _ hx hb' hml hZ hown eT S => initO S hx hZ hown w1 w2 w3 eT (g := mkF m pc Ls (.ref a :: St)) rfl (hsz.trans hml.symm) rfl (hb hb' hd) hf (W := W) (by show 2 * 0 + _ ≤ _; rw [hW]; omega) hl) k
theorem Here.castYes (X : Here p l e R s m args below meth c y bytes maxL ret Z h0 ws T cells slots h) {pc pc' : Nat} {Ls : Array Slot} {St : List Value} {K : String} {i : Nat} {a : Addr} (w : (Jvm.Cond.classLink y.cls i K).before a0 Z = true) (F : Jvm.RoadKit.Ins Z h a K true) (hd : decode bytes pc = .ok (.checkcast i, 3)) (hp : pc + 3 = pc')
    (k : ∀ T', Here p l e R s m args below meth c y bytes maxL ret Z h0 ws T' cells slots h → Runs p e below (T'.setTop (mkF m pc' Ls (.ref a :: St))) G) : Runs p e below (T.setTop (mkF m pc Ls (.ref a :: St))) G := by
  subst hp
  exact X.stepT (fun _ hx hb' _ hZ hown eT S => castY S hx hZ hown w eT F (g := mkF m pc Ls (.ref a :: St)) rfl rfl (hb hb' hd)) k
theorem Here.instYes (X : Here p l e R s m args below meth c y bytes maxL ret Z h0 ws T cells slots h) {pc pc' : Nat} {Ls : Array Slot} {St : List Value} {K : String} {i : Nat} {a : Addr} (w : (Jvm.Cond.classLink y.cls i K).before a0 Z = true) (F : Jvm.RoadKit.Ins Z h a K true) (hd : decode bytes pc = .ok (.instanceof i, 3)) (hp : pc + 3 = pc')
    (k : ∀ T', Here p l e R s m args below meth c y bytes maxL ret Z h0 ws T' cells slots h → Runs p e below (T'.setTop (mkF m pc' Ls (.int (1 : Int32) :: St))) G) : Runs p e below (T.setTop (mkF m pc Ls (.ref a :: St))) G := by
  subst hp
  exact X.stepT (fun _ hx hb' _ hZ hown eT S => instY S hx hZ hown w eT F (g := mkF m pc Ls (.ref a :: St)) rfl rfl (hb hb' hd)) k
theorem Here.instNo (X : Here p l e R s m args below meth c y bytes maxL ret Z h0 ws T cells slots h) {pc pc' : Nat} {Ls : Array Slot} {St : List Value} {C K : String} {i : Nat} {a : Addr} (w : (Jvm.Cond.classLink y.cls i K).before a0 Z = true) (E : Exa Z h a C) (F : ∃ c t, Z.vm.findClass C = some c ∧ Z.vm.findClass K = some t ∧ Z.vm.assignable c t = false) (hd : decode bytes pc = .ok (.instanceof i, 3)) (hp : pc + 3 = pc')
    (k : ∀ T', Here p l e R s m args below meth c y bytes maxL ret Z h0 ws T' cells slots h → Runs p e below (T'.setTop (mkF m pc' Ls (.int (0 : Int32) :: St))) G) : Runs p e below (T.setTop (mkF m pc Ls (.ref a :: St))) G := by
  subst hp
  exact X.stepT (fun _ hx hb' _ hZ hown eT S => Jvm.RoadKit.instNo S hx hZ hown w eT E F (g := mkF m pc Ls (.ref a :: St)) rfl rfl (hb hb' hd)) k
theorem Here.checkcastNull (X : Here p l e R s m args below meth c y bytes maxL ret Z h0 ws T cells slots h) {pc pc' : Nat} {Ls : Array Slot} {St : List Value} {i : Nat} (hd : decode bytes pc = .ok (.checkcast i, 3)) (hp : pc + 3 = pc') (k : Runs p e below (T.setTop (mkF m pc' Ls (.null :: St))) G) : Runs p e below (T.setTop (mkF m pc Ls (.null :: St))) G := by
  subst hp
  exact X.step (fun _ hx hb' _ _ _ S t q => S.checkcastNull hx (g := mkF m pc Ls (.null :: St)) rfl rfl (hb hb' hd) t q) k
theorem Here.instanceofNull (X : Here p l e R s m args below meth c y bytes maxL ret Z h0 ws T cells slots h) {pc pc' : Nat} {Ls : Array Slot} {St : List Value} {i : Nat} (hd : decode bytes pc = .ok (.instanceof i, 3)) (hp : pc + 3 = pc') (k : Runs p e below (T.setTop (mkF m pc' Ls (.int (0 : Int32) :: St))) G) : Runs p e below (T.setTop (mkF m pc Ls (.null :: St))) G := by
  subst hp
  exact X.step (fun _ hx hb' _ _ _ S t q => S.instanceofNull hx (g := mkF m pc Ls (.null :: St)) rfl rfl (hb hb' hd) t q) k
theorem Here.aaload (X : Here p l e R s m args below meth c y bytes maxL ret Z h0 ws T cells slots h) {pc pc' : Nat} {Ls : Array Slot} {St : List Value} {a : Addr} {cl : Cell} {ty : FieldType} {j : Int32} {v : Value} (A : Arr Z h a cl ty) (hty : ty.isReference = true) (hj : ¬ (j < 0 ∨ cl.slots.size ≤ j.toNatClampNeg)) (hv : cl.slots[j.toNatClampNeg]? = some v) (hd : decode bytes pc = .ok (.aaload, 1)) (hp : pc + 1 = pc')
    (k : Runs p e below (T.setTop (mkF m pc' Ls (v :: St))) G) : Runs p e below (T.setTop (mkF m pc Ls (.int j :: .ref a :: St))) G := by
  subst hp
  exact X.step (fun _ hx hb' hZ _ eT S t q => S.aaload hx (j := j) (v := v) (by rw [eT]; exact A.1) (State.isArrayOf_alike hZ.alike A.2.1) hty A.2.2 hj hv (g := mkF m pc Ls (.int j :: .ref a :: St)) rfl rfl (hb hb' hd) t q) k
theorem sta_keep0 {C n d : String} {v : Value} {h' : Heap} (F : Sta Z h C n d v) (K : Keep h h' []) : Sta Z h' C n d v := by
  obtain ⟨cf, i, k, f, st, cell, h1, h2, h3, h4, h5, r⟩ := F
  exact ⟨cf, i, k, f, st, cell, h1, h2, h3, h4, K.2.1 _ _ h5 nin0, r⟩
theorem arr_keep0 {a : Addr} {cl : Cell} {ty : FieldType} {h' : Heap} (F : Arr Z h a cl ty) (K : Keep h h' []) : Arr Z h' a cl ty := ⟨K.2.1 _ _ F.1 nin0, F.2⟩
theorem allWs0 {P : Addr → Prop} : ∀ x ∈ ([] : List Addr), P x := fun _ q => nomatch q
/-! arrays: the list of their values -/
/-- the array at a holds just these values -/
def Lst (Z : State) (h : Heap) (a : Addr) (ty : FieldType) (vs : List Value) : Prop := ∃ cl : Cell, Arr Z h a cl ty ∧ cl.slots = vs.toArray ∧ vs.length < 2 ^ 31
section L
variable {a b : Addr} {ty : FieldType} {vs : List Value} {h' : Heap} {sl : Nat} {v : Value} {ws' : List Addr} {C' : String}
theorem Lst.lt (F : Lst Z h a ty vs) : a < h.size := by obtain ⟨c, A, -⟩ := F; exact A.lt
theorem Lst.len (F : Lst Z h a ty vs) : vs.length < 2 ^ 31 := by obtain ⟨c, A, -, q⟩ := F; exact q
theorem Lst.ext (F : Lst Z h a ty vs) (E : Ext h h') : Lst Z h' a ty vs := by obtain ⟨c, A, r⟩ := F; exact ⟨c, A.ext E, r⟩
theorem Lst.other (F : Lst Z h b ty vs) (W : Wr h h' a sl v) (q : b ≠ a) : Lst Z h' b ty vs := by obtain ⟨c, A, r⟩ := F; exact ⟨c, A.other W q, r⟩
theorem Lst.keep (F : Lst Z h a ty vs) (K : Keep h h' ws') (q : a ∉ ws') : Lst Z h' a ty vs := by obtain ⟨c, A, r⟩ := F; exact ⟨c, ⟨K.2.1 a c A.1 q, A.2⟩, r⟩
theorem Lst.set (F : Lst Z h a ty vs) (W : Wr h h' a sl v) : Lst Z h' a ty (vs.set sl v) := by
  obtain ⟨c, A, r, q⟩ := F
  exact ⟨_, A.same W, by simp [Cell.setSlot, r], by simpa using q⟩
theorem Lst.ne (F : Lst Z h a ty vs) (wi : (Jvm.Cond.instantiable C' sl).before a0 Z = true) (G : Exa Z h b C') : b ≠ a := by obtain ⟨c, A, -⟩ := F; exact ne_arr G wi A
end L
/-- the place j lies inside a list -/
def Inb (j : Int32) (n : Nat) : Prop := 0 ≤ j.toInt ∧ j.toInt < (n : Int)
theorem nat_of_ins {j : Int32} {n : Nat} (q : Inb j n) : j.toNatClampNeg = j.toInt.toNat ∧ j.toInt.toNat < n ∧ ¬ j < 0 := by
  obtain ⟨q1, q2⟩ := q
  refine ⟨rfl, by omega, fun z => ?_⟩
  have : j.toInt < (0 : Int32).toInt := Int32.lt_iff_toInt_lt.mp z
  simp at this; omega
theorem in_of_ins {cl : Cell} {vs : List Value} {j : Int32} (r : cl.slots = vs.toArray) (q : Inb j vs.length) : ¬ (j < 0 ∨ cl.slots.size ≤ j.toNatClampNeg) := by
  obtain ⟨q1, q2, q3⟩ := nat_of_ins q
  rw [q1, r]; simp only [List.size_toArray]; intro z; rcases z with z | z
  · exact q3 z
  · omega
theorem at_of_ins {cl : Cell} {vs : List Value} {j : Int32} {v : Value} (r : cl.slots = vs.toArray) (hv : vs[j.toInt.toNat]? = some v) : cl.slots[j.toNatClampNeg]? = some v := by
  rw [r]; exact (by simpa using hv : vs.toArray[j.toInt.toNat]? = some v)
theorem Here.newarray (X : Here p l e R s m args below meth c y bytes maxL ret Z h0 ws T cells slots h) {pc pc' : Nat} {Ls : Array Slot} {St : List Value} {aty : ArrayType} {ty : FieldType} {n : Int32} (hty : newarray.typeOf aty = ty) (w : (Jvm.Cond.arrayClass ty).before a0 Z = true) (hd : decode bytes pc = .ok (.newarray aty, 2)) (hp : pc + 2 = pc') {cap : Nat} (hn : Inb n (cap + 1)) (hb8 : cap * 8 ≤ 536870912) (hc : cells + 1 ≤ R.cells) (hl : slots + cap ≤ R.slots)
    (k : ∀ T' h' b, Here p l e R s m args below meth c y bytes maxL ret Z h0 ws T' (cells + 1) (slots + cap) h' → b = h.size → Ext h h' → Lst Z h' b ty (List.replicate n.toInt.toNat (defaultValue ty)) → Runs p e below (T'.setTop (mkF m pc' Ls (.ref b :: St))) G) : Runs p e below (T.setTop (mkF m pc Ls (.int n :: St))) G := by
  subst hp; subst hty
  obtain ⟨n1, n2, n3⟩ := nat_of_ins hn
  obtain ⟨⟨x1, x2, x3, x4, x5, x6, x7, x8⟩, x9, x10, locs, S, N⟩ := X
  obtain ⟨T', h', cA, S', e', E, A, st⟩ := newP S x1 x2 w x9 (g := mkF m pc Ls (.int n :: St)) rfl (hb x3 hd) rfl n3 (cap := cap) (by rw [n1]; omega) hb8 hc hl
  exact (k T' h' _ ⟨⟨x1, x2, x3, x4, x5, x6, x7, x8⟩, e', x10.ext E, _, S', N⟩ rfl E ⟨_, A, by show Array.replicate n.toNatClampNeg _ = _; rw [n1, List.toArray_replicate], by rw [List.length_replicate]; omega⟩).of st
theorem Here.arraylength (X : Here p l e R s m args below meth c y bytes maxL ret Z h0 ws T cells slots h) {pc pc' : Nat} {Ls : Array Slot} {St : List Value} {a : Addr} {ty : FieldType} {vs : List Value} {n : Int32} (F : Lst Z h a ty vs) (hn : vs.length.toInt32 = n) (hd : decode bytes pc = .ok (.arraylength, 1)) (hp : pc + 1 = pc')
    (k : Runs p e below (T.setTop (mkF m pc' Ls (.int n :: St))) G) : Runs p e below (T.setTop (mkF m pc Ls (.ref a :: St))) G := by
  subst hp
  obtain ⟨cl, A, r, -⟩ := F
  exact X.step (fun _ hx hb' hZ _ eT S t q => S.arraylength hx (by rw [eT]; exact A.1) (State.isArrayOf_alike hZ.alike A.2.1) (g := mkF m pc Ls (.ref a :: St)) rfl rfl (hb hb' hd) t (by rw [r, List.size_toArray, hn]; exact q)) k
theorem Here.iaload (X : Here p l e R s m args below meth c y bytes maxL ret Z h0 ws T cells slots h) {pc pc' : Nat} {Ls : Array Slot} {St : List Value} {a : Addr} {vs : List Value} {j : Int32} {v : Value} (F : Lst Z h a .int vs) (hj : Inb j vs.length) (hv : vs[j.toInt.toNat]? = some v) (hd : decode bytes pc = .ok (.iaload, 1)) (hp : pc + 1 = pc')
    (k : Runs p e below (T.setTop (mkF m pc' Ls (v :: St))) G) : Runs p e below (T.setTop (mkF m pc Ls (.int j :: .ref a :: St))) G := by
  subst hp
  obtain ⟨cl, A, r, -⟩ := F
  exact X.step (fun _ hx hb' hZ _ eT S t q => S.iaload hx (j := j) (v := v) (by rw [eT]; exact A.1) (State.isArrayOf_alike hZ.alike A.2.1) A.2.2 (in_of_ins r hj) (at_of_ins r hv) (g := mkF m pc Ls (.int j :: .ref a :: St)) rfl rfl (hb hb' hd) t q) k
theorem Here.laload (X : Here p l e R s m args below meth c y bytes maxL ret Z h0 ws T cells slots h) {pc pc' : Nat} {Ls : Array Slot} {St : List Value} {a : Addr} {vs : List Value} {j : Int32} {v : Value} (F : Lst Z h a .long vs) (hj : Inb j vs.length) (hv : vs[j.toInt.toNat]? = some v) (hd : decode bytes pc = .ok (.laload, 1)) (hp : pc + 1 = pc')
    (k : Runs p e below (T.setTop (mkF m pc' Ls (v :: St))) G) : Runs p e below (T.setTop (mkF m pc Ls (.int j :: .ref a :: St))) G := by
  subst hp
  obtain ⟨cl, A, r, -⟩ := F
  exact X.step (fun _ hx hb' hZ _ eT S t q => S.laload hx (j := j) (v := v) (by rw [eT]; exact A.1) (State.isArrayOf_alike hZ.alike A.2.1) A.2.2 (in_of_ins r hj) (at_of_ins r hv) (g := mkF m pc Ls (.int j :: .ref a :: St)) rfl rfl (hb hb' hd) t q) k
theorem Here.caload (X : Here p l e R s m args below meth c y bytes maxL ret Z h0 ws T cells slots h) {pc pc' : Nat} {Ls : Array Slot} {St : List Value} {a : Addr} {vs : List Value} {j : Int32} {v : Value} (F : Lst Z h a .char vs) (hj : Inb j vs.length) (hv : vs[j.toInt.toNat]? = some v) (hd : decode bytes pc = .ok (.caload, 1)) (hp : pc + 1 = pc')
    (k : Runs p e below (T.setTop (mkF m pc' Ls (v :: St))) G) : Runs p e below (T.setTop (mkF m pc Ls (.int j :: .ref a :: St))) G := by
  subst hp
  obtain ⟨cl, A, r, -⟩ := F
  exact X.step (fun _ hx hb' hZ _ eT S t q => S.caload hx (j := j) (v := v) (by rw [eT]; exact A.1) (State.isArrayOf_alike hZ.alike A.2.1) A.2.2 (in_of_ins r hj) (at_of_ins r hv) (g := mkF m pc Ls (.int j :: .ref a :: St)) rfl rfl (hb hb' hd) t q) k
theorem Here.baload (X : Here p l e R s m args below meth c y bytes maxL ret Z h0 ws T cells slots h) {pc pc' : Nat} {Ls : Array Slot} {St : List Value} {a : Addr} {vs : List Value} {j : Int32} {v : Value} (F : Lst Z h a .byte vs) (hj : Inb j vs.length) (hv : vs[j.toInt.toNat]? = some v) (hd : decode bytes pc = .ok (.baload, 1)) (hp : pc + 1 = pc')
    (k : Runs p e below (T.setTop (mkF m pc' Ls (v :: St))) G) : Runs p e below (T.setTop (mkF m pc Ls (.int j :: .ref a :: St))) G := by
  subst hp
  obtain ⟨cl, A, r, -⟩ := F
  exact X.step (fun _ hx hb' hZ _ eT S t q => S.baloadBytes hx (j := j) (v := v) (by rw [eT]; exact A.1) (State.isArrayOf_alike hZ.alike A.2.1) A.2.2 (in_of_ins r hj) (at_of_ins r hv) (g := mkF m pc Ls (.int j :: .ref a :: St)) rfl rfl (hb hb' hd) t q) k
theorem Here.iastore (X : Here p l e R s m args below meth c y bytes maxL ret Z h0 ws T cells slots h) {pc pc' : Nat} {Ls : Array Slot} {St : List Value} {a : Addr} {vs : List Value} {j : Int32} {x : Int32} (F : Lst Z h a .int vs) (hj : Inb j vs.length) (hd : decode bytes pc = .ok (.iastore, 1)) (hp : pc + 1 = pc') (hws : a ∈ ws ∨ h0.size ≤ a)
    (k : ∀ T' h', Here p l e R s m args below meth c y bytes maxL ret Z h0 ws T' cells slots h' → Wr h h' a j.toInt.toNat (.int x) → Runs p e below (T'.setTop (mkF m pc' Ls St)) G) : Runs p e below (T.setTop (mkF m pc Ls (.int x :: .int j :: .ref a :: St))) G := by
  subst hp
  obtain ⟨cl, A, r, -⟩ := F
  exact X.stepW hws (fun _ hx hb' _ hZ _ eT S => stI S hx hZ eT A (j := j) (in_of_ins r hj) (g := mkF m pc Ls (.int x :: .int j :: .ref a :: St)) rfl rfl (hb hb' hd)) k
theorem Here.lastore (X : Here p l e R s m args below meth c y bytes maxL ret Z h0 ws T cells slots h) {pc pc' : Nat} {Ls : Array Slot} {St : List Value} {a : Addr} {vs : List Value} {j : Int32} {x : Int64} (F : Lst Z h a .long vs) (hj : Inb j vs.length) (hd : decode bytes pc = .ok (.lastore, 1)) (hp : pc + 1 = pc') (hws : a ∈ ws ∨ h0.size ≤ a)
    (k : ∀ T' h', Here p l e R s m args below meth c y bytes maxL ret Z h0 ws T' cells slots h' → Wr h h' a j.toInt.toNat (.long x) → Runs p e below (T'.setTop (mkF m pc' Ls St)) G) : Runs p e below (T.setTop (mkF m pc Ls (.long x :: .int j :: .ref a :: St))) G := by
  subst hp
  obtain ⟨cl, A, r, -⟩ := F
  exact X.stepW hws (fun _ hx hb' _ hZ _ eT S => stJ S hx hZ eT A (j := j) (in_of_ins r hj) (g := mkF m pc Ls (.long x :: .int j :: .ref a :: St)) rfl rfl (hb hb' hd)) k
theorem Here.castore (X : Here p l e R s m args below meth c y bytes maxL ret Z h0 ws T cells slots h) {pc pc' : Nat} {Ls : Array Slot} {St : List Value} {a : Addr} {vs : List Value} {j : Int32} {x : Int32} (F : Lst Z h a .char vs) (hj : Inb j vs.length) (hd : decode bytes pc = .ok (.castore, 1)) (hp : pc + 1 = pc') (hws : a ∈ ws ∨ h0.size ≤ a)
    (k : ∀ T' h', Here p l e R s m args below meth c y bytes maxL ret Z h0 ws T' cells slots h' → Wr h h' a j.toInt.toNat (.int (nar .char x)) → Runs p e below (T'.setTop (mkF m pc' Ls St)) G) : Runs p e below (T.setTop (mkF m pc Ls (.int x :: .int j :: .ref a :: St))) G := by
  subst hp
  obtain ⟨cl, A, r, -⟩ := F
  exact X.stepW hws (fun _ hx hb' _ hZ _ eT S => stC S hx hZ eT A (j := j) (in_of_ins r hj) (g := mkF m pc Ls (.int x :: .int j :: .ref a :: St)) rfl rfl (hb hb' hd)) k
theorem Here.bastore (X : Here p l e R s m args below meth c y bytes maxL ret Z h0 ws T cells slots h) {pc pc' : Nat} {Ls : Array Slot} {St : List Value} {a : Addr} {vs : List Value} {j : Int32} {x : Int32} (F : Lst Z h a .byte vs) (hj : Inb j vs.length) (hd : decode bytes pc = .ok (.bastore, 1)) (hp : pc + 1 = pc') (hws : a ∈ ws ∨ h0.size ≤ a)
    (k : ∀ T' h', Here p l e R s m args below meth c y bytes maxL ret Z h0 ws T' cells slots h' → Wr h h' a j.toInt.toNat (.int x.toInt8.toInt32) → Runs p e below (T'.setTop (mkF m pc' Ls St)) G) : Runs p e below (T.setTop (mkF m pc Ls (.int x :: .int j :: .ref a :: St))) G := by
  subst hp
  obtain ⟨cl, A, r, -⟩ := F
  exact X.stepW hws (fun _ hx hb' _ hZ _ eT S => stB S hx hZ eT A (j := j) (in_of_ins r hj) (g := mkF m pc Ls (.int x :: .int j :: .ref a :: St)) rfl rfl (hb hb' hd)) k
/-! calls by a contract -/
variable {y' : MethodName} {bytes' : ByteArray} {maxL' : Nat} {ret' : Option FieldType} {rm : Room} {as : Array Value} {ws' : List Addr} {Q : Option Value → Heap → Prop}
theorem backCt (X : Here p l e R s m args below meth c y bytes maxL ret Z h0 ws T cells slots h) {len W : Nat} (hM : Ct l Z y' bytes' maxL' ret' rm as h ws' Q) (wc : (Jvm.Cond.code y' bytes' maxL' ret').before a0 Z = true) (wz : (Jvm.Cond.initialized y'.cls).before a0 Z = true) (hf : rm.frames + 1 ≤ R.frames) (hl : W + (maxL' + 11) + rm.locals ≤ R.locals) :
    Back l R p e below s args y' len W (fun A a => a = as ∧ A.U.heap = h ∧ A.cells + rm.cells ≤ R.cells ∧ A.slots + rm.slots ≤ R.slots)
      (fun A _ v B => ∃ L, (Q v B.U.heap ∧ Keep h B.U.heap ws' ∧ Wrote h ws' L) ∧ B.locs = A.locs ++ L ∧ B.cells = A.cells + rm.cells ∧ B.slots = A.slots + rm.slots) :=
  backOf (Q := fun v h' L => Q v h' ∧ Keep h h' ws' ∧ Wrote h ws' L) (hM []) X.hZ wc wz hf hl
theorem Here.back (X : Here p l e R s m args below meth c y bytes maxL ret Z h0 ws T cells slots h) {U : State} {locs : List Loc} {h' : Heap} {L : List Loc} (N : Wrote h0 ws locs) (hU : Stand p l e R s m args below meth c U (locs ++ L) (cells + rm.cells) (slots + rm.slots)) (e' : U.heap = h') (K : Keep h h' ws') (N' : Wrote h ws' L) (hws : ∀ x ∈ ws', x ∈ ws ∨ h0.size ≤ x) :
    Here p l e R s m args below meth c y bytes maxL ret Z h0 ws U (cells + rm.cells) (slots + rm.slots) h' :=
  ⟨X.1, e', X.keep.trans K hws, _, hU, N.app N' X.size hws⟩
theorem Here.callS (X : Here p l e R s m args below meth c y bytes maxL ret Z h0 ws T cells slots h) {pc pc' : Nat} {Ls : Array Slot} {St : List Value} {i : Nat} {sig : MethodDescriptor} {argsL rest : List Value} (hM : Ct l Z y' bytes' maxL' ret' rm as h ws' Q) (w1 : (Jvm.Cond.methodLink y.cls i y').before a0 Z = true) (w2 : (Jvm.Cond.static y').before a0 Z = true) (w3 : (Jvm.Cond.initialized y'.cls).before a0 Z = true) (w4 : (Jvm.Cond.code y' bytes' maxL' ret').before a0 Z = true)
    (hy : y'.cls ≠ "java/lang/invoke/MethodHandle" ∧ y'.cls ≠ "java/lang/invoke/VarHandle") (hsig : parseMethodDescriptor y'.desc = some sig) (hlen : argsL.length = sig.parameters.length) (has : argsL.toArray = as) (hst : St = argsL.reverse ++ rest) (hsz : Ls.size = maxL) (hd : decode bytes pc = .ok (.invokestatic i, 3)) (hp : pc + 3 = pc')
    (hf : rm.frames + 1 ≤ R.frames) {W : Nat} (hW : (rest.map fun v => v.category).sum = W) (hl : W + (maxL' + 11) + rm.locals ≤ R.locals) (hc : cells + rm.cells ≤ R.cells) (hs : slots + rm.slots ≤ R.slots) (hws : ∀ x ∈ ws', x ∈ ws ∨ h0.size ≤ x)
    (k : ∀ T' h' v, Here p l e R s m args below meth c y bytes maxL ret Z h0 ws T' (cells + rm.cells) (slots + rm.slots) h' → Keep h h' ws' → Q v h' → Runs p e below (T'.setTop (mkF m pc' Ls (v.toList ++ rest))) G) : Runs p e below (T.setTop (mkF m pc Ls St)) G := by
  subst hp hst
  have X' := X
  obtain ⟨⟨x1, x2, x3, x4, x5, x6, x7, x8⟩, x9, x10, locs, S, N⟩ := X
  obtain ⟨v, vm₁, ⟨U, lo, ce, sl⟩, -, SU, ⟨Lc, hQ, z1, z2, z3⟩, st⟩ := Jvm.LawKit.callS S x1 (y := y') x5 (mvT x2 w1) (mvT x2 w2) (mvT x2 w3) (mvT x2 w4) hy (backCt X' hM w4 w3 hf hl) (g := mkF m pc Ls (argsL.reverse ++ rest)) rfl (hsz.trans x4.symm) (argsL := argsL) (rest := rest) (lenOf hsig hlen) rfl (by show 2 * 0 + _ ≤ _; rw [hW]; omega) (hb x3 hd) (fun _ _ => ⟨has, x9, hc, hs⟩)
  dsimp only [Pt.U, Pt.locs, Pt.cells, Pt.slots] at SU z1 z2 z3 st hQ
  subst z1 z2 z3
  exact (k U _ v (X'.back N SU rfl hQ.2.1 hQ.2.2 hws) hQ.2.1 hQ.1).of st
theorem Here.special (X : Here p l e R s m args below meth c y bytes maxL ret Z h0 ws T cells slots h) {pc pc' : Nat} {Ls : Array Slot} {St : List Value} {i : Nat} {sig : MethodDescriptor} {a : Addr} {argsL rest : List Value} (hM : Ct l Z y' bytes' maxL' none rm as h ws' Q) (hin : y'.name = "<init>") (w1 : (Jvm.Cond.methodLink y.cls i y').before a0 Z = true) (w2 : (Jvm.Cond.instanceMethod y').before a0 Z = true) (w3 : (Jvm.Cond.initialized y'.cls).before a0 Z = true) (w4 : (Jvm.Cond.code y' bytes' maxL' none).before a0 Z = true)
    (hy : y'.cls ≠ "java/lang/invoke/MethodHandle" ∧ y'.cls ≠ "java/lang/invoke/VarHandle") (hsig : parseMethodDescriptor y'.desc = some sig) (hlen : argsL.length = sig.parameters.length) (has : (.ref a :: argsL).toArray = as) (hst : St = argsL.reverse ++ .ref a :: rest) (hsz : Ls.size = maxL) (hd : decode bytes pc = .ok (.invokespecial i, 3)) (hp : pc + 3 = pc')
    (hf : rm.frames + 1 ≤ R.frames) {W : Nat} (hW : (rest.map fun v => v.category).sum = W) (hl : W + (maxL' + 11) + rm.locals ≤ R.locals) (hc : cells + rm.cells ≤ R.cells) (hs : slots + rm.slots ≤ R.slots) (hws : ∀ x ∈ ws', x ∈ ws ∨ h0.size ≤ x)
    (k : ∀ T' h' v, Here p l e R s m args below meth c y bytes maxL ret Z h0 ws T' (cells + rm.cells) (slots + rm.slots) h' → Keep h h' ws' → Q v h' → Runs p e below (T'.setTop (mkF m pc' Ls (v.toList ++ rest))) G) : Runs p e below (T.setTop (mkF m pc Ls St)) G := by
  subst hp hst
  have X' := X
  obtain ⟨⟨x1, x2, x3, x4, x5, x6, x7, x8⟩, x9, x10, locs, S, N⟩ := X
  obtain ⟨v, vm₁, ⟨U, lo, ce, sl⟩, -, SU, ⟨Lc, hQ, z1, z2, z3⟩, st⟩ := S.specialBack x1 (y := y') hin x5 (mvT x2 w1) (mvT x2 w2) (mvT x2 w4) hy (backCt X' hM w4 w3 hf hl) (g := mkF m pc Ls (argsL.reverse ++ .ref a :: rest)) rfl (hsz.trans x4.symm) (Steps.refl _) (a := a) (argsL := argsL) (rest := rest) (lenOf hsig hlen) rfl (by show 2 * 0 + _ ≤ _; rw [hW]; omega) (hb x3 hd) (fun _ _ => ⟨has, x9, hc, hs⟩)
  dsimp only [Pt.U, Pt.locs, Pt.cells, Pt.slots] at SU z1 z2 z3 st hQ
  subst z1 z2 z3
  exact (k U _ v (X'.back N SU rfl hQ.2.1 hQ.2.2 hws) hQ.2.1 hQ.1).via st
theorem Here.virtual (X : Here p l e R s m args below meth c y bytes maxL ret Z h0 ws T cells slots h) {pc pc' : Nat} {Ls : Array Slot} {St : List Value} {i : Nat} {yr : MethodName} {C : String} {sig : MethodDescriptor} {a : Addr} {argsL rest : List Value} (hM : Ct l Z y' bytes' maxL' ret' rm as h ws' Q) (w1 : (Jvm.Cond.methodLink y.cls i yr).before a0 Z = true) (w5 : (Jvm.Cond.declares yr).before a0 Z = true) (nf : ∀ args, (Jvm.Cond.selects C yr y').before args s = true → NotFace s yr) (w6 : (Jvm.Cond.selects C yr y').before a0 Z = true) (w2 : (Jvm.Cond.instanceMethod y').before a0 Z = true) (w3 : (Jvm.Cond.initialized y'.cls).before a0 Z = true) (w4 : (Jvm.Cond.code y' bytes' maxL' ret').before a0 Z = true)
    (hy : yr.cls ≠ "java/lang/invoke/MethodHandle" ∧ yr.cls ≠ "java/lang/invoke/VarHandle") (E : Exa Z h a C) (hsig : parseMethodDescriptor yr.desc = some sig) (hlen : argsL.length = sig.parameters.length) (has : (.ref a :: argsL).toArray = as) (hst : St = argsL.reverse ++ .ref a :: rest) (hsz : Ls.size = maxL) (hd : decode bytes pc = .ok (.invokevirtual i, 3)) (hp : pc + 3 = pc')
    (hf : rm.frames + 1 ≤ R.frames) {W : Nat} (hW : (rest.map fun v => v.category).sum = W) (hl : W + (maxL' + 11) + rm.locals ≤ R.locals) (hc : cells + rm.cells ≤ R.cells) (hs : slots + rm.slots ≤ R.slots) (hws : ∀ x ∈ ws', x ∈ ws ∨ h0.size ≤ x)
    (k : ∀ T' h' v, Here p l e R s m args below meth c y bytes maxL ret Z h0 ws T' (cells + rm.cells) (slots + rm.slots) h' → Keep h h' ws' → Q v h' → Runs p e below (T'.setTop (mkF m pc' Ls (v.toList ++ rest))) G) : Runs p e below (T.setTop (mkF m pc Ls St)) G := by
  subst hp hst
  have X' := X
  obtain ⟨⟨x1, x2, x3, x4, x5, x6, x7, x8⟩, x9, x10, locs, S, N⟩ := X
  obtain ⟨cq, kq, q1, q2, q3⟩ := isOf (T := T) x2 x9 E
  obtain ⟨v, vm₁, ⟨U, lo, ce, sl⟩, -, SU, ⟨Lc, hQ, z1, z2, z3⟩, st⟩ := S.virtualBack x1 (y := yr) (z := y') x5 (mvT x2 w1) (mvT x2 w5) (nf args (mvT x2 w6)) (mvT x2 w6) (mvT x2 w2) hy (backCt X' hM w4 w3 hf hl) q1 q3 (g := mkF m pc Ls (argsL.reverse ++ .ref a :: rest)) rfl (hsz.trans x4.symm) (Steps.refl _) (argsL := argsL) (rest := rest) (lenOf hsig hlen) rfl (by show 2 * 0 + _ ≤ _; rw [hW]; omega) (hb x3 hd) (fun _ _ => ⟨has, x9, hc, hs⟩)
  dsimp only [Pt.U, Pt.locs, Pt.cells, Pt.slots] at SU z1 z2 z3 st hQ
  subst z1 z2 z3
  exact (k U _ v (X'.back N SU rfl hQ.2.1 hQ.2.2 hws) hQ.2.1 hQ.1).via st
theorem Here.priv (X : Here p l e R s m args below meth c y bytes maxL ret Z h0 ws T cells slots h) {pc pc' : Nat} {Ls : Array Slot} {St : List Value} {i : Nat} {C : String} {sig : MethodDescriptor} {a : Addr} {argsL rest : List Value} (hM : Ct l Z y' bytes' maxL' ret' rm as h ws' Q) (w1 : (Jvm.Cond.methodLink y.cls i y').before a0 Z = true) (w6 : (Jvm.Cond.selects y'.cls y' y').before a0 Z = true) (w7 : (Jvm.Cond.privateMethod y').before a0 Z = true) (w2 : (Jvm.Cond.instanceMethod y').before a0 Z = true) (w3 : (Jvm.Cond.initialized y'.cls).before a0 Z = true) (w4 : (Jvm.Cond.code y' bytes' maxL' ret').before a0 Z = true)
    (hy : y'.cls ≠ "java/lang/invoke/MethodHandle" ∧ y'.cls ≠ "java/lang/invoke/VarHandle") (E : Exa Z h a C) (hsig : parseMethodDescriptor y'.desc = some sig) (hlen : argsL.length = sig.parameters.length) (has : (.ref a :: argsL).toArray = as) (hst : St = argsL.reverse ++ .ref a :: rest) (hsz : Ls.size = maxL) (hd : decode bytes pc = .ok (.invokevirtual i, 3)) (hp : pc + 3 = pc')
    (hf : rm.frames + 1 ≤ R.frames) {W : Nat} (hW : (rest.map fun v => v.category).sum = W) (hl : W + (maxL' + 11) + rm.locals ≤ R.locals) (hc : cells + rm.cells ≤ R.cells) (hs : slots + rm.slots ≤ R.slots) (hws : ∀ x ∈ ws', x ∈ ws ∨ h0.size ≤ x)
    (k : ∀ T' h' v, Here p l e R s m args below meth c y bytes maxL ret Z h0 ws T' (cells + rm.cells) (slots + rm.slots) h' → Keep h h' ws' → Q v h' → Runs p e below (T'.setTop (mkF m pc' Ls (v.toList ++ rest))) G) : Runs p e below (T.setTop (mkF m pc Ls St)) G := by
  subst hp hst
  have X' := X
  obtain ⟨⟨x1, x2, x3, x4, x5, x6, x7, x8⟩, x9, x10, locs, S, N⟩ := X
  obtain ⟨cq, q1, q2⟩ := E.cell
  obtain ⟨v, vm₁, ⟨U, lo, ce, sl⟩, -, SU, ⟨Lc, hQ, z1, z2, z3⟩, st⟩ := S.privateBack x1 (y := y') x5 (mvT x2 w1) (mvT x2 w2) (mvT x2 w6) (Cond.privateMethod_at (mvP x2 w7 (args := #[]))) (mvT x2 w4) hy (backCt X' hM w4 w3 hf hl) (g := mkF m pc Ls (argsL.reverse ++ .ref a :: rest)) rfl (hsz.trans x4.symm) (Steps.refl _) (a := a) (by rw [x9]; exact q1) q2 (argsL := argsL) (rest := rest) (lenOf hsig hlen) rfl (by show 2 * 0 + _ ≤ _; rw [hW]; omega) (hb x3 hd) (fun _ _ => ⟨has, x9, hc, hs⟩)
  dsimp only [Pt.U, Pt.locs, Pt.cells, Pt.slots] at SU z1 z2 z3 st hQ
  subst z1 z2 z3
  exact (k U _ v (X'.back N SU rfl hQ.2.1 hQ.2.2 hws) hQ.2.1 hQ.1).via st

/-! the returns -/
theorem Here.leave (X : Here p l e R s m args below meth c y bytes maxL ret Z h0 ws T cells slots h) {Q : Option Value → Heap → Prop} {rm : Room} {g : JFrame} {v : Option Value} (hv : ret = none → v = none) (hc : cells ≤ rm.cells) (hs : slots ≤ rm.slots) (hq : Q v h)
    (st : ∀ locs fs, p.tables.exec = Jvm.exec → c.code = bytes → meth.sig.returnType = ret → Stand p l e R s m args below meth c T locs cells slots → (∀ (f : JFrame) (acts : List Action), f.method = m → f.locked = none → f.entered = [] → (doReturn e (T.setTop f) acts v).1 = T.setFrames fs) → Steps p.tables e below (T.setTop g) (T.setFrames fs)) :
    Runs p e below (T.setTop g) (Out s h0 ws rm Q) := by
  obtain ⟨⟨x1, x2, x3, x4, x5, x6, x7, x8⟩, x9, x10, locs, S, N⟩ := X
  obtain ⟨fs, hr, hrun, hended, hW, hsame⟩ := S.leave (v := v) (fun h => hv (x7 ▸ h)) x8
  refine ⟨_, _, st locs fs x1 x3 x7 S hr, hrun, hended, v, locs, rfl, ⟨?_, ?_, N⟩, ⟨_, rfl⟩, hW, hsame.mono hc hs⟩
  · show Q v T.heap; rw [x9]; exact hq
  · show Keep h0 T.heap ws; rw [x9]; exact x10
theorem Here.ireturn (X : Here p l e R s m args below meth c y bytes maxL ret Z h0 ws T cells slots h) {Q : Option Value → Heap → Prop} {rm : Room} {pc : Nat} {Ls : Array Slot} {St : List Value} {z : Int32} (hr : ret = some .int) (hd : decode bytes pc = .ok (.ireturn, 1)) (hc : cells ≤ rm.cells) (hs : slots ≤ rm.slots) (hq : Q (some (.int z)) h) : Runs p e below (T.setTop (mkF m pc Ls (.int z :: St))) (Out s h0 ws rm Q) := by
  subst hr
  exact X.leave (fun h => nomatch h) hc hs hq fun _ _ hx hb' hret S hl => retOut S hx hret rfl (Or.inl ⟨rfl, Or.inl rfl, _, rfl⟩) (hb hb' hd) hl
theorem Here.zreturn (X : Here p l e R s m args below meth c y bytes maxL ret Z h0 ws T cells slots h) {Q : Option Value → Heap → Prop} {rm : Room} {pc : Nat} {Ls : Array Slot} {St : List Value} {z z' : Int32} {t : FieldType} (hr : ret = some t) (ht : t = .boolean ∨ t = .byte ∨ t = .char ∨ t = .short) (hd : decode bytes pc = .ok (.ireturn, 1)) (hz : nar t z = z') (hc : cells ≤ rm.cells) (hs : slots ≤ rm.slots) (hq : Q (some (.int z')) h) : Runs p e below (T.setTop (mkF m pc Ls (.int z :: St))) (Out s h0 ws rm Q) := by
  subst hr hz
  exact X.leave (fun h => nomatch h) hc hs hq fun _ _ hx hb' hret S hl => retN S hx hret ht (hb hb' hd) hl
theorem Here.lreturn (X : Here p l e R s m args below meth c y bytes maxL ret Z h0 ws T cells slots h) {Q : Option Value → Heap → Prop} {rm : Room} {pc : Nat} {Ls : Array Slot} {St : List Value} {z : Int64} (hr : ret = some .long) (hd : decode bytes pc = .ok (.lreturn, 1)) (hc : cells ≤ rm.cells) (hs : slots ≤ rm.slots) (hq : Q (some (.long z)) h) : Runs p e below (T.setTop (mkF m pc Ls (.long z :: St))) (Out s h0 ws rm Q) := by
  subst hr
  exact X.leave (fun h => nomatch h) hc hs hq fun _ _ hx hb' hret S hl => retOut S hx hret rfl (Or.inr (Or.inl ⟨rfl, rfl, _, rfl⟩)) (hb hb' hd) hl
theorem Here.areturn (X : Here p l e R s m args below meth c y bytes maxL ret Z h0 ws T cells slots h) {Q : Option Value → Heap → Prop} {rm : Room} {pc : Nat} {Ls : Array Slot} {St : List Value} {v : Value} {t : FieldType} (hr : ret = some t) (ht : t.isReference = true) (hv : v.isRef = true) (hn : narrow t v = v) (hd : decode bytes pc = .ok (.areturn, 1)) (hc : cells ≤ rm.cells) (hs : slots ≤ rm.slots) (hq : Q (some v) h) : Runs p e below (T.setTop (mkF m pc Ls (v :: St))) (Out s h0 ws rm Q) := by
  subst hr
  exact X.leave (fun h => nomatch h) hc hs hq fun _ _ hx hb' hret S hl => retOut S hx hret hn (Or.inr (Or.inr (Or.inr (Or.inr ⟨rfl, ht, hv⟩)))) (hb hb' hd) hl
theorem Here.vreturn (X : Here p l e R s m args below meth c y bytes maxL ret Z h0 ws T cells slots h) {Q : Option Value → Heap → Prop} {rm : Room} {pc : Nat} {Ls : Array Slot} (hr : ret = none) (hd : decode bytes pc = .ok (.return_, 1)) (hc : cells ≤ rm.cells) (hs : slots ≤ rm.slots) (hq : Q none h) : Runs p e below (T.setTop (mkF m pc Ls [])) (Out s h0 ws rm Q) := by
  subst hr
  exact X.leave (fun _ => rfl) hc hs hq fun _ _ hx hb' hret S hl => S.returnOut hx hret (hb hb' hd) hl
end B
end Jvm.Own
namespace Jvm.Own
open Jvm Jvm.ClassFile Sem Op Lib Jvm.Free Jvm.Stand Jvm.LawKit Jvm.RoadKit
section K
variable {Z : State} {h h' : Heap} {ws' : List Addr}
def Pln (h : Heap) (a : Addr) : Prop := ∃ c : Cell, h[a]? = some c ∧ c.vm.isStatics = false
theorem ext_trans {h1 h2 h3 : Heap} (a : Ext h1 h2) (b : Ext h2 h3) : Ext h1 h3 := ⟨Nat.le_trans a.1 b.1, fun x c q => b.2 x c (a.2 x c q)⟩
theorem ext_refl {h1 : Heap} : Ext h1 h1 := ⟨Nat.le_refl _, fun _ _ q => q⟩
theorem fld_inj {a : Addr} {C n d : String} {v w : Value} (F : Fld Z h a C n d v) (G : Fld Z h a C n d w) : v = w := by
  obtain ⟨c1, f1, k1, i1, g1, p1, p2, -, -, -, -, p7⟩ := F
  obtain ⟨c2, f2, k2, i2, g2, r1, r2, -, -, -, -, r7⟩ := G
  cases p1.symm.trans r1
  cases p2.symm.trans r2
  exact Option.some.inj (p7.symm.trans r7)
theorem ext_wr {hS : Heap} {x : Addr} {i : Nat} {v : Value} (E : Ext hS h) (W : Wr h h' x i v) (hx : hS.size ≤ x) : Ext hS h' := by
  obtain ⟨c0, -, -, -, e⟩ := W
  refine ⟨by rw [e]; simpa using E.1, fun a c q => ?_⟩
  have hl := (Array.getElem?_eq_some_iff.mp q).1
  rw [e, Array.getElem?_setIfInBounds, if_neg (by omega)]; exact E.2 a c q
theorem ks0 {hS : Heap} : ∀ x ∈ ([] : List Addr), hS.size ≤ x := fun _ q => nomatch q
theorem ksS {hS : Heap} {a : Addr} {l : List Addr} (ha : hS.size ≤ a) (t : ∀ x ∈ l, hS.size ≤ x) : ∀ x ∈ a :: l, hS.size ≤ x := fun x q => by
  rcases List.mem_cons.mp q with rfl | q
  · exact ha
  · exact t x q
theorem ext_keep {hS : Heap} (E : Ext hS h) (K : Keep h h' ws') (q : ∀ x ∈ ws', hS.size ≤ x) : Ext hS h' := by
  refine ⟨Nat.le_trans E.1 K.1, fun a c r => K.2.1 a c (E.2 a c r) fun z => ?_⟩
  have hl := (Array.getElem?_eq_some_iff.mp r).1
  have := q a z
  omega
theorem exa0 : ∀ x ∈ ([] : List Addr), Pln h x := fun _ q => nomatch q
theorem exaS {a : Addr} {l : List Addr} {C : String} (E : Exa Z h a C) (t : ∀ x ∈ l, Pln h x) : ∀ x ∈ a :: l, Pln h x := fun x q => by
  rcases List.mem_cons.mp q with rfl | q
  · obtain ⟨c, k, h1, -, -, h4, -⟩ := E; exact ⟨c, h1, h4⟩
  · exact t x q
theorem lstS {a : Addr} {l : List Addr} {ty : FieldType} {vs : List Value} (E : Lst Z h a ty vs) (t : ∀ x ∈ l, Pln h x) : ∀ x ∈ a :: l, Pln h x := fun x q => by
  rcases List.mem_cons.mp q with rfl | q
  · obtain ⟨c, A, -⟩ := E; exact ⟨c, A.1, A.plain⟩
  · exact t x q
theorem sta_keepL {C n d : String} {v : Value} (F : Sta Z h C n d v) (K : Keep h h' ws') (q : ∀ x ∈ ws', Pln h x) : Sta Z h' C n d v := by
  obtain ⟨cf, i, k, f, st, cell, h1, h2, h3, h4, h5, h6, h7⟩ := F
  refine ⟨cf, i, k, f, st, cell, h1, h2, h3, h4, K.2.1 _ _ h5 fun z => ?_, h6, h7⟩
  obtain ⟨c, c1, c2⟩ := q st z
  cases c1.symm.trans h5
  rw [h6] at c2; cases c2
end K
end Jvm.Own
namespace Jvm.Pilot.@@N@@
open Jvm Jvm.ClassFile Sem Op Lib Jvm.Free Jvm.Stand Jvm.LawKit Jvm.RoadKit Bundle Jvm.Own Jvm.Pilot.@@N@@.Jvm.D
abbrev y1 : MethodName := ⟨"com/example/rummage/rummage/CharSeekOpeningPinLaw", "copy", "([CI[IIII)V"⟩
abbrev y2 : MethodName := ⟨"com/example/rummage/rummage/SeekPlan", "forBlocks", "([I)Lcom/example/rummage/rummage/SeekPlan;"⟩
abbrev y3 : MethodName := ⟨"java/lang/Math", "min", "(II)I"⟩
abbrev y4 : MethodName := ⟨"com/example/rummage/rummage/SeekPlan", "<init>", "([III)V"⟩
abbrev y5 : MethodName := ⟨"com/example/rummage/rummage/SeekPlan", "rarest", "([IIIIZ)I"⟩
abbrev y6 : MethodName := ⟨"com/example/rummage/rummage/SeekPlan", "commonnessOf", "(I)I"⟩
abbrev y7 : MethodName := ⟨"com/example/rummage/rummage/SeekPlan", "<init>", "([IIII)V"⟩
abbrev y8 : MethodName := ⟨"java/lang/Object", "<init>", "()V"⟩
abbrev y9 : MethodName := ⟨"java/lang/String", "<init>", "([III)V"⟩
abbrev y10 : MethodName := ⟨"java/lang/String", "checkBoundsOffCount", "(III)I"⟩
abbrev y11 : MethodName := ⟨"jdk/internal/util/Preconditions", "checkFromIndexSize", "(IIILjava/util/function/BiFunction;)I"⟩
abbrev y12 : MethodName := ⟨"java/lang/StringUTF16", "compress", "([III)[B"⟩
abbrev y13 : MethodName := ⟨"java/lang/StringUTF16", "coderFromArrayLen", "([BI)B"⟩
abbrev y14 : MethodName := ⟨"com/example/rummage/rummage/SeekPlan", "standsAgain", "([III)Z"⟩
abbrev y15 : MethodName := ⟨"com/example/rummage/rummage/SeekPlan", "anchor", "()I"⟩
abbrev y16 : MethodName := ⟨"com/example/rummage/rummage/SeekPlan", "check", "()I"⟩
abbrev y17 : MethodName := ⟨"com/example/rummage/rummage/CharSeek", "<init>", "([I)V"⟩
abbrev y18 : MethodName := ⟨"com/example/rummage/rummage/SeekPlan", "firstIsRarer", "()Z"⟩
abbrev y19 : MethodName := ⟨"com/example/rummage/rummage/SeekPlan", "pairsCheck", "()Z"⟩
abbrev y20 : MethodName := ⟨"com/example/rummage/rummage/CharSeekOpeningPinLaw", "eq", "([CI[III)Z"⟩
abbrev y21 : MethodName := ⟨"com/example/rummage/rummage/CharSeek", "opening", "([CI)I"⟩
theorem pd_0 : parseMethodDescriptor "(I)I" = some ⟨[.int], some .int⟩ := by decide +kernel
theorem pd_1 : parseMethodDescriptor "(IIILjava/util/function/BiFunction;)I" = some ⟨[.int, .int, .int, (.object "java/util/function/BiFunction")], some .int⟩ := by decide +kernel
theorem pd_2 : parseMethodDescriptor "(III)I" = some ⟨[.int, .int, .int], some .int⟩ := by decide +kernel
theorem pd_3 : parseMethodDescriptor "([III)[B" = some ⟨[(.array .int), .int, .int], some (.array .byte)⟩ := by decide +kernel
theorem pd_4 : parseMethodDescriptor "([BI)B" = some ⟨[(.array .byte), .int], some .byte⟩ := by decide +kernel
theorem pd_5 : parseMethodDescriptor "([IIIIZ)I" = some ⟨[(.array .int), .int, .int, .int, .boolean], some .int⟩ := by decide +kernel
theorem pd_6 : parseMethodDescriptor "([III)V" = some ⟨[(.array .int), .int, .int], none⟩ := by decide +kernel
theorem pd_7 : parseMethodDescriptor "([III)Z" = some ⟨[(.array .int), .int, .int], some .boolean⟩ := by decide +kernel
theorem pd_8 : parseMethodDescriptor "([IIII)V" = some ⟨[(.array .int), .int, .int, .int], none⟩ := by decide +kernel
theorem pd_9 : parseMethodDescriptor "(II)I" = some ⟨[.int, .int], some .int⟩ := by decide +kernel
theorem pd_10 : parseMethodDescriptor "([I)Lcom/example/rummage/rummage/SeekPlan;" = some ⟨[(.array .int)], some (.object "com/example/rummage/rummage/SeekPlan")⟩ := by decide +kernel
theorem pd_11 : parseMethodDescriptor "()I" = some ⟨[], some .int⟩ := by decide +kernel
theorem pd_12 : parseMethodDescriptor "()Z" = some ⟨[], some .boolean⟩ := by decide +kernel
theorem pd_13 : parseMethodDescriptor "([CI[IIII)V" = some ⟨[(.array .char), .int, (.array .int), .int, .int, .int], none⟩ := by decide +kernel
theorem pd_14 : parseMethodDescriptor "([I)V" = some ⟨[(.array .int)], none⟩ := by decide +kernel
theorem pd_15 : parseMethodDescriptor "([CI[III)Z" = some ⟨[(.array .char), .int, (.array .int), .int, .int], some .boolean⟩ := by decide +kernel
theorem pd_16 : parseMethodDescriptor "([CI)I" = some ⟨[(.array .char), .int], some .int⟩ := by decide +kernel
theorem wd_0 {a0 : Array Value} {Z : State} (hw : ∀ d ∈ tables_1, d.before a0 Z = true) : (Jvm.Cond.arrayClass Jvm.ClassFile.FieldType.int).before a0 Z = true := hw _ (List.mem_of_getElem? (i := 0) rfl)
theorem wd_1 {a0 : Array Value} {Z : State} (hw : ∀ d ∈ tables_1, d.before a0 Z = true) : (Jvm.Cond.arrayClass Jvm.ClassFile.FieldType.char).before a0 Z = true := hw _ (List.mem_of_getElem? (i := 1) rfl)
theorem wd_2 {a0 : Array Value} {Z : State} (hw : ∀ d ∈ tables_1, d.before a0 Z = true) : (Jvm.Cond.constantLong "com/example/rummage/rummage/CharSeekOpeningPinLaw" (7 : Nat) (255 : Int64)).before a0 Z = true := hw _ (List.mem_of_getElem? (i := 2) rfl)
theorem wd_3 {a0 : Array Value} {Z : State} (hw : ∀ d ∈ tables_1, d.before a0 Z = true) : (Jvm.Cond.methodLink "com/example/rummage/rummage/CharSeekOpeningPinLaw" (9 : Nat) ({ cls := "com/example/rummage/rummage/CharSeekOpeningPinLaw", name := "copy", desc := "([CI[IIII)V" } : Jvm.MethodName)).before a0 Z = true := hw _ (List.mem_of_getElem? (i := 3) rfl)
theorem wd_4 {a0 : Array Value} {Z : State} (hw : ∀ d ∈ tables_1, d.before a0 Z = true) : (Jvm.Cond.static ({ cls := "com/example/rummage/rummage/CharSeekOpeningPinLaw", name := "copy", desc := "([CI[IIII)V" } : Jvm.MethodName)).before a0 Z = true := hw _ (List.mem_of_getElem? (i := 4) rfl)
theorem wd_5 {a0 : Array Value} {Z : State} (hw : ∀ d ∈ tables_1, d.before a0 Z = true) : (Jvm.Cond.initialized "com/example/rummage/rummage/CharSeekOpeningPinLaw").before a0 Z = true := hw _ (List.mem_of_getElem? (i := 5) rfl)
theorem wd_6 {a0 : Array Value} {Z : State} (hw : ∀ d ∈ tables_1, d.before a0 Z = true) : (Jvm.Cond.code ({ cls := "com/example/rummage/rummage/CharSeekOpeningPinLaw", name := "copy", desc := "([CI[IIII)V" } : Jvm.MethodName) method_3_code (6 : Nat) (Option.none : Option Jvm.ClassFile.FieldType)).before a0 Z = true := hw _ (List.mem_of_getElem? (i := 6) rfl)
theorem wd_7 {a0 : Array Value} {Z : State} (hw : ∀ d ∈ tables_1, d.before a0 Z = true) : (Jvm.Cond.methodLink "com/example/rummage/rummage/CharSeekOpeningPinLaw" (15 : Nat) ({ cls := "com/example/rummage/rummage/SeekPlan", name := "forBlocks", desc := "([I)Lcom/example/rummage/rummage/SeekPlan;" } : Jvm.MethodName)).before a0 Z = true := hw _ (List.mem_of_getElem? (i := 7) rfl)
theorem wd_8 {a0 : Array Value} {Z : State} (hw : ∀ d ∈ tables_1, d.before a0 Z = true) : (Jvm.Cond.static ({ cls := "com/example/rummage/rummage/SeekPlan", name := "forBlocks", desc := "([I)Lcom/example/rummage/rummage/SeekPlan;" } : Jvm.MethodName)).before a0 Z = true := hw _ (List.mem_of_getElem? (i := 8) rfl)
theorem wd_9 {a0 : Array Value} {Z : State} (hw : ∀ d ∈ tables_1, d.before a0 Z = true) : (Jvm.Cond.initialized "com/example/rummage/rummage/SeekPlan").before a0 Z = true := hw _ (List.mem_of_getElem? (i := 9) rfl)
theorem wd_10 {a0 : Array Value} {Z : State} (hw : ∀ d ∈ tables_1, d.before a0 Z = true) : (Jvm.Cond.code ({ cls := "com/example/rummage/rummage/SeekPlan", name := "forBlocks", desc := "([I)Lcom/example/rummage/rummage/SeekPlan;" } : Jvm.MethodName) prog_21_method_6_code (1 : Nat) (Option.some (Jvm.ClassFile.FieldType.object "com/example/rummage/rummage/SeekPlan"))).before a0 Z = true := hw _ (List.mem_of_getElem? (i := 10) rfl)
theorem wd_11 {a0 : Array Value} {Z : State} (hw : ∀ d ∈ tables_1, d.before a0 Z = true) : (Jvm.Cond.classLink "com/example/rummage/rummage/SeekPlan" (2 : Nat) "com/example/rummage/rummage/SeekPlan").before a0 Z = true := hw _ (List.mem_of_getElem? (i := 11) rfl)
theorem wd_12 {a0 : Array Value} {Z : State} (hw : ∀ d ∈ tables_1, d.before a0 Z = true) : (Jvm.Cond.instantiable "com/example/rummage/rummage/SeekPlan" (10 : Nat)).before a0 Z = true := hw _ (List.mem_of_getElem? (i := 12) rfl)
theorem wd_13 {a0 : Array Value} {Z : State} (hw : ∀ d ∈ tables_1, d.before a0 Z = true) : (Jvm.Cond.methodLink "com/example/rummage/rummage/SeekPlan" (75 : Nat) ({ cls := "java/lang/Math", name := "min", desc := "(II)I" } : Jvm.MethodName)).before a0 Z = true := hw _ (List.mem_of_getElem? (i := 13) rfl)
theorem wd_14 {a0 : Array Value} {Z : State} (hw : ∀ d ∈ tables_1, d.before a0 Z = true) : (Jvm.Cond.static ({ cls := "java/lang/Math", name := "min", desc := "(II)I" } : Jvm.MethodName)).before a0 Z = true := hw _ (List.mem_of_getElem? (i := 14) rfl)
theorem wd_15 {a0 : Array Value} {Z : State} (hw : ∀ d ∈ tables_1, d.before a0 Z = true) : (Jvm.Cond.initialized "java/lang/Math").before a0 Z = true := hw _ (List.mem_of_getElem? (i := 15) rfl)
theorem wd_16 {a0 : Array Value} {Z : State} (hw : ∀ d ∈ tables_1, d.before a0 Z = true) : (Jvm.Cond.code ({ cls := "java/lang/Math", name := "min", desc := "(II)I" } : Jvm.MethodName) jdk_29_method_69_code (2 : Nat) (Option.some Jvm.ClassFile.FieldType.int)).before a0 Z = true := hw _ (List.mem_of_getElem? (i := 16) rfl)
theorem wd_17 {a0 : Array Value} {Z : State} (hw : ∀ d ∈ tables_1, d.before a0 Z = true) : (Jvm.Cond.methodLink "com/example/rummage/rummage/SeekPlan" (1 : Nat) ({ cls := "com/example/rummage/rummage/SeekPlan", name := "<init>", desc := "([III)V" } : Jvm.MethodName)).before a0 Z = true := hw _ (List.mem_of_getElem? (i := 17) rfl)
theorem wd_18 {a0 : Array Value} {Z : State} (hw : ∀ d ∈ tables_1, d.before a0 Z = true) : (Jvm.Cond.instanceMethod ({ cls := "com/example/rummage/rummage/SeekPlan", name := "<init>", desc := "([III)V" } : Jvm.MethodName)).before a0 Z = true := hw _ (List.mem_of_getElem? (i := 18) rfl)
theorem wd_19 {a0 : Array Value} {Z : State} (hw : ∀ d ∈ tables_1, d.before a0 Z = true) : (Jvm.Cond.code ({ cls := "com/example/rummage/rummage/SeekPlan", name := "<init>", desc := "([III)V" } : Jvm.MethodName) prog_21_method_2_code (4 : Nat) (Option.none : Option Jvm.ClassFile.FieldType)).before a0 Z = true := hw _ (List.mem_of_getElem? (i := 19) rfl)
theorem wd_20 {a0 : Array Value} {Z : State} (hw : ∀ d ∈ tables_1, d.before a0 Z = true) : (Jvm.Cond.methodLink "com/example/rummage/rummage/SeekPlan" (7 : Nat) ({ cls := "com/example/rummage/rummage/SeekPlan", name := "rarest", desc := "([IIIIZ)I" } : Jvm.MethodName)).before a0 Z = true := hw _ (List.mem_of_getElem? (i := 20) rfl)
theorem wd_21 {a0 : Array Value} {Z : State} (hw : ∀ d ∈ tables_1, d.before a0 Z = true) : (Jvm.Cond.static ({ cls := "com/example/rummage/rummage/SeekPlan", name := "rarest", desc := "([IIIIZ)I" } : Jvm.MethodName)).before a0 Z = true := hw _ (List.mem_of_getElem? (i := 21) rfl)
theorem wd_22 {a0 : Array Value} {Z : State} (hw : ∀ d ∈ tables_1, d.before a0 Z = true) : (Jvm.Cond.code ({ cls := "com/example/rummage/rummage/SeekPlan", name := "rarest", desc := "([IIIIZ)I" } : Jvm.MethodName) prog_21_method_18_code (10 : Nat) (Option.some Jvm.ClassFile.FieldType.int)).before a0 Z = true := hw _ (List.mem_of_getElem? (i := 22) rfl)
theorem wd_23 {a0 : Array Value} {Z : State} (hw : ∀ d ∈ tables_1, d.before a0 Z = true) : (Jvm.Cond.constant "com/example/rummage/rummage/SeekPlan" (87 : Nat) (2147483647 : Int32)).before a0 Z = true := hw _ (List.mem_of_getElem? (i := 23) rfl)
theorem wd_24 {a0 : Array Value} {Z : State} (hw : ∀ d ∈ tables_1, d.before a0 Z = true) : (Jvm.Cond.methodLink "com/example/rummage/rummage/SeekPlan" (52 : Nat) ({ cls := "com/example/rummage/rummage/SeekPlan", name := "commonnessOf", desc := "(I)I" } : Jvm.MethodName)).before a0 Z = true := hw _ (List.mem_of_getElem? (i := 24) rfl)
theorem wd_25 {a0 : Array Value} {Z : State} (hw : ∀ d ∈ tables_1, d.before a0 Z = true) : (Jvm.Cond.static ({ cls := "com/example/rummage/rummage/SeekPlan", name := "commonnessOf", desc := "(I)I" } : Jvm.MethodName)).before a0 Z = true := hw _ (List.mem_of_getElem? (i := 25) rfl)
theorem wd_26 {a0 : Array Value} {Z : State} (hw : ∀ d ∈ tables_1, d.before a0 Z = true) : (Jvm.Cond.code ({ cls := "com/example/rummage/rummage/SeekPlan", name := "commonnessOf", desc := "(I)I" } : Jvm.MethodName) prog_21_method_22_code (1 : Nat) (Option.some Jvm.ClassFile.FieldType.int)).before a0 Z = true := hw _ (List.mem_of_getElem? (i := 26) rfl)
theorem wd_27 {a0 : Array Value} {Z : State} (hw : ∀ d ∈ tables_1, d.before a0 Z = true) : (Jvm.Cond.fieldLink "com/example/rummage/rummage/SeekPlan" (91 : Nat) "com/example/rummage/rummage/SeekPlan" "COMMONNESS" "[B").before a0 Z = true := hw _ (List.mem_of_getElem? (i := 27) rfl)
theorem wd_28 {a0 : Array Value} {Z : State} (hw : ∀ d ∈ tables_1, d.before a0 Z = true) : (Jvm.Cond.laysStatic "com/example/rummage/rummage/SeekPlan" "COMMONNESS" "[B").before a0 Z = true := hw _ (List.mem_of_getElem? (i := 28) rfl)
theorem wd_29 {a0 : Array Value} {Z : State} (hw : ∀ d ∈ tables_1, d.before a0 Z = true) : (Jvm.Cond.methodLink "com/example/rummage/rummage/SeekPlan" (11 : Nat) ({ cls := "com/example/rummage/rummage/SeekPlan", name := "<init>", desc := "([IIII)V" } : Jvm.MethodName)).before a0 Z = true := hw _ (List.mem_of_getElem? (i := 29) rfl)
theorem wd_30 {a0 : Array Value} {Z : State} (hw : ∀ d ∈ tables_1, d.before a0 Z = true) : (Jvm.Cond.instanceMethod ({ cls := "com/example/rummage/rummage/SeekPlan", name := "<init>", desc := "([IIII)V" } : Jvm.MethodName)).before a0 Z = true := hw _ (List.mem_of_getElem? (i := 30) rfl)
theorem wd_31 {a0 : Array Value} {Z : State} (hw : ∀ d ∈ tables_1, d.before a0 Z = true) : (Jvm.Cond.code ({ cls := "com/example/rummage/rummage/SeekPlan", name := "<init>", desc := "([IIII)V" } : Jvm.MethodName) prog_21_method_3_code (6 : Nat) (Option.none : Option Jvm.ClassFile.FieldType)).before a0 Z = true := hw _ (List.mem_of_getElem? (i := 31) rfl)
theorem wd_32 {a0 : Array Value} {Z : State} (hw : ∀ d ∈ tables_1, d.before a0 Z = true) : (Jvm.Cond.methodLink "com/example/rummage/rummage/SeekPlan" (14 : Nat) ({ cls := "java/lang/Object", name := "<init>", desc := "()V" } : Jvm.MethodName)).before a0 Z = true := hw _ (List.mem_of_getElem? (i := 32) rfl)
theorem wd_33 {a0 : Array Value} {Z : State} (hw : ∀ d ∈ tables_1, d.before a0 Z = true) : (Jvm.Cond.instanceMethod ({ cls := "java/lang/Object", name := "<init>", desc := "()V" } : Jvm.MethodName)).before a0 Z = true := hw _ (List.mem_of_getElem? (i := 33) rfl)
theorem wd_34 {a0 : Array Value} {Z : State} (hw : ∀ d ∈ tables_1, d.before a0 Z = true) : (Jvm.Cond.code ({ cls := "java/lang/Object", name := "<init>", desc := "()V" } : Jvm.MethodName) object_method_1_code (1 : Nat) (Option.none : Option Jvm.ClassFile.FieldType)).before a0 Z = true := hw _ (List.mem_of_getElem? (i := 34) rfl)
theorem wd_35 {a0 : Array Value} {Z : State} (hw : ∀ d ∈ tables_1, d.before a0 Z = true) : (Jvm.Cond.fieldLink "com/example/rummage/rummage/SeekPlan" (19 : Nat) "com/example/rummage/rummage/SeekPlan" "anchor" "I").before a0 Z = true := hw _ (List.mem_of_getElem? (i := 35) rfl)
theorem wd_36 {a0 : Array Value} {Z : State} (hw : ∀ d ∈ tables_1, d.before a0 Z = true) : (Jvm.Cond.laysFinal "com/example/rummage/rummage/SeekPlan" "com/example/rummage/rummage/SeekPlan" "anchor" "I").before a0 Z = true := hw _ (List.mem_of_getElem? (i := 36) rfl)
theorem wd_37 {a0 : Array Value} {Z : State} (hw : ∀ d ∈ tables_1, d.before a0 Z = true) : (Jvm.Cond.fieldLink "com/example/rummage/rummage/SeekPlan" (23 : Nat) "com/example/rummage/rummage/SeekPlan" "check" "I").before a0 Z = true := hw _ (List.mem_of_getElem? (i := 37) rfl)
theorem wd_38 {a0 : Array Value} {Z : State} (hw : ∀ d ∈ tables_1, d.before a0 Z = true) : (Jvm.Cond.laysFinal "com/example/rummage/rummage/SeekPlan" "com/example/rummage/rummage/SeekPlan" "check" "I").before a0 Z = true := hw _ (List.mem_of_getElem? (i := 38) rfl)
theorem wd_39 {a0 : Array Value} {Z : State} (hw : ∀ d ∈ tables_1, d.before a0 Z = true) : (Jvm.Cond.classLink "com/example/rummage/rummage/SeekPlan" (26 : Nat) "java/lang/String").before a0 Z = true := hw _ (List.mem_of_getElem? (i := 39) rfl)
theorem wd_40 {a0 : Array Value} {Z : State} (hw : ∀ d ∈ tables_1, d.before a0 Z = true) : (Jvm.Cond.instantiable "java/lang/String" (4 : Nat)).before a0 Z = true := hw _ (List.mem_of_getElem? (i := 40) rfl)
theorem wd_41 {a0 : Array Value} {Z : State} (hw : ∀ d ∈ tables_1, d.before a0 Z = true) : (Jvm.Cond.initialized "java/lang/String").before a0 Z = true := hw _ (List.mem_of_getElem? (i := 41) rfl)
theorem wd_42 {a0 : Array Value} {Z : State} (hw : ∀ d ∈ tables_1, d.before a0 Z = true) : (Jvm.Cond.methodLink "com/example/rummage/rummage/SeekPlan" (28 : Nat) ({ cls := "java/lang/String", name := "<init>", desc := "([III)V" } : Jvm.MethodName)).before a0 Z = true := hw _ (List.mem_of_getElem? (i := 42) rfl)
theorem wd_43 {a0 : Array Value} {Z : State} (hw : ∀ d ∈ tables_1, d.before a0 Z = true) : (Jvm.Cond.instanceMethod ({ cls := "java/lang/String", name := "<init>", desc := "([III)V" } : Jvm.MethodName)).before a0 Z = true := hw _ (List.mem_of_getElem? (i := 43) rfl)
theorem wd_44 {a0 : Array Value} {Z : State} (hw : ∀ d ∈ tables_1, d.before a0 Z = true) : (Jvm.Cond.code ({ cls := "java/lang/String", name := "<init>", desc := "([III)V" } : Jvm.MethodName) jdk_42_method_6_code (5 : Nat) (Option.none : Option Jvm.ClassFile.FieldType)).before a0 Z = true := hw _ (List.mem_of_getElem? (i := 44) rfl)
theorem wd_45 {a0 : Array Value} {Z : State} (hw : ∀ d ∈ tables_1, d.before a0 Z = true) : (Jvm.Cond.methodLink "java/lang/String" (1 : Nat) ({ cls := "java/lang/Object", name := "<init>", desc := "()V" } : Jvm.MethodName)).before a0 Z = true := hw _ (List.mem_of_getElem? (i := 45) rfl)
theorem wd_46 {a0 : Array Value} {Z : State} (hw : ∀ d ∈ tables_1, d.before a0 Z = true) : (Jvm.Cond.methodLink "java/lang/String" (34 : Nat) ({ cls := "java/lang/String", name := "checkBoundsOffCount", desc := "(III)I" } : Jvm.MethodName)).before a0 Z = true := hw _ (List.mem_of_getElem? (i := 46) rfl)
theorem wd_47 {a0 : Array Value} {Z : State} (hw : ∀ d ∈ tables_1, d.before a0 Z = true) : (Jvm.Cond.static ({ cls := "java/lang/String", name := "checkBoundsOffCount", desc := "(III)I" } : Jvm.MethodName)).before a0 Z = true := hw _ (List.mem_of_getElem? (i := 47) rfl)
theorem wd_48 {a0 : Array Value} {Z : State} (hw : ∀ d ∈ tables_1, d.before a0 Z = true) : (Jvm.Cond.code ({ cls := "java/lang/String", name := "checkBoundsOffCount", desc := "(III)I" } : Jvm.MethodName) jdk_42_method_157_code (3 : Nat) (Option.some Jvm.ClassFile.FieldType.int)).before a0 Z = true := hw _ (List.mem_of_getElem? (i := 48) rfl)
theorem wd_49 {a0 : Array Value} {Z : State} (hw : ∀ d ∈ tables_1, d.before a0 Z = true) : (Jvm.Cond.fieldLink "java/lang/String" (1053 : Nat) "jdk/internal/util/Preconditions" "SIOOBE_FORMATTER" "Ljava/util/function/BiFunction;").before a0 Z = true := hw _ (List.mem_of_getElem? (i := 49) rfl)
theorem wd_50 {a0 : Array Value} {Z : State} (hw : ∀ d ∈ tables_1, d.before a0 Z = true) : (Jvm.Cond.initialized "jdk/internal/util/Preconditions").before a0 Z = true := hw _ (List.mem_of_getElem? (i := 50) rfl)
theorem wd_51 {a0 : Array Value} {Z : State} (hw : ∀ d ∈ tables_1, d.before a0 Z = true) : (Jvm.Cond.methodLink "java/lang/String" (1065 : Nat) ({ cls := "jdk/internal/util/Preconditions", name := "checkFromIndexSize", desc := "(IIILjava/util/function/BiFunction;)I" } : Jvm.MethodName)).before a0 Z = true := hw _ (List.mem_of_getElem? (i := 51) rfl)
theorem wd_52 {a0 : Array Value} {Z : State} (hw : ∀ d ∈ tables_1, d.before a0 Z = true) : (Jvm.Cond.static ({ cls := "jdk/internal/util/Preconditions", name := "checkFromIndexSize", desc := "(IIILjava/util/function/BiFunction;)I" } : Jvm.MethodName)).before a0 Z = true := hw _ (List.mem_of_getElem? (i := 52) rfl)
theorem wd_53 {a0 : Array Value} {Z : State} (hw : ∀ d ∈ tables_1, d.before a0 Z = true) : (Jvm.Cond.code ({ cls := "jdk/internal/util/Preconditions", name := "checkFromIndexSize", desc := "(IIILjava/util/function/BiFunction;)I" } : Jvm.MethodName) jdk_41_method_13_code (4 : Nat) (Option.some Jvm.ClassFile.FieldType.int)).before a0 Z = true := hw _ (List.mem_of_getElem? (i := 53) rfl)
theorem wd_54 {a0 : Array Value} {Z : State} (hw : ∀ d ∈ tables_1, d.before a0 Z = true) : (Jvm.Cond.fieldLink "java/lang/String" (38 : Nat) "java/lang/String" "COMPACT_STRINGS" "Z").before a0 Z = true := hw _ (List.mem_of_getElem? (i := 54) rfl)
theorem wd_55 {a0 : Array Value} {Z : State} (hw : ∀ d ∈ tables_1, d.before a0 Z = true) : (Jvm.Cond.methodLink "java/lang/String" (41 : Nat) ({ cls := "java/lang/StringUTF16", name := "compress", desc := "([III)[B" } : Jvm.MethodName)).before a0 Z = true := hw _ (List.mem_of_getElem? (i := 55) rfl)
theorem wd_56 {a0 : Array Value} {Z : State} (hw : ∀ d ∈ tables_1, d.before a0 Z = true) : (Jvm.Cond.static ({ cls := "java/lang/StringUTF16", name := "compress", desc := "([III)[B" } : Jvm.MethodName)).before a0 Z = true := hw _ (List.mem_of_getElem? (i := 56) rfl)
theorem wd_57 {a0 : Array Value} {Z : State} (hw : ∀ d ∈ tables_1, d.before a0 Z = true) : (Jvm.Cond.initialized "java/lang/StringUTF16").before a0 Z = true := hw _ (List.mem_of_getElem? (i := 57) rfl)
theorem wd_58 {a0 : Array Value} {Z : State} (hw : ∀ d ∈ tables_1, d.before a0 Z = true) : (Jvm.Cond.code ({ cls := "java/lang/StringUTF16", name := "compress", desc := "([III)[B" } : Jvm.MethodName) jdk_52_method_18_code (10 : Nat) (Option.some (Jvm.ClassFile.FieldType.array Jvm.ClassFile.FieldType.byte))).before a0 Z = true := hw _ (List.mem_of_getElem? (i := 58) rfl)
theorem wd_59 {a0 : Array Value} {Z : State} (hw : ∀ d ∈ tables_1, d.before a0 Z = true) : (Jvm.Cond.arrayClass Jvm.ClassFile.FieldType.byte).before a0 Z = true := hw _ (List.mem_of_getElem? (i := 59) rfl)
theorem wd_60 {a0 : Array Value} {Z : State} (hw : ∀ d ∈ tables_1, d.before a0 Z = true) : (Jvm.Cond.methodLink "java/lang/String" (47 : Nat) ({ cls := "java/lang/StringUTF16", name := "coderFromArrayLen", desc := "([BI)B" } : Jvm.MethodName)).before a0 Z = true := hw _ (List.mem_of_getElem? (i := 60) rfl)
theorem wd_61 {a0 : Array Value} {Z : State} (hw : ∀ d ∈ tables_1, d.before a0 Z = true) : (Jvm.Cond.static ({ cls := "java/lang/StringUTF16", name := "coderFromArrayLen", desc := "([BI)B" } : Jvm.MethodName)).before a0 Z = true := hw _ (List.mem_of_getElem? (i := 61) rfl)
theorem wd_62 {a0 : Array Value} {Z : State} (hw : ∀ d ∈ tables_1, d.before a0 Z = true) : (Jvm.Cond.code ({ cls := "java/lang/StringUTF16", name := "coderFromArrayLen", desc := "([BI)B" } : Jvm.MethodName) jdk_52_method_15_code (2 : Nat) (Option.some Jvm.ClassFile.FieldType.byte)).before a0 Z = true := hw _ (List.mem_of_getElem? (i := 62) rfl)
theorem wd_63 {a0 : Array Value} {Z : State} (hw : ∀ d ∈ tables_1, d.before a0 Z = true) : (Jvm.Cond.fieldLink "java/lang/String" (15 : Nat) "java/lang/String" "coder" "B").before a0 Z = true := hw _ (List.mem_of_getElem? (i := 63) rfl)
theorem wd_64 {a0 : Array Value} {Z : State} (hw : ∀ d ∈ tables_1, d.before a0 Z = true) : (Jvm.Cond.laysFinal "java/lang/String" "java/lang/String" "coder" "B").before a0 Z = true := hw _ (List.mem_of_getElem? (i := 64) rfl)
theorem wd_65 {a0 : Array Value} {Z : State} (hw : ∀ d ∈ tables_1, d.before a0 Z = true) : (Jvm.Cond.fieldLink "java/lang/String" (9 : Nat) "java/lang/String" "value" "[B").before a0 Z = true := hw _ (List.mem_of_getElem? (i := 65) rfl)
theorem wd_66 {a0 : Array Value} {Z : State} (hw : ∀ d ∈ tables_1, d.before a0 Z = true) : (Jvm.Cond.laysFinal "java/lang/String" "java/lang/String" "value" "[B").before a0 Z = true := hw _ (List.mem_of_getElem? (i := 66) rfl)
theorem wd_67 {a0 : Array Value} {Z : State} (hw : ∀ d ∈ tables_1, d.before a0 Z = true) : (Jvm.Cond.fieldLink "com/example/rummage/rummage/SeekPlan" (31 : Nat) "com/example/rummage/rummage/SeekPlan" "checkedAlone" "Ljava/lang/String;").before a0 Z = true := hw _ (List.mem_of_getElem? (i := 67) rfl)
theorem wd_68 {a0 : Array Value} {Z : State} (hw : ∀ d ∈ tables_1, d.before a0 Z = true) : (Jvm.Cond.laysFinal "com/example/rummage/rummage/SeekPlan" "com/example/rummage/rummage/SeekPlan" "checkedAlone" "Ljava/lang/String;").before a0 Z = true := hw _ (List.mem_of_getElem? (i := 68) rfl)
theorem wd_69 {a0 : Array Value} {Z : State} (hw : ∀ d ∈ tables_1, d.before a0 Z = true) : (Jvm.Cond.fieldLink "com/example/rummage/rummage/SeekPlan" (35 : Nat) "com/example/rummage/rummage/SeekPlan" "sought" "Ljava/lang/String;").before a0 Z = true := hw _ (List.mem_of_getElem? (i := 69) rfl)
theorem wd_70 {a0 : Array Value} {Z : State} (hw : ∀ d ∈ tables_1, d.before a0 Z = true) : (Jvm.Cond.laysFinal "com/example/rummage/rummage/SeekPlan" "com/example/rummage/rummage/SeekPlan" "sought" "Ljava/lang/String;").before a0 Z = true := hw _ (List.mem_of_getElem? (i := 70) rfl)
theorem wd_71 {a0 : Array Value} {Z : State} (hw : ∀ d ∈ tables_1, d.before a0 Z = true) : (Jvm.Cond.fieldLink "com/example/rummage/rummage/SeekPlan" (38 : Nat) "com/example/rummage/rummage/SeekPlan" "foundCoversChecks" "Z").before a0 Z = true := hw _ (List.mem_of_getElem? (i := 71) rfl)
theorem wd_72 {a0 : Array Value} {Z : State} (hw : ∀ d ∈ tables_1, d.before a0 Z = true) : (Jvm.Cond.laysFinal "com/example/rummage/rummage/SeekPlan" "com/example/rummage/rummage/SeekPlan" "foundCoversChecks" "Z").before a0 Z = true := hw _ (List.mem_of_getElem? (i := 72) rfl)
theorem wd_73 {a0 : Array Value} {Z : State} (hw : ∀ d ∈ tables_1, d.before a0 Z = true) : (Jvm.Cond.fieldLink "com/example/rummage/rummage/SeekPlan" (42 : Nat) "com/example/rummage/rummage/SeekPlan" "seeksWhole" "Z").before a0 Z = true := hw _ (List.mem_of_getElem? (i := 73) rfl)
theorem wd_74 {a0 : Array Value} {Z : State} (hw : ∀ d ∈ tables_1, d.before a0 Z = true) : (Jvm.Cond.laysFinal "com/example/rummage/rummage/SeekPlan" "com/example/rummage/rummage/SeekPlan" "seeksWhole" "Z").before a0 Z = true := hw _ (List.mem_of_getElem? (i := 74) rfl)
theorem wd_75 {a0 : Array Value} {Z : State} (hw : ∀ d ∈ tables_1, d.before a0 Z = true) : (Jvm.Cond.methodLink "com/example/rummage/rummage/SeekPlan" (45 : Nat) ({ cls := "com/example/rummage/rummage/SeekPlan", name := "standsAgain", desc := "([III)Z" } : Jvm.MethodName)).before a0 Z = true := hw _ (List.mem_of_getElem? (i := 75) rfl)
theorem wd_76 {a0 : Array Value} {Z : State} (hw : ∀ d ∈ tables_1, d.before a0 Z = true) : (Jvm.Cond.static ({ cls := "com/example/rummage/rummage/SeekPlan", name := "standsAgain", desc := "([III)Z" } : Jvm.MethodName)).before a0 Z = true := hw _ (List.mem_of_getElem? (i := 76) rfl)
theorem wd_77 {a0 : Array Value} {Z : State} (hw : ∀ d ∈ tables_1, d.before a0 Z = true) : (Jvm.Cond.code ({ cls := "com/example/rummage/rummage/SeekPlan", name := "standsAgain", desc := "([III)Z" } : Jvm.MethodName) prog_21_method_21_code (4 : Nat) (Option.some Jvm.ClassFile.FieldType.boolean)).before a0 Z = true := hw _ (List.mem_of_getElem? (i := 77) rfl)
theorem wd_78 {a0 : Array Value} {Z : State} (hw : ∀ d ∈ tables_1, d.before a0 Z = true) : (Jvm.Cond.fieldLink "com/example/rummage/rummage/SeekPlan" (49 : Nat) "com/example/rummage/rummage/SeekPlan" "leadRecurs" "Z").before a0 Z = true := hw _ (List.mem_of_getElem? (i := 78) rfl)
theorem wd_79 {a0 : Array Value} {Z : State} (hw : ∀ d ∈ tables_1, d.before a0 Z = true) : (Jvm.Cond.laysFinal "com/example/rummage/rummage/SeekPlan" "com/example/rummage/rummage/SeekPlan" "leadRecurs" "Z").before a0 Z = true := hw _ (List.mem_of_getElem? (i := 79) rfl)
theorem wd_80 {a0 : Array Value} {Z : State} (hw : ∀ d ∈ tables_1, d.before a0 Z = true) : (Jvm.Cond.fieldLink "com/example/rummage/rummage/SeekPlan" (56 : Nat) "com/example/rummage/rummage/SeekPlan" "checkIsRarer" "Z").before a0 Z = true := hw _ (List.mem_of_getElem? (i := 80) rfl)
theorem wd_81 {a0 : Array Value} {Z : State} (hw : ∀ d ∈ tables_1, d.before a0 Z = true) : (Jvm.Cond.laysFinal "com/example/rummage/rummage/SeekPlan" "com/example/rummage/rummage/SeekPlan" "checkIsRarer" "Z").before a0 Z = true := hw _ (List.mem_of_getElem? (i := 81) rfl)
theorem wd_82 {a0 : Array Value} {Z : State} (hw : ∀ d ∈ tables_1, d.before a0 Z = true) : (Jvm.Cond.fieldLink "com/example/rummage/rummage/SeekPlan" (59 : Nat) "com/example/rummage/rummage/SeekPlan" "firstIsRarer" "Z").before a0 Z = true := hw _ (List.mem_of_getElem? (i := 82) rfl)
theorem wd_83 {a0 : Array Value} {Z : State} (hw : ∀ d ∈ tables_1, d.before a0 Z = true) : (Jvm.Cond.laysFinal "com/example/rummage/rummage/SeekPlan" "com/example/rummage/rummage/SeekPlan" "firstIsRarer" "Z").before a0 Z = true := hw _ (List.mem_of_getElem? (i := 83) rfl)
theorem wd_84 {a0 : Array Value} {Z : State} (hw : ∀ d ∈ tables_1, d.before a0 Z = true) : (Jvm.Cond.fieldLink "com/example/rummage/rummage/SeekPlan" (65 : Nat) "com/example/rummage/rummage/SeekPlan" "pairsCheck" "Z").before a0 Z = true := hw _ (List.mem_of_getElem? (i := 84) rfl)
theorem wd_85 {a0 : Array Value} {Z : State} (hw : ∀ d ∈ tables_1, d.before a0 Z = true) : (Jvm.Cond.laysFinal "com/example/rummage/rummage/SeekPlan" "com/example/rummage/rummage/SeekPlan" "pairsCheck" "Z").before a0 Z = true := hw _ (List.mem_of_getElem? (i := 85) rfl)
theorem wd_86 {a0 : Array Value} {Z : State} (hw : ∀ d ∈ tables_1, d.before a0 Z = true) : (Jvm.Cond.methodLink "com/example/rummage/rummage/CharSeekOpeningPinLaw" (21 : Nat) ({ cls := "com/example/rummage/rummage/SeekPlan", name := "anchor", desc := "()I" } : Jvm.MethodName)).before a0 Z = true := hw _ (List.mem_of_getElem? (i := 86) rfl)
theorem wd_87 {a0 : Array Value} {Z : State} (hw : ∀ d ∈ tables_1, d.before a0 Z = true) : (Jvm.Cond.declares ({ cls := "com/example/rummage/rummage/SeekPlan", name := "anchor", desc := "()I" } : Jvm.MethodName)).before a0 Z = true := hw _ (List.mem_of_getElem? (i := 87) rfl)
theorem wd_88 {a0 : Array Value} {Z : State} (hw : ∀ d ∈ tables_1, d.before a0 Z = true) : (Jvm.Cond.instanceMethod ({ cls := "com/example/rummage/rummage/SeekPlan", name := "anchor", desc := "()I" } : Jvm.MethodName)).before a0 Z = true := hw _ (List.mem_of_getElem? (i := 88) rfl)
theorem wd_89 {a0 : Array Value} {Z : State} (hw : ∀ d ∈ tables_1, d.before a0 Z = true) : (Jvm.Cond.selects "com/example/rummage/rummage/SeekPlan" ({ cls := "com/example/rummage/rummage/SeekPlan", name := "anchor", desc := "()I" } : Jvm.MethodName) ({ cls := "com/example/rummage/rummage/SeekPlan", name := "anchor", desc := "()I" } : Jvm.MethodName)).before a0 Z = true := hw _ (List.mem_of_getElem? (i := 89) rfl)
theorem wd_90 {a0 : Array Value} {Z : State} (hw : ∀ d ∈ tables_1, d.before a0 Z = true) : (Jvm.Cond.code ({ cls := "com/example/rummage/rummage/SeekPlan", name := "anchor", desc := "()I" } : Jvm.MethodName) prog_21_method_9_code (1 : Nat) (Option.some Jvm.ClassFile.FieldType.int)).before a0 Z = true := hw _ (List.mem_of_getElem? (i := 90) rfl)
theorem wd_91 {a0 : Array Value} {Z : State} (hw : ∀ d ∈ tables_1, d.before a0 Z = true) : (Jvm.Cond.methodLink "com/example/rummage/rummage/CharSeekOpeningPinLaw" (25 : Nat) ({ cls := "com/example/rummage/rummage/SeekPlan", name := "check", desc := "()I" } : Jvm.MethodName)).before a0 Z = true := hw _ (List.mem_of_getElem? (i := 91) rfl)
theorem wd_92 {a0 : Array Value} {Z : State} (hw : ∀ d ∈ tables_1, d.before a0 Z = true) : (Jvm.Cond.declares ({ cls := "com/example/rummage/rummage/SeekPlan", name := "check", desc := "()I" } : Jvm.MethodName)).before a0 Z = true := hw _ (List.mem_of_getElem? (i := 92) rfl)
theorem wd_93 {a0 : Array Value} {Z : State} (hw : ∀ d ∈ tables_1, d.before a0 Z = true) : (Jvm.Cond.instanceMethod ({ cls := "com/example/rummage/rummage/SeekPlan", name := "check", desc := "()I" } : Jvm.MethodName)).before a0 Z = true := hw _ (List.mem_of_getElem? (i := 93) rfl)
theorem wd_94 {a0 : Array Value} {Z : State} (hw : ∀ d ∈ tables_1, d.before a0 Z = true) : (Jvm.Cond.selects "com/example/rummage/rummage/SeekPlan" ({ cls := "com/example/rummage/rummage/SeekPlan", name := "check", desc := "()I" } : Jvm.MethodName) ({ cls := "com/example/rummage/rummage/SeekPlan", name := "check", desc := "()I" } : Jvm.MethodName)).before a0 Z = true := hw _ (List.mem_of_getElem? (i := 94) rfl)
theorem wd_95 {a0 : Array Value} {Z : State} (hw : ∀ d ∈ tables_1, d.before a0 Z = true) : (Jvm.Cond.code ({ cls := "com/example/rummage/rummage/SeekPlan", name := "check", desc := "()I" } : Jvm.MethodName) prog_21_method_10_code (1 : Nat) (Option.some Jvm.ClassFile.FieldType.int)).before a0 Z = true := hw _ (List.mem_of_getElem? (i := 95) rfl)
theorem wd_96 {a0 : Array Value} {Z : State} (hw : ∀ d ∈ tables_1, d.before a0 Z = true) : (Jvm.Cond.classLink "com/example/rummage/rummage/CharSeekOpeningPinLaw" (28 : Nat) "com/example/rummage/rummage/CharSeek").before a0 Z = true := hw _ (List.mem_of_getElem? (i := 96) rfl)
theorem wd_97 {a0 : Array Value} {Z : State} (hw : ∀ d ∈ tables_1, d.before a0 Z = true) : (Jvm.Cond.instantiable "com/example/rummage/rummage/CharSeek" (10 : Nat)).before a0 Z = true := hw _ (List.mem_of_getElem? (i := 97) rfl)
theorem wd_98 {a0 : Array Value} {Z : State} (hw : ∀ d ∈ tables_1, d.before a0 Z = true) : (Jvm.Cond.initialized "com/example/rummage/rummage/CharSeek").before a0 Z = true := hw _ (List.mem_of_getElem? (i := 98) rfl)
theorem wd_99 {a0 : Array Value} {Z : State} (hw : ∀ d ∈ tables_1, d.before a0 Z = true) : (Jvm.Cond.methodLink "com/example/rummage/rummage/CharSeekOpeningPinLaw" (30 : Nat) ({ cls := "com/example/rummage/rummage/CharSeek", name := "<init>", desc := "([I)V" } : Jvm.MethodName)).before a0 Z = true := hw _ (List.mem_of_getElem? (i := 99) rfl)
theorem wd_100 {a0 : Array Value} {Z : State} (hw : ∀ d ∈ tables_1, d.before a0 Z = true) : (Jvm.Cond.instanceMethod ({ cls := "com/example/rummage/rummage/CharSeek", name := "<init>", desc := "([I)V" } : Jvm.MethodName)).before a0 Z = true := hw _ (List.mem_of_getElem? (i := 100) rfl)
theorem wd_101 {a0 : Array Value} {Z : State} (hw : ∀ d ∈ tables_1, d.before a0 Z = true) : (Jvm.Cond.code ({ cls := "com/example/rummage/rummage/CharSeek", name := "<init>", desc := "([I)V" } : Jvm.MethodName) prog_7_method_1_code (5 : Nat) (Option.none : Option Jvm.ClassFile.FieldType)).before a0 Z = true := hw _ (List.mem_of_getElem? (i := 101) rfl)
theorem wd_102 {a0 : Array Value} {Z : State} (hw : ∀ d ∈ tables_1, d.before a0 Z = true) : (Jvm.Cond.methodLink "com/example/rummage/rummage/CharSeek" (1 : Nat) ({ cls := "java/lang/Object", name := "<init>", desc := "()V" } : Jvm.MethodName)).before a0 Z = true := hw _ (List.mem_of_getElem? (i := 102) rfl)
theorem wd_103 {a0 : Array Value} {Z : State} (hw : ∀ d ∈ tables_1, d.before a0 Z = true) : (Jvm.Cond.methodLink "com/example/rummage/rummage/CharSeek" (7 : Nat) ({ cls := "com/example/rummage/rummage/SeekPlan", name := "forBlocks", desc := "([I)Lcom/example/rummage/rummage/SeekPlan;" } : Jvm.MethodName)).before a0 Z = true := hw _ (List.mem_of_getElem? (i := 103) rfl)
theorem wd_104 {a0 : Array Value} {Z : State} (hw : ∀ d ∈ tables_1, d.before a0 Z = true) : (Jvm.Cond.methodLink "com/example/rummage/rummage/CharSeek" (13 : Nat) ({ cls := "com/example/rummage/rummage/SeekPlan", name := "anchor", desc := "()I" } : Jvm.MethodName)).before a0 Z = true := hw _ (List.mem_of_getElem? (i := 104) rfl)
theorem wd_105 {a0 : Array Value} {Z : State} (hw : ∀ d ∈ tables_1, d.before a0 Z = true) : (Jvm.Cond.fieldLink "com/example/rummage/rummage/CharSeek" (17 : Nat) "com/example/rummage/rummage/CharSeek" "pattern" "[I").before a0 Z = true := hw _ (List.mem_of_getElem? (i := 105) rfl)
theorem wd_106 {a0 : Array Value} {Z : State} (hw : ∀ d ∈ tables_1, d.before a0 Z = true) : (Jvm.Cond.laysFinal "com/example/rummage/rummage/CharSeek" "com/example/rummage/rummage/CharSeek" "pattern" "[I").before a0 Z = true := hw _ (List.mem_of_getElem? (i := 106) rfl)
theorem wd_107 {a0 : Array Value} {Z : State} (hw : ∀ d ∈ tables_1, d.before a0 Z = true) : (Jvm.Cond.fieldLink "com/example/rummage/rummage/CharSeek" (23 : Nat) "com/example/rummage/rummage/CharSeek" "length" "I").before a0 Z = true := hw _ (List.mem_of_getElem? (i := 107) rfl)
theorem wd_108 {a0 : Array Value} {Z : State} (hw : ∀ d ∈ tables_1, d.before a0 Z = true) : (Jvm.Cond.laysFinal "com/example/rummage/rummage/CharSeek" "com/example/rummage/rummage/CharSeek" "length" "I").before a0 Z = true := hw _ (List.mem_of_getElem? (i := 108) rfl)
theorem wd_109 {a0 : Array Value} {Z : State} (hw : ∀ d ∈ tables_1, d.before a0 Z = true) : (Jvm.Cond.methodLink "com/example/rummage/rummage/CharSeek" (27 : Nat) ({ cls := "com/example/rummage/rummage/SeekPlan", name := "firstIsRarer", desc := "()Z" } : Jvm.MethodName)).before a0 Z = true := hw _ (List.mem_of_getElem? (i := 109) rfl)
theorem wd_110 {a0 : Array Value} {Z : State} (hw : ∀ d ∈ tables_1, d.before a0 Z = true) : (Jvm.Cond.declares ({ cls := "com/example/rummage/rummage/SeekPlan", name := "firstIsRarer", desc := "()Z" } : Jvm.MethodName)).before a0 Z = true := hw _ (List.mem_of_getElem? (i := 110) rfl)
theorem wd_111 {a0 : Array Value} {Z : State} (hw : ∀ d ∈ tables_1, d.before a0 Z = true) : (Jvm.Cond.instanceMethod ({ cls := "com/example/rummage/rummage/SeekPlan", name := "firstIsRarer", desc := "()Z" } : Jvm.MethodName)).before a0 Z = true := hw _ (List.mem_of_getElem? (i := 111) rfl)
theorem wd_112 {a0 : Array Value} {Z : State} (hw : ∀ d ∈ tables_1, d.before a0 Z = true) : (Jvm.Cond.selects "com/example/rummage/rummage/SeekPlan" ({ cls := "com/example/rummage/rummage/SeekPlan", name := "firstIsRarer", desc := "()Z" } : Jvm.MethodName) ({ cls := "com/example/rummage/rummage/SeekPlan", name := "firstIsRarer", desc := "()Z" } : Jvm.MethodName)).before a0 Z = true := hw _ (List.mem_of_getElem? (i := 112) rfl)
theorem wd_113 {a0 : Array Value} {Z : State} (hw : ∀ d ∈ tables_1, d.before a0 Z = true) : (Jvm.Cond.code ({ cls := "com/example/rummage/rummage/SeekPlan", name := "firstIsRarer", desc := "()Z" } : Jvm.MethodName) prog_21_method_16_code (1 : Nat) (Option.some Jvm.ClassFile.FieldType.boolean)).before a0 Z = true := hw _ (List.mem_of_getElem? (i := 113) rfl)
theorem wd_114 {a0 : Array Value} {Z : State} (hw : ∀ d ∈ tables_1, d.before a0 Z = true) : (Jvm.Cond.fieldLink "com/example/rummage/rummage/CharSeek" (31 : Nat) "com/example/rummage/rummage/CharSeek" "lead" "I").before a0 Z = true := hw _ (List.mem_of_getElem? (i := 114) rfl)
theorem wd_115 {a0 : Array Value} {Z : State} (hw : ∀ d ∈ tables_1, d.before a0 Z = true) : (Jvm.Cond.laysFinal "com/example/rummage/rummage/CharSeek" "com/example/rummage/rummage/CharSeek" "lead" "I").before a0 Z = true := hw _ (List.mem_of_getElem? (i := 115) rfl)
theorem wd_116 {a0 : Array Value} {Z : State} (hw : ∀ d ∈ tables_1, d.before a0 Z = true) : (Jvm.Cond.fieldLink "com/example/rummage/rummage/CharSeek" (34 : Nat) "com/example/rummage/rummage/CharSeek" "beside" "I").before a0 Z = true := hw _ (List.mem_of_getElem? (i := 116) rfl)
theorem wd_117 {a0 : Array Value} {Z : State} (hw : ∀ d ∈ tables_1, d.before a0 Z = true) : (Jvm.Cond.laysFinal "com/example/rummage/rummage/CharSeek" "com/example/rummage/rummage/CharSeek" "beside" "I").before a0 Z = true := hw _ (List.mem_of_getElem? (i := 117) rfl)
theorem wd_118 {a0 : Array Value} {Z : State} (hw : ∀ d ∈ tables_1, d.before a0 Z = true) : (Jvm.Cond.methodLink "com/example/rummage/rummage/CharSeek" (37 : Nat) ({ cls := "com/example/rummage/rummage/SeekPlan", name := "check", desc := "()I" } : Jvm.MethodName)).before a0 Z = true := hw _ (List.mem_of_getElem? (i := 118) rfl)
theorem wd_119 {a0 : Array Value} {Z : State} (hw : ∀ d ∈ tables_1, d.before a0 Z = true) : (Jvm.Cond.fieldLink "com/example/rummage/rummage/CharSeek" (40 : Nat) "com/example/rummage/rummage/CharSeek" "check" "I").before a0 Z = true := hw _ (List.mem_of_getElem? (i := 119) rfl)
theorem wd_120 {a0 : Array Value} {Z : State} (hw : ∀ d ∈ tables_1, d.before a0 Z = true) : (Jvm.Cond.laysFinal "com/example/rummage/rummage/CharSeek" "com/example/rummage/rummage/CharSeek" "check" "I").before a0 Z = true := hw _ (List.mem_of_getElem? (i := 120) rfl)
theorem wd_121 {a0 : Array Value} {Z : State} (hw : ∀ d ∈ tables_1, d.before a0 Z = true) : (Jvm.Cond.methodLink "com/example/rummage/rummage/CharSeek" (42 : Nat) ({ cls := "com/example/rummage/rummage/SeekPlan", name := "pairsCheck", desc := "()Z" } : Jvm.MethodName)).before a0 Z = true := hw _ (List.mem_of_getElem? (i := 121) rfl)
theorem wd_122 {a0 : Array Value} {Z : State} (hw : ∀ d ∈ tables_1, d.before a0 Z = true) : (Jvm.Cond.declares ({ cls := "com/example/rummage/rummage/SeekPlan", name := "pairsCheck", desc := "()Z" } : Jvm.MethodName)).before a0 Z = true := hw _ (List.mem_of_getElem? (i := 122) rfl)
theorem wd_123 {a0 : Array Value} {Z : State} (hw : ∀ d ∈ tables_1, d.before a0 Z = true) : (Jvm.Cond.instanceMethod ({ cls := "com/example/rummage/rummage/SeekPlan", name := "pairsCheck", desc := "()Z" } : Jvm.MethodName)).before a0 Z = true := hw _ (List.mem_of_getElem? (i := 123) rfl)
theorem wd_124 {a0 : Array Value} {Z : State} (hw : ∀ d ∈ tables_1, d.before a0 Z = true) : (Jvm.Cond.selects "com/example/rummage/rummage/SeekPlan" ({ cls := "com/example/rummage/rummage/SeekPlan", name := "pairsCheck", desc := "()Z" } : Jvm.MethodName) ({ cls := "com/example/rummage/rummage/SeekPlan", name := "pairsCheck", desc := "()Z" } : Jvm.MethodName)).before a0 Z = true := hw _ (List.mem_of_getElem? (i := 124) rfl)
theorem wd_125 {a0 : Array Value} {Z : State} (hw : ∀ d ∈ tables_1, d.before a0 Z = true) : (Jvm.Cond.code ({ cls := "com/example/rummage/rummage/SeekPlan", name := "pairsCheck", desc := "()Z" } : Jvm.MethodName) prog_21_method_17_code (1 : Nat) (Option.some Jvm.ClassFile.FieldType.boolean)).before a0 Z = true := hw _ (List.mem_of_getElem? (i := 125) rfl)
theorem wd_126 {a0 : Array Value} {Z : State} (hw : ∀ d ∈ tables_1, d.before a0 Z = true) : (Jvm.Cond.fieldLink "com/example/rummage/rummage/CharSeek" (45 : Nat) "com/example/rummage/rummage/CharSeek" "paired" "Z").before a0 Z = true := hw _ (List.mem_of_getElem? (i := 126) rfl)
theorem wd_127 {a0 : Array Value} {Z : State} (hw : ∀ d ∈ tables_1, d.before a0 Z = true) : (Jvm.Cond.laysFinal "com/example/rummage/rummage/CharSeek" "com/example/rummage/rummage/CharSeek" "paired" "Z").before a0 Z = true := hw _ (List.mem_of_getElem? (i := 127) rfl)
theorem wd_128 {a0 : Array Value} {Z : State} (hw : ∀ d ∈ tables_1, d.before a0 Z = true) : (Jvm.Cond.fieldLink "com/example/rummage/rummage/CharSeek" (49 : Nat) "com/example/rummage/rummage/CharSeek" "leadSymbol" "C").before a0 Z = true := hw _ (List.mem_of_getElem? (i := 128) rfl)
theorem wd_129 {a0 : Array Value} {Z : State} (hw : ∀ d ∈ tables_1, d.before a0 Z = true) : (Jvm.Cond.laysFinal "com/example/rummage/rummage/CharSeek" "com/example/rummage/rummage/CharSeek" "leadSymbol" "C").before a0 Z = true := hw _ (List.mem_of_getElem? (i := 129) rfl)
theorem wd_130 {a0 : Array Value} {Z : State} (hw : ∀ d ∈ tables_1, d.before a0 Z = true) : (Jvm.Cond.fieldLink "com/example/rummage/rummage/CharSeek" (53 : Nat) "com/example/rummage/rummage/CharSeek" "besideSymbol" "C").before a0 Z = true := hw _ (List.mem_of_getElem? (i := 130) rfl)
theorem wd_131 {a0 : Array Value} {Z : State} (hw : ∀ d ∈ tables_1, d.before a0 Z = true) : (Jvm.Cond.laysFinal "com/example/rummage/rummage/CharSeek" "com/example/rummage/rummage/CharSeek" "besideSymbol" "C").before a0 Z = true := hw _ (List.mem_of_getElem? (i := 131) rfl)
theorem wd_132 {a0 : Array Value} {Z : State} (hw : ∀ d ∈ tables_1, d.before a0 Z = true) : (Jvm.Cond.fieldLink "com/example/rummage/rummage/CharSeek" (56 : Nat) "com/example/rummage/rummage/CharSeek" "checked" "C").before a0 Z = true := hw _ (List.mem_of_getElem? (i := 132) rfl)
theorem wd_133 {a0 : Array Value} {Z : State} (hw : ∀ d ∈ tables_1, d.before a0 Z = true) : (Jvm.Cond.laysFinal "com/example/rummage/rummage/CharSeek" "com/example/rummage/rummage/CharSeek" "checked" "C").before a0 Z = true := hw _ (List.mem_of_getElem? (i := 133) rfl)
theorem wd_134 {a0 : Array Value} {Z : State} (hw : ∀ d ∈ tables_1, d.before a0 Z = true) : (Jvm.Cond.fieldLink "com/example/rummage/rummage/CharSeek" (59 : Nat) "com/example/rummage/rummage/CharSeek" "checksWhole" "Z").before a0 Z = true := hw _ (List.mem_of_getElem? (i := 134) rfl)
theorem wd_135 {a0 : Array Value} {Z : State} (hw : ∀ d ∈ tables_1, d.before a0 Z = true) : (Jvm.Cond.laysFinal "com/example/rummage/rummage/CharSeek" "com/example/rummage/rummage/CharSeek" "checksWhole" "Z").before a0 Z = true := hw _ (List.mem_of_getElem? (i := 135) rfl)
theorem wd_136 {a0 : Array Value} {Z : State} (hw : ∀ d ∈ tables_1, d.before a0 Z = true) : (Jvm.Cond.methodLink "com/example/rummage/rummage/CharSeekOpeningPinLaw" (33 : Nat) ({ cls := "com/example/rummage/rummage/CharSeekOpeningPinLaw", name := "eq", desc := "([CI[III)Z" } : Jvm.MethodName)).before a0 Z = true := hw _ (List.mem_of_getElem? (i := 136) rfl)
theorem wd_137 {a0 : Array Value} {Z : State} (hw : ∀ d ∈ tables_1, d.before a0 Z = true) : (Jvm.Cond.static ({ cls := "com/example/rummage/rummage/CharSeekOpeningPinLaw", name := "eq", desc := "([CI[III)Z" } : Jvm.MethodName)).before a0 Z = true := hw _ (List.mem_of_getElem? (i := 137) rfl)
theorem wd_138 {a0 : Array Value} {Z : State} (hw : ∀ d ∈ tables_1, d.before a0 Z = true) : (Jvm.Cond.code ({ cls := "com/example/rummage/rummage/CharSeekOpeningPinLaw", name := "eq", desc := "([CI[III)Z" } : Jvm.MethodName) method_4_code (5 : Nat) (Option.some Jvm.ClassFile.FieldType.boolean)).before a0 Z = true := hw _ (List.mem_of_getElem? (i := 138) rfl)
theorem wd_139 {a0 : Array Value} {Z : State} (hw : ∀ d ∈ tables_1, d.before a0 Z = true) : (Jvm.Cond.methodLink "com/example/rummage/rummage/CharSeekOpeningPinLaw" (37 : Nat) ({ cls := "com/example/rummage/rummage/CharSeek", name := "opening", desc := "([CI)I" } : Jvm.MethodName)).before a0 Z = true := hw _ (List.mem_of_getElem? (i := 139) rfl)
theorem wd_140 {a0 : Array Value} {Z : State} (hw : ∀ d ∈ tables_1, d.before a0 Z = true) : (Jvm.Cond.declares ({ cls := "com/example/rummage/rummage/CharSeek", name := "opening", desc := "([CI)I" } : Jvm.MethodName)).before a0 Z = true := hw _ (List.mem_of_getElem? (i := 140) rfl)
theorem wd_141 {a0 : Array Value} {Z : State} (hw : ∀ d ∈ tables_1, d.before a0 Z = true) : (Jvm.Cond.instanceMethod ({ cls := "com/example/rummage/rummage/CharSeek", name := "opening", desc := "([CI)I" } : Jvm.MethodName)).before a0 Z = true := hw _ (List.mem_of_getElem? (i := 141) rfl)
theorem wd_142 {a0 : Array Value} {Z : State} (hw : ∀ d ∈ tables_1, d.before a0 Z = true) : (Jvm.Cond.selects "com/example/rummage/rummage/CharSeek" ({ cls := "com/example/rummage/rummage/CharSeek", name := "opening", desc := "([CI)I" } : Jvm.MethodName) ({ cls := "com/example/rummage/rummage/CharSeek", name := "opening", desc := "([CI)I" } : Jvm.MethodName)).before a0 Z = true := hw _ (List.mem_of_getElem? (i := 142) rfl)
theorem wd_143 {a0 : Array Value} {Z : State} (hw : ∀ d ∈ tables_1, d.before a0 Z = true) : (Jvm.Cond.code ({ cls := "com/example/rummage/rummage/CharSeek", name := "opening", desc := "([CI)I" } : Jvm.MethodName) prog_7_method_3_code (4 : Nat) (Option.some Jvm.ClassFile.FieldType.int)).before a0 Z = true := hw _ (List.mem_of_getElem? (i := 143) rfl)
theorem wd_144 {a0 : Array Value} {Z : State} (hw : ∀ d ∈ tables_1, d.before a0 Z = true) : (Jvm.Cond.fieldLink "com/example/rummage/rummage/SeekPlan" (62 : Nat) "com/example/rummage/rummage/SeekPlan" "COMMONEST" "I").before a0 Z = true := hw _ (List.mem_of_getElem? (i := 144) rfl)
theorem wd_145 {a0 : Array Value} {Z : State} (hw : ∀ d ∈ tables_1, d.before a0 Z = true) : (Jvm.Cond.laysStatic "com/example/rummage/rummage/SeekPlan" "COMMONEST" "I").before a0 Z = true := hw _ (List.mem_of_getElem? (i := 145) rfl)
theorem d1_0 : decode method_3_code 0 = .ok (.iload 4, 2) := by decide +kernel
theorem d1_2 : decode method_3_code 2 = .ok (.iload_n 3, 1) := by decide +kernel
theorem d1_3 : decode method_3_code 3 = .ok (.if_icmp .ge 24, 3) := by decide +kernel
theorem d1_6 : decode method_3_code 6 = .ok (.iload 5, 2) := by decide +kernel
theorem d1_8 : decode method_3_code 8 = .ok (.iload 4, 2) := by decide +kernel
theorem d1_10 : decode method_3_code 10 = .ok (.iushr, 1) := by decide +kernel
theorem d1_11 : decode method_3_code 11 = .ok (.iconst 1, 1) := by decide +kernel
theorem d1_12 : decode method_3_code 12 = .ok (.iand, 1) := by decide +kernel
theorem d1_13 : decode method_3_code 13 = .ok (.ifCond .eq 14, 3) := by decide +kernel
theorem d1_16 : decode method_3_code 16 = .ok (.aload_n 0, 1) := by decide +kernel
theorem d1_17 : decode method_3_code 17 = .ok (.iload_n 1, 1) := by decide +kernel
theorem d1_18 : decode method_3_code 18 = .ok (.iload 4, 2) := by decide +kernel
theorem d1_20 : decode method_3_code 20 = .ok (.iadd, 1) := by decide +kernel
theorem d1_21 : decode method_3_code 21 = .ok (.aload_n 2, 1) := by decide +kernel
theorem d1_22 : decode method_3_code 22 = .ok (.iload 4, 2) := by decide +kernel
theorem d1_24 : decode method_3_code 24 = .ok (.iaload, 1) := by decide +kernel
theorem d1_25 : decode method_3_code 25 = .ok (.i2c, 1) := by decide +kernel
theorem d1_26 : decode method_3_code 26 = .ok (.castore, 1) := by decide +kernel
theorem d1_27 : decode method_3_code 27 = .ok (.return_, 1) := by decide +kernel
theorem d2_0 : decode prog_21_method_6_code 0 = .ok (.new 2, 3) := by decide +kernel
theorem d2_3 : decode prog_21_method_6_code 3 = .ok (.dup, 1) := by decide +kernel
theorem d2_4 : decode prog_21_method_6_code 4 = .ok (.aload_n 0, 1) := by decide +kernel
theorem d2_5 : decode prog_21_method_6_code 5 = .ok (.iconst 1, 1) := by decide +kernel
theorem d2_6 : decode prog_21_method_6_code 6 = .ok (.aload_n 0, 1) := by decide +kernel
theorem d2_7 : decode prog_21_method_6_code 7 = .ok (.arraylength, 1) := by decide +kernel
theorem d2_8 : decode prog_21_method_6_code 8 = .ok (.invokestatic 75, 3) := by decide +kernel
theorem d2_11 : decode prog_21_method_6_code 11 = .ok (.aload_n 0, 1) := by decide +kernel
theorem d2_12 : decode prog_21_method_6_code 12 = .ok (.arraylength, 1) := by decide +kernel
theorem d2_13 : decode prog_21_method_6_code 13 = .ok (.iconst 1, 1) := by decide +kernel
theorem d2_14 : decode prog_21_method_6_code 14 = .ok (.if_icmp .le 7, 3) := by decide +kernel
theorem d2_17 : decode prog_21_method_6_code 17 = .ok (.iconst 1, 1) := by decide +kernel
theorem d2_18 : decode prog_21_method_6_code 18 = .ok (.goto 4, 3) := by decide +kernel
theorem d2_21 : decode prog_21_method_6_code 21 = .ok (.iconst 0, 1) := by decide +kernel
theorem d2_22 : decode prog_21_method_6_code 22 = .ok (.invokespecial 1, 3) := by decide +kernel
theorem d2_25 : decode prog_21_method_6_code 25 = .ok (.areturn, 1) := by decide +kernel
theorem d3_0 : decode jdk_29_method_69_code 0 = .ok (.iload_n 0, 1) := by decide +kernel
theorem d3_1 : decode jdk_29_method_69_code 1 = .ok (.iload_n 1, 1) := by decide +kernel
theorem d3_2 : decode jdk_29_method_69_code 2 = .ok (.if_icmp .gt 7, 3) := by decide +kernel
theorem d3_5 : decode jdk_29_method_69_code 5 = .ok (.iload_n 0, 1) := by decide +kernel
theorem d3_6 : decode jdk_29_method_69_code 6 = .ok (.goto 4, 3) := by decide +kernel
theorem d3_10 : decode jdk_29_method_69_code 10 = .ok (.ireturn, 1) := by decide +kernel
theorem d4_0 : decode prog_21_method_2_code 0 = .ok (.aload_n 0, 1) := by decide +kernel
theorem d4_1 : decode prog_21_method_2_code 1 = .ok (.aload_n 1, 1) := by decide +kernel
theorem d4_2 : decode prog_21_method_2_code 2 = .ok (.aload_n 1, 1) := by decide +kernel
theorem d4_3 : decode prog_21_method_2_code 3 = .ok (.iload_n 2, 1) := by decide +kernel
theorem d4_4 : decode prog_21_method_2_code 4 = .ok (.iload_n 3, 1) := by decide +kernel
theorem d4_5 : decode prog_21_method_2_code 5 = .ok (.iconst (-1), 1) := by decide +kernel
theorem d4_6 : decode prog_21_method_2_code 6 = .ok (.iconst 0, 1) := by decide +kernel
theorem d4_7 : decode prog_21_method_2_code 7 = .ok (.invokestatic 7, 3) := by decide +kernel
theorem d4_10 : decode prog_21_method_2_code 10 = .ok (.iload_n 2, 1) := by decide +kernel
theorem d4_11 : decode prog_21_method_2_code 11 = .ok (.iload_n 3, 1) := by decide +kernel
theorem d4_12 : decode prog_21_method_2_code 12 = .ok (.invokespecial 11, 3) := by decide +kernel
theorem d4_15 : decode prog_21_method_2_code 15 = .ok (.return_, 1) := by decide +kernel
theorem d5_0 : decode prog_21_method_18_code 0 = .ok (.iload_n 3, 1) := by decide +kernel
theorem d5_1 : decode prog_21_method_18_code 1 = .ok (.istore 5, 2) := by decide +kernel
theorem d5_3 : decode prog_21_method_18_code 3 = .ok (.ldc 87, 2) := by decide +kernel
theorem d5_5 : decode prog_21_method_18_code 5 = .ok (.istore 6, 2) := by decide +kernel
theorem d5_7 : decode prog_21_method_18_code 7 = .ok (.iload_n 2, 1) := by decide +kernel
theorem d5_8 : decode prog_21_method_18_code 8 = .ok (.istore 7, 2) := by decide +kernel
theorem d5_10 : decode prog_21_method_18_code 10 = .ok (.iload 7, 2) := by decide +kernel
theorem d5_12 : decode prog_21_method_18_code 12 = .ok (.aload_n 0, 1) := by decide +kernel
theorem d5_13 : decode prog_21_method_18_code 13 = .ok (.arraylength, 1) := by decide +kernel
theorem d5_14 : decode prog_21_method_18_code 14 = .ok (.iload_n 1, 1) := by decide +kernel
theorem d5_15 : decode prog_21_method_18_code 15 = .ok (.isub, 1) := by decide +kernel
theorem d5_16 : decode prog_21_method_18_code 16 = .ok (.if_icmp .gt 76, 3) := by decide +kernel
theorem d5_19 : decode prog_21_method_18_code 19 = .ok (.iconst 0, 1) := by decide +kernel
theorem d5_20 : decode prog_21_method_18_code 20 = .ok (.istore 8, 2) := by decide +kernel
theorem d5_22 : decode prog_21_method_18_code 22 = .ok (.iload 7, 2) := by decide +kernel
theorem d5_24 : decode prog_21_method_18_code 24 = .ok (.istore 9, 2) := by decide +kernel
theorem d5_26 : decode prog_21_method_18_code 26 = .ok (.iload 9, 2) := by decide +kernel
theorem d5_28 : decode prog_21_method_18_code 28 = .ok (.iload 7, 2) := by decide +kernel
theorem d5_30 : decode prog_21_method_18_code 30 = .ok (.iload_n 1, 1) := by decide +kernel
theorem d5_31 : decode prog_21_method_18_code 31 = .ok (.iadd, 1) := by decide +kernel
theorem d5_32 : decode prog_21_method_18_code 32 = .ok (.if_icmp .ge 21, 3) := by decide +kernel
theorem d5_35 : decode prog_21_method_18_code 35 = .ok (.iload 8, 2) := by decide +kernel
theorem d5_37 : decode prog_21_method_18_code 37 = .ok (.aload_n 0, 1) := by decide +kernel
theorem d5_38 : decode prog_21_method_18_code 38 = .ok (.iload 9, 2) := by decide +kernel
theorem d5_40 : decode prog_21_method_18_code 40 = .ok (.iaload, 1) := by decide +kernel
theorem d5_41 : decode prog_21_method_18_code 41 = .ok (.invokestatic 52, 3) := by decide +kernel
theorem d5_44 : decode prog_21_method_18_code 44 = .ok (.iadd, 1) := by decide +kernel
theorem d5_45 : decode prog_21_method_18_code 45 = .ok (.istore 8, 2) := by decide +kernel
theorem d5_47 : decode prog_21_method_18_code 47 = .ok (.iinc 9 1, 3) := by decide +kernel
theorem d5_50 : decode prog_21_method_18_code 50 = .ok (.goto (-24), 3) := by decide +kernel
theorem d5_53 : decode prog_21_method_18_code 53 = .ok (.iload 7, 2) := by decide +kernel
theorem d5_55 : decode prog_21_method_18_code 55 = .ok (.iload_n 3, 1) := by decide +kernel
theorem d5_56 : decode prog_21_method_18_code 56 = .ok (.if_icmp .eq 30, 3) := by decide +kernel
theorem d5_59 : decode prog_21_method_18_code 59 = .ok (.iload 8, 2) := by decide +kernel
theorem d5_61 : decode prog_21_method_18_code 61 = .ok (.iload 6, 2) := by decide +kernel
theorem d5_63 : decode prog_21_method_18_code 63 = .ok (.if_icmp .lt 15, 3) := by decide +kernel
theorem d5_66 : decode prog_21_method_18_code 66 = .ok (.iload 8, 2) := by decide +kernel
theorem d5_68 : decode prog_21_method_18_code 68 = .ok (.iload 6, 2) := by decide +kernel
theorem d5_70 : decode prog_21_method_18_code 70 = .ok (.if_icmp .ne 16, 3) := by decide +kernel
theorem d5_73 : decode prog_21_method_18_code 73 = .ok (.iload 4, 2) := by decide +kernel
theorem d5_75 : decode prog_21_method_18_code 75 = .ok (.ifCond .eq 11, 3) := by decide +kernel
theorem d5_78 : decode prog_21_method_18_code 78 = .ok (.iload 7, 2) := by decide +kernel
theorem d5_80 : decode prog_21_method_18_code 80 = .ok (.istore 5, 2) := by decide +kernel
theorem d5_82 : decode prog_21_method_18_code 82 = .ok (.iload 8, 2) := by decide +kernel
theorem d5_84 : decode prog_21_method_18_code 84 = .ok (.istore 6, 2) := by decide +kernel
theorem d5_86 : decode prog_21_method_18_code 86 = .ok (.iinc 7 1, 3) := by decide +kernel
theorem d5_89 : decode prog_21_method_18_code 89 = .ok (.goto (-79), 3) := by decide +kernel
theorem d5_92 : decode prog_21_method_18_code 92 = .ok (.iload 5, 2) := by decide +kernel
theorem d5_94 : decode prog_21_method_18_code 94 = .ok (.ireturn, 1) := by decide +kernel
theorem d6_0 : decode prog_21_method_22_code 0 = .ok (.iload_n 0, 1) := by decide +kernel
theorem d6_1 : decode prog_21_method_22_code 1 = .ok (.getstatic 91, 3) := by decide +kernel
theorem d6_4 : decode prog_21_method_22_code 4 = .ok (.arraylength, 1) := by decide +kernel
theorem d6_5 : decode prog_21_method_22_code 5 = .ok (.if_icmp .ge 11, 3) := by decide +kernel
theorem d6_8 : decode prog_21_method_22_code 8 = .ok (.getstatic 91, 3) := by decide +kernel
theorem d6_11 : decode prog_21_method_22_code 11 = .ok (.iload_n 0, 1) := by decide +kernel
theorem d6_12 : decode prog_21_method_22_code 12 = .ok (.baload, 1) := by decide +kernel
theorem d6_13 : decode prog_21_method_22_code 13 = .ok (.goto 4, 3) := by decide +kernel
theorem d6_16 : decode prog_21_method_22_code 16 = .ok (.iconst 0, 1) := by decide +kernel
theorem d6_17 : decode prog_21_method_22_code 17 = .ok (.ireturn, 1) := by decide +kernel
theorem d7_0 : decode prog_21_method_3_code 0 = .ok (.aload_n 0, 1) := by decide +kernel
theorem d7_1 : decode prog_21_method_3_code 1 = .ok (.invokespecial 14, 3) := by decide +kernel
theorem d7_4 : decode prog_21_method_3_code 4 = .ok (.aload_n 0, 1) := by decide +kernel
theorem d7_5 : decode prog_21_method_3_code 5 = .ok (.iload_n 2, 1) := by decide +kernel
theorem d7_6 : decode prog_21_method_3_code 6 = .ok (.putfield 19, 3) := by decide +kernel
theorem d7_9 : decode prog_21_method_3_code 9 = .ok (.aload_n 0, 1) := by decide +kernel
theorem d7_10 : decode prog_21_method_3_code 10 = .ok (.aload_n 1, 1) := by decide +kernel
theorem d7_11 : decode prog_21_method_3_code 11 = .ok (.iconst 1, 1) := by decide +kernel
theorem d7_12 : decode prog_21_method_3_code 12 = .ok (.iload 4, 2) := by decide +kernel
theorem d7_14 : decode prog_21_method_3_code 14 = .ok (.iload_n 2, 1) := by decide +kernel
theorem d7_15 : decode prog_21_method_3_code 15 = .ok (.iconst 1, 1) := by decide +kernel
theorem d7_16 : decode prog_21_method_3_code 16 = .ok (.invokestatic 7, 3) := by decide +kernel
theorem d7_19 : decode prog_21_method_3_code 19 = .ok (.putfield 23, 3) := by decide +kernel
theorem d7_22 : decode prog_21_method_3_code 22 = .ok (.aload_n 0, 1) := by decide +kernel
theorem d7_23 : decode prog_21_method_3_code 23 = .ok (.aload_n 1, 1) := by decide +kernel
theorem d7_24 : decode prog_21_method_3_code 24 = .ok (.arraylength, 1) := by decide +kernel
theorem d7_25 : decode prog_21_method_3_code 25 = .ok (.ifCond .le 19, 3) := by decide +kernel
theorem d7_28 : decode prog_21_method_3_code 28 = .ok (.new 26, 3) := by decide +kernel
theorem d7_31 : decode prog_21_method_3_code 31 = .ok (.dup, 1) := by decide +kernel
theorem d7_32 : decode prog_21_method_3_code 32 = .ok (.aload_n 1, 1) := by decide +kernel
theorem d7_33 : decode prog_21_method_3_code 33 = .ok (.aload_n 0, 1) := by decide +kernel
theorem d7_34 : decode prog_21_method_3_code 34 = .ok (.getfield 23, 3) := by decide +kernel
theorem d7_37 : decode prog_21_method_3_code 37 = .ok (.iconst 1, 1) := by decide +kernel
theorem d7_38 : decode prog_21_method_3_code 38 = .ok (.invokespecial 28, 3) := by decide +kernel
theorem d7_41 : decode prog_21_method_3_code 41 = .ok (.goto 5, 3) := by decide +kernel
theorem d7_46 : decode prog_21_method_3_code 46 = .ok (.putfield 31, 3) := by decide +kernel
theorem d7_49 : decode prog_21_method_3_code 49 = .ok (.aload_n 0, 1) := by decide +kernel
theorem d7_50 : decode prog_21_method_3_code 50 = .ok (.new 26, 3) := by decide +kernel
theorem d7_53 : decode prog_21_method_3_code 53 = .ok (.dup, 1) := by decide +kernel
theorem d7_54 : decode prog_21_method_3_code 54 = .ok (.aload_n 1, 1) := by decide +kernel
theorem d7_55 : decode prog_21_method_3_code 55 = .ok (.iload_n 2, 1) := by decide +kernel
theorem d7_56 : decode prog_21_method_3_code 56 = .ok (.iload_n 3, 1) := by decide +kernel
theorem d7_57 : decode prog_21_method_3_code 57 = .ok (.invokespecial 28, 3) := by decide +kernel
theorem d7_60 : decode prog_21_method_3_code 60 = .ok (.putfield 35, 3) := by decide +kernel
theorem d7_63 : decode prog_21_method_3_code 63 = .ok (.aload_n 0, 1) := by decide +kernel
theorem d7_64 : decode prog_21_method_3_code 64 = .ok (.iload_n 2, 1) := by decide +kernel
theorem d7_65 : decode prog_21_method_3_code 65 = .ok (.ifCond .ne 15, 3) := by decide +kernel
theorem d7_68 : decode prog_21_method_3_code 68 = .ok (.aload_n 0, 1) := by decide +kernel
theorem d7_69 : decode prog_21_method_3_code 69 = .ok (.getfield 23, 3) := by decide +kernel
theorem d7_72 : decode prog_21_method_3_code 72 = .ok (.iload_n 3, 1) := by decide +kernel
theorem d7_73 : decode prog_21_method_3_code 73 = .ok (.if_icmp .ge 7, 3) := by decide +kernel
theorem d7_76 : decode prog_21_method_3_code 76 = .ok (.iconst 1, 1) := by decide +kernel
theorem d7_77 : decode prog_21_method_3_code 77 = .ok (.goto 4, 3) := by decide +kernel
theorem d7_80 : decode prog_21_method_3_code 80 = .ok (.iconst 0, 1) := by decide +kernel
theorem d7_81 : decode prog_21_method_3_code 81 = .ok (.putfield 38, 3) := by decide +kernel
theorem d7_84 : decode prog_21_method_3_code 84 = .ok (.aload_n 0, 1) := by decide +kernel
theorem d7_85 : decode prog_21_method_3_code 85 = .ok (.iload_n 3, 1) := by decide +kernel
theorem d7_86 : decode prog_21_method_3_code 86 = .ok (.aload_n 1, 1) := by decide +kernel
theorem d7_87 : decode prog_21_method_3_code 87 = .ok (.arraylength, 1) := by decide +kernel
theorem d7_88 : decode prog_21_method_3_code 88 = .ok (.if_icmp .ne 7, 3) := by decide +kernel
theorem d7_91 : decode prog_21_method_3_code 91 = .ok (.iconst 1, 1) := by decide +kernel
theorem d7_92 : decode prog_21_method_3_code 92 = .ok (.goto 4, 3) := by decide +kernel
theorem d7_95 : decode prog_21_method_3_code 95 = .ok (.iconst 0, 1) := by decide +kernel
theorem d7_96 : decode prog_21_method_3_code 96 = .ok (.putfield 42, 3) := by decide +kernel
theorem d7_99 : decode prog_21_method_3_code 99 = .ok (.aload_n 0, 1) := by decide +kernel
theorem d7_100 : decode prog_21_method_3_code 100 = .ok (.aload_n 1, 1) := by decide +kernel
theorem d7_101 : decode prog_21_method_3_code 101 = .ok (.iload_n 2, 1) := by decide +kernel
theorem d7_102 : decode prog_21_method_3_code 102 = .ok (.iload_n 3, 1) := by decide +kernel
theorem d7_103 : decode prog_21_method_3_code 103 = .ok (.invokestatic 45, 3) := by decide +kernel
theorem d7_106 : decode prog_21_method_3_code 106 = .ok (.putfield 49, 3) := by decide +kernel
theorem d7_109 : decode prog_21_method_3_code 109 = .ok (.aload_n 0, 1) := by decide +kernel
theorem d7_110 : decode prog_21_method_3_code 110 = .ok (.aload_n 1, 1) := by decide +kernel
theorem d7_111 : decode prog_21_method_3_code 111 = .ok (.arraylength, 1) := by decide +kernel
theorem d7_112 : decode prog_21_method_3_code 112 = .ok (.ifCond .le 25, 3) := by decide +kernel
theorem d7_115 : decode prog_21_method_3_code 115 = .ok (.aload_n 1, 1) := by decide +kernel
theorem d7_116 : decode prog_21_method_3_code 116 = .ok (.aload_n 0, 1) := by decide +kernel
theorem d7_117 : decode prog_21_method_3_code 117 = .ok (.getfield 23, 3) := by decide +kernel
theorem d7_120 : decode prog_21_method_3_code 120 = .ok (.iaload, 1) := by decide +kernel
theorem d7_121 : decode prog_21_method_3_code 121 = .ok (.invokestatic 52, 3) := by decide +kernel
theorem d7_124 : decode prog_21_method_3_code 124 = .ok (.aload_n 1, 1) := by decide +kernel
theorem d7_125 : decode prog_21_method_3_code 125 = .ok (.iload_n 2, 1) := by decide +kernel
theorem d7_126 : decode prog_21_method_3_code 126 = .ok (.iaload, 1) := by decide +kernel
theorem d7_127 : decode prog_21_method_3_code 127 = .ok (.invokestatic 52, 3) := by decide +kernel
theorem d7_130 : decode prog_21_method_3_code 130 = .ok (.if_icmp .ge 7, 3) := by decide +kernel
theorem d7_133 : decode prog_21_method_3_code 133 = .ok (.iconst 1, 1) := by decide +kernel
theorem d7_134 : decode prog_21_method_3_code 134 = .ok (.goto 4, 3) := by decide +kernel
theorem d7_137 : decode prog_21_method_3_code 137 = .ok (.iconst 0, 1) := by decide +kernel
theorem d7_138 : decode prog_21_method_3_code 138 = .ok (.putfield 56, 3) := by decide +kernel
theorem d7_141 : decode prog_21_method_3_code 141 = .ok (.aload_n 0, 1) := by decide +kernel
theorem d7_142 : decode prog_21_method_3_code 142 = .ok (.aload_n 1, 1) := by decide +kernel
theorem d7_143 : decode prog_21_method_3_code 143 = .ok (.arraylength, 1) := by decide +kernel
theorem d7_144 : decode prog_21_method_3_code 144 = .ok (.ifCond .le 22, 3) := by decide +kernel
theorem d7_147 : decode prog_21_method_3_code 147 = .ok (.aload_n 1, 1) := by decide +kernel
theorem d7_148 : decode prog_21_method_3_code 148 = .ok (.iconst 0, 1) := by decide +kernel
theorem d7_149 : decode prog_21_method_3_code 149 = .ok (.iaload, 1) := by decide +kernel
theorem d7_150 : decode prog_21_method_3_code 150 = .ok (.invokestatic 52, 3) := by decide +kernel
theorem d7_153 : decode prog_21_method_3_code 153 = .ok (.aload_n 1, 1) := by decide +kernel
theorem d7_154 : decode prog_21_method_3_code 154 = .ok (.iload_n 2, 1) := by decide +kernel
theorem d7_155 : decode prog_21_method_3_code 155 = .ok (.iaload, 1) := by decide +kernel
theorem d7_156 : decode prog_21_method_3_code 156 = .ok (.invokestatic 52, 3) := by decide +kernel
theorem d7_159 : decode prog_21_method_3_code 159 = .ok (.if_icmp .ge 7, 3) := by decide +kernel
theorem d7_162 : decode prog_21_method_3_code 162 = .ok (.iconst 1, 1) := by decide +kernel
theorem d7_163 : decode prog_21_method_3_code 163 = .ok (.goto 4, 3) := by decide +kernel
theorem d7_166 : decode prog_21_method_3_code 166 = .ok (.iconst 0, 1) := by decide +kernel
theorem d7_167 : decode prog_21_method_3_code 167 = .ok (.putfield 59, 3) := by decide +kernel
theorem d7_170 : decode prog_21_method_3_code 170 = .ok (.aload_n 0, 1) := by decide +kernel
theorem d7_171 : decode prog_21_method_3_code 171 = .ok (.getfield 59, 3) := by decide +kernel
theorem d7_174 : decode prog_21_method_3_code 174 = .ok (.ifCond .eq 7, 3) := by decide +kernel
theorem d7_177 : decode prog_21_method_3_code 177 = .ok (.iconst 0, 1) := by decide +kernel
theorem d7_178 : decode prog_21_method_3_code 178 = .ok (.goto 4, 3) := by decide +kernel
theorem d7_181 : decode prog_21_method_3_code 181 = .ok (.iload_n 2, 1) := by decide +kernel
theorem d7_182 : decode prog_21_method_3_code 182 = .ok (.istore 5, 2) := by decide +kernel
theorem d7_184 : decode prog_21_method_3_code 184 = .ok (.aload_n 0, 1) := by decide +kernel
theorem d7_185 : decode prog_21_method_3_code 185 = .ok (.aload_n 1, 1) := by decide +kernel
theorem d7_186 : decode prog_21_method_3_code 186 = .ok (.arraylength, 1) := by decide +kernel
theorem d7_187 : decode prog_21_method_3_code 187 = .ok (.ifCond .le 29, 3) := by decide +kernel
theorem d7_190 : decode prog_21_method_3_code 190 = .ok (.aload_n 0, 1) := by decide +kernel
theorem d7_191 : decode prog_21_method_3_code 191 = .ok (.getfield 23, 3) := by decide +kernel
theorem d7_194 : decode prog_21_method_3_code 194 = .ok (.iload 5, 2) := by decide +kernel
theorem d7_196 : decode prog_21_method_3_code 196 = .ok (.if_icmp .eq 20, 3) := by decide +kernel
theorem d7_199 : decode prog_21_method_3_code 199 = .ok (.aload_n 1, 1) := by decide +kernel
theorem d7_200 : decode prog_21_method_3_code 200 = .ok (.iload 5, 2) := by decide +kernel
theorem d7_202 : decode prog_21_method_3_code 202 = .ok (.iaload, 1) := by decide +kernel
theorem d7_203 : decode prog_21_method_3_code 203 = .ok (.invokestatic 52, 3) := by decide +kernel
theorem d7_206 : decode prog_21_method_3_code 206 = .ok (.getstatic 62, 3) := by decide +kernel
theorem d7_209 : decode prog_21_method_3_code 209 = .ok (.if_icmp .lt 7, 3) := by decide +kernel
theorem d7_212 : decode prog_21_method_3_code 212 = .ok (.iconst 1, 1) := by decide +kernel
theorem d7_213 : decode prog_21_method_3_code 213 = .ok (.goto 4, 3) := by decide +kernel
theorem d7_216 : decode prog_21_method_3_code 216 = .ok (.iconst 0, 1) := by decide +kernel
theorem d7_217 : decode prog_21_method_3_code 217 = .ok (.putfield 65, 3) := by decide +kernel
theorem d7_220 : decode prog_21_method_3_code 220 = .ok (.return_, 1) := by decide +kernel
theorem d9_0 : decode jdk_42_method_6_code 0 = .ok (.aload_n 0, 1) := by decide +kernel
theorem d9_1 : decode jdk_42_method_6_code 1 = .ok (.invokespecial 1, 3) := by decide +kernel
theorem d9_4 : decode jdk_42_method_6_code 4 = .ok (.iload_n 2, 1) := by decide +kernel
theorem d9_5 : decode jdk_42_method_6_code 5 = .ok (.iload_n 3, 1) := by decide +kernel
theorem d9_6 : decode jdk_42_method_6_code 6 = .ok (.aload_n 1, 1) := by decide +kernel
theorem d9_7 : decode jdk_42_method_6_code 7 = .ok (.arraylength, 1) := by decide +kernel
theorem d9_8 : decode jdk_42_method_6_code 8 = .ok (.invokestatic 34, 3) := by decide +kernel
theorem d9_11 : decode jdk_42_method_6_code 11 = .ok (.pop, 1) := by decide +kernel
theorem d9_12 : decode jdk_42_method_6_code 12 = .ok (.iload_n 3, 1) := by decide +kernel
theorem d9_13 : decode jdk_42_method_6_code 13 = .ok (.ifCond .ne 22, 3) := by decide +kernel
theorem d9_35 : decode jdk_42_method_6_code 35 = .ok (.getstatic 38, 3) := by decide +kernel
theorem d9_38 : decode jdk_42_method_6_code 38 = .ok (.ifCond .eq 28, 3) := by decide +kernel
theorem d9_41 : decode jdk_42_method_6_code 41 = .ok (.aload_n 1, 1) := by decide +kernel
theorem d9_42 : decode jdk_42_method_6_code 42 = .ok (.iload_n 2, 1) := by decide +kernel
theorem d9_43 : decode jdk_42_method_6_code 43 = .ok (.iload_n 3, 1) := by decide +kernel
theorem d9_44 : decode jdk_42_method_6_code 44 = .ok (.invokestatic 41, 3) := by decide +kernel
theorem d9_47 : decode jdk_42_method_6_code 47 = .ok (.astore 4, 2) := by decide +kernel
theorem d9_49 : decode jdk_42_method_6_code 49 = .ok (.aload_n 0, 1) := by decide +kernel
theorem d9_50 : decode jdk_42_method_6_code 50 = .ok (.aload 4, 2) := by decide +kernel
theorem d9_52 : decode jdk_42_method_6_code 52 = .ok (.iload_n 3, 1) := by decide +kernel
theorem d9_53 : decode jdk_42_method_6_code 53 = .ok (.invokestatic 47, 3) := by decide +kernel
theorem d9_56 : decode jdk_42_method_6_code 56 = .ok (.putfield 15, 3) := by decide +kernel
theorem d9_59 : decode jdk_42_method_6_code 59 = .ok (.aload_n 0, 1) := by decide +kernel
theorem d9_60 : decode jdk_42_method_6_code 60 = .ok (.aload 4, 2) := by decide +kernel
theorem d9_62 : decode jdk_42_method_6_code 62 = .ok (.putfield 9, 3) := by decide +kernel
theorem d9_65 : decode jdk_42_method_6_code 65 = .ok (.return_, 1) := by decide +kernel
theorem d10_0 : decode jdk_42_method_157_code 0 = .ok (.iload_n 0, 1) := by decide +kernel
theorem d10_1 : decode jdk_42_method_157_code 1 = .ok (.iload_n 1, 1) := by decide +kernel
theorem d10_2 : decode jdk_42_method_157_code 2 = .ok (.iload_n 2, 1) := by decide +kernel
theorem d10_3 : decode jdk_42_method_157_code 3 = .ok (.getstatic 1053, 3) := by decide +kernel
theorem d10_6 : decode jdk_42_method_157_code 6 = .ok (.invokestatic 1065, 3) := by decide +kernel
theorem d10_9 : decode jdk_42_method_157_code 9 = .ok (.ireturn, 1) := by decide +kernel
theorem d11_0 : decode jdk_41_method_13_code 0 = .ok (.iload_n 2, 1) := by decide +kernel
theorem d11_1 : decode jdk_41_method_13_code 1 = .ok (.iload_n 0, 1) := by decide +kernel
theorem d11_2 : decode jdk_41_method_13_code 2 = .ok (.ior, 1) := by decide +kernel
theorem d11_3 : decode jdk_41_method_13_code 3 = .ok (.iload_n 1, 1) := by decide +kernel
theorem d11_4 : decode jdk_41_method_13_code 4 = .ok (.ior, 1) := by decide +kernel
theorem d11_5 : decode jdk_41_method_13_code 5 = .ok (.ifCond .lt 10, 3) := by decide +kernel
theorem d11_8 : decode jdk_41_method_13_code 8 = .ok (.iload_n 1, 1) := by decide +kernel
theorem d11_9 : decode jdk_41_method_13_code 9 = .ok (.iload_n 2, 1) := by decide +kernel
theorem d11_10 : decode jdk_41_method_13_code 10 = .ok (.iload_n 0, 1) := by decide +kernel
theorem d11_11 : decode jdk_41_method_13_code 11 = .ok (.isub, 1) := by decide +kernel
theorem d11_12 : decode jdk_41_method_13_code 12 = .ok (.if_icmp .le 11, 3) := by decide +kernel
theorem d11_23 : decode jdk_41_method_13_code 23 = .ok (.iload_n 0, 1) := by decide +kernel
theorem d11_24 : decode jdk_41_method_13_code 24 = .ok (.ireturn, 1) := by decide +kernel
theorem d12_0 : decode jdk_52_method_18_code 0 = .ok (.iload_n 2, 1) := by decide +kernel
theorem d12_1 : decode jdk_52_method_18_code 1 = .ok (.newarray .byte, 2) := by decide +kernel
theorem d12_3 : decode jdk_52_method_18_code 3 = .ok (.astore_n 3, 1) := by decide +kernel
theorem d12_4 : decode jdk_52_method_18_code 4 = .ok (.iload_n 1, 1) := by decide +kernel
theorem d12_5 : decode jdk_52_method_18_code 5 = .ok (.iload_n 2, 1) := by decide +kernel
theorem d12_6 : decode jdk_52_method_18_code 6 = .ok (.iadd, 1) := by decide +kernel
theorem d12_7 : decode jdk_52_method_18_code 7 = .ok (.istore 4, 2) := by decide +kernel
theorem d12_9 : decode jdk_52_method_18_code 9 = .ok (.iconst 0, 1) := by decide +kernel
theorem d12_10 : decode jdk_52_method_18_code 10 = .ok (.istore 5, 2) := by decide +kernel
theorem d12_12 : decode jdk_52_method_18_code 12 = .ok (.iload 5, 2) := by decide +kernel
theorem d12_14 : decode jdk_52_method_18_code 14 = .ok (.iload_n 2, 1) := by decide +kernel
theorem d12_15 : decode jdk_52_method_18_code 15 = .ok (.if_icmp .ge 170, 3) := by decide +kernel
theorem d12_18 : decode jdk_52_method_18_code 18 = .ok (.aload_n 0, 1) := by decide +kernel
theorem d12_19 : decode jdk_52_method_18_code 19 = .ok (.iload_n 1, 1) := by decide +kernel
theorem d12_20 : decode jdk_52_method_18_code 20 = .ok (.iaload, 1) := by decide +kernel
theorem d12_21 : decode jdk_52_method_18_code 21 = .ok (.istore 6, 2) := by decide +kernel
theorem d12_23 : decode jdk_52_method_18_code 23 = .ok (.iload 6, 2) := by decide +kernel
theorem d12_25 : decode jdk_52_method_18_code 25 = .ok (.ifCond .lt 21, 3) := by decide +kernel
theorem d12_28 : decode jdk_52_method_18_code 28 = .ok (.iload 6, 2) := by decide +kernel
theorem d12_30 : decode jdk_52_method_18_code 30 = .ok (.sipush 255, 3) := by decide +kernel
theorem d12_33 : decode jdk_52_method_18_code 33 = .ok (.if_icmp .gt 13, 3) := by decide +kernel
theorem d12_36 : decode jdk_52_method_18_code 36 = .ok (.aload_n 3, 1) := by decide +kernel
theorem d12_37 : decode jdk_52_method_18_code 37 = .ok (.iload 5, 2) := by decide +kernel
theorem d12_39 : decode jdk_52_method_18_code 39 = .ok (.iload 6, 2) := by decide +kernel
theorem d12_41 : decode jdk_52_method_18_code 41 = .ok (.i2b, 1) := by decide +kernel
theorem d12_42 : decode jdk_52_method_18_code 42 = .ok (.bastore, 1) := by decide +kernel
theorem d12_43 : decode jdk_52_method_18_code 43 = .ok (.goto 133, 3) := by decide +kernel
theorem d12_176 : decode jdk_52_method_18_code 176 = .ok (.iinc 5 1, 3) := by decide +kernel
theorem d12_179 : decode jdk_52_method_18_code 179 = .ok (.iinc 1 1, 3) := by decide +kernel
theorem d12_182 : decode jdk_52_method_18_code 182 = .ok (.goto (-170), 3) := by decide +kernel
theorem d12_185 : decode jdk_52_method_18_code 185 = .ok (.aload_n 3, 1) := by decide +kernel
theorem d12_186 : decode jdk_52_method_18_code 186 = .ok (.areturn, 1) := by decide +kernel
theorem d13_0 : decode jdk_52_method_15_code 0 = .ok (.iload_n 1, 1) := by decide +kernel
theorem d13_1 : decode jdk_52_method_15_code 1 = .ok (.aload_n 0, 1) := by decide +kernel
theorem d13_2 : decode jdk_52_method_15_code 2 = .ok (.arraylength, 1) := by decide +kernel
theorem d13_3 : decode jdk_52_method_15_code 3 = .ok (.isub, 1) := by decide +kernel
theorem d13_4 : decode jdk_52_method_15_code 4 = .ok (.bipush 31, 2) := by decide +kernel
theorem d13_6 : decode jdk_52_method_15_code 6 = .ok (.iushr, 1) := by decide +kernel
theorem d13_7 : decode jdk_52_method_15_code 7 = .ok (.i2b, 1) := by decide +kernel
theorem d13_8 : decode jdk_52_method_15_code 8 = .ok (.ireturn, 1) := by decide +kernel
theorem d14_0 : decode prog_21_method_21_code 0 = .ok (.iload_n 1, 1) := by decide +kernel
theorem d14_1 : decode prog_21_method_21_code 1 = .ok (.iconst 1, 1) := by decide +kernel
theorem d14_2 : decode prog_21_method_21_code 2 = .ok (.iadd, 1) := by decide +kernel
theorem d14_3 : decode prog_21_method_21_code 3 = .ok (.istore_n 3, 1) := by decide +kernel
theorem d14_4 : decode prog_21_method_21_code 4 = .ok (.iload_n 3, 1) := by decide +kernel
theorem d14_5 : decode prog_21_method_21_code 5 = .ok (.iload_n 1, 1) := by decide +kernel
theorem d14_6 : decode prog_21_method_21_code 6 = .ok (.iload_n 2, 1) := by decide +kernel
theorem d14_7 : decode prog_21_method_21_code 7 = .ok (.iadd, 1) := by decide +kernel
theorem d14_8 : decode prog_21_method_21_code 8 = .ok (.if_icmp .ge 20, 3) := by decide +kernel
theorem d14_28 : decode prog_21_method_21_code 28 = .ok (.iconst 0, 1) := by decide +kernel
theorem d14_29 : decode prog_21_method_21_code 29 = .ok (.ireturn, 1) := by decide +kernel
theorem d15_0 : decode prog_21_method_9_code 0 = .ok (.aload_n 0, 1) := by decide +kernel
theorem d15_1 : decode prog_21_method_9_code 1 = .ok (.getfield 19, 3) := by decide +kernel
theorem d15_4 : decode prog_21_method_9_code 4 = .ok (.ireturn, 1) := by decide +kernel
theorem d16_0 : decode prog_21_method_10_code 0 = .ok (.aload_n 0, 1) := by decide +kernel
theorem d16_1 : decode prog_21_method_10_code 1 = .ok (.getfield 23, 3) := by decide +kernel
theorem d16_4 : decode prog_21_method_10_code 4 = .ok (.ireturn, 1) := by decide +kernel
theorem d17_0 : decode prog_7_method_1_code 0 = .ok (.aload_n 0, 1) := by decide +kernel
theorem d17_1 : decode prog_7_method_1_code 1 = .ok (.invokespecial 1, 3) := by decide +kernel
theorem d17_4 : decode prog_7_method_1_code 4 = .ok (.aload_n 1, 1) := by decide +kernel
theorem d17_5 : decode prog_7_method_1_code 5 = .ok (.invokestatic 7, 3) := by decide +kernel
theorem d17_8 : decode prog_7_method_1_code 8 = .ok (.astore_n 2, 1) := by decide +kernel
theorem d17_9 : decode prog_7_method_1_code 9 = .ok (.aload_n 2, 1) := by decide +kernel
theorem d17_10 : decode prog_7_method_1_code 10 = .ok (.invokevirtual 13, 3) := by decide +kernel
theorem d17_13 : decode prog_7_method_1_code 13 = .ok (.istore_n 3, 1) := by decide +kernel
theorem d17_14 : decode prog_7_method_1_code 14 = .ok (.aload_n 0, 1) := by decide +kernel
theorem d17_15 : decode prog_7_method_1_code 15 = .ok (.aload_n 1, 1) := by decide +kernel
theorem d17_16 : decode prog_7_method_1_code 16 = .ok (.putfield 17, 3) := by decide +kernel
theorem d17_19 : decode prog_7_method_1_code 19 = .ok (.aload_n 0, 1) := by decide +kernel
theorem d17_20 : decode prog_7_method_1_code 20 = .ok (.aload_n 1, 1) := by decide +kernel
theorem d17_21 : decode prog_7_method_1_code 21 = .ok (.arraylength, 1) := by decide +kernel
theorem d17_22 : decode prog_7_method_1_code 22 = .ok (.putfield 23, 3) := by decide +kernel
theorem d17_25 : decode prog_7_method_1_code 25 = .ok (.aload_n 0, 1) := by decide +kernel
theorem d17_26 : decode prog_7_method_1_code 26 = .ok (.aload_n 2, 1) := by decide +kernel
theorem d17_27 : decode prog_7_method_1_code 27 = .ok (.invokevirtual 27, 3) := by decide +kernel
theorem d17_30 : decode prog_7_method_1_code 30 = .ok (.ifCond .eq 7, 3) := by decide +kernel
theorem d17_33 : decode prog_7_method_1_code 33 = .ok (.iconst 0, 1) := by decide +kernel
theorem d17_34 : decode prog_7_method_1_code 34 = .ok (.goto 4, 3) := by decide +kernel
theorem d17_37 : decode prog_7_method_1_code 37 = .ok (.iload_n 3, 1) := by decide +kernel
theorem d17_38 : decode prog_7_method_1_code 38 = .ok (.putfield 31, 3) := by decide +kernel
theorem d17_41 : decode prog_7_method_1_code 41 = .ok (.aload_n 0, 1) := by decide +kernel
theorem d17_42 : decode prog_7_method_1_code 42 = .ok (.aload_n 2, 1) := by decide +kernel
theorem d17_43 : decode prog_7_method_1_code 43 = .ok (.invokevirtual 27, 3) := by decide +kernel
theorem d17_46 : decode prog_7_method_1_code 46 = .ok (.ifCond .eq 7, 3) := by decide +kernel
theorem d17_49 : decode prog_7_method_1_code 49 = .ok (.iload_n 3, 1) := by decide +kernel
theorem d17_50 : decode prog_7_method_1_code 50 = .ok (.goto 4, 3) := by decide +kernel
theorem d17_53 : decode prog_7_method_1_code 53 = .ok (.iconst 0, 1) := by decide +kernel
theorem d17_54 : decode prog_7_method_1_code 54 = .ok (.putfield 34, 3) := by decide +kernel
theorem d17_57 : decode prog_7_method_1_code 57 = .ok (.aload_n 0, 1) := by decide +kernel
theorem d17_58 : decode prog_7_method_1_code 58 = .ok (.aload_n 2, 1) := by decide +kernel
theorem d17_59 : decode prog_7_method_1_code 59 = .ok (.invokevirtual 37, 3) := by decide +kernel
theorem d17_62 : decode prog_7_method_1_code 62 = .ok (.putfield 40, 3) := by decide +kernel
theorem d17_65 : decode prog_7_method_1_code 65 = .ok (.aload_n 0, 1) := by decide +kernel
theorem d17_66 : decode prog_7_method_1_code 66 = .ok (.aload_n 2, 1) := by decide +kernel
theorem d17_67 : decode prog_7_method_1_code 67 = .ok (.invokevirtual 42, 3) := by decide +kernel
theorem d17_70 : decode prog_7_method_1_code 70 = .ok (.putfield 45, 3) := by decide +kernel
theorem d17_73 : decode prog_7_method_1_code 73 = .ok (.aload_n 0, 1) := by decide +kernel
theorem d17_74 : decode prog_7_method_1_code 74 = .ok (.aload_n 0, 1) := by decide +kernel
theorem d17_75 : decode prog_7_method_1_code 75 = .ok (.getfield 23, 3) := by decide +kernel
theorem d17_78 : decode prog_7_method_1_code 78 = .ok (.ifCond .le 13, 3) := by decide +kernel
theorem d17_81 : decode prog_7_method_1_code 81 = .ok (.aload_n 1, 1) := by decide +kernel
theorem d17_82 : decode prog_7_method_1_code 82 = .ok (.aload_n 0, 1) := by decide +kernel
theorem d17_83 : decode prog_7_method_1_code 83 = .ok (.getfield 31, 3) := by decide +kernel
theorem d17_86 : decode prog_7_method_1_code 86 = .ok (.iaload, 1) := by decide +kernel
theorem d17_87 : decode prog_7_method_1_code 87 = .ok (.i2c, 1) := by decide +kernel
theorem d17_88 : decode prog_7_method_1_code 88 = .ok (.goto 4, 3) := by decide +kernel
theorem d17_92 : decode prog_7_method_1_code 92 = .ok (.putfield 49, 3) := by decide +kernel
theorem d17_95 : decode prog_7_method_1_code 95 = .ok (.aload_n 0, 1) := by decide +kernel
theorem d17_96 : decode prog_7_method_1_code 96 = .ok (.aload_n 0, 1) := by decide +kernel
theorem d17_97 : decode prog_7_method_1_code 97 = .ok (.getfield 23, 3) := by decide +kernel
theorem d17_100 : decode prog_7_method_1_code 100 = .ok (.ifCond .le 13, 3) := by decide +kernel
theorem d17_103 : decode prog_7_method_1_code 103 = .ok (.aload_n 1, 1) := by decide +kernel
theorem d17_104 : decode prog_7_method_1_code 104 = .ok (.aload_n 0, 1) := by decide +kernel
theorem d17_105 : decode prog_7_method_1_code 105 = .ok (.getfield 34, 3) := by decide +kernel
theorem d17_108 : decode prog_7_method_1_code 108 = .ok (.iaload, 1) := by decide +kernel
theorem d17_109 : decode prog_7_method_1_code 109 = .ok (.i2c, 1) := by decide +kernel
theorem d17_110 : decode prog_7_method_1_code 110 = .ok (.goto 4, 3) := by decide +kernel
theorem d17_114 : decode prog_7_method_1_code 114 = .ok (.putfield 53, 3) := by decide +kernel
theorem d17_117 : decode prog_7_method_1_code 117 = .ok (.aload_n 0, 1) := by decide +kernel
theorem d17_118 : decode prog_7_method_1_code 118 = .ok (.aload_n 0, 1) := by decide +kernel
theorem d17_119 : decode prog_7_method_1_code 119 = .ok (.getfield 23, 3) := by decide +kernel
theorem d17_122 : decode prog_7_method_1_code 122 = .ok (.ifCond .le 13, 3) := by decide +kernel
theorem d17_125 : decode prog_7_method_1_code 125 = .ok (.aload_n 1, 1) := by decide +kernel
theorem d17_126 : decode prog_7_method_1_code 126 = .ok (.aload_n 0, 1) := by decide +kernel
theorem d17_127 : decode prog_7_method_1_code 127 = .ok (.getfield 40, 3) := by decide +kernel
theorem d17_130 : decode prog_7_method_1_code 130 = .ok (.iaload, 1) := by decide +kernel
theorem d17_131 : decode prog_7_method_1_code 131 = .ok (.i2c, 1) := by decide +kernel
theorem d17_132 : decode prog_7_method_1_code 132 = .ok (.goto 4, 3) := by decide +kernel
theorem d17_136 : decode prog_7_method_1_code 136 = .ok (.putfield 56, 3) := by decide +kernel
theorem d17_139 : decode prog_7_method_1_code 139 = .ok (.iconst 1, 1) := by decide +kernel
theorem d17_140 : decode prog_7_method_1_code 140 = .ok (.iload_n 3, 1) := by decide +kernel
theorem d17_141 : decode prog_7_method_1_code 141 = .ok (.ifCond .eq 7, 3) := by decide +kernel
theorem d17_144 : decode prog_7_method_1_code 144 = .ok (.iconst 1, 1) := by decide +kernel
theorem d17_145 : decode prog_7_method_1_code 145 = .ok (.goto 4, 3) := by decide +kernel
theorem d17_148 : decode prog_7_method_1_code 148 = .ok (.iconst 0, 1) := by decide +kernel
theorem d17_149 : decode prog_7_method_1_code 149 = .ok (.iadd, 1) := by decide +kernel
theorem d17_150 : decode prog_7_method_1_code 150 = .ok (.aload_n 0, 1) := by decide +kernel
theorem d17_151 : decode prog_7_method_1_code 151 = .ok (.getfield 40, 3) := by decide +kernel
theorem d17_154 : decode prog_7_method_1_code 154 = .ok (.ifCond .eq 15, 3) := by decide +kernel
theorem d17_157 : decode prog_7_method_1_code 157 = .ok (.aload_n 0, 1) := by decide +kernel
theorem d17_158 : decode prog_7_method_1_code 158 = .ok (.getfield 40, 3) := by decide +kernel
theorem d17_161 : decode prog_7_method_1_code 161 = .ok (.iload_n 3, 1) := by decide +kernel
theorem d17_162 : decode prog_7_method_1_code 162 = .ok (.if_icmp .eq 7, 3) := by decide +kernel
theorem d17_165 : decode prog_7_method_1_code 165 = .ok (.iconst 1, 1) := by decide +kernel
theorem d17_166 : decode prog_7_method_1_code 166 = .ok (.goto 4, 3) := by decide +kernel
theorem d17_169 : decode prog_7_method_1_code 169 = .ok (.iconst 0, 1) := by decide +kernel
theorem d17_170 : decode prog_7_method_1_code 170 = .ok (.iadd, 1) := by decide +kernel
theorem d17_171 : decode prog_7_method_1_code 171 = .ok (.istore 4, 2) := by decide +kernel
theorem d17_173 : decode prog_7_method_1_code 173 = .ok (.aload_n 0, 1) := by decide +kernel
theorem d17_174 : decode prog_7_method_1_code 174 = .ok (.iload 4, 2) := by decide +kernel
theorem d17_176 : decode prog_7_method_1_code 176 = .ok (.aload_n 0, 1) := by decide +kernel
theorem d17_177 : decode prog_7_method_1_code 177 = .ok (.getfield 23, 3) := by decide +kernel
theorem d17_180 : decode prog_7_method_1_code 180 = .ok (.if_icmp .ne 7, 3) := by decide +kernel
theorem d17_183 : decode prog_7_method_1_code 183 = .ok (.iconst 1, 1) := by decide +kernel
theorem d17_184 : decode prog_7_method_1_code 184 = .ok (.goto 4, 3) := by decide +kernel
theorem d17_187 : decode prog_7_method_1_code 187 = .ok (.iconst 0, 1) := by decide +kernel
theorem d17_188 : decode prog_7_method_1_code 188 = .ok (.putfield 59, 3) := by decide +kernel
theorem d17_191 : decode prog_7_method_1_code 191 = .ok (.return_, 1) := by decide +kernel
theorem d18_0 : decode prog_21_method_16_code 0 = .ok (.aload_n 0, 1) := by decide +kernel
theorem d18_1 : decode prog_21_method_16_code 1 = .ok (.getfield 59, 3) := by decide +kernel
theorem d18_4 : decode prog_21_method_16_code 4 = .ok (.ireturn, 1) := by decide +kernel
theorem d19_0 : decode prog_21_method_17_code 0 = .ok (.aload_n 0, 1) := by decide +kernel
theorem d19_1 : decode prog_21_method_17_code 1 = .ok (.getfield 65, 3) := by decide +kernel
theorem d19_4 : decode prog_21_method_17_code 4 = .ok (.ireturn, 1) := by decide +kernel
theorem d20_0 : decode method_4_code 0 = .ok (.iload 4, 2) := by decide +kernel
theorem d20_2 : decode method_4_code 2 = .ok (.iload_n 3, 1) := by decide +kernel
theorem d20_3 : decode method_4_code 3 = .ok (.if_icmp .ge 20, 3) := by decide +kernel
theorem d20_6 : decode method_4_code 6 = .ok (.aload_n 0, 1) := by decide +kernel
theorem d20_7 : decode method_4_code 7 = .ok (.iload_n 1, 1) := by decide +kernel
theorem d20_8 : decode method_4_code 8 = .ok (.iload 4, 2) := by decide +kernel
theorem d20_10 : decode method_4_code 10 = .ok (.iadd, 1) := by decide +kernel
theorem d20_11 : decode method_4_code 11 = .ok (.caload, 1) := by decide +kernel
theorem d20_12 : decode method_4_code 12 = .ok (.aload_n 2, 1) := by decide +kernel
theorem d20_13 : decode method_4_code 13 = .ok (.iload 4, 2) := by decide +kernel
theorem d20_15 : decode method_4_code 15 = .ok (.iaload, 1) := by decide +kernel
theorem d20_16 : decode method_4_code 16 = .ok (.if_icmp .ne 7, 3) := by decide +kernel
theorem d20_19 : decode method_4_code 19 = .ok (.iconst 1, 1) := by decide +kernel
theorem d20_20 : decode method_4_code 20 = .ok (.goto 4, 3) := by decide +kernel
theorem d20_23 : decode method_4_code 23 = .ok (.iconst 0, 1) := by decide +kernel
theorem d20_24 : decode method_4_code 24 = .ok (.ireturn, 1) := by decide +kernel
theorem d21_0 : decode prog_7_method_3_code 0 = .ok (.aload_n 0, 1) := by decide +kernel
theorem d21_1 : decode prog_7_method_3_code 1 = .ok (.getfield 59, 3) := by decide +kernel
theorem d21_4 : decode prog_7_method_3_code 4 = .ok (.ifCond .eq 8, 3) := by decide +kernel
theorem d21_7 : decode prog_7_method_3_code 7 = .ok (.aload_n 0, 1) := by decide +kernel
theorem d21_8 : decode prog_7_method_3_code 8 = .ok (.getfield 23, 3) := by decide +kernel
theorem d21_11 : decode prog_7_method_3_code 11 = .ok (.ireturn, 1) := by decide +kernel
theorem d21_12 : decode prog_7_method_3_code 12 = .ok (.iconst 1, 1) := by decide +kernel
theorem d21_13 : decode prog_7_method_3_code 13 = .ok (.istore_n 3, 1) := by decide +kernel
theorem d21_14 : decode prog_7_method_3_code 14 = .ok (.iload_n 3, 1) := by decide +kernel
theorem d21_15 : decode prog_7_method_3_code 15 = .ok (.aload_n 0, 1) := by decide +kernel
theorem d21_16 : decode prog_7_method_3_code 16 = .ok (.getfield 23, 3) := by decide +kernel
theorem d21_19 : decode prog_7_method_3_code 19 = .ok (.if_icmp .ge 23, 3) := by decide +kernel
theorem d21_22 : decode prog_7_method_3_code 22 = .ok (.aload_n 1, 1) := by decide +kernel
theorem d21_23 : decode prog_7_method_3_code 23 = .ok (.iload_n 2, 1) := by decide +kernel
theorem d21_24 : decode prog_7_method_3_code 24 = .ok (.iload_n 3, 1) := by decide +kernel
theorem d21_25 : decode prog_7_method_3_code 25 = .ok (.iadd, 1) := by decide +kernel
theorem d21_26 : decode prog_7_method_3_code 26 = .ok (.caload, 1) := by decide +kernel
theorem d21_27 : decode prog_7_method_3_code 27 = .ok (.aload_n 0, 1) := by decide +kernel
theorem d21_28 : decode prog_7_method_3_code 28 = .ok (.getfield 17, 3) := by decide +kernel
theorem d21_31 : decode prog_7_method_3_code 31 = .ok (.iload_n 3, 1) := by decide +kernel
theorem d21_32 : decode prog_7_method_3_code 32 = .ok (.iaload, 1) := by decide +kernel
theorem d21_33 : decode prog_7_method_3_code 33 = .ok (.if_icmp .ne 9, 3) := by decide +kernel
theorem d21_36 : decode prog_7_method_3_code 36 = .ok (.iinc 3 1, 3) := by decide +kernel
theorem d21_39 : decode prog_7_method_3_code 39 = .ok (.goto (-25), 3) := by decide +kernel
theorem d21_42 : decode prog_7_method_3_code 42 = .ok (.iload_n 3, 1) := by decide +kernel
theorem d21_43 : decode prog_7_method_3_code 43 = .ok (.ireturn, 1) := by decide +kernel
def own_tn (n : Nat) (v : Nat → Int32) : List Value := (List.range n).map fun t => .int (v t)
theorem own_tn_len (n : Nat) (v : Nat → Int32) : (own_tn n v).length = n := by simp [own_tn]
theorem own_tn_get {n : Nat} (v : Nat → Int32) {t : Nat} (h : t < n) : (own_tn n v)[t]? = some (.int (v t)) := by simp [own_tn, List.getElem?_range h]
theorem own_tn_at {n : Nat} {v : Nat → Int32} {z : Int32} {j : Nat} (hz : z.toInt.toNat = j) (hj : j < n) : (own_tn n v)[z.toInt.toNat]? = some (.int (v j)) := by rw [hz]; exact own_tn_get v hj
theorem own_i32 {n : Nat} (h : n < 2147483648) : n.toInt32.toInt = (n : Int) := by
  have : n.toInt32 = Int32.ofNat n := rfl
  rw [this]; exact Int32.toInt_ofNat_of_lt (by simpa using h)
theorem own_il {n : Nat} {v : Nat → Int32} {z : Int32} {j : Nat} (hz : z.toInt = (j : Int)) (hj : j < n) : Inb z (own_tn n v).length := by rw [own_tn_len]; exact ⟨by omega, by omega⟩
theorem own_ilt {z : Int32} {j : Nat} (hz : z.toInt = (j : Int)) : z.toInt.toNat = j := by omega
theorem own_inc (k : Nat) : k.toInt32 + (1 : Int32) = (k + 1).toInt32 := by
  show Int32.ofNat k + 1 = Int32.ofNat (k + 1)
  rw [Int32.ofNat_add]; rfl
theorem own_dec {k : Nat} (h : 0 < k) (h2 : k < 2147483648) : (k.toInt32 - (1 : Int32)).toInt = ((k - 1 : Nat) : Int) := by
  have e := c_isub k.toInt32 (1 : Int32)
  have e1 := own_i32 h2
  have e2 : (1 : Int32).toInt = 1 := rfl
  have r := rng32 (k.toInt32 - (1 : Int32))
  omega
theorem own_lt32 {i n : Nat} (hi : i < 2147483648) (hn : n < 2147483648) : i.toInt32 < n.toInt32 ↔ i < n := by
  rw [Int32.lt_iff_toInt_lt, own_i32 hi, own_i32 hn]; omega
def own_upd {α : Type} (f : Nat → α) (s : Nat) (a : α) : Nat → α := fun t => if t = s then a else f t
theorem own_tn_upd {n : Nat} (v : Nat → Int32) (i : Nat) (x : Int32) : (own_tn n v).set i (.int x) = own_tn n (own_upd v i x) := by
  apply List.ext_getElem?
  intro j
  by_cases hj : j < n
  · rw [own_tn_get _ hj, List.getElem?_set]
    by_cases ht : i = j
    · subst ht; simp [own_tn_len, hj, own_upd]
    · rw [if_neg ht, own_tn_get _ hj]; simp [own_upd, Ne.symm ht]
  · rw [List.getElem?_eq_none (by simp [own_tn_len]; omega), List.getElem?_eq_none (by simp [own_tn_len]; omega)]
/-- how common a symbol is -/
def own_cm (cm : Nat → Int32) (x : Int32) : Int32 := if x < (128 : Int32) then cm x.toInt.toNat else (0 : Int32)
/-- one round of 'rarest' at the place i -/
def own_rst (cm P : Nat → Int32) (skip tie : Int32) (i : Nat) (b : Int32 × Int32) : Int32 × Int32 :=
  if i.toInt32 = skip then b else if (0 : Int32) + own_cm cm (P i) < b.2 then (i.toInt32, (0 : Int32) + own_cm cm (P i)) else if (0 : Int32) + own_cm cm (P i) = b.2 then (if tie = 0 then b else (i.toInt32, (0 : Int32) + own_cm cm (P i))) else b
def own_rs (cm P : Nat → Int32) (fr : Nat) (skip tie : Int32) : Nat → Int32 × Int32
  | 0 => (skip, (2147483647 : Int32))
  | k + 1 => own_rst cm P skip tie (fr + k) (own_rs cm P fr skip tie k)
theorem own_irr (x : Int32) : ¬ x < x := by rw [Int32.lt_iff_toInt_lt]; omega
theorem own_up {i : Nat} (h : i < 2147483647) : i.toInt32 < i.toInt32 + (1 : Int32) := by
  rw [own_inc, own_lt32 (by omega) (by omega)]; omega
theorem own_gt {i n : Nat} (hn : 0 < n) (h2 : n < 2147483648) (hi : i < 2147483648) : (n.toInt32 - (1 : Int32)) < i.toInt32 ↔ n ≤ i := by
  rw [Int32.lt_iff_toInt_lt, own_dec hn h2, own_i32 hi]; omega

set_option maxRecDepth 65536 in
set_option maxHeartbeats 40000000 in
theorem ct6 (l : Launch) (Z : State) (a0 : Array Value) (hw : ∀ d ∈ tables_1, d.before a0 Z = true) (cma : Addr) (cm : Nat → Int32) (xx : Int32) (h0 : Heap) (Sm : Sta Z h0 "com/example/rummage/rummage/SeekPlan" "COMMONNESS" "[B" (.ref cma)) (Vm : Lst Z h0 cma .byte (own_tn 128 cm)) (h0x : 0 ≤ xx.toInt) :
    Ct l Z y6 prog_21_method_22_code 1 (some .int) ({ frames := 0, cells := 0, slots := 0, locals := 0 } : Room) #[(.int xx)] h0 [] (fun v h => v = some (.int (own_cm cm xx)) ∧ h0 = h) := by
  refine Ct.of (plainFor_of_name (by first | (simp [plainName, overriddenIn]; done) | decide +kernel)) ?_
  intro p e s m below meth c T0 X0
  refine Runs.top (g' := mkF m 0 #[.val (.int xx)] []) (by first | (simp [entryFrame, mkF, argsToLocals, Value.category]; done) | rfl) ?_
  refine X0.iloadN (pc' := 1) d6_0 rfl rfl ?_
  refine X0.getstatic (pc' := 4) (host := "") (Or.inl (wd_27 hw)) Via.refl Sm d6_1 rfl (fun T1 X1 => ?_)
  refine X1.arraylength (pc' := 5) (n := (128 : Int32)) Vm (by rw [own_tn_len]; rfl) d6_4 rfl ?_
  by_cases hc2 : xx < (128 : Int32)
  · refine X1.icmpNo (pc' := 8) d6_5 (tlt hc2).2.1 rfl ?_
    refine X1.getstatic (pc' := 11) (host := "") (Or.inl (wd_27 hw)) Via.refl Sm d6_8 rfl (fun T3 X3 => ?_)
    refine X3.iloadN (pc' := 12) d6_11 rfl rfl ?_
    have hj : xx.toInt = (xx.toInt.toNat : Int) ∧ xx.toInt.toNat < 128 := by
      have q := hc2
      rw [Int32.lt_iff_toInt_lt, show (128 : Int32).toInt = 128 from rfl] at q
      omega
    refine X3.baload (pc' := 13) (v := (.int (cm xx.toInt.toNat))) Vm (own_il hj.1 hj.2) (own_tn_at rfl hj.2) d6_12 rfl ?_
    refine X3.goto (pc' := 17) d6_13 (by decide) (by decide) ?_
    exact X3.ireturn rfl d6_17 (by decide) (by decide) ⟨by simp [own_cm, hc2], rfl⟩
  · refine X1.icmpYes (pc' := 16) d6_5 (flt hc2).2.1 (by decide) (by decide) ?_
    refine X1.iconst (pc' := 17) (z := 0) d6_16 rfl rfl ?_
    exact X1.ireturn rfl d6_17 (by decide) (by decide) ⟨by simp [own_cm, hc2], rfl⟩
set_option maxRecDepth 65536 in
set_option maxHeartbeats 40000000 in
theorem lpr {p : Program} {l : Launch} {e : Env} {R : Room} {s : State} {m : MethodId} {args : Array Value} {below : List Frame} {meth : Method} {c : Code} {ret : Option FieldType} {Z : State} {h0 : Heap} {ws : List Addr} {G : Outcome → State → Prop} {a0 : Array Value} (hw : ∀ d ∈ tables_1, d.before a0 Z = true) {pa cma : Addr} {cm P : Nat → Int32} {n fr : Nat} {skip tie : Int32} {cells slots : Nat} (hn : 0 < n) (hN : n < 2147483648) (hf0 : fr ≤ n) (hP : ∀ t, t < n → 0 ≤ (P t).toInt) (hfr : 1 ≤ R.frames) (hlo : 13 ≤ R.locals) (hce : cells ≤ R.cells) (hsl : slots ≤ R.slots) :
    ∀ (d k : Nat) (T : State) (h : Heap) (s8 s9 : Slot), Here p l e R s m args below meth c y5 prog_21_method_18_code 10 ret Z h0 ws T cells slots h → One s8 → One s9 → n ≤ fr + k + d → fr + k ≤ n → Sta Z h "com/example/rummage/rummage/SeekPlan" "COMMONNESS" "[B" (.ref cma) → Lst Z h cma .byte (own_tn 128 cm) → Lst Z h pa .int (own_tn n P) → (∀ T' h' s8' s9', Here p l e R s m args below meth c y5 prog_21_method_18_code 10 ret Z h0 ws T' cells slots h' → Sta Z h' "com/example/rummage/rummage/SeekPlan" "COMMONNESS" "[B" (.ref cma) → Lst Z h' cma .byte (own_tn 128 cm) → Lst Z h' pa .int (own_tn n P) → Runs p e below (T'.setTop (mkF m 92 #[.val (.ref pa), .val (.int (1 : Int32)), .val (.int fr.toInt32), .val (.int skip), .val (.int tie), .val (.int (own_rs cm P fr skip tie (n - fr)).1), .val (.int (own_rs cm P fr skip tie (n - fr)).2), .val (.int (fr + (n - fr)).toInt32), s8', s9'] [])) G) → Runs p e below (T.setTop (mkF m 10 #[.val (.ref pa), .val (.int (1 : Int32)), .val (.int fr.toInt32), .val (.int skip), .val (.int tie), .val (.int (own_rs cm P fr skip tie k).1), .val (.int (own_rs cm P fr skip tie k).2), .val (.int (fr + k).toInt32), s8, s9] [])) G := by
  intro d
  induction d with
  | zero =>
    intro k T h s8 s9 X hs8 hs9 hd hle Sm Vm Vp kx
    have hk : ¬ fr + k < n := by omega
    refine X.iload (pc' := 12) d5_10 rfl rfl ?_
    refine X.aloadN (pc' := 13) d5_12 rfl rfl rfl ?_
    refine X.arraylength (pc' := 14) (n := n.toInt32) Vp (by rw [own_tn_len]) d5_13 rfl ?_
    refine X.iloadN (pc' := 15) d5_14 rfl rfl ?_
    refine X.isub (pc' := 16) d5_15 rfl ?_
    refine X.icmpYes (pc' := 92) d5_16 (tlt ((own_gt hn hN (by omega)).mpr (by omega))).2.2.1 (by decide) (by decide) ?_
    obtain rfl : k = n - fr := by omega
    exact kx _ _ _ _ X Sm Vm Vp
  | succ d ih =>
    intro k T h s8 s9 X hs8 hs9 hd hle Sm Vm Vp kx
    by_cases hk : fr + k < n
    · refine X.iload (pc' := 12) d5_10 rfl rfl ?_
      refine X.aloadN (pc' := 13) d5_12 rfl rfl rfl ?_
      refine X.arraylength (pc' := 14) (n := n.toInt32) Vp (by rw [own_tn_len]) d5_13 rfl ?_
      refine X.iloadN (pc' := 15) d5_14 rfl rfl ?_
      refine X.isub (pc' := 16) d5_15 rfl ?_
      refine X.icmpNo (pc' := 19) d5_16 (flt (fun q => absurd ((own_gt hn hN (by omega)).mp q) (by omega))).2.2.1 rfl ?_
      refine X.iconst (pc' := 20) (z := 0) d5_19 rfl rfl ?_
      refine X.istore (pc' := 22) (l' := #[.val (.ref pa), .val (.int (1 : Int32)), .val (.int fr.toInt32), .val (.int skip), .val (.int tie), .val (.int (own_rs cm P fr skip tie k).1), .val (.int (own_rs cm P fr skip tie k).2), .val (.int (fr + k).toInt32), .val (.int (0 : Int32)), s9]) d5_20 (XS.store1 rfl hs8 rfl) rfl ?_
      refine X.iload (pc' := 24) d5_22 rfl rfl ?_
      refine X.istore (pc' := 26) (l' := #[.val (.ref pa), .val (.int (1 : Int32)), .val (.int fr.toInt32), .val (.int skip), .val (.int tie), .val (.int (own_rs cm P fr skip tie k).1), .val (.int (own_rs cm P fr skip tie k).2), .val (.int (fr + k).toInt32), .val (.int (0 : Int32)), .val (.int (fr + k).toInt32)]) d5_24 (XS.store1 rfl hs9 rfl) rfl ?_
      refine X.iload (pc' := 28) d5_26 rfl rfl ?_
      refine X.iload (pc' := 30) d5_28 rfl rfl ?_
      refine X.iloadN (pc' := 31) d5_30 rfl rfl ?_
      refine X.iadd (pc' := 32) d5_31 rfl ?_
      refine X.icmpNo (pc' := 35) d5_32 (tlt (own_up (by omega))).2.1 rfl ?_
      refine X.iload (pc' := 37) d5_35 rfl rfl ?_
      refine X.aloadN (pc' := 38) d5_37 rfl rfl rfl ?_
      refine X.iload (pc' := 40) d5_38 rfl rfl ?_
      refine X.iaload (pc' := 41) (v := (.int (P (fr + k)))) Vp (own_il (own_i32 (by omega)) hk) (own_tn_at (own_ilt (own_i32 (by omega))) hk) d5_40 rfl ?_
      refine X.callS (pc' := 44) (W := 1) (argsL := [(.int (P (fr + k)))]) (rest := [(.int (0 : Int32))]) (ct6 l Z a0 hw cma cm (P (fr + k)) h Sm Vm (hP _ hk)) (wd_24 hw) (wd_25 hw) (wd_9 hw) (wd_26 hw) (by decide) pd_0 rfl rfl rfl rfl d5_41 rfl hfr rfl hlo hce hsl allWs0 (fun T1 h1 v1 X1 K1 Q1 => ?_)
      obtain ⟨rfl, rfl⟩ := Q1
      show Runs p e below (T1.setTop (mkF m 44 #[.val (.ref pa), .val (.int (1 : Int32)), .val (.int fr.toInt32), .val (.int skip), .val (.int tie), .val (.int (own_rs cm P fr skip tie k).1), .val (.int (own_rs cm P fr skip tie k).2), .val (.int (fr + k).toInt32), .val (.int (0 : Int32)), .val (.int (fr + k).toInt32)] [(.int (own_cm cm (P (fr + k)))), (.int (0 : Int32))])) _
      refine X1.iadd (pc' := 45) d5_44 rfl ?_
      refine X1.istore (pc' := 47) (l' := #[.val (.ref pa), .val (.int (1 : Int32)), .val (.int fr.toInt32), .val (.int skip), .val (.int tie), .val (.int (own_rs cm P fr skip tie k).1), .val (.int (own_rs cm P fr skip tie k).2), .val (.int (fr + k).toInt32), .val (.int ((0 : Int32) + (own_cm cm (P (fr + k))))), .val (.int (fr + k).toInt32)]) d5_45 rfl rfl ?_
      refine X1.iinc (pc' := 50) (z := 1) (l' := #[.val (.ref pa), .val (.int (1 : Int32)), .val (.int fr.toInt32), .val (.int skip), .val (.int tie), .val (.int (own_rs cm P fr skip tie k).1), .val (.int (own_rs cm P fr skip tie k).2), .val (.int (fr + k).toInt32), .val (.int ((0 : Int32) + (own_cm cm (P (fr + k))))), .val (.int ((fr + k).toInt32 + (1 : Int32)))]) d5_47 rfl rfl rfl rfl ?_
      refine X1.goto (pc' := 26) d5_50 (by decide) (by decide) ?_
      refine X1.iload (pc' := 28) d5_26 rfl rfl ?_
      refine X1.iload (pc' := 30) d5_28 rfl rfl ?_
      refine X1.iloadN (pc' := 31) d5_30 rfl rfl ?_
      refine X1.iadd (pc' := 32) d5_31 rfl ?_
      refine X1.icmpYes (pc' := 53) d5_32 (flt (own_irr _)).2.1 (by decide) (by decide) ?_
      refine X1.iload (pc' := 55) d5_53 rfl rfl ?_
      refine X1.iloadN (pc' := 56) d5_55 rfl rfl ?_
      by_cases hc2 : (fr + k).toInt32 = skip
      · refine X1.icmpYes (pc' := 86) d5_56 (teq hc2).1 (by decide) (by decide) ?_
        refine X1.iinc (pc' := 89) (z := 1) (l' := #[.val (.ref pa), .val (.int (1 : Int32)), .val (.int fr.toInt32), .val (.int skip), .val (.int tie), .val (.int (own_rs cm P fr skip tie k).1), .val (.int (own_rs cm P fr skip tie k).2), .val (.int (fr + (k + 1)).toInt32), .val (.int ((0 : Int32) + (own_cm cm (P (fr + k))))), .val (.int ((fr + k).toInt32 + (1 : Int32)))]) d5_86 rfl rfl (by rw [own_inc]; rfl) rfl ?_
        refine X1.goto (pc' := 10) d5_89 (by decide) (by decide) ?_
        have eQ : own_rs cm P fr skip tie (k + 1) = (own_rs cm P fr skip tie k) := by rw [own_rs, own_rst, if_pos hc2]
        have q := ih (k + 1) T1 h (.val (.int ((0 : Int32) + (own_cm cm (P (fr + k)))))) (.val (.int ((fr + k).toInt32 + (1 : Int32)))) X1 (One.val rfl) (One.val rfl) (by omega) (by omega) Sm Vm Vp kx
        rw [eQ] at q
        exact q
      · refine X1.icmpNo (pc' := 59) d5_56 (feq hc2).1 rfl ?_
        refine X1.iload (pc' := 61) d5_59 rfl rfl ?_
        refine X1.iload (pc' := 63) d5_61 rfl rfl ?_
        by_cases hc3 : ((0 : Int32) + (own_cm cm (P (fr + k)))) < (own_rs cm P fr skip tie k).2
        · refine X1.icmpYes (pc' := 78) d5_63 (tlt hc3).1 (by decide) (by decide) ?_
          refine X1.iload (pc' := 80) d5_78 rfl rfl ?_
          refine X1.istore (pc' := 82) (l' := #[.val (.ref pa), .val (.int (1 : Int32)), .val (.int fr.toInt32), .val (.int skip), .val (.int tie), .val (.int (fr + k).toInt32), .val (.int (own_rs cm P fr skip tie k).2), .val (.int (fr + k).toInt32), .val (.int ((0 : Int32) + (own_cm cm (P (fr + k))))), .val (.int ((fr + k).toInt32 + (1 : Int32)))]) d5_80 rfl rfl ?_
          refine X1.iload (pc' := 84) d5_82 rfl rfl ?_
          refine X1.istore (pc' := 86) (l' := #[.val (.ref pa), .val (.int (1 : Int32)), .val (.int fr.toInt32), .val (.int skip), .val (.int tie), .val (.int (fr + k).toInt32), .val (.int ((0 : Int32) + (own_cm cm (P (fr + k))))), .val (.int (fr + k).toInt32), .val (.int ((0 : Int32) + (own_cm cm (P (fr + k))))), .val (.int ((fr + k).toInt32 + (1 : Int32)))]) d5_84 rfl rfl ?_
          refine X1.iinc (pc' := 89) (z := 1) (l' := #[.val (.ref pa), .val (.int (1 : Int32)), .val (.int fr.toInt32), .val (.int skip), .val (.int tie), .val (.int (fr + k).toInt32), .val (.int ((0 : Int32) + (own_cm cm (P (fr + k))))), .val (.int (fr + (k + 1)).toInt32), .val (.int ((0 : Int32) + (own_cm cm (P (fr + k))))), .val (.int ((fr + k).toInt32 + (1 : Int32)))]) d5_86 rfl rfl (by rw [own_inc]; rfl) rfl ?_
          refine X1.goto (pc' := 10) d5_89 (by decide) (by decide) ?_
          have eQ : own_rs cm P fr skip tie (k + 1) = ((fr + k).toInt32, (0 : Int32) + own_cm cm (P (fr + k))) := by rw [own_rs, own_rst, if_neg hc2, if_pos hc3]
          have q := ih (k + 1) T1 h (.val (.int ((0 : Int32) + (own_cm cm (P (fr + k)))))) (.val (.int ((fr + k).toInt32 + (1 : Int32)))) X1 (One.val rfl) (One.val rfl) (by omega) (by omega) Sm Vm Vp kx
          rw [eQ] at q
          exact q
        · refine X1.icmpNo (pc' := 66) d5_63 (flt hc3).1 rfl ?_
          refine X1.iload (pc' := 68) d5_66 rfl rfl ?_
          refine X1.iload (pc' := 70) d5_68 rfl rfl ?_
          by_cases hc4 : ((0 : Int32) + (own_cm cm (P (fr + k)))) = (own_rs cm P fr skip tie k).2
          · refine X1.icmpNo (pc' := 73) d5_70 (teq hc4).2 rfl ?_
            refine X1.iload (pc' := 75) d5_73 rfl rfl ?_
            by_cases hc5 : tie = (0 : Int32)
            · refine X1.ifYes (pc' := 86) d5_75 (teq hc5).1 (by decide) (by decide) ?_
              refine X1.iinc (pc' := 89) (z := 1) (l' := #[.val (.ref pa), .val (.int (1 : Int32)), .val (.int fr.toInt32), .val (.int skip), .val (.int tie), .val (.int (own_rs cm P fr skip tie k).1), .val (.int (own_rs cm P fr skip tie k).2), .val (.int (fr + (k + 1)).toInt32), .val (.int ((0 : Int32) + (own_cm cm (P (fr + k))))), .val (.int ((fr + k).toInt32 + (1 : Int32)))]) d5_86 rfl rfl (by rw [own_inc]; rfl) rfl ?_
              refine X1.goto (pc' := 10) d5_89 (by decide) (by decide) ?_
              have eQ : own_rs cm P fr skip tie (k + 1) = (own_rs cm P fr skip tie k) := by rw [own_rs, own_rst, if_neg hc2, if_neg hc3, if_pos hc4, if_pos hc5]
              have q := ih (k + 1) T1 h (.val (.int ((0 : Int32) + (own_cm cm (P (fr + k)))))) (.val (.int ((fr + k).toInt32 + (1 : Int32)))) X1 (One.val rfl) (One.val rfl) (by omega) (by omega) Sm Vm Vp kx
              rw [eQ] at q
              exact q
            · refine X1.ifNo (pc' := 78) d5_75 (feq hc5).1 rfl ?_
              refine X1.iload (pc' := 80) d5_78 rfl rfl ?_
              refine X1.istore (pc' := 82) (l' := #[.val (.ref pa), .val (.int (1 : Int32)), .val (.int fr.toInt32), .val (.int skip), .val (.int tie), .val (.int (fr + k).toInt32), .val (.int (own_rs cm P fr skip tie k).2), .val (.int (fr + k).toInt32), .val (.int ((0 : Int32) + (own_cm cm (P (fr + k))))), .val (.int ((fr + k).toInt32 + (1 : Int32)))]) d5_80 rfl rfl ?_
              refine X1.iload (pc' := 84) d5_82 rfl rfl ?_
              refine X1.istore (pc' := 86) (l' := #[.val (.ref pa), .val (.int (1 : Int32)), .val (.int fr.toInt32), .val (.int skip), .val (.int tie), .val (.int (fr + k).toInt32), .val (.int ((0 : Int32) + (own_cm cm (P (fr + k))))), .val (.int (fr + k).toInt32), .val (.int ((0 : Int32) + (own_cm cm (P (fr + k))))), .val (.int ((fr + k).toInt32 + (1 : Int32)))]) d5_84 rfl rfl ?_
              refine X1.iinc (pc' := 89) (z := 1) (l' := #[.val (.ref pa), .val (.int (1 : Int32)), .val (.int fr.toInt32), .val (.int skip), .val (.int tie), .val (.int (fr + k).toInt32), .val (.int ((0 : Int32) + (own_cm cm (P (fr + k))))), .val (.int (fr + (k + 1)).toInt32), .val (.int ((0 : Int32) + (own_cm cm (P (fr + k))))), .val (.int ((fr + k).toInt32 + (1 : Int32)))]) d5_86 rfl rfl (by rw [own_inc]; rfl) rfl ?_
              refine X1.goto (pc' := 10) d5_89 (by decide) (by decide) ?_
              have eQ : own_rs cm P fr skip tie (k + 1) = ((fr + k).toInt32, (0 : Int32) + own_cm cm (P (fr + k))) := by rw [own_rs, own_rst, if_neg hc2, if_neg hc3, if_pos hc4, if_neg hc5]
              have q := ih (k + 1) T1 h (.val (.int ((0 : Int32) + (own_cm cm (P (fr + k)))))) (.val (.int ((fr + k).toInt32 + (1 : Int32)))) X1 (One.val rfl) (One.val rfl) (by omega) (by omega) Sm Vm Vp kx
              rw [eQ] at q
              exact q
          · refine X1.icmpYes (pc' := 86) d5_70 (feq hc4).2 (by decide) (by decide) ?_
            refine X1.iinc (pc' := 89) (z := 1) (l' := #[.val (.ref pa), .val (.int (1 : Int32)), .val (.int fr.toInt32), .val (.int skip), .val (.int tie), .val (.int (own_rs cm P fr skip tie k).1), .val (.int (own_rs cm P fr skip tie k).2), .val (.int (fr + (k + 1)).toInt32), .val (.int ((0 : Int32) + (own_cm cm (P (fr + k))))), .val (.int ((fr + k).toInt32 + (1 : Int32)))]) d5_86 rfl rfl (by rw [own_inc]; rfl) rfl ?_
            refine X1.goto (pc' := 10) d5_89 (by decide) (by decide) ?_
            have eQ : own_rs cm P fr skip tie (k + 1) = (own_rs cm P fr skip tie k) := by rw [own_rs, own_rst, if_neg hc2, if_neg hc3, if_neg hc4]
            have q := ih (k + 1) T1 h (.val (.int ((0 : Int32) + (own_cm cm (P (fr + k)))))) (.val (.int ((fr + k).toInt32 + (1 : Int32)))) X1 (One.val rfl) (One.val rfl) (by omega) (by omega) Sm Vm Vp kx
            rw [eQ] at q
            exact q
    · refine X.iload (pc' := 12) d5_10 rfl rfl ?_
      refine X.aloadN (pc' := 13) d5_12 rfl rfl rfl ?_
      refine X.arraylength (pc' := 14) (n := n.toInt32) Vp (by rw [own_tn_len]) d5_13 rfl ?_
      refine X.iloadN (pc' := 15) d5_14 rfl rfl ?_
      refine X.isub (pc' := 16) d5_15 rfl ?_
      refine X.icmpYes (pc' := 92) d5_16 (tlt ((own_gt hn hN (by omega)).mpr (by omega))).2.2.1 (by decide) (by decide) ?_
      obtain rfl : k = n - fr := by omega
      exact kx _ _ _ _ X Sm Vm Vp
set_option maxRecDepth 65536 in
set_option maxHeartbeats 40000000 in
theorem ct5 (l : Launch) (Z : State) (a0 : Array Value) (hw : ∀ d ∈ tables_1, d.before a0 Z = true) (pa cma : Addr) (cm P : Nat → Int32) (n fr : Nat) (skip tie : Int32) (h0 : Heap) (Sm : Sta Z h0 "com/example/rummage/rummage/SeekPlan" "COMMONNESS" "[B" (.ref cma)) (Vm : Lst Z h0 cma .byte (own_tn 128 cm)) (Vp : Lst Z h0 pa .int (own_tn n P)) (hn : 0 < n) (hN : n < 2147483648) (hP : ∀ t, t < n → 0 ≤ (P t).toInt ∧ (P t).toInt ≤ 255) (hf0 : fr ≤ n) :
    Ct l Z y5 prog_21_method_18_code 10 (some .int) ({ frames := 1, cells := 0, slots := 0, locals := 13 } : Room) #[(.ref pa), (.int (1 : Int32)), (.int fr.toInt32), (.int skip), (.int tie)] h0 [] (fun v h => v = some (.int (own_rs cm P fr skip tie (n - fr)).1)) := by
  refine Ct.of (plainFor_of_name (by first | (simp [plainName, overriddenIn]; done) | decide +kernel)) ?_
  intro p e s m below meth c T0 X0
  refine Runs.top (g' := mkF m 0 #[.val (.ref pa), .val (.int (1 : Int32)), .val (.int fr.toInt32), .val (.int skip), .val (.int tie), .unset, .unset, .unset, .unset, .unset] []) (by first | (simp [entryFrame, mkF, argsToLocals, Value.category]; done) | rfl) ?_
  refine X0.iloadN (pc' := 1) d5_0 rfl rfl ?_
  refine X0.istore (pc' := 3) (l' := #[.val (.ref pa), .val (.int (1 : Int32)), .val (.int fr.toInt32), .val (.int skip), .val (.int tie), .val (.int skip), .unset, .unset, .unset, .unset]) d5_1 rfl rfl ?_
  refine X0.ldcInt (pc' := 5) (wd_23 hw) d5_3 rfl ?_
  refine X0.istore (pc' := 7) (l' := #[.val (.ref pa), .val (.int (1 : Int32)), .val (.int fr.toInt32), .val (.int skip), .val (.int tie), .val (.int skip), .val (.int (2147483647 : Int32)), .unset, .unset, .unset]) d5_5 rfl rfl ?_
  refine X0.iloadN (pc' := 8) d5_7 rfl rfl ?_
  refine X0.istore (pc' := 10) (l' := #[.val (.ref pa), .val (.int (1 : Int32)), .val (.int fr.toInt32), .val (.int skip), .val (.int tie), .val (.int skip), .val (.int (2147483647 : Int32)), .val (.int fr.toInt32), .unset, .unset]) d5_8 rfl rfl ?_
  refine lpr hw hn hN hf0 (fun t ht => (hP t ht).1) (by decide) (by decide) (by decide) (by decide) (n - fr) 0 T0 h0 .unset .unset X0 One.u One.u (by omega) (by omega) Sm Vm Vp (fun T7 h7 s8 s9 X7 Sm7 Vm7 Vp7 => ?_)
  refine X7.iload (pc' := 94) d5_92 rfl rfl ?_
  exact X7.ireturn rfl d5_94 (by decide) (by decide) rfl
set_option maxRecDepth 65536 in
set_option maxHeartbeats 40000000 in
theorem ct14 (l : Launch) (Z : State) (a0 : Array Value) (hw : ∀ d ∈ tables_1, d.before a0 Z = true) (pa : Addr) (a : Int32) (h0 : Heap)  :
    Ct l Z y14 prog_21_method_21_code 4 (some .boolean) ({ frames := 0, cells := 0, slots := 0, locals := 0 } : Room) #[(.ref pa), (.int a), (.int (1 : Int32))] h0 [] (fun v h => v = some (.int (0 : Int32)) ∧ h0 = h) := by
  refine Ct.of (plainFor_of_name (by first | (simp [plainName, overriddenIn]; done) | decide +kernel)) ?_
  intro p e s m below meth c T0 X0
  refine Runs.top (g' := mkF m 0 #[.val (.ref pa), .val (.int a), .val (.int (1 : Int32)), .unset] []) (by first | (simp [entryFrame, mkF, argsToLocals, Value.category]; done) | rfl) ?_
  refine X0.iloadN (pc' := 1) d14_0 rfl rfl ?_
  refine X0.iconst (pc' := 2) (z := 1) d14_1 rfl rfl ?_
  refine X0.iadd (pc' := 3) d14_2 rfl ?_
  refine X0.istoreN (pc' := 4) (l' := #[.val (.ref pa), .val (.int a), .val (.int (1 : Int32)), .val (.int (a + (1 : Int32)))]) d14_3 rfl rfl ?_
  refine X0.iloadN (pc' := 5) d14_4 rfl rfl ?_
  refine X0.iloadN (pc' := 6) d14_5 rfl rfl ?_
  refine X0.iloadN (pc' := 7) d14_6 rfl rfl ?_
  refine X0.iadd (pc' := 8) d14_7 rfl ?_
  refine X0.icmpYes (pc' := 28) d14_8 (flt (own_irr _)).2.1 (by decide) (by decide) ?_
  refine X0.iconst (pc' := 29) (z := 0) d14_28 rfl rfl ?_
  exact X0.zreturn (z' := (0 : Int32)) rfl (by simp) d14_29 rfl (by decide) (by decide) ⟨rfl, rfl⟩
theorem own_cb {i n : Nat} (hn : n < 2147483648) (hi : i < n) : ¬ ((n.toInt32 ||| i.toInt32) ||| (1 : Int32)) < (0 : Int32) ∧ ¬ (n.toInt32 - i.toInt32) < (1 : Int32) := by
  have e1 := own_i32 hn
  have e2 := own_i32 (n := i) (by omega)
  have e3 : (1 : Int32).toInt = 1 := rfl
  have e0 : (0 : Int32).toInt = 0 := rfl
  have o1 := (c_orS n.toInt32 i.toInt32).1 (by omega) (by omega)
  have o2 := (c_orS (n.toInt32 ||| i.toInt32) (1 : Int32)).1 o1 (by decide)
  have s := c_isub n.toInt32 i.toInt32
  have r := rng32 (n.toInt32 - i.toInt32)
  rw [Int32.lt_iff_toInt_lt, Int32.lt_iff_toInt_lt]
  exact ⟨by omega, by omega⟩
def own_b (x : Int32) : Int32 := x.toInt8.toInt32
theorem own_bb (x : Int32) : (x.toInt8.toInt32).toInt8.toInt32 = own_b x := by unfold own_b; simp
theorem own_ge0 {x : Int32} (h : 0 ≤ x.toInt ∧ x.toInt ≤ 255) : ¬ x < (0 : Int32) ∧ ¬ (255 : Int32) < x := by
  rw [Int32.lt_iff_toInt_lt, Int32.lt_iff_toInt_lt, show (255 : Int32).toInt = 255 from rfl, show (0 : Int32).toInt = 0 from rfl]; omega

set_option maxRecDepth 65536 in
set_option maxHeartbeats 40000000 in
theorem ctF_r (l : Launch) (Z : State) (a0 : Array Value) (hw : ∀ d ∈ tables_1, d.before a0 Z = true) (i n : Nat) (fo : Addr) (h0 : Heap) (hN : n < 2147483648) (hi : i < n) :
    Ct l Z y11 jdk_41_method_13_code 4 (some .int) ({ frames := 0, cells := 0, slots := 0, locals := 0 } : Room) #[(.int i.toInt32), (.int (1 : Int32)), (.int n.toInt32), (.ref fo)] h0 [] (fun v h => v = some (.int i.toInt32) ∧ h0 = h) := by
  refine Ct.of (plainFor_of_name (by first | (simp [plainName, overriddenIn]; done) | decide +kernel)) ?_
  intro p e s m below meth c T0 X0
  refine Runs.top (g' := mkF m 0 #[.val (.int i.toInt32), .val (.int (1 : Int32)), .val (.int n.toInt32), .val (.ref fo)] []) (by first | (simp [entryFrame, mkF, argsToLocals, Value.category]; done) | rfl) ?_
  refine X0.iloadN (pc' := 1) d11_0 rfl rfl ?_
  refine X0.iloadN (pc' := 2) d11_1 rfl rfl ?_
  refine X0.ior (pc' := 3) d11_2 rfl ?_
  refine X0.iloadN (pc' := 4) d11_3 rfl rfl ?_
  refine X0.ior (pc' := 5) d11_4 rfl ?_
  refine X0.ifNo (pc' := 8) d11_5 (flt (own_cb hN hi).1).1 rfl ?_
  refine X0.iloadN (pc' := 9) d11_8 rfl rfl ?_
  refine X0.iloadN (pc' := 10) d11_9 rfl rfl ?_
  refine X0.iloadN (pc' := 11) d11_10 rfl rfl ?_
  refine X0.isub (pc' := 12) d11_11 rfl ?_
  refine X0.icmpYes (pc' := 23) d11_12 (flt (own_cb hN hi).2).2.2.2 (by decide) (by decide) ?_
  refine X0.iloadN (pc' := 24) d11_23 rfl rfl ?_
  exact X0.ireturn rfl d11_24 (by decide) (by decide) ⟨rfl, rfl⟩
set_option maxRecDepth 65536 in
set_option maxHeartbeats 40000000 in
theorem ctF_n (l : Launch) (Z : State) (a0 : Array Value) (hw : ∀ d ∈ tables_1, d.before a0 Z = true) (i n : Nat) (h0 : Heap) (hN : n < 2147483648) (hi : i < n) :
    Ct l Z y11 jdk_41_method_13_code 4 (some .int) ({ frames := 0, cells := 0, slots := 0, locals := 0 } : Room) #[(.int i.toInt32), (.int (1 : Int32)), (.int n.toInt32), .null] h0 [] (fun v h => v = some (.int i.toInt32) ∧ h0 = h) := by
  refine Ct.of (plainFor_of_name (by first | (simp [plainName, overriddenIn]; done) | decide +kernel)) ?_
  intro p e s m below meth c T0 X0
  refine Runs.top (g' := mkF m 0 #[.val (.int i.toInt32), .val (.int (1 : Int32)), .val (.int n.toInt32), .val .null] []) (by first | (simp [entryFrame, mkF, argsToLocals, Value.category]; done) | rfl) ?_
  refine X0.iloadN (pc' := 1) d11_0 rfl rfl ?_
  refine X0.iloadN (pc' := 2) d11_1 rfl rfl ?_
  refine X0.ior (pc' := 3) d11_2 rfl ?_
  refine X0.iloadN (pc' := 4) d11_3 rfl rfl ?_
  refine X0.ior (pc' := 5) d11_4 rfl ?_
  refine X0.ifNo (pc' := 8) d11_5 (flt (own_cb hN hi).1).1 rfl ?_
  refine X0.iloadN (pc' := 9) d11_8 rfl rfl ?_
  refine X0.iloadN (pc' := 10) d11_9 rfl rfl ?_
  refine X0.iloadN (pc' := 11) d11_10 rfl rfl ?_
  refine X0.isub (pc' := 12) d11_11 rfl ?_
  refine X0.icmpYes (pc' := 23) d11_12 (flt (own_cb hN hi).2).2.2.2 (by decide) (by decide) ?_
  refine X0.iloadN (pc' := 24) d11_23 rfl rfl ?_
  exact X0.ireturn rfl d11_24 (by decide) (by decide) ⟨rfl, rfl⟩
set_option maxRecDepth 65536 in
set_option maxHeartbeats 40000000 in
theorem ctB (l : Launch) (Z : State) (a0 : Array Value) (hw : ∀ d ∈ tables_1, d.before a0 Z = true) (i n : Nat) (fov : Value) (h0 : Heap) (Sf : Sta Z h0 "jdk/internal/util/Preconditions" "SIOOBE_FORMATTER" "Ljava/util/function/BiFunction;" fov) (hfo : fov = .null ∨ ∃ q, fov = .ref q) (hN : n < 2147483648) (hi : i < n) :
    Ct l Z y10 jdk_42_method_157_code 3 (some .int) ({ frames := 1, cells := 0, slots := 0, locals := 15 } : Room) #[(.int i.toInt32), (.int (1 : Int32)), (.int n.toInt32)] h0 [] (fun v h => v = some (.int i.toInt32) ∧ h0 = h) := by
  refine Ct.of (plainFor_of_name (by first | (simp [plainName, overriddenIn]; done) | decide +kernel)) ?_
  intro p e s m below meth c T0 X0
  refine Runs.top (g' := mkF m 0 #[.val (.int i.toInt32), .val (.int (1 : Int32)), .val (.int n.toInt32)] []) (by first | (simp [entryFrame, mkF, argsToLocals, Value.category]; done) | rfl) ?_
  rcases hfo with rfl | ⟨fo, rfl⟩
  · refine X0.iloadN (pc' := 1) d10_0 rfl rfl ?_
    refine X0.iloadN (pc' := 2) d10_1 rfl rfl ?_
    refine X0.iloadN (pc' := 3) d10_2 rfl rfl ?_
    refine X0.getstatic (pc' := 6) (host := "") (Or.inl (wd_49 hw)) Via.refl Sf d10_3 rfl (fun T1 X1 => ?_)
    refine X1.callS (pc' := 9) (W := 0) (argsL := [(.int i.toInt32), (.int (1 : Int32)), (.int n.toInt32), .null]) (rest := []) (ctF_n l Z a0 hw i n h0 hN hi) (wd_51 hw) (wd_52 hw) (wd_50 hw) (wd_53 hw) (by decide) pd_1 rfl rfl rfl rfl d10_6 rfl (by decide) rfl (by decide) (by decide) (by decide) allWs0 (fun T2 h2 v2 X2 K2 Q2 => ?_)
    obtain ⟨rfl, rfl⟩ := Q2
    show Runs p e below (T2.setTop (mkF m 9 #[.val (.int i.toInt32), .val (.int (1 : Int32)), .val (.int n.toInt32)] [(.int i.toInt32)])) _
    exact X2.ireturn rfl d10_9 (by decide) (by decide) ⟨rfl, rfl⟩
  · refine X0.iloadN (pc' := 1) d10_0 rfl rfl ?_
    refine X0.iloadN (pc' := 2) d10_1 rfl rfl ?_
    refine X0.iloadN (pc' := 3) d10_2 rfl rfl ?_
    refine X0.getstatic (pc' := 6) (host := "") (Or.inl (wd_49 hw)) Via.refl Sf d10_3 rfl (fun T3 X3 => ?_)
    refine X3.callS (pc' := 9) (W := 0) (argsL := [(.int i.toInt32), (.int (1 : Int32)), (.int n.toInt32), (.ref fo)]) (rest := []) (ctF_r l Z a0 hw i n fo h0 hN hi) (wd_51 hw) (wd_52 hw) (wd_50 hw) (wd_53 hw) (by decide) pd_1 rfl rfl rfl rfl d10_6 rfl (by decide) rfl (by decide) (by decide) (by decide) allWs0 (fun T4 h4 v4 X4 K4 Q4 => ?_)
    obtain ⟨rfl, rfl⟩ := Q4
    show Runs p e below (T4.setTop (mkF m 9 #[.val (.int i.toInt32), .val (.int (1 : Int32)), .val (.int n.toInt32)] [(.int i.toInt32)])) _
    exact X4.ireturn rfl d10_9 (by decide) (by decide) ⟨rfl, rfl⟩
set_option maxRecDepth 65536 in
set_option maxHeartbeats 40000000 in
theorem ctP (l : Launch) (Z : State) (a0 : Array Value) (hw : ∀ d ∈ tables_1, d.before a0 Z = true) (pa : Addr) (P : Nat → Int32) (n i : Nat) (h0 : Heap) (Vp : Lst Z h0 pa .int (own_tn n P)) (hn : 0 < n) (hN : n < 2147483648) (hP : ∀ t, t < n → 0 ≤ (P t).toInt ∧ (P t).toInt ≤ 255) (hi : i < n) :
    Ct l Z y12 jdk_52_method_18_code 10 (some (.array .byte)) ({ frames := 0, cells := 1, slots := 1, locals := 0 } : Room) #[(.ref pa), (.int i.toInt32), (.int (1 : Int32))] h0 [] (fun v h => ∃ b, v = some (.ref b) ∧ h0.size ≤ b ∧ Lst Z h b .byte [(.int (own_b (P i)))]) := by
  refine Ct.of (plainFor_of_name (by first | (simp [plainName, overriddenIn]; done) | decide +kernel)) ?_
  intro p e s m below meth c T0 X0
  refine Runs.top (g' := mkF m 0 #[.val (.ref pa), .val (.int i.toInt32), .val (.int (1 : Int32)), .unset, .unset, .unset, .unset, .unset, .unset, .unset] []) (by first | (simp [entryFrame, mkF, argsToLocals, Value.category]; done) | rfl) ?_
  refine X0.iloadN (pc' := 1) d12_0 rfl rfl ?_
  refine X0.newarray (pc' := 3) (ty := .byte) rfl (wd_59 hw) d12_1 rfl (cap := 1) ⟨by decide, by decide⟩ (by decide) (by decide) (by decide) (fun T1 h1 b1 X1 g1 E1 V1 => ?_)
  have sz_b1 : h0.size ≤ b1 := g1 ▸ X0.size
  have ne_pa_b1 : pa ≠ b1 := Nat.ne_of_lt (g1 ▸ Vp.lt)
  have Vp_1 := Vp.ext E1
  have V1' : Lst Z h1 b1 .byte [(.int (0 : Int32))] := V1
  refine X1.astoreN (pc' := 4) (l' := #[.val (.ref pa), .val (.int i.toInt32), .val (.int (1 : Int32)), .val (.ref b1), .unset, .unset, .unset, .unset, .unset, .unset]) d12_3 rfl rfl rfl ?_
  refine X1.iloadN (pc' := 5) d12_4 rfl rfl ?_
  refine X1.iloadN (pc' := 6) d12_5 rfl rfl ?_
  refine X1.iadd (pc' := 7) d12_6 rfl ?_
  refine X1.istore (pc' := 9) (l' := #[.val (.ref pa), .val (.int i.toInt32), .val (.int (1 : Int32)), .val (.ref b1), .val (.int (i.toInt32 + (1 : Int32))), .unset, .unset, .unset, .unset, .unset]) d12_7 rfl rfl ?_
  refine X1.iconst (pc' := 10) (z := 0) d12_9 rfl rfl ?_
  refine X1.istore (pc' := 12) (l' := #[.val (.ref pa), .val (.int i.toInt32), .val (.int (1 : Int32)), .val (.ref b1), .val (.int (i.toInt32 + (1 : Int32))), .val (.int (0 : Int32)), .unset, .unset, .unset, .unset]) d12_10 rfl rfl ?_
  refine X1.iload (pc' := 14) d12_12 rfl rfl ?_
  refine X1.iloadN (pc' := 15) d12_14 rfl rfl ?_
  refine X1.icmpNo (pc' := 18) d12_15 (by decide) rfl ?_
  refine X1.aloadN (pc' := 19) d12_18 rfl rfl rfl ?_
  refine X1.iloadN (pc' := 20) d12_19 rfl rfl ?_
  refine X1.iaload (pc' := 21) (v := (.int (P i))) Vp_1 (own_il (own_i32 (by omega)) hi) (own_tn_at (own_ilt (own_i32 (by omega))) hi) d12_20 rfl ?_
  refine X1.istore (pc' := 23) (l' := #[.val (.ref pa), .val (.int i.toInt32), .val (.int (1 : Int32)), .val (.ref b1), .val (.int (i.toInt32 + (1 : Int32))), .val (.int (0 : Int32)), .val (.int (P i)), .unset, .unset, .unset]) d12_21 rfl rfl ?_
  refine X1.iload (pc' := 25) d12_23 rfl rfl ?_
  refine X1.ifNo (pc' := 28) d12_25 (flt (own_ge0 (hP i hi)).1).1 rfl ?_
  refine X1.iload (pc' := 30) d12_28 rfl rfl ?_
  refine X1.sipush (pc' := 33) (z := 255) d12_30 rfl rfl ?_
  refine X1.icmpNo (pc' := 36) d12_33 (flt (own_ge0 (hP i hi)).2).2.2.1 rfl ?_
  refine X1.aloadN (pc' := 37) d12_36 rfl rfl rfl ?_
  refine X1.iload (pc' := 39) d12_37 rfl rfl ?_
  refine X1.iload (pc' := 41) d12_39 rfl rfl ?_
  refine X1.i2b (pc' := 42) d12_41 rfl ?_
  refine X1.bastore (pc' := 43) V1' (show Inb (0 : Int32) 1 from ⟨by decide, by decide⟩) d12_42 rfl (Or.inr sz_b1) (fun T2 h2 X2 W2 => ?_)
  rw [own_bb] at W2
  have V2 : Lst Z h2 b1 .byte [(.int (own_b (P i)))] := V1'.set W2
  have Vp_2 := Vp_1.other W2 ne_pa_b1
  refine X2.goto (pc' := 176) d12_43 (by decide) (by decide) ?_
  refine X2.iinc (pc' := 179) (z := 1) (l' := #[.val (.ref pa), .val (.int i.toInt32), .val (.int (1 : Int32)), .val (.ref b1), .val (.int (i.toInt32 + (1 : Int32))), .val (.int (1 : Int32)), .val (.int (P i)), .unset, .unset, .unset]) d12_176 rfl rfl rfl rfl ?_
  refine X2.iinc (pc' := 182) (z := 1) (l' := #[.val (.ref pa), .val (.int (i.toInt32 + (1 : Int32))), .val (.int (1 : Int32)), .val (.ref b1), .val (.int (i.toInt32 + (1 : Int32))), .val (.int (1 : Int32)), .val (.int (P i)), .unset, .unset, .unset]) d12_179 rfl rfl rfl rfl ?_
  refine X2.goto (pc' := 12) d12_182 (by decide) (by decide) ?_
  refine X2.iload (pc' := 14) d12_12 rfl rfl ?_
  refine X2.iloadN (pc' := 15) d12_14 rfl rfl ?_
  refine X2.icmpYes (pc' := 185) d12_15 (by decide) (by decide) (by decide) ?_
  refine X2.aloadN (pc' := 186) d12_185 rfl rfl rfl ?_
  exact X2.areturn rfl rfl rfl rfl d12_186 (by decide) (by decide) ⟨_, rfl, sz_b1, V2⟩
set_option maxRecDepth 65536 in
set_option maxHeartbeats 40000000 in
theorem ctcoder (l : Launch) (Z : State) (a0 : Array Value) (hw : ∀ d ∈ tables_1, d.before a0 Z = true) (b : Addr) (x : Int32) (h0 : Heap) (Vb : Lst Z h0 b .byte [(.int x)]) :
    Ct l Z y13 jdk_52_method_15_code 2 (some .byte) ({ frames := 0, cells := 0, slots := 0, locals := 0 } : Room) #[(.ref b), (.int (1 : Int32))] h0 [] (fun v h => v = some (.int (0 : Int32)) ∧ h0 = h) := by
  refine Ct.of (plainFor_of_name (by first | (simp [plainName, overriddenIn]; done) | decide +kernel)) ?_
  intro p e s m below meth c T0 X0
  refine Runs.top (g' := mkF m 0 #[.val (.ref b), .val (.int (1 : Int32))] []) (by first | (simp [entryFrame, mkF, argsToLocals, Value.category]; done) | rfl) ?_
  refine X0.iloadN (pc' := 1) d13_0 rfl rfl ?_
  refine X0.aloadN (pc' := 2) d13_1 rfl rfl rfl ?_
  refine X0.arraylength (pc' := 3) (n := (1 : Int32)) Vb rfl d13_2 rfl ?_
  refine X0.isub (pc' := 4) d13_3 rfl ?_
  show Runs p e below (T0.setTop (mkF m 4 #[.val (.ref b), .val (.int (1 : Int32))] [(.int (0 : Int32))])) _
  refine X0.bipush (pc' := 6) (z := 31) d13_4 rfl rfl ?_
  refine X0.iushr (pc' := 7) d13_6 rfl ?_
  refine X0.i2b (pc' := 8) d13_7 rfl ?_
  exact X0.zreturn rfl (by simp) d13_8 (by decide) (by decide) (by decide) ⟨rfl, rfl⟩
set_option maxRecDepth 65536 in
set_option maxHeartbeats 40000000 in
theorem ctI (l : Launch) (Z : State) (a0 : Array Value) (hw : ∀ d ∈ tables_1, d.before a0 Z = true) (a pa : Addr) (P : Nat → Int32) (n i : Nat) (fov : Value) (cz : Int32) (h0 : Heap) (E_a : Exa Z h0 a "java/lang/String") (Fvalue_a : Fld Z h0 a "java/lang/String" "value" "[B" .null) (Fcoder_a : Fld Z h0 a "java/lang/String" "coder" "B" (.int (0 : Int32))) (Vp : Lst Z h0 pa .int (own_tn n P)) (hn : 0 < n) (hN : n < 2147483648) (hP : ∀ t, t < n → 0 ≤ (P t).toInt ∧ (P t).toInt ≤ 255) (hi : i < n) (hne : pa ≠ a) (Sc : Sta Z h0 "java/lang/String" "COMPACT_STRINGS" "Z" (.int cz)) (hcz : cz ≠ (0 : Int32)) (Sf : Sta Z h0 "jdk/internal/util/Preconditions" "SIOOBE_FORMATTER" "Ljava/util/function/BiFunction;" fov) (hfo : fov = .null ∨ ∃ q, fov = .ref q) :
    Ct l Z y9 jdk_42_method_6_code 5 none ({ frames := 2, cells := 1, slots := 1, locals := 29 } : Room) #[(.ref a), (.ref pa), (.int i.toInt32), (.int (1 : Int32))] h0 [a] (fun v h => v = none) := by
  refine Ct.of (plainFor_of_name (by first | (simp [plainName, overriddenIn]; done) | decide +kernel)) ?_
  intro p e s m below meth c T0 X0
  refine Runs.top (g' := mkF m 0 #[.val (.ref a), .val (.ref pa), .val (.int i.toInt32), .val (.int (1 : Int32)), .unset] []) (by first | (simp [entryFrame, mkF, argsToLocals, Value.category]; done) | rfl) ?_
  refine X0.aloadN (pc' := 1) d9_0 rfl rfl rfl ?_
  refine X0.initObj (pc' := 4) (W := 0) (wd_45 hw) (wd_33 hw) (wd_34 hw) rfl d9_1 rfl (by decide) rfl (by decide) (fun T1 X1 => ?_)
  refine X1.iloadN (pc' := 5) d9_4 rfl rfl ?_
  refine X1.iloadN (pc' := 6) d9_5 rfl rfl ?_
  refine X1.aloadN (pc' := 7) d9_6 rfl rfl rfl ?_
  refine X1.arraylength (pc' := 8) (n := n.toInt32) Vp (by rw [own_tn_len]) d9_7 rfl ?_
  refine X1.callS (pc' := 11) (W := 0) (argsL := [(.int i.toInt32), (.int (1 : Int32)), (.int n.toInt32)]) (rest := []) (ctB l Z a0 hw i n fov h0 Sf hfo hN hi) (wd_46 hw) (wd_47 hw) (wd_41 hw) (wd_48 hw) (by decide) pd_2 rfl rfl rfl rfl d9_8 rfl (by decide) rfl (by decide) (by decide) (by decide) allWs0 (fun T2 h2 v2 X2 K2 Q2 => ?_)
  obtain ⟨rfl, rfl⟩ := Q2
  show Runs p e below (T2.setTop (mkF m 11 #[.val (.ref a), .val (.ref pa), .val (.int i.toInt32), .val (.int (1 : Int32)), .unset] [(.int i.toInt32)])) _
  refine X2.pop (pc' := 12) d9_11 rfl rfl ?_
  refine X2.iloadN (pc' := 13) d9_12 rfl rfl ?_
  refine X2.ifYes (pc' := 35) d9_13 (by decide) (by decide) (by decide) ?_
  refine X2.getstatic (pc' := 38) (host := "") (Or.inl (wd_54 hw)) Via.refl Sc d9_35 rfl (fun T3 X3 => ?_)
  refine X3.ifNo (pc' := 41) d9_38 (feq hcz).1 rfl ?_
  refine X3.aloadN (pc' := 42) d9_41 rfl rfl rfl ?_
  refine X3.iloadN (pc' := 43) d9_42 rfl rfl ?_
  refine X3.iloadN (pc' := 44) d9_43 rfl rfl ?_
  refine X3.callS (pc' := 47) (W := 0) (argsL := [(.ref pa), (.int i.toInt32), (.int (1 : Int32))]) (rest := []) (ctP l Z a0 hw pa P n i h0 Vp hn hN hP hi) (wd_55 hw) (wd_56 hw) (wd_57 hw) (wd_58 hw) (by decide) pd_3 rfl rfl rfl rfl d9_44 rfl (by decide) rfl (by decide) (by decide) (by decide) allWs0 (fun T4 h4 v4 X4 K4 Q4 => ?_)
  have E_a_4 := E_a.keep K4
  have Fvalue_a_4 := Fvalue_a.keep K4 nin0
  have Fcoder_a_4 := Fcoder_a.keep K4 nin0
  have Sc_4 := sta_keep0 Sc K4
  have Sf_4 := sta_keep0 Sf K4
  have Vp_4 := Vp.keep K4 nin0
  obtain ⟨bb, rfl, szb, Vbb⟩ := Q4
  have sz_bb : h0.size ≤ bb := Nat.le_trans X3.size szb
  have ne_a_bb : a ≠ bb := Nat.ne_of_lt (Nat.lt_of_lt_of_le E_a.lt szb)
  have ne_pa_bb : pa ≠ bb := Nat.ne_of_lt (Nat.lt_of_lt_of_le Vp.lt szb)
  show Runs p e below (T4.setTop (mkF m 47 #[.val (.ref a), .val (.ref pa), .val (.int i.toInt32), .val (.int (1 : Int32)), .unset] [(.ref bb)])) _
  refine X4.astore (pc' := 49) (l' := #[.val (.ref a), .val (.ref pa), .val (.int i.toInt32), .val (.int (1 : Int32)), .val (.ref bb)]) d9_47 rfl rfl rfl ?_
  refine X4.aloadN (pc' := 50) d9_49 rfl rfl rfl ?_
  refine X4.aload (pc' := 52) d9_50 rfl rfl rfl ?_
  refine X4.iloadN (pc' := 53) d9_52 rfl rfl ?_
  refine X4.callS (pc' := 56) (W := 1) (argsL := [(.ref bb), (.int (1 : Int32))]) (rest := [(.ref a)]) (ctcoder l Z a0 hw bb (own_b (P i)) h4 Vbb) (wd_60 hw) (wd_61 hw) (wd_57 hw) (wd_62 hw) (by decide) pd_4 rfl rfl rfl rfl d9_53 rfl (by decide) rfl (by decide) (by decide) (by decide) allWs0 (fun T5 h5 v5 X5 K5 Q5 => ?_)
  obtain ⟨rfl, rfl⟩ := Q5
  show Runs p e below (T5.setTop (mkF m 56 #[.val (.ref a), .val (.ref pa), .val (.int i.toInt32), .val (.int (1 : Int32)), .val (.ref bb)] [(.int (0 : Int32)), (.ref a)])) _
  refine X5.putfieldN (pc' := 59) (v' := (.int (0 : Int32))) (wd_63 hw) Via.refl Fcoder_a_4 E_a_4 (Or.inr ⟨(wd_64 hw), rfl, rfl⟩) (wd_40 hw) (ty := .byte) (by decide) rfl (by decide) d9_56 rfl (Or.inl (by simp)) (fun T6 h6 X6 W6 => ?_)
  have Fw6 := Fld.same W6 Fcoder_a_4
  have E_a_6 := Exa.wr W6 E_a_4
  have Fvalue_a_6 := Fld.other W6 Fvalue_a_4 (Or.inr (slot_ne (Or.inr (wd_66 hw)) (Or.inr (wd_64 hw)) (by decide) (t := (.array .byte)) (t' := .byte) (by decide) (by decide)))
  have Sc_6 := Sta.wr W6 Sc_4
  have Sf_6 := Sta.wr W6 Sf_4
  have Vp_6 := Vp_4.other W6 hne
  have Vbb_6 := Vbb.other W6 (Ne.symm ne_a_bb)
  refine X6.aloadN (pc' := 60) d9_59 rfl rfl rfl ?_
  refine X6.aload (pc' := 62) d9_60 rfl rfl rfl ?_
  refine X6.putfield (pc' := 65) (host := "") (Or.inl (wd_65 hw)) Via.refl Fvalue_a_6 E_a_6 (Or.inr ⟨(wd_66 hw), rfl, rfl⟩) (wd_40 hw) (ty := (.array .byte)) (by decide) rfl rfl d9_62 rfl (Or.inl (by simp)) (fun T7 h7 X7 W7 => ?_)
  have Fw7 := Fld.same W7 Fvalue_a_6
  have E_a_7 := Exa.wr W7 E_a_6
  have Fw6_7 := Fld.other W7 Fw6 (Or.inr (slot_ne (Or.inr (wd_64 hw)) (Or.inr (wd_66 hw)) (by decide) (t := .byte) (t' := (.array .byte)) (by decide) (by decide)))
  have Sc_7 := Sta.wr W7 Sc_6
  have Sf_7 := Sta.wr W7 Sf_6
  have Vp_7 := Vp_6.other W7 hne
  have Vbb_7 := Vbb_6.other W7 (Ne.symm ne_a_bb)
  exact X7.vreturn rfl d9_65 (by decide) (by decide) rfl
theorem own_nb (x : Int32) : nar .boolean (nar .boolean x) = nar .boolean x := by
  show (x &&& 1) &&& 1 = x &&& 1
  rw [Int32.and_assoc, Int32.and_self]
theorem own_nz {P : Prop} [Decidable P] (h : ¬ nar .boolean (if P then (1 : Int32) else 0) = 0) : P := by
  by_cases q : P
  · exact q
  · rw [if_neg q] at h; exact absurd rfl h
theorem own_cov0 : ∀ n a1 c1 t : Fin 7, a1.val < n.val → c1.val < n.val → t.val < n.val → ((1 : Int32) + (if a1.val.toInt32 = (0 : Int32) then (0 : Int32) else 1)) + (if c1.val.toInt32 = (0 : Int32) then (0 : Int32) else if c1.val.toInt32 = a1.val.toInt32 then (0 : Int32) else 1) = n.val.toInt32 → (t.val = 0 ∨ t.val = a1.val ∨ t.val = c1.val) := by decide +kernel
theorem own_cov (n : Nat) (hn : n < 7) (a1 : Nat) (ha : a1 < n) (c1 : Nat) (hc : c1 < n) (e : ((1 : Int32) + (if a1.toInt32 = (0 : Int32) then (0 : Int32) else 1)) + (if c1.toInt32 = (0 : Int32) then (0 : Int32) else if c1.toInt32 = a1.toInt32 then (0 : Int32) else 1) = n.toInt32) (t : Nat) (ht : t < n) : t = 0 ∨ t = a1 ∨ t = c1 :=
  own_cov0 ⟨n, hn⟩ ⟨a1, by omega⟩ ⟨c1, by omega⟩ ⟨t, by omega⟩ ha hc ht e
theorem own_n0 {n : Nat} (hn : 0 < n) (hN : n < 2147483648) : (0 : Int32) < n.toInt32 := by
  rw [Int32.lt_iff_toInt_lt, own_i32 hN, show (0 : Int32).toInt = 0 from rfl]; omega

set_option maxRecDepth 65536 in
set_option maxHeartbeats 40000000 in
theorem ctQ (l : Launch) (Z : State) (a0 : Array Value) (hw : ∀ d ∈ tables_1, d.before a0 Z = true) (a : Addr) (pa cma : Addr) (cm P : Nat → Int32) (n fr a1 c1 : Nat) (fov : Value) (cz ce : Int32) (h0 : Heap) (E_a : Exa Z h0 a "com/example/rummage/rummage/SeekPlan") (Fanchor_a : Fld Z h0 a "com/example/rummage/rummage/SeekPlan" "anchor" "I" (.int (0 : Int32))) (Fcheck_a : Fld Z h0 a "com/example/rummage/rummage/SeekPlan" "check" "I" (.int (0 : Int32))) (FcheckedAlone_a : Fld Z h0 a "com/example/rummage/rummage/SeekPlan" "checkedAlone" "Ljava/lang/String;" .null) (Fsought_a : Fld Z h0 a "com/example/rummage/rummage/SeekPlan" "sought" "Ljava/lang/String;" .null) (FfoundCoversChecks_a : Fld Z h0 a "com/example/rummage/rummage/SeekPlan" "foundCoversChecks" "Z" (.int (0 : Int32))) (FseeksWhole_a : Fld Z h0 a "com/example/rummage/rummage/SeekPlan" "seeksWhole" "Z" (.int (0 : Int32))) (FleadRecurs_a : Fld Z h0 a "com/example/rummage/rummage/SeekPlan" "leadRecurs" "Z" (.int (0 : Int32))) (FcheckIsRarer_a : Fld Z h0 a "com/example/rummage/rummage/SeekPlan" "checkIsRarer" "Z" (.int (0 : Int32))) (FfirstIsRarer_a : Fld Z h0 a "com/example/rummage/rummage/SeekPlan" "firstIsRarer" "Z" (.int (0 : Int32))) (FpairsCheck_a : Fld Z h0 a "com/example/rummage/rummage/SeekPlan" "pairsCheck" "Z" (.int (0 : Int32))) (Sm : Sta Z h0 "com/example/rummage/rummage/SeekPlan" "COMMONNESS" "[B" (.ref cma)) (Vm : Lst Z h0 cma .byte (own_tn 128 cm)) (Vp : Lst Z h0 pa .int (own_tn n P)) (hn : 0 < n) (hN : n < 2147483648) (hP : ∀ t, t < n → 0 ≤ (P t).toInt ∧ (P t).toInt ≤ 255) (Sc : Sta Z h0 "java/lang/String" "COMPACT_STRINGS" "Z" (.int cz)) (hcz : cz ≠ (0 : Int32)) (Sf : Sta Z h0 "jdk/internal/util/Preconditions" "SIOOBE_FORMATTER" "Ljava/util/function/BiFunction;" fov) (hfo : fov = .null ∨ ∃ q, fov = .ref q) (Se : Sta Z h0 "com/example/rummage/rummage/SeekPlan" "COMMONEST" "I" (.int ce)) (hf0 : fr ≤ n) (ha1 : a1 < n) (hc1 : c1 < n) (hc : (own_rs cm P fr a1.toInt32 1 (n - fr)).1 = c1.toInt32) (hne : pa ≠ a) (hnc : cma ≠ a) :
    Ct l Z y7 prog_21_method_3_code 6 none ({ frames := 3, cells := 4, slots := 10, locals := 47 } : Room) #[(.ref a), (.ref pa), (.int a1.toInt32), (.int (1 : Int32)), (.int fr.toInt32)] h0 [a] (fun v h => v = none ∧ ∃ f1 p1, Exa Z h a "com/example/rummage/rummage/SeekPlan" ∧ Fld Z h a "com/example/rummage/rummage/SeekPlan" "anchor" "I" (.int a1.toInt32) ∧ Fld Z h a "com/example/rummage/rummage/SeekPlan" "check" "I" (.int c1.toInt32) ∧ Fld Z h a "com/example/rummage/rummage/SeekPlan" "firstIsRarer" "Z" (.int f1) ∧ Fld Z h a "com/example/rummage/rummage/SeekPlan" "pairsCheck" "Z" (.int p1) ∧ nar .boolean f1 = f1 ∧ nar .boolean p1 = p1) := by
  refine Ct.of (plainFor_of_name (by first | (simp [plainName, overriddenIn]; done) | decide +kernel)) ?_
  intro p e s m below meth c T0 X0
  refine Runs.top (g' := mkF m 0 #[.val (.ref a), .val (.ref pa), .val (.int a1.toInt32), .val (.int (1 : Int32)), .val (.int fr.toInt32), .unset] []) (by first | (simp [entryFrame, mkF, argsToLocals, Value.category]; done) | rfl) ?_
  refine X0.aloadN (pc' := 1) d7_0 rfl rfl rfl ?_
  refine X0.initObj (pc' := 4) (W := 0) (wd_32 hw) (wd_33 hw) (wd_34 hw) rfl d7_1 rfl (by decide) rfl (by decide) (fun T1 X1 => ?_)
  refine X1.aloadN (pc' := 5) d7_4 rfl rfl rfl ?_
  refine X1.iloadN (pc' := 6) d7_5 rfl rfl ?_
  refine X1.putfield (pc' := 9) (host := "") (Or.inl (wd_35 hw)) Via.refl Fanchor_a E_a (Or.inr ⟨(wd_36 hw), rfl, rfl⟩) (wd_12 hw) (ty := .int) (by decide) rfl rfl d7_6 rfl (Or.inl (by simp)) (fun T2 h2 X2 W2 => ?_)
  have Fw2 := Fld.same W2 Fanchor_a
  have E_a_2 := Exa.wr W2 E_a
  have Fcheck_a_2 := Fld.other W2 Fcheck_a (Or.inr (slot_ne (Or.inr (wd_38 hw)) (Or.inr (wd_36 hw)) (by decide) (t := .int) (t' := .int) (by decide) (by decide)))
  have FcheckedAlone_a_2 := Fld.other W2 FcheckedAlone_a (Or.inr (slot_ne (Or.inr (wd_68 hw)) (Or.inr (wd_36 hw)) (by decide) (t := (.object "java/lang/String")) (t' := .int) (by decide) (by decide)))
  have Fsought_a_2 := Fld.other W2 Fsought_a (Or.inr (slot_ne (Or.inr (wd_70 hw)) (Or.inr (wd_36 hw)) (by decide) (t := (.object "java/lang/String")) (t' := .int) (by decide) (by decide)))
  have FfoundCoversChecks_a_2 := Fld.other W2 FfoundCoversChecks_a (Or.inr (slot_ne (Or.inr (wd_72 hw)) (Or.inr (wd_36 hw)) (by decide) (t := .boolean) (t' := .int) (by decide) (by decide)))
  have FseeksWhole_a_2 := Fld.other W2 FseeksWhole_a (Or.inr (slot_ne (Or.inr (wd_74 hw)) (Or.inr (wd_36 hw)) (by decide) (t := .boolean) (t' := .int) (by decide) (by decide)))
  have FleadRecurs_a_2 := Fld.other W2 FleadRecurs_a (Or.inr (slot_ne (Or.inr (wd_79 hw)) (Or.inr (wd_36 hw)) (by decide) (t := .boolean) (t' := .int) (by decide) (by decide)))
  have FcheckIsRarer_a_2 := Fld.other W2 FcheckIsRarer_a (Or.inr (slot_ne (Or.inr (wd_81 hw)) (Or.inr (wd_36 hw)) (by decide) (t := .boolean) (t' := .int) (by decide) (by decide)))
  have FfirstIsRarer_a_2 := Fld.other W2 FfirstIsRarer_a (Or.inr (slot_ne (Or.inr (wd_83 hw)) (Or.inr (wd_36 hw)) (by decide) (t := .boolean) (t' := .int) (by decide) (by decide)))
  have FpairsCheck_a_2 := Fld.other W2 FpairsCheck_a (Or.inr (slot_ne (Or.inr (wd_85 hw)) (Or.inr (wd_36 hw)) (by decide) (t := .boolean) (t' := .int) (by decide) (by decide)))
  have Sm_2 := Sta.wr W2 Sm
  have Vm_2 := Vm.other W2 hnc
  have Sc_2 := Sta.wr W2 Sc
  have Sf_2 := Sta.wr W2 Sf
  have Vp_2 := Vp.other W2 hne
  have Se_2 := Sta.wr W2 Se
  refine X2.aloadN (pc' := 10) d7_9 rfl rfl rfl ?_
  refine X2.aloadN (pc' := 11) d7_10 rfl rfl rfl ?_
  refine X2.iconst (pc' := 12) (z := 1) d7_11 rfl rfl ?_
  refine X2.iload (pc' := 14) d7_12 rfl rfl ?_
  refine X2.iloadN (pc' := 15) d7_14 rfl rfl ?_
  refine X2.iconst (pc' := 16) (z := 1) d7_15 rfl rfl ?_
  refine X2.callS (pc' := 19) (W := 1) (argsL := [(.ref pa), (.int (1 : Int32)), (.int fr.toInt32), (.int a1.toInt32), (.int (1 : Int32))]) (rest := [(.ref a)]) (ct5 l Z a0 hw pa cma cm P n fr a1.toInt32 (1 : Int32) h2 Sm_2 Vm_2 Vp_2 hn hN hP hf0) (wd_20 hw) (wd_21 hw) (wd_9 hw) (wd_22 hw) (by decide) pd_5 rfl rfl rfl rfl d7_16 rfl (by decide) rfl (by decide) (by decide) (by decide) allWs0 (fun T3 h3 v3 X3 K3 Q3 => ?_)
  have E_a_3 := E_a_2.keep K3
  have Fw2_3 := Fw2.keep K3 nin0
  have Fcheck_a_3 := Fcheck_a_2.keep K3 nin0
  have FcheckedAlone_a_3 := FcheckedAlone_a_2.keep K3 nin0
  have Fsought_a_3 := Fsought_a_2.keep K3 nin0
  have FfoundCoversChecks_a_3 := FfoundCoversChecks_a_2.keep K3 nin0
  have FseeksWhole_a_3 := FseeksWhole_a_2.keep K3 nin0
  have FleadRecurs_a_3 := FleadRecurs_a_2.keep K3 nin0
  have FcheckIsRarer_a_3 := FcheckIsRarer_a_2.keep K3 nin0
  have FfirstIsRarer_a_3 := FfirstIsRarer_a_2.keep K3 nin0
  have FpairsCheck_a_3 := FpairsCheck_a_2.keep K3 nin0
  have Sm_3 := sta_keep0 Sm_2 K3
  have Vm_3 := Vm_2.keep K3 nin0
  have Sc_3 := sta_keep0 Sc_2 K3
  have Sf_3 := sta_keep0 Sf_2 K3
  have Vp_3 := Vp_2.keep K3 nin0
  have Se_3 := sta_keep0 Se_2 K3
  rw [hc] at Q3
  obtain rfl := Q3
  show Runs p e below (T3.setTop (mkF m 19 #[.val (.ref a), .val (.ref pa), .val (.int a1.toInt32), .val (.int (1 : Int32)), .val (.int fr.toInt32), .unset] [(.int c1.toInt32), (.ref a)])) _
  refine X3.putfield (pc' := 22) (host := "") (Or.inl (wd_37 hw)) Via.refl Fcheck_a_3 E_a_3 (Or.inr ⟨(wd_38 hw), rfl, rfl⟩) (wd_12 hw) (ty := .int) (by decide) rfl rfl d7_19 rfl (Or.inl (by simp)) (fun T4 h4 X4 W4 => ?_)
  have Fw4 := Fld.same W4 Fcheck_a_3
  have E_a_4 := Exa.wr W4 E_a_3
  have Fw2_4 := Fld.other W4 Fw2_3 (Or.inr (slot_ne (Or.inr (wd_36 hw)) (Or.inr (wd_38 hw)) (by decide) (t := .int) (t' := .int) (by decide) (by decide)))
  have FcheckedAlone_a_4 := Fld.other W4 FcheckedAlone_a_3 (Or.inr (slot_ne (Or.inr (wd_68 hw)) (Or.inr (wd_38 hw)) (by decide) (t := (.object "java/lang/String")) (t' := .int) (by decide) (by decide)))
  have Fsought_a_4 := Fld.other W4 Fsought_a_3 (Or.inr (slot_ne (Or.inr (wd_70 hw)) (Or.inr (wd_38 hw)) (by decide) (t := (.object "java/lang/String")) (t' := .int) (by decide) (by decide)))
  have FfoundCoversChecks_a_4 := Fld.other W4 FfoundCoversChecks_a_3 (Or.inr (slot_ne (Or.inr (wd_72 hw)) (Or.inr (wd_38 hw)) (by decide) (t := .boolean) (t' := .int) (by decide) (by decide)))
  have FseeksWhole_a_4 := Fld.other W4 FseeksWhole_a_3 (Or.inr (slot_ne (Or.inr (wd_74 hw)) (Or.inr (wd_38 hw)) (by decide) (t := .boolean) (t' := .int) (by decide) (by decide)))
  have FleadRecurs_a_4 := Fld.other W4 FleadRecurs_a_3 (Or.inr (slot_ne (Or.inr (wd_79 hw)) (Or.inr (wd_38 hw)) (by decide) (t := .boolean) (t' := .int) (by decide) (by decide)))
  have FcheckIsRarer_a_4 := Fld.other W4 FcheckIsRarer_a_3 (Or.inr (slot_ne (Or.inr (wd_81 hw)) (Or.inr (wd_38 hw)) (by decide) (t := .boolean) (t' := .int) (by decide) (by decide)))
  have FfirstIsRarer_a_4 := Fld.other W4 FfirstIsRarer_a_3 (Or.inr (slot_ne (Or.inr (wd_83 hw)) (Or.inr (wd_38 hw)) (by decide) (t := .boolean) (t' := .int) (by decide) (by decide)))
  have FpairsCheck_a_4 := Fld.other W4 FpairsCheck_a_3 (Or.inr (slot_ne (Or.inr (wd_85 hw)) (Or.inr (wd_38 hw)) (by decide) (t := .boolean) (t' := .int) (by decide) (by decide)))
  have Sm_4 := Sta.wr W4 Sm_3
  have Vm_4 := Vm_3.other W4 hnc
  have Sc_4 := Sta.wr W4 Sc_3
  have Sf_4 := Sta.wr W4 Sf_3
  have Vp_4 := Vp_3.other W4 hne
  have Se_4 := Sta.wr W4 Se_3
  refine X4.aloadN (pc' := 23) d7_22 rfl rfl rfl ?_
  refine X4.aloadN (pc' := 24) d7_23 rfl rfl rfl ?_
  refine X4.arraylength (pc' := 25) (n := n.toInt32) Vp_4 (by rw [own_tn_len]) d7_24 rfl ?_
  refine X4.ifNo (pc' := 28) d7_25 (tlt (own_n0 hn hN)).2.2.2 rfl ?_
  refine X4.new (pc' := 31) (wd_39 hw) (wd_40 hw) (wd_41 hw) d7_28 rfl (by decide) (by decide) (fun T5 h5 b5 X5 g5 E5 A5 D5 => ?_)
  have sz_b5 : h0.size ≤ b5 := g5 ▸ X4.size
  have ne_a_b5 : a ≠ b5 := Nat.ne_of_lt (g5 ▸ E_a_4.lt)
  have ne_cma_b5 : cma ≠ b5 := Nat.ne_of_lt (g5 ▸ Vm_4.lt)
  have ne_pa_b5 : pa ≠ b5 := Nat.ne_of_lt (g5 ▸ Vp_4.lt)
  have E_a_5 := Exa.ext E5 E_a_4
  have Fw2_5 := Fld.ext E5 Fw2_4
  have Fw4_5 := Fld.ext E5 Fw4
  have FcheckedAlone_a_5 := Fld.ext E5 FcheckedAlone_a_4
  have Fsought_a_5 := Fld.ext E5 Fsought_a_4
  have FfoundCoversChecks_a_5 := Fld.ext E5 FfoundCoversChecks_a_4
  have FseeksWhole_a_5 := Fld.ext E5 FseeksWhole_a_4
  have FleadRecurs_a_5 := Fld.ext E5 FleadRecurs_a_4
  have FcheckIsRarer_a_5 := Fld.ext E5 FcheckIsRarer_a_4
  have FfirstIsRarer_a_5 := Fld.ext E5 FfirstIsRarer_a_4
  have FpairsCheck_a_5 := Fld.ext E5 FpairsCheck_a_4
  have Sm_5 := Sta.ext E5 Sm_4
  have Vm_5 := Vm_4.ext E5
  have Sc_5 := Sta.ext E5 Sc_4
  have Sf_5 := Sta.ext E5 Sf_4
  have Vp_5 := Vp_4.ext E5
  have Se_5 := Sta.ext E5 Se_4
  have Fcoder_b5 : Fld Z h5 b5 "java/lang/String" "coder" "B" (.int (0 : Int32)) := D5 (Or.inr (wd_64 hw)) (ty := .byte) (by decide)
  have Fvalue_b5 : Fld Z h5 b5 "java/lang/String" "value" "[B" .null := D5 (Or.inr (wd_66 hw)) (ty := (.array .byte)) (by decide)
  refine X5.dup (pc' := 32) d7_31 rfl rfl ?_
  refine X5.aloadN (pc' := 33) d7_32 rfl rfl rfl ?_
  refine X5.aloadN (pc' := 34) d7_33 rfl rfl rfl ?_
  refine X5.getfield (pc' := 37) (host := "") (Or.inl (wd_37 hw)) Via.refl Fw4_5 d7_34 rfl (fun T6 X6 => ?_)
  refine X6.iconst (pc' := 38) (z := 1) d7_37 rfl rfl ?_
  refine X6.special (pc' := 41) (W := 2) (a := b5) (argsL := [(.ref pa), (.int c1.toInt32), (.int (1 : Int32))]) (rest := [(.ref b5), (.ref a)]) (ctI l Z a0 hw b5 pa P n c1 fov cz h5 A5 Fvalue_b5 Fcoder_b5 Vp_5 hn hN hP hc1 ne_pa_b5 Sc_5 hcz Sf_5 hfo) rfl (wd_42 hw) (wd_43 hw) (wd_41 hw) (wd_44 hw) (by decide) pd_6 rfl rfl rfl rfl d7_38 rfl (by decide) rfl (by decide) (by decide) (by decide) ((allS (Or.inr sz_b5) all0)) (fun T7 h7 v7 X7 K7 Q7 => ?_)
  have E_a_7 := E_a_5.keep K7
  have Fw2_7 := Fw2_5.keep K7 (ninS ne_a_b5 nin0)
  have Fw4_7 := Fw4_5.keep K7 (ninS ne_a_b5 nin0)
  have FcheckedAlone_a_7 := FcheckedAlone_a_5.keep K7 (ninS ne_a_b5 nin0)
  have Fsought_a_7 := Fsought_a_5.keep K7 (ninS ne_a_b5 nin0)
  have FfoundCoversChecks_a_7 := FfoundCoversChecks_a_5.keep K7 (ninS ne_a_b5 nin0)
  have FseeksWhole_a_7 := FseeksWhole_a_5.keep K7 (ninS ne_a_b5 nin0)
  have FleadRecurs_a_7 := FleadRecurs_a_5.keep K7 (ninS ne_a_b5 nin0)
  have FcheckIsRarer_a_7 := FcheckIsRarer_a_5.keep K7 (ninS ne_a_b5 nin0)
  have FfirstIsRarer_a_7 := FfirstIsRarer_a_5.keep K7 (ninS ne_a_b5 nin0)
  have FpairsCheck_a_7 := FpairsCheck_a_5.keep K7 (ninS ne_a_b5 nin0)
  have Sm_7 := sta_keepL Sm_5 K7 (exaS A5 exa0)
  have Vm_7 := Vm_5.keep K7 (ninS ne_cma_b5 nin0)
  have Sc_7 := sta_keepL Sc_5 K7 (exaS A5 exa0)
  have Sf_7 := sta_keepL Sf_5 K7 (exaS A5 exa0)
  have Vp_7 := Vp_5.keep K7 (ninS ne_pa_b5 nin0)
  have Se_7 := sta_keepL Se_5 K7 (exaS A5 exa0)
  have A5_7 := A5.keep K7
  obtain rfl := Q7
  show Runs p e below (T7.setTop (mkF m 41 #[.val (.ref a), .val (.ref pa), .val (.int a1.toInt32), .val (.int (1 : Int32)), .val (.int fr.toInt32), .unset] [(.ref b5), (.ref a)])) _
  refine X7.goto (pc' := 46) d7_41 (by decide) (by decide) ?_
  refine X7.putfield (pc' := 49) (host := "") (Or.inl (wd_67 hw)) Via.refl FcheckedAlone_a_7 E_a_7 (Or.inr ⟨(wd_68 hw), rfl, rfl⟩) (wd_12 hw) (ty := (.object "java/lang/String")) (by decide) rfl rfl d7_46 rfl (Or.inl (by simp)) (fun T8 h8 X8 W8 => ?_)
  have Fw8 := Fld.same W8 FcheckedAlone_a_7
  have E_a_8 := Exa.wr W8 E_a_7
  have Fw2_8 := Fld.other W8 Fw2_7 (Or.inr (slot_ne (Or.inr (wd_36 hw)) (Or.inr (wd_68 hw)) (by decide) (t := .int) (t' := (.object "java/lang/String")) (by decide) (by decide)))
  have Fw4_8 := Fld.other W8 Fw4_7 (Or.inr (slot_ne (Or.inr (wd_38 hw)) (Or.inr (wd_68 hw)) (by decide) (t := .int) (t' := (.object "java/lang/String")) (by decide) (by decide)))
  have Fsought_a_8 := Fld.other W8 Fsought_a_7 (Or.inr (slot_ne (Or.inr (wd_70 hw)) (Or.inr (wd_68 hw)) (by decide) (t := (.object "java/lang/String")) (t' := (.object "java/lang/String")) (by decide) (by decide)))
  have FfoundCoversChecks_a_8 := Fld.other W8 FfoundCoversChecks_a_7 (Or.inr (slot_ne (Or.inr (wd_72 hw)) (Or.inr (wd_68 hw)) (by decide) (t := .boolean) (t' := (.object "java/lang/String")) (by decide) (by decide)))
  have FseeksWhole_a_8 := Fld.other W8 FseeksWhole_a_7 (Or.inr (slot_ne (Or.inr (wd_74 hw)) (Or.inr (wd_68 hw)) (by decide) (t := .boolean) (t' := (.object "java/lang/String")) (by decide) (by decide)))
  have FleadRecurs_a_8 := Fld.other W8 FleadRecurs_a_7 (Or.inr (slot_ne (Or.inr (wd_79 hw)) (Or.inr (wd_68 hw)) (by decide) (t := .boolean) (t' := (.object "java/lang/String")) (by decide) (by decide)))
  have FcheckIsRarer_a_8 := Fld.other W8 FcheckIsRarer_a_7 (Or.inr (slot_ne (Or.inr (wd_81 hw)) (Or.inr (wd_68 hw)) (by decide) (t := .boolean) (t' := (.object "java/lang/String")) (by decide) (by decide)))
  have FfirstIsRarer_a_8 := Fld.other W8 FfirstIsRarer_a_7 (Or.inr (slot_ne (Or.inr (wd_83 hw)) (Or.inr (wd_68 hw)) (by decide) (t := .boolean) (t' := (.object "java/lang/String")) (by decide) (by decide)))
  have FpairsCheck_a_8 := Fld.other W8 FpairsCheck_a_7 (Or.inr (slot_ne (Or.inr (wd_85 hw)) (Or.inr (wd_68 hw)) (by decide) (t := .boolean) (t' := (.object "java/lang/String")) (by decide) (by decide)))
  have Sm_8 := Sta.wr W8 Sm_7
  have Vm_8 := Vm_7.other W8 hnc
  have Sc_8 := Sta.wr W8 Sc_7
  have Sf_8 := Sta.wr W8 Sf_7
  have Vp_8 := Vp_7.other W8 hne
  have Se_8 := Sta.wr W8 Se_7
  have A5_8 := Exa.wr W8 A5_7
  refine X8.aloadN (pc' := 50) d7_49 rfl rfl rfl ?_
  refine X8.new (pc' := 53) (wd_39 hw) (wd_40 hw) (wd_41 hw) d7_50 rfl (by decide) (by decide) (fun T9 h9 b9 X9 g9 E9 A9 D9 => ?_)
  have sz_b9 : h0.size ≤ b9 := g9 ▸ X8.size
  have ne_a_b9 : a ≠ b9 := Nat.ne_of_lt (g9 ▸ E_a_8.lt)
  have ne_cma_b9 : cma ≠ b9 := Nat.ne_of_lt (g9 ▸ Vm_8.lt)
  have ne_pa_b9 : pa ≠ b9 := Nat.ne_of_lt (g9 ▸ Vp_8.lt)
  have ne_b5_b9 : b5 ≠ b9 := Nat.ne_of_lt (g9 ▸ A5_8.lt)
  have E_a_9 := Exa.ext E9 E_a_8
  have Fw2_9 := Fld.ext E9 Fw2_8
  have Fw4_9 := Fld.ext E9 Fw4_8
  have Fw8_9 := Fld.ext E9 Fw8
  have Fsought_a_9 := Fld.ext E9 Fsought_a_8
  have FfoundCoversChecks_a_9 := Fld.ext E9 FfoundCoversChecks_a_8
  have FseeksWhole_a_9 := Fld.ext E9 FseeksWhole_a_8
  have FleadRecurs_a_9 := Fld.ext E9 FleadRecurs_a_8
  have FcheckIsRarer_a_9 := Fld.ext E9 FcheckIsRarer_a_8
  have FfirstIsRarer_a_9 := Fld.ext E9 FfirstIsRarer_a_8
  have FpairsCheck_a_9 := Fld.ext E9 FpairsCheck_a_8
  have Sm_9 := Sta.ext E9 Sm_8
  have Vm_9 := Vm_8.ext E9
  have Sc_9 := Sta.ext E9 Sc_8
  have Sf_9 := Sta.ext E9 Sf_8
  have Vp_9 := Vp_8.ext E9
  have Se_9 := Sta.ext E9 Se_8
  have A5_9 := Exa.ext E9 A5_8
  have Fcoder_b9 : Fld Z h9 b9 "java/lang/String" "coder" "B" (.int (0 : Int32)) := D9 (Or.inr (wd_64 hw)) (ty := .byte) (by decide)
  have Fvalue_b9 : Fld Z h9 b9 "java/lang/String" "value" "[B" .null := D9 (Or.inr (wd_66 hw)) (ty := (.array .byte)) (by decide)
  refine X9.dup (pc' := 54) d7_53 rfl rfl ?_
  refine X9.aloadN (pc' := 55) d7_54 rfl rfl rfl ?_
  refine X9.iloadN (pc' := 56) d7_55 rfl rfl ?_
  refine X9.iloadN (pc' := 57) d7_56 rfl rfl ?_
  refine X9.special (pc' := 60) (W := 2) (a := b9) (argsL := [(.ref pa), (.int a1.toInt32), (.int (1 : Int32))]) (rest := [(.ref b9), (.ref a)]) (ctI l Z a0 hw b9 pa P n a1 fov cz h9 A9 Fvalue_b9 Fcoder_b9 Vp_9 hn hN hP ha1 ne_pa_b9 Sc_9 hcz Sf_9 hfo) rfl (wd_42 hw) (wd_43 hw) (wd_41 hw) (wd_44 hw) (by decide) pd_6 rfl rfl rfl rfl d7_57 rfl (by decide) rfl (by decide) (by decide) (by decide) ((allS (Or.inr sz_b9) all0)) (fun T10 h10 v10 X10 K10 Q10 => ?_)
  have E_a_10 := E_a_9.keep K10
  have Fw2_10 := Fw2_9.keep K10 (ninS ne_a_b9 nin0)
  have Fw4_10 := Fw4_9.keep K10 (ninS ne_a_b9 nin0)
  have Fw8_10 := Fw8_9.keep K10 (ninS ne_a_b9 nin0)
  have Fsought_a_10 := Fsought_a_9.keep K10 (ninS ne_a_b9 nin0)
  have FfoundCoversChecks_a_10 := FfoundCoversChecks_a_9.keep K10 (ninS ne_a_b9 nin0)
  have FseeksWhole_a_10 := FseeksWhole_a_9.keep K10 (ninS ne_a_b9 nin0)
  have FleadRecurs_a_10 := FleadRecurs_a_9.keep K10 (ninS ne_a_b9 nin0)
  have FcheckIsRarer_a_10 := FcheckIsRarer_a_9.keep K10 (ninS ne_a_b9 nin0)
  have FfirstIsRarer_a_10 := FfirstIsRarer_a_9.keep K10 (ninS ne_a_b9 nin0)
  have FpairsCheck_a_10 := FpairsCheck_a_9.keep K10 (ninS ne_a_b9 nin0)
  have Sm_10 := sta_keepL Sm_9 K10 (exaS A9 exa0)
  have Vm_10 := Vm_9.keep K10 (ninS ne_cma_b9 nin0)
  have Sc_10 := sta_keepL Sc_9 K10 (exaS A9 exa0)
  have Sf_10 := sta_keepL Sf_9 K10 (exaS A9 exa0)
  have Vp_10 := Vp_9.keep K10 (ninS ne_pa_b9 nin0)
  have Se_10 := sta_keepL Se_9 K10 (exaS A9 exa0)
  have A5_10 := A5_9.keep K10
  have A9_10 := A9.keep K10
  obtain rfl := Q10
  show Runs p e below (T10.setTop (mkF m 60 #[.val (.ref a), .val (.ref pa), .val (.int a1.toInt32), .val (.int (1 : Int32)), .val (.int fr.toInt32), .unset] [(.ref b9), (.ref a)])) _
  refine X10.putfield (pc' := 63) (host := "") (Or.inl (wd_69 hw)) Via.refl Fsought_a_10 E_a_10 (Or.inr ⟨(wd_70 hw), rfl, rfl⟩) (wd_12 hw) (ty := (.object "java/lang/String")) (by decide) rfl rfl d7_60 rfl (Or.inl (by simp)) (fun T11 h11 X11 W11 => ?_)
  have Fw11 := Fld.same W11 Fsought_a_10
  have E_a_11 := Exa.wr W11 E_a_10
  have Fw2_11 := Fld.other W11 Fw2_10 (Or.inr (slot_ne (Or.inr (wd_36 hw)) (Or.inr (wd_70 hw)) (by decide) (t := .int) (t' := (.object "java/lang/String")) (by decide) (by decide)))
  have Fw4_11 := Fld.other W11 Fw4_10 (Or.inr (slot_ne (Or.inr (wd_38 hw)) (Or.inr (wd_70 hw)) (by decide) (t := .int) (t' := (.object "java/lang/String")) (by decide) (by decide)))
  have Fw8_11 := Fld.other W11 Fw8_10 (Or.inr (slot_ne (Or.inr (wd_68 hw)) (Or.inr (wd_70 hw)) (by decide) (t := (.object "java/lang/String")) (t' := (.object "java/lang/String")) (by decide) (by decide)))
  have FfoundCoversChecks_a_11 := Fld.other W11 FfoundCoversChecks_a_10 (Or.inr (slot_ne (Or.inr (wd_72 hw)) (Or.inr (wd_70 hw)) (by decide) (t := .boolean) (t' := (.object "java/lang/String")) (by decide) (by decide)))
  have FseeksWhole_a_11 := Fld.other W11 FseeksWhole_a_10 (Or.inr (slot_ne (Or.inr (wd_74 hw)) (Or.inr (wd_70 hw)) (by decide) (t := .boolean) (t' := (.object "java/lang/String")) (by decide) (by decide)))
  have FleadRecurs_a_11 := Fld.other W11 FleadRecurs_a_10 (Or.inr (slot_ne (Or.inr (wd_79 hw)) (Or.inr (wd_70 hw)) (by decide) (t := .boolean) (t' := (.object "java/lang/String")) (by decide) (by decide)))
  have FcheckIsRarer_a_11 := Fld.other W11 FcheckIsRarer_a_10 (Or.inr (slot_ne (Or.inr (wd_81 hw)) (Or.inr (wd_70 hw)) (by decide) (t := .boolean) (t' := (.object "java/lang/String")) (by decide) (by decide)))
  have FfirstIsRarer_a_11 := Fld.other W11 FfirstIsRarer_a_10 (Or.inr (slot_ne (Or.inr (wd_83 hw)) (Or.inr (wd_70 hw)) (by decide) (t := .boolean) (t' := (.object "java/lang/String")) (by decide) (by decide)))
  have FpairsCheck_a_11 := Fld.other W11 FpairsCheck_a_10 (Or.inr (slot_ne (Or.inr (wd_85 hw)) (Or.inr (wd_70 hw)) (by decide) (t := .boolean) (t' := (.object "java/lang/String")) (by decide) (by decide)))
  have Sm_11 := Sta.wr W11 Sm_10
  have Vm_11 := Vm_10.other W11 hnc
  have Sc_11 := Sta.wr W11 Sc_10
  have Sf_11 := Sta.wr W11 Sf_10
  have Vp_11 := Vp_10.other W11 hne
  have Se_11 := Sta.wr W11 Se_10
  have A5_11 := Exa.wr W11 A5_10
  have A9_11 := Exa.wr W11 A9_10
  refine X11.aloadN (pc' := 64) d7_63 rfl rfl rfl ?_
  refine X11.iloadN (pc' := 65) d7_64 rfl rfl ?_
  by_cases hc12 : a1.toInt32 = (0 : Int32)
  · refine X11.ifNo (pc' := 68) d7_65 (teq hc12).2 rfl ?_
    refine X11.aloadN (pc' := 69) d7_68 rfl rfl rfl ?_
    refine X11.getfield (pc' := 72) (host := "") (Or.inl (wd_37 hw)) Via.refl Fw4_11 d7_69 rfl (fun T13 X13 => ?_)
    refine X13.iloadN (pc' := 73) d7_72 rfl rfl ?_
    refine Runs.dia (P := c1.toInt32 < (1 : Int32)) (B := fun zq : Int32 => T13.setTop (mkF m 81 #[.val (.ref a), .val (.ref pa), .val (.int a1.toInt32), .val (.int (1 : Int32)), .val (.int fr.toInt32), .unset] (.int zq :: [(.ref a)]))) (vt := 1) (vf := 0) (fun hc14 k => ?_) (fun hc14 k => ?_) ?_
    · refine X13.icmpNo (pc' := 76) d7_73 (tlt hc14).2.1 rfl ?_
      refine X13.iconst (pc' := 77) (z := 1) d7_76 rfl rfl ?_
      refine X13.goto (pc' := 81) d7_77 (by decide) (by decide) ?_
      exact k
    · refine X13.icmpYes (pc' := 80) d7_73 (flt hc14).2.1 (by decide) (by decide) ?_
      refine X13.iconst (pc' := 81) (z := 0) d7_80 rfl rfl ?_
      exact k
    show Runs p e below (T13.setTop (mkF m 81 #[.val (.ref a), .val (.ref pa), .val (.int a1.toInt32), .val (.int (1 : Int32)), .val (.int fr.toInt32), .unset] [(.int (if c1.toInt32 < (1 : Int32) then (1 : Int32) else 0)), (.ref a)])) _
    refine X13.putfieldN (pc' := 84) (v' := (.int (nar .boolean (if c1.toInt32 < (1 : Int32) then (1 : Int32) else 0)))) (wd_71 hw) Via.refl FfoundCoversChecks_a_11 E_a_11 (Or.inr ⟨(wd_72 hw), rfl, rfl⟩) (wd_12 hw) (ty := .boolean) (by decide) rfl (fits_nar_bool _) d7_81 rfl (Or.inl (by simp)) (fun T15 h15 X15 W15 => ?_)
    have Fw15 := Fld.same W15 FfoundCoversChecks_a_11
    have E_a_15 := Exa.wr W15 E_a_11
    have Fw2_15 := Fld.other W15 Fw2_11 (Or.inr (slot_ne (Or.inr (wd_36 hw)) (Or.inr (wd_72 hw)) (by decide) (t := .int) (t' := .boolean) (by decide) (by decide)))
    have Fw4_15 := Fld.other W15 Fw4_11 (Or.inr (slot_ne (Or.inr (wd_38 hw)) (Or.inr (wd_72 hw)) (by decide) (t := .int) (t' := .boolean) (by decide) (by decide)))
    have Fw8_15 := Fld.other W15 Fw8_11 (Or.inr (slot_ne (Or.inr (wd_68 hw)) (Or.inr (wd_72 hw)) (by decide) (t := (.object "java/lang/String")) (t' := .boolean) (by decide) (by decide)))
    have Fw11_15 := Fld.other W15 Fw11 (Or.inr (slot_ne (Or.inr (wd_70 hw)) (Or.inr (wd_72 hw)) (by decide) (t := (.object "java/lang/String")) (t' := .boolean) (by decide) (by decide)))
    have FseeksWhole_a_15 := Fld.other W15 FseeksWhole_a_11 (Or.inr (slot_ne (Or.inr (wd_74 hw)) (Or.inr (wd_72 hw)) (by decide) (t := .boolean) (t' := .boolean) (by decide) (by decide)))
    have FleadRecurs_a_15 := Fld.other W15 FleadRecurs_a_11 (Or.inr (slot_ne (Or.inr (wd_79 hw)) (Or.inr (wd_72 hw)) (by decide) (t := .boolean) (t' := .boolean) (by decide) (by decide)))
    have FcheckIsRarer_a_15 := Fld.other W15 FcheckIsRarer_a_11 (Or.inr (slot_ne (Or.inr (wd_81 hw)) (Or.inr (wd_72 hw)) (by decide) (t := .boolean) (t' := .boolean) (by decide) (by decide)))
    have FfirstIsRarer_a_15 := Fld.other W15 FfirstIsRarer_a_11 (Or.inr (slot_ne (Or.inr (wd_83 hw)) (Or.inr (wd_72 hw)) (by decide) (t := .boolean) (t' := .boolean) (by decide) (by decide)))
    have FpairsCheck_a_15 := Fld.other W15 FpairsCheck_a_11 (Or.inr (slot_ne (Or.inr (wd_85 hw)) (Or.inr (wd_72 hw)) (by decide) (t := .boolean) (t' := .boolean) (by decide) (by decide)))
    have Sm_15 := Sta.wr W15 Sm_11
    have Vm_15 := Vm_11.other W15 hnc
    have Sc_15 := Sta.wr W15 Sc_11
    have Sf_15 := Sta.wr W15 Sf_11
    have Vp_15 := Vp_11.other W15 hne
    have Se_15 := Sta.wr W15 Se_11
    have A5_15 := Exa.wr W15 A5_11
    have A9_15 := Exa.wr W15 A9_11
    refine X15.aloadN (pc' := 85) d7_84 rfl rfl rfl ?_
    refine X15.iloadN (pc' := 86) d7_85 rfl rfl ?_
    refine X15.aloadN (pc' := 87) d7_86 rfl rfl rfl ?_
    refine X15.arraylength (pc' := 88) (n := n.toInt32) Vp_15 (by rw [own_tn_len]) d7_87 rfl ?_
    refine Runs.dia (P := (1 : Int32) = n.toInt32) (B := fun zq : Int32 => T15.setTop (mkF m 96 #[.val (.ref a), .val (.ref pa), .val (.int a1.toInt32), .val (.int (1 : Int32)), .val (.int fr.toInt32), .unset] (.int zq :: [(.ref a)]))) (vt := 1) (vf := 0) (fun hc16 k => ?_) (fun hc16 k => ?_) ?_
    · refine X15.icmpNo (pc' := 91) d7_88 (teq hc16).2 rfl ?_
      refine X15.iconst (pc' := 92) (z := 1) d7_91 rfl rfl ?_
      refine X15.goto (pc' := 96) d7_92 (by decide) (by decide) ?_
      exact k
    · refine X15.icmpYes (pc' := 95) d7_88 (feq hc16).2 (by decide) (by decide) ?_
      refine X15.iconst (pc' := 96) (z := 0) d7_95 rfl rfl ?_
      exact k
    show Runs p e below (T15.setTop (mkF m 96 #[.val (.ref a), .val (.ref pa), .val (.int a1.toInt32), .val (.int (1 : Int32)), .val (.int fr.toInt32), .unset] [(.int (if (1 : Int32) = n.toInt32 then (1 : Int32) else 0)), (.ref a)])) _
    refine X15.putfieldN (pc' := 99) (v' := (.int (nar .boolean (if (1 : Int32) = n.toInt32 then (1 : Int32) else 0)))) (wd_73 hw) Via.refl FseeksWhole_a_15 E_a_15 (Or.inr ⟨(wd_74 hw), rfl, rfl⟩) (wd_12 hw) (ty := .boolean) (by decide) rfl (fits_nar_bool _) d7_96 rfl (Or.inl (by simp)) (fun T17 h17 X17 W17 => ?_)
    have Fw17 := Fld.same W17 FseeksWhole_a_15
    have E_a_17 := Exa.wr W17 E_a_15
    have Fw2_17 := Fld.other W17 Fw2_15 (Or.inr (slot_ne (Or.inr (wd_36 hw)) (Or.inr (wd_74 hw)) (by decide) (t := .int) (t' := .boolean) (by decide) (by decide)))
    have Fw4_17 := Fld.other W17 Fw4_15 (Or.inr (slot_ne (Or.inr (wd_38 hw)) (Or.inr (wd_74 hw)) (by decide) (t := .int) (t' := .boolean) (by decide) (by decide)))
    have Fw8_17 := Fld.other W17 Fw8_15 (Or.inr (slot_ne (Or.inr (wd_68 hw)) (Or.inr (wd_74 hw)) (by decide) (t := (.object "java/lang/String")) (t' := .boolean) (by decide) (by decide)))
    have Fw11_17 := Fld.other W17 Fw11_15 (Or.inr (slot_ne (Or.inr (wd_70 hw)) (Or.inr (wd_74 hw)) (by decide) (t := (.object "java/lang/String")) (t' := .boolean) (by decide) (by decide)))
    have Fw15_17 := Fld.other W17 Fw15 (Or.inr (slot_ne (Or.inr (wd_72 hw)) (Or.inr (wd_74 hw)) (by decide) (t := .boolean) (t' := .boolean) (by decide) (by decide)))
    have FleadRecurs_a_17 := Fld.other W17 FleadRecurs_a_15 (Or.inr (slot_ne (Or.inr (wd_79 hw)) (Or.inr (wd_74 hw)) (by decide) (t := .boolean) (t' := .boolean) (by decide) (by decide)))
    have FcheckIsRarer_a_17 := Fld.other W17 FcheckIsRarer_a_15 (Or.inr (slot_ne (Or.inr (wd_81 hw)) (Or.inr (wd_74 hw)) (by decide) (t := .boolean) (t' := .boolean) (by decide) (by decide)))
    have FfirstIsRarer_a_17 := Fld.other W17 FfirstIsRarer_a_15 (Or.inr (slot_ne (Or.inr (wd_83 hw)) (Or.inr (wd_74 hw)) (by decide) (t := .boolean) (t' := .boolean) (by decide) (by decide)))
    have FpairsCheck_a_17 := Fld.other W17 FpairsCheck_a_15 (Or.inr (slot_ne (Or.inr (wd_85 hw)) (Or.inr (wd_74 hw)) (by decide) (t := .boolean) (t' := .boolean) (by decide) (by decide)))
    have Sm_17 := Sta.wr W17 Sm_15
    have Vm_17 := Vm_15.other W17 hnc
    have Sc_17 := Sta.wr W17 Sc_15
    have Sf_17 := Sta.wr W17 Sf_15
    have Vp_17 := Vp_15.other W17 hne
    have Se_17 := Sta.wr W17 Se_15
    have A5_17 := Exa.wr W17 A5_15
    have A9_17 := Exa.wr W17 A9_15
    refine X17.aloadN (pc' := 100) d7_99 rfl rfl rfl ?_
    refine X17.aloadN (pc' := 101) d7_100 rfl rfl rfl ?_
    refine X17.iloadN (pc' := 102) d7_101 rfl rfl ?_
    refine X17.iloadN (pc' := 103) d7_102 rfl rfl ?_
    refine X17.callS (pc' := 106) (W := 1) (argsL := [(.ref pa), (.int a1.toInt32), (.int (1 : Int32))]) (rest := [(.ref a)]) (ct14 l Z a0 hw pa a1.toInt32 h17) (wd_75 hw) (wd_76 hw) (wd_9 hw) (wd_77 hw) (by decide) pd_7 rfl rfl rfl rfl d7_103 rfl (by decide) rfl (by decide) (by decide) (by decide) allWs0 (fun T18 h18 v18 X18 K18 Q18 => ?_)
    obtain ⟨rfl, rfl⟩ := Q18
    show Runs p e below (T18.setTop (mkF m 106 #[.val (.ref a), .val (.ref pa), .val (.int a1.toInt32), .val (.int (1 : Int32)), .val (.int fr.toInt32), .unset] [(.int (0 : Int32)), (.ref a)])) _
    refine X18.putfieldN (pc' := 109) (v' := (.int (nar .boolean (0 : Int32)))) (wd_78 hw) Via.refl FleadRecurs_a_17 E_a_17 (Or.inr ⟨(wd_79 hw), rfl, rfl⟩) (wd_12 hw) (ty := .boolean) (by decide) rfl (fits_nar_bool _) d7_106 rfl (Or.inl (by simp)) (fun T19 h19 X19 W19 => ?_)
    have Fw19 := Fld.same W19 FleadRecurs_a_17
    have E_a_19 := Exa.wr W19 E_a_17
    have Fw2_19 := Fld.other W19 Fw2_17 (Or.inr (slot_ne (Or.inr (wd_36 hw)) (Or.inr (wd_79 hw)) (by decide) (t := .int) (t' := .boolean) (by decide) (by decide)))
    have Fw4_19 := Fld.other W19 Fw4_17 (Or.inr (slot_ne (Or.inr (wd_38 hw)) (Or.inr (wd_79 hw)) (by decide) (t := .int) (t' := .boolean) (by decide) (by decide)))
    have Fw8_19 := Fld.other W19 Fw8_17 (Or.inr (slot_ne (Or.inr (wd_68 hw)) (Or.inr (wd_79 hw)) (by decide) (t := (.object "java/lang/String")) (t' := .boolean) (by decide) (by decide)))
    have Fw11_19 := Fld.other W19 Fw11_17 (Or.inr (slot_ne (Or.inr (wd_70 hw)) (Or.inr (wd_79 hw)) (by decide) (t := (.object "java/lang/String")) (t' := .boolean) (by decide) (by decide)))
    have Fw15_19 := Fld.other W19 Fw15_17 (Or.inr (slot_ne (Or.inr (wd_72 hw)) (Or.inr (wd_79 hw)) (by decide) (t := .boolean) (t' := .boolean) (by decide) (by decide)))
    have Fw17_19 := Fld.other W19 Fw17 (Or.inr (slot_ne (Or.inr (wd_74 hw)) (Or.inr (wd_79 hw)) (by decide) (t := .boolean) (t' := .boolean) (by decide) (by decide)))
    have FcheckIsRarer_a_19 := Fld.other W19 FcheckIsRarer_a_17 (Or.inr (slot_ne (Or.inr (wd_81 hw)) (Or.inr (wd_79 hw)) (by decide) (t := .boolean) (t' := .boolean) (by decide) (by decide)))
    have FfirstIsRarer_a_19 := Fld.other W19 FfirstIsRarer_a_17 (Or.inr (slot_ne (Or.inr (wd_83 hw)) (Or.inr (wd_79 hw)) (by decide) (t := .boolean) (t' := .boolean) (by decide) (by decide)))
    have FpairsCheck_a_19 := Fld.other W19 FpairsCheck_a_17 (Or.inr (slot_ne (Or.inr (wd_85 hw)) (Or.inr (wd_79 hw)) (by decide) (t := .boolean) (t' := .boolean) (by decide) (by decide)))
    have Sm_19 := Sta.wr W19 Sm_17
    have Vm_19 := Vm_17.other W19 hnc
    have Sc_19 := Sta.wr W19 Sc_17
    have Sf_19 := Sta.wr W19 Sf_17
    have Vp_19 := Vp_17.other W19 hne
    have Se_19 := Sta.wr W19 Se_17
    have A5_19 := Exa.wr W19 A5_17
    have A9_19 := Exa.wr W19 A9_17
    refine X19.aloadN (pc' := 110) d7_109 rfl rfl rfl ?_
    refine X19.aloadN (pc' := 111) d7_110 rfl rfl rfl ?_
    refine X19.arraylength (pc' := 112) (n := n.toInt32) Vp_19 (by rw [own_tn_len]) d7_111 rfl ?_
    refine X19.ifNo (pc' := 115) d7_112 (tlt (own_n0 hn hN)).2.2.2 rfl ?_
    refine X19.aloadN (pc' := 116) d7_115 rfl rfl rfl ?_
    refine X19.aloadN (pc' := 117) d7_116 rfl rfl rfl ?_
    refine X19.getfield (pc' := 120) (host := "") (Or.inl (wd_37 hw)) Via.refl Fw4_19 d7_117 rfl (fun T20 X20 => ?_)
    refine X20.iaload (pc' := 121) (v := (.int (P c1))) Vp_19 (own_il (own_i32 (by omega)) hc1) (own_tn_at (own_ilt (own_i32 (by omega))) hc1) d7_120 rfl ?_
    refine X20.callS (pc' := 124) (W := 1) (argsL := [(.int (P c1))]) (rest := [(.ref a)]) (ct6 l Z a0 hw cma cm (P c1) h19 Sm_19 Vm_19 (hP _ hc1).1) (wd_24 hw) (wd_25 hw) (wd_9 hw) (wd_26 hw) (by decide) pd_0 rfl rfl rfl rfl d7_121 rfl (by decide) rfl (by decide) (by decide) (by decide) allWs0 (fun T21 h21 v21 X21 K21 Q21 => ?_)
    obtain ⟨rfl, rfl⟩ := Q21
    show Runs p e below (T21.setTop (mkF m 124 #[.val (.ref a), .val (.ref pa), .val (.int a1.toInt32), .val (.int (1 : Int32)), .val (.int fr.toInt32), .unset] [(.int (own_cm cm (P c1))), (.ref a)])) _
    refine X21.aloadN (pc' := 125) d7_124 rfl rfl rfl ?_
    refine X21.iloadN (pc' := 126) d7_125 rfl rfl ?_
    refine X21.iaload (pc' := 127) (v := (.int (P a1))) Vp_19 (own_il (own_i32 (by omega)) ha1) (own_tn_at (own_ilt (own_i32 (by omega))) ha1) d7_126 rfl ?_
    refine X21.callS (pc' := 130) (W := 2) (argsL := [(.int (P a1))]) (rest := [(.int (own_cm cm (P c1))), (.ref a)]) (ct6 l Z a0 hw cma cm (P a1) h19 Sm_19 Vm_19 (hP _ ha1).1) (wd_24 hw) (wd_25 hw) (wd_9 hw) (wd_26 hw) (by decide) pd_0 rfl rfl rfl rfl d7_127 rfl (by decide) rfl (by decide) (by decide) (by decide) allWs0 (fun T22 h22 v22 X22 K22 Q22 => ?_)
    obtain ⟨rfl, rfl⟩ := Q22
    show Runs p e below (T22.setTop (mkF m 130 #[.val (.ref a), .val (.ref pa), .val (.int a1.toInt32), .val (.int (1 : Int32)), .val (.int fr.toInt32), .unset] [(.int (own_cm cm (P a1))), (.int (own_cm cm (P c1))), (.ref a)])) _
    refine Runs.dia (P := (own_cm cm (P c1)) < (own_cm cm (P a1))) (B := fun zq : Int32 => T22.setTop (mkF m 138 #[.val (.ref a), .val (.ref pa), .val (.int a1.toInt32), .val (.int (1 : Int32)), .val (.int fr.toInt32), .unset] (.int zq :: [(.ref a)]))) (vt := 1) (vf := 0) (fun hc23 k => ?_) (fun hc23 k => ?_) ?_
    · refine X22.icmpNo (pc' := 133) d7_130 (tlt hc23).2.1 rfl ?_
      refine X22.iconst (pc' := 134) (z := 1) d7_133 rfl rfl ?_
      refine X22.goto (pc' := 138) d7_134 (by decide) (by decide) ?_
      exact k
    · refine X22.icmpYes (pc' := 137) d7_130 (flt hc23).2.1 (by decide) (by decide) ?_
      refine X22.iconst (pc' := 138) (z := 0) d7_137 rfl rfl ?_
      exact k
    show Runs p e below (T22.setTop (mkF m 138 #[.val (.ref a), .val (.ref pa), .val (.int a1.toInt32), .val (.int (1 : Int32)), .val (.int fr.toInt32), .unset] [(.int (if (own_cm cm (P c1)) < (own_cm cm (P a1)) then (1 : Int32) else 0)), (.ref a)])) _
    refine X22.putfieldN (pc' := 141) (v' := (.int (nar .boolean (if (own_cm cm (P c1)) < (own_cm cm (P a1)) then (1 : Int32) else 0)))) (wd_80 hw) Via.refl FcheckIsRarer_a_19 E_a_19 (Or.inr ⟨(wd_81 hw), rfl, rfl⟩) (wd_12 hw) (ty := .boolean) (by decide) rfl (fits_nar_bool _) d7_138 rfl (Or.inl (by simp)) (fun T24 h24 X24 W24 => ?_)
    have Fw24 := Fld.same W24 FcheckIsRarer_a_19
    have E_a_24 := Exa.wr W24 E_a_19
    have Fw2_24 := Fld.other W24 Fw2_19 (Or.inr (slot_ne (Or.inr (wd_36 hw)) (Or.inr (wd_81 hw)) (by decide) (t := .int) (t' := .boolean) (by decide) (by decide)))
    have Fw4_24 := Fld.other W24 Fw4_19 (Or.inr (slot_ne (Or.inr (wd_38 hw)) (Or.inr (wd_81 hw)) (by decide) (t := .int) (t' := .boolean) (by decide) (by decide)))
    have Fw8_24 := Fld.other W24 Fw8_19 (Or.inr (slot_ne (Or.inr (wd_68 hw)) (Or.inr (wd_81 hw)) (by decide) (t := (.object "java/lang/String")) (t' := .boolean) (by decide) (by decide)))
    have Fw11_24 := Fld.other W24 Fw11_19 (Or.inr (slot_ne (Or.inr (wd_70 hw)) (Or.inr (wd_81 hw)) (by decide) (t := (.object "java/lang/String")) (t' := .boolean) (by decide) (by decide)))
    have Fw15_24 := Fld.other W24 Fw15_19 (Or.inr (slot_ne (Or.inr (wd_72 hw)) (Or.inr (wd_81 hw)) (by decide) (t := .boolean) (t' := .boolean) (by decide) (by decide)))
    have Fw17_24 := Fld.other W24 Fw17_19 (Or.inr (slot_ne (Or.inr (wd_74 hw)) (Or.inr (wd_81 hw)) (by decide) (t := .boolean) (t' := .boolean) (by decide) (by decide)))
    have Fw19_24 := Fld.other W24 Fw19 (Or.inr (slot_ne (Or.inr (wd_79 hw)) (Or.inr (wd_81 hw)) (by decide) (t := .boolean) (t' := .boolean) (by decide) (by decide)))
    have FfirstIsRarer_a_24 := Fld.other W24 FfirstIsRarer_a_19 (Or.inr (slot_ne (Or.inr (wd_83 hw)) (Or.inr (wd_81 hw)) (by decide) (t := .boolean) (t' := .boolean) (by decide) (by decide)))
    have FpairsCheck_a_24 := Fld.other W24 FpairsCheck_a_19 (Or.inr (slot_ne (Or.inr (wd_85 hw)) (Or.inr (wd_81 hw)) (by decide) (t := .boolean) (t' := .boolean) (by decide) (by decide)))
    have Sm_24 := Sta.wr W24 Sm_19
    have Vm_24 := Vm_19.other W24 hnc
    have Sc_24 := Sta.wr W24 Sc_19
    have Sf_24 := Sta.wr W24 Sf_19
    have Vp_24 := Vp_19.other W24 hne
    have Se_24 := Sta.wr W24 Se_19
    have A5_24 := Exa.wr W24 A5_19
    have A9_24 := Exa.wr W24 A9_19
    refine X24.aloadN (pc' := 142) d7_141 rfl rfl rfl ?_
    refine X24.aloadN (pc' := 143) d7_142 rfl rfl rfl ?_
    refine X24.arraylength (pc' := 144) (n := n.toInt32) Vp_24 (by rw [own_tn_len]) d7_143 rfl ?_
    refine X24.ifNo (pc' := 147) d7_144 (tlt (own_n0 hn hN)).2.2.2 rfl ?_
    refine X24.aloadN (pc' := 148) d7_147 rfl rfl rfl ?_
    refine X24.iconst (pc' := 149) (z := 0) d7_148 rfl rfl ?_
    refine X24.iaload (pc' := 150) (v := (.int (P 0))) Vp_24 (own_il rfl hn) (own_tn_at (own_ilt rfl) hn) d7_149 rfl ?_
    refine X24.callS (pc' := 153) (W := 1) (argsL := [(.int (P 0))]) (rest := [(.ref a)]) (ct6 l Z a0 hw cma cm (P 0) h24 Sm_24 Vm_24 (hP _ hn).1) (wd_24 hw) (wd_25 hw) (wd_9 hw) (wd_26 hw) (by decide) pd_0 rfl rfl rfl rfl d7_150 rfl (by decide) rfl (by decide) (by decide) (by decide) allWs0 (fun T25 h25 v25 X25 K25 Q25 => ?_)
    obtain ⟨rfl, rfl⟩ := Q25
    show Runs p e below (T25.setTop (mkF m 153 #[.val (.ref a), .val (.ref pa), .val (.int a1.toInt32), .val (.int (1 : Int32)), .val (.int fr.toInt32), .unset] [(.int (own_cm cm (P 0))), (.ref a)])) _
    refine X25.aloadN (pc' := 154) d7_153 rfl rfl rfl ?_
    refine X25.iloadN (pc' := 155) d7_154 rfl rfl ?_
    refine X25.iaload (pc' := 156) (v := (.int (P a1))) Vp_24 (own_il (own_i32 (by omega)) ha1) (own_tn_at (own_ilt (own_i32 (by omega))) ha1) d7_155 rfl ?_
    refine X25.callS (pc' := 159) (W := 2) (argsL := [(.int (P a1))]) (rest := [(.int (own_cm cm (P 0))), (.ref a)]) (ct6 l Z a0 hw cma cm (P a1) h24 Sm_24 Vm_24 (hP _ ha1).1) (wd_24 hw) (wd_25 hw) (wd_9 hw) (wd_26 hw) (by decide) pd_0 rfl rfl rfl rfl d7_156 rfl (by decide) rfl (by decide) (by decide) (by decide) allWs0 (fun T26 h26 v26 X26 K26 Q26 => ?_)
    obtain ⟨rfl, rfl⟩ := Q26
    show Runs p e below (T26.setTop (mkF m 159 #[.val (.ref a), .val (.ref pa), .val (.int a1.toInt32), .val (.int (1 : Int32)), .val (.int fr.toInt32), .unset] [(.int (own_cm cm (P a1))), (.int (own_cm cm (P 0))), (.ref a)])) _
    refine Runs.dia (P := (own_cm cm (P 0)) < (own_cm cm (P a1))) (B := fun zq : Int32 => T26.setTop (mkF m 167 #[.val (.ref a), .val (.ref pa), .val (.int a1.toInt32), .val (.int (1 : Int32)), .val (.int fr.toInt32), .unset] (.int zq :: [(.ref a)]))) (vt := 1) (vf := 0) (fun hc27 k => ?_) (fun hc27 k => ?_) ?_
    · refine X26.icmpNo (pc' := 162) d7_159 (tlt hc27).2.1 rfl ?_
      refine X26.iconst (pc' := 163) (z := 1) d7_162 rfl rfl ?_
      refine X26.goto (pc' := 167) d7_163 (by decide) (by decide) ?_
      exact k
    · refine X26.icmpYes (pc' := 166) d7_159 (flt hc27).2.1 (by decide) (by decide) ?_
      refine X26.iconst (pc' := 167) (z := 0) d7_166 rfl rfl ?_
      exact k
    show Runs p e below (T26.setTop (mkF m 167 #[.val (.ref a), .val (.ref pa), .val (.int a1.toInt32), .val (.int (1 : Int32)), .val (.int fr.toInt32), .unset] [(.int (if (own_cm cm (P 0)) < (own_cm cm (P a1)) then (1 : Int32) else 0)), (.ref a)])) _
    refine X26.putfieldN (pc' := 170) (v' := (.int (nar .boolean (if (own_cm cm (P 0)) < (own_cm cm (P a1)) then (1 : Int32) else 0)))) (wd_82 hw) Via.refl FfirstIsRarer_a_24 E_a_24 (Or.inr ⟨(wd_83 hw), rfl, rfl⟩) (wd_12 hw) (ty := .boolean) (by decide) rfl (fits_nar_bool _) d7_167 rfl (Or.inl (by simp)) (fun T28 h28 X28 W28 => ?_)
    have Fw28 := Fld.same W28 FfirstIsRarer_a_24
    have E_a_28 := Exa.wr W28 E_a_24
    have Fw2_28 := Fld.other W28 Fw2_24 (Or.inr (slot_ne (Or.inr (wd_36 hw)) (Or.inr (wd_83 hw)) (by decide) (t := .int) (t' := .boolean) (by decide) (by decide)))
    have Fw4_28 := Fld.other W28 Fw4_24 (Or.inr (slot_ne (Or.inr (wd_38 hw)) (Or.inr (wd_83 hw)) (by decide) (t := .int) (t' := .boolean) (by decide) (by decide)))
    have Fw8_28 := Fld.other W28 Fw8_24 (Or.inr (slot_ne (Or.inr (wd_68 hw)) (Or.inr (wd_83 hw)) (by decide) (t := (.object "java/lang/String")) (t' := .boolean) (by decide) (by decide)))
    have Fw11_28 := Fld.other W28 Fw11_24 (Or.inr (slot_ne (Or.inr (wd_70 hw)) (Or.inr (wd_83 hw)) (by decide) (t := (.object "java/lang/String")) (t' := .boolean) (by decide) (by decide)))
    have Fw15_28 := Fld.other W28 Fw15_24 (Or.inr (slot_ne (Or.inr (wd_72 hw)) (Or.inr (wd_83 hw)) (by decide) (t := .boolean) (t' := .boolean) (by decide) (by decide)))
    have Fw17_28 := Fld.other W28 Fw17_24 (Or.inr (slot_ne (Or.inr (wd_74 hw)) (Or.inr (wd_83 hw)) (by decide) (t := .boolean) (t' := .boolean) (by decide) (by decide)))
    have Fw19_28 := Fld.other W28 Fw19_24 (Or.inr (slot_ne (Or.inr (wd_79 hw)) (Or.inr (wd_83 hw)) (by decide) (t := .boolean) (t' := .boolean) (by decide) (by decide)))
    have Fw24_28 := Fld.other W28 Fw24 (Or.inr (slot_ne (Or.inr (wd_81 hw)) (Or.inr (wd_83 hw)) (by decide) (t := .boolean) (t' := .boolean) (by decide) (by decide)))
    have FpairsCheck_a_28 := Fld.other W28 FpairsCheck_a_24 (Or.inr (slot_ne (Or.inr (wd_85 hw)) (Or.inr (wd_83 hw)) (by decide) (t := .boolean) (t' := .boolean) (by decide) (by decide)))
    have Sm_28 := Sta.wr W28 Sm_24
    have Vm_28 := Vm_24.other W28 hnc
    have Sc_28 := Sta.wr W28 Sc_24
    have Sf_28 := Sta.wr W28 Sf_24
    have Vp_28 := Vp_24.other W28 hne
    have Se_28 := Sta.wr W28 Se_24
    have A5_28 := Exa.wr W28 A5_24
    have A9_28 := Exa.wr W28 A9_24
    refine X28.aloadN (pc' := 171) d7_170 rfl rfl rfl ?_
    refine X28.getfield (pc' := 174) (host := "") (Or.inl (wd_82 hw)) Via.refl Fw28 d7_171 rfl (fun T29 X29 => ?_)
    by_cases hc30 : (nar .boolean (if (own_cm cm (P 0)) < (own_cm cm (P a1)) then (1 : Int32) else 0)) = (0 : Int32)
    · refine X29.ifYes (pc' := 181) d7_174 (teq hc30).1 (by decide) (by decide) ?_
      refine X29.iloadN (pc' := 182) d7_181 rfl rfl ?_
      refine X29.istore (pc' := 184) (l' := #[.val (.ref a), .val (.ref pa), .val (.int a1.toInt32), .val (.int (1 : Int32)), .val (.int fr.toInt32), .val (.int a1.toInt32)]) d7_182 rfl rfl ?_
      refine X29.aloadN (pc' := 185) d7_184 rfl rfl rfl ?_
      refine X29.aloadN (pc' := 186) d7_185 rfl rfl rfl ?_
      refine X29.arraylength (pc' := 187) (n := n.toInt32) Vp_28 (by rw [own_tn_len]) d7_186 rfl ?_
      refine X29.ifNo (pc' := 190) d7_187 (tlt (own_n0 hn hN)).2.2.2 rfl ?_
      refine X29.aloadN (pc' := 191) d7_190 rfl rfl rfl ?_
      refine X29.getfield (pc' := 194) (host := "") (Or.inl (wd_37 hw)) Via.refl Fw4_28 d7_191 rfl (fun T31 X31 => ?_)
      refine X31.iload (pc' := 196) d7_194 rfl rfl ?_
      by_cases hc32 : c1.toInt32 = a1.toInt32
      · refine X31.icmpYes (pc' := 216) d7_196 (teq hc32).1 (by decide) (by decide) ?_
        refine X31.iconst (pc' := 217) (z := 0) d7_216 rfl rfl ?_
        refine X31.putfieldN (pc' := 220) (v' := (.int (nar .boolean (0 : Int32)))) (wd_84 hw) Via.refl FpairsCheck_a_28 E_a_28 (Or.inr ⟨(wd_85 hw), rfl, rfl⟩) (wd_12 hw) (ty := .boolean) (by decide) rfl (fits_nar_bool _) d7_217 rfl (Or.inl (by simp)) (fun T33 h33 X33 W33 => ?_)
        have Fw33 := Fld.same W33 FpairsCheck_a_28
        have E_a_33 := Exa.wr W33 E_a_28
        have Fw2_33 := Fld.other W33 Fw2_28 (Or.inr (slot_ne (Or.inr (wd_36 hw)) (Or.inr (wd_85 hw)) (by decide) (t := .int) (t' := .boolean) (by decide) (by decide)))
        have Fw4_33 := Fld.other W33 Fw4_28 (Or.inr (slot_ne (Or.inr (wd_38 hw)) (Or.inr (wd_85 hw)) (by decide) (t := .int) (t' := .boolean) (by decide) (by decide)))
        have Fw8_33 := Fld.other W33 Fw8_28 (Or.inr (slot_ne (Or.inr (wd_68 hw)) (Or.inr (wd_85 hw)) (by decide) (t := (.object "java/lang/String")) (t' := .boolean) (by decide) (by decide)))
        have Fw11_33 := Fld.other W33 Fw11_28 (Or.inr (slot_ne (Or.inr (wd_70 hw)) (Or.inr (wd_85 hw)) (by decide) (t := (.object "java/lang/String")) (t' := .boolean) (by decide) (by decide)))
        have Fw15_33 := Fld.other W33 Fw15_28 (Or.inr (slot_ne (Or.inr (wd_72 hw)) (Or.inr (wd_85 hw)) (by decide) (t := .boolean) (t' := .boolean) (by decide) (by decide)))
        have Fw17_33 := Fld.other W33 Fw17_28 (Or.inr (slot_ne (Or.inr (wd_74 hw)) (Or.inr (wd_85 hw)) (by decide) (t := .boolean) (t' := .boolean) (by decide) (by decide)))
        have Fw19_33 := Fld.other W33 Fw19_28 (Or.inr (slot_ne (Or.inr (wd_79 hw)) (Or.inr (wd_85 hw)) (by decide) (t := .boolean) (t' := .boolean) (by decide) (by decide)))
        have Fw24_33 := Fld.other W33 Fw24_28 (Or.inr (slot_ne (Or.inr (wd_81 hw)) (Or.inr (wd_85 hw)) (by decide) (t := .boolean) (t' := .boolean) (by decide) (by decide)))
        have Fw28_33 := Fld.other W33 Fw28 (Or.inr (slot_ne (Or.inr (wd_83 hw)) (Or.inr (wd_85 hw)) (by decide) (t := .boolean) (t' := .boolean) (by decide) (by decide)))
        have Sm_33 := Sta.wr W33 Sm_28
        have Vm_33 := Vm_28.other W33 hnc
        have Sc_33 := Sta.wr W33 Sc_28
        have Sf_33 := Sta.wr W33 Sf_28
        have Vp_33 := Vp_28.other W33 hne
        have Se_33 := Sta.wr W33 Se_28
        have A5_33 := Exa.wr W33 A5_28
        have A9_33 := Exa.wr W33 A9_28
        exact X33.vreturn rfl d7_220 (by decide) (by decide) ⟨rfl, _, _, E_a_33, Fw2_33, Fw4_33, Fw28_33, Fw33, own_nb _, own_nb _⟩
      · refine X31.icmpNo (pc' := 199) d7_196 (feq hc32).1 rfl ?_
        refine X31.aloadN (pc' := 200) d7_199 rfl rfl rfl ?_
        refine X31.iload (pc' := 202) d7_200 rfl rfl ?_
        refine X31.iaload (pc' := 203) (v := (.int (P a1))) Vp_28 (own_il (own_i32 (by omega)) ha1) (own_tn_at (own_ilt (own_i32 (by omega))) ha1) d7_202 rfl ?_
        refine X31.callS (pc' := 206) (W := 1) (argsL := [(.int (P a1))]) (rest := [(.ref a)]) (ct6 l Z a0 hw cma cm (P a1) h28 Sm_28 Vm_28 (hP _ ha1).1) (wd_24 hw) (wd_25 hw) (wd_9 hw) (wd_26 hw) (by decide) pd_0 rfl rfl rfl rfl d7_203 rfl (by decide) rfl (by decide) (by decide) (by decide) allWs0 (fun T34 h34 v34 X34 K34 Q34 => ?_)
        obtain ⟨rfl, rfl⟩ := Q34
        show Runs p e below (T34.setTop (mkF m 206 #[.val (.ref a), .val (.ref pa), .val (.int a1.toInt32), .val (.int (1 : Int32)), .val (.int fr.toInt32), .val (.int a1.toInt32)] [(.int (own_cm cm (P a1))), (.ref a)])) _
        refine X34.getstatic (pc' := 209) (host := "") (Or.inl (wd_144 hw)) Via.refl Se_28 d7_206 rfl (fun T35 X35 => ?_)
        refine Runs.dia (P := (own_cm cm (P a1)) < ce) (B := fun zq : Int32 => T35.setTop (mkF m 217 #[.val (.ref a), .val (.ref pa), .val (.int a1.toInt32), .val (.int (1 : Int32)), .val (.int fr.toInt32), .val (.int a1.toInt32)] (.int zq :: [(.ref a)]))) (vt := 0) (vf := 1) (fun hc36 k => ?_) (fun hc36 k => ?_) ?_
        · refine X35.icmpYes (pc' := 216) d7_209 (tlt hc36).1 (by decide) (by decide) ?_
          refine X35.iconst (pc' := 217) (z := 0) d7_216 rfl rfl ?_
          exact k
        · refine X35.icmpNo (pc' := 212) d7_209 (flt hc36).1 rfl ?_
          refine X35.iconst (pc' := 213) (z := 1) d7_212 rfl rfl ?_
          refine X35.goto (pc' := 217) d7_213 (by decide) (by decide) ?_
          exact k
        show Runs p e below (T35.setTop (mkF m 217 #[.val (.ref a), .val (.ref pa), .val (.int a1.toInt32), .val (.int (1 : Int32)), .val (.int fr.toInt32), .val (.int a1.toInt32)] [(.int (if (own_cm cm (P a1)) < ce then (0 : Int32) else 1)), (.ref a)])) _
        refine X35.putfieldN (pc' := 220) (v' := (.int (nar .boolean (if (own_cm cm (P a1)) < ce then (0 : Int32) else 1)))) (wd_84 hw) Via.refl FpairsCheck_a_28 E_a_28 (Or.inr ⟨(wd_85 hw), rfl, rfl⟩) (wd_12 hw) (ty := .boolean) (by decide) rfl (fits_nar_bool _) d7_217 rfl (Or.inl (by simp)) (fun T37 h37 X37 W37 => ?_)
        have Fw37 := Fld.same W37 FpairsCheck_a_28
        have E_a_37 := Exa.wr W37 E_a_28
        have Fw2_37 := Fld.other W37 Fw2_28 (Or.inr (slot_ne (Or.inr (wd_36 hw)) (Or.inr (wd_85 hw)) (by decide) (t := .int) (t' := .boolean) (by decide) (by decide)))
        have Fw4_37 := Fld.other W37 Fw4_28 (Or.inr (slot_ne (Or.inr (wd_38 hw)) (Or.inr (wd_85 hw)) (by decide) (t := .int) (t' := .boolean) (by decide) (by decide)))
        have Fw8_37 := Fld.other W37 Fw8_28 (Or.inr (slot_ne (Or.inr (wd_68 hw)) (Or.inr (wd_85 hw)) (by decide) (t := (.object "java/lang/String")) (t' := .boolean) (by decide) (by decide)))
        have Fw11_37 := Fld.other W37 Fw11_28 (Or.inr (slot_ne (Or.inr (wd_70 hw)) (Or.inr (wd_85 hw)) (by decide) (t := (.object "java/lang/String")) (t' := .boolean) (by decide) (by decide)))
        have Fw15_37 := Fld.other W37 Fw15_28 (Or.inr (slot_ne (Or.inr (wd_72 hw)) (Or.inr (wd_85 hw)) (by decide) (t := .boolean) (t' := .boolean) (by decide) (by decide)))
        have Fw17_37 := Fld.other W37 Fw17_28 (Or.inr (slot_ne (Or.inr (wd_74 hw)) (Or.inr (wd_85 hw)) (by decide) (t := .boolean) (t' := .boolean) (by decide) (by decide)))
        have Fw19_37 := Fld.other W37 Fw19_28 (Or.inr (slot_ne (Or.inr (wd_79 hw)) (Or.inr (wd_85 hw)) (by decide) (t := .boolean) (t' := .boolean) (by decide) (by decide)))
        have Fw24_37 := Fld.other W37 Fw24_28 (Or.inr (slot_ne (Or.inr (wd_81 hw)) (Or.inr (wd_85 hw)) (by decide) (t := .boolean) (t' := .boolean) (by decide) (by decide)))
        have Fw28_37 := Fld.other W37 Fw28 (Or.inr (slot_ne (Or.inr (wd_83 hw)) (Or.inr (wd_85 hw)) (by decide) (t := .boolean) (t' := .boolean) (by decide) (by decide)))
        have Sm_37 := Sta.wr W37 Sm_28
        have Vm_37 := Vm_28.other W37 hnc
        have Sc_37 := Sta.wr W37 Sc_28
        have Sf_37 := Sta.wr W37 Sf_28
        have Vp_37 := Vp_28.other W37 hne
        have Se_37 := Sta.wr W37 Se_28
        have A5_37 := Exa.wr W37 A5_28
        have A9_37 := Exa.wr W37 A9_28
        exact X37.vreturn rfl d7_220 (by decide) (by decide) ⟨rfl, _, _, E_a_37, Fw2_37, Fw4_37, Fw28_37, Fw37, own_nb _, own_nb _⟩
    · refine X29.ifNo (pc' := 177) d7_174 (feq hc30).1 rfl ?_
      refine X29.iconst (pc' := 178) (z := 0) d7_177 rfl rfl ?_
      refine X29.goto (pc' := 182) d7_178 (by decide) (by decide) ?_
      refine X29.istore (pc' := 184) (l' := #[.val (.ref a), .val (.ref pa), .val (.int a1.toInt32), .val (.int (1 : Int32)), .val (.int fr.toInt32), .val (.int (0 : Int32))]) d7_182 rfl rfl ?_
      refine X29.aloadN (pc' := 185) d7_184 rfl rfl rfl ?_
      refine X29.aloadN (pc' := 186) d7_185 rfl rfl rfl ?_
      refine X29.arraylength (pc' := 187) (n := n.toInt32) Vp_28 (by rw [own_tn_len]) d7_186 rfl ?_
      refine X29.ifNo (pc' := 190) d7_187 (tlt (own_n0 hn hN)).2.2.2 rfl ?_
      refine X29.aloadN (pc' := 191) d7_190 rfl rfl rfl ?_
      refine X29.getfield (pc' := 194) (host := "") (Or.inl (wd_37 hw)) Via.refl Fw4_28 d7_191 rfl (fun T38 X38 => ?_)
      refine X38.iload (pc' := 196) d7_194 rfl rfl ?_
      by_cases hc39 : c1.toInt32 = (0 : Int32)
      · refine X38.icmpYes (pc' := 216) d7_196 (teq hc39).1 (by decide) (by decide) ?_
        refine X38.iconst (pc' := 217) (z := 0) d7_216 rfl rfl ?_
        refine X38.putfieldN (pc' := 220) (v' := (.int (nar .boolean (0 : Int32)))) (wd_84 hw) Via.refl FpairsCheck_a_28 E_a_28 (Or.inr ⟨(wd_85 hw), rfl, rfl⟩) (wd_12 hw) (ty := .boolean) (by decide) rfl (fits_nar_bool _) d7_217 rfl (Or.inl (by simp)) (fun T40 h40 X40 W40 => ?_)
        have Fw40 := Fld.same W40 FpairsCheck_a_28
        have E_a_40 := Exa.wr W40 E_a_28
        have Fw2_40 := Fld.other W40 Fw2_28 (Or.inr (slot_ne (Or.inr (wd_36 hw)) (Or.inr (wd_85 hw)) (by decide) (t := .int) (t' := .boolean) (by decide) (by decide)))
        have Fw4_40 := Fld.other W40 Fw4_28 (Or.inr (slot_ne (Or.inr (wd_38 hw)) (Or.inr (wd_85 hw)) (by decide) (t := .int) (t' := .boolean) (by decide) (by decide)))
        have Fw8_40 := Fld.other W40 Fw8_28 (Or.inr (slot_ne (Or.inr (wd_68 hw)) (Or.inr (wd_85 hw)) (by decide) (t := (.object "java/lang/String")) (t' := .boolean) (by decide) (by decide)))
        have Fw11_40 := Fld.other W40 Fw11_28 (Or.inr (slot_ne (Or.inr (wd_70 hw)) (Or.inr (wd_85 hw)) (by decide) (t := (.object "java/lang/String")) (t' := .boolean) (by decide) (by decide)))
        have Fw15_40 := Fld.other W40 Fw15_28 (Or.inr (slot_ne (Or.inr (wd_72 hw)) (Or.inr (wd_85 hw)) (by decide) (t := .boolean) (t' := .boolean) (by decide) (by decide)))
        have Fw17_40 := Fld.other W40 Fw17_28 (Or.inr (slot_ne (Or.inr (wd_74 hw)) (Or.inr (wd_85 hw)) (by decide) (t := .boolean) (t' := .boolean) (by decide) (by decide)))
        have Fw19_40 := Fld.other W40 Fw19_28 (Or.inr (slot_ne (Or.inr (wd_79 hw)) (Or.inr (wd_85 hw)) (by decide) (t := .boolean) (t' := .boolean) (by decide) (by decide)))
        have Fw24_40 := Fld.other W40 Fw24_28 (Or.inr (slot_ne (Or.inr (wd_81 hw)) (Or.inr (wd_85 hw)) (by decide) (t := .boolean) (t' := .boolean) (by decide) (by decide)))
        have Fw28_40 := Fld.other W40 Fw28 (Or.inr (slot_ne (Or.inr (wd_83 hw)) (Or.inr (wd_85 hw)) (by decide) (t := .boolean) (t' := .boolean) (by decide) (by decide)))
        have Sm_40 := Sta.wr W40 Sm_28
        have Vm_40 := Vm_28.other W40 hnc
        have Sc_40 := Sta.wr W40 Sc_28
        have Sf_40 := Sta.wr W40 Sf_28
        have Vp_40 := Vp_28.other W40 hne
        have Se_40 := Sta.wr W40 Se_28
        have A5_40 := Exa.wr W40 A5_28
        have A9_40 := Exa.wr W40 A9_28
        exact X40.vreturn rfl d7_220 (by decide) (by decide) ⟨rfl, _, _, E_a_40, Fw2_40, Fw4_40, Fw28_40, Fw40, own_nb _, own_nb _⟩
      · refine X38.icmpNo (pc' := 199) d7_196 (feq hc39).1 rfl ?_
        refine X38.aloadN (pc' := 200) d7_199 rfl rfl rfl ?_
        refine X38.iload (pc' := 202) d7_200 rfl rfl ?_
        refine X38.iaload (pc' := 203) (v := (.int (P 0))) Vp_28 (own_il rfl hn) (own_tn_at (own_ilt rfl) hn) d7_202 rfl ?_
        refine X38.callS (pc' := 206) (W := 1) (argsL := [(.int (P 0))]) (rest := [(.ref a)]) (ct6 l Z a0 hw cma cm (P 0) h28 Sm_28 Vm_28 (hP _ hn).1) (wd_24 hw) (wd_25 hw) (wd_9 hw) (wd_26 hw) (by decide) pd_0 rfl rfl rfl rfl d7_203 rfl (by decide) rfl (by decide) (by decide) (by decide) allWs0 (fun T41 h41 v41 X41 K41 Q41 => ?_)
        obtain ⟨rfl, rfl⟩ := Q41
        show Runs p e below (T41.setTop (mkF m 206 #[.val (.ref a), .val (.ref pa), .val (.int a1.toInt32), .val (.int (1 : Int32)), .val (.int fr.toInt32), .val (.int (0 : Int32))] [(.int (own_cm cm (P 0))), (.ref a)])) _
        refine X41.getstatic (pc' := 209) (host := "") (Or.inl (wd_144 hw)) Via.refl Se_28 d7_206 rfl (fun T42 X42 => ?_)
        refine Runs.dia (P := (own_cm cm (P 0)) < ce) (B := fun zq : Int32 => T42.setTop (mkF m 217 #[.val (.ref a), .val (.ref pa), .val (.int a1.toInt32), .val (.int (1 : Int32)), .val (.int fr.toInt32), .val (.int (0 : Int32))] (.int zq :: [(.ref a)]))) (vt := 0) (vf := 1) (fun hc43 k => ?_) (fun hc43 k => ?_) ?_
        · refine X42.icmpYes (pc' := 216) d7_209 (tlt hc43).1 (by decide) (by decide) ?_
          refine X42.iconst (pc' := 217) (z := 0) d7_216 rfl rfl ?_
          exact k
        · refine X42.icmpNo (pc' := 212) d7_209 (flt hc43).1 rfl ?_
          refine X42.iconst (pc' := 213) (z := 1) d7_212 rfl rfl ?_
          refine X42.goto (pc' := 217) d7_213 (by decide) (by decide) ?_
          exact k
        show Runs p e below (T42.setTop (mkF m 217 #[.val (.ref a), .val (.ref pa), .val (.int a1.toInt32), .val (.int (1 : Int32)), .val (.int fr.toInt32), .val (.int (0 : Int32))] [(.int (if (own_cm cm (P 0)) < ce then (0 : Int32) else 1)), (.ref a)])) _
        refine X42.putfieldN (pc' := 220) (v' := (.int (nar .boolean (if (own_cm cm (P 0)) < ce then (0 : Int32) else 1)))) (wd_84 hw) Via.refl FpairsCheck_a_28 E_a_28 (Or.inr ⟨(wd_85 hw), rfl, rfl⟩) (wd_12 hw) (ty := .boolean) (by decide) rfl (fits_nar_bool _) d7_217 rfl (Or.inl (by simp)) (fun T44 h44 X44 W44 => ?_)
        have Fw44 := Fld.same W44 FpairsCheck_a_28
        have E_a_44 := Exa.wr W44 E_a_28
        have Fw2_44 := Fld.other W44 Fw2_28 (Or.inr (slot_ne (Or.inr (wd_36 hw)) (Or.inr (wd_85 hw)) (by decide) (t := .int) (t' := .boolean) (by decide) (by decide)))
        have Fw4_44 := Fld.other W44 Fw4_28 (Or.inr (slot_ne (Or.inr (wd_38 hw)) (Or.inr (wd_85 hw)) (by decide) (t := .int) (t' := .boolean) (by decide) (by decide)))
        have Fw8_44 := Fld.other W44 Fw8_28 (Or.inr (slot_ne (Or.inr (wd_68 hw)) (Or.inr (wd_85 hw)) (by decide) (t := (.object "java/lang/String")) (t' := .boolean) (by decide) (by decide)))
        have Fw11_44 := Fld.other W44 Fw11_28 (Or.inr (slot_ne (Or.inr (wd_70 hw)) (Or.inr (wd_85 hw)) (by decide) (t := (.object "java/lang/String")) (t' := .boolean) (by decide) (by decide)))
        have Fw15_44 := Fld.other W44 Fw15_28 (Or.inr (slot_ne (Or.inr (wd_72 hw)) (Or.inr (wd_85 hw)) (by decide) (t := .boolean) (t' := .boolean) (by decide) (by decide)))
        have Fw17_44 := Fld.other W44 Fw17_28 (Or.inr (slot_ne (Or.inr (wd_74 hw)) (Or.inr (wd_85 hw)) (by decide) (t := .boolean) (t' := .boolean) (by decide) (by decide)))
        have Fw19_44 := Fld.other W44 Fw19_28 (Or.inr (slot_ne (Or.inr (wd_79 hw)) (Or.inr (wd_85 hw)) (by decide) (t := .boolean) (t' := .boolean) (by decide) (by decide)))
        have Fw24_44 := Fld.other W44 Fw24_28 (Or.inr (slot_ne (Or.inr (wd_81 hw)) (Or.inr (wd_85 hw)) (by decide) (t := .boolean) (t' := .boolean) (by decide) (by decide)))
        have Fw28_44 := Fld.other W44 Fw28 (Or.inr (slot_ne (Or.inr (wd_83 hw)) (Or.inr (wd_85 hw)) (by decide) (t := .boolean) (t' := .boolean) (by decide) (by decide)))
        have Sm_44 := Sta.wr W44 Sm_28
        have Vm_44 := Vm_28.other W44 hnc
        have Sc_44 := Sta.wr W44 Sc_28
        have Sf_44 := Sta.wr W44 Sf_28
        have Vp_44 := Vp_28.other W44 hne
        have Se_44 := Sta.wr W44 Se_28
        have A5_44 := Exa.wr W44 A5_28
        have A9_44 := Exa.wr W44 A9_28
        exact X44.vreturn rfl d7_220 (by decide) (by decide) ⟨rfl, _, _, E_a_44, Fw2_44, Fw4_44, Fw28_44, Fw44, own_nb _, own_nb _⟩
  · refine X11.ifYes (pc' := 80) d7_65 (feq hc12).2 (by decide) (by decide) ?_
    refine X11.iconst (pc' := 81) (z := 0) d7_80 rfl rfl ?_
    refine X11.putfieldN (pc' := 84) (v' := (.int (nar .boolean (0 : Int32)))) (wd_71 hw) Via.refl FfoundCoversChecks_a_11 E_a_11 (Or.inr ⟨(wd_72 hw), rfl, rfl⟩) (wd_12 hw) (ty := .boolean) (by decide) rfl (fits_nar_bool _) d7_81 rfl (Or.inl (by simp)) (fun T45 h45 X45 W45 => ?_)
    have Fw45 := Fld.same W45 FfoundCoversChecks_a_11
    have E_a_45 := Exa.wr W45 E_a_11
    have Fw2_45 := Fld.other W45 Fw2_11 (Or.inr (slot_ne (Or.inr (wd_36 hw)) (Or.inr (wd_72 hw)) (by decide) (t := .int) (t' := .boolean) (by decide) (by decide)))
    have Fw4_45 := Fld.other W45 Fw4_11 (Or.inr (slot_ne (Or.inr (wd_38 hw)) (Or.inr (wd_72 hw)) (by decide) (t := .int) (t' := .boolean) (by decide) (by decide)))
    have Fw8_45 := Fld.other W45 Fw8_11 (Or.inr (slot_ne (Or.inr (wd_68 hw)) (Or.inr (wd_72 hw)) (by decide) (t := (.object "java/lang/String")) (t' := .boolean) (by decide) (by decide)))
    have Fw11_45 := Fld.other W45 Fw11 (Or.inr (slot_ne (Or.inr (wd_70 hw)) (Or.inr (wd_72 hw)) (by decide) (t := (.object "java/lang/String")) (t' := .boolean) (by decide) (by decide)))
    have FseeksWhole_a_45 := Fld.other W45 FseeksWhole_a_11 (Or.inr (slot_ne (Or.inr (wd_74 hw)) (Or.inr (wd_72 hw)) (by decide) (t := .boolean) (t' := .boolean) (by decide) (by decide)))
    have FleadRecurs_a_45 := Fld.other W45 FleadRecurs_a_11 (Or.inr (slot_ne (Or.inr (wd_79 hw)) (Or.inr (wd_72 hw)) (by decide) (t := .boolean) (t' := .boolean) (by decide) (by decide)))
    have FcheckIsRarer_a_45 := Fld.other W45 FcheckIsRarer_a_11 (Or.inr (slot_ne (Or.inr (wd_81 hw)) (Or.inr (wd_72 hw)) (by decide) (t := .boolean) (t' := .boolean) (by decide) (by decide)))
    have FfirstIsRarer_a_45 := Fld.other W45 FfirstIsRarer_a_11 (Or.inr (slot_ne (Or.inr (wd_83 hw)) (Or.inr (wd_72 hw)) (by decide) (t := .boolean) (t' := .boolean) (by decide) (by decide)))
    have FpairsCheck_a_45 := Fld.other W45 FpairsCheck_a_11 (Or.inr (slot_ne (Or.inr (wd_85 hw)) (Or.inr (wd_72 hw)) (by decide) (t := .boolean) (t' := .boolean) (by decide) (by decide)))
    have Sm_45 := Sta.wr W45 Sm_11
    have Vm_45 := Vm_11.other W45 hnc
    have Sc_45 := Sta.wr W45 Sc_11
    have Sf_45 := Sta.wr W45 Sf_11
    have Vp_45 := Vp_11.other W45 hne
    have Se_45 := Sta.wr W45 Se_11
    have A5_45 := Exa.wr W45 A5_11
    have A9_45 := Exa.wr W45 A9_11
    refine X45.aloadN (pc' := 85) d7_84 rfl rfl rfl ?_
    refine X45.iloadN (pc' := 86) d7_85 rfl rfl ?_
    refine X45.aloadN (pc' := 87) d7_86 rfl rfl rfl ?_
    refine X45.arraylength (pc' := 88) (n := n.toInt32) Vp_45 (by rw [own_tn_len]) d7_87 rfl ?_
    refine Runs.dia (P := (1 : Int32) = n.toInt32) (B := fun zq : Int32 => T45.setTop (mkF m 96 #[.val (.ref a), .val (.ref pa), .val (.int a1.toInt32), .val (.int (1 : Int32)), .val (.int fr.toInt32), .unset] (.int zq :: [(.ref a)]))) (vt := 1) (vf := 0) (fun hc46 k => ?_) (fun hc46 k => ?_) ?_
    · refine X45.icmpNo (pc' := 91) d7_88 (teq hc46).2 rfl ?_
      refine X45.iconst (pc' := 92) (z := 1) d7_91 rfl rfl ?_
      refine X45.goto (pc' := 96) d7_92 (by decide) (by decide) ?_
      exact k
    · refine X45.icmpYes (pc' := 95) d7_88 (feq hc46).2 (by decide) (by decide) ?_
      refine X45.iconst (pc' := 96) (z := 0) d7_95 rfl rfl ?_
      exact k
    show Runs p e below (T45.setTop (mkF m 96 #[.val (.ref a), .val (.ref pa), .val (.int a1.toInt32), .val (.int (1 : Int32)), .val (.int fr.toInt32), .unset] [(.int (if (1 : Int32) = n.toInt32 then (1 : Int32) else 0)), (.ref a)])) _
    refine X45.putfieldN (pc' := 99) (v' := (.int (nar .boolean (if (1 : Int32) = n.toInt32 then (1 : Int32) else 0)))) (wd_73 hw) Via.refl FseeksWhole_a_45 E_a_45 (Or.inr ⟨(wd_74 hw), rfl, rfl⟩) (wd_12 hw) (ty := .boolean) (by decide) rfl (fits_nar_bool _) d7_96 rfl (Or.inl (by simp)) (fun T47 h47 X47 W47 => ?_)
    have Fw47 := Fld.same W47 FseeksWhole_a_45
    have E_a_47 := Exa.wr W47 E_a_45
    have Fw2_47 := Fld.other W47 Fw2_45 (Or.inr (slot_ne (Or.inr (wd_36 hw)) (Or.inr (wd_74 hw)) (by decide) (t := .int) (t' := .boolean) (by decide) (by decide)))
    have Fw4_47 := Fld.other W47 Fw4_45 (Or.inr (slot_ne (Or.inr (wd_38 hw)) (Or.inr (wd_74 hw)) (by decide) (t := .int) (t' := .boolean) (by decide) (by decide)))
    have Fw8_47 := Fld.other W47 Fw8_45 (Or.inr (slot_ne (Or.inr (wd_68 hw)) (Or.inr (wd_74 hw)) (by decide) (t := (.object "java/lang/String")) (t' := .boolean) (by decide) (by decide)))
    have Fw11_47 := Fld.other W47 Fw11_45 (Or.inr (slot_ne (Or.inr (wd_70 hw)) (Or.inr (wd_74 hw)) (by decide) (t := (.object "java/lang/String")) (t' := .boolean) (by decide) (by decide)))
    have Fw45_47 := Fld.other W47 Fw45 (Or.inr (slot_ne (Or.inr (wd_72 hw)) (Or.inr (wd_74 hw)) (by decide) (t := .boolean) (t' := .boolean) (by decide) (by decide)))
    have FleadRecurs_a_47 := Fld.other W47 FleadRecurs_a_45 (Or.inr (slot_ne (Or.inr (wd_79 hw)) (Or.inr (wd_74 hw)) (by decide) (t := .boolean) (t' := .boolean) (by decide) (by decide)))
    have FcheckIsRarer_a_47 := Fld.other W47 FcheckIsRarer_a_45 (Or.inr (slot_ne (Or.inr (wd_81 hw)) (Or.inr (wd_74 hw)) (by decide) (t := .boolean) (t' := .boolean) (by decide) (by decide)))
    have FfirstIsRarer_a_47 := Fld.other W47 FfirstIsRarer_a_45 (Or.inr (slot_ne (Or.inr (wd_83 hw)) (Or.inr (wd_74 hw)) (by decide) (t := .boolean) (t' := .boolean) (by decide) (by decide)))
    have FpairsCheck_a_47 := Fld.other W47 FpairsCheck_a_45 (Or.inr (slot_ne (Or.inr (wd_85 hw)) (Or.inr (wd_74 hw)) (by decide) (t := .boolean) (t' := .boolean) (by decide) (by decide)))
    have Sm_47 := Sta.wr W47 Sm_45
    have Vm_47 := Vm_45.other W47 hnc
    have Sc_47 := Sta.wr W47 Sc_45
    have Sf_47 := Sta.wr W47 Sf_45
    have Vp_47 := Vp_45.other W47 hne
    have Se_47 := Sta.wr W47 Se_45
    have A5_47 := Exa.wr W47 A5_45
    have A9_47 := Exa.wr W47 A9_45
    refine X47.aloadN (pc' := 100) d7_99 rfl rfl rfl ?_
    refine X47.aloadN (pc' := 101) d7_100 rfl rfl rfl ?_
    refine X47.iloadN (pc' := 102) d7_101 rfl rfl ?_
    refine X47.iloadN (pc' := 103) d7_102 rfl rfl ?_
    refine X47.callS (pc' := 106) (W := 1) (argsL := [(.ref pa), (.int a1.toInt32), (.int (1 : Int32))]) (rest := [(.ref a)]) (ct14 l Z a0 hw pa a1.toInt32 h47) (wd_75 hw) (wd_76 hw) (wd_9 hw) (wd_77 hw) (by decide) pd_7 rfl rfl rfl rfl d7_103 rfl (by decide) rfl (by decide) (by decide) (by decide) allWs0 (fun T48 h48 v48 X48 K48 Q48 => ?_)
    obtain ⟨rfl, rfl⟩ := Q48
    show Runs p e below (T48.setTop (mkF m 106 #[.val (.ref a), .val (.ref pa), .val (.int a1.toInt32), .val (.int (1 : Int32)), .val (.int fr.toInt32), .unset] [(.int (0 : Int32)), (.ref a)])) _
    refine X48.putfieldN (pc' := 109) (v' := (.int (nar .boolean (0 : Int32)))) (wd_78 hw) Via.refl FleadRecurs_a_47 E_a_47 (Or.inr ⟨(wd_79 hw), rfl, rfl⟩) (wd_12 hw) (ty := .boolean) (by decide) rfl (fits_nar_bool _) d7_106 rfl (Or.inl (by simp)) (fun T49 h49 X49 W49 => ?_)
    have Fw49 := Fld.same W49 FleadRecurs_a_47
    have E_a_49 := Exa.wr W49 E_a_47
    have Fw2_49 := Fld.other W49 Fw2_47 (Or.inr (slot_ne (Or.inr (wd_36 hw)) (Or.inr (wd_79 hw)) (by decide) (t := .int) (t' := .boolean) (by decide) (by decide)))
    have Fw4_49 := Fld.other W49 Fw4_47 (Or.inr (slot_ne (Or.inr (wd_38 hw)) (Or.inr (wd_79 hw)) (by decide) (t := .int) (t' := .boolean) (by decide) (by decide)))
    have Fw8_49 := Fld.other W49 Fw8_47 (Or.inr (slot_ne (Or.inr (wd_68 hw)) (Or.inr (wd_79 hw)) (by decide) (t := (.object "java/lang/String")) (t' := .boolean) (by decide) (by decide)))
    have Fw11_49 := Fld.other W49 Fw11_47 (Or.inr (slot_ne (Or.inr (wd_70 hw)) (Or.inr (wd_79 hw)) (by decide) (t := (.object "java/lang/String")) (t' := .boolean) (by decide) (by decide)))
    have Fw45_49 := Fld.other W49 Fw45_47 (Or.inr (slot_ne (Or.inr (wd_72 hw)) (Or.inr (wd_79 hw)) (by decide) (t := .boolean) (t' := .boolean) (by decide) (by decide)))
    have Fw47_49 := Fld.other W49 Fw47 (Or.inr (slot_ne (Or.inr (wd_74 hw)) (Or.inr (wd_79 hw)) (by decide) (t := .boolean) (t' := .boolean) (by decide) (by decide)))
    have FcheckIsRarer_a_49 := Fld.other W49 FcheckIsRarer_a_47 (Or.inr (slot_ne (Or.inr (wd_81 hw)) (Or.inr (wd_79 hw)) (by decide) (t := .boolean) (t' := .boolean) (by decide) (by decide)))
    have FfirstIsRarer_a_49 := Fld.other W49 FfirstIsRarer_a_47 (Or.inr (slot_ne (Or.inr (wd_83 hw)) (Or.inr (wd_79 hw)) (by decide) (t := .boolean) (t' := .boolean) (by decide) (by decide)))
    have FpairsCheck_a_49 := Fld.other W49 FpairsCheck_a_47 (Or.inr (slot_ne (Or.inr (wd_85 hw)) (Or.inr (wd_79 hw)) (by decide) (t := .boolean) (t' := .boolean) (by decide) (by decide)))
    have Sm_49 := Sta.wr W49 Sm_47
    have Vm_49 := Vm_47.other W49 hnc
    have Sc_49 := Sta.wr W49 Sc_47
    have Sf_49 := Sta.wr W49 Sf_47
    have Vp_49 := Vp_47.other W49 hne
    have Se_49 := Sta.wr W49 Se_47
    have A5_49 := Exa.wr W49 A5_47
    have A9_49 := Exa.wr W49 A9_47
    refine X49.aloadN (pc' := 110) d7_109 rfl rfl rfl ?_
    refine X49.aloadN (pc' := 111) d7_110 rfl rfl rfl ?_
    refine X49.arraylength (pc' := 112) (n := n.toInt32) Vp_49 (by rw [own_tn_len]) d7_111 rfl ?_
    refine X49.ifNo (pc' := 115) d7_112 (tlt (own_n0 hn hN)).2.2.2 rfl ?_
    refine X49.aloadN (pc' := 116) d7_115 rfl rfl rfl ?_
    refine X49.aloadN (pc' := 117) d7_116 rfl rfl rfl ?_
    refine X49.getfield (pc' := 120) (host := "") (Or.inl (wd_37 hw)) Via.refl Fw4_49 d7_117 rfl (fun T50 X50 => ?_)
    refine X50.iaload (pc' := 121) (v := (.int (P c1))) Vp_49 (own_il (own_i32 (by omega)) hc1) (own_tn_at (own_ilt (own_i32 (by omega))) hc1) d7_120 rfl ?_
    refine X50.callS (pc' := 124) (W := 1) (argsL := [(.int (P c1))]) (rest := [(.ref a)]) (ct6 l Z a0 hw cma cm (P c1) h49 Sm_49 Vm_49 (hP _ hc1).1) (wd_24 hw) (wd_25 hw) (wd_9 hw) (wd_26 hw) (by decide) pd_0 rfl rfl rfl rfl d7_121 rfl (by decide) rfl (by decide) (by decide) (by decide) allWs0 (fun T51 h51 v51 X51 K51 Q51 => ?_)
    obtain ⟨rfl, rfl⟩ := Q51
    show Runs p e below (T51.setTop (mkF m 124 #[.val (.ref a), .val (.ref pa), .val (.int a1.toInt32), .val (.int (1 : Int32)), .val (.int fr.toInt32), .unset] [(.int (own_cm cm (P c1))), (.ref a)])) _
    refine X51.aloadN (pc' := 125) d7_124 rfl rfl rfl ?_
    refine X51.iloadN (pc' := 126) d7_125 rfl rfl ?_
    refine X51.iaload (pc' := 127) (v := (.int (P a1))) Vp_49 (own_il (own_i32 (by omega)) ha1) (own_tn_at (own_ilt (own_i32 (by omega))) ha1) d7_126 rfl ?_
    refine X51.callS (pc' := 130) (W := 2) (argsL := [(.int (P a1))]) (rest := [(.int (own_cm cm (P c1))), (.ref a)]) (ct6 l Z a0 hw cma cm (P a1) h49 Sm_49 Vm_49 (hP _ ha1).1) (wd_24 hw) (wd_25 hw) (wd_9 hw) (wd_26 hw) (by decide) pd_0 rfl rfl rfl rfl d7_127 rfl (by decide) rfl (by decide) (by decide) (by decide) allWs0 (fun T52 h52 v52 X52 K52 Q52 => ?_)
    obtain ⟨rfl, rfl⟩ := Q52
    show Runs p e below (T52.setTop (mkF m 130 #[.val (.ref a), .val (.ref pa), .val (.int a1.toInt32), .val (.int (1 : Int32)), .val (.int fr.toInt32), .unset] [(.int (own_cm cm (P a1))), (.int (own_cm cm (P c1))), (.ref a)])) _
    refine Runs.dia (P := (own_cm cm (P c1)) < (own_cm cm (P a1))) (B := fun zq : Int32 => T52.setTop (mkF m 138 #[.val (.ref a), .val (.ref pa), .val (.int a1.toInt32), .val (.int (1 : Int32)), .val (.int fr.toInt32), .unset] (.int zq :: [(.ref a)]))) (vt := 1) (vf := 0) (fun hc53 k => ?_) (fun hc53 k => ?_) ?_
    · refine X52.icmpNo (pc' := 133) d7_130 (tlt hc53).2.1 rfl ?_
      refine X52.iconst (pc' := 134) (z := 1) d7_133 rfl rfl ?_
      refine X52.goto (pc' := 138) d7_134 (by decide) (by decide) ?_
      exact k
    · refine X52.icmpYes (pc' := 137) d7_130 (flt hc53).2.1 (by decide) (by decide) ?_
      refine X52.iconst (pc' := 138) (z := 0) d7_137 rfl rfl ?_
      exact k
    show Runs p e below (T52.setTop (mkF m 138 #[.val (.ref a), .val (.ref pa), .val (.int a1.toInt32), .val (.int (1 : Int32)), .val (.int fr.toInt32), .unset] [(.int (if (own_cm cm (P c1)) < (own_cm cm (P a1)) then (1 : Int32) else 0)), (.ref a)])) _
    refine X52.putfieldN (pc' := 141) (v' := (.int (nar .boolean (if (own_cm cm (P c1)) < (own_cm cm (P a1)) then (1 : Int32) else 0)))) (wd_80 hw) Via.refl FcheckIsRarer_a_49 E_a_49 (Or.inr ⟨(wd_81 hw), rfl, rfl⟩) (wd_12 hw) (ty := .boolean) (by decide) rfl (fits_nar_bool _) d7_138 rfl (Or.inl (by simp)) (fun T54 h54 X54 W54 => ?_)
    have Fw54 := Fld.same W54 FcheckIsRarer_a_49
    have E_a_54 := Exa.wr W54 E_a_49
    have Fw2_54 := Fld.other W54 Fw2_49 (Or.inr (slot_ne (Or.inr (wd_36 hw)) (Or.inr (wd_81 hw)) (by decide) (t := .int) (t' := .boolean) (by decide) (by decide)))
    have Fw4_54 := Fld.other W54 Fw4_49 (Or.inr (slot_ne (Or.inr (wd_38 hw)) (Or.inr (wd_81 hw)) (by decide) (t := .int) (t' := .boolean) (by decide) (by decide)))
    have Fw8_54 := Fld.other W54 Fw8_49 (Or.inr (slot_ne (Or.inr (wd_68 hw)) (Or.inr (wd_81 hw)) (by decide) (t := (.object "java/lang/String")) (t' := .boolean) (by decide) (by decide)))
    have Fw11_54 := Fld.other W54 Fw11_49 (Or.inr (slot_ne (Or.inr (wd_70 hw)) (Or.inr (wd_81 hw)) (by decide) (t := (.object "java/lang/String")) (t' := .boolean) (by decide) (by decide)))
    have Fw45_54 := Fld.other W54 Fw45_49 (Or.inr (slot_ne (Or.inr (wd_72 hw)) (Or.inr (wd_81 hw)) (by decide) (t := .boolean) (t' := .boolean) (by decide) (by decide)))
    have Fw47_54 := Fld.other W54 Fw47_49 (Or.inr (slot_ne (Or.inr (wd_74 hw)) (Or.inr (wd_81 hw)) (by decide) (t := .boolean) (t' := .boolean) (by decide) (by decide)))
    have Fw49_54 := Fld.other W54 Fw49 (Or.inr (slot_ne (Or.inr (wd_79 hw)) (Or.inr (wd_81 hw)) (by decide) (t := .boolean) (t' := .boolean) (by decide) (by decide)))
    have FfirstIsRarer_a_54 := Fld.other W54 FfirstIsRarer_a_49 (Or.inr (slot_ne (Or.inr (wd_83 hw)) (Or.inr (wd_81 hw)) (by decide) (t := .boolean) (t' := .boolean) (by decide) (by decide)))
    have FpairsCheck_a_54 := Fld.other W54 FpairsCheck_a_49 (Or.inr (slot_ne (Or.inr (wd_85 hw)) (Or.inr (wd_81 hw)) (by decide) (t := .boolean) (t' := .boolean) (by decide) (by decide)))
    have Sm_54 := Sta.wr W54 Sm_49
    have Vm_54 := Vm_49.other W54 hnc
    have Sc_54 := Sta.wr W54 Sc_49
    have Sf_54 := Sta.wr W54 Sf_49
    have Vp_54 := Vp_49.other W54 hne
    have Se_54 := Sta.wr W54 Se_49
    have A5_54 := Exa.wr W54 A5_49
    have A9_54 := Exa.wr W54 A9_49
    refine X54.aloadN (pc' := 142) d7_141 rfl rfl rfl ?_
    refine X54.aloadN (pc' := 143) d7_142 rfl rfl rfl ?_
    refine X54.arraylength (pc' := 144) (n := n.toInt32) Vp_54 (by rw [own_tn_len]) d7_143 rfl ?_
    refine X54.ifNo (pc' := 147) d7_144 (tlt (own_n0 hn hN)).2.2.2 rfl ?_
    refine X54.aloadN (pc' := 148) d7_147 rfl rfl rfl ?_
    refine X54.iconst (pc' := 149) (z := 0) d7_148 rfl rfl ?_
    refine X54.iaload (pc' := 150) (v := (.int (P 0))) Vp_54 (own_il rfl hn) (own_tn_at (own_ilt rfl) hn) d7_149 rfl ?_
    refine X54.callS (pc' := 153) (W := 1) (argsL := [(.int (P 0))]) (rest := [(.ref a)]) (ct6 l Z a0 hw cma cm (P 0) h54 Sm_54 Vm_54 (hP _ hn).1) (wd_24 hw) (wd_25 hw) (wd_9 hw) (wd_26 hw) (by decide) pd_0 rfl rfl rfl rfl d7_150 rfl (by decide) rfl (by decide) (by decide) (by decide) allWs0 (fun T55 h55 v55 X55 K55 Q55 => ?_)
    obtain ⟨rfl, rfl⟩ := Q55
    show Runs p e below (T55.setTop (mkF m 153 #[.val (.ref a), .val (.ref pa), .val (.int a1.toInt32), .val (.int (1 : Int32)), .val (.int fr.toInt32), .unset] [(.int (own_cm cm (P 0))), (.ref a)])) _
    refine X55.aloadN (pc' := 154) d7_153 rfl rfl rfl ?_
    refine X55.iloadN (pc' := 155) d7_154 rfl rfl ?_
    refine X55.iaload (pc' := 156) (v := (.int (P a1))) Vp_54 (own_il (own_i32 (by omega)) ha1) (own_tn_at (own_ilt (own_i32 (by omega))) ha1) d7_155 rfl ?_
    refine X55.callS (pc' := 159) (W := 2) (argsL := [(.int (P a1))]) (rest := [(.int (own_cm cm (P 0))), (.ref a)]) (ct6 l Z a0 hw cma cm (P a1) h54 Sm_54 Vm_54 (hP _ ha1).1) (wd_24 hw) (wd_25 hw) (wd_9 hw) (wd_26 hw) (by decide) pd_0 rfl rfl rfl rfl d7_156 rfl (by decide) rfl (by decide) (by decide) (by decide) allWs0 (fun T56 h56 v56 X56 K56 Q56 => ?_)
    obtain ⟨rfl, rfl⟩ := Q56
    show Runs p e below (T56.setTop (mkF m 159 #[.val (.ref a), .val (.ref pa), .val (.int a1.toInt32), .val (.int (1 : Int32)), .val (.int fr.toInt32), .unset] [(.int (own_cm cm (P a1))), (.int (own_cm cm (P 0))), (.ref a)])) _
    refine Runs.dia (P := (own_cm cm (P 0)) < (own_cm cm (P a1))) (B := fun zq : Int32 => T56.setTop (mkF m 167 #[.val (.ref a), .val (.ref pa), .val (.int a1.toInt32), .val (.int (1 : Int32)), .val (.int fr.toInt32), .unset] (.int zq :: [(.ref a)]))) (vt := 1) (vf := 0) (fun hc57 k => ?_) (fun hc57 k => ?_) ?_
    · refine X56.icmpNo (pc' := 162) d7_159 (tlt hc57).2.1 rfl ?_
      refine X56.iconst (pc' := 163) (z := 1) d7_162 rfl rfl ?_
      refine X56.goto (pc' := 167) d7_163 (by decide) (by decide) ?_
      exact k
    · refine X56.icmpYes (pc' := 166) d7_159 (flt hc57).2.1 (by decide) (by decide) ?_
      refine X56.iconst (pc' := 167) (z := 0) d7_166 rfl rfl ?_
      exact k
    show Runs p e below (T56.setTop (mkF m 167 #[.val (.ref a), .val (.ref pa), .val (.int a1.toInt32), .val (.int (1 : Int32)), .val (.int fr.toInt32), .unset] [(.int (if (own_cm cm (P 0)) < (own_cm cm (P a1)) then (1 : Int32) else 0)), (.ref a)])) _
    refine X56.putfieldN (pc' := 170) (v' := (.int (nar .boolean (if (own_cm cm (P 0)) < (own_cm cm (P a1)) then (1 : Int32) else 0)))) (wd_82 hw) Via.refl FfirstIsRarer_a_54 E_a_54 (Or.inr ⟨(wd_83 hw), rfl, rfl⟩) (wd_12 hw) (ty := .boolean) (by decide) rfl (fits_nar_bool _) d7_167 rfl (Or.inl (by simp)) (fun T58 h58 X58 W58 => ?_)
    have Fw58 := Fld.same W58 FfirstIsRarer_a_54
    have E_a_58 := Exa.wr W58 E_a_54
    have Fw2_58 := Fld.other W58 Fw2_54 (Or.inr (slot_ne (Or.inr (wd_36 hw)) (Or.inr (wd_83 hw)) (by decide) (t := .int) (t' := .boolean) (by decide) (by decide)))
    have Fw4_58 := Fld.other W58 Fw4_54 (Or.inr (slot_ne (Or.inr (wd_38 hw)) (Or.inr (wd_83 hw)) (by decide) (t := .int) (t' := .boolean) (by decide) (by decide)))
    have Fw8_58 := Fld.other W58 Fw8_54 (Or.inr (slot_ne (Or.inr (wd_68 hw)) (Or.inr (wd_83 hw)) (by decide) (t := (.object "java/lang/String")) (t' := .boolean) (by decide) (by decide)))
    have Fw11_58 := Fld.other W58 Fw11_54 (Or.inr (slot_ne (Or.inr (wd_70 hw)) (Or.inr (wd_83 hw)) (by decide) (t := (.object "java/lang/String")) (t' := .boolean) (by decide) (by decide)))
    have Fw45_58 := Fld.other W58 Fw45_54 (Or.inr (slot_ne (Or.inr (wd_72 hw)) (Or.inr (wd_83 hw)) (by decide) (t := .boolean) (t' := .boolean) (by decide) (by decide)))
    have Fw47_58 := Fld.other W58 Fw47_54 (Or.inr (slot_ne (Or.inr (wd_74 hw)) (Or.inr (wd_83 hw)) (by decide) (t := .boolean) (t' := .boolean) (by decide) (by decide)))
    have Fw49_58 := Fld.other W58 Fw49_54 (Or.inr (slot_ne (Or.inr (wd_79 hw)) (Or.inr (wd_83 hw)) (by decide) (t := .boolean) (t' := .boolean) (by decide) (by decide)))
    have Fw54_58 := Fld.other W58 Fw54 (Or.inr (slot_ne (Or.inr (wd_81 hw)) (Or.inr (wd_83 hw)) (by decide) (t := .boolean) (t' := .boolean) (by decide) (by decide)))
    have FpairsCheck_a_58 := Fld.other W58 FpairsCheck_a_54 (Or.inr (slot_ne (Or.inr (wd_85 hw)) (Or.inr (wd_83 hw)) (by decide) (t := .boolean) (t' := .boolean) (by decide) (by decide)))
    have Sm_58 := Sta.wr W58 Sm_54
    have Vm_58 := Vm_54.other W58 hnc
    have Sc_58 := Sta.wr W58 Sc_54
    have Sf_58 := Sta.wr W58 Sf_54
    have Vp_58 := Vp_54.other W58 hne
    have Se_58 := Sta.wr W58 Se_54
    have A5_58 := Exa.wr W58 A5_54
    have A9_58 := Exa.wr W58 A9_54
    refine X58.aloadN (pc' := 171) d7_170 rfl rfl rfl ?_
    refine X58.getfield (pc' := 174) (host := "") (Or.inl (wd_82 hw)) Via.refl Fw58 d7_171 rfl (fun T59 X59 => ?_)
    by_cases hc60 : (nar .boolean (if (own_cm cm (P 0)) < (own_cm cm (P a1)) then (1 : Int32) else 0)) = (0 : Int32)
    · refine X59.ifYes (pc' := 181) d7_174 (teq hc60).1 (by decide) (by decide) ?_
      refine X59.iloadN (pc' := 182) d7_181 rfl rfl ?_
      refine X59.istore (pc' := 184) (l' := #[.val (.ref a), .val (.ref pa), .val (.int a1.toInt32), .val (.int (1 : Int32)), .val (.int fr.toInt32), .val (.int a1.toInt32)]) d7_182 rfl rfl ?_
      refine X59.aloadN (pc' := 185) d7_184 rfl rfl rfl ?_
      refine X59.aloadN (pc' := 186) d7_185 rfl rfl rfl ?_
      refine X59.arraylength (pc' := 187) (n := n.toInt32) Vp_58 (by rw [own_tn_len]) d7_186 rfl ?_
      refine X59.ifNo (pc' := 190) d7_187 (tlt (own_n0 hn hN)).2.2.2 rfl ?_
      refine X59.aloadN (pc' := 191) d7_190 rfl rfl rfl ?_
      refine X59.getfield (pc' := 194) (host := "") (Or.inl (wd_37 hw)) Via.refl Fw4_58 d7_191 rfl (fun T61 X61 => ?_)
      refine X61.iload (pc' := 196) d7_194 rfl rfl ?_
      by_cases hc62 : c1.toInt32 = a1.toInt32
      · refine X61.icmpYes (pc' := 216) d7_196 (teq hc62).1 (by decide) (by decide) ?_
        refine X61.iconst (pc' := 217) (z := 0) d7_216 rfl rfl ?_
        refine X61.putfieldN (pc' := 220) (v' := (.int (nar .boolean (0 : Int32)))) (wd_84 hw) Via.refl FpairsCheck_a_58 E_a_58 (Or.inr ⟨(wd_85 hw), rfl, rfl⟩) (wd_12 hw) (ty := .boolean) (by decide) rfl (fits_nar_bool _) d7_217 rfl (Or.inl (by simp)) (fun T63 h63 X63 W63 => ?_)
        have Fw63 := Fld.same W63 FpairsCheck_a_58
        have E_a_63 := Exa.wr W63 E_a_58
        have Fw2_63 := Fld.other W63 Fw2_58 (Or.inr (slot_ne (Or.inr (wd_36 hw)) (Or.inr (wd_85 hw)) (by decide) (t := .int) (t' := .boolean) (by decide) (by decide)))
        have Fw4_63 := Fld.other W63 Fw4_58 (Or.inr (slot_ne (Or.inr (wd_38 hw)) (Or.inr (wd_85 hw)) (by decide) (t := .int) (t' := .boolean) (by decide) (by decide)))
        have Fw8_63 := Fld.other W63 Fw8_58 (Or.inr (slot_ne (Or.inr (wd_68 hw)) (Or.inr (wd_85 hw)) (by decide) (t := (.object "java/lang/String")) (t' := .boolean) (by decide) (by decide)))
        have Fw11_63 := Fld.other W63 Fw11_58 (Or.inr (slot_ne (Or.inr (wd_70 hw)) (Or.inr (wd_85 hw)) (by decide) (t := (.object "java/lang/String")) (t' := .boolean) (by decide) (by decide)))
        have Fw45_63 := Fld.other W63 Fw45_58 (Or.inr (slot_ne (Or.inr (wd_72 hw)) (Or.inr (wd_85 hw)) (by decide) (t := .boolean) (t' := .boolean) (by decide) (by decide)))
        have Fw47_63 := Fld.other W63 Fw47_58 (Or.inr (slot_ne (Or.inr (wd_74 hw)) (Or.inr (wd_85 hw)) (by decide) (t := .boolean) (t' := .boolean) (by decide) (by decide)))
        have Fw49_63 := Fld.other W63 Fw49_58 (Or.inr (slot_ne (Or.inr (wd_79 hw)) (Or.inr (wd_85 hw)) (by decide) (t := .boolean) (t' := .boolean) (by decide) (by decide)))
        have Fw54_63 := Fld.other W63 Fw54_58 (Or.inr (slot_ne (Or.inr (wd_81 hw)) (Or.inr (wd_85 hw)) (by decide) (t := .boolean) (t' := .boolean) (by decide) (by decide)))
        have Fw58_63 := Fld.other W63 Fw58 (Or.inr (slot_ne (Or.inr (wd_83 hw)) (Or.inr (wd_85 hw)) (by decide) (t := .boolean) (t' := .boolean) (by decide) (by decide)))
        have Sm_63 := Sta.wr W63 Sm_58
        have Vm_63 := Vm_58.other W63 hnc
        have Sc_63 := Sta.wr W63 Sc_58
        have Sf_63 := Sta.wr W63 Sf_58
        have Vp_63 := Vp_58.other W63 hne
        have Se_63 := Sta.wr W63 Se_58
        have A5_63 := Exa.wr W63 A5_58
        have A9_63 := Exa.wr W63 A9_58
        exact X63.vreturn rfl d7_220 (by decide) (by decide) ⟨rfl, _, _, E_a_63, Fw2_63, Fw4_63, Fw58_63, Fw63, own_nb _, own_nb _⟩
      · refine X61.icmpNo (pc' := 199) d7_196 (feq hc62).1 rfl ?_
        refine X61.aloadN (pc' := 200) d7_199 rfl rfl rfl ?_
        refine X61.iload (pc' := 202) d7_200 rfl rfl ?_
        refine X61.iaload (pc' := 203) (v := (.int (P a1))) Vp_58 (own_il (own_i32 (by omega)) ha1) (own_tn_at (own_ilt (own_i32 (by omega))) ha1) d7_202 rfl ?_
        refine X61.callS (pc' := 206) (W := 1) (argsL := [(.int (P a1))]) (rest := [(.ref a)]) (ct6 l Z a0 hw cma cm (P a1) h58 Sm_58 Vm_58 (hP _ ha1).1) (wd_24 hw) (wd_25 hw) (wd_9 hw) (wd_26 hw) (by decide) pd_0 rfl rfl rfl rfl d7_203 rfl (by decide) rfl (by decide) (by decide) (by decide) allWs0 (fun T64 h64 v64 X64 K64 Q64 => ?_)
        obtain ⟨rfl, rfl⟩ := Q64
        show Runs p e below (T64.setTop (mkF m 206 #[.val (.ref a), .val (.ref pa), .val (.int a1.toInt32), .val (.int (1 : Int32)), .val (.int fr.toInt32), .val (.int a1.toInt32)] [(.int (own_cm cm (P a1))), (.ref a)])) _
        refine X64.getstatic (pc' := 209) (host := "") (Or.inl (wd_144 hw)) Via.refl Se_58 d7_206 rfl (fun T65 X65 => ?_)
        refine Runs.dia (P := (own_cm cm (P a1)) < ce) (B := fun zq : Int32 => T65.setTop (mkF m 217 #[.val (.ref a), .val (.ref pa), .val (.int a1.toInt32), .val (.int (1 : Int32)), .val (.int fr.toInt32), .val (.int a1.toInt32)] (.int zq :: [(.ref a)]))) (vt := 0) (vf := 1) (fun hc66 k => ?_) (fun hc66 k => ?_) ?_
        · refine X65.icmpYes (pc' := 216) d7_209 (tlt hc66).1 (by decide) (by decide) ?_
          refine X65.iconst (pc' := 217) (z := 0) d7_216 rfl rfl ?_
          exact k
        · refine X65.icmpNo (pc' := 212) d7_209 (flt hc66).1 rfl ?_
          refine X65.iconst (pc' := 213) (z := 1) d7_212 rfl rfl ?_
          refine X65.goto (pc' := 217) d7_213 (by decide) (by decide) ?_
          exact k
        show Runs p e below (T65.setTop (mkF m 217 #[.val (.ref a), .val (.ref pa), .val (.int a1.toInt32), .val (.int (1 : Int32)), .val (.int fr.toInt32), .val (.int a1.toInt32)] [(.int (if (own_cm cm (P a1)) < ce then (0 : Int32) else 1)), (.ref a)])) _
        refine X65.putfieldN (pc' := 220) (v' := (.int (nar .boolean (if (own_cm cm (P a1)) < ce then (0 : Int32) else 1)))) (wd_84 hw) Via.refl FpairsCheck_a_58 E_a_58 (Or.inr ⟨(wd_85 hw), rfl, rfl⟩) (wd_12 hw) (ty := .boolean) (by decide) rfl (fits_nar_bool _) d7_217 rfl (Or.inl (by simp)) (fun T67 h67 X67 W67 => ?_)
        have Fw67 := Fld.same W67 FpairsCheck_a_58
        have E_a_67 := Exa.wr W67 E_a_58
        have Fw2_67 := Fld.other W67 Fw2_58 (Or.inr (slot_ne (Or.inr (wd_36 hw)) (Or.inr (wd_85 hw)) (by decide) (t := .int) (t' := .boolean) (by decide) (by decide)))
        have Fw4_67 := Fld.other W67 Fw4_58 (Or.inr (slot_ne (Or.inr (wd_38 hw)) (Or.inr (wd_85 hw)) (by decide) (t := .int) (t' := .boolean) (by decide) (by decide)))
        have Fw8_67 := Fld.other W67 Fw8_58 (Or.inr (slot_ne (Or.inr (wd_68 hw)) (Or.inr (wd_85 hw)) (by decide) (t := (.object "java/lang/String")) (t' := .boolean) (by decide) (by decide)))
        have Fw11_67 := Fld.other W67 Fw11_58 (Or.inr (slot_ne (Or.inr (wd_70 hw)) (Or.inr (wd_85 hw)) (by decide) (t := (.object "java/lang/String")) (t' := .boolean) (by decide) (by decide)))
        have Fw45_67 := Fld.other W67 Fw45_58 (Or.inr (slot_ne (Or.inr (wd_72 hw)) (Or.inr (wd_85 hw)) (by decide) (t := .boolean) (t' := .boolean) (by decide) (by decide)))
        have Fw47_67 := Fld.other W67 Fw47_58 (Or.inr (slot_ne (Or.inr (wd_74 hw)) (Or.inr (wd_85 hw)) (by decide) (t := .boolean) (t' := .boolean) (by decide) (by decide)))
        have Fw49_67 := Fld.other W67 Fw49_58 (Or.inr (slot_ne (Or.inr (wd_79 hw)) (Or.inr (wd_85 hw)) (by decide) (t := .boolean) (t' := .boolean) (by decide) (by decide)))
        have Fw54_67 := Fld.other W67 Fw54_58 (Or.inr (slot_ne (Or.inr (wd_81 hw)) (Or.inr (wd_85 hw)) (by decide) (t := .boolean) (t' := .boolean) (by decide) (by decide)))
        have Fw58_67 := Fld.other W67 Fw58 (Or.inr (slot_ne (Or.inr (wd_83 hw)) (Or.inr (wd_85 hw)) (by decide) (t := .boolean) (t' := .boolean) (by decide) (by decide)))
        have Sm_67 := Sta.wr W67 Sm_58
        have Vm_67 := Vm_58.other W67 hnc
        have Sc_67 := Sta.wr W67 Sc_58
        have Sf_67 := Sta.wr W67 Sf_58
        have Vp_67 := Vp_58.other W67 hne
        have Se_67 := Sta.wr W67 Se_58
        have A5_67 := Exa.wr W67 A5_58
        have A9_67 := Exa.wr W67 A9_58
        exact X67.vreturn rfl d7_220 (by decide) (by decide) ⟨rfl, _, _, E_a_67, Fw2_67, Fw4_67, Fw58_67, Fw67, own_nb _, own_nb _⟩
    · refine X59.ifNo (pc' := 177) d7_174 (feq hc60).1 rfl ?_
      refine X59.iconst (pc' := 178) (z := 0) d7_177 rfl rfl ?_
      refine X59.goto (pc' := 182) d7_178 (by decide) (by decide) ?_
      refine X59.istore (pc' := 184) (l' := #[.val (.ref a), .val (.ref pa), .val (.int a1.toInt32), .val (.int (1 : Int32)), .val (.int fr.toInt32), .val (.int (0 : Int32))]) d7_182 rfl rfl ?_
      refine X59.aloadN (pc' := 185) d7_184 rfl rfl rfl ?_
      refine X59.aloadN (pc' := 186) d7_185 rfl rfl rfl ?_
      refine X59.arraylength (pc' := 187) (n := n.toInt32) Vp_58 (by rw [own_tn_len]) d7_186 rfl ?_
      refine X59.ifNo (pc' := 190) d7_187 (tlt (own_n0 hn hN)).2.2.2 rfl ?_
      refine X59.aloadN (pc' := 191) d7_190 rfl rfl rfl ?_
      refine X59.getfield (pc' := 194) (host := "") (Or.inl (wd_37 hw)) Via.refl Fw4_58 d7_191 rfl (fun T68 X68 => ?_)
      refine X68.iload (pc' := 196) d7_194 rfl rfl ?_
      by_cases hc69 : c1.toInt32 = (0 : Int32)
      · refine X68.icmpYes (pc' := 216) d7_196 (teq hc69).1 (by decide) (by decide) ?_
        refine X68.iconst (pc' := 217) (z := 0) d7_216 rfl rfl ?_
        refine X68.putfieldN (pc' := 220) (v' := (.int (nar .boolean (0 : Int32)))) (wd_84 hw) Via.refl FpairsCheck_a_58 E_a_58 (Or.inr ⟨(wd_85 hw), rfl, rfl⟩) (wd_12 hw) (ty := .boolean) (by decide) rfl (fits_nar_bool _) d7_217 rfl (Or.inl (by simp)) (fun T70 h70 X70 W70 => ?_)
        have Fw70 := Fld.same W70 FpairsCheck_a_58
        have E_a_70 := Exa.wr W70 E_a_58
        have Fw2_70 := Fld.other W70 Fw2_58 (Or.inr (slot_ne (Or.inr (wd_36 hw)) (Or.inr (wd_85 hw)) (by decide) (t := .int) (t' := .boolean) (by decide) (by decide)))
        have Fw4_70 := Fld.other W70 Fw4_58 (Or.inr (slot_ne (Or.inr (wd_38 hw)) (Or.inr (wd_85 hw)) (by decide) (t := .int) (t' := .boolean) (by decide) (by decide)))
        have Fw8_70 := Fld.other W70 Fw8_58 (Or.inr (slot_ne (Or.inr (wd_68 hw)) (Or.inr (wd_85 hw)) (by decide) (t := (.object "java/lang/String")) (t' := .boolean) (by decide) (by decide)))
        have Fw11_70 := Fld.other W70 Fw11_58 (Or.inr (slot_ne (Or.inr (wd_70 hw)) (Or.inr (wd_85 hw)) (by decide) (t := (.object "java/lang/String")) (t' := .boolean) (by decide) (by decide)))
        have Fw45_70 := Fld.other W70 Fw45_58 (Or.inr (slot_ne (Or.inr (wd_72 hw)) (Or.inr (wd_85 hw)) (by decide) (t := .boolean) (t' := .boolean) (by decide) (by decide)))
        have Fw47_70 := Fld.other W70 Fw47_58 (Or.inr (slot_ne (Or.inr (wd_74 hw)) (Or.inr (wd_85 hw)) (by decide) (t := .boolean) (t' := .boolean) (by decide) (by decide)))
        have Fw49_70 := Fld.other W70 Fw49_58 (Or.inr (slot_ne (Or.inr (wd_79 hw)) (Or.inr (wd_85 hw)) (by decide) (t := .boolean) (t' := .boolean) (by decide) (by decide)))
        have Fw54_70 := Fld.other W70 Fw54_58 (Or.inr (slot_ne (Or.inr (wd_81 hw)) (Or.inr (wd_85 hw)) (by decide) (t := .boolean) (t' := .boolean) (by decide) (by decide)))
        have Fw58_70 := Fld.other W70 Fw58 (Or.inr (slot_ne (Or.inr (wd_83 hw)) (Or.inr (wd_85 hw)) (by decide) (t := .boolean) (t' := .boolean) (by decide) (by decide)))
        have Sm_70 := Sta.wr W70 Sm_58
        have Vm_70 := Vm_58.other W70 hnc
        have Sc_70 := Sta.wr W70 Sc_58
        have Sf_70 := Sta.wr W70 Sf_58
        have Vp_70 := Vp_58.other W70 hne
        have Se_70 := Sta.wr W70 Se_58
        have A5_70 := Exa.wr W70 A5_58
        have A9_70 := Exa.wr W70 A9_58
        exact X70.vreturn rfl d7_220 (by decide) (by decide) ⟨rfl, _, _, E_a_70, Fw2_70, Fw4_70, Fw58_70, Fw70, own_nb _, own_nb _⟩
      · refine X68.icmpNo (pc' := 199) d7_196 (feq hc69).1 rfl ?_
        refine X68.aloadN (pc' := 200) d7_199 rfl rfl rfl ?_
        refine X68.iload (pc' := 202) d7_200 rfl rfl ?_
        refine X68.iaload (pc' := 203) (v := (.int (P 0))) Vp_58 (own_il rfl hn) (own_tn_at (own_ilt rfl) hn) d7_202 rfl ?_
        refine X68.callS (pc' := 206) (W := 1) (argsL := [(.int (P 0))]) (rest := [(.ref a)]) (ct6 l Z a0 hw cma cm (P 0) h58 Sm_58 Vm_58 (hP _ hn).1) (wd_24 hw) (wd_25 hw) (wd_9 hw) (wd_26 hw) (by decide) pd_0 rfl rfl rfl rfl d7_203 rfl (by decide) rfl (by decide) (by decide) (by decide) allWs0 (fun T71 h71 v71 X71 K71 Q71 => ?_)
        obtain ⟨rfl, rfl⟩ := Q71
        show Runs p e below (T71.setTop (mkF m 206 #[.val (.ref a), .val (.ref pa), .val (.int a1.toInt32), .val (.int (1 : Int32)), .val (.int fr.toInt32), .val (.int (0 : Int32))] [(.int (own_cm cm (P 0))), (.ref a)])) _
        refine X71.getstatic (pc' := 209) (host := "") (Or.inl (wd_144 hw)) Via.refl Se_58 d7_206 rfl (fun T72 X72 => ?_)
        refine Runs.dia (P := (own_cm cm (P 0)) < ce) (B := fun zq : Int32 => T72.setTop (mkF m 217 #[.val (.ref a), .val (.ref pa), .val (.int a1.toInt32), .val (.int (1 : Int32)), .val (.int fr.toInt32), .val (.int (0 : Int32))] (.int zq :: [(.ref a)]))) (vt := 0) (vf := 1) (fun hc73 k => ?_) (fun hc73 k => ?_) ?_
        · refine X72.icmpYes (pc' := 216) d7_209 (tlt hc73).1 (by decide) (by decide) ?_
          refine X72.iconst (pc' := 217) (z := 0) d7_216 rfl rfl ?_
          exact k
        · refine X72.icmpNo (pc' := 212) d7_209 (flt hc73).1 rfl ?_
          refine X72.iconst (pc' := 213) (z := 1) d7_212 rfl rfl ?_
          refine X72.goto (pc' := 217) d7_213 (by decide) (by decide) ?_
          exact k
        show Runs p e below (T72.setTop (mkF m 217 #[.val (.ref a), .val (.ref pa), .val (.int a1.toInt32), .val (.int (1 : Int32)), .val (.int fr.toInt32), .val (.int (0 : Int32))] [(.int (if (own_cm cm (P 0)) < ce then (0 : Int32) else 1)), (.ref a)])) _
        refine X72.putfieldN (pc' := 220) (v' := (.int (nar .boolean (if (own_cm cm (P 0)) < ce then (0 : Int32) else 1)))) (wd_84 hw) Via.refl FpairsCheck_a_58 E_a_58 (Or.inr ⟨(wd_85 hw), rfl, rfl⟩) (wd_12 hw) (ty := .boolean) (by decide) rfl (fits_nar_bool _) d7_217 rfl (Or.inl (by simp)) (fun T74 h74 X74 W74 => ?_)
        have Fw74 := Fld.same W74 FpairsCheck_a_58
        have E_a_74 := Exa.wr W74 E_a_58
        have Fw2_74 := Fld.other W74 Fw2_58 (Or.inr (slot_ne (Or.inr (wd_36 hw)) (Or.inr (wd_85 hw)) (by decide) (t := .int) (t' := .boolean) (by decide) (by decide)))
        have Fw4_74 := Fld.other W74 Fw4_58 (Or.inr (slot_ne (Or.inr (wd_38 hw)) (Or.inr (wd_85 hw)) (by decide) (t := .int) (t' := .boolean) (by decide) (by decide)))
        have Fw8_74 := Fld.other W74 Fw8_58 (Or.inr (slot_ne (Or.inr (wd_68 hw)) (Or.inr (wd_85 hw)) (by decide) (t := (.object "java/lang/String")) (t' := .boolean) (by decide) (by decide)))
        have Fw11_74 := Fld.other W74 Fw11_58 (Or.inr (slot_ne (Or.inr (wd_70 hw)) (Or.inr (wd_85 hw)) (by decide) (t := (.object "java/lang/String")) (t' := .boolean) (by decide) (by decide)))
        have Fw45_74 := Fld.other W74 Fw45_58 (Or.inr (slot_ne (Or.inr (wd_72 hw)) (Or.inr (wd_85 hw)) (by decide) (t := .boolean) (t' := .boolean) (by decide) (by decide)))
        have Fw47_74 := Fld.other W74 Fw47_58 (Or.inr (slot_ne (Or.inr (wd_74 hw)) (Or.inr (wd_85 hw)) (by decide) (t := .boolean) (t' := .boolean) (by decide) (by decide)))
        have Fw49_74 := Fld.other W74 Fw49_58 (Or.inr (slot_ne (Or.inr (wd_79 hw)) (Or.inr (wd_85 hw)) (by decide) (t := .boolean) (t' := .boolean) (by decide) (by decide)))
        have Fw54_74 := Fld.other W74 Fw54_58 (Or.inr (slot_ne (Or.inr (wd_81 hw)) (Or.inr (wd_85 hw)) (by decide) (t := .boolean) (t' := .boolean) (by decide) (by decide)))
        have Fw58_74 := Fld.other W74 Fw58 (Or.inr (slot_ne (Or.inr (wd_83 hw)) (Or.inr (wd_85 hw)) (by decide) (t := .boolean) (t' := .boolean) (by decide) (by decide)))
        have Sm_74 := Sta.wr W74 Sm_58
        have Vm_74 := Vm_58.other W74 hnc
        have Sc_74 := Sta.wr W74 Sc_58
        have Sf_74 := Sta.wr W74 Sf_58
        have Vp_74 := Vp_58.other W74 hne
        have Se_74 := Sta.wr W74 Se_58
        have A5_74 := Exa.wr W74 A5_58
        have A9_74 := Exa.wr W74 A9_58
        exact X74.vreturn rfl d7_220 (by decide) (by decide) ⟨rfl, _, _, E_a_74, Fw2_74, Fw4_74, Fw58_74, Fw74, own_nb _, own_nb _⟩
set_option maxRecDepth 65536 in
set_option maxHeartbeats 40000000 in
theorem ctT (l : Launch) (Z : State) (a0 : Array Value) (hw : ∀ d ∈ tables_1, d.before a0 Z = true) (a : Addr) (pa cma : Addr) (cm P : Nat → Int32) (n fr a1 c1 : Nat) (fov : Value) (cz ce : Int32) (h0 : Heap) (E_a : Exa Z h0 a "com/example/rummage/rummage/SeekPlan") (Fanchor_a : Fld Z h0 a "com/example/rummage/rummage/SeekPlan" "anchor" "I" (.int (0 : Int32))) (Fcheck_a : Fld Z h0 a "com/example/rummage/rummage/SeekPlan" "check" "I" (.int (0 : Int32))) (FcheckedAlone_a : Fld Z h0 a "com/example/rummage/rummage/SeekPlan" "checkedAlone" "Ljava/lang/String;" .null) (Fsought_a : Fld Z h0 a "com/example/rummage/rummage/SeekPlan" "sought" "Ljava/lang/String;" .null) (FfoundCoversChecks_a : Fld Z h0 a "com/example/rummage/rummage/SeekPlan" "foundCoversChecks" "Z" (.int (0 : Int32))) (FseeksWhole_a : Fld Z h0 a "com/example/rummage/rummage/SeekPlan" "seeksWhole" "Z" (.int (0 : Int32))) (FleadRecurs_a : Fld Z h0 a "com/example/rummage/rummage/SeekPlan" "leadRecurs" "Z" (.int (0 : Int32))) (FcheckIsRarer_a : Fld Z h0 a "com/example/rummage/rummage/SeekPlan" "checkIsRarer" "Z" (.int (0 : Int32))) (FfirstIsRarer_a : Fld Z h0 a "com/example/rummage/rummage/SeekPlan" "firstIsRarer" "Z" (.int (0 : Int32))) (FpairsCheck_a : Fld Z h0 a "com/example/rummage/rummage/SeekPlan" "pairsCheck" "Z" (.int (0 : Int32))) (Sm : Sta Z h0 "com/example/rummage/rummage/SeekPlan" "COMMONNESS" "[B" (.ref cma)) (Vm : Lst Z h0 cma .byte (own_tn 128 cm)) (Vp : Lst Z h0 pa .int (own_tn n P)) (hn : 0 < n) (hN : n < 2147483648) (hP : ∀ t, t < n → 0 ≤ (P t).toInt ∧ (P t).toInt ≤ 255) (Sc : Sta Z h0 "java/lang/String" "COMPACT_STRINGS" "Z" (.int cz)) (hcz : cz ≠ (0 : Int32)) (Sf : Sta Z h0 "jdk/internal/util/Preconditions" "SIOOBE_FORMATTER" "Ljava/util/function/BiFunction;" fov) (hfo : fov = .null ∨ ∃ q, fov = .ref q) (Se : Sta Z h0 "com/example/rummage/rummage/SeekPlan" "COMMONEST" "I" (.int ce)) (hf0 : fr ≤ n) (ha1 : a1 < n) (hc1 : c1 < n) (hA : (own_rs cm P fr (-1) 0 (n - fr)).1 = a1.toInt32) (hc : (own_rs cm P fr a1.toInt32 1 (n - fr)).1 = c1.toInt32) (hne : pa ≠ a) (hnc : cma ≠ a) :
    Ct l Z y4 prog_21_method_2_code 4 none ({ frames := 4, cells := 4, slots := 10, locals := 64 } : Room) #[(.ref a), (.ref pa), (.int (1 : Int32)), (.int fr.toInt32)] h0 [a] (fun v h => v = none ∧ ∃ f1 p1, Exa Z h a "com/example/rummage/rummage/SeekPlan" ∧ Fld Z h a "com/example/rummage/rummage/SeekPlan" "anchor" "I" (.int a1.toInt32) ∧ Fld Z h a "com/example/rummage/rummage/SeekPlan" "check" "I" (.int c1.toInt32) ∧ Fld Z h a "com/example/rummage/rummage/SeekPlan" "firstIsRarer" "Z" (.int f1) ∧ Fld Z h a "com/example/rummage/rummage/SeekPlan" "pairsCheck" "Z" (.int p1) ∧ nar .boolean f1 = f1 ∧ nar .boolean p1 = p1) := by
  refine Ct.of (plainFor_of_name (by first | (simp [plainName, overriddenIn]; done) | decide +kernel)) ?_
  intro p e s m below meth c T0 X0
  refine Runs.top (g' := mkF m 0 #[.val (.ref a), .val (.ref pa), .val (.int (1 : Int32)), .val (.int fr.toInt32)] []) (by first | (simp [entryFrame, mkF, argsToLocals, Value.category]; done) | rfl) ?_
  refine X0.aloadN (pc' := 1) d4_0 rfl rfl rfl ?_
  refine X0.aloadN (pc' := 2) d4_1 rfl rfl rfl ?_
  refine X0.aloadN (pc' := 3) d4_2 rfl rfl rfl ?_
  refine X0.iloadN (pc' := 4) d4_3 rfl rfl ?_
  refine X0.iloadN (pc' := 5) d4_4 rfl rfl ?_
  refine X0.iconst (pc' := 6) (z := -1) d4_5 rfl rfl ?_
  refine X0.iconst (pc' := 7) (z := 0) d4_6 rfl rfl ?_
  refine X0.callS (pc' := 10) (W := 2) (argsL := [(.ref pa), (.int (1 : Int32)), (.int fr.toInt32), (.int (-1 : Int32)), (.int (0 : Int32))]) (rest := [(.ref pa), (.ref a)]) (ct5 l Z a0 hw pa cma cm P n fr (-1 : Int32) (0 : Int32) h0 Sm Vm Vp hn hN hP hf0) (wd_20 hw) (wd_21 hw) (wd_9 hw) (wd_22 hw) (by decide) pd_5 rfl rfl rfl rfl d4_7 rfl (by decide) rfl (by decide) (by decide) (by decide) allWs0 (fun T1 h1 v1 X1 K1 Q1 => ?_)
  have E_a_1 := E_a.keep K1
  have Fanchor_a_1 := Fanchor_a.keep K1 nin0
  have Fcheck_a_1 := Fcheck_a.keep K1 nin0
  have FcheckedAlone_a_1 := FcheckedAlone_a.keep K1 nin0
  have Fsought_a_1 := Fsought_a.keep K1 nin0
  have FfoundCoversChecks_a_1 := FfoundCoversChecks_a.keep K1 nin0
  have FseeksWhole_a_1 := FseeksWhole_a.keep K1 nin0
  have FleadRecurs_a_1 := FleadRecurs_a.keep K1 nin0
  have FcheckIsRarer_a_1 := FcheckIsRarer_a.keep K1 nin0
  have FfirstIsRarer_a_1 := FfirstIsRarer_a.keep K1 nin0
  have FpairsCheck_a_1 := FpairsCheck_a.keep K1 nin0
  have Sm_1 := sta_keep0 Sm K1
  have Vm_1 := Vm.keep K1 nin0
  have Sc_1 := sta_keep0 Sc K1
  have Sf_1 := sta_keep0 Sf K1
  have Vp_1 := Vp.keep K1 nin0
  have Se_1 := sta_keep0 Se K1
  rw [show own_rs cm P fr (-1) 0 (n - fr) = own_rs cm P fr (-1 : Int32) (0 : Int32) (n - fr) from rfl, hA] at Q1
  obtain rfl := Q1
  show Runs p e below (T1.setTop (mkF m 10 #[.val (.ref a), .val (.ref pa), .val (.int (1 : Int32)), .val (.int fr.toInt32)] [(.int a1.toInt32), (.ref pa), (.ref a)])) _
  refine X1.iloadN (pc' := 11) d4_10 rfl rfl ?_
  refine X1.iloadN (pc' := 12) d4_11 rfl rfl ?_
  refine X1.special (pc' := 15) (W := 0) (a := a) (argsL := [(.ref pa), (.int a1.toInt32), (.int (1 : Int32)), (.int fr.toInt32)]) (rest := []) (ctQ l Z a0 hw a pa cma cm P n fr a1 c1 fov cz ce h1 E_a_1 Fanchor_a_1 Fcheck_a_1 FcheckedAlone_a_1 Fsought_a_1 FfoundCoversChecks_a_1 FseeksWhole_a_1 FleadRecurs_a_1 FcheckIsRarer_a_1 FfirstIsRarer_a_1 FpairsCheck_a_1 Sm_1 Vm_1 Vp_1 hn hN hP Sc_1 hcz Sf_1 hfo Se_1 hf0 ha1 hc1 hc hne hnc) rfl (wd_29 hw) (wd_30 hw) (wd_9 hw) (wd_31 hw) (by decide) pd_8 rfl rfl rfl rfl d4_12 rfl (by decide) rfl (by decide) (by decide) (by decide) ((allS (Or.inl (by simp)) all0)) (fun T2 h2 v2 X2 K2 Q2 => ?_)
  have E_a_2 := E_a_1.keep K2
  have Sm_2 := sta_keepL Sm_1 K2 (exaS E_a_1 exa0)
  have Vm_2 := Vm_1.keep K2 (ninS hnc nin0)
  have Sc_2 := sta_keepL Sc_1 K2 (exaS E_a_1 exa0)
  have Sf_2 := sta_keepL Sf_1 K2 (exaS E_a_1 exa0)
  have Vp_2 := Vp_1.keep K2 (ninS hne nin0)
  have Se_2 := sta_keepL Se_1 K2 (exaS E_a_1 exa0)
  obtain ⟨rfl, f1, p1, QQ⟩ := Q2
  show Runs p e below (T2.setTop (mkF m 15 #[.val (.ref a), .val (.ref pa), .val (.int (1 : Int32)), .val (.int fr.toInt32)] [])) _
  exact X2.vreturn rfl d4_15 (by decide) (by decide) ⟨rfl, f1, p1, QQ⟩
theorem own_m1 {n : Nat} (hn : 0 < n) (hN : n < 2147483648) : ¬ n.toInt32 < (1 : Int32) := by
  rw [Int32.lt_iff_toInt_lt, own_i32 hN, show (1 : Int32).toInt = 1 from rfl]; omega
theorem own_fr {n fr : Nat} (hN : n < 2147483648) (h : fr = if 1 < n then 1 else 0) : (if (1 : Int32) < n.toInt32 then (1 : Int32) else 0) = fr.toInt32 := by
  have q : (1 : Int32) < n.toInt32 ↔ 1 < n := by rw [Int32.lt_iff_toInt_lt, own_i32 hN, show (1 : Int32).toInt = 1 from rfl]; omega
  by_cases hq : 1 < n
  · rw [if_pos (q.mpr hq), h, if_pos hq]; rfl
  · rw [if_neg (fun z => hq (q.mp z)), h, if_neg hq]; rfl

set_option maxRecDepth 65536 in
set_option maxHeartbeats 40000000 in
theorem ctN (l : Launch) (Z : State) (a0 : Array Value) (hw : ∀ d ∈ tables_1, d.before a0 Z = true) (n : Nat) (h0 : Heap) (hn : 0 < n) (hN : n < 2147483648) :
    Ct l Z y3 jdk_29_method_69_code 2 (some .int) ({ frames := 0, cells := 0, slots := 0, locals := 0 } : Room) #[(.int (1 : Int32)), (.int n.toInt32)] h0 [] (fun v h => v = some (.int (1 : Int32)) ∧ h0 = h) := by
  refine Ct.of (Jvm.Free.JP.mathPlain rfl (by decide +kernel)) ?_
  intro p e s m below meth c T0 X0
  refine Runs.top (g' := mkF m 0 #[.val (.int (1 : Int32)), .val (.int n.toInt32)] []) (by first | (simp [entryFrame, mkF, argsToLocals, Value.category]; done) | rfl) ?_
  refine X0.iloadN (pc' := 1) d3_0 rfl rfl ?_
  refine X0.iloadN (pc' := 2) d3_1 rfl rfl ?_
  refine X0.icmpNo (pc' := 5) d3_2 (flt (own_m1 hn hN)).2.2.1 rfl ?_
  refine X0.iloadN (pc' := 6) d3_5 rfl rfl ?_
  refine X0.goto (pc' := 10) d3_6 (by decide) (by decide) ?_
  exact X0.ireturn rfl d3_10 (by decide) (by decide) ⟨rfl, rfl⟩
set_option maxRecDepth 65536 in
set_option maxHeartbeats 40000000 in
theorem ctW (l : Launch) (Z : State) (a0 : Array Value) (hw : ∀ d ∈ tables_1, d.before a0 Z = true) (pa cma : Addr) (cm P : Nat → Int32) (n fr a1 c1 : Nat) (fov : Value) (cz ce : Int32) (h0 : Heap) (Sm : Sta Z h0 "com/example/rummage/rummage/SeekPlan" "COMMONNESS" "[B" (.ref cma)) (Vm : Lst Z h0 cma .byte (own_tn 128 cm)) (Vp : Lst Z h0 pa .int (own_tn n P)) (hn : 0 < n) (hN : n < 2147483648) (hP : ∀ t, t < n → 0 ≤ (P t).toInt ∧ (P t).toInt ≤ 255) (Sc : Sta Z h0 "java/lang/String" "COMPACT_STRINGS" "Z" (.int cz)) (hcz : cz ≠ (0 : Int32)) (Sf : Sta Z h0 "jdk/internal/util/Preconditions" "SIOOBE_FORMATTER" "Ljava/util/function/BiFunction;" fov) (hfo : fov = .null ∨ ∃ q, fov = .ref q) (Se : Sta Z h0 "com/example/rummage/rummage/SeekPlan" "COMMONEST" "I" (.int ce)) (hf0 : fr ≤ n) (ha1 : a1 < n) (hc1 : c1 < n) (hA : (own_rs cm P fr (-1) 0 (n - fr)).1 = a1.toInt32) (hc : (own_rs cm P fr a1.toInt32 1 (n - fr)).1 = c1.toInt32) (hfr : fr = if 1 < n then 1 else 0) :
    Ct l Z y2 prog_21_method_6_code 1 (some (.object "com/example/rummage/rummage/SeekPlan")) ({ frames := 5, cells := 5, slots := 20, locals := 80 } : Room) #[(.ref pa)] h0 [] (fun v h => ∃ b, v = some (.ref b) ∧ h0.size ≤ b ∧ ∃ f1 p1, Exa Z h b "com/example/rummage/rummage/SeekPlan" ∧ Fld Z h b "com/example/rummage/rummage/SeekPlan" "anchor" "I" (.int a1.toInt32) ∧ Fld Z h b "com/example/rummage/rummage/SeekPlan" "check" "I" (.int c1.toInt32) ∧ Fld Z h b "com/example/rummage/rummage/SeekPlan" "firstIsRarer" "Z" (.int f1) ∧ Fld Z h b "com/example/rummage/rummage/SeekPlan" "pairsCheck" "Z" (.int p1) ∧ nar .boolean f1 = f1 ∧ nar .boolean p1 = p1) := by
  refine Ct.of (plainFor_of_name (by first | (simp [plainName, overriddenIn]; done) | decide +kernel)) ?_
  intro p e s m below meth c T0 X0
  refine Runs.top (g' := mkF m 0 #[.val (.ref pa)] []) (by first | (simp [entryFrame, mkF, argsToLocals, Value.category]; done) | rfl) ?_
  refine X0.new (pc' := 3) (wd_11 hw) (wd_12 hw) (wd_9 hw) d2_0 rfl (by decide) (by decide) (fun T1 h1 b1 X1 g1 E1 A1 D1 => ?_)
  have sz_b1 : h0.size ≤ b1 := g1 ▸ X0.size
  have ne_cma_b1 : cma ≠ b1 := Nat.ne_of_lt (g1 ▸ Vm.lt)
  have ne_pa_b1 : pa ≠ b1 := Nat.ne_of_lt (g1 ▸ Vp.lt)
  have Sm_1 := Sta.ext E1 Sm
  have Vm_1 := Vm.ext E1
  have Sc_1 := Sta.ext E1 Sc
  have Sf_1 := Sta.ext E1 Sf
  have Vp_1 := Vp.ext E1
  have Se_1 := Sta.ext E1 Se
  have Fanchor_b1 : Fld Z h1 b1 "com/example/rummage/rummage/SeekPlan" "anchor" "I" (.int (0 : Int32)) := D1 (Or.inr (wd_36 hw)) (ty := .int) (by decide)
  have Fcheck_b1 : Fld Z h1 b1 "com/example/rummage/rummage/SeekPlan" "check" "I" (.int (0 : Int32)) := D1 (Or.inr (wd_38 hw)) (ty := .int) (by decide)
  have FcheckedAlone_b1 : Fld Z h1 b1 "com/example/rummage/rummage/SeekPlan" "checkedAlone" "Ljava/lang/String;" .null := D1 (Or.inr (wd_68 hw)) (ty := (.object "java/lang/String")) (by decide)
  have Fsought_b1 : Fld Z h1 b1 "com/example/rummage/rummage/SeekPlan" "sought" "Ljava/lang/String;" .null := D1 (Or.inr (wd_70 hw)) (ty := (.object "java/lang/String")) (by decide)
  have FfoundCoversChecks_b1 : Fld Z h1 b1 "com/example/rummage/rummage/SeekPlan" "foundCoversChecks" "Z" (.int (0 : Int32)) := D1 (Or.inr (wd_72 hw)) (ty := .boolean) (by decide)
  have FseeksWhole_b1 : Fld Z h1 b1 "com/example/rummage/rummage/SeekPlan" "seeksWhole" "Z" (.int (0 : Int32)) := D1 (Or.inr (wd_74 hw)) (ty := .boolean) (by decide)
  have FleadRecurs_b1 : Fld Z h1 b1 "com/example/rummage/rummage/SeekPlan" "leadRecurs" "Z" (.int (0 : Int32)) := D1 (Or.inr (wd_79 hw)) (ty := .boolean) (by decide)
  have FcheckIsRarer_b1 : Fld Z h1 b1 "com/example/rummage/rummage/SeekPlan" "checkIsRarer" "Z" (.int (0 : Int32)) := D1 (Or.inr (wd_81 hw)) (ty := .boolean) (by decide)
  have FfirstIsRarer_b1 : Fld Z h1 b1 "com/example/rummage/rummage/SeekPlan" "firstIsRarer" "Z" (.int (0 : Int32)) := D1 (Or.inr (wd_83 hw)) (ty := .boolean) (by decide)
  have FpairsCheck_b1 : Fld Z h1 b1 "com/example/rummage/rummage/SeekPlan" "pairsCheck" "Z" (.int (0 : Int32)) := D1 (Or.inr (wd_85 hw)) (ty := .boolean) (by decide)
  refine X1.dup (pc' := 4) d2_3 rfl rfl ?_
  refine X1.aloadN (pc' := 5) d2_4 rfl rfl rfl ?_
  refine X1.iconst (pc' := 6) (z := 1) d2_5 rfl rfl ?_
  refine X1.aloadN (pc' := 7) d2_6 rfl rfl rfl ?_
  refine X1.arraylength (pc' := 8) (n := n.toInt32) Vp_1 (by rw [own_tn_len]) d2_7 rfl ?_
  refine X1.callS (pc' := 11) (W := 3) (argsL := [(.int (1 : Int32)), (.int n.toInt32)]) (rest := [(.ref pa), (.ref b1), (.ref b1)]) (ctN l Z a0 hw n h1 hn hN) (wd_13 hw) (wd_14 hw) (wd_15 hw) (wd_16 hw) (by decide) pd_9 rfl rfl rfl rfl d2_8 rfl (by decide) rfl (by decide) (by decide) (by decide) allWs0 (fun T2 h2 v2 X2 K2 Q2 => ?_)
  obtain ⟨rfl, rfl⟩ := Q2
  show Runs p e below (T2.setTop (mkF m 11 #[.val (.ref pa)] [(.int (1 : Int32)), (.ref pa), (.ref b1), (.ref b1)])) _
  refine X2.aloadN (pc' := 12) d2_11 rfl rfl rfl ?_
  refine X2.arraylength (pc' := 13) (n := n.toInt32) Vp_1 (by rw [own_tn_len]) d2_12 rfl ?_
  refine X2.iconst (pc' := 14) (z := 1) d2_13 rfl rfl ?_
  refine Runs.dia (P := (1 : Int32) < n.toInt32) (B := fun zq : Int32 => T2.setTop (mkF m 22 #[.val (.ref pa)] (.int zq :: [(.int (1 : Int32)), (.ref pa), (.ref b1), (.ref b1)]))) (vt := 1) (vf := 0) (fun hc3 k => ?_) (fun hc3 k => ?_) ?_
  · refine X2.icmpNo (pc' := 17) d2_14 (tlt hc3).2.2.2 rfl ?_
    refine X2.iconst (pc' := 18) (z := 1) d2_17 rfl rfl ?_
    refine X2.goto (pc' := 22) d2_18 (by decide) (by decide) ?_
    exact k
  · refine X2.icmpYes (pc' := 21) d2_14 (flt hc3).2.2.2 (by decide) (by decide) ?_
    refine X2.iconst (pc' := 22) (z := 0) d2_21 rfl rfl ?_
    exact k
  show Runs p e below (T2.setTop (mkF m 22 #[.val (.ref pa)] [(.int (if (1 : Int32) < n.toInt32 then (1 : Int32) else 0)), (.int (1 : Int32)), (.ref pa), (.ref b1), (.ref b1)])) _
  rw [own_fr hN hfr]
  refine X2.special (pc' := 25) (W := 1) (a := b1) (argsL := [(.ref pa), (.int (1 : Int32)), (.int fr.toInt32)]) (rest := [(.ref b1)]) (ctT l Z a0 hw b1 pa cma cm P n fr a1 c1 fov cz ce h1 A1 Fanchor_b1 Fcheck_b1 FcheckedAlone_b1 Fsought_b1 FfoundCoversChecks_b1 FseeksWhole_b1 FleadRecurs_b1 FcheckIsRarer_b1 FfirstIsRarer_b1 FpairsCheck_b1 Sm_1 Vm_1 Vp_1 hn hN hP Sc_1 hcz Sf_1 hfo Se_1 hf0 ha1 hc1 hA hc ne_pa_b1 ne_cma_b1) rfl (wd_17 hw) (wd_18 hw) (wd_9 hw) (wd_19 hw) (by decide) pd_6 rfl rfl rfl rfl d2_22 rfl (by decide) rfl (by decide) (by decide) (by decide) ((allS (Or.inr sz_b1) all0)) (fun T4 h4 v4 X4 K4 Q4 => ?_)
  have Sm_4 := sta_keepL Sm_1 K4 (exaS A1 exa0)
  have Vm_4 := Vm_1.keep K4 (ninS ne_cma_b1 nin0)
  have Sc_4 := sta_keepL Sc_1 K4 (exaS A1 exa0)
  have Sf_4 := sta_keepL Sf_1 K4 (exaS A1 exa0)
  have Vp_4 := Vp_1.keep K4 (ninS ne_pa_b1 nin0)
  have Se_4 := sta_keepL Se_1 K4 (exaS A1 exa0)
  have A1_4 := A1.keep K4
  obtain ⟨rfl, f1, p1, QQ⟩ := Q4
  show Runs p e below (T4.setTop (mkF m 25 #[.val (.ref pa)] [(.ref b1)])) _
  exact X4.areturn rfl rfl rfl rfl d2_25 (by decide) (by decide) ⟨_, rfl, sz_b1, f1, p1, QQ⟩
set_option maxRecDepth 65536 in
set_option maxHeartbeats 40000000 in
theorem ctg_anchor (l : Launch) (Z : State) (a0 : Array Value) (hw : ∀ d ∈ tables_1, d.before a0 Z = true) (a : Addr) (v1 : Int32) (h0 : Heap) (F : Fld Z h0 a "com/example/rummage/rummage/SeekPlan" "anchor" "I" (.int v1)) :
    Ct l Z y15 prog_21_method_9_code 1 (some .int) ({ frames := 0, cells := 0, slots := 0, locals := 0 } : Room) #[(.ref a)] h0 [] (fun v h => v = some (.int v1) ∧ h0 = h) := by
  refine Ct.of (plainFor_of_name (by first | (simp [plainName, overriddenIn]; done) | decide +kernel)) ?_
  intro p e s m below meth c T0 X0
  refine Runs.top (g' := mkF m 0 #[.val (.ref a)] []) (by first | (simp [entryFrame, mkF, argsToLocals, Value.category]; done) | rfl) ?_
  refine X0.aloadN (pc' := 1) d15_0 rfl rfl rfl ?_
  refine X0.getfield (pc' := 4) (host := "") (Or.inl (wd_35 hw)) Via.refl F d15_1 rfl (fun T1 X1 => ?_)
  exact X1.ireturn rfl d15_4 (by decide) (by decide) ⟨rfl, rfl⟩
set_option maxRecDepth 65536 in
set_option maxHeartbeats 40000000 in
theorem ctg_check (l : Launch) (Z : State) (a0 : Array Value) (hw : ∀ d ∈ tables_1, d.before a0 Z = true) (a : Addr) (v1 : Int32) (h0 : Heap) (F : Fld Z h0 a "com/example/rummage/rummage/SeekPlan" "check" "I" (.int v1)) :
    Ct l Z y16 prog_21_method_10_code 1 (some .int) ({ frames := 0, cells := 0, slots := 0, locals := 0 } : Room) #[(.ref a)] h0 [] (fun v h => v = some (.int v1) ∧ h0 = h) := by
  refine Ct.of (plainFor_of_name (by first | (simp [plainName, overriddenIn]; done) | decide +kernel)) ?_
  intro p e s m below meth c T0 X0
  refine Runs.top (g' := mkF m 0 #[.val (.ref a)] []) (by first | (simp [entryFrame, mkF, argsToLocals, Value.category]; done) | rfl) ?_
  refine X0.aloadN (pc' := 1) d16_0 rfl rfl rfl ?_
  refine X0.getfield (pc' := 4) (host := "") (Or.inl (wd_37 hw)) Via.refl F d16_1 rfl (fun T1 X1 => ?_)
  exact X1.ireturn rfl d16_4 (by decide) (by decide) ⟨rfl, rfl⟩
set_option maxRecDepth 65536 in
set_option maxHeartbeats 40000000 in
theorem ctg_firstIsRarer (l : Launch) (Z : State) (a0 : Array Value) (hw : ∀ d ∈ tables_1, d.before a0 Z = true) (a : Addr) (v1 : Int32) (h0 : Heap) (F : Fld Z h0 a "com/example/rummage/rummage/SeekPlan" "firstIsRarer" "Z" (.int v1)) (hz : nar .boolean v1 = v1) :
    Ct l Z y18 prog_21_method_16_code 1 (some .boolean) ({ frames := 0, cells := 0, slots := 0, locals := 0 } : Room) #[(.ref a)] h0 [] (fun v h => v = some (.int v1) ∧ h0 = h) := by
  refine Ct.of (plainFor_of_name (by first | (simp [plainName, overriddenIn]; done) | decide +kernel)) ?_
  intro p e s m below meth c T0 X0
  refine Runs.top (g' := mkF m 0 #[.val (.ref a)] []) (by first | (simp [entryFrame, mkF, argsToLocals, Value.category]; done) | rfl) ?_
  refine X0.aloadN (pc' := 1) d18_0 rfl rfl rfl ?_
  refine X0.getfield (pc' := 4) (host := "") (Or.inl (wd_82 hw)) Via.refl F d18_1 rfl (fun T1 X1 => ?_)
  exact X1.zreturn rfl (by simp) d18_4 hz (by decide) (by decide) ⟨rfl, rfl⟩
set_option maxRecDepth 65536 in
set_option maxHeartbeats 40000000 in
theorem ctg_pairsCheck (l : Launch) (Z : State) (a0 : Array Value) (hw : ∀ d ∈ tables_1, d.before a0 Z = true) (a : Addr) (v1 : Int32) (h0 : Heap) (F : Fld Z h0 a "com/example/rummage/rummage/SeekPlan" "pairsCheck" "Z" (.int v1)) (hz : nar .boolean v1 = v1) :
    Ct l Z y19 prog_21_method_17_code 1 (some .boolean) ({ frames := 0, cells := 0, slots := 0, locals := 0 } : Room) #[(.ref a)] h0 [] (fun v h => v = some (.int v1) ∧ h0 = h) := by
  refine Ct.of (plainFor_of_name (by first | (simp [plainName, overriddenIn]; done) | decide +kernel)) ?_
  intro p e s m below meth c T0 X0
  refine Runs.top (g' := mkF m 0 #[.val (.ref a)] []) (by first | (simp [entryFrame, mkF, argsToLocals, Value.category]; done) | rfl) ?_
  refine X0.aloadN (pc' := 1) d19_0 rfl rfl rfl ?_
  refine X0.getfield (pc' := 4) (host := "") (Or.inl (wd_84 hw)) Via.refl F d19_1 rfl (fun T1 X1 => ?_)
  exact X1.zreturn rfl (by simp) d19_4 hz (by decide) (by decide) ⟨rfl, rfl⟩
set_option maxRecDepth 65536 in
set_option maxHeartbeats 40000000 in
theorem ctK (l : Launch) (Z : State) (a0 : Array Value) (hw : ∀ d ∈ tables_1, d.before a0 Z = true) (a : Addr) (pa cma : Addr) (cm P : Nat → Int32) (n fr a1 c1 : Nat) (fov : Value) (cz ce : Int32) (h0 : Heap) (E_a : Exa Z h0 a "com/example/rummage/rummage/CharSeek") (Fpattern_a : Fld Z h0 a "com/example/rummage/rummage/CharSeek" "pattern" "[I" .null) (Flength_a : Fld Z h0 a "com/example/rummage/rummage/CharSeek" "length" "I" (.int (0 : Int32))) (Flead_a : Fld Z h0 a "com/example/rummage/rummage/CharSeek" "lead" "I" (.int (0 : Int32))) (Fbeside_a : Fld Z h0 a "com/example/rummage/rummage/CharSeek" "beside" "I" (.int (0 : Int32))) (Fcheck_a : Fld Z h0 a "com/example/rummage/rummage/CharSeek" "check" "I" (.int (0 : Int32))) (Fpaired_a : Fld Z h0 a "com/example/rummage/rummage/CharSeek" "paired" "Z" (.int (0 : Int32))) (FleadSymbol_a : Fld Z h0 a "com/example/rummage/rummage/CharSeek" "leadSymbol" "C" (.int (0 : Int32))) (FbesideSymbol_a : Fld Z h0 a "com/example/rummage/rummage/CharSeek" "besideSymbol" "C" (.int (0 : Int32))) (Fchecked_a : Fld Z h0 a "com/example/rummage/rummage/CharSeek" "checked" "C" (.int (0 : Int32))) (FchecksWhole_a : Fld Z h0 a "com/example/rummage/rummage/CharSeek" "checksWhole" "Z" (.int (0 : Int32))) (Sm : Sta Z h0 "com/example/rummage/rummage/SeekPlan" "COMMONNESS" "[B" (.ref cma)) (Vm : Lst Z h0 cma .byte (own_tn 128 cm)) (Vp : Lst Z h0 pa .int (own_tn n P)) (hn : 0 < n) (hN : n < 2147483648) (hP : ∀ t, t < n → 0 ≤ (P t).toInt ∧ (P t).toInt ≤ 255) (Sc : Sta Z h0 "java/lang/String" "COMPACT_STRINGS" "Z" (.int cz)) (hcz : cz ≠ (0 : Int32)) (Sf : Sta Z h0 "jdk/internal/util/Preconditions" "SIOOBE_FORMATTER" "Ljava/util/function/BiFunction;" fov) (hfo : fov = .null ∨ ∃ q, fov = .ref q) (Se : Sta Z h0 "com/example/rummage/rummage/SeekPlan" "COMMONEST" "I" (.int ce)) (hf0 : fr ≤ n) (ha1 : a1 < n) (hc1 : c1 < n) (hA : (own_rs cm P fr (-1) 0 (n - fr)).1 = a1.toInt32) (hc : (own_rs cm P fr a1.toInt32 1 (n - fr)).1 = c1.toInt32) (hfr : fr = if 1 < n then 1 else 0) (hn6 : n < 7) (hne : pa ≠ a) (hnc : cma ≠ a) :
    Ct l Z y17 prog_7_method_1_code 5 none ({ frames := 6, cells := 5, slots := 20, locals := 92 } : Room) #[(.ref a), (.ref pa)] h0 [a] (fun v h => v = none ∧ ∃ cw, Exa Z h a "com/example/rummage/rummage/CharSeek" ∧ Fld Z h a "com/example/rummage/rummage/CharSeek" "checksWhole" "Z" (.int cw) ∧ Fld Z h a "com/example/rummage/rummage/CharSeek" "length" "I" (.int n.toInt32) ∧ Fld Z h a "com/example/rummage/rummage/CharSeek" "pattern" "[I" (.ref pa) ∧ (¬ cw = 0 → ∀ t, t < n → t = 0 ∨ t = a1 ∨ t = c1)) := by
  refine Ct.of (plainFor_of_name (by first | (simp [plainName, overriddenIn]; done) | decide +kernel)) ?_
  intro p e s m below meth c T0 X0
  refine Runs.top (g' := mkF m 0 #[.val (.ref a), .val (.ref pa), .unset, .unset, .unset] []) (by first | (simp [entryFrame, mkF, argsToLocals, Value.category]; done) | rfl) ?_
  refine X0.aloadN (pc' := 1) d17_0 rfl rfl rfl ?_
  refine X0.initObj (pc' := 4) (W := 0) (wd_102 hw) (wd_33 hw) (wd_34 hw) rfl d17_1 rfl (by decide) rfl (by decide) (fun T1 X1 => ?_)
  refine X1.aloadN (pc' := 5) d17_4 rfl rfl rfl ?_
  refine X1.callS (pc' := 8) (W := 0) (argsL := [(.ref pa)]) (rest := []) (ctW l Z a0 hw pa cma cm P n fr a1 c1 fov cz ce h0 Sm Vm Vp hn hN hP Sc hcz Sf hfo Se hf0 ha1 hc1 hA hc hfr) (wd_103 hw) (wd_8 hw) (wd_9 hw) (wd_10 hw) (by decide) pd_10 rfl rfl rfl rfl d17_5 rfl (by decide) rfl (by decide) (by decide) (by decide) allWs0 (fun T2 h2 v2 X2 K2 Q2 => ?_)
  have E_a_2 := E_a.keep K2
  have Fpattern_a_2 := Fpattern_a.keep K2 nin0
  have Flength_a_2 := Flength_a.keep K2 nin0
  have Flead_a_2 := Flead_a.keep K2 nin0
  have Fbeside_a_2 := Fbeside_a.keep K2 nin0
  have Fcheck_a_2 := Fcheck_a.keep K2 nin0
  have Fpaired_a_2 := Fpaired_a.keep K2 nin0
  have FleadSymbol_a_2 := FleadSymbol_a.keep K2 nin0
  have FbesideSymbol_a_2 := FbesideSymbol_a.keep K2 nin0
  have Fchecked_a_2 := Fchecked_a.keep K2 nin0
  have FchecksWhole_a_2 := FchecksWhole_a.keep K2 nin0
  have Sm_2 := sta_keep0 Sm K2
  have Vm_2 := Vm.keep K2 nin0
  have Sc_2 := sta_keep0 Sc K2
  have Sf_2 := sta_keep0 Sf K2
  have Vp_2 := Vp.keep K2 nin0
  have Se_2 := sta_keep0 Se K2
  obtain ⟨sp, rfl, szs, f1, p1, Es, Fan, Fch, Ffi, Fpc, z1, z2⟩ := Q2
  have sz_sp : h0.size ≤ sp := Nat.le_trans X1.size szs
  have ne_a_sp : a ≠ sp := Nat.ne_of_lt (Nat.lt_of_lt_of_le E_a.lt szs)
  have ne_cma_sp : cma ≠ sp := Nat.ne_of_lt (Nat.lt_of_lt_of_le Vm.lt szs)
  have ne_pa_sp : pa ≠ sp := Nat.ne_of_lt (Nat.lt_of_lt_of_le Vp.lt szs)
  show Runs p e below (T2.setTop (mkF m 8 #[.val (.ref a), .val (.ref pa), .unset, .unset, .unset] [(.ref sp)])) _
  refine X2.astoreN (pc' := 9) (l' := #[.val (.ref a), .val (.ref pa), .val (.ref sp), .unset, .unset]) d17_8 rfl rfl rfl ?_
  refine X2.aloadN (pc' := 10) d17_9 rfl rfl rfl ?_
  refine X2.virtual (pc' := 13) (W := 0) (a := sp) (argsL := []) (rest := []) (ctg_anchor l Z a0 hw sp a1.toInt32 h2 Fan) (wd_104 hw) (wd_87 hw) (fun _ q => notFace_of_selects q) (wd_89 hw) (wd_88 hw) (wd_9 hw) (wd_90 hw) (by decide) Es pd_11 rfl rfl rfl rfl d17_10 rfl (by decide) rfl (by decide) (by decide) (by decide) allWs0 (fun T3 h3 v3 X3 K3 Q3 => ?_)
  obtain ⟨rfl, rfl⟩ := Q3
  show Runs p e below (T3.setTop (mkF m 13 #[.val (.ref a), .val (.ref pa), .val (.ref sp), .unset, .unset] [(.int a1.toInt32)])) _
  refine X3.istoreN (pc' := 14) (l' := #[.val (.ref a), .val (.ref pa), .val (.ref sp), .val (.int a1.toInt32), .unset]) d17_13 rfl rfl ?_
  refine X3.aloadN (pc' := 15) d17_14 rfl rfl rfl ?_
  refine X3.aloadN (pc' := 16) d17_15 rfl rfl rfl ?_
  refine X3.putfield (pc' := 19) (host := "") (Or.inl (wd_105 hw)) Via.refl Fpattern_a_2 E_a_2 (Or.inr ⟨(wd_106 hw), rfl, rfl⟩) (wd_97 hw) (ty := (.array .int)) (by decide) rfl rfl d17_16 rfl (Or.inl (by simp)) (fun T4 h4 X4 W4 => ?_)
  have Fw4 := Fld.same W4 Fpattern_a_2
  have E_a_4 := Exa.wr W4 E_a_2
  have Flength_a_4 := Fld.other W4 Flength_a_2 (Or.inr (slot_ne (Or.inr (wd_108 hw)) (Or.inr (wd_106 hw)) (by decide) (t := .int) (t' := (.array .int)) (by decide) (by decide)))
  have Flead_a_4 := Fld.other W4 Flead_a_2 (Or.inr (slot_ne (Or.inr (wd_115 hw)) (Or.inr (wd_106 hw)) (by decide) (t := .int) (t' := (.array .int)) (by decide) (by decide)))
  have Fbeside_a_4 := Fld.other W4 Fbeside_a_2 (Or.inr (slot_ne (Or.inr (wd_117 hw)) (Or.inr (wd_106 hw)) (by decide) (t := .int) (t' := (.array .int)) (by decide) (by decide)))
  have Fcheck_a_4 := Fld.other W4 Fcheck_a_2 (Or.inr (slot_ne (Or.inr (wd_120 hw)) (Or.inr (wd_106 hw)) (by decide) (t := .int) (t' := (.array .int)) (by decide) (by decide)))
  have Fpaired_a_4 := Fld.other W4 Fpaired_a_2 (Or.inr (slot_ne (Or.inr (wd_127 hw)) (Or.inr (wd_106 hw)) (by decide) (t := .boolean) (t' := (.array .int)) (by decide) (by decide)))
  have FleadSymbol_a_4 := Fld.other W4 FleadSymbol_a_2 (Or.inr (slot_ne (Or.inr (wd_129 hw)) (Or.inr (wd_106 hw)) (by decide) (t := .char) (t' := (.array .int)) (by decide) (by decide)))
  have FbesideSymbol_a_4 := Fld.other W4 FbesideSymbol_a_2 (Or.inr (slot_ne (Or.inr (wd_131 hw)) (Or.inr (wd_106 hw)) (by decide) (t := .char) (t' := (.array .int)) (by decide) (by decide)))
  have Fchecked_a_4 := Fld.other W4 Fchecked_a_2 (Or.inr (slot_ne (Or.inr (wd_133 hw)) (Or.inr (wd_106 hw)) (by decide) (t := .char) (t' := (.array .int)) (by decide) (by decide)))
  have FchecksWhole_a_4 := Fld.other W4 FchecksWhole_a_2 (Or.inr (slot_ne (Or.inr (wd_135 hw)) (Or.inr (wd_106 hw)) (by decide) (t := .boolean) (t' := (.array .int)) (by decide) (by decide)))
  have Sm_4 := Sta.wr W4 Sm_2
  have Vm_4 := Vm_2.other W4 hnc
  have Sc_4 := Sta.wr W4 Sc_2
  have Sf_4 := Sta.wr W4 Sf_2
  have Vp_4 := Vp_2.other W4 hne
  have Se_4 := Sta.wr W4 Se_2
  have Es_4 := Exa.wr W4 Es
  have Fan_4 := Fld.other W4 Fan (Or.inl (Ne.symm ne_a_sp))
  have Fch_4 := Fld.other W4 Fch (Or.inl (Ne.symm ne_a_sp))
  have Ffi_4 := Fld.other W4 Ffi (Or.inl (Ne.symm ne_a_sp))
  have Fpc_4 := Fld.other W4 Fpc (Or.inl (Ne.symm ne_a_sp))
  refine X4.aloadN (pc' := 20) d17_19 rfl rfl rfl ?_
  refine X4.aloadN (pc' := 21) d17_20 rfl rfl rfl ?_
  refine X4.arraylength (pc' := 22) (n := n.toInt32) Vp_4 (by rw [own_tn_len]) d17_21 rfl ?_
  refine X4.putfield (pc' := 25) (host := "") (Or.inl (wd_107 hw)) Via.refl Flength_a_4 E_a_4 (Or.inr ⟨(wd_108 hw), rfl, rfl⟩) (wd_97 hw) (ty := .int) (by decide) rfl rfl d17_22 rfl (Or.inl (by simp)) (fun T5 h5 X5 W5 => ?_)
  have Fw5 := Fld.same W5 Flength_a_4
  have E_a_5 := Exa.wr W5 E_a_4
  have Fw4_5 := Fld.other W5 Fw4 (Or.inr (slot_ne (Or.inr (wd_106 hw)) (Or.inr (wd_108 hw)) (by decide) (t := (.array .int)) (t' := .int) (by decide) (by decide)))
  have Flead_a_5 := Fld.other W5 Flead_a_4 (Or.inr (slot_ne (Or.inr (wd_115 hw)) (Or.inr (wd_108 hw)) (by decide) (t := .int) (t' := .int) (by decide) (by decide)))
  have Fbeside_a_5 := Fld.other W5 Fbeside_a_4 (Or.inr (slot_ne (Or.inr (wd_117 hw)) (Or.inr (wd_108 hw)) (by decide) (t := .int) (t' := .int) (by decide) (by decide)))
  have Fcheck_a_5 := Fld.other W5 Fcheck_a_4 (Or.inr (slot_ne (Or.inr (wd_120 hw)) (Or.inr (wd_108 hw)) (by decide) (t := .int) (t' := .int) (by decide) (by decide)))
  have Fpaired_a_5 := Fld.other W5 Fpaired_a_4 (Or.inr (slot_ne (Or.inr (wd_127 hw)) (Or.inr (wd_108 hw)) (by decide) (t := .boolean) (t' := .int) (by decide) (by decide)))
  have FleadSymbol_a_5 := Fld.other W5 FleadSymbol_a_4 (Or.inr (slot_ne (Or.inr (wd_129 hw)) (Or.inr (wd_108 hw)) (by decide) (t := .char) (t' := .int) (by decide) (by decide)))
  have FbesideSymbol_a_5 := Fld.other W5 FbesideSymbol_a_4 (Or.inr (slot_ne (Or.inr (wd_131 hw)) (Or.inr (wd_108 hw)) (by decide) (t := .char) (t' := .int) (by decide) (by decide)))
  have Fchecked_a_5 := Fld.other W5 Fchecked_a_4 (Or.inr (slot_ne (Or.inr (wd_133 hw)) (Or.inr (wd_108 hw)) (by decide) (t := .char) (t' := .int) (by decide) (by decide)))
  have FchecksWhole_a_5 := Fld.other W5 FchecksWhole_a_4 (Or.inr (slot_ne (Or.inr (wd_135 hw)) (Or.inr (wd_108 hw)) (by decide) (t := .boolean) (t' := .int) (by decide) (by decide)))
  have Sm_5 := Sta.wr W5 Sm_4
  have Vm_5 := Vm_4.other W5 hnc
  have Sc_5 := Sta.wr W5 Sc_4
  have Sf_5 := Sta.wr W5 Sf_4
  have Vp_5 := Vp_4.other W5 hne
  have Se_5 := Sta.wr W5 Se_4
  have Es_5 := Exa.wr W5 Es_4
  have Fan_5 := Fld.other W5 Fan_4 (Or.inl (Ne.symm ne_a_sp))
  have Fch_5 := Fld.other W5 Fch_4 (Or.inl (Ne.symm ne_a_sp))
  have Ffi_5 := Fld.other W5 Ffi_4 (Or.inl (Ne.symm ne_a_sp))
  have Fpc_5 := Fld.other W5 Fpc_4 (Or.inl (Ne.symm ne_a_sp))
  refine X5.aloadN (pc' := 26) d17_25 rfl rfl rfl ?_
  refine X5.aloadN (pc' := 27) d17_26 rfl rfl rfl ?_
  refine X5.virtual (pc' := 30) (W := 1) (a := sp) (argsL := []) (rest := [(.ref a)]) (ctg_firstIsRarer l Z a0 hw sp f1 h5 Ffi_5 z1) (wd_109 hw) (wd_110 hw) (fun _ q => notFace_of_selects q) (wd_112 hw) (wd_111 hw) (wd_9 hw) (wd_113 hw) (by decide) Es_5 pd_12 rfl rfl rfl rfl d17_27 rfl (by decide) rfl (by decide) (by decide) (by decide) allWs0 (fun T6 h6 v6 X6 K6 Q6 => ?_)
  obtain ⟨rfl, rfl⟩ := Q6
  show Runs p e below (T6.setTop (mkF m 30 #[.val (.ref a), .val (.ref pa), .val (.ref sp), .val (.int a1.toInt32), .unset] [(.int f1), (.ref a)])) _
  by_cases hc7 : f1 = (0 : Int32)
  · refine X6.ifYes (pc' := 37) d17_30 (teq hc7).1 (by decide) (by decide) ?_
    refine X6.iloadN (pc' := 38) d17_37 rfl rfl ?_
    refine X6.putfield (pc' := 41) (host := "") (Or.inl (wd_114 hw)) Via.refl Flead_a_5 E_a_5 (Or.inr ⟨(wd_115 hw), rfl, rfl⟩) (wd_97 hw) (ty := .int) (by decide) rfl rfl d17_38 rfl (Or.inl (by simp)) (fun T8 h8 X8 W8 => ?_)
    have Fw8 := Fld.same W8 Flead_a_5
    have E_a_8 := Exa.wr W8 E_a_5
    have Fw4_8 := Fld.other W8 Fw4_5 (Or.inr (slot_ne (Or.inr (wd_106 hw)) (Or.inr (wd_115 hw)) (by decide) (t := (.array .int)) (t' := .int) (by decide) (by decide)))
    have Fw5_8 := Fld.other W8 Fw5 (Or.inr (slot_ne (Or.inr (wd_108 hw)) (Or.inr (wd_115 hw)) (by decide) (t := .int) (t' := .int) (by decide) (by decide)))
    have Fbeside_a_8 := Fld.other W8 Fbeside_a_5 (Or.inr (slot_ne (Or.inr (wd_117 hw)) (Or.inr (wd_115 hw)) (by decide) (t := .int) (t' := .int) (by decide) (by decide)))
    have Fcheck_a_8 := Fld.other W8 Fcheck_a_5 (Or.inr (slot_ne (Or.inr (wd_120 hw)) (Or.inr (wd_115 hw)) (by decide) (t := .int) (t' := .int) (by decide) (by decide)))
    have Fpaired_a_8 := Fld.other W8 Fpaired_a_5 (Or.inr (slot_ne (Or.inr (wd_127 hw)) (Or.inr (wd_115 hw)) (by decide) (t := .boolean) (t' := .int) (by decide) (by decide)))
    have FleadSymbol_a_8 := Fld.other W8 FleadSymbol_a_5 (Or.inr (slot_ne (Or.inr (wd_129 hw)) (Or.inr (wd_115 hw)) (by decide) (t := .char) (t' := .int) (by decide) (by decide)))
    have FbesideSymbol_a_8 := Fld.other W8 FbesideSymbol_a_5 (Or.inr (slot_ne (Or.inr (wd_131 hw)) (Or.inr (wd_115 hw)) (by decide) (t := .char) (t' := .int) (by decide) (by decide)))
    have Fchecked_a_8 := Fld.other W8 Fchecked_a_5 (Or.inr (slot_ne (Or.inr (wd_133 hw)) (Or.inr (wd_115 hw)) (by decide) (t := .char) (t' := .int) (by decide) (by decide)))
    have FchecksWhole_a_8 := Fld.other W8 FchecksWhole_a_5 (Or.inr (slot_ne (Or.inr (wd_135 hw)) (Or.inr (wd_115 hw)) (by decide) (t := .boolean) (t' := .int) (by decide) (by decide)))
    have Sm_8 := Sta.wr W8 Sm_5
    have Vm_8 := Vm_5.other W8 hnc
    have Sc_8 := Sta.wr W8 Sc_5
    have Sf_8 := Sta.wr W8 Sf_5
    have Vp_8 := Vp_5.other W8 hne
    have Se_8 := Sta.wr W8 Se_5
    have Es_8 := Exa.wr W8 Es_5
    have Fan_8 := Fld.other W8 Fan_5 (Or.inl (Ne.symm ne_a_sp))
    have Fch_8 := Fld.other W8 Fch_5 (Or.inl (Ne.symm ne_a_sp))
    have Ffi_8 := Fld.other W8 Ffi_5 (Or.inl (Ne.symm ne_a_sp))
    have Fpc_8 := Fld.other W8 Fpc_5 (Or.inl (Ne.symm ne_a_sp))
    refine X8.aloadN (pc' := 42) d17_41 rfl rfl rfl ?_
    refine X8.aloadN (pc' := 43) d17_42 rfl rfl rfl ?_
    refine X8.virtual (pc' := 46) (W := 1) (a := sp) (argsL := []) (rest := [(.ref a)]) (ctg_firstIsRarer l Z a0 hw sp f1 h8 Ffi_8 z1) (wd_109 hw) (wd_110 hw) (fun _ q => notFace_of_selects q) (wd_112 hw) (wd_111 hw) (wd_9 hw) (wd_113 hw) (by decide) Es_8 pd_12 rfl rfl rfl rfl d17_43 rfl (by decide) rfl (by decide) (by decide) (by decide) allWs0 (fun T9 h9 v9 X9 K9 Q9 => ?_)
    obtain ⟨rfl, rfl⟩ := Q9
    show Runs p e below (T9.setTop (mkF m 46 #[.val (.ref a), .val (.ref pa), .val (.ref sp), .val (.int a1.toInt32), .unset] [(.int f1), (.ref a)])) _
    refine X9.ifYes (pc' := 53) d17_46 (teq hc7).1 (by decide) (by decide) ?_
    refine X9.iconst (pc' := 54) (z := 0) d17_53 rfl rfl ?_
    refine X9.putfield (pc' := 57) (host := "") (Or.inl (wd_116 hw)) Via.refl Fbeside_a_8 E_a_8 (Or.inr ⟨(wd_117 hw), rfl, rfl⟩) (wd_97 hw) (ty := .int) (by decide) rfl rfl d17_54 rfl (Or.inl (by simp)) (fun T10 h10 X10 W10 => ?_)
    have Fw10 := Fld.same W10 Fbeside_a_8
    have E_a_10 := Exa.wr W10 E_a_8
    have Fw4_10 := Fld.other W10 Fw4_8 (Or.inr (slot_ne (Or.inr (wd_106 hw)) (Or.inr (wd_117 hw)) (by decide) (t := (.array .int)) (t' := .int) (by decide) (by decide)))
    have Fw5_10 := Fld.other W10 Fw5_8 (Or.inr (slot_ne (Or.inr (wd_108 hw)) (Or.inr (wd_117 hw)) (by decide) (t := .int) (t' := .int) (by decide) (by decide)))
    have Fw8_10 := Fld.other W10 Fw8 (Or.inr (slot_ne (Or.inr (wd_115 hw)) (Or.inr (wd_117 hw)) (by decide) (t := .int) (t' := .int) (by decide) (by decide)))
    have Fcheck_a_10 := Fld.other W10 Fcheck_a_8 (Or.inr (slot_ne (Or.inr (wd_120 hw)) (Or.inr (wd_117 hw)) (by decide) (t := .int) (t' := .int) (by decide) (by decide)))
    have Fpaired_a_10 := Fld.other W10 Fpaired_a_8 (Or.inr (slot_ne (Or.inr (wd_127 hw)) (Or.inr (wd_117 hw)) (by decide) (t := .boolean) (t' := .int) (by decide) (by decide)))
    have FleadSymbol_a_10 := Fld.other W10 FleadSymbol_a_8 (Or.inr (slot_ne (Or.inr (wd_129 hw)) (Or.inr (wd_117 hw)) (by decide) (t := .char) (t' := .int) (by decide) (by decide)))
    have FbesideSymbol_a_10 := Fld.other W10 FbesideSymbol_a_8 (Or.inr (slot_ne (Or.inr (wd_131 hw)) (Or.inr (wd_117 hw)) (by decide) (t := .char) (t' := .int) (by decide) (by decide)))
    have Fchecked_a_10 := Fld.other W10 Fchecked_a_8 (Or.inr (slot_ne (Or.inr (wd_133 hw)) (Or.inr (wd_117 hw)) (by decide) (t := .char) (t' := .int) (by decide) (by decide)))
    have FchecksWhole_a_10 := Fld.other W10 FchecksWhole_a_8 (Or.inr (slot_ne (Or.inr (wd_135 hw)) (Or.inr (wd_117 hw)) (by decide) (t := .boolean) (t' := .int) (by decide) (by decide)))
    have Sm_10 := Sta.wr W10 Sm_8
    have Vm_10 := Vm_8.other W10 hnc
    have Sc_10 := Sta.wr W10 Sc_8
    have Sf_10 := Sta.wr W10 Sf_8
    have Vp_10 := Vp_8.other W10 hne
    have Se_10 := Sta.wr W10 Se_8
    have Es_10 := Exa.wr W10 Es_8
    have Fan_10 := Fld.other W10 Fan_8 (Or.inl (Ne.symm ne_a_sp))
    have Fch_10 := Fld.other W10 Fch_8 (Or.inl (Ne.symm ne_a_sp))
    have Ffi_10 := Fld.other W10 Ffi_8 (Or.inl (Ne.symm ne_a_sp))
    have Fpc_10 := Fld.other W10 Fpc_8 (Or.inl (Ne.symm ne_a_sp))
    refine X10.aloadN (pc' := 58) d17_57 rfl rfl rfl ?_
    refine X10.aloadN (pc' := 59) d17_58 rfl rfl rfl ?_
    refine X10.virtual (pc' := 62) (W := 1) (a := sp) (argsL := []) (rest := [(.ref a)]) (ctg_check l Z a0 hw sp c1.toInt32 h10 Fch_10) (wd_118 hw) (wd_92 hw) (fun _ q => notFace_of_selects q) (wd_94 hw) (wd_93 hw) (wd_9 hw) (wd_95 hw) (by decide) Es_10 pd_11 rfl rfl rfl rfl d17_59 rfl (by decide) rfl (by decide) (by decide) (by decide) allWs0 (fun T11 h11 v11 X11 K11 Q11 => ?_)
    obtain ⟨rfl, rfl⟩ := Q11
    show Runs p e below (T11.setTop (mkF m 62 #[.val (.ref a), .val (.ref pa), .val (.ref sp), .val (.int a1.toInt32), .unset] [(.int c1.toInt32), (.ref a)])) _
    refine X11.putfield (pc' := 65) (host := "") (Or.inl (wd_119 hw)) Via.refl Fcheck_a_10 E_a_10 (Or.inr ⟨(wd_120 hw), rfl, rfl⟩) (wd_97 hw) (ty := .int) (by decide) rfl rfl d17_62 rfl (Or.inl (by simp)) (fun T12 h12 X12 W12 => ?_)
    have Fw12 := Fld.same W12 Fcheck_a_10
    have E_a_12 := Exa.wr W12 E_a_10
    have Fw4_12 := Fld.other W12 Fw4_10 (Or.inr (slot_ne (Or.inr (wd_106 hw)) (Or.inr (wd_120 hw)) (by decide) (t := (.array .int)) (t' := .int) (by decide) (by decide)))
    have Fw5_12 := Fld.other W12 Fw5_10 (Or.inr (slot_ne (Or.inr (wd_108 hw)) (Or.inr (wd_120 hw)) (by decide) (t := .int) (t' := .int) (by decide) (by decide)))
    have Fw8_12 := Fld.other W12 Fw8_10 (Or.inr (slot_ne (Or.inr (wd_115 hw)) (Or.inr (wd_120 hw)) (by decide) (t := .int) (t' := .int) (by decide) (by decide)))
    have Fw10_12 := Fld.other W12 Fw10 (Or.inr (slot_ne (Or.inr (wd_117 hw)) (Or.inr (wd_120 hw)) (by decide) (t := .int) (t' := .int) (by decide) (by decide)))
    have Fpaired_a_12 := Fld.other W12 Fpaired_a_10 (Or.inr (slot_ne (Or.inr (wd_127 hw)) (Or.inr (wd_120 hw)) (by decide) (t := .boolean) (t' := .int) (by decide) (by decide)))
    have FleadSymbol_a_12 := Fld.other W12 FleadSymbol_a_10 (Or.inr (slot_ne (Or.inr (wd_129 hw)) (Or.inr (wd_120 hw)) (by decide) (t := .char) (t' := .int) (by decide) (by decide)))
    have FbesideSymbol_a_12 := Fld.other W12 FbesideSymbol_a_10 (Or.inr (slot_ne (Or.inr (wd_131 hw)) (Or.inr (wd_120 hw)) (by decide) (t := .char) (t' := .int) (by decide) (by decide)))
    have Fchecked_a_12 := Fld.other W12 Fchecked_a_10 (Or.inr (slot_ne (Or.inr (wd_133 hw)) (Or.inr (wd_120 hw)) (by decide) (t := .char) (t' := .int) (by decide) (by decide)))
    have FchecksWhole_a_12 := Fld.other W12 FchecksWhole_a_10 (Or.inr (slot_ne (Or.inr (wd_135 hw)) (Or.inr (wd_120 hw)) (by decide) (t := .boolean) (t' := .int) (by decide) (by decide)))
    have Sm_12 := Sta.wr W12 Sm_10
    have Vm_12 := Vm_10.other W12 hnc
    have Sc_12 := Sta.wr W12 Sc_10
    have Sf_12 := Sta.wr W12 Sf_10
    have Vp_12 := Vp_10.other W12 hne
    have Se_12 := Sta.wr W12 Se_10
    have Es_12 := Exa.wr W12 Es_10
    have Fan_12 := Fld.other W12 Fan_10 (Or.inl (Ne.symm ne_a_sp))
    have Fch_12 := Fld.other W12 Fch_10 (Or.inl (Ne.symm ne_a_sp))
    have Ffi_12 := Fld.other W12 Ffi_10 (Or.inl (Ne.symm ne_a_sp))
    have Fpc_12 := Fld.other W12 Fpc_10 (Or.inl (Ne.symm ne_a_sp))
    refine X12.aloadN (pc' := 66) d17_65 rfl rfl rfl ?_
    refine X12.aloadN (pc' := 67) d17_66 rfl rfl rfl ?_
    refine X12.virtual (pc' := 70) (W := 1) (a := sp) (argsL := []) (rest := [(.ref a)]) (ctg_pairsCheck l Z a0 hw sp p1 h12 Fpc_12 z2) (wd_121 hw) (wd_122 hw) (fun _ q => notFace_of_selects q) (wd_124 hw) (wd_123 hw) (wd_9 hw) (wd_125 hw) (by decide) Es_12 pd_12 rfl rfl rfl rfl d17_67 rfl (by decide) rfl (by decide) (by decide) (by decide) allWs0 (fun T13 h13 v13 X13 K13 Q13 => ?_)
    obtain ⟨rfl, rfl⟩ := Q13
    show Runs p e below (T13.setTop (mkF m 70 #[.val (.ref a), .val (.ref pa), .val (.ref sp), .val (.int a1.toInt32), .unset] [(.int p1), (.ref a)])) _
    refine X13.putfieldN (pc' := 73) (v' := (.int (nar .boolean p1))) (wd_126 hw) Via.refl Fpaired_a_12 E_a_12 (Or.inr ⟨(wd_127 hw), rfl, rfl⟩) (wd_97 hw) (ty := .boolean) (by decide) rfl (fits_nar_bool _) d17_70 rfl (Or.inl (by simp)) (fun T14 h14 X14 W14 => ?_)
    have Fw14 := Fld.same W14 Fpaired_a_12
    have E_a_14 := Exa.wr W14 E_a_12
    have Fw4_14 := Fld.other W14 Fw4_12 (Or.inr (slot_ne (Or.inr (wd_106 hw)) (Or.inr (wd_127 hw)) (by decide) (t := (.array .int)) (t' := .boolean) (by decide) (by decide)))
    have Fw5_14 := Fld.other W14 Fw5_12 (Or.inr (slot_ne (Or.inr (wd_108 hw)) (Or.inr (wd_127 hw)) (by decide) (t := .int) (t' := .boolean) (by decide) (by decide)))
    have Fw8_14 := Fld.other W14 Fw8_12 (Or.inr (slot_ne (Or.inr (wd_115 hw)) (Or.inr (wd_127 hw)) (by decide) (t := .int) (t' := .boolean) (by decide) (by decide)))
    have Fw10_14 := Fld.other W14 Fw10_12 (Or.inr (slot_ne (Or.inr (wd_117 hw)) (Or.inr (wd_127 hw)) (by decide) (t := .int) (t' := .boolean) (by decide) (by decide)))
    have Fw12_14 := Fld.other W14 Fw12 (Or.inr (slot_ne (Or.inr (wd_120 hw)) (Or.inr (wd_127 hw)) (by decide) (t := .int) (t' := .boolean) (by decide) (by decide)))
    have FleadSymbol_a_14 := Fld.other W14 FleadSymbol_a_12 (Or.inr (slot_ne (Or.inr (wd_129 hw)) (Or.inr (wd_127 hw)) (by decide) (t := .char) (t' := .boolean) (by decide) (by decide)))
    have FbesideSymbol_a_14 := Fld.other W14 FbesideSymbol_a_12 (Or.inr (slot_ne (Or.inr (wd_131 hw)) (Or.inr (wd_127 hw)) (by decide) (t := .char) (t' := .boolean) (by decide) (by decide)))
    have Fchecked_a_14 := Fld.other W14 Fchecked_a_12 (Or.inr (slot_ne (Or.inr (wd_133 hw)) (Or.inr (wd_127 hw)) (by decide) (t := .char) (t' := .boolean) (by decide) (by decide)))
    have FchecksWhole_a_14 := Fld.other W14 FchecksWhole_a_12 (Or.inr (slot_ne (Or.inr (wd_135 hw)) (Or.inr (wd_127 hw)) (by decide) (t := .boolean) (t' := .boolean) (by decide) (by decide)))
    have Sm_14 := Sta.wr W14 Sm_12
    have Vm_14 := Vm_12.other W14 hnc
    have Sc_14 := Sta.wr W14 Sc_12
    have Sf_14 := Sta.wr W14 Sf_12
    have Vp_14 := Vp_12.other W14 hne
    have Se_14 := Sta.wr W14 Se_12
    have Es_14 := Exa.wr W14 Es_12
    have Fan_14 := Fld.other W14 Fan_12 (Or.inl (Ne.symm ne_a_sp))
    have Fch_14 := Fld.other W14 Fch_12 (Or.inl (Ne.symm ne_a_sp))
    have Ffi_14 := Fld.other W14 Ffi_12 (Or.inl (Ne.symm ne_a_sp))
    have Fpc_14 := Fld.other W14 Fpc_12 (Or.inl (Ne.symm ne_a_sp))
    refine X14.aloadN (pc' := 74) d17_73 rfl rfl rfl ?_
    refine X14.aloadN (pc' := 75) d17_74 rfl rfl rfl ?_
    refine X14.getfield (pc' := 78) (host := "") (Or.inl (wd_107 hw)) Via.refl Fw5_14 d17_75 rfl (fun T15 X15 => ?_)
    refine X15.ifNo (pc' := 81) d17_78 (tlt (own_n0 hn hN)).2.2.2 rfl ?_
    refine X15.aloadN (pc' := 82) d17_81 rfl rfl rfl ?_
    refine X15.aloadN (pc' := 83) d17_82 rfl rfl rfl ?_
    refine X15.getfield (pc' := 86) (host := "") (Or.inl (wd_114 hw)) Via.refl Fw8_14 d17_83 rfl (fun T16 X16 => ?_)
    refine X16.iaload (pc' := 87) (v := (.int (P a1))) Vp_14 (own_il (own_i32 (by omega)) ha1) (own_tn_at (own_ilt (own_i32 (by omega))) ha1) d17_86 rfl ?_
    refine X16.i2c (pc' := 88) d17_87 rfl ?_
    refine X16.goto (pc' := 92) d17_88 (by decide) (by decide) ?_
    refine X16.putfieldN (pc' := 95) (v' := (.int (nar .char ((P a1).toUInt32.toUInt16.toUInt32.toInt32)))) (wd_128 hw) Via.refl FleadSymbol_a_14 E_a_14 (Or.inr ⟨(wd_129 hw), rfl, rfl⟩) (wd_97 hw) (ty := .char) (by decide) rfl (fits_nar_char _) d17_92 rfl (Or.inl (by simp)) (fun T17 h17 X17 W17 => ?_)
    have Fw17 := Fld.same W17 FleadSymbol_a_14
    have E_a_17 := Exa.wr W17 E_a_14
    have Fw4_17 := Fld.other W17 Fw4_14 (Or.inr (slot_ne (Or.inr (wd_106 hw)) (Or.inr (wd_129 hw)) (by decide) (t := (.array .int)) (t' := .char) (by decide) (by decide)))
    have Fw5_17 := Fld.other W17 Fw5_14 (Or.inr (slot_ne (Or.inr (wd_108 hw)) (Or.inr (wd_129 hw)) (by decide) (t := .int) (t' := .char) (by decide) (by decide)))
    have Fw8_17 := Fld.other W17 Fw8_14 (Or.inr (slot_ne (Or.inr (wd_115 hw)) (Or.inr (wd_129 hw)) (by decide) (t := .int) (t' := .char) (by decide) (by decide)))
    have Fw10_17 := Fld.other W17 Fw10_14 (Or.inr (slot_ne (Or.inr (wd_117 hw)) (Or.inr (wd_129 hw)) (by decide) (t := .int) (t' := .char) (by decide) (by decide)))
    have Fw12_17 := Fld.other W17 Fw12_14 (Or.inr (slot_ne (Or.inr (wd_120 hw)) (Or.inr (wd_129 hw)) (by decide) (t := .int) (t' := .char) (by decide) (by decide)))
    have Fw14_17 := Fld.other W17 Fw14 (Or.inr (slot_ne (Or.inr (wd_127 hw)) (Or.inr (wd_129 hw)) (by decide) (t := .boolean) (t' := .char) (by decide) (by decide)))
    have FbesideSymbol_a_17 := Fld.other W17 FbesideSymbol_a_14 (Or.inr (slot_ne (Or.inr (wd_131 hw)) (Or.inr (wd_129 hw)) (by decide) (t := .char) (t' := .char) (by decide) (by decide)))
    have Fchecked_a_17 := Fld.other W17 Fchecked_a_14 (Or.inr (slot_ne (Or.inr (wd_133 hw)) (Or.inr (wd_129 hw)) (by decide) (t := .char) (t' := .char) (by decide) (by decide)))
    have FchecksWhole_a_17 := Fld.other W17 FchecksWhole_a_14 (Or.inr (slot_ne (Or.inr (wd_135 hw)) (Or.inr (wd_129 hw)) (by decide) (t := .boolean) (t' := .char) (by decide) (by decide)))
    have Sm_17 := Sta.wr W17 Sm_14
    have Vm_17 := Vm_14.other W17 hnc
    have Sc_17 := Sta.wr W17 Sc_14
    have Sf_17 := Sta.wr W17 Sf_14
    have Vp_17 := Vp_14.other W17 hne
    have Se_17 := Sta.wr W17 Se_14
    have Es_17 := Exa.wr W17 Es_14
    have Fan_17 := Fld.other W17 Fan_14 (Or.inl (Ne.symm ne_a_sp))
    have Fch_17 := Fld.other W17 Fch_14 (Or.inl (Ne.symm ne_a_sp))
    have Ffi_17 := Fld.other W17 Ffi_14 (Or.inl (Ne.symm ne_a_sp))
    have Fpc_17 := Fld.other W17 Fpc_14 (Or.inl (Ne.symm ne_a_sp))
    refine X17.aloadN (pc' := 96) d17_95 rfl rfl rfl ?_
    refine X17.aloadN (pc' := 97) d17_96 rfl rfl rfl ?_
    refine X17.getfield (pc' := 100) (host := "") (Or.inl (wd_107 hw)) Via.refl Fw5_17 d17_97 rfl (fun T18 X18 => ?_)
    refine X18.ifNo (pc' := 103) d17_100 (tlt (own_n0 hn hN)).2.2.2 rfl ?_
    refine X18.aloadN (pc' := 104) d17_103 rfl rfl rfl ?_
    refine X18.aloadN (pc' := 105) d17_104 rfl rfl rfl ?_
    refine X18.getfield (pc' := 108) (host := "") (Or.inl (wd_116 hw)) Via.refl Fw10_17 d17_105 rfl (fun T19 X19 => ?_)
    refine X19.iaload (pc' := 109) (v := (.int (P 0))) Vp_17 (own_il rfl hn) (own_tn_at (own_ilt rfl) hn) d17_108 rfl ?_
    refine X19.i2c (pc' := 110) d17_109 rfl ?_
    refine X19.goto (pc' := 114) d17_110 (by decide) (by decide) ?_
    refine X19.putfieldN (pc' := 117) (v' := (.int (nar .char ((P 0).toUInt32.toUInt16.toUInt32.toInt32)))) (wd_130 hw) Via.refl FbesideSymbol_a_17 E_a_17 (Or.inr ⟨(wd_131 hw), rfl, rfl⟩) (wd_97 hw) (ty := .char) (by decide) rfl (fits_nar_char _) d17_114 rfl (Or.inl (by simp)) (fun T20 h20 X20 W20 => ?_)
    have Fw20 := Fld.same W20 FbesideSymbol_a_17
    have E_a_20 := Exa.wr W20 E_a_17
    have Fw4_20 := Fld.other W20 Fw4_17 (Or.inr (slot_ne (Or.inr (wd_106 hw)) (Or.inr (wd_131 hw)) (by decide) (t := (.array .int)) (t' := .char) (by decide) (by decide)))
    have Fw5_20 := Fld.other W20 Fw5_17 (Or.inr (slot_ne (Or.inr (wd_108 hw)) (Or.inr (wd_131 hw)) (by decide) (t := .int) (t' := .char) (by decide) (by decide)))
    have Fw8_20 := Fld.other W20 Fw8_17 (Or.inr (slot_ne (Or.inr (wd_115 hw)) (Or.inr (wd_131 hw)) (by decide) (t := .int) (t' := .char) (by decide) (by decide)))
    have Fw10_20 := Fld.other W20 Fw10_17 (Or.inr (slot_ne (Or.inr (wd_117 hw)) (Or.inr (wd_131 hw)) (by decide) (t := .int) (t' := .char) (by decide) (by decide)))
    have Fw12_20 := Fld.other W20 Fw12_17 (Or.inr (slot_ne (Or.inr (wd_120 hw)) (Or.inr (wd_131 hw)) (by decide) (t := .int) (t' := .char) (by decide) (by decide)))
    have Fw14_20 := Fld.other W20 Fw14_17 (Or.inr (slot_ne (Or.inr (wd_127 hw)) (Or.inr (wd_131 hw)) (by decide) (t := .boolean) (t' := .char) (by decide) (by decide)))
    have Fw17_20 := Fld.other W20 Fw17 (Or.inr (slot_ne (Or.inr (wd_129 hw)) (Or.inr (wd_131 hw)) (by decide) (t := .char) (t' := .char) (by decide) (by decide)))
    have Fchecked_a_20 := Fld.other W20 Fchecked_a_17 (Or.inr (slot_ne (Or.inr (wd_133 hw)) (Or.inr (wd_131 hw)) (by decide) (t := .char) (t' := .char) (by decide) (by decide)))
    have FchecksWhole_a_20 := Fld.other W20 FchecksWhole_a_17 (Or.inr (slot_ne (Or.inr (wd_135 hw)) (Or.inr (wd_131 hw)) (by decide) (t := .boolean) (t' := .char) (by decide) (by decide)))
    have Sm_20 := Sta.wr W20 Sm_17
    have Vm_20 := Vm_17.other W20 hnc
    have Sc_20 := Sta.wr W20 Sc_17
    have Sf_20 := Sta.wr W20 Sf_17
    have Vp_20 := Vp_17.other W20 hne
    have Se_20 := Sta.wr W20 Se_17
    have Es_20 := Exa.wr W20 Es_17
    have Fan_20 := Fld.other W20 Fan_17 (Or.inl (Ne.symm ne_a_sp))
    have Fch_20 := Fld.other W20 Fch_17 (Or.inl (Ne.symm ne_a_sp))
    have Ffi_20 := Fld.other W20 Ffi_17 (Or.inl (Ne.symm ne_a_sp))
    have Fpc_20 := Fld.other W20 Fpc_17 (Or.inl (Ne.symm ne_a_sp))
    refine X20.aloadN (pc' := 118) d17_117 rfl rfl rfl ?_
    refine X20.aloadN (pc' := 119) d17_118 rfl rfl rfl ?_
    refine X20.getfield (pc' := 122) (host := "") (Or.inl (wd_107 hw)) Via.refl Fw5_20 d17_119 rfl (fun T21 X21 => ?_)
    refine X21.ifNo (pc' := 125) d17_122 (tlt (own_n0 hn hN)).2.2.2 rfl ?_
    refine X21.aloadN (pc' := 126) d17_125 rfl rfl rfl ?_
    refine X21.aloadN (pc' := 127) d17_126 rfl rfl rfl ?_
    refine X21.getfield (pc' := 130) (host := "") (Or.inl (wd_119 hw)) Via.refl Fw12_20 d17_127 rfl (fun T22 X22 => ?_)
    refine X22.iaload (pc' := 131) (v := (.int (P c1))) Vp_20 (own_il (own_i32 (by omega)) hc1) (own_tn_at (own_ilt (own_i32 (by omega))) hc1) d17_130 rfl ?_
    refine X22.i2c (pc' := 132) d17_131 rfl ?_
    refine X22.goto (pc' := 136) d17_132 (by decide) (by decide) ?_
    refine X22.putfieldN (pc' := 139) (v' := (.int (nar .char ((P c1).toUInt32.toUInt16.toUInt32.toInt32)))) (wd_132 hw) Via.refl Fchecked_a_20 E_a_20 (Or.inr ⟨(wd_133 hw), rfl, rfl⟩) (wd_97 hw) (ty := .char) (by decide) rfl (fits_nar_char _) d17_136 rfl (Or.inl (by simp)) (fun T23 h23 X23 W23 => ?_)
    have Fw23 := Fld.same W23 Fchecked_a_20
    have E_a_23 := Exa.wr W23 E_a_20
    have Fw4_23 := Fld.other W23 Fw4_20 (Or.inr (slot_ne (Or.inr (wd_106 hw)) (Or.inr (wd_133 hw)) (by decide) (t := (.array .int)) (t' := .char) (by decide) (by decide)))
    have Fw5_23 := Fld.other W23 Fw5_20 (Or.inr (slot_ne (Or.inr (wd_108 hw)) (Or.inr (wd_133 hw)) (by decide) (t := .int) (t' := .char) (by decide) (by decide)))
    have Fw8_23 := Fld.other W23 Fw8_20 (Or.inr (slot_ne (Or.inr (wd_115 hw)) (Or.inr (wd_133 hw)) (by decide) (t := .int) (t' := .char) (by decide) (by decide)))
    have Fw10_23 := Fld.other W23 Fw10_20 (Or.inr (slot_ne (Or.inr (wd_117 hw)) (Or.inr (wd_133 hw)) (by decide) (t := .int) (t' := .char) (by decide) (by decide)))
    have Fw12_23 := Fld.other W23 Fw12_20 (Or.inr (slot_ne (Or.inr (wd_120 hw)) (Or.inr (wd_133 hw)) (by decide) (t := .int) (t' := .char) (by decide) (by decide)))
    have Fw14_23 := Fld.other W23 Fw14_20 (Or.inr (slot_ne (Or.inr (wd_127 hw)) (Or.inr (wd_133 hw)) (by decide) (t := .boolean) (t' := .char) (by decide) (by decide)))
    have Fw17_23 := Fld.other W23 Fw17_20 (Or.inr (slot_ne (Or.inr (wd_129 hw)) (Or.inr (wd_133 hw)) (by decide) (t := .char) (t' := .char) (by decide) (by decide)))
    have Fw20_23 := Fld.other W23 Fw20 (Or.inr (slot_ne (Or.inr (wd_131 hw)) (Or.inr (wd_133 hw)) (by decide) (t := .char) (t' := .char) (by decide) (by decide)))
    have FchecksWhole_a_23 := Fld.other W23 FchecksWhole_a_20 (Or.inr (slot_ne (Or.inr (wd_135 hw)) (Or.inr (wd_133 hw)) (by decide) (t := .boolean) (t' := .char) (by decide) (by decide)))
    have Sm_23 := Sta.wr W23 Sm_20
    have Vm_23 := Vm_20.other W23 hnc
    have Sc_23 := Sta.wr W23 Sc_20
    have Sf_23 := Sta.wr W23 Sf_20
    have Vp_23 := Vp_20.other W23 hne
    have Se_23 := Sta.wr W23 Se_20
    have Es_23 := Exa.wr W23 Es_20
    have Fan_23 := Fld.other W23 Fan_20 (Or.inl (Ne.symm ne_a_sp))
    have Fch_23 := Fld.other W23 Fch_20 (Or.inl (Ne.symm ne_a_sp))
    have Ffi_23 := Fld.other W23 Ffi_20 (Or.inl (Ne.symm ne_a_sp))
    have Fpc_23 := Fld.other W23 Fpc_20 (Or.inl (Ne.symm ne_a_sp))
    refine X23.iconst (pc' := 140) (z := 1) d17_139 rfl rfl ?_
    refine X23.iloadN (pc' := 141) d17_140 rfl rfl ?_
    refine Runs.dia (P := a1.toInt32 = (0 : Int32)) (B := fun zq : Int32 => T23.setTop (mkF m 149 #[.val (.ref a), .val (.ref pa), .val (.ref sp), .val (.int a1.toInt32), .unset] (.int zq :: [(.int (1 : Int32))]))) (vt := 0) (vf := 1) (fun hc24 k => ?_) (fun hc24 k => ?_) ?_
    · refine X23.ifYes (pc' := 148) d17_141 (teq hc24).1 (by decide) (by decide) ?_
      refine X23.iconst (pc' := 149) (z := 0) d17_148 rfl rfl ?_
      exact k
    · refine X23.ifNo (pc' := 144) d17_141 (feq hc24).1 rfl ?_
      refine X23.iconst (pc' := 145) (z := 1) d17_144 rfl rfl ?_
      refine X23.goto (pc' := 149) d17_145 (by decide) (by decide) ?_
      exact k
    show Runs p e below (T23.setTop (mkF m 149 #[.val (.ref a), .val (.ref pa), .val (.ref sp), .val (.int a1.toInt32), .unset] [(.int (if a1.toInt32 = (0 : Int32) then (0 : Int32) else 1)), (.int (1 : Int32))])) _
    refine X23.iadd (pc' := 150) d17_149 rfl ?_
    refine X23.aloadN (pc' := 151) d17_150 rfl rfl rfl ?_
    refine X23.getfield (pc' := 154) (host := "") (Or.inl (wd_119 hw)) Via.refl Fw12_23 d17_151 rfl (fun T25 X25 => ?_)
    by_cases hc26 : c1.toInt32 = (0 : Int32)
    · refine X25.ifYes (pc' := 169) d17_154 (teq hc26).1 (by decide) (by decide) ?_
      refine X25.iconst (pc' := 170) (z := 0) d17_169 rfl rfl ?_
      refine X25.iadd (pc' := 171) d17_170 rfl ?_
      refine X25.istore (pc' := 173) (l' := #[.val (.ref a), .val (.ref pa), .val (.ref sp), .val (.int a1.toInt32), .val (.int (((1 : Int32) + (if a1.toInt32 = (0 : Int32) then (0 : Int32) else 1)) + (0 : Int32)))]) d17_171 rfl rfl ?_
      refine X25.aloadN (pc' := 174) d17_173 rfl rfl rfl ?_
      refine X25.iload (pc' := 176) d17_174 rfl rfl ?_
      refine X25.aloadN (pc' := 177) d17_176 rfl rfl rfl ?_
      refine X25.getfield (pc' := 180) (host := "") (Or.inl (wd_107 hw)) Via.refl Fw5_23 d17_177 rfl (fun T27 X27 => ?_)
      refine Runs.dia (P := (((1 : Int32) + (if a1.toInt32 = (0 : Int32) then (0 : Int32) else 1)) + (0 : Int32)) = n.toInt32) (B := fun zq : Int32 => T27.setTop (mkF m 188 #[.val (.ref a), .val (.ref pa), .val (.ref sp), .val (.int a1.toInt32), .val (.int (((1 : Int32) + (if a1.toInt32 = (0 : Int32) then (0 : Int32) else 1)) + (0 : Int32)))] (.int zq :: [(.ref a)]))) (vt := 1) (vf := 0) (fun hc28 k => ?_) (fun hc28 k => ?_) ?_
      · refine X27.icmpNo (pc' := 183) d17_180 (teq hc28).2 rfl ?_
        refine X27.iconst (pc' := 184) (z := 1) d17_183 rfl rfl ?_
        refine X27.goto (pc' := 188) d17_184 (by decide) (by decide) ?_
        exact k
      · refine X27.icmpYes (pc' := 187) d17_180 (feq hc28).2 (by decide) (by decide) ?_
        refine X27.iconst (pc' := 188) (z := 0) d17_187 rfl rfl ?_
        exact k
      show Runs p e below (T27.setTop (mkF m 188 #[.val (.ref a), .val (.ref pa), .val (.ref sp), .val (.int a1.toInt32), .val (.int (((1 : Int32) + (if a1.toInt32 = (0 : Int32) then (0 : Int32) else 1)) + (0 : Int32)))] [(.int (if (((1 : Int32) + (if a1.toInt32 = (0 : Int32) then (0 : Int32) else 1)) + (0 : Int32)) = n.toInt32 then (1 : Int32) else 0)), (.ref a)])) _
      refine X27.putfieldN (pc' := 191) (v' := (.int (nar .boolean (if (((1 : Int32) + (if a1.toInt32 = (0 : Int32) then (0 : Int32) else 1)) + (0 : Int32)) = n.toInt32 then (1 : Int32) else 0)))) (wd_134 hw) Via.refl FchecksWhole_a_23 E_a_23 (Or.inr ⟨(wd_135 hw), rfl, rfl⟩) (wd_97 hw) (ty := .boolean) (by decide) rfl (fits_nar_bool _) d17_188 rfl (Or.inl (by simp)) (fun T29 h29 X29 W29 => ?_)
      have Fw29 := Fld.same W29 FchecksWhole_a_23
      have E_a_29 := Exa.wr W29 E_a_23
      have Fw4_29 := Fld.other W29 Fw4_23 (Or.inr (slot_ne (Or.inr (wd_106 hw)) (Or.inr (wd_135 hw)) (by decide) (t := (.array .int)) (t' := .boolean) (by decide) (by decide)))
      have Fw5_29 := Fld.other W29 Fw5_23 (Or.inr (slot_ne (Or.inr (wd_108 hw)) (Or.inr (wd_135 hw)) (by decide) (t := .int) (t' := .boolean) (by decide) (by decide)))
      have Fw8_29 := Fld.other W29 Fw8_23 (Or.inr (slot_ne (Or.inr (wd_115 hw)) (Or.inr (wd_135 hw)) (by decide) (t := .int) (t' := .boolean) (by decide) (by decide)))
      have Fw10_29 := Fld.other W29 Fw10_23 (Or.inr (slot_ne (Or.inr (wd_117 hw)) (Or.inr (wd_135 hw)) (by decide) (t := .int) (t' := .boolean) (by decide) (by decide)))
      have Fw12_29 := Fld.other W29 Fw12_23 (Or.inr (slot_ne (Or.inr (wd_120 hw)) (Or.inr (wd_135 hw)) (by decide) (t := .int) (t' := .boolean) (by decide) (by decide)))
      have Fw14_29 := Fld.other W29 Fw14_23 (Or.inr (slot_ne (Or.inr (wd_127 hw)) (Or.inr (wd_135 hw)) (by decide) (t := .boolean) (t' := .boolean) (by decide) (by decide)))
      have Fw17_29 := Fld.other W29 Fw17_23 (Or.inr (slot_ne (Or.inr (wd_129 hw)) (Or.inr (wd_135 hw)) (by decide) (t := .char) (t' := .boolean) (by decide) (by decide)))
      have Fw20_29 := Fld.other W29 Fw20_23 (Or.inr (slot_ne (Or.inr (wd_131 hw)) (Or.inr (wd_135 hw)) (by decide) (t := .char) (t' := .boolean) (by decide) (by decide)))
      have Fw23_29 := Fld.other W29 Fw23 (Or.inr (slot_ne (Or.inr (wd_133 hw)) (Or.inr (wd_135 hw)) (by decide) (t := .char) (t' := .boolean) (by decide) (by decide)))
      have Sm_29 := Sta.wr W29 Sm_23
      have Vm_29 := Vm_23.other W29 hnc
      have Sc_29 := Sta.wr W29 Sc_23
      have Sf_29 := Sta.wr W29 Sf_23
      have Vp_29 := Vp_23.other W29 hne
      have Se_29 := Sta.wr W29 Se_23
      have Es_29 := Exa.wr W29 Es_23
      have Fan_29 := Fld.other W29 Fan_23 (Or.inl (Ne.symm ne_a_sp))
      have Fch_29 := Fld.other W29 Fch_23 (Or.inl (Ne.symm ne_a_sp))
      have Ffi_29 := Fld.other W29 Ffi_23 (Or.inl (Ne.symm ne_a_sp))
      have Fpc_29 := Fld.other W29 Fpc_23 (Or.inl (Ne.symm ne_a_sp))
      exact X29.vreturn rfl d17_191 (by decide) (by decide) ⟨rfl, _, E_a_29, Fw29, Fw5_29, Fw4_29, fun q => own_cov n hn6 a1 ha1 c1 hc1 (by rw [if_pos hc26]; exact own_nz q)⟩
    · refine X25.ifNo (pc' := 157) d17_154 (feq hc26).1 rfl ?_
      refine X25.aloadN (pc' := 158) d17_157 rfl rfl rfl ?_
      refine X25.getfield (pc' := 161) (host := "") (Or.inl (wd_119 hw)) Via.refl Fw12_23 d17_158 rfl (fun T30 X30 => ?_)
      refine X30.iloadN (pc' := 162) d17_161 rfl rfl ?_
      refine Runs.dia (P := c1.toInt32 = a1.toInt32) (B := fun zq : Int32 => T30.setTop (mkF m 170 #[.val (.ref a), .val (.ref pa), .val (.ref sp), .val (.int a1.toInt32), .unset] (.int zq :: [(.int ((1 : Int32) + (if a1.toInt32 = (0 : Int32) then (0 : Int32) else 1)))]))) (vt := 0) (vf := 1) (fun hc31 k => ?_) (fun hc31 k => ?_) ?_
      · refine X30.icmpYes (pc' := 169) d17_162 (teq hc31).1 (by decide) (by decide) ?_
        refine X30.iconst (pc' := 170) (z := 0) d17_169 rfl rfl ?_
        exact k
      · refine X30.icmpNo (pc' := 165) d17_162 (feq hc31).1 rfl ?_
        refine X30.iconst (pc' := 166) (z := 1) d17_165 rfl rfl ?_
        refine X30.goto (pc' := 170) d17_166 (by decide) (by decide) ?_
        exact k
      show Runs p e below (T30.setTop (mkF m 170 #[.val (.ref a), .val (.ref pa), .val (.ref sp), .val (.int a1.toInt32), .unset] [(.int (if c1.toInt32 = a1.toInt32 then (0 : Int32) else 1)), (.int ((1 : Int32) + (if a1.toInt32 = (0 : Int32) then (0 : Int32) else 1)))])) _
      refine X30.iadd (pc' := 171) d17_170 rfl ?_
      refine X30.istore (pc' := 173) (l' := #[.val (.ref a), .val (.ref pa), .val (.ref sp), .val (.int a1.toInt32), .val (.int (((1 : Int32) + (if a1.toInt32 = (0 : Int32) then (0 : Int32) else 1)) + (if c1.toInt32 = a1.toInt32 then (0 : Int32) else 1)))]) d17_171 rfl rfl ?_
      refine X30.aloadN (pc' := 174) d17_173 rfl rfl rfl ?_
      refine X30.iload (pc' := 176) d17_174 rfl rfl ?_
      refine X30.aloadN (pc' := 177) d17_176 rfl rfl rfl ?_
      refine X30.getfield (pc' := 180) (host := "") (Or.inl (wd_107 hw)) Via.refl Fw5_23 d17_177 rfl (fun T32 X32 => ?_)
      refine Runs.dia (P := (((1 : Int32) + (if a1.toInt32 = (0 : Int32) then (0 : Int32) else 1)) + (if c1.toInt32 = a1.toInt32 then (0 : Int32) else 1)) = n.toInt32) (B := fun zq : Int32 => T32.setTop (mkF m 188 #[.val (.ref a), .val (.ref pa), .val (.ref sp), .val (.int a1.toInt32), .val (.int (((1 : Int32) + (if a1.toInt32 = (0 : Int32) then (0 : Int32) else 1)) + (if c1.toInt32 = a1.toInt32 then (0 : Int32) else 1)))] (.int zq :: [(.ref a)]))) (vt := 1) (vf := 0) (fun hc33 k => ?_) (fun hc33 k => ?_) ?_
      · refine X32.icmpNo (pc' := 183) d17_180 (teq hc33).2 rfl ?_
        refine X32.iconst (pc' := 184) (z := 1) d17_183 rfl rfl ?_
        refine X32.goto (pc' := 188) d17_184 (by decide) (by decide) ?_
        exact k
      · refine X32.icmpYes (pc' := 187) d17_180 (feq hc33).2 (by decide) (by decide) ?_
        refine X32.iconst (pc' := 188) (z := 0) d17_187 rfl rfl ?_
        exact k
      show Runs p e below (T32.setTop (mkF m 188 #[.val (.ref a), .val (.ref pa), .val (.ref sp), .val (.int a1.toInt32), .val (.int (((1 : Int32) + (if a1.toInt32 = (0 : Int32) then (0 : Int32) else 1)) + (if c1.toInt32 = a1.toInt32 then (0 : Int32) else 1)))] [(.int (if (((1 : Int32) + (if a1.toInt32 = (0 : Int32) then (0 : Int32) else 1)) + (if c1.toInt32 = a1.toInt32 then (0 : Int32) else 1)) = n.toInt32 then (1 : Int32) else 0)), (.ref a)])) _
      refine X32.putfieldN (pc' := 191) (v' := (.int (nar .boolean (if (((1 : Int32) + (if a1.toInt32 = (0 : Int32) then (0 : Int32) else 1)) + (if c1.toInt32 = a1.toInt32 then (0 : Int32) else 1)) = n.toInt32 then (1 : Int32) else 0)))) (wd_134 hw) Via.refl FchecksWhole_a_23 E_a_23 (Or.inr ⟨(wd_135 hw), rfl, rfl⟩) (wd_97 hw) (ty := .boolean) (by decide) rfl (fits_nar_bool _) d17_188 rfl (Or.inl (by simp)) (fun T34 h34 X34 W34 => ?_)
      have Fw34 := Fld.same W34 FchecksWhole_a_23
      have E_a_34 := Exa.wr W34 E_a_23
      have Fw4_34 := Fld.other W34 Fw4_23 (Or.inr (slot_ne (Or.inr (wd_106 hw)) (Or.inr (wd_135 hw)) (by decide) (t := (.array .int)) (t' := .boolean) (by decide) (by decide)))
      have Fw5_34 := Fld.other W34 Fw5_23 (Or.inr (slot_ne (Or.inr (wd_108 hw)) (Or.inr (wd_135 hw)) (by decide) (t := .int) (t' := .boolean) (by decide) (by decide)))
      have Fw8_34 := Fld.other W34 Fw8_23 (Or.inr (slot_ne (Or.inr (wd_115 hw)) (Or.inr (wd_135 hw)) (by decide) (t := .int) (t' := .boolean) (by decide) (by decide)))
      have Fw10_34 := Fld.other W34 Fw10_23 (Or.inr (slot_ne (Or.inr (wd_117 hw)) (Or.inr (wd_135 hw)) (by decide) (t := .int) (t' := .boolean) (by decide) (by decide)))
      have Fw12_34 := Fld.other W34 Fw12_23 (Or.inr (slot_ne (Or.inr (wd_120 hw)) (Or.inr (wd_135 hw)) (by decide) (t := .int) (t' := .boolean) (by decide) (by decide)))
      have Fw14_34 := Fld.other W34 Fw14_23 (Or.inr (slot_ne (Or.inr (wd_127 hw)) (Or.inr (wd_135 hw)) (by decide) (t := .boolean) (t' := .boolean) (by decide) (by decide)))
      have Fw17_34 := Fld.other W34 Fw17_23 (Or.inr (slot_ne (Or.inr (wd_129 hw)) (Or.inr (wd_135 hw)) (by decide) (t := .char) (t' := .boolean) (by decide) (by decide)))
      have Fw20_34 := Fld.other W34 Fw20_23 (Or.inr (slot_ne (Or.inr (wd_131 hw)) (Or.inr (wd_135 hw)) (by decide) (t := .char) (t' := .boolean) (by decide) (by decide)))
      have Fw23_34 := Fld.other W34 Fw23 (Or.inr (slot_ne (Or.inr (wd_133 hw)) (Or.inr (wd_135 hw)) (by decide) (t := .char) (t' := .boolean) (by decide) (by decide)))
      have Sm_34 := Sta.wr W34 Sm_23
      have Vm_34 := Vm_23.other W34 hnc
      have Sc_34 := Sta.wr W34 Sc_23
      have Sf_34 := Sta.wr W34 Sf_23
      have Vp_34 := Vp_23.other W34 hne
      have Se_34 := Sta.wr W34 Se_23
      have Es_34 := Exa.wr W34 Es_23
      have Fan_34 := Fld.other W34 Fan_23 (Or.inl (Ne.symm ne_a_sp))
      have Fch_34 := Fld.other W34 Fch_23 (Or.inl (Ne.symm ne_a_sp))
      have Ffi_34 := Fld.other W34 Ffi_23 (Or.inl (Ne.symm ne_a_sp))
      have Fpc_34 := Fld.other W34 Fpc_23 (Or.inl (Ne.symm ne_a_sp))
      exact X34.vreturn rfl d17_191 (by decide) (by decide) ⟨rfl, _, E_a_34, Fw34, Fw5_34, Fw4_34, fun q => own_cov n hn6 a1 ha1 c1 hc1 (by rw [if_neg hc26]; exact own_nz q)⟩
  · refine X6.ifNo (pc' := 33) d17_30 (feq hc7).1 rfl ?_
    refine X6.iconst (pc' := 34) (z := 0) d17_33 rfl rfl ?_
    refine X6.goto (pc' := 38) d17_34 (by decide) (by decide) ?_
    refine X6.putfield (pc' := 41) (host := "") (Or.inl (wd_114 hw)) Via.refl Flead_a_5 E_a_5 (Or.inr ⟨(wd_115 hw), rfl, rfl⟩) (wd_97 hw) (ty := .int) (by decide) rfl rfl d17_38 rfl (Or.inl (by simp)) (fun T35 h35 X35 W35 => ?_)
    have Fw35 := Fld.same W35 Flead_a_5
    have E_a_35 := Exa.wr W35 E_a_5
    have Fw4_35 := Fld.other W35 Fw4_5 (Or.inr (slot_ne (Or.inr (wd_106 hw)) (Or.inr (wd_115 hw)) (by decide) (t := (.array .int)) (t' := .int) (by decide) (by decide)))
    have Fw5_35 := Fld.other W35 Fw5 (Or.inr (slot_ne (Or.inr (wd_108 hw)) (Or.inr (wd_115 hw)) (by decide) (t := .int) (t' := .int) (by decide) (by decide)))
    have Fbeside_a_35 := Fld.other W35 Fbeside_a_5 (Or.inr (slot_ne (Or.inr (wd_117 hw)) (Or.inr (wd_115 hw)) (by decide) (t := .int) (t' := .int) (by decide) (by decide)))
    have Fcheck_a_35 := Fld.other W35 Fcheck_a_5 (Or.inr (slot_ne (Or.inr (wd_120 hw)) (Or.inr (wd_115 hw)) (by decide) (t := .int) (t' := .int) (by decide) (by decide)))
    have Fpaired_a_35 := Fld.other W35 Fpaired_a_5 (Or.inr (slot_ne (Or.inr (wd_127 hw)) (Or.inr (wd_115 hw)) (by decide) (t := .boolean) (t' := .int) (by decide) (by decide)))
    have FleadSymbol_a_35 := Fld.other W35 FleadSymbol_a_5 (Or.inr (slot_ne (Or.inr (wd_129 hw)) (Or.inr (wd_115 hw)) (by decide) (t := .char) (t' := .int) (by decide) (by decide)))
    have FbesideSymbol_a_35 := Fld.other W35 FbesideSymbol_a_5 (Or.inr (slot_ne (Or.inr (wd_131 hw)) (Or.inr (wd_115 hw)) (by decide) (t := .char) (t' := .int) (by decide) (by decide)))
    have Fchecked_a_35 := Fld.other W35 Fchecked_a_5 (Or.inr (slot_ne (Or.inr (wd_133 hw)) (Or.inr (wd_115 hw)) (by decide) (t := .char) (t' := .int) (by decide) (by decide)))
    have FchecksWhole_a_35 := Fld.other W35 FchecksWhole_a_5 (Or.inr (slot_ne (Or.inr (wd_135 hw)) (Or.inr (wd_115 hw)) (by decide) (t := .boolean) (t' := .int) (by decide) (by decide)))
    have Sm_35 := Sta.wr W35 Sm_5
    have Vm_35 := Vm_5.other W35 hnc
    have Sc_35 := Sta.wr W35 Sc_5
    have Sf_35 := Sta.wr W35 Sf_5
    have Vp_35 := Vp_5.other W35 hne
    have Se_35 := Sta.wr W35 Se_5
    have Es_35 := Exa.wr W35 Es_5
    have Fan_35 := Fld.other W35 Fan_5 (Or.inl (Ne.symm ne_a_sp))
    have Fch_35 := Fld.other W35 Fch_5 (Or.inl (Ne.symm ne_a_sp))
    have Ffi_35 := Fld.other W35 Ffi_5 (Or.inl (Ne.symm ne_a_sp))
    have Fpc_35 := Fld.other W35 Fpc_5 (Or.inl (Ne.symm ne_a_sp))
    refine X35.aloadN (pc' := 42) d17_41 rfl rfl rfl ?_
    refine X35.aloadN (pc' := 43) d17_42 rfl rfl rfl ?_
    refine X35.virtual (pc' := 46) (W := 1) (a := sp) (argsL := []) (rest := [(.ref a)]) (ctg_firstIsRarer l Z a0 hw sp f1 h35 Ffi_35 z1) (wd_109 hw) (wd_110 hw) (fun _ q => notFace_of_selects q) (wd_112 hw) (wd_111 hw) (wd_9 hw) (wd_113 hw) (by decide) Es_35 pd_12 rfl rfl rfl rfl d17_43 rfl (by decide) rfl (by decide) (by decide) (by decide) allWs0 (fun T36 h36 v36 X36 K36 Q36 => ?_)
    obtain ⟨rfl, rfl⟩ := Q36
    show Runs p e below (T36.setTop (mkF m 46 #[.val (.ref a), .val (.ref pa), .val (.ref sp), .val (.int a1.toInt32), .unset] [(.int f1), (.ref a)])) _
    refine X36.ifNo (pc' := 49) d17_46 (feq hc7).1 rfl ?_
    refine X36.iloadN (pc' := 50) d17_49 rfl rfl ?_
    refine X36.goto (pc' := 54) d17_50 (by decide) (by decide) ?_
    refine X36.putfield (pc' := 57) (host := "") (Or.inl (wd_116 hw)) Via.refl Fbeside_a_35 E_a_35 (Or.inr ⟨(wd_117 hw), rfl, rfl⟩) (wd_97 hw) (ty := .int) (by decide) rfl rfl d17_54 rfl (Or.inl (by simp)) (fun T37 h37 X37 W37 => ?_)
    have Fw37 := Fld.same W37 Fbeside_a_35
    have E_a_37 := Exa.wr W37 E_a_35
    have Fw4_37 := Fld.other W37 Fw4_35 (Or.inr (slot_ne (Or.inr (wd_106 hw)) (Or.inr (wd_117 hw)) (by decide) (t := (.array .int)) (t' := .int) (by decide) (by decide)))
    have Fw5_37 := Fld.other W37 Fw5_35 (Or.inr (slot_ne (Or.inr (wd_108 hw)) (Or.inr (wd_117 hw)) (by decide) (t := .int) (t' := .int) (by decide) (by decide)))
    have Fw35_37 := Fld.other W37 Fw35 (Or.inr (slot_ne (Or.inr (wd_115 hw)) (Or.inr (wd_117 hw)) (by decide) (t := .int) (t' := .int) (by decide) (by decide)))
    have Fcheck_a_37 := Fld.other W37 Fcheck_a_35 (Or.inr (slot_ne (Or.inr (wd_120 hw)) (Or.inr (wd_117 hw)) (by decide) (t := .int) (t' := .int) (by decide) (by decide)))
    have Fpaired_a_37 := Fld.other W37 Fpaired_a_35 (Or.inr (slot_ne (Or.inr (wd_127 hw)) (Or.inr (wd_117 hw)) (by decide) (t := .boolean) (t' := .int) (by decide) (by decide)))
    have FleadSymbol_a_37 := Fld.other W37 FleadSymbol_a_35 (Or.inr (slot_ne (Or.inr (wd_129 hw)) (Or.inr (wd_117 hw)) (by decide) (t := .char) (t' := .int) (by decide) (by decide)))
    have FbesideSymbol_a_37 := Fld.other W37 FbesideSymbol_a_35 (Or.inr (slot_ne (Or.inr (wd_131 hw)) (Or.inr (wd_117 hw)) (by decide) (t := .char) (t' := .int) (by decide) (by decide)))
    have Fchecked_a_37 := Fld.other W37 Fchecked_a_35 (Or.inr (slot_ne (Or.inr (wd_133 hw)) (Or.inr (wd_117 hw)) (by decide) (t := .char) (t' := .int) (by decide) (by decide)))
    have FchecksWhole_a_37 := Fld.other W37 FchecksWhole_a_35 (Or.inr (slot_ne (Or.inr (wd_135 hw)) (Or.inr (wd_117 hw)) (by decide) (t := .boolean) (t' := .int) (by decide) (by decide)))
    have Sm_37 := Sta.wr W37 Sm_35
    have Vm_37 := Vm_35.other W37 hnc
    have Sc_37 := Sta.wr W37 Sc_35
    have Sf_37 := Sta.wr W37 Sf_35
    have Vp_37 := Vp_35.other W37 hne
    have Se_37 := Sta.wr W37 Se_35
    have Es_37 := Exa.wr W37 Es_35
    have Fan_37 := Fld.other W37 Fan_35 (Or.inl (Ne.symm ne_a_sp))
    have Fch_37 := Fld.other W37 Fch_35 (Or.inl (Ne.symm ne_a_sp))
    have Ffi_37 := Fld.other W37 Ffi_35 (Or.inl (Ne.symm ne_a_sp))
    have Fpc_37 := Fld.other W37 Fpc_35 (Or.inl (Ne.symm ne_a_sp))
    refine X37.aloadN (pc' := 58) d17_57 rfl rfl rfl ?_
    refine X37.aloadN (pc' := 59) d17_58 rfl rfl rfl ?_
    refine X37.virtual (pc' := 62) (W := 1) (a := sp) (argsL := []) (rest := [(.ref a)]) (ctg_check l Z a0 hw sp c1.toInt32 h37 Fch_37) (wd_118 hw) (wd_92 hw) (fun _ q => notFace_of_selects q) (wd_94 hw) (wd_93 hw) (wd_9 hw) (wd_95 hw) (by decide) Es_37 pd_11 rfl rfl rfl rfl d17_59 rfl (by decide) rfl (by decide) (by decide) (by decide) allWs0 (fun T38 h38 v38 X38 K38 Q38 => ?_)
    obtain ⟨rfl, rfl⟩ := Q38
    show Runs p e below (T38.setTop (mkF m 62 #[.val (.ref a), .val (.ref pa), .val (.ref sp), .val (.int a1.toInt32), .unset] [(.int c1.toInt32), (.ref a)])) _
    refine X38.putfield (pc' := 65) (host := "") (Or.inl (wd_119 hw)) Via.refl Fcheck_a_37 E_a_37 (Or.inr ⟨(wd_120 hw), rfl, rfl⟩) (wd_97 hw) (ty := .int) (by decide) rfl rfl d17_62 rfl (Or.inl (by simp)) (fun T39 h39 X39 W39 => ?_)
    have Fw39 := Fld.same W39 Fcheck_a_37
    have E_a_39 := Exa.wr W39 E_a_37
    have Fw4_39 := Fld.other W39 Fw4_37 (Or.inr (slot_ne (Or.inr (wd_106 hw)) (Or.inr (wd_120 hw)) (by decide) (t := (.array .int)) (t' := .int) (by decide) (by decide)))
    have Fw5_39 := Fld.other W39 Fw5_37 (Or.inr (slot_ne (Or.inr (wd_108 hw)) (Or.inr (wd_120 hw)) (by decide) (t := .int) (t' := .int) (by decide) (by decide)))
    have Fw35_39 := Fld.other W39 Fw35_37 (Or.inr (slot_ne (Or.inr (wd_115 hw)) (Or.inr (wd_120 hw)) (by decide) (t := .int) (t' := .int) (by decide) (by decide)))
    have Fw37_39 := Fld.other W39 Fw37 (Or.inr (slot_ne (Or.inr (wd_117 hw)) (Or.inr (wd_120 hw)) (by decide) (t := .int) (t' := .int) (by decide) (by decide)))
    have Fpaired_a_39 := Fld.other W39 Fpaired_a_37 (Or.inr (slot_ne (Or.inr (wd_127 hw)) (Or.inr (wd_120 hw)) (by decide) (t := .boolean) (t' := .int) (by decide) (by decide)))
    have FleadSymbol_a_39 := Fld.other W39 FleadSymbol_a_37 (Or.inr (slot_ne (Or.inr (wd_129 hw)) (Or.inr (wd_120 hw)) (by decide) (t := .char) (t' := .int) (by decide) (by decide)))
    have FbesideSymbol_a_39 := Fld.other W39 FbesideSymbol_a_37 (Or.inr (slot_ne (Or.inr (wd_131 hw)) (Or.inr (wd_120 hw)) (by decide) (t := .char) (t' := .int) (by decide) (by decide)))
    have Fchecked_a_39 := Fld.other W39 Fchecked_a_37 (Or.inr (slot_ne (Or.inr (wd_133 hw)) (Or.inr (wd_120 hw)) (by decide) (t := .char) (t' := .int) (by decide) (by decide)))
    have FchecksWhole_a_39 := Fld.other W39 FchecksWhole_a_37 (Or.inr (slot_ne (Or.inr (wd_135 hw)) (Or.inr (wd_120 hw)) (by decide) (t := .boolean) (t' := .int) (by decide) (by decide)))
    have Sm_39 := Sta.wr W39 Sm_37
    have Vm_39 := Vm_37.other W39 hnc
    have Sc_39 := Sta.wr W39 Sc_37
    have Sf_39 := Sta.wr W39 Sf_37
    have Vp_39 := Vp_37.other W39 hne
    have Se_39 := Sta.wr W39 Se_37
    have Es_39 := Exa.wr W39 Es_37
    have Fan_39 := Fld.other W39 Fan_37 (Or.inl (Ne.symm ne_a_sp))
    have Fch_39 := Fld.other W39 Fch_37 (Or.inl (Ne.symm ne_a_sp))
    have Ffi_39 := Fld.other W39 Ffi_37 (Or.inl (Ne.symm ne_a_sp))
    have Fpc_39 := Fld.other W39 Fpc_37 (Or.inl (Ne.symm ne_a_sp))
    refine X39.aloadN (pc' := 66) d17_65 rfl rfl rfl ?_
    refine X39.aloadN (pc' := 67) d17_66 rfl rfl rfl ?_
    refine X39.virtual (pc' := 70) (W := 1) (a := sp) (argsL := []) (rest := [(.ref a)]) (ctg_pairsCheck l Z a0 hw sp p1 h39 Fpc_39 z2) (wd_121 hw) (wd_122 hw) (fun _ q => notFace_of_selects q) (wd_124 hw) (wd_123 hw) (wd_9 hw) (wd_125 hw) (by decide) Es_39 pd_12 rfl rfl rfl rfl d17_67 rfl (by decide) rfl (by decide) (by decide) (by decide) allWs0 (fun T40 h40 v40 X40 K40 Q40 => ?_)
    obtain ⟨rfl, rfl⟩ := Q40
    show Runs p e below (T40.setTop (mkF m 70 #[.val (.ref a), .val (.ref pa), .val (.ref sp), .val (.int a1.toInt32), .unset] [(.int p1), (.ref a)])) _
    refine X40.putfieldN (pc' := 73) (v' := (.int (nar .boolean p1))) (wd_126 hw) Via.refl Fpaired_a_39 E_a_39 (Or.inr ⟨(wd_127 hw), rfl, rfl⟩) (wd_97 hw) (ty := .boolean) (by decide) rfl (fits_nar_bool _) d17_70 rfl (Or.inl (by simp)) (fun T41 h41 X41 W41 => ?_)
    have Fw41 := Fld.same W41 Fpaired_a_39
    have E_a_41 := Exa.wr W41 E_a_39
    have Fw4_41 := Fld.other W41 Fw4_39 (Or.inr (slot_ne (Or.inr (wd_106 hw)) (Or.inr (wd_127 hw)) (by decide) (t := (.array .int)) (t' := .boolean) (by decide) (by decide)))
    have Fw5_41 := Fld.other W41 Fw5_39 (Or.inr (slot_ne (Or.inr (wd_108 hw)) (Or.inr (wd_127 hw)) (by decide) (t := .int) (t' := .boolean) (by decide) (by decide)))
    have Fw35_41 := Fld.other W41 Fw35_39 (Or.inr (slot_ne (Or.inr (wd_115 hw)) (Or.inr (wd_127 hw)) (by decide) (t := .int) (t' := .boolean) (by decide) (by decide)))
    have Fw37_41 := Fld.other W41 Fw37_39 (Or.inr (slot_ne (Or.inr (wd_117 hw)) (Or.inr (wd_127 hw)) (by decide) (t := .int) (t' := .boolean) (by decide) (by decide)))
    have Fw39_41 := Fld.other W41 Fw39 (Or.inr (slot_ne (Or.inr (wd_120 hw)) (Or.inr (wd_127 hw)) (by decide) (t := .int) (t' := .boolean) (by decide) (by decide)))
    have FleadSymbol_a_41 := Fld.other W41 FleadSymbol_a_39 (Or.inr (slot_ne (Or.inr (wd_129 hw)) (Or.inr (wd_127 hw)) (by decide) (t := .char) (t' := .boolean) (by decide) (by decide)))
    have FbesideSymbol_a_41 := Fld.other W41 FbesideSymbol_a_39 (Or.inr (slot_ne (Or.inr (wd_131 hw)) (Or.inr (wd_127 hw)) (by decide) (t := .char) (t' := .boolean) (by decide) (by decide)))
    have Fchecked_a_41 := Fld.other W41 Fchecked_a_39 (Or.inr (slot_ne (Or.inr (wd_133 hw)) (Or.inr (wd_127 hw)) (by decide) (t := .char) (t' := .boolean) (by decide) (by decide)))
    have FchecksWhole_a_41 := Fld.other W41 FchecksWhole_a_39 (Or.inr (slot_ne (Or.inr (wd_135 hw)) (Or.inr (wd_127 hw)) (by decide) (t := .boolean) (t' := .boolean) (by decide) (by decide)))
    have Sm_41 := Sta.wr W41 Sm_39
    have Vm_41 := Vm_39.other W41 hnc
    have Sc_41 := Sta.wr W41 Sc_39
    have Sf_41 := Sta.wr W41 Sf_39
    have Vp_41 := Vp_39.other W41 hne
    have Se_41 := Sta.wr W41 Se_39
    have Es_41 := Exa.wr W41 Es_39
    have Fan_41 := Fld.other W41 Fan_39 (Or.inl (Ne.symm ne_a_sp))
    have Fch_41 := Fld.other W41 Fch_39 (Or.inl (Ne.symm ne_a_sp))
    have Ffi_41 := Fld.other W41 Ffi_39 (Or.inl (Ne.symm ne_a_sp))
    have Fpc_41 := Fld.other W41 Fpc_39 (Or.inl (Ne.symm ne_a_sp))
    refine X41.aloadN (pc' := 74) d17_73 rfl rfl rfl ?_
    refine X41.aloadN (pc' := 75) d17_74 rfl rfl rfl ?_
    refine X41.getfield (pc' := 78) (host := "") (Or.inl (wd_107 hw)) Via.refl Fw5_41 d17_75 rfl (fun T42 X42 => ?_)
    refine X42.ifNo (pc' := 81) d17_78 (tlt (own_n0 hn hN)).2.2.2 rfl ?_
    refine X42.aloadN (pc' := 82) d17_81 rfl rfl rfl ?_
    refine X42.aloadN (pc' := 83) d17_82 rfl rfl rfl ?_
    refine X42.getfield (pc' := 86) (host := "") (Or.inl (wd_114 hw)) Via.refl Fw35_41 d17_83 rfl (fun T43 X43 => ?_)
    refine X43.iaload (pc' := 87) (v := (.int (P 0))) Vp_41 (own_il rfl hn) (own_tn_at (own_ilt rfl) hn) d17_86 rfl ?_
    refine X43.i2c (pc' := 88) d17_87 rfl ?_
    refine X43.goto (pc' := 92) d17_88 (by decide) (by decide) ?_
    refine X43.putfieldN (pc' := 95) (v' := (.int (nar .char ((P 0).toUInt32.toUInt16.toUInt32.toInt32)))) (wd_128 hw) Via.refl FleadSymbol_a_41 E_a_41 (Or.inr ⟨(wd_129 hw), rfl, rfl⟩) (wd_97 hw) (ty := .char) (by decide) rfl (fits_nar_char _) d17_92 rfl (Or.inl (by simp)) (fun T44 h44 X44 W44 => ?_)
    have Fw44 := Fld.same W44 FleadSymbol_a_41
    have E_a_44 := Exa.wr W44 E_a_41
    have Fw4_44 := Fld.other W44 Fw4_41 (Or.inr (slot_ne (Or.inr (wd_106 hw)) (Or.inr (wd_129 hw)) (by decide) (t := (.array .int)) (t' := .char) (by decide) (by decide)))
    have Fw5_44 := Fld.other W44 Fw5_41 (Or.inr (slot_ne (Or.inr (wd_108 hw)) (Or.inr (wd_129 hw)) (by decide) (t := .int) (t' := .char) (by decide) (by decide)))
    have Fw35_44 := Fld.other W44 Fw35_41 (Or.inr (slot_ne (Or.inr (wd_115 hw)) (Or.inr (wd_129 hw)) (by decide) (t := .int) (t' := .char) (by decide) (by decide)))
    have Fw37_44 := Fld.other W44 Fw37_41 (Or.inr (slot_ne (Or.inr (wd_117 hw)) (Or.inr (wd_129 hw)) (by decide) (t := .int) (t' := .char) (by decide) (by decide)))
    have Fw39_44 := Fld.other W44 Fw39_41 (Or.inr (slot_ne (Or.inr (wd_120 hw)) (Or.inr (wd_129 hw)) (by decide) (t := .int) (t' := .char) (by decide) (by decide)))
    have Fw41_44 := Fld.other W44 Fw41 (Or.inr (slot_ne (Or.inr (wd_127 hw)) (Or.inr (wd_129 hw)) (by decide) (t := .boolean) (t' := .char) (by decide) (by decide)))
    have FbesideSymbol_a_44 := Fld.other W44 FbesideSymbol_a_41 (Or.inr (slot_ne (Or.inr (wd_131 hw)) (Or.inr (wd_129 hw)) (by decide) (t := .char) (t' := .char) (by decide) (by decide)))
    have Fchecked_a_44 := Fld.other W44 Fchecked_a_41 (Or.inr (slot_ne (Or.inr (wd_133 hw)) (Or.inr (wd_129 hw)) (by decide) (t := .char) (t' := .char) (by decide) (by decide)))
    have FchecksWhole_a_44 := Fld.other W44 FchecksWhole_a_41 (Or.inr (slot_ne (Or.inr (wd_135 hw)) (Or.inr (wd_129 hw)) (by decide) (t := .boolean) (t' := .char) (by decide) (by decide)))
    have Sm_44 := Sta.wr W44 Sm_41
    have Vm_44 := Vm_41.other W44 hnc
    have Sc_44 := Sta.wr W44 Sc_41
    have Sf_44 := Sta.wr W44 Sf_41
    have Vp_44 := Vp_41.other W44 hne
    have Se_44 := Sta.wr W44 Se_41
    have Es_44 := Exa.wr W44 Es_41
    have Fan_44 := Fld.other W44 Fan_41 (Or.inl (Ne.symm ne_a_sp))
    have Fch_44 := Fld.other W44 Fch_41 (Or.inl (Ne.symm ne_a_sp))
    have Ffi_44 := Fld.other W44 Ffi_41 (Or.inl (Ne.symm ne_a_sp))
    have Fpc_44 := Fld.other W44 Fpc_41 (Or.inl (Ne.symm ne_a_sp))
    refine X44.aloadN (pc' := 96) d17_95 rfl rfl rfl ?_
    refine X44.aloadN (pc' := 97) d17_96 rfl rfl rfl ?_
    refine X44.getfield (pc' := 100) (host := "") (Or.inl (wd_107 hw)) Via.refl Fw5_44 d17_97 rfl (fun T45 X45 => ?_)
    refine X45.ifNo (pc' := 103) d17_100 (tlt (own_n0 hn hN)).2.2.2 rfl ?_
    refine X45.aloadN (pc' := 104) d17_103 rfl rfl rfl ?_
    refine X45.aloadN (pc' := 105) d17_104 rfl rfl rfl ?_
    refine X45.getfield (pc' := 108) (host := "") (Or.inl (wd_116 hw)) Via.refl Fw37_44 d17_105 rfl (fun T46 X46 => ?_)
    refine X46.iaload (pc' := 109) (v := (.int (P a1))) Vp_44 (own_il (own_i32 (by omega)) ha1) (own_tn_at (own_ilt (own_i32 (by omega))) ha1) d17_108 rfl ?_
    refine X46.i2c (pc' := 110) d17_109 rfl ?_
    refine X46.goto (pc' := 114) d17_110 (by decide) (by decide) ?_
    refine X46.putfieldN (pc' := 117) (v' := (.int (nar .char ((P a1).toUInt32.toUInt16.toUInt32.toInt32)))) (wd_130 hw) Via.refl FbesideSymbol_a_44 E_a_44 (Or.inr ⟨(wd_131 hw), rfl, rfl⟩) (wd_97 hw) (ty := .char) (by decide) rfl (fits_nar_char _) d17_114 rfl (Or.inl (by simp)) (fun T47 h47 X47 W47 => ?_)
    have Fw47 := Fld.same W47 FbesideSymbol_a_44
    have E_a_47 := Exa.wr W47 E_a_44
    have Fw4_47 := Fld.other W47 Fw4_44 (Or.inr (slot_ne (Or.inr (wd_106 hw)) (Or.inr (wd_131 hw)) (by decide) (t := (.array .int)) (t' := .char) (by decide) (by decide)))
    have Fw5_47 := Fld.other W47 Fw5_44 (Or.inr (slot_ne (Or.inr (wd_108 hw)) (Or.inr (wd_131 hw)) (by decide) (t := .int) (t' := .char) (by decide) (by decide)))
    have Fw35_47 := Fld.other W47 Fw35_44 (Or.inr (slot_ne (Or.inr (wd_115 hw)) (Or.inr (wd_131 hw)) (by decide) (t := .int) (t' := .char) (by decide) (by decide)))
    have Fw37_47 := Fld.other W47 Fw37_44 (Or.inr (slot_ne (Or.inr (wd_117 hw)) (Or.inr (wd_131 hw)) (by decide) (t := .int) (t' := .char) (by decide) (by decide)))
    have Fw39_47 := Fld.other W47 Fw39_44 (Or.inr (slot_ne (Or.inr (wd_120 hw)) (Or.inr (wd_131 hw)) (by decide) (t := .int) (t' := .char) (by decide) (by decide)))
    have Fw41_47 := Fld.other W47 Fw41_44 (Or.inr (slot_ne (Or.inr (wd_127 hw)) (Or.inr (wd_131 hw)) (by decide) (t := .boolean) (t' := .char) (by decide) (by decide)))
    have Fw44_47 := Fld.other W47 Fw44 (Or.inr (slot_ne (Or.inr (wd_129 hw)) (Or.inr (wd_131 hw)) (by decide) (t := .char) (t' := .char) (by decide) (by decide)))
    have Fchecked_a_47 := Fld.other W47 Fchecked_a_44 (Or.inr (slot_ne (Or.inr (wd_133 hw)) (Or.inr (wd_131 hw)) (by decide) (t := .char) (t' := .char) (by decide) (by decide)))
    have FchecksWhole_a_47 := Fld.other W47 FchecksWhole_a_44 (Or.inr (slot_ne (Or.inr (wd_135 hw)) (Or.inr (wd_131 hw)) (by decide) (t := .boolean) (t' := .char) (by decide) (by decide)))
    have Sm_47 := Sta.wr W47 Sm_44
    have Vm_47 := Vm_44.other W47 hnc
    have Sc_47 := Sta.wr W47 Sc_44
    have Sf_47 := Sta.wr W47 Sf_44
    have Vp_47 := Vp_44.other W47 hne
    have Se_47 := Sta.wr W47 Se_44
    have Es_47 := Exa.wr W47 Es_44
    have Fan_47 := Fld.other W47 Fan_44 (Or.inl (Ne.symm ne_a_sp))
    have Fch_47 := Fld.other W47 Fch_44 (Or.inl (Ne.symm ne_a_sp))
    have Ffi_47 := Fld.other W47 Ffi_44 (Or.inl (Ne.symm ne_a_sp))
    have Fpc_47 := Fld.other W47 Fpc_44 (Or.inl (Ne.symm ne_a_sp))
    refine X47.aloadN (pc' := 118) d17_117 rfl rfl rfl ?_
    refine X47.aloadN (pc' := 119) d17_118 rfl rfl rfl ?_
    refine X47.getfield (pc' := 122) (host := "") (Or.inl (wd_107 hw)) Via.refl Fw5_47 d17_119 rfl (fun T48 X48 => ?_)
    refine X48.ifNo (pc' := 125) d17_122 (tlt (own_n0 hn hN)).2.2.2 rfl ?_
    refine X48.aloadN (pc' := 126) d17_125 rfl rfl rfl ?_
    refine X48.aloadN (pc' := 127) d17_126 rfl rfl rfl ?_
    refine X48.getfield (pc' := 130) (host := "") (Or.inl (wd_119 hw)) Via.refl Fw39_47 d17_127 rfl (fun T49 X49 => ?_)
    refine X49.iaload (pc' := 131) (v := (.int (P c1))) Vp_47 (own_il (own_i32 (by omega)) hc1) (own_tn_at (own_ilt (own_i32 (by omega))) hc1) d17_130 rfl ?_
    refine X49.i2c (pc' := 132) d17_131 rfl ?_
    refine X49.goto (pc' := 136) d17_132 (by decide) (by decide) ?_
    refine X49.putfieldN (pc' := 139) (v' := (.int (nar .char ((P c1).toUInt32.toUInt16.toUInt32.toInt32)))) (wd_132 hw) Via.refl Fchecked_a_47 E_a_47 (Or.inr ⟨(wd_133 hw), rfl, rfl⟩) (wd_97 hw) (ty := .char) (by decide) rfl (fits_nar_char _) d17_136 rfl (Or.inl (by simp)) (fun T50 h50 X50 W50 => ?_)
    have Fw50 := Fld.same W50 Fchecked_a_47
    have E_a_50 := Exa.wr W50 E_a_47
    have Fw4_50 := Fld.other W50 Fw4_47 (Or.inr (slot_ne (Or.inr (wd_106 hw)) (Or.inr (wd_133 hw)) (by decide) (t := (.array .int)) (t' := .char) (by decide) (by decide)))
    have Fw5_50 := Fld.other W50 Fw5_47 (Or.inr (slot_ne (Or.inr (wd_108 hw)) (Or.inr (wd_133 hw)) (by decide) (t := .int) (t' := .char) (by decide) (by decide)))
    have Fw35_50 := Fld.other W50 Fw35_47 (Or.inr (slot_ne (Or.inr (wd_115 hw)) (Or.inr (wd_133 hw)) (by decide) (t := .int) (t' := .char) (by decide) (by decide)))
    have Fw37_50 := Fld.other W50 Fw37_47 (Or.inr (slot_ne (Or.inr (wd_117 hw)) (Or.inr (wd_133 hw)) (by decide) (t := .int) (t' := .char) (by decide) (by decide)))
    have Fw39_50 := Fld.other W50 Fw39_47 (Or.inr (slot_ne (Or.inr (wd_120 hw)) (Or.inr (wd_133 hw)) (by decide) (t := .int) (t' := .char) (by decide) (by decide)))
    have Fw41_50 := Fld.other W50 Fw41_47 (Or.inr (slot_ne (Or.inr (wd_127 hw)) (Or.inr (wd_133 hw)) (by decide) (t := .boolean) (t' := .char) (by decide) (by decide)))
    have Fw44_50 := Fld.other W50 Fw44_47 (Or.inr (slot_ne (Or.inr (wd_129 hw)) (Or.inr (wd_133 hw)) (by decide) (t := .char) (t' := .char) (by decide) (by decide)))
    have Fw47_50 := Fld.other W50 Fw47 (Or.inr (slot_ne (Or.inr (wd_131 hw)) (Or.inr (wd_133 hw)) (by decide) (t := .char) (t' := .char) (by decide) (by decide)))
    have FchecksWhole_a_50 := Fld.other W50 FchecksWhole_a_47 (Or.inr (slot_ne (Or.inr (wd_135 hw)) (Or.inr (wd_133 hw)) (by decide) (t := .boolean) (t' := .char) (by decide) (by decide)))
    have Sm_50 := Sta.wr W50 Sm_47
    have Vm_50 := Vm_47.other W50 hnc
    have Sc_50 := Sta.wr W50 Sc_47
    have Sf_50 := Sta.wr W50 Sf_47
    have Vp_50 := Vp_47.other W50 hne
    have Se_50 := Sta.wr W50 Se_47
    have Es_50 := Exa.wr W50 Es_47
    have Fan_50 := Fld.other W50 Fan_47 (Or.inl (Ne.symm ne_a_sp))
    have Fch_50 := Fld.other W50 Fch_47 (Or.inl (Ne.symm ne_a_sp))
    have Ffi_50 := Fld.other W50 Ffi_47 (Or.inl (Ne.symm ne_a_sp))
    have Fpc_50 := Fld.other W50 Fpc_47 (Or.inl (Ne.symm ne_a_sp))
    refine X50.iconst (pc' := 140) (z := 1) d17_139 rfl rfl ?_
    refine X50.iloadN (pc' := 141) d17_140 rfl rfl ?_
    refine Runs.dia (P := a1.toInt32 = (0 : Int32)) (B := fun zq : Int32 => T50.setTop (mkF m 149 #[.val (.ref a), .val (.ref pa), .val (.ref sp), .val (.int a1.toInt32), .unset] (.int zq :: [(.int (1 : Int32))]))) (vt := 0) (vf := 1) (fun hc51 k => ?_) (fun hc51 k => ?_) ?_
    · refine X50.ifYes (pc' := 148) d17_141 (teq hc51).1 (by decide) (by decide) ?_
      refine X50.iconst (pc' := 149) (z := 0) d17_148 rfl rfl ?_
      exact k
    · refine X50.ifNo (pc' := 144) d17_141 (feq hc51).1 rfl ?_
      refine X50.iconst (pc' := 145) (z := 1) d17_144 rfl rfl ?_
      refine X50.goto (pc' := 149) d17_145 (by decide) (by decide) ?_
      exact k
    show Runs p e below (T50.setTop (mkF m 149 #[.val (.ref a), .val (.ref pa), .val (.ref sp), .val (.int a1.toInt32), .unset] [(.int (if a1.toInt32 = (0 : Int32) then (0 : Int32) else 1)), (.int (1 : Int32))])) _
    refine X50.iadd (pc' := 150) d17_149 rfl ?_
    refine X50.aloadN (pc' := 151) d17_150 rfl rfl rfl ?_
    refine X50.getfield (pc' := 154) (host := "") (Or.inl (wd_119 hw)) Via.refl Fw39_50 d17_151 rfl (fun T52 X52 => ?_)
    by_cases hc53 : c1.toInt32 = (0 : Int32)
    · refine X52.ifYes (pc' := 169) d17_154 (teq hc53).1 (by decide) (by decide) ?_
      refine X52.iconst (pc' := 170) (z := 0) d17_169 rfl rfl ?_
      refine X52.iadd (pc' := 171) d17_170 rfl ?_
      refine X52.istore (pc' := 173) (l' := #[.val (.ref a), .val (.ref pa), .val (.ref sp), .val (.int a1.toInt32), .val (.int (((1 : Int32) + (if a1.toInt32 = (0 : Int32) then (0 : Int32) else 1)) + (0 : Int32)))]) d17_171 rfl rfl ?_
      refine X52.aloadN (pc' := 174) d17_173 rfl rfl rfl ?_
      refine X52.iload (pc' := 176) d17_174 rfl rfl ?_
      refine X52.aloadN (pc' := 177) d17_176 rfl rfl rfl ?_
      refine X52.getfield (pc' := 180) (host := "") (Or.inl (wd_107 hw)) Via.refl Fw5_50 d17_177 rfl (fun T54 X54 => ?_)
      refine Runs.dia (P := (((1 : Int32) + (if a1.toInt32 = (0 : Int32) then (0 : Int32) else 1)) + (0 : Int32)) = n.toInt32) (B := fun zq : Int32 => T54.setTop (mkF m 188 #[.val (.ref a), .val (.ref pa), .val (.ref sp), .val (.int a1.toInt32), .val (.int (((1 : Int32) + (if a1.toInt32 = (0 : Int32) then (0 : Int32) else 1)) + (0 : Int32)))] (.int zq :: [(.ref a)]))) (vt := 1) (vf := 0) (fun hc55 k => ?_) (fun hc55 k => ?_) ?_
      · refine X54.icmpNo (pc' := 183) d17_180 (teq hc55).2 rfl ?_
        refine X54.iconst (pc' := 184) (z := 1) d17_183 rfl rfl ?_
        refine X54.goto (pc' := 188) d17_184 (by decide) (by decide) ?_
        exact k
      · refine X54.icmpYes (pc' := 187) d17_180 (feq hc55).2 (by decide) (by decide) ?_
        refine X54.iconst (pc' := 188) (z := 0) d17_187 rfl rfl ?_
        exact k
      show Runs p e below (T54.setTop (mkF m 188 #[.val (.ref a), .val (.ref pa), .val (.ref sp), .val (.int a1.toInt32), .val (.int (((1 : Int32) + (if a1.toInt32 = (0 : Int32) then (0 : Int32) else 1)) + (0 : Int32)))] [(.int (if (((1 : Int32) + (if a1.toInt32 = (0 : Int32) then (0 : Int32) else 1)) + (0 : Int32)) = n.toInt32 then (1 : Int32) else 0)), (.ref a)])) _
      refine X54.putfieldN (pc' := 191) (v' := (.int (nar .boolean (if (((1 : Int32) + (if a1.toInt32 = (0 : Int32) then (0 : Int32) else 1)) + (0 : Int32)) = n.toInt32 then (1 : Int32) else 0)))) (wd_134 hw) Via.refl FchecksWhole_a_50 E_a_50 (Or.inr ⟨(wd_135 hw), rfl, rfl⟩) (wd_97 hw) (ty := .boolean) (by decide) rfl (fits_nar_bool _) d17_188 rfl (Or.inl (by simp)) (fun T56 h56 X56 W56 => ?_)
      have Fw56 := Fld.same W56 FchecksWhole_a_50
      have E_a_56 := Exa.wr W56 E_a_50
      have Fw4_56 := Fld.other W56 Fw4_50 (Or.inr (slot_ne (Or.inr (wd_106 hw)) (Or.inr (wd_135 hw)) (by decide) (t := (.array .int)) (t' := .boolean) (by decide) (by decide)))
      have Fw5_56 := Fld.other W56 Fw5_50 (Or.inr (slot_ne (Or.inr (wd_108 hw)) (Or.inr (wd_135 hw)) (by decide) (t := .int) (t' := .boolean) (by decide) (by decide)))
      have Fw35_56 := Fld.other W56 Fw35_50 (Or.inr (slot_ne (Or.inr (wd_115 hw)) (Or.inr (wd_135 hw)) (by decide) (t := .int) (t' := .boolean) (by decide) (by decide)))
      have Fw37_56 := Fld.other W56 Fw37_50 (Or.inr (slot_ne (Or.inr (wd_117 hw)) (Or.inr (wd_135 hw)) (by decide) (t := .int) (t' := .boolean) (by decide) (by decide)))
      have Fw39_56 := Fld.other W56 Fw39_50 (Or.inr (slot_ne (Or.inr (wd_120 hw)) (Or.inr (wd_135 hw)) (by decide) (t := .int) (t' := .boolean) (by decide) (by decide)))
      have Fw41_56 := Fld.other W56 Fw41_50 (Or.inr (slot_ne (Or.inr (wd_127 hw)) (Or.inr (wd_135 hw)) (by decide) (t := .boolean) (t' := .boolean) (by decide) (by decide)))
      have Fw44_56 := Fld.other W56 Fw44_50 (Or.inr (slot_ne (Or.inr (wd_129 hw)) (Or.inr (wd_135 hw)) (by decide) (t := .char) (t' := .boolean) (by decide) (by decide)))
      have Fw47_56 := Fld.other W56 Fw47_50 (Or.inr (slot_ne (Or.inr (wd_131 hw)) (Or.inr (wd_135 hw)) (by decide) (t := .char) (t' := .boolean) (by decide) (by decide)))
      have Fw50_56 := Fld.other W56 Fw50 (Or.inr (slot_ne (Or.inr (wd_133 hw)) (Or.inr (wd_135 hw)) (by decide) (t := .char) (t' := .boolean) (by decide) (by decide)))
      have Sm_56 := Sta.wr W56 Sm_50
      have Vm_56 := Vm_50.other W56 hnc
      have Sc_56 := Sta.wr W56 Sc_50
      have Sf_56 := Sta.wr W56 Sf_50
      have Vp_56 := Vp_50.other W56 hne
      have Se_56 := Sta.wr W56 Se_50
      have Es_56 := Exa.wr W56 Es_50
      have Fan_56 := Fld.other W56 Fan_50 (Or.inl (Ne.symm ne_a_sp))
      have Fch_56 := Fld.other W56 Fch_50 (Or.inl (Ne.symm ne_a_sp))
      have Ffi_56 := Fld.other W56 Ffi_50 (Or.inl (Ne.symm ne_a_sp))
      have Fpc_56 := Fld.other W56 Fpc_50 (Or.inl (Ne.symm ne_a_sp))
      exact X56.vreturn rfl d17_191 (by decide) (by decide) ⟨rfl, _, E_a_56, Fw56, Fw5_56, Fw4_56, fun q => own_cov n hn6 a1 ha1 c1 hc1 (by rw [if_pos hc53]; exact own_nz q)⟩
    · refine X52.ifNo (pc' := 157) d17_154 (feq hc53).1 rfl ?_
      refine X52.aloadN (pc' := 158) d17_157 rfl rfl rfl ?_
      refine X52.getfield (pc' := 161) (host := "") (Or.inl (wd_119 hw)) Via.refl Fw39_50 d17_158 rfl (fun T57 X57 => ?_)
      refine X57.iloadN (pc' := 162) d17_161 rfl rfl ?_
      refine Runs.dia (P := c1.toInt32 = a1.toInt32) (B := fun zq : Int32 => T57.setTop (mkF m 170 #[.val (.ref a), .val (.ref pa), .val (.ref sp), .val (.int a1.toInt32), .unset] (.int zq :: [(.int ((1 : Int32) + (if a1.toInt32 = (0 : Int32) then (0 : Int32) else 1)))]))) (vt := 0) (vf := 1) (fun hc58 k => ?_) (fun hc58 k => ?_) ?_
      · refine X57.icmpYes (pc' := 169) d17_162 (teq hc58).1 (by decide) (by decide) ?_
        refine X57.iconst (pc' := 170) (z := 0) d17_169 rfl rfl ?_
        exact k
      · refine X57.icmpNo (pc' := 165) d17_162 (feq hc58).1 rfl ?_
        refine X57.iconst (pc' := 166) (z := 1) d17_165 rfl rfl ?_
        refine X57.goto (pc' := 170) d17_166 (by decide) (by decide) ?_
        exact k
      show Runs p e below (T57.setTop (mkF m 170 #[.val (.ref a), .val (.ref pa), .val (.ref sp), .val (.int a1.toInt32), .unset] [(.int (if c1.toInt32 = a1.toInt32 then (0 : Int32) else 1)), (.int ((1 : Int32) + (if a1.toInt32 = (0 : Int32) then (0 : Int32) else 1)))])) _
      refine X57.iadd (pc' := 171) d17_170 rfl ?_
      refine X57.istore (pc' := 173) (l' := #[.val (.ref a), .val (.ref pa), .val (.ref sp), .val (.int a1.toInt32), .val (.int (((1 : Int32) + (if a1.toInt32 = (0 : Int32) then (0 : Int32) else 1)) + (if c1.toInt32 = a1.toInt32 then (0 : Int32) else 1)))]) d17_171 rfl rfl ?_
      refine X57.aloadN (pc' := 174) d17_173 rfl rfl rfl ?_
      refine X57.iload (pc' := 176) d17_174 rfl rfl ?_
      refine X57.aloadN (pc' := 177) d17_176 rfl rfl rfl ?_
      refine X57.getfield (pc' := 180) (host := "") (Or.inl (wd_107 hw)) Via.refl Fw5_50 d17_177 rfl (fun T59 X59 => ?_)
      refine Runs.dia (P := (((1 : Int32) + (if a1.toInt32 = (0 : Int32) then (0 : Int32) else 1)) + (if c1.toInt32 = a1.toInt32 then (0 : Int32) else 1)) = n.toInt32) (B := fun zq : Int32 => T59.setTop (mkF m 188 #[.val (.ref a), .val (.ref pa), .val (.ref sp), .val (.int a1.toInt32), .val (.int (((1 : Int32) + (if a1.toInt32 = (0 : Int32) then (0 : Int32) else 1)) + (if c1.toInt32 = a1.toInt32 then (0 : Int32) else 1)))] (.int zq :: [(.ref a)]))) (vt := 1) (vf := 0) (fun hc60 k => ?_) (fun hc60 k => ?_) ?_
      · refine X59.icmpNo (pc' := 183) d17_180 (teq hc60).2 rfl ?_
        refine X59.iconst (pc' := 184) (z := 1) d17_183 rfl rfl ?_
        refine X59.goto (pc' := 188) d17_184 (by decide) (by decide) ?_
        exact k
      · refine X59.icmpYes (pc' := 187) d17_180 (feq hc60).2 (by decide) (by decide) ?_
        refine X59.iconst (pc' := 188) (z := 0) d17_187 rfl rfl ?_
        exact k
      show Runs p e below (T59.setTop (mkF m 188 #[.val (.ref a), .val (.ref pa), .val (.ref sp), .val (.int a1.toInt32), .val (.int (((1 : Int32) + (if a1.toInt32 = (0 : Int32) then (0 : Int32) else 1)) + (if c1.toInt32 = a1.toInt32 then (0 : Int32) else 1)))] [(.int (if (((1 : Int32) + (if a1.toInt32 = (0 : Int32) then (0 : Int32) else 1)) + (if c1.toInt32 = a1.toInt32 then (0 : Int32) else 1)) = n.toInt32 then (1 : Int32) else 0)), (.ref a)])) _
      refine X59.putfieldN (pc' := 191) (v' := (.int (nar .boolean (if (((1 : Int32) + (if a1.toInt32 = (0 : Int32) then (0 : Int32) else 1)) + (if c1.toInt32 = a1.toInt32 then (0 : Int32) else 1)) = n.toInt32 then (1 : Int32) else 0)))) (wd_134 hw) Via.refl FchecksWhole_a_50 E_a_50 (Or.inr ⟨(wd_135 hw), rfl, rfl⟩) (wd_97 hw) (ty := .boolean) (by decide) rfl (fits_nar_bool _) d17_188 rfl (Or.inl (by simp)) (fun T61 h61 X61 W61 => ?_)
      have Fw61 := Fld.same W61 FchecksWhole_a_50
      have E_a_61 := Exa.wr W61 E_a_50
      have Fw4_61 := Fld.other W61 Fw4_50 (Or.inr (slot_ne (Or.inr (wd_106 hw)) (Or.inr (wd_135 hw)) (by decide) (t := (.array .int)) (t' := .boolean) (by decide) (by decide)))
      have Fw5_61 := Fld.other W61 Fw5_50 (Or.inr (slot_ne (Or.inr (wd_108 hw)) (Or.inr (wd_135 hw)) (by decide) (t := .int) (t' := .boolean) (by decide) (by decide)))
      have Fw35_61 := Fld.other W61 Fw35_50 (Or.inr (slot_ne (Or.inr (wd_115 hw)) (Or.inr (wd_135 hw)) (by decide) (t := .int) (t' := .boolean) (by decide) (by decide)))
      have Fw37_61 := Fld.other W61 Fw37_50 (Or.inr (slot_ne (Or.inr (wd_117 hw)) (Or.inr (wd_135 hw)) (by decide) (t := .int) (t' := .boolean) (by decide) (by decide)))
      have Fw39_61 := Fld.other W61 Fw39_50 (Or.inr (slot_ne (Or.inr (wd_120 hw)) (Or.inr (wd_135 hw)) (by decide) (t := .int) (t' := .boolean) (by decide) (by decide)))
      have Fw41_61 := Fld.other W61 Fw41_50 (Or.inr (slot_ne (Or.inr (wd_127 hw)) (Or.inr (wd_135 hw)) (by decide) (t := .boolean) (t' := .boolean) (by decide) (by decide)))
      have Fw44_61 := Fld.other W61 Fw44_50 (Or.inr (slot_ne (Or.inr (wd_129 hw)) (Or.inr (wd_135 hw)) (by decide) (t := .char) (t' := .boolean) (by decide) (by decide)))
      have Fw47_61 := Fld.other W61 Fw47_50 (Or.inr (slot_ne (Or.inr (wd_131 hw)) (Or.inr (wd_135 hw)) (by decide) (t := .char) (t' := .boolean) (by decide) (by decide)))
      have Fw50_61 := Fld.other W61 Fw50 (Or.inr (slot_ne (Or.inr (wd_133 hw)) (Or.inr (wd_135 hw)) (by decide) (t := .char) (t' := .boolean) (by decide) (by decide)))
      have Sm_61 := Sta.wr W61 Sm_50
      have Vm_61 := Vm_50.other W61 hnc
      have Sc_61 := Sta.wr W61 Sc_50
      have Sf_61 := Sta.wr W61 Sf_50
      have Vp_61 := Vp_50.other W61 hne
      have Se_61 := Sta.wr W61 Se_50
      have Es_61 := Exa.wr W61 Es_50
      have Fan_61 := Fld.other W61 Fan_50 (Or.inl (Ne.symm ne_a_sp))
      have Fch_61 := Fld.other W61 Fch_50 (Or.inl (Ne.symm ne_a_sp))
      have Ffi_61 := Fld.other W61 Ffi_50 (Or.inl (Ne.symm ne_a_sp))
      have Fpc_61 := Fld.other W61 Fpc_50 (Or.inl (Ne.symm ne_a_sp))
      exact X61.vreturn rfl d17_191 (by decide) (by decide) ⟨rfl, _, E_a_61, Fw61, Fw5_61, Fw4_61, fun q => own_cov n hn6 a1 ha1 c1 hc1 (by rw [if_neg hc53]; exact own_nz q)⟩
theorem own_sum {a b : Nat} (h : a + b < 2147483648) : a.toInt32 + b.toInt32 = (a + b).toInt32 := by
  show Int32.ofNat a + Int32.ofNat b = Int32.ofNat (a + b)
  rw [Int32.ofNat_add]
def own_eq (X P : Nat → Int32) (st n j : Nat) : Int32 := if j.toInt32 < n.toInt32 then (if X (st + j) = P j then (1 : Int32) else 0) else 0

set_option maxRecDepth 65536 in
set_option maxHeartbeats 40000000 in
theorem ctEq (l : Launch) (Z : State) (a0 : Array Value) (hw : ∀ d ∈ tables_1, d.before a0 Z = true) (ta pa : Addr) (X P : Nat → Int32) (st n j : Nat) (h0 : Heap) (Vt : Lst Z h0 ta .char (own_tn 9 X)) (Vp : Lst Z h0 pa .int (own_tn n P)) (hN : n < 2147483648) (hst : st + j < 9) :
    Ct l Z y20 method_4_code 5 (some .boolean) ({ frames := 0, cells := 0, slots := 0, locals := 0 } : Room) #[(.ref ta), (.int st.toInt32), (.ref pa), (.int n.toInt32), (.int j.toInt32)] h0 [] (fun v h => v = some (.int (own_eq X P st n j)) ∧ h0 = h) := by
  refine Ct.of (plainFor_of_name (by first | (simp [plainName, overriddenIn]; done) | decide +kernel)) ?_
  intro p e s m below meth c T0 X0
  refine Runs.top (g' := mkF m 0 #[.val (.ref ta), .val (.int st.toInt32), .val (.ref pa), .val (.int n.toInt32), .val (.int j.toInt32)] []) (by first | (simp [entryFrame, mkF, argsToLocals, Value.category]; done) | rfl) ?_
  refine X0.iload (pc' := 2) d20_0 rfl rfl ?_
  refine X0.iloadN (pc' := 3) d20_2 rfl rfl ?_
  by_cases hc1 : j.toInt32 < n.toInt32
  · refine X0.icmpNo (pc' := 6) d20_3 (tlt hc1).2.1 rfl ?_
    refine X0.aloadN (pc' := 7) d20_6 rfl rfl rfl ?_
    refine X0.iloadN (pc' := 8) d20_7 rfl rfl ?_
    refine X0.iload (pc' := 10) d20_8 rfl rfl ?_
    refine X0.iadd (pc' := 11) d20_10 rfl ?_
    refine X0.caload (pc' := 12) (v := (.int (X (st + j)))) Vt (own_il (by rw [own_sum (by omega)]; exact own_i32 (by omega)) (by omega)) (own_tn_at (own_ilt (by rw [own_sum (by omega)]; exact own_i32 (by omega))) (by omega)) d20_11 rfl ?_
    refine X0.aloadN (pc' := 13) d20_12 rfl rfl rfl ?_
    refine X0.iload (pc' := 15) d20_13 rfl rfl ?_
    refine X0.iaload (pc' := 16) (v := (.int (P j))) Vp (own_il (own_i32 (by omega)) ((own_lt32 (by omega) hN).mp hc1)) (own_tn_at (own_ilt (own_i32 (by omega))) ((own_lt32 (by omega) hN).mp hc1)) d20_15 rfl ?_
    by_cases hc2 : (X (st + j)) = (P j)
    · refine X0.icmpNo (pc' := 19) d20_16 (teq hc2).2 rfl ?_
      refine X0.iconst (pc' := 20) (z := 1) d20_19 rfl rfl ?_
      refine X0.goto (pc' := 24) d20_20 (by decide) (by decide) ?_
      exact X0.zreturn (z' := (1 : Int32)) rfl (by simp) d20_24 rfl (by decide) (by decide) ⟨by simp [own_eq, hc1, hc2], rfl⟩
    · refine X0.icmpYes (pc' := 23) d20_16 (feq hc2).2 (by decide) (by decide) ?_
      refine X0.iconst (pc' := 24) (z := 0) d20_23 rfl rfl ?_
      exact X0.zreturn (z' := (0 : Int32)) rfl (by simp) d20_24 rfl (by decide) (by decide) ⟨by simp [own_eq, hc1, hc2], rfl⟩
  · refine X0.icmpYes (pc' := 23) d20_3 (flt hc1).2.1 (by decide) (by decide) ?_
    refine X0.iconst (pc' := 24) (z := 0) d20_23 rfl rfl ?_
    exact X0.zreturn (z' := (0 : Int32)) rfl (by simp) d20_24 rfl (by decide) (by decide) ⟨by simp [own_eq, hc1], rfl⟩
theorem own_tn_updz {n i : Nat} {v : Nat → Int32} {z x : Int32} (hz : z.toInt = (i : Int)) : (own_tn n v).set z.toInt.toNat (.int x) = own_tn n (own_upd v i x) := by rw [own_ilt hz, own_tn_upd]
theorem own_sumi {a b : Nat} (h : a + b < 2147483648) : (a.toInt32 + b.toInt32).toInt = ((a + b : Nat) : Int) := by rw [own_sum h]; exact own_i32 h

set_option maxRecDepth 65536 in
set_option maxHeartbeats 40000000 in
theorem ctCp (l : Launch) (Z : State) (a0 : Array Value) (hw : ∀ d ∈ tables_1, d.before a0 Z = true) (ta pa : Addr) (X P : Nat → Int32) (st n j : Nat) (kp : Int32) (h0 : Heap) (Vt : Lst Z h0 ta .char (own_tn 9 X)) (Vp : Lst Z h0 pa .int (own_tn n P)) (hN : n < 2147483648) (hst : st + j < 9) (hne : pa ≠ ta) :
    Ct l Z y1 method_3_code 6 none ({ frames := 0, cells := 0, slots := 0, locals := 0 } : Room) #[(.ref ta), (.int st.toInt32), (.ref pa), (.int n.toInt32), (.int j.toInt32), (.int kp)] h0 [ta] (fun v h => v = none ∧ ∃ X', Lst Z h ta .char (own_tn 9 X')) := by
  refine Ct.of (plainFor_of_name (by first | (simp [plainName, overriddenIn]; done) | decide +kernel)) ?_
  intro p e s m below meth c T0 X0
  refine Runs.top (g' := mkF m 0 #[.val (.ref ta), .val (.int st.toInt32), .val (.ref pa), .val (.int n.toInt32), .val (.int j.toInt32), .val (.int kp)] []) (by first | (simp [entryFrame, mkF, argsToLocals, Value.category]; done) | rfl) ?_
  refine X0.iload (pc' := 2) d1_0 rfl rfl ?_
  refine X0.iloadN (pc' := 3) d1_2 rfl rfl ?_
  by_cases hc1 : j.toInt32 < n.toInt32
  · refine X0.icmpNo (pc' := 6) d1_3 (tlt hc1).2.1 rfl ?_
    refine X0.iload (pc' := 8) d1_6 rfl rfl ?_
    refine X0.iload (pc' := 10) d1_8 rfl rfl ?_
    refine X0.iushr (pc' := 11) d1_10 rfl ?_
    refine X0.iconst (pc' := 12) (z := 1) d1_11 rfl rfl ?_
    refine X0.iand (pc' := 13) d1_12 rfl ?_
    by_cases hc2 : (((kp.toUInt32 >>> (j.toInt32 &&& 31).toUInt32).toInt32) &&& (1 : Int32)) = (0 : Int32)
    · refine X0.ifYes (pc' := 27) d1_13 (teq hc2).1 (by decide) (by decide) ?_
      exact X0.vreturn rfl d1_27 (by decide) (by decide) ⟨rfl, _, Vt⟩
    · refine X0.ifNo (pc' := 16) d1_13 (feq hc2).1 rfl ?_
      refine X0.aloadN (pc' := 17) d1_16 rfl rfl rfl ?_
      refine X0.iloadN (pc' := 18) d1_17 rfl rfl ?_
      refine X0.iload (pc' := 20) d1_18 rfl rfl ?_
      refine X0.iadd (pc' := 21) d1_20 rfl ?_
      refine X0.aloadN (pc' := 22) d1_21 rfl rfl rfl ?_
      refine X0.iload (pc' := 24) d1_22 rfl rfl ?_
      refine X0.iaload (pc' := 25) (v := (.int (P j))) Vp (own_il (own_i32 (by omega)) ((own_lt32 (by omega) hN).mp hc1)) (own_tn_at (own_ilt (own_i32 (by omega))) ((own_lt32 (by omega) hN).mp hc1)) d1_24 rfl ?_
      refine X0.i2c (pc' := 26) d1_25 rfl ?_
      refine X0.castore (pc' := 27) Vt (own_il (own_sumi (by omega)) (by omega : st + j < 9)) d1_26 rfl (Or.inl (by simp)) (fun T3 h3 X3 W3 => ?_)
      have V3 : Lst Z h3 ta .char (own_tn 9 (own_upd X (st + j) (nar .char ((P j).toUInt32.toUInt16.toUInt32.toInt32)))) := (own_tn_updz (i := st + j) (own_sumi (a := st) (b := j) (by omega))) ▸ Vt.set W3
      have Vp_3 := Vp.other W3 hne
      exact X3.vreturn rfl d1_27 (by decide) (by decide) ⟨rfl, _, V3⟩
  · refine X0.icmpYes (pc' := 27) d1_3 (flt hc1).2.1 (by decide) (by decide) ?_
    exact X0.vreturn rfl d1_27 (by decide) (by decide) ⟨rfl, _, Vt⟩
set_option maxRecDepth 65536 in
set_option maxHeartbeats 40000000 in
theorem lpo {p : Program} {l : Launch} {e : Env} {R : Room} {s : State} {m : MethodId} {args : Array Value} {below : List Frame} {meth : Method} {c : Code} {ret : Option FieldType} {Z : State} {h0 : Heap} {ws : List Addr} {G : Outcome → State → Prop} {a0 : Array Value} (hw : ∀ d ∈ tables_1, d.before a0 Z = true) {a ta pa : Addr} {X P : Nat → Int32} {st n r : Nat} {cells slots : Nat} {h : Heap} (Ea : Exa Z h a "com/example/rummage/rummage/CharSeek") (Fl : Fld Z h a "com/example/rummage/rummage/CharSeek" "length" "I" (.int n.toInt32)) (Fp : Fld Z h a "com/example/rummage/rummage/CharSeek" "pattern" "[I" (.ref pa)) (Vt : Lst Z h ta .char (own_tn 9 X)) (Vp : Lst Z h pa .int (own_tn n P)) (hN : n < 7) (hst : st + n ≤ 9) (h1 : 1 ≤ r) (hrn : r ≤ n) (hlo : ∀ t, 1 ≤ t → t < r → X (st + t) = P t) (he : r = n ∨ ¬ X (st + r) = P r) :
    ∀ (d k : Nat) (T : State), Here p l e R s m args below meth c y21 prog_7_method_3_code 4 ret Z h0 ws T cells slots h → r = k + d → 1 ≤ k → (∀ T', Here p l e R s m args below meth c y21 prog_7_method_3_code 4 ret Z h0 ws T' cells slots h → Runs p e below (T'.setTop (mkF m 42 #[.val (.ref a), .val (.ref ta), .val (.int st.toInt32), .val (.int r.toInt32)] [])) G) → Runs p e below (T.setTop (mkF m 14 #[.val (.ref a), .val (.ref ta), .val (.int st.toInt32), .val (.int k.toInt32)] [])) G := by
  intro d
  induction d with
  | zero =>
    intro k T X_ hkr hk1 kx
    have hkr : k = r := by omega
    rcases he with he | hne
    · refine X_.iloadN (pc' := 15) d21_14 rfl rfl ?_
      refine X_.aloadN (pc' := 16) d21_15 rfl rfl rfl ?_
      refine X_.getfield (pc' := 19) (host := "") (Or.inl (wd_107 hw)) Via.refl Fl d21_16 rfl (fun T1 X1 => ?_)
      refine X1.icmpYes (pc' := 42) d21_19 (flt (fun q => absurd ((own_lt32 (by omega) (by omega)).mp q) (by omega))).2.1 (by decide) (by decide) ?_
      obtain rfl : k = r := by omega
      exact kx _ X1
    · by_cases hkn : k < n
      · refine X_.iloadN (pc' := 15) d21_14 rfl rfl ?_
        refine X_.aloadN (pc' := 16) d21_15 rfl rfl rfl ?_
        refine X_.getfield (pc' := 19) (host := "") (Or.inl (wd_107 hw)) Via.refl Fl d21_16 rfl (fun T1 X1 => ?_)
        refine X1.icmpNo (pc' := 22) d21_19 (tlt ((own_lt32 (by omega) (by omega)).mpr (by omega))).2.1 rfl ?_
        refine X1.aloadN (pc' := 23) d21_22 rfl rfl rfl ?_
        refine X1.iloadN (pc' := 24) d21_23 rfl rfl ?_
        refine X1.iloadN (pc' := 25) d21_24 rfl rfl ?_
        refine X1.iadd (pc' := 26) d21_25 rfl ?_
        refine X1.caload (pc' := 27) (v := (.int (X (st + k)))) Vt (own_il (own_sumi (by omega)) (by omega : st + k < 9)) (own_tn_at (own_ilt (own_sumi (by omega))) (by omega : st + k < 9)) d21_26 rfl ?_
        refine X1.aloadN (pc' := 28) d21_27 rfl rfl rfl ?_
        refine X1.getfield (pc' := 31) (host := "") (Or.inl (wd_105 hw)) Via.refl Fp d21_28 rfl (fun T2 X2 => ?_)
        refine X2.iloadN (pc' := 32) d21_31 rfl rfl ?_
        refine X2.iaload (pc' := 33) (v := (.int (P k))) Vp (own_il (own_i32 (by omega)) (by omega : k < n)) (own_tn_at (own_ilt (own_i32 (by omega))) (by omega : k < n)) d21_32 rfl ?_
        refine X2.icmpYes (pc' := 42) d21_33 (feq (fun q => hne (hkr ▸ q))).2 (by decide) (by decide) ?_
        obtain rfl : k = r := by omega
        exact kx _ X2
      · refine X_.iloadN (pc' := 15) d21_14 rfl rfl ?_
        refine X_.aloadN (pc' := 16) d21_15 rfl rfl rfl ?_
        refine X_.getfield (pc' := 19) (host := "") (Or.inl (wd_107 hw)) Via.refl Fl d21_16 rfl (fun T1 X1 => ?_)
        refine X1.icmpYes (pc' := 42) d21_19 (flt (fun q => absurd ((own_lt32 (by omega) (by omega)).mp q) (by omega))).2.1 (by decide) (by decide) ?_
        obtain rfl : k = r := by omega
        exact kx _ X1
  | succ d ih =>
    intro k T X_ hkr hk1 kx
    refine X_.iloadN (pc' := 15) d21_14 rfl rfl ?_
    refine X_.aloadN (pc' := 16) d21_15 rfl rfl rfl ?_
    refine X_.getfield (pc' := 19) (host := "") (Or.inl (wd_107 hw)) Via.refl Fl d21_16 rfl (fun T1 X1 => ?_)
    refine X1.icmpNo (pc' := 22) d21_19 (tlt ((own_lt32 (by omega) (by omega)).mpr (by omega))).2.1 rfl ?_
    refine X1.aloadN (pc' := 23) d21_22 rfl rfl rfl ?_
    refine X1.iloadN (pc' := 24) d21_23 rfl rfl ?_
    refine X1.iloadN (pc' := 25) d21_24 rfl rfl ?_
    refine X1.iadd (pc' := 26) d21_25 rfl ?_
    refine X1.caload (pc' := 27) (v := (.int (X (st + k)))) Vt (own_il (own_sumi (by omega)) (by omega : st + k < 9)) (own_tn_at (own_ilt (own_sumi (by omega))) (by omega : st + k < 9)) d21_26 rfl ?_
    refine X1.aloadN (pc' := 28) d21_27 rfl rfl rfl ?_
    refine X1.getfield (pc' := 31) (host := "") (Or.inl (wd_105 hw)) Via.refl Fp d21_28 rfl (fun T2 X2 => ?_)
    refine X2.iloadN (pc' := 32) d21_31 rfl rfl ?_
    refine X2.iaload (pc' := 33) (v := (.int (P k))) Vp (own_il (own_i32 (by omega)) (by omega : k < n)) (own_tn_at (own_ilt (own_i32 (by omega))) (by omega : k < n)) d21_32 rfl ?_
    refine X2.icmpNo (pc' := 36) d21_33 (teq (hlo k (by omega) (by omega))).2 rfl ?_
    refine X2.iinc (pc' := 39) (z := 1) (l' := #[.val (.ref a), .val (.ref ta), .val (.int st.toInt32), .val (.int (k + 1).toInt32)]) d21_36 rfl rfl (by rw [own_inc]; rfl) rfl ?_
    refine X2.goto (pc' := 14) d21_39 (by decide) (by decide) ?_
    exact ih (k + 1) T2 X2 (by omega) (by omega) kx
set_option maxRecDepth 65536 in
set_option maxHeartbeats 40000000 in
theorem ctO (l : Launch) (Z : State) (a0 : Array Value) (hw : ∀ d ∈ tables_1, d.before a0 Z = true) (a ta pa : Addr) (X P : Nat → Int32) (st n r : Nat) (cw : Int32) (h0 : Heap) (Ea : Exa Z h0 a "com/example/rummage/rummage/CharSeek") (Fw : Fld Z h0 a "com/example/rummage/rummage/CharSeek" "checksWhole" "Z" (.int cw)) (Fl : Fld Z h0 a "com/example/rummage/rummage/CharSeek" "length" "I" (.int n.toInt32)) (Fp : Fld Z h0 a "com/example/rummage/rummage/CharSeek" "pattern" "[I" (.ref pa)) (Vt : Lst Z h0 ta .char (own_tn 9 X)) (Vp : Lst Z h0 pa .int (own_tn n P)) (hN : n < 7) (hst : st + n ≤ 9) (h1 : 1 ≤ r) (hrn : r ≤ n) (hlo : ∀ t, 1 ≤ t → t < r → X (st + t) = P t) (he : r = n ∨ ¬ X (st + r) = P r) (hcw : ¬ cw = 0 → r = n) :
    Ct l Z y21 prog_7_method_3_code 4 (some .int) ({ frames := 0, cells := 0, slots := 0, locals := 0 } : Room) #[(.ref a), (.ref ta), (.int st.toInt32)] h0 [] (fun v h => v = some (.int r.toInt32) ∧ h0 = h) := by
  refine Ct.of (plainFor_of_name (by first | (simp [plainName, overriddenIn]; done) | decide +kernel)) ?_
  intro p e s m below meth c T0 X0
  refine Runs.top (g' := mkF m 0 #[.val (.ref a), .val (.ref ta), .val (.int st.toInt32), .unset] []) (by first | (simp [entryFrame, mkF, argsToLocals, Value.category]; done) | rfl) ?_
  refine X0.aloadN (pc' := 1) d21_0 rfl rfl rfl ?_
  refine X0.getfield (pc' := 4) (host := "") (Or.inl (wd_134 hw)) Via.refl Fw d21_1 rfl (fun T1 X1 => ?_)
  by_cases hc2 : cw = (0 : Int32)
  · refine X1.ifYes (pc' := 12) d21_4 (teq hc2).1 (by decide) (by decide) ?_
    refine X1.iconst (pc' := 13) (z := 1) d21_12 rfl rfl ?_
    refine X1.istoreN (pc' := 14) (l' := #[.val (.ref a), .val (.ref ta), .val (.int st.toInt32), .val (.int (1 : Int32))]) d21_13 rfl rfl ?_
    refine lpo hw Ea Fl Fp Vt Vp hN hst h1 hrn hlo he (r - 1) 1 T1 X1 (by omega) (by omega) (fun T7 X7 => ?_)
    refine X7.iloadN (pc' := 43) d21_42 rfl rfl ?_
    exact X7.ireturn rfl d21_43 (by decide) (by decide) ⟨rfl, rfl⟩
  · refine X1.ifNo (pc' := 7) d21_4 (feq hc2).1 rfl ?_
    refine X1.aloadN (pc' := 8) d21_7 rfl rfl rfl ?_
    refine X1.getfield (pc' := 11) (host := "") (Or.inl (wd_107 hw)) Via.refl Fl d21_8 rfl (fun T3 X3 => ?_)
    exact X3.ireturn rfl d21_11 (by decide) (by decide) ⟨by rw [hcw hc2], rfl⟩
theorem own_rsA (cm P : Nat → Int32) (hcm : ∀ t, (cm t).toInt ≤ 127) (fr : Nat) : ∀ k, fr + k + 1 < 2147483648 → ∃ a, a < fr + (k + 1) ∧ (own_rs cm P fr (-1) 0 (k + 1)).1 = a.toInt32 := by
  have hb : ∀ x, (0 : Int32) + own_cm cm x < (2147483647 : Int32) := by
    intro x
    rw [Int32.zero_add, Int32.lt_iff_toInt_lt, show (2147483647 : Int32).toInt = 2147483647 from rfl]
    unfold own_cm
    split
    · have := hcm x.toInt.toNat; omega
    · rw [show (0 : Int32).toInt = 0 from rfl]; omega
  have hm : ∀ i : Nat, i < 2147483648 → ¬ i.toInt32 = (-1 : Int32) := fun i hi q => by
    have e := congrArg Int32.toInt q
    rw [own_i32 hi, show (-1 : Int32).toInt = -1 from rfl] at e
    omega
  intro k
  induction k with
  | zero =>
    intro hk
    refine ⟨fr, by omega, ?_⟩
    rw [own_rs, own_rs, own_rst, if_neg (hm _ (by omega)), if_pos (hb _)]
    rfl
  | succ k ih =>
    intro hk
    obtain ⟨a, ha, e⟩ := ih (by omega)
    rw [own_rs, own_rst, if_neg (hm _ (by omega))]
    split
    · exact ⟨fr + (k + 1), by omega, rfl⟩
    · split
      · rw [if_pos rfl]; exact ⟨a, by omega, e⟩
      · exact ⟨a, by omega, e⟩
theorem own_rsB {N : Nat} (cm P : Nat → Int32) (fr : Nat) (a1 : Nat) (tie : Int32) : ∀ k, a1 < fr + k ∨ a1 < N → fr + k ≤ N → ∃ a, a < N ∧ (own_rs cm P fr a1.toInt32 tie k).1 = a.toInt32 := by
  intro k
  induction k with
  | zero => intro h1 h2; exact ⟨a1, by omega, rfl⟩
  | succ k ih =>
    intro h1 h2
    obtain ⟨a, ha, e⟩ := ih (by omega) (by omega)
    rw [own_rs, own_rst]
    split
    · exact ⟨a, ha, e⟩
    · split
      · exact ⟨fr + k, by omega, rfl⟩
      · split
        · split
          · exact ⟨a, ha, e⟩
          · exact ⟨fr + k, by omega, rfl⟩
        · exact ⟨a, ha, e⟩
theorem own_lstP {Z : State} {h : Heap} {a : Addr} {ty : FieldType} (vs : List Int32) (V : Lst Z h a ty (vs.map .int)) : ∃ P : Nat → Int32, Lst Z h a ty (own_tn vs.length P) ∧ ∀ t, t < vs.length → P t ∈ vs := by
  refine ⟨fun t => vs[t]?.getD 0, ?_, fun t ht => ?_⟩
  · have e : own_tn vs.length (fun t => vs[t]?.getD 0) = vs.map .int := by
      apply List.ext_getElem?
      intro j
      by_cases hj : j < vs.length
      · rw [own_tn_get _ hj]; simp [hj]
      · rw [List.getElem?_eq_none (by rw [own_tn_len]; omega), List.getElem?_eq_none (by simp; omega)]
    rw [e]; exact V
  · simp [ht]
theorem own_255 (x : Int32) : 0 ≤ (x &&& (255 : Int32)).toInt ∧ (x &&& (255 : Int32)).toInt ≤ 255 := by
  have h := c_mask x (255 : Int32) 8 (by decide) (by decide)
  omega
theorem own_c255 {x : Int32} (h : 0 ≤ x.toInt ∧ x.toInt ≤ 255) : nar .char (x.toUInt32.toUInt16.toUInt32.toInt32) = x := by
  have hb : ∀ k : Fin 256, nar .char ((Int32.ofNat k.val).toUInt32.toUInt16.toUInt32.toInt32) = Int32.ofNat k.val := by decide +kernel
  have e : x = Int32.ofNat x.toInt.toNat := by
    rw [← Int32.toInt_inj, Int32.toInt_ofNat_of_lt (by omega)]; omega
  rw [e]; exact hb ⟨x.toInt.toNat, by omega⟩
theorem own_three (X P : Nat → Int32) (st a1 c1 : Nat) : ∀ t, t = 0 ∨ t = a1 ∨ t = c1 → own_upd (own_upd (own_upd X st (P 0)) (st + a1) (P a1)) (st + c1) (P c1) (st + t) = P t := by
  intro t ht
  unfold own_upd
  by_cases h2 : t = c1
  · subst h2; simp
  · rw [if_neg (by omega)]
    by_cases h1 : t = a1
    · subst h1; simp
    · rw [if_neg (by omega)]
      have : t = 0 := by omega
      subst this; simp
theorem own_eqT {X P : Nat → Int32} {st n j : Nat} (hN : n < 2147483648) (hj : j < 2147483648) (h : ¬ own_eq X P st n j = (0 : Int32)) : j < n ∧ X (st + j) = P j := by
  unfold own_eq at h
  by_cases h1 : j.toInt32 < n.toInt32
  · rw [if_pos h1] at h
    by_cases h2 : X (st + j) = P j
    · exact ⟨(own_lt32 hj hN).mp h1, h2⟩
    · rw [if_neg h2] at h; exact absurd rfl h
  · rw [if_neg h1] at h; exact absurd rfl h
theorem own_eqF {X P : Nat → Int32} {st n j : Nat} (hN : n < 2147483648) (hj : j < 2147483648) (h : own_eq X P st n j = (0 : Int32)) : n ≤ j ∨ ¬ X (st + j) = P j := by
  unfold own_eq at h
  by_cases h1 : j.toInt32 < n.toInt32
  · rw [if_pos h1] at h
    refine Or.inr fun h2 => ?_
    rw [if_pos h2] at h; exact absurd h (by decide)
  · refine Or.inl ?_
    rw [own_lt32 hj hN] at h1; omega
theorem own_fin {X P : Nat → Int32} {st n r a1 c1 : Nat} {cw : Int32} (hrn : r ≤ n) (he : r = n ∨ ¬ X (st + r) = P r) (hY : ∀ t, t = 0 ∨ t = a1 ∨ t = c1 → X (st + t) = P t) (hcov : ¬ cw = 0 → ∀ t, t < n → t = 0 ∨ t = a1 ∨ t = c1) : ¬ cw = 0 → r = n := by
  intro hc
  rcases he with he | he
  · exact he
  · by_cases h : r < n
    · exact absurd (hY r (hcov hc r h)) he
    · omega
theorem own_six (q : Int32) : ∀ z, z = (1 : Int32) + (q &&& (7 : Int32)) % (6 : Int32) → z = (1 : Int32) ∨ z = (2 : Int32) ∨ z = (3 : Int32) ∨ z = (4 : Int32) ∨ z = (5 : Int32) ∨ z = (6 : Int32) := by
  intro z hz
  have h1 := c_mask q (7 : Int32) 3 (by decide) (by decide)
  have h2 := (c_iremV (q &&& (7 : Int32)) (6 : Int32)).1 (by omega) (by decide)
  have e : (6 : Int32).toInt = 6 := rfl
  rw [e] at h2
  have h3 := c_iadd (1 : Int32) ((q &&& (7 : Int32)) % (6 : Int32))
  have r := rng32 ((1 : Int32) + (q &&& (7 : Int32)) % (6 : Int32))
  rw [← hz] at h3 r
  have e1 : (1 : Int32).toInt = 1 := rfl
  have : z.toInt = 1 ∨ z.toInt = 2 ∨ z.toInt = 3 ∨ z.toInt = 4 ∨ z.toInt = 5 ∨ z.toInt = 6 := by omega
  rcases this with h | h | h | h | h | h <;> simp [← Int32.toInt_inj, h]
theorem own_st (x : Int32) : ∃ st : Nat, st < 4 ∧ (x &&& (3 : Int32)) = st.toInt32 := by
  have h := c_mask x (3 : Int32) 2 (by decide) (by decide)
  refine ⟨(x &&& (3 : Int32)).toInt.toNat, by omega, ?_⟩
  rw [← Int32.toInt_inj, own_i32 (by omega)]; omega

set_option maxRecDepth 65536 in
set_option maxHeartbeats 40000000 in
theorem own_tail {p : Program} {l : Launch} {e : Env} {s : State} {m : MethodId} {args : Array Value} {below : List Frame} {meth : Method} {c : Code} {Z : State} {h0 : Heap} {a0 : Array Value} (hw : ∀ d ∈ tables_1, d.before a0 Z = true) {i0 i1 i2 kp : Int32} {i3 : Int64} {pa cma : Addr} {cm P : Nat → Int32} {n st : Nat} {fov : Value} {cz ce : Int32} (T : State) (h : Heap) (X : Here p l e room_1 s m args below meth c x code maxLocals ret Z h0 [] T 1 6 h) (hn6 : n < 7) (hst : st < 4) (hcm : ∀ t, (cm t).toInt ≤ 127) (Sm : Sta Z h "com/example/rummage/rummage/SeekPlan" "COMMONNESS" "[B" (.ref cma)) (Vm : Lst Z h cma .byte (own_tn 128 cm)) (Vp : Lst Z h pa .int (own_tn n P)) (hn : 0 < n) (hP : ∀ t, t < n → 0 ≤ (P t).toInt ∧ (P t).toInt ≤ 255) (Sc : Sta Z h "java/lang/String" "COMPACT_STRINGS" "Z" (.int cz)) (hcz : cz ≠ (0 : Int32)) (Sf : Sta Z h "jdk/internal/util/Preconditions" "SIOOBE_FORMATTER" "Ljava/util/function/BiFunction;" fov) (hfo : fov = .null ∨ ∃ q, fov = .ref q) (Se : Sta Z h "com/example/rummage/rummage/SeekPlan" "COMMONEST" "I" (.int ce)) :
    Runs p e below (T.setTop (mkF m 125 #[.val (.int i0), .val (.int i1), .val (.int i2), .val (.long i3), .second, .val (.int n.toInt32), .val (.int st.toInt32), .val (.int kp), .val (.ref pa), .unset, .unset, .unset, .unset, .unset, .unset] [])) (Jvm.Own.Out s h0 [] room_1 (fun v h => v = some (.int 1))) := by
  have hN : n < 2147483648 := by omega
  obtain ⟨fr, hfr⟩ : ∃ fr, fr = if 1 < n then 1 else 0 := ⟨_, rfl⟩
  have hf1 : fr + 1 ≤ n := by rw [hfr]; split <;> omega
  have hf0 : fr ≤ n := by omega
  obtain ⟨a1, ha1, hA⟩ : ∃ a1, a1 < n ∧ (own_rs cm P fr (-1) 0 (n - fr)).1 = a1.toInt32 := by
    obtain ⟨a, q1, q2⟩ := own_rsA cm P hcm fr (n - fr - 1) (by omega)
    rw [show n - fr - 1 + 1 = n - fr by omega] at q1 q2
    exact ⟨a, by omega, q2⟩
  obtain ⟨c1, hc1, hc⟩ := own_rsB (N := n) cm P fr a1 1 (n - fr) (by omega) (by omega)
  refine X.bipush (pc' := 127) (z := 9) at_125 rfl rfl ?_
  refine X.newarray (pc' := 129) (ty := .char) rfl (wd_1 hw) at_127 rfl (cap := 9) ⟨by decide, by decide⟩ (by decide) (by decide) (by decide) (fun T1 h1 b1 X1 g1 E1 V1 => ?_)
  have sz_b1 : h0.size ≤ b1 := g1 ▸ X.size
  have ne_cma_b1 : cma ≠ b1 := Nat.ne_of_lt (g1 ▸ Vm.lt)
  have ne_pa_b1 : pa ≠ b1 := Nat.ne_of_lt (g1 ▸ Vp.lt)
  have Sm_1 := Sta.ext E1 Sm
  have Vm_1 := Vm.ext E1
  have Sc_1 := Sta.ext E1 Sc
  have Sf_1 := Sta.ext E1 Sf
  have Vp_1 := Vp.ext E1
  have Se_1 := Sta.ext E1 Se
  have V1' : Lst Z h1 b1 .char [(.int (0 : Int32)), (.int (0 : Int32)), (.int (0 : Int32)), (.int (0 : Int32)), (.int (0 : Int32)), (.int (0 : Int32)), (.int (0 : Int32)), (.int (0 : Int32)), (.int (0 : Int32))] := V1
  refine X1.astore (pc' := 131) (l' := #[.val (.int i0), .val (.int i1), .val (.int i2), .val (.long i3), .second, .val (.int n.toInt32), .val (.int st.toInt32), .val (.int kp), .val (.ref pa), .val (.ref b1), .unset, .unset, .unset, .unset, .unset]) at_129 rfl rfl rfl ?_
  refine X1.aload (pc' := 133) at_131 rfl rfl rfl ?_
  refine X1.iconst (pc' := 134) (z := 0) at_133 rfl rfl ?_
  refine X1.lloadN (pc' := 135) at_134 rfl rfl ?_
  refine X1.ldc2 (pc' := 138) (wd_2 hw) at_135 rfl ?_
  refine X1.land (pc' := 139) at_138 rfl ?_
  refine X1.l2i (pc' := 140) at_139 rfl ?_
  refine X1.i2c (pc' := 141) at_140 rfl ?_
  refine X1.castore (pc' := 142) V1' (show Inb (0 : Int32) 9 from ⟨by decide, by decide⟩) at_141 rfl (Or.inr sz_b1) (fun T2 h2 X2 W2 => ?_)
  have V2 : Lst Z h2 b1 .char [(.int (nar .char (((i3 &&& (255 : Int64)).toInt32).toUInt32.toUInt16.toUInt32.toInt32))), (.int (0 : Int32)), (.int (0 : Int32)), (.int (0 : Int32)), (.int (0 : Int32)), (.int (0 : Int32)), (.int (0 : Int32)), (.int (0 : Int32)), (.int (0 : Int32))] := V1'.set W2
  have Sm_2 := Sta.wr W2 Sm_1
  have Vm_2 := Vm_1.other W2 ne_cma_b1
  have Sc_2 := Sta.wr W2 Sc_1
  have Sf_2 := Sta.wr W2 Sf_1
  have Vp_2 := Vp_1.other W2 ne_pa_b1
  have Se_2 := Sta.wr W2 Se_1
  refine X2.aload (pc' := 144) at_142 rfl rfl rfl ?_
  refine X2.iconst (pc' := 145) (z := 1) at_144 rfl rfl ?_
  refine X2.lloadN (pc' := 146) at_145 rfl rfl ?_
  refine X2.bipush (pc' := 148) (z := 8) at_146 rfl rfl ?_
  refine X2.lushr (pc' := 149) at_148 rfl ?_
  refine X2.ldc2 (pc' := 152) (wd_2 hw) at_149 rfl ?_
  refine X2.land (pc' := 153) at_152 rfl ?_
  refine X2.l2i (pc' := 154) at_153 rfl ?_
  refine X2.i2c (pc' := 155) at_154 rfl ?_
  refine X2.castore (pc' := 156) V2 (show Inb (1 : Int32) 9 from ⟨by decide, by decide⟩) at_155 rfl (Or.inr sz_b1) (fun T3 h3 X3 W3 => ?_)
  have V3 : Lst Z h3 b1 .char [(.int (nar .char (((i3 &&& (255 : Int64)).toInt32).toUInt32.toUInt16.toUInt32.toInt32))), (.int (nar .char (((((i3.toUInt64 >>> ((8 : Int32) &&& 0x3f).toInt64.toUInt64).toInt64) &&& (255 : Int64)).toInt32).toUInt32.toUInt16.toUInt32.toInt32))), (.int (0 : Int32)), (.int (0 : Int32)), (.int (0 : Int32)), (.int (0 : Int32)), (.int (0 : Int32)), (.int (0 : Int32)), (.int (0 : Int32))] := V2.set W3
  have Sm_3 := Sta.wr W3 Sm_2
  have Vm_3 := Vm_2.other W3 ne_cma_b1
  have Sc_3 := Sta.wr W3 Sc_2
  have Sf_3 := Sta.wr W3 Sf_2
  have Vp_3 := Vp_2.other W3 ne_pa_b1
  have Se_3 := Sta.wr W3 Se_2
  refine X3.aload (pc' := 158) at_156 rfl rfl rfl ?_
  refine X3.iconst (pc' := 159) (z := 2) at_158 rfl rfl ?_
  refine X3.lloadN (pc' := 160) at_159 rfl rfl ?_
  refine X3.bipush (pc' := 162) (z := 16) at_160 rfl rfl ?_
  refine X3.lushr (pc' := 163) at_162 rfl ?_
  refine X3.ldc2 (pc' := 166) (wd_2 hw) at_163 rfl ?_
  refine X3.land (pc' := 167) at_166 rfl ?_
  refine X3.l2i (pc' := 168) at_167 rfl ?_
  refine X3.i2c (pc' := 169) at_168 rfl ?_
  refine X3.castore (pc' := 170) V3 (show Inb (2 : Int32) 9 from ⟨by decide, by decide⟩) at_169 rfl (Or.inr sz_b1) (fun T4 h4 X4 W4 => ?_)
  have V4 : Lst Z h4 b1 .char [(.int (nar .char (((i3 &&& (255 : Int64)).toInt32).toUInt32.toUInt16.toUInt32.toInt32))), (.int (nar .char (((((i3.toUInt64 >>> ((8 : Int32) &&& 0x3f).toInt64.toUInt64).toInt64) &&& (255 : Int64)).toInt32).toUInt32.toUInt16.toUInt32.toInt32))), (.int (nar .char (((((i3.toUInt64 >>> ((16 : Int32) &&& 0x3f).toInt64.toUInt64).toInt64) &&& (255 : Int64)).toInt32).toUInt32.toUInt16.toUInt32.toInt32))), (.int (0 : Int32)), (.int (0 : Int32)), (.int (0 : Int32)), (.int (0 : Int32)), (.int (0 : Int32)), (.int (0 : Int32))] := V3.set W4
  have Sm_4 := Sta.wr W4 Sm_3
  have Vm_4 := Vm_3.other W4 ne_cma_b1
  have Sc_4 := Sta.wr W4 Sc_3
  have Sf_4 := Sta.wr W4 Sf_3
  have Vp_4 := Vp_3.other W4 ne_pa_b1
  have Se_4 := Sta.wr W4 Se_3
  refine X4.aload (pc' := 172) at_170 rfl rfl rfl ?_
  refine X4.iconst (pc' := 173) (z := 3) at_172 rfl rfl ?_
  refine X4.lloadN (pc' := 174) at_173 rfl rfl ?_
  refine X4.bipush (pc' := 176) (z := 24) at_174 rfl rfl ?_
  refine X4.lushr (pc' := 177) at_176 rfl ?_
  refine X4.ldc2 (pc' := 180) (wd_2 hw) at_177 rfl ?_
  refine X4.land (pc' := 181) at_180 rfl ?_
  refine X4.l2i (pc' := 182) at_181 rfl ?_
  refine X4.i2c (pc' := 183) at_182 rfl ?_
  refine X4.castore (pc' := 184) V4 (show Inb (3 : Int32) 9 from ⟨by decide, by decide⟩) at_183 rfl (Or.inr sz_b1) (fun T5 h5 X5 W5 => ?_)
  have V5 : Lst Z h5 b1 .char [(.int (nar .char (((i3 &&& (255 : Int64)).toInt32).toUInt32.toUInt16.toUInt32.toInt32))), (.int (nar .char (((((i3.toUInt64 >>> ((8 : Int32) &&& 0x3f).toInt64.toUInt64).toInt64) &&& (255 : Int64)).toInt32).toUInt32.toUInt16.toUInt32.toInt32))), (.int (nar .char (((((i3.toUInt64 >>> ((16 : Int32) &&& 0x3f).toInt64.toUInt64).toInt64) &&& (255 : Int64)).toInt32).toUInt32.toUInt16.toUInt32.toInt32))), (.int (nar .char (((((i3.toUInt64 >>> ((24 : Int32) &&& 0x3f).toInt64.toUInt64).toInt64) &&& (255 : Int64)).toInt32).toUInt32.toUInt16.toUInt32.toInt32))), (.int (0 : Int32)), (.int (0 : Int32)), (.int (0 : Int32)), (.int (0 : Int32)), (.int (0 : Int32))] := V4.set W5
  have Sm_5 := Sta.wr W5 Sm_4
  have Vm_5 := Vm_4.other W5 ne_cma_b1
  have Sc_5 := Sta.wr W5 Sc_4
  have Sf_5 := Sta.wr W5 Sf_4
  have Vp_5 := Vp_4.other W5 ne_pa_b1
  have Se_5 := Sta.wr W5 Se_4
  refine X5.aload (pc' := 186) at_184 rfl rfl rfl ?_
  refine X5.iconst (pc' := 187) (z := 4) at_186 rfl rfl ?_
  refine X5.lloadN (pc' := 188) at_187 rfl rfl ?_
  refine X5.bipush (pc' := 190) (z := 32) at_188 rfl rfl ?_
  refine X5.lushr (pc' := 191) at_190 rfl ?_
  refine X5.ldc2 (pc' := 194) (wd_2 hw) at_191 rfl ?_
  refine X5.land (pc' := 195) at_194 rfl ?_
  refine X5.l2i (pc' := 196) at_195 rfl ?_
  refine X5.i2c (pc' := 197) at_196 rfl ?_
  refine X5.castore (pc' := 198) V5 (show Inb (4 : Int32) 9 from ⟨by decide, by decide⟩) at_197 rfl (Or.inr sz_b1) (fun T6 h6 X6 W6 => ?_)
  have V6 : Lst Z h6 b1 .char [(.int (nar .char (((i3 &&& (255 : Int64)).toInt32).toUInt32.toUInt16.toUInt32.toInt32))), (.int (nar .char (((((i3.toUInt64 >>> ((8 : Int32) &&& 0x3f).toInt64.toUInt64).toInt64) &&& (255 : Int64)).toInt32).toUInt32.toUInt16.toUInt32.toInt32))), (.int (nar .char (((((i3.toUInt64 >>> ((16 : Int32) &&& 0x3f).toInt64.toUInt64).toInt64) &&& (255 : Int64)).toInt32).toUInt32.toUInt16.toUInt32.toInt32))), (.int (nar .char (((((i3.toUInt64 >>> ((24 : Int32) &&& 0x3f).toInt64.toUInt64).toInt64) &&& (255 : Int64)).toInt32).toUInt32.toUInt16.toUInt32.toInt32))), (.int (nar .char (((((i3.toUInt64 >>> ((32 : Int32) &&& 0x3f).toInt64.toUInt64).toInt64) &&& (255 : Int64)).toInt32).toUInt32.toUInt16.toUInt32.toInt32))), (.int (0 : Int32)), (.int (0 : Int32)), (.int (0 : Int32)), (.int (0 : Int32))] := V5.set W6
  have Sm_6 := Sta.wr W6 Sm_5
  have Vm_6 := Vm_5.other W6 ne_cma_b1
  have Sc_6 := Sta.wr W6 Sc_5
  have Sf_6 := Sta.wr W6 Sf_5
  have Vp_6 := Vp_5.other W6 ne_pa_b1
  have Se_6 := Sta.wr W6 Se_5
  refine X6.aload (pc' := 200) at_198 rfl rfl rfl ?_
  refine X6.iconst (pc' := 201) (z := 5) at_200 rfl rfl ?_
  refine X6.lloadN (pc' := 202) at_201 rfl rfl ?_
  refine X6.bipush (pc' := 204) (z := 40) at_202 rfl rfl ?_
  refine X6.lushr (pc' := 205) at_204 rfl ?_
  refine X6.ldc2 (pc' := 208) (wd_2 hw) at_205 rfl ?_
  refine X6.land (pc' := 209) at_208 rfl ?_
  refine X6.l2i (pc' := 210) at_209 rfl ?_
  refine X6.i2c (pc' := 211) at_210 rfl ?_
  refine X6.castore (pc' := 212) V6 (show Inb (5 : Int32) 9 from ⟨by decide, by decide⟩) at_211 rfl (Or.inr sz_b1) (fun T7 h7 X7 W7 => ?_)
  have V7 : Lst Z h7 b1 .char [(.int (nar .char (((i3 &&& (255 : Int64)).toInt32).toUInt32.toUInt16.toUInt32.toInt32))), (.int (nar .char (((((i3.toUInt64 >>> ((8 : Int32) &&& 0x3f).toInt64.toUInt64).toInt64) &&& (255 : Int64)).toInt32).toUInt32.toUInt16.toUInt32.toInt32))), (.int (nar .char (((((i3.toUInt64 >>> ((16 : Int32) &&& 0x3f).toInt64.toUInt64).toInt64) &&& (255 : Int64)).toInt32).toUInt32.toUInt16.toUInt32.toInt32))), (.int (nar .char (((((i3.toUInt64 >>> ((24 : Int32) &&& 0x3f).toInt64.toUInt64).toInt64) &&& (255 : Int64)).toInt32).toUInt32.toUInt16.toUInt32.toInt32))), (.int (nar .char (((((i3.toUInt64 >>> ((32 : Int32) &&& 0x3f).toInt64.toUInt64).toInt64) &&& (255 : Int64)).toInt32).toUInt32.toUInt16.toUInt32.toInt32))), (.int (nar .char (((((i3.toUInt64 >>> ((40 : Int32) &&& 0x3f).toInt64.toUInt64).toInt64) &&& (255 : Int64)).toInt32).toUInt32.toUInt16.toUInt32.toInt32))), (.int (0 : Int32)), (.int (0 : Int32)), (.int (0 : Int32))] := V6.set W7
  have Sm_7 := Sta.wr W7 Sm_6
  have Vm_7 := Vm_6.other W7 ne_cma_b1
  have Sc_7 := Sta.wr W7 Sc_6
  have Sf_7 := Sta.wr W7 Sf_6
  have Vp_7 := Vp_6.other W7 ne_pa_b1
  have Se_7 := Sta.wr W7 Se_6
  refine X7.aload (pc' := 214) at_212 rfl rfl rfl ?_
  refine X7.bipush (pc' := 216) (z := 6) at_214 rfl rfl ?_
  refine X7.lloadN (pc' := 217) at_216 rfl rfl ?_
  refine X7.bipush (pc' := 219) (z := 48) at_217 rfl rfl ?_
  refine X7.lushr (pc' := 220) at_219 rfl ?_
  refine X7.ldc2 (pc' := 223) (wd_2 hw) at_220 rfl ?_
  refine X7.land (pc' := 224) at_223 rfl ?_
  refine X7.l2i (pc' := 225) at_224 rfl ?_
  refine X7.i2c (pc' := 226) at_225 rfl ?_
  refine X7.castore (pc' := 227) V7 (show Inb (6 : Int32) 9 from ⟨by decide, by decide⟩) at_226 rfl (Or.inr sz_b1) (fun T8 h8 X8 W8 => ?_)
  have V8 : Lst Z h8 b1 .char [(.int (nar .char (((i3 &&& (255 : Int64)).toInt32).toUInt32.toUInt16.toUInt32.toInt32))), (.int (nar .char (((((i3.toUInt64 >>> ((8 : Int32) &&& 0x3f).toInt64.toUInt64).toInt64) &&& (255 : Int64)).toInt32).toUInt32.toUInt16.toUInt32.toInt32))), (.int (nar .char (((((i3.toUInt64 >>> ((16 : Int32) &&& 0x3f).toInt64.toUInt64).toInt64) &&& (255 : Int64)).toInt32).toUInt32.toUInt16.toUInt32.toInt32))), (.int (nar .char (((((i3.toUInt64 >>> ((24 : Int32) &&& 0x3f).toInt64.toUInt64).toInt64) &&& (255 : Int64)).toInt32).toUInt32.toUInt16.toUInt32.toInt32))), (.int (nar .char (((((i3.toUInt64 >>> ((32 : Int32) &&& 0x3f).toInt64.toUInt64).toInt64) &&& (255 : Int64)).toInt32).toUInt32.toUInt16.toUInt32.toInt32))), (.int (nar .char (((((i3.toUInt64 >>> ((40 : Int32) &&& 0x3f).toInt64.toUInt64).toInt64) &&& (255 : Int64)).toInt32).toUInt32.toUInt16.toUInt32.toInt32))), (.int (nar .char (((((i3.toUInt64 >>> ((48 : Int32) &&& 0x3f).toInt64.toUInt64).toInt64) &&& (255 : Int64)).toInt32).toUInt32.toUInt16.toUInt32.toInt32))), (.int (0 : Int32)), (.int (0 : Int32))] := V7.set W8
  have Sm_8 := Sta.wr W8 Sm_7
  have Vm_8 := Vm_7.other W8 ne_cma_b1
  have Sc_8 := Sta.wr W8 Sc_7
  have Sf_8 := Sta.wr W8 Sf_7
  have Vp_8 := Vp_7.other W8 ne_pa_b1
  have Se_8 := Sta.wr W8 Se_7
  refine X8.aload (pc' := 229) at_227 rfl rfl rfl ?_
  refine X8.bipush (pc' := 231) (z := 7) at_229 rfl rfl ?_
  refine X8.lloadN (pc' := 232) at_231 rfl rfl ?_
  refine X8.bipush (pc' := 234) (z := 56) at_232 rfl rfl ?_
  refine X8.lushr (pc' := 235) at_234 rfl ?_
  refine X8.ldc2 (pc' := 238) (wd_2 hw) at_235 rfl ?_
  refine X8.land (pc' := 239) at_238 rfl ?_
  refine X8.l2i (pc' := 240) at_239 rfl ?_
  refine X8.i2c (pc' := 241) at_240 rfl ?_
  refine X8.castore (pc' := 242) V8 (show Inb (7 : Int32) 9 from ⟨by decide, by decide⟩) at_241 rfl (Or.inr sz_b1) (fun T9 h9 X9 W9 => ?_)
  have V9 : Lst Z h9 b1 .char [(.int (nar .char (((i3 &&& (255 : Int64)).toInt32).toUInt32.toUInt16.toUInt32.toInt32))), (.int (nar .char (((((i3.toUInt64 >>> ((8 : Int32) &&& 0x3f).toInt64.toUInt64).toInt64) &&& (255 : Int64)).toInt32).toUInt32.toUInt16.toUInt32.toInt32))), (.int (nar .char (((((i3.toUInt64 >>> ((16 : Int32) &&& 0x3f).toInt64.toUInt64).toInt64) &&& (255 : Int64)).toInt32).toUInt32.toUInt16.toUInt32.toInt32))), (.int (nar .char (((((i3.toUInt64 >>> ((24 : Int32) &&& 0x3f).toInt64.toUInt64).toInt64) &&& (255 : Int64)).toInt32).toUInt32.toUInt16.toUInt32.toInt32))), (.int (nar .char (((((i3.toUInt64 >>> ((32 : Int32) &&& 0x3f).toInt64.toUInt64).toInt64) &&& (255 : Int64)).toInt32).toUInt32.toUInt16.toUInt32.toInt32))), (.int (nar .char (((((i3.toUInt64 >>> ((40 : Int32) &&& 0x3f).toInt64.toUInt64).toInt64) &&& (255 : Int64)).toInt32).toUInt32.toUInt16.toUInt32.toInt32))), (.int (nar .char (((((i3.toUInt64 >>> ((48 : Int32) &&& 0x3f).toInt64.toUInt64).toInt64) &&& (255 : Int64)).toInt32).toUInt32.toUInt16.toUInt32.toInt32))), (.int (nar .char (((((i3.toUInt64 >>> ((56 : Int32) &&& 0x3f).toInt64.toUInt64).toInt64) &&& (255 : Int64)).toInt32).toUInt32.toUInt16.toUInt32.toInt32))), (.int (0 : Int32))] := V8.set W9
  have Sm_9 := Sta.wr W9 Sm_8
  have Vm_9 := Vm_8.other W9 ne_cma_b1
  have Sc_9 := Sta.wr W9 Sc_8
  have Sf_9 := Sta.wr W9 Sf_8
  have Vp_9 := Vp_8.other W9 ne_pa_b1
  have Se_9 := Sta.wr W9 Se_8
  refine X9.aload (pc' := 244) at_242 rfl rfl rfl ?_
  refine X9.bipush (pc' := 246) (z := 8) at_244 rfl rfl ?_
  refine X9.iloadN (pc' := 247) at_246 rfl rfl ?_
  refine X9.bipush (pc' := 249) (z := 16) at_247 rfl rfl ?_
  refine X9.iushr (pc' := 250) at_249 rfl ?_
  refine X9.sipush (pc' := 253) (z := 255) at_250 rfl rfl ?_
  refine X9.iand (pc' := 254) at_253 rfl ?_
  refine X9.i2c (pc' := 255) at_254 rfl ?_
  refine X9.castore (pc' := 256) V9 (show Inb (8 : Int32) 9 from ⟨by decide, by decide⟩) at_255 rfl (Or.inr sz_b1) (fun T10 h10 X10 W10 => ?_)
  have V10 : Lst Z h10 b1 .char [(.int (nar .char (((i3 &&& (255 : Int64)).toInt32).toUInt32.toUInt16.toUInt32.toInt32))), (.int (nar .char (((((i3.toUInt64 >>> ((8 : Int32) &&& 0x3f).toInt64.toUInt64).toInt64) &&& (255 : Int64)).toInt32).toUInt32.toUInt16.toUInt32.toInt32))), (.int (nar .char (((((i3.toUInt64 >>> ((16 : Int32) &&& 0x3f).toInt64.toUInt64).toInt64) &&& (255 : Int64)).toInt32).toUInt32.toUInt16.toUInt32.toInt32))), (.int (nar .char (((((i3.toUInt64 >>> ((24 : Int32) &&& 0x3f).toInt64.toUInt64).toInt64) &&& (255 : Int64)).toInt32).toUInt32.toUInt16.toUInt32.toInt32))), (.int (nar .char (((((i3.toUInt64 >>> ((32 : Int32) &&& 0x3f).toInt64.toUInt64).toInt64) &&& (255 : Int64)).toInt32).toUInt32.toUInt16.toUInt32.toInt32))), (.int (nar .char (((((i3.toUInt64 >>> ((40 : Int32) &&& 0x3f).toInt64.toUInt64).toInt64) &&& (255 : Int64)).toInt32).toUInt32.toUInt16.toUInt32.toInt32))), (.int (nar .char (((((i3.toUInt64 >>> ((48 : Int32) &&& 0x3f).toInt64.toUInt64).toInt64) &&& (255 : Int64)).toInt32).toUInt32.toUInt16.toUInt32.toInt32))), (.int (nar .char (((((i3.toUInt64 >>> ((56 : Int32) &&& 0x3f).toInt64.toUInt64).toInt64) &&& (255 : Int64)).toInt32).toUInt32.toUInt16.toUInt32.toInt32))), (.int (nar .char ((((i2.toUInt32 >>> ((16 : Int32) &&& 31).toUInt32).toInt32) &&& (255 : Int32)).toUInt32.toUInt16.toUInt32.toInt32)))] := V9.set W10
  have Sm_10 := Sta.wr W10 Sm_9
  have Vm_10 := Vm_9.other W10 ne_cma_b1
  have Sc_10 := Sta.wr W10 Sc_9
  have Sf_10 := Sta.wr W10 Sf_9
  have Vp_10 := Vp_9.other W10 ne_pa_b1
  have Se_10 := Sta.wr W10 Se_9
  obtain ⟨X0, VX0, -⟩ : ∃ X : Nat → Int32, Lst Z h10 b1 .char (own_tn 9 X) ∧ ∀ t, t < 9 → X t ∈ [(nar .char (((i3 &&& (255 : Int64)).toInt32).toUInt32.toUInt16.toUInt32.toInt32)), (nar .char (((((i3.toUInt64 >>> ((8 : Int32) &&& 0x3f).toInt64.toUInt64).toInt64) &&& (255 : Int64)).toInt32).toUInt32.toUInt16.toUInt32.toInt32)), (nar .char (((((i3.toUInt64 >>> ((16 : Int32) &&& 0x3f).toInt64.toUInt64).toInt64) &&& (255 : Int64)).toInt32).toUInt32.toUInt16.toUInt32.toInt32)), (nar .char (((((i3.toUInt64 >>> ((24 : Int32) &&& 0x3f).toInt64.toUInt64).toInt64) &&& (255 : Int64)).toInt32).toUInt32.toUInt16.toUInt32.toInt32)), (nar .char (((((i3.toUInt64 >>> ((32 : Int32) &&& 0x3f).toInt64.toUInt64).toInt64) &&& (255 : Int64)).toInt32).toUInt32.toUInt16.toUInt32.toInt32)), (nar .char (((((i3.toUInt64 >>> ((40 : Int32) &&& 0x3f).toInt64.toUInt64).toInt64) &&& (255 : Int64)).toInt32).toUInt32.toUInt16.toUInt32.toInt32)), (nar .char (((((i3.toUInt64 >>> ((48 : Int32) &&& 0x3f).toInt64.toUInt64).toInt64) &&& (255 : Int64)).toInt32).toUInt32.toUInt16.toUInt32.toInt32)), (nar .char (((((i3.toUInt64 >>> ((56 : Int32) &&& 0x3f).toInt64.toUInt64).toInt64) &&& (255 : Int64)).toInt32).toUInt32.toUInt16.toUInt32.toInt32)), (nar .char ((((i2.toUInt32 >>> ((16 : Int32) &&& 31).toUInt32).toInt32) &&& (255 : Int32)).toUInt32.toUInt16.toUInt32.toInt32))] := own_lstP [(nar .char (((i3 &&& (255 : Int64)).toInt32).toUInt32.toUInt16.toUInt32.toInt32)), (nar .char (((((i3.toUInt64 >>> ((8 : Int32) &&& 0x3f).toInt64.toUInt64).toInt64) &&& (255 : Int64)).toInt32).toUInt32.toUInt16.toUInt32.toInt32)), (nar .char (((((i3.toUInt64 >>> ((16 : Int32) &&& 0x3f).toInt64.toUInt64).toInt64) &&& (255 : Int64)).toInt32).toUInt32.toUInt16.toUInt32.toInt32)), (nar .char (((((i3.toUInt64 >>> ((24 : Int32) &&& 0x3f).toInt64.toUInt64).toInt64) &&& (255 : Int64)).toInt32).toUInt32.toUInt16.toUInt32.toInt32)), (nar .char (((((i3.toUInt64 >>> ((32 : Int32) &&& 0x3f).toInt64.toUInt64).toInt64) &&& (255 : Int64)).toInt32).toUInt32.toUInt16.toUInt32.toInt32)), (nar .char (((((i3.toUInt64 >>> ((40 : Int32) &&& 0x3f).toInt64.toUInt64).toInt64) &&& (255 : Int64)).toInt32).toUInt32.toUInt16.toUInt32.toInt32)), (nar .char (((((i3.toUInt64 >>> ((48 : Int32) &&& 0x3f).toInt64.toUInt64).toInt64) &&& (255 : Int64)).toInt32).toUInt32.toUInt16.toUInt32.toInt32)), (nar .char (((((i3.toUInt64 >>> ((56 : Int32) &&& 0x3f).toInt64.toUInt64).toInt64) &&& (255 : Int64)).toInt32).toUInt32.toUInt16.toUInt32.toInt32)), (nar .char ((((i2.toUInt32 >>> ((16 : Int32) &&& 31).toUInt32).toInt32) &&& (255 : Int32)).toUInt32.toUInt16.toUInt32.toInt32))] V10
  refine X10.aload (pc' := 258) at_256 rfl rfl rfl ?_
  refine X10.iload (pc' := 260) at_258 rfl rfl ?_
  refine X10.aload (pc' := 262) at_260 rfl rfl rfl ?_
  refine X10.iload (pc' := 264) at_262 rfl rfl ?_
  refine X10.iconst (pc' := 265) (z := 1) at_264 rfl rfl ?_
  refine X10.iload (pc' := 267) at_265 rfl rfl ?_
  refine X10.callS (pc' := 270) (W := 0) (argsL := [(.ref b1), (.int st.toInt32), (.ref pa), (.int n.toInt32), (.int (1 : Int32)), (.int kp)]) (rest := []) (ctCp l Z a0 hw b1 pa X0 P st n 1 kp h10 VX0 Vp_10 hN (by omega) ne_pa_b1) (wd_3 hw) (wd_4 hw) (wd_5 hw) (wd_6 hw) (by decide) pd_13 rfl rfl rfl rfl at_267 rfl (by decide) rfl (by decide) (by decide) (by decide) ((allS (Or.inr sz_b1) all0)) (fun T11 h11 v11 X11 K11 Q11 => ?_)
  have Sm_11 := sta_keepL Sm_10 K11 (lstS VX0 exa0)
  have Vm_11 := Vm_10.keep K11 (ninS ne_cma_b1 nin0)
  have Sc_11 := sta_keepL Sc_10 K11 (lstS VX0 exa0)
  have Sf_11 := sta_keepL Sf_10 K11 (lstS VX0 exa0)
  have Vp_11 := Vp_10.keep K11 (ninS ne_pa_b1 nin0)
  have Se_11 := sta_keepL Se_10 K11 (lstS VX0 exa0)
  obtain ⟨rfl, X1, VX1⟩ := Q11
  show Runs p e below (T11.setTop (mkF m 270 #[.val (.int i0), .val (.int i1), .val (.int i2), .val (.long i3), .second, .val (.int n.toInt32), .val (.int st.toInt32), .val (.int kp), .val (.ref pa), .val (.ref b1), .unset, .unset, .unset, .unset, .unset] [])) _
  refine X11.aload (pc' := 272) at_270 rfl rfl rfl ?_
  refine X11.iload (pc' := 274) at_272 rfl rfl ?_
  refine X11.aload (pc' := 276) at_274 rfl rfl rfl ?_
  refine X11.iload (pc' := 278) at_276 rfl rfl ?_
  refine X11.iconst (pc' := 279) (z := 2) at_278 rfl rfl ?_
  refine X11.iload (pc' := 281) at_279 rfl rfl ?_
  refine X11.callS (pc' := 284) (W := 0) (argsL := [(.ref b1), (.int st.toInt32), (.ref pa), (.int n.toInt32), (.int (2 : Int32)), (.int kp)]) (rest := []) (ctCp l Z a0 hw b1 pa X1 P st n 2 kp h11 VX1 Vp_11 hN (by omega) ne_pa_b1) (wd_3 hw) (wd_4 hw) (wd_5 hw) (wd_6 hw) (by decide) pd_13 rfl rfl rfl rfl at_281 rfl (by decide) rfl (by decide) (by decide) (by decide) ((allS (Or.inr sz_b1) all0)) (fun T12 h12 v12 X12 K12 Q12 => ?_)
  have Sm_12 := sta_keepL Sm_11 K12 (lstS VX1 exa0)
  have Vm_12 := Vm_11.keep K12 (ninS ne_cma_b1 nin0)
  have Sc_12 := sta_keepL Sc_11 K12 (lstS VX1 exa0)
  have Sf_12 := sta_keepL Sf_11 K12 (lstS VX1 exa0)
  have Vp_12 := Vp_11.keep K12 (ninS ne_pa_b1 nin0)
  have Se_12 := sta_keepL Se_11 K12 (lstS VX1 exa0)
  obtain ⟨rfl, X2, VX2⟩ := Q12
  show Runs p e below (T12.setTop (mkF m 284 #[.val (.int i0), .val (.int i1), .val (.int i2), .val (.long i3), .second, .val (.int n.toInt32), .val (.int st.toInt32), .val (.int kp), .val (.ref pa), .val (.ref b1), .unset, .unset, .unset, .unset, .unset] [])) _
  refine X12.aload (pc' := 286) at_284 rfl rfl rfl ?_
  refine X12.iload (pc' := 288) at_286 rfl rfl ?_
  refine X12.aload (pc' := 290) at_288 rfl rfl rfl ?_
  refine X12.iload (pc' := 292) at_290 rfl rfl ?_
  refine X12.iconst (pc' := 293) (z := 3) at_292 rfl rfl ?_
  refine X12.iload (pc' := 295) at_293 rfl rfl ?_
  refine X12.callS (pc' := 298) (W := 0) (argsL := [(.ref b1), (.int st.toInt32), (.ref pa), (.int n.toInt32), (.int (3 : Int32)), (.int kp)]) (rest := []) (ctCp l Z a0 hw b1 pa X2 P st n 3 kp h12 VX2 Vp_12 hN (by omega) ne_pa_b1) (wd_3 hw) (wd_4 hw) (wd_5 hw) (wd_6 hw) (by decide) pd_13 rfl rfl rfl rfl at_295 rfl (by decide) rfl (by decide) (by decide) (by decide) ((allS (Or.inr sz_b1) all0)) (fun T13 h13 v13 X13 K13 Q13 => ?_)
  have Sm_13 := sta_keepL Sm_12 K13 (lstS VX2 exa0)
  have Vm_13 := Vm_12.keep K13 (ninS ne_cma_b1 nin0)
  have Sc_13 := sta_keepL Sc_12 K13 (lstS VX2 exa0)
  have Sf_13 := sta_keepL Sf_12 K13 (lstS VX2 exa0)
  have Vp_13 := Vp_12.keep K13 (ninS ne_pa_b1 nin0)
  have Se_13 := sta_keepL Se_12 K13 (lstS VX2 exa0)
  obtain ⟨rfl, X3, VX3⟩ := Q13
  show Runs p e below (T13.setTop (mkF m 298 #[.val (.int i0), .val (.int i1), .val (.int i2), .val (.long i3), .second, .val (.int n.toInt32), .val (.int st.toInt32), .val (.int kp), .val (.ref pa), .val (.ref b1), .unset, .unset, .unset, .unset, .unset] [])) _
  refine X13.aload (pc' := 300) at_298 rfl rfl rfl ?_
  refine X13.iload (pc' := 302) at_300 rfl rfl ?_
  refine X13.aload (pc' := 304) at_302 rfl rfl rfl ?_
  refine X13.iload (pc' := 306) at_304 rfl rfl ?_
  refine X13.iconst (pc' := 307) (z := 4) at_306 rfl rfl ?_
  refine X13.iload (pc' := 309) at_307 rfl rfl ?_
  refine X13.callS (pc' := 312) (W := 0) (argsL := [(.ref b1), (.int st.toInt32), (.ref pa), (.int n.toInt32), (.int (4 : Int32)), (.int kp)]) (rest := []) (ctCp l Z a0 hw b1 pa X3 P st n 4 kp h13 VX3 Vp_13 hN (by omega) ne_pa_b1) (wd_3 hw) (wd_4 hw) (wd_5 hw) (wd_6 hw) (by decide) pd_13 rfl rfl rfl rfl at_309 rfl (by decide) rfl (by decide) (by decide) (by decide) ((allS (Or.inr sz_b1) all0)) (fun T14 h14 v14 X14 K14 Q14 => ?_)
  have Sm_14 := sta_keepL Sm_13 K14 (lstS VX3 exa0)
  have Vm_14 := Vm_13.keep K14 (ninS ne_cma_b1 nin0)
  have Sc_14 := sta_keepL Sc_13 K14 (lstS VX3 exa0)
  have Sf_14 := sta_keepL Sf_13 K14 (lstS VX3 exa0)
  have Vp_14 := Vp_13.keep K14 (ninS ne_pa_b1 nin0)
  have Se_14 := sta_keepL Se_13 K14 (lstS VX3 exa0)
  obtain ⟨rfl, X4, VX4⟩ := Q14
  show Runs p e below (T14.setTop (mkF m 312 #[.val (.int i0), .val (.int i1), .val (.int i2), .val (.long i3), .second, .val (.int n.toInt32), .val (.int st.toInt32), .val (.int kp), .val (.ref pa), .val (.ref b1), .unset, .unset, .unset, .unset, .unset] [])) _
  refine X14.aload (pc' := 314) at_312 rfl rfl rfl ?_
  refine X14.iload (pc' := 316) at_314 rfl rfl ?_
  refine X14.aload (pc' := 318) at_316 rfl rfl rfl ?_
  refine X14.iload (pc' := 320) at_318 rfl rfl ?_
  refine X14.iconst (pc' := 321) (z := 5) at_320 rfl rfl ?_
  refine X14.iload (pc' := 323) at_321 rfl rfl ?_
  refine X14.callS (pc' := 326) (W := 0) (argsL := [(.ref b1), (.int st.toInt32), (.ref pa), (.int n.toInt32), (.int (5 : Int32)), (.int kp)]) (rest := []) (ctCp l Z a0 hw b1 pa X4 P st n 5 kp h14 VX4 Vp_14 hN (by omega) ne_pa_b1) (wd_3 hw) (wd_4 hw) (wd_5 hw) (wd_6 hw) (by decide) pd_13 rfl rfl rfl rfl at_323 rfl (by decide) rfl (by decide) (by decide) (by decide) ((allS (Or.inr sz_b1) all0)) (fun T15 h15 v15 X15 K15 Q15 => ?_)
  have Sm_15 := sta_keepL Sm_14 K15 (lstS VX4 exa0)
  have Vm_15 := Vm_14.keep K15 (ninS ne_cma_b1 nin0)
  have Sc_15 := sta_keepL Sc_14 K15 (lstS VX4 exa0)
  have Sf_15 := sta_keepL Sf_14 K15 (lstS VX4 exa0)
  have Vp_15 := Vp_14.keep K15 (ninS ne_pa_b1 nin0)
  have Se_15 := sta_keepL Se_14 K15 (lstS VX4 exa0)
  obtain ⟨rfl, X5, VX5⟩ := Q15
  show Runs p e below (T15.setTop (mkF m 326 #[.val (.int i0), .val (.int i1), .val (.int i2), .val (.long i3), .second, .val (.int n.toInt32), .val (.int st.toInt32), .val (.int kp), .val (.ref pa), .val (.ref b1), .unset, .unset, .unset, .unset, .unset] [])) _
  refine X15.aload (pc' := 328) at_326 rfl rfl rfl ?_
  refine X15.callS (pc' := 331) (W := 0) (argsL := [(.ref pa)]) (rest := []) (ctW l Z a0 hw pa cma cm P n fr a1 c1 fov cz ce h15 Sm_15 Vm_15 Vp_15 hn hN hP Sc_15 hcz Sf_15 hfo Se_15 hf0 ha1 hc1 hA hc hfr) (wd_7 hw) (wd_8 hw) (wd_9 hw) (wd_10 hw) (by decide) pd_10 rfl rfl rfl rfl at_328 rfl (by decide) rfl (by decide) (by decide) (by decide) allWs0 (fun T16 h16 v16 X16 K16 Q16 => ?_)
  have Sm_16 := sta_keep0 Sm_15 K16
  have Vm_16 := Vm_15.keep K16 nin0
  have Sc_16 := sta_keep0 Sc_15 K16
  have Sf_16 := sta_keep0 Sf_15 K16
  have Vp_16 := Vp_15.keep K16 nin0
  have Se_16 := sta_keep0 Se_15 K16
  have VX5_16 := VX5.keep K16 nin0
  obtain ⟨sp, rfl, szs, f1, p1, Es, Fan, Fch, Ffi, Fpc, z1, z2⟩ := Q16
  have sz_sp : h0.size ≤ sp := Nat.le_trans X15.size szs
  have ne_cma_sp : cma ≠ sp := Nat.ne_of_lt (Nat.lt_of_lt_of_le Vm_15.lt szs)
  have ne_pa_sp : pa ≠ sp := Nat.ne_of_lt (Nat.lt_of_lt_of_le Vp_15.lt szs)
  have ne_b1_sp : b1 ≠ sp := Nat.ne_of_lt (Nat.lt_of_lt_of_le VX5.lt szs)
  show Runs p e below (T16.setTop (mkF m 331 #[.val (.int i0), .val (.int i1), .val (.int i2), .val (.long i3), .second, .val (.int n.toInt32), .val (.int st.toInt32), .val (.int kp), .val (.ref pa), .val (.ref b1), .unset, .unset, .unset, .unset, .unset] [(.ref sp)])) _
  refine X16.astore (pc' := 333) (l' := #[.val (.int i0), .val (.int i1), .val (.int i2), .val (.long i3), .second, .val (.int n.toInt32), .val (.int st.toInt32), .val (.int kp), .val (.ref pa), .val (.ref b1), .val (.ref sp), .unset, .unset, .unset, .unset]) at_331 rfl rfl rfl ?_
  refine X16.aload (pc' := 335) at_333 rfl rfl rfl ?_
  refine X16.virtual (pc' := 338) (W := 0) (a := sp) (argsL := []) (rest := []) (ctg_anchor l Z a0 hw sp a1.toInt32 h16 Fan) (wd_86 hw) (wd_87 hw) (fun _ q => notFace_of_selects q) (wd_89 hw) (wd_88 hw) (wd_9 hw) (wd_90 hw) (by decide) Es pd_11 rfl rfl rfl rfl at_335 rfl (by decide) rfl (by decide) (by decide) (by decide) allWs0 (fun T17 h17 v17 X17 K17 Q17 => ?_)
  obtain ⟨rfl, rfl⟩ := Q17
  show Runs p e below (T17.setTop (mkF m 338 #[.val (.int i0), .val (.int i1), .val (.int i2), .val (.long i3), .second, .val (.int n.toInt32), .val (.int st.toInt32), .val (.int kp), .val (.ref pa), .val (.ref b1), .val (.ref sp), .unset, .unset, .unset, .unset] [(.int a1.toInt32)])) _
  refine X17.istore (pc' := 340) (l' := #[.val (.int i0), .val (.int i1), .val (.int i2), .val (.long i3), .second, .val (.int n.toInt32), .val (.int st.toInt32), .val (.int kp), .val (.ref pa), .val (.ref b1), .val (.ref sp), .val (.int a1.toInt32), .unset, .unset, .unset]) at_338 rfl rfl ?_
  refine X17.aload (pc' := 342) at_340 rfl rfl rfl ?_
  refine X17.virtual (pc' := 345) (W := 0) (a := sp) (argsL := []) (rest := []) (ctg_check l Z a0 hw sp c1.toInt32 h16 Fch) (wd_91 hw) (wd_92 hw) (fun _ q => notFace_of_selects q) (wd_94 hw) (wd_93 hw) (wd_9 hw) (wd_95 hw) (by decide) Es pd_11 rfl rfl rfl rfl at_342 rfl (by decide) rfl (by decide) (by decide) (by decide) allWs0 (fun T18 h18 v18 X18 K18 Q18 => ?_)
  obtain ⟨rfl, rfl⟩ := Q18
  show Runs p e below (T18.setTop (mkF m 345 #[.val (.int i0), .val (.int i1), .val (.int i2), .val (.long i3), .second, .val (.int n.toInt32), .val (.int st.toInt32), .val (.int kp), .val (.ref pa), .val (.ref b1), .val (.ref sp), .val (.int a1.toInt32), .unset, .unset, .unset] [(.int c1.toInt32)])) _
  refine X18.istore (pc' := 347) (l' := #[.val (.int i0), .val (.int i1), .val (.int i2), .val (.long i3), .second, .val (.int n.toInt32), .val (.int st.toInt32), .val (.int kp), .val (.ref pa), .val (.ref b1), .val (.ref sp), .val (.int a1.toInt32), .val (.int c1.toInt32), .unset, .unset]) at_345 rfl rfl ?_
  refine X18.aload (pc' := 349) at_347 rfl rfl rfl ?_
  refine X18.iload (pc' := 351) at_349 rfl rfl ?_
  refine X18.aload (pc' := 353) at_351 rfl rfl rfl ?_
  refine X18.iconst (pc' := 354) (z := 0) at_353 rfl rfl ?_
  refine X18.iaload (pc' := 355) (v := (.int (P 0))) Vp_16 (own_il rfl hn) (own_tn_at (own_ilt rfl) hn) at_354 rfl ?_
  refine X18.i2c (pc' := 356) at_355 rfl ?_
  refine X18.castore (pc' := 357) VX5_16 (own_il (own_i32 (by omega)) (by omega : st < 9)) at_356 rfl (Or.inr sz_b1) (fun T19 h19 X19 W19 => ?_)
  rw [own_c255 (hP _ hn)] at W19
  have V19 : Lst Z h19 b1 .char (own_tn 9 (own_upd X5 st (P 0))) := (own_tn_updz (i := st) (own_i32 (n := st) (by omega))) ▸ VX5_16.set W19
  have Sm_19 := Sta.wr W19 Sm_16
  have Vm_19 := Vm_16.other W19 ne_cma_b1
  have Sc_19 := Sta.wr W19 Sc_16
  have Sf_19 := Sta.wr W19 Sf_16
  have Vp_19 := Vp_16.other W19 ne_pa_b1
  have Se_19 := Sta.wr W19 Se_16
  have Es_19 := Exa.wr W19 Es
  have Fan_19 := Fld.other W19 Fan (Or.inl (Ne.symm ne_b1_sp))
  have Fch_19 := Fld.other W19 Fch (Or.inl (Ne.symm ne_b1_sp))
  have Ffi_19 := Fld.other W19 Ffi (Or.inl (Ne.symm ne_b1_sp))
  have Fpc_19 := Fld.other W19 Fpc (Or.inl (Ne.symm ne_b1_sp))
  refine X19.aload (pc' := 359) at_357 rfl rfl rfl ?_
  refine X19.iload (pc' := 361) at_359 rfl rfl ?_
  refine X19.iload (pc' := 363) at_361 rfl rfl ?_
  refine X19.iadd (pc' := 364) at_363 rfl ?_
  refine X19.aload (pc' := 366) at_364 rfl rfl rfl ?_
  refine X19.iload (pc' := 368) at_366 rfl rfl ?_
  refine X19.iaload (pc' := 369) (v := (.int (P a1))) Vp_19 (own_il (own_i32 (by omega)) ha1) (own_tn_at (own_ilt (own_i32 (by omega))) ha1) at_368 rfl ?_
  refine X19.i2c (pc' := 370) at_369 rfl ?_
  refine X19.castore (pc' := 371) V19 (own_il (own_sumi (by omega)) (by omega : st + a1 < 9)) at_370 rfl (Or.inr sz_b1) (fun T20 h20 X20 W20 => ?_)
  rw [own_c255 (hP _ ha1)] at W20
  have V20 : Lst Z h20 b1 .char (own_tn 9 (own_upd (own_upd X5 st (P 0)) (st + a1) (P a1))) := (own_tn_updz (i := st + a1) (own_sumi (a := st) (b := a1) (by omega))) ▸ V19.set W20
  have Sm_20 := Sta.wr W20 Sm_19
  have Vm_20 := Vm_19.other W20 ne_cma_b1
  have Sc_20 := Sta.wr W20 Sc_19
  have Sf_20 := Sta.wr W20 Sf_19
  have Vp_20 := Vp_19.other W20 ne_pa_b1
  have Se_20 := Sta.wr W20 Se_19
  have Es_20 := Exa.wr W20 Es_19
  have Fan_20 := Fld.other W20 Fan_19 (Or.inl (Ne.symm ne_b1_sp))
  have Fch_20 := Fld.other W20 Fch_19 (Or.inl (Ne.symm ne_b1_sp))
  have Ffi_20 := Fld.other W20 Ffi_19 (Or.inl (Ne.symm ne_b1_sp))
  have Fpc_20 := Fld.other W20 Fpc_19 (Or.inl (Ne.symm ne_b1_sp))
  refine X20.aload (pc' := 373) at_371 rfl rfl rfl ?_
  refine X20.iload (pc' := 375) at_373 rfl rfl ?_
  refine X20.iload (pc' := 377) at_375 rfl rfl ?_
  refine X20.iadd (pc' := 378) at_377 rfl ?_
  refine X20.aload (pc' := 380) at_378 rfl rfl rfl ?_
  refine X20.iload (pc' := 382) at_380 rfl rfl ?_
  refine X20.iaload (pc' := 383) (v := (.int (P c1))) Vp_20 (own_il (own_i32 (by omega)) hc1) (own_tn_at (own_ilt (own_i32 (by omega))) hc1) at_382 rfl ?_
  refine X20.i2c (pc' := 384) at_383 rfl ?_
  refine X20.castore (pc' := 385) V20 (own_il (own_sumi (by omega)) (by omega : st + c1 < 9)) at_384 rfl (Or.inr sz_b1) (fun T21 h21 X21 W21 => ?_)
  rw [own_c255 (hP _ hc1)] at W21
  have V21 : Lst Z h21 b1 .char (own_tn 9 (own_upd (own_upd (own_upd X5 st (P 0)) (st + a1) (P a1)) (st + c1) (P c1))) := (own_tn_updz (i := st + c1) (own_sumi (a := st) (b := c1) (by omega))) ▸ V20.set W21
  have Sm_21 := Sta.wr W21 Sm_20
  have Vm_21 := Vm_20.other W21 ne_cma_b1
  have Sc_21 := Sta.wr W21 Sc_20
  have Sf_21 := Sta.wr W21 Sf_20
  have Vp_21 := Vp_20.other W21 ne_pa_b1
  have Se_21 := Sta.wr W21 Se_20
  have Es_21 := Exa.wr W21 Es_20
  have Fan_21 := Fld.other W21 Fan_20 (Or.inl (Ne.symm ne_b1_sp))
  have Fch_21 := Fld.other W21 Fch_20 (Or.inl (Ne.symm ne_b1_sp))
  have Ffi_21 := Fld.other W21 Ffi_20 (Or.inl (Ne.symm ne_b1_sp))
  have Fpc_21 := Fld.other W21 Fpc_20 (Or.inl (Ne.symm ne_b1_sp))
  obtain ⟨Y, VY, hY⟩ : ∃ Y : Nat → Int32, Lst Z h21 b1 .char (own_tn 9 Y) ∧ ∀ t, t = 0 ∨ t = a1 ∨ t = c1 → Y (st + t) = P t := ⟨_, V21, own_three _ P st a1 c1⟩
  refine X21.new (pc' := 388) (wd_96 hw) (wd_97 hw) (wd_98 hw) at_385 rfl (by decide) (by decide) (fun T22 h22 b22 X22 g22 E22 A22 D22 => ?_)
  have sz_b22 : h0.size ≤ b22 := g22 ▸ X21.size
  have ne_cma_b22 : cma ≠ b22 := Nat.ne_of_lt (g22 ▸ Vm_21.lt)
  have ne_pa_b22 : pa ≠ b22 := Nat.ne_of_lt (g22 ▸ Vp_21.lt)
  have ne_b1_b22 : b1 ≠ b22 := Nat.ne_of_lt (g22 ▸ VY.lt)
  have ne_sp_b22 : sp ≠ b22 := Nat.ne_of_lt (g22 ▸ Es_21.lt)
  have Sm_22 := Sta.ext E22 Sm_21
  have Vm_22 := Vm_21.ext E22
  have Sc_22 := Sta.ext E22 Sc_21
  have Sf_22 := Sta.ext E22 Sf_21
  have Vp_22 := Vp_21.ext E22
  have Se_22 := Sta.ext E22 Se_21
  have VY_22 := VY.ext E22
  have Es_22 := Exa.ext E22 Es_21
  have Fan_22 := Fld.ext E22 Fan_21
  have Fch_22 := Fld.ext E22 Fch_21
  have Ffi_22 := Fld.ext E22 Ffi_21
  have Fpc_22 := Fld.ext E22 Fpc_21
  have Fpattern_b22 : Fld Z h22 b22 "com/example/rummage/rummage/CharSeek" "pattern" "[I" .null := D22 (Or.inr (wd_106 hw)) (ty := (.array .int)) (by decide)
  have Flength_b22 : Fld Z h22 b22 "com/example/rummage/rummage/CharSeek" "length" "I" (.int (0 : Int32)) := D22 (Or.inr (wd_108 hw)) (ty := .int) (by decide)
  have Flead_b22 : Fld Z h22 b22 "com/example/rummage/rummage/CharSeek" "lead" "I" (.int (0 : Int32)) := D22 (Or.inr (wd_115 hw)) (ty := .int) (by decide)
  have Fbeside_b22 : Fld Z h22 b22 "com/example/rummage/rummage/CharSeek" "beside" "I" (.int (0 : Int32)) := D22 (Or.inr (wd_117 hw)) (ty := .int) (by decide)
  have Fcheck_b22 : Fld Z h22 b22 "com/example/rummage/rummage/CharSeek" "check" "I" (.int (0 : Int32)) := D22 (Or.inr (wd_120 hw)) (ty := .int) (by decide)
  have Fpaired_b22 : Fld Z h22 b22 "com/example/rummage/rummage/CharSeek" "paired" "Z" (.int (0 : Int32)) := D22 (Or.inr (wd_127 hw)) (ty := .boolean) (by decide)
  have FleadSymbol_b22 : Fld Z h22 b22 "com/example/rummage/rummage/CharSeek" "leadSymbol" "C" (.int (0 : Int32)) := D22 (Or.inr (wd_129 hw)) (ty := .char) (by decide)
  have FbesideSymbol_b22 : Fld Z h22 b22 "com/example/rummage/rummage/CharSeek" "besideSymbol" "C" (.int (0 : Int32)) := D22 (Or.inr (wd_131 hw)) (ty := .char) (by decide)
  have Fchecked_b22 : Fld Z h22 b22 "com/example/rummage/rummage/CharSeek" "checked" "C" (.int (0 : Int32)) := D22 (Or.inr (wd_133 hw)) (ty := .char) (by decide)
  have FchecksWhole_b22 : Fld Z h22 b22 "com/example/rummage/rummage/CharSeek" "checksWhole" "Z" (.int (0 : Int32)) := D22 (Or.inr (wd_135 hw)) (ty := .boolean) (by decide)
  refine X22.dup (pc' := 389) at_388 rfl rfl ?_
  refine X22.aload (pc' := 391) at_389 rfl rfl rfl ?_
  refine X22.special (pc' := 394) (W := 1) (a := b22) (argsL := [(.ref pa)]) (rest := [(.ref b22)]) (ctK l Z a0 hw b22 pa cma cm P n fr a1 c1 fov cz ce h22 A22 Fpattern_b22 Flength_b22 Flead_b22 Fbeside_b22 Fcheck_b22 Fpaired_b22 FleadSymbol_b22 FbesideSymbol_b22 Fchecked_b22 FchecksWhole_b22 Sm_22 Vm_22 Vp_22 hn hN hP Sc_22 hcz Sf_22 hfo Se_22 hf0 ha1 hc1 hA hc hfr hn6 ne_pa_b22 ne_cma_b22) rfl (wd_99 hw) (wd_100 hw) (wd_98 hw) (wd_101 hw) (by decide) pd_14 rfl rfl rfl rfl at_391 rfl (by decide) rfl (by decide) (by decide) (by decide) ((allS (Or.inr sz_b22) all0)) (fun T23 h23 v23 X23 K23 Q23 => ?_)
  have Sm_23 := sta_keepL Sm_22 K23 (exaS A22 exa0)
  have Vm_23 := Vm_22.keep K23 (ninS ne_cma_b22 nin0)
  have Sc_23 := sta_keepL Sc_22 K23 (exaS A22 exa0)
  have Sf_23 := sta_keepL Sf_22 K23 (exaS A22 exa0)
  have Vp_23 := Vp_22.keep K23 (ninS ne_pa_b22 nin0)
  have Se_23 := sta_keepL Se_22 K23 (exaS A22 exa0)
  have VY_23 := VY_22.keep K23 (ninS ne_b1_b22 nin0)
  have Es_23 := Es_22.keep K23
  have Fan_23 := Fan_22.keep K23 (ninS ne_sp_b22 nin0)
  have Fch_23 := Fch_22.keep K23 (ninS ne_sp_b22 nin0)
  have Ffi_23 := Ffi_22.keep K23 (ninS ne_sp_b22 nin0)
  have Fpc_23 := Fpc_22.keep K23 (ninS ne_sp_b22 nin0)
  have A22_23 := A22.keep K23
  obtain ⟨rfl, cw, Ek, Fcw, Fln, Fpt, hcov⟩ := Q23
  show Runs p e below (T23.setTop (mkF m 394 #[.val (.int i0), .val (.int i1), .val (.int i2), .val (.long i3), .second, .val (.int n.toInt32), .val (.int st.toInt32), .val (.int kp), .val (.ref pa), .val (.ref b1), .val (.ref sp), .val (.int a1.toInt32), .val (.int c1.toInt32), .unset, .unset] [(.ref b22)])) _
  refine X23.astore (pc' := 396) (l' := #[.val (.int i0), .val (.int i1), .val (.int i2), .val (.long i3), .second, .val (.int n.toInt32), .val (.int st.toInt32), .val (.int kp), .val (.ref pa), .val (.ref b1), .val (.ref sp), .val (.int a1.toInt32), .val (.int c1.toInt32), .val (.ref b22), .unset]) at_394 rfl rfl rfl ?_
  refine X23.iconst (pc' := 397) (z := 1) at_396 rfl rfl ?_
  refine X23.istore (pc' := 399) (l' := #[.val (.int i0), .val (.int i1), .val (.int i2), .val (.long i3), .second, .val (.int n.toInt32), .val (.int st.toInt32), .val (.int kp), .val (.ref pa), .val (.ref b1), .val (.ref sp), .val (.int a1.toInt32), .val (.int c1.toInt32), .val (.ref b22), .val (.int (1 : Int32))]) at_397 rfl rfl ?_
  refine X23.aload (pc' := 401) at_399 rfl rfl rfl ?_
  refine X23.iload (pc' := 403) at_401 rfl rfl ?_
  refine X23.aload (pc' := 405) at_403 rfl rfl rfl ?_
  refine X23.iload (pc' := 407) at_405 rfl rfl ?_
  refine X23.iconst (pc' := 408) (z := 1) at_407 rfl rfl ?_
  refine X23.callS (pc' := 411) (W := 0) (argsL := [(.ref b1), (.int st.toInt32), (.ref pa), (.int n.toInt32), (.int (1 : Int32))]) (rest := []) (ctEq l Z a0 hw b1 pa Y P st n 1 h23 VY_23 Vp_23 hN (by omega)) (wd_136 hw) (wd_137 hw) (wd_5 hw) (wd_138 hw) (by decide) pd_15 rfl rfl rfl rfl at_408 rfl (by decide) rfl (by decide) (by decide) (by decide) allWs0 (fun T24 h24 v24 X24 K24 Q24 => ?_)
  obtain ⟨rfl, rfl⟩ := Q24
  show Runs p e below (T24.setTop (mkF m 411 #[.val (.int i0), .val (.int i1), .val (.int i2), .val (.long i3), .second, .val (.int n.toInt32), .val (.int st.toInt32), .val (.int kp), .val (.ref pa), .val (.ref b1), .val (.ref sp), .val (.int a1.toInt32), .val (.int c1.toInt32), .val (.ref b22), .val (.int (1 : Int32))] [(.int (own_eq Y P st n 1))])) _
  by_cases hc25 : (own_eq Y P st n 1) = (0 : Int32)
  · refine X24.ifYes (pc' := 490) at_411 (teq hc25).1 (by decide) (by decide) ?_
    refine X24.aload (pc' := 492) at_490 rfl rfl rfl ?_
    refine X24.aload (pc' := 494) at_492 rfl rfl rfl ?_
    refine X24.iload (pc' := 496) at_494 rfl rfl ?_
    have hrn : 1 ≤ n := by omega
    have he : 1 = n ∨ ¬ Y (st + 1) = P 1 := by
      rcases own_eqF hN (by decide) hc25 with z | z
      · exact Or.inl (by omega)
      · exact Or.inr z
    have hlo : ∀ t, 1 ≤ t → t < 1 → Y (st + t) = P t := by
      intro t t1 t2
      omega
    refine X24.virtual (pc' := 499) (W := 0) (a := b22) (argsL := [(.ref b1), (.int st.toInt32)]) (rest := []) (ctO l Z a0 hw b22 b1 pa Y P st n 1 cw h23 Ek Fcw Fln Fpt VY_23 Vp_23 hn6 (by omega) (by decide) hrn hlo he (own_fin hrn he hY hcov)) (wd_139 hw) (wd_140 hw) (fun _ q => notFace_of_selects q) (wd_142 hw) (wd_141 hw) (wd_98 hw) (wd_143 hw) (by decide) Ek pd_16 rfl rfl rfl rfl at_496 rfl (by decide) rfl (by decide) (by decide) (by decide) allWs0 (fun T26 h26 v26 X26 K26 Q26 => ?_)
    obtain ⟨rfl, rfl⟩ := Q26
    show Runs p e below (T26.setTop (mkF m 499 #[.val (.int i0), .val (.int i1), .val (.int i2), .val (.long i3), .second, .val (.int n.toInt32), .val (.int st.toInt32), .val (.int kp), .val (.ref pa), .val (.ref b1), .val (.ref sp), .val (.int a1.toInt32), .val (.int c1.toInt32), .val (.ref b22), .val (.int (1 : Int32))] [(.int (1 : Int32))])) _
    refine X26.iload (pc' := 501) at_499 rfl rfl ?_
    refine X26.icmpNo (pc' := 504) at_501 (by decide) rfl ?_
    refine X26.iconst (pc' := 505) (z := 1) at_504 rfl rfl ?_
    refine X26.goto (pc' := 509) at_505 (by decide) (by decide) ?_
    exact X26.zreturn (z' := (1 : Int32)) rfl (by simp) at_509 rfl (by decide) (by decide) rfl
  · refine X24.ifNo (pc' := 414) at_411 (feq hc25).1 rfl ?_
    refine X24.iconst (pc' := 415) (z := 2) at_414 rfl rfl ?_
    refine X24.istore (pc' := 417) (l' := #[.val (.int i0), .val (.int i1), .val (.int i2), .val (.long i3), .second, .val (.int n.toInt32), .val (.int st.toInt32), .val (.int kp), .val (.ref pa), .val (.ref b1), .val (.ref sp), .val (.int a1.toInt32), .val (.int c1.toInt32), .val (.ref b22), .val (.int (2 : Int32))]) at_415 rfl rfl ?_
    refine X24.aload (pc' := 419) at_417 rfl rfl rfl ?_
    refine X24.iload (pc' := 421) at_419 rfl rfl ?_
    refine X24.aload (pc' := 423) at_421 rfl rfl rfl ?_
    refine X24.iload (pc' := 425) at_423 rfl rfl ?_
    refine X24.iconst (pc' := 426) (z := 2) at_425 rfl rfl ?_
    refine X24.callS (pc' := 429) (W := 0) (argsL := [(.ref b1), (.int st.toInt32), (.ref pa), (.int n.toInt32), (.int (2 : Int32))]) (rest := []) (ctEq l Z a0 hw b1 pa Y P st n 2 h23 VY_23 Vp_23 hN (by omega)) (wd_136 hw) (wd_137 hw) (wd_5 hw) (wd_138 hw) (by decide) pd_15 rfl rfl rfl rfl at_426 rfl (by decide) rfl (by decide) (by decide) (by decide) allWs0 (fun T27 h27 v27 X27 K27 Q27 => ?_)
    obtain ⟨rfl, rfl⟩ := Q27
    show Runs p e below (T27.setTop (mkF m 429 #[.val (.int i0), .val (.int i1), .val (.int i2), .val (.long i3), .second, .val (.int n.toInt32), .val (.int st.toInt32), .val (.int kp), .val (.ref pa), .val (.ref b1), .val (.ref sp), .val (.int a1.toInt32), .val (.int c1.toInt32), .val (.ref b22), .val (.int (2 : Int32))] [(.int (own_eq Y P st n 2))])) _
    by_cases hc28 : (own_eq Y P st n 2) = (0 : Int32)
    · refine X27.ifYes (pc' := 490) at_429 (teq hc28).1 (by decide) (by decide) ?_
      refine X27.aload (pc' := 492) at_490 rfl rfl rfl ?_
      refine X27.aload (pc' := 494) at_492 rfl rfl rfl ?_
      refine X27.iload (pc' := 496) at_494 rfl rfl ?_
      have q1 := own_eqT hN (by decide) hc25
      have hrn : 2 ≤ n := by have := q1.1; omega
      have he : 2 = n ∨ ¬ Y (st + 2) = P 2 := by
        rcases own_eqF hN (by decide) hc28 with z | z
        · exact Or.inl (by omega)
        · exact Or.inr z
      have hlo : ∀ t, 1 ≤ t → t < 2 → Y (st + t) = P t := by
        intro t t1 t2
        rcases (by omega : t = 1) with rfl
        · exact q1.2
      refine X27.virtual (pc' := 499) (W := 0) (a := b22) (argsL := [(.ref b1), (.int st.toInt32)]) (rest := []) (ctO l Z a0 hw b22 b1 pa Y P st n 2 cw h23 Ek Fcw Fln Fpt VY_23 Vp_23 hn6 (by omega) (by decide) hrn hlo he (own_fin hrn he hY hcov)) (wd_139 hw) (wd_140 hw) (fun _ q => notFace_of_selects q) (wd_142 hw) (wd_141 hw) (wd_98 hw) (wd_143 hw) (by decide) Ek pd_16 rfl rfl rfl rfl at_496 rfl (by decide) rfl (by decide) (by decide) (by decide) allWs0 (fun T29 h29 v29 X29 K29 Q29 => ?_)
      obtain ⟨rfl, rfl⟩ := Q29
      show Runs p e below (T29.setTop (mkF m 499 #[.val (.int i0), .val (.int i1), .val (.int i2), .val (.long i3), .second, .val (.int n.toInt32), .val (.int st.toInt32), .val (.int kp), .val (.ref pa), .val (.ref b1), .val (.ref sp), .val (.int a1.toInt32), .val (.int c1.toInt32), .val (.ref b22), .val (.int (2 : Int32))] [(.int (2 : Int32))])) _
      refine X29.iload (pc' := 501) at_499 rfl rfl ?_
      refine X29.icmpNo (pc' := 504) at_501 (by decide) rfl ?_
      refine X29.iconst (pc' := 505) (z := 1) at_504 rfl rfl ?_
      refine X29.goto (pc' := 509) at_505 (by decide) (by decide) ?_
      exact X29.zreturn (z' := (1 : Int32)) rfl (by simp) at_509 rfl (by decide) (by decide) rfl
    · refine X27.ifNo (pc' := 432) at_429 (feq hc28).1 rfl ?_
      refine X27.iconst (pc' := 433) (z := 3) at_432 rfl rfl ?_
      refine X27.istore (pc' := 435) (l' := #[.val (.int i0), .val (.int i1), .val (.int i2), .val (.long i3), .second, .val (.int n.toInt32), .val (.int st.toInt32), .val (.int kp), .val (.ref pa), .val (.ref b1), .val (.ref sp), .val (.int a1.toInt32), .val (.int c1.toInt32), .val (.ref b22), .val (.int (3 : Int32))]) at_433 rfl rfl ?_
      refine X27.aload (pc' := 437) at_435 rfl rfl rfl ?_
      refine X27.iload (pc' := 439) at_437 rfl rfl ?_
      refine X27.aload (pc' := 441) at_439 rfl rfl rfl ?_
      refine X27.iload (pc' := 443) at_441 rfl rfl ?_
      refine X27.iconst (pc' := 444) (z := 3) at_443 rfl rfl ?_
      refine X27.callS (pc' := 447) (W := 0) (argsL := [(.ref b1), (.int st.toInt32), (.ref pa), (.int n.toInt32), (.int (3 : Int32))]) (rest := []) (ctEq l Z a0 hw b1 pa Y P st n 3 h23 VY_23 Vp_23 hN (by omega)) (wd_136 hw) (wd_137 hw) (wd_5 hw) (wd_138 hw) (by decide) pd_15 rfl rfl rfl rfl at_444 rfl (by decide) rfl (by decide) (by decide) (by decide) allWs0 (fun T30 h30 v30 X30 K30 Q30 => ?_)
      obtain ⟨rfl, rfl⟩ := Q30
      show Runs p e below (T30.setTop (mkF m 447 #[.val (.int i0), .val (.int i1), .val (.int i2), .val (.long i3), .second, .val (.int n.toInt32), .val (.int st.toInt32), .val (.int kp), .val (.ref pa), .val (.ref b1), .val (.ref sp), .val (.int a1.toInt32), .val (.int c1.toInt32), .val (.ref b22), .val (.int (3 : Int32))] [(.int (own_eq Y P st n 3))])) _
      by_cases hc31 : (own_eq Y P st n 3) = (0 : Int32)
      · refine X30.ifYes (pc' := 490) at_447 (teq hc31).1 (by decide) (by decide) ?_
        refine X30.aload (pc' := 492) at_490 rfl rfl rfl ?_
        refine X30.aload (pc' := 494) at_492 rfl rfl rfl ?_
        refine X30.iload (pc' := 496) at_494 rfl rfl ?_
        have q1 := own_eqT hN (by decide) hc25
        have q2 := own_eqT hN (by decide) hc28
        have hrn : 3 ≤ n := by have := q2.1; omega
        have he : 3 = n ∨ ¬ Y (st + 3) = P 3 := by
          rcases own_eqF hN (by decide) hc31 with z | z
          · exact Or.inl (by omega)
          · exact Or.inr z
        have hlo : ∀ t, 1 ≤ t → t < 3 → Y (st + t) = P t := by
          intro t t1 t2
          rcases (by omega : t = 1 ∨ t = 2) with rfl | rfl
          · exact q1.2
          · exact q2.2
        refine X30.virtual (pc' := 499) (W := 0) (a := b22) (argsL := [(.ref b1), (.int st.toInt32)]) (rest := []) (ctO l Z a0 hw b22 b1 pa Y P st n 3 cw h23 Ek Fcw Fln Fpt VY_23 Vp_23 hn6 (by omega) (by decide) hrn hlo he (own_fin hrn he hY hcov)) (wd_139 hw) (wd_140 hw) (fun _ q => notFace_of_selects q) (wd_142 hw) (wd_141 hw) (wd_98 hw) (wd_143 hw) (by decide) Ek pd_16 rfl rfl rfl rfl at_496 rfl (by decide) rfl (by decide) (by decide) (by decide) allWs0 (fun T32 h32 v32 X32 K32 Q32 => ?_)
        obtain ⟨rfl, rfl⟩ := Q32
        show Runs p e below (T32.setTop (mkF m 499 #[.val (.int i0), .val (.int i1), .val (.int i2), .val (.long i3), .second, .val (.int n.toInt32), .val (.int st.toInt32), .val (.int kp), .val (.ref pa), .val (.ref b1), .val (.ref sp), .val (.int a1.toInt32), .val (.int c1.toInt32), .val (.ref b22), .val (.int (3 : Int32))] [(.int (3 : Int32))])) _
        refine X32.iload (pc' := 501) at_499 rfl rfl ?_
        refine X32.icmpNo (pc' := 504) at_501 (by decide) rfl ?_
        refine X32.iconst (pc' := 505) (z := 1) at_504 rfl rfl ?_
        refine X32.goto (pc' := 509) at_505 (by decide) (by decide) ?_
        exact X32.zreturn (z' := (1 : Int32)) rfl (by simp) at_509 rfl (by decide) (by decide) rfl
      · refine X30.ifNo (pc' := 450) at_447 (feq hc31).1 rfl ?_
        refine X30.iconst (pc' := 451) (z := 4) at_450 rfl rfl ?_
        refine X30.istore (pc' := 453) (l' := #[.val (.int i0), .val (.int i1), .val (.int i2), .val (.long i3), .second, .val (.int n.toInt32), .val (.int st.toInt32), .val (.int kp), .val (.ref pa), .val (.ref b1), .val (.ref sp), .val (.int a1.toInt32), .val (.int c1.toInt32), .val (.ref b22), .val (.int (4 : Int32))]) at_451 rfl rfl ?_
        refine X30.aload (pc' := 455) at_453 rfl rfl rfl ?_
        refine X30.iload (pc' := 457) at_455 rfl rfl ?_
        refine X30.aload (pc' := 459) at_457 rfl rfl rfl ?_
        refine X30.iload (pc' := 461) at_459 rfl rfl ?_
        refine X30.iconst (pc' := 462) (z := 4) at_461 rfl rfl ?_
        refine X30.callS (pc' := 465) (W := 0) (argsL := [(.ref b1), (.int st.toInt32), (.ref pa), (.int n.toInt32), (.int (4 : Int32))]) (rest := []) (ctEq l Z a0 hw b1 pa Y P st n 4 h23 VY_23 Vp_23 hN (by omega)) (wd_136 hw) (wd_137 hw) (wd_5 hw) (wd_138 hw) (by decide) pd_15 rfl rfl rfl rfl at_462 rfl (by decide) rfl (by decide) (by decide) (by decide) allWs0 (fun T33 h33 v33 X33 K33 Q33 => ?_)
        obtain ⟨rfl, rfl⟩ := Q33
        show Runs p e below (T33.setTop (mkF m 465 #[.val (.int i0), .val (.int i1), .val (.int i2), .val (.long i3), .second, .val (.int n.toInt32), .val (.int st.toInt32), .val (.int kp), .val (.ref pa), .val (.ref b1), .val (.ref sp), .val (.int a1.toInt32), .val (.int c1.toInt32), .val (.ref b22), .val (.int (4 : Int32))] [(.int (own_eq Y P st n 4))])) _
        by_cases hc34 : (own_eq Y P st n 4) = (0 : Int32)
        · refine X33.ifYes (pc' := 490) at_465 (teq hc34).1 (by decide) (by decide) ?_
          refine X33.aload (pc' := 492) at_490 rfl rfl rfl ?_
          refine X33.aload (pc' := 494) at_492 rfl rfl rfl ?_
          refine X33.iload (pc' := 496) at_494 rfl rfl ?_
          have q1 := own_eqT hN (by decide) hc25
          have q2 := own_eqT hN (by decide) hc28
          have q3 := own_eqT hN (by decide) hc31
          have hrn : 4 ≤ n := by have := q3.1; omega
          have he : 4 = n ∨ ¬ Y (st + 4) = P 4 := by
            rcases own_eqF hN (by decide) hc34 with z | z
            · exact Or.inl (by omega)
            · exact Or.inr z
          have hlo : ∀ t, 1 ≤ t → t < 4 → Y (st + t) = P t := by
            intro t t1 t2
            rcases (by omega : t = 1 ∨ t = 2 ∨ t = 3) with rfl | rfl | rfl
            · exact q1.2
            · exact q2.2
            · exact q3.2
          refine X33.virtual (pc' := 499) (W := 0) (a := b22) (argsL := [(.ref b1), (.int st.toInt32)]) (rest := []) (ctO l Z a0 hw b22 b1 pa Y P st n 4 cw h23 Ek Fcw Fln Fpt VY_23 Vp_23 hn6 (by omega) (by decide) hrn hlo he (own_fin hrn he hY hcov)) (wd_139 hw) (wd_140 hw) (fun _ q => notFace_of_selects q) (wd_142 hw) (wd_141 hw) (wd_98 hw) (wd_143 hw) (by decide) Ek pd_16 rfl rfl rfl rfl at_496 rfl (by decide) rfl (by decide) (by decide) (by decide) allWs0 (fun T35 h35 v35 X35 K35 Q35 => ?_)
          obtain ⟨rfl, rfl⟩ := Q35
          show Runs p e below (T35.setTop (mkF m 499 #[.val (.int i0), .val (.int i1), .val (.int i2), .val (.long i3), .second, .val (.int n.toInt32), .val (.int st.toInt32), .val (.int kp), .val (.ref pa), .val (.ref b1), .val (.ref sp), .val (.int a1.toInt32), .val (.int c1.toInt32), .val (.ref b22), .val (.int (4 : Int32))] [(.int (4 : Int32))])) _
          refine X35.iload (pc' := 501) at_499 rfl rfl ?_
          refine X35.icmpNo (pc' := 504) at_501 (by decide) rfl ?_
          refine X35.iconst (pc' := 505) (z := 1) at_504 rfl rfl ?_
          refine X35.goto (pc' := 509) at_505 (by decide) (by decide) ?_
          exact X35.zreturn (z' := (1 : Int32)) rfl (by simp) at_509 rfl (by decide) (by decide) rfl
        · refine X33.ifNo (pc' := 468) at_465 (feq hc34).1 rfl ?_
          refine X33.iconst (pc' := 469) (z := 5) at_468 rfl rfl ?_
          refine X33.istore (pc' := 471) (l' := #[.val (.int i0), .val (.int i1), .val (.int i2), .val (.long i3), .second, .val (.int n.toInt32), .val (.int st.toInt32), .val (.int kp), .val (.ref pa), .val (.ref b1), .val (.ref sp), .val (.int a1.toInt32), .val (.int c1.toInt32), .val (.ref b22), .val (.int (5 : Int32))]) at_469 rfl rfl ?_
          refine X33.aload (pc' := 473) at_471 rfl rfl rfl ?_
          refine X33.iload (pc' := 475) at_473 rfl rfl ?_
          refine X33.aload (pc' := 477) at_475 rfl rfl rfl ?_
          refine X33.iload (pc' := 479) at_477 rfl rfl ?_
          refine X33.iconst (pc' := 480) (z := 5) at_479 rfl rfl ?_
          refine X33.callS (pc' := 483) (W := 0) (argsL := [(.ref b1), (.int st.toInt32), (.ref pa), (.int n.toInt32), (.int (5 : Int32))]) (rest := []) (ctEq l Z a0 hw b1 pa Y P st n 5 h23 VY_23 Vp_23 hN (by omega)) (wd_136 hw) (wd_137 hw) (wd_5 hw) (wd_138 hw) (by decide) pd_15 rfl rfl rfl rfl at_480 rfl (by decide) rfl (by decide) (by decide) (by decide) allWs0 (fun T36 h36 v36 X36 K36 Q36 => ?_)
          obtain ⟨rfl, rfl⟩ := Q36
          show Runs p e below (T36.setTop (mkF m 483 #[.val (.int i0), .val (.int i1), .val (.int i2), .val (.long i3), .second, .val (.int n.toInt32), .val (.int st.toInt32), .val (.int kp), .val (.ref pa), .val (.ref b1), .val (.ref sp), .val (.int a1.toInt32), .val (.int c1.toInt32), .val (.ref b22), .val (.int (5 : Int32))] [(.int (own_eq Y P st n 5))])) _
          by_cases hc37 : (own_eq Y P st n 5) = (0 : Int32)
          · refine X36.ifYes (pc' := 490) at_483 (teq hc37).1 (by decide) (by decide) ?_
            refine X36.aload (pc' := 492) at_490 rfl rfl rfl ?_
            refine X36.aload (pc' := 494) at_492 rfl rfl rfl ?_
            refine X36.iload (pc' := 496) at_494 rfl rfl ?_
            have q1 := own_eqT hN (by decide) hc25
            have q2 := own_eqT hN (by decide) hc28
            have q3 := own_eqT hN (by decide) hc31
            have q4 := own_eqT hN (by decide) hc34
            have hrn : 5 ≤ n := by have := q4.1; omega
            have he : 5 = n ∨ ¬ Y (st + 5) = P 5 := by
              rcases own_eqF hN (by decide) hc37 with z | z
              · exact Or.inl (by omega)
              · exact Or.inr z
            have hlo : ∀ t, 1 ≤ t → t < 5 → Y (st + t) = P t := by
              intro t t1 t2
              rcases (by omega : t = 1 ∨ t = 2 ∨ t = 3 ∨ t = 4) with rfl | rfl | rfl | rfl
              · exact q1.2
              · exact q2.2
              · exact q3.2
              · exact q4.2
            refine X36.virtual (pc' := 499) (W := 0) (a := b22) (argsL := [(.ref b1), (.int st.toInt32)]) (rest := []) (ctO l Z a0 hw b22 b1 pa Y P st n 5 cw h23 Ek Fcw Fln Fpt VY_23 Vp_23 hn6 (by omega) (by decide) hrn hlo he (own_fin hrn he hY hcov)) (wd_139 hw) (wd_140 hw) (fun _ q => notFace_of_selects q) (wd_142 hw) (wd_141 hw) (wd_98 hw) (wd_143 hw) (by decide) Ek pd_16 rfl rfl rfl rfl at_496 rfl (by decide) rfl (by decide) (by decide) (by decide) allWs0 (fun T38 h38 v38 X38 K38 Q38 => ?_)
            obtain ⟨rfl, rfl⟩ := Q38
            show Runs p e below (T38.setTop (mkF m 499 #[.val (.int i0), .val (.int i1), .val (.int i2), .val (.long i3), .second, .val (.int n.toInt32), .val (.int st.toInt32), .val (.int kp), .val (.ref pa), .val (.ref b1), .val (.ref sp), .val (.int a1.toInt32), .val (.int c1.toInt32), .val (.ref b22), .val (.int (5 : Int32))] [(.int (5 : Int32))])) _
            refine X38.iload (pc' := 501) at_499 rfl rfl ?_
            refine X38.icmpNo (pc' := 504) at_501 (by decide) rfl ?_
            refine X38.iconst (pc' := 505) (z := 1) at_504 rfl rfl ?_
            refine X38.goto (pc' := 509) at_505 (by decide) (by decide) ?_
            exact X38.zreturn (z' := (1 : Int32)) rfl (by simp) at_509 rfl (by decide) (by decide) rfl
          · refine X36.ifNo (pc' := 486) at_483 (feq hc37).1 rfl ?_
            refine X36.bipush (pc' := 488) (z := 6) at_486 rfl rfl ?_
            refine X36.istore (pc' := 490) (l' := #[.val (.int i0), .val (.int i1), .val (.int i2), .val (.long i3), .second, .val (.int n.toInt32), .val (.int st.toInt32), .val (.int kp), .val (.ref pa), .val (.ref b1), .val (.ref sp), .val (.int a1.toInt32), .val (.int c1.toInt32), .val (.ref b22), .val (.int (6 : Int32))]) at_488 rfl rfl ?_
            refine X36.aload (pc' := 492) at_490 rfl rfl rfl ?_
            refine X36.aload (pc' := 494) at_492 rfl rfl rfl ?_
            refine X36.iload (pc' := 496) at_494 rfl rfl ?_
            have q1 := own_eqT hN (by decide) hc25
            have q2 := own_eqT hN (by decide) hc28
            have q3 := own_eqT hN (by decide) hc31
            have q4 := own_eqT hN (by decide) hc34
            have q5 := own_eqT hN (by decide) hc37
            have hrn : 6 ≤ n := by have := q5.1; omega
            have he : 6 = n ∨ ¬ Y (st + 6) = P 6 := Or.inl (by omega)
            have hlo : ∀ t, 1 ≤ t → t < 6 → Y (st + t) = P t := by
              intro t t1 t2
              rcases (by omega : t = 1 ∨ t = 2 ∨ t = 3 ∨ t = 4 ∨ t = 5) with rfl | rfl | rfl | rfl | rfl
              · exact q1.2
              · exact q2.2
              · exact q3.2
              · exact q4.2
              · exact q5.2
            refine X36.virtual (pc' := 499) (W := 0) (a := b22) (argsL := [(.ref b1), (.int st.toInt32)]) (rest := []) (ctO l Z a0 hw b22 b1 pa Y P st n 6 cw h23 Ek Fcw Fln Fpt VY_23 Vp_23 hn6 (by omega) (by decide) hrn hlo he (own_fin hrn he hY hcov)) (wd_139 hw) (wd_140 hw) (fun _ q => notFace_of_selects q) (wd_142 hw) (wd_141 hw) (wd_98 hw) (wd_143 hw) (by decide) Ek pd_16 rfl rfl rfl rfl at_496 rfl (by decide) rfl (by decide) (by decide) (by decide) allWs0 (fun T39 h39 v39 X39 K39 Q39 => ?_)
            obtain ⟨rfl, rfl⟩ := Q39
            show Runs p e below (T39.setTop (mkF m 499 #[.val (.int i0), .val (.int i1), .val (.int i2), .val (.long i3), .second, .val (.int n.toInt32), .val (.int st.toInt32), .val (.int kp), .val (.ref pa), .val (.ref b1), .val (.ref sp), .val (.int a1.toInt32), .val (.int c1.toInt32), .val (.ref b22), .val (.int (6 : Int32))] [(.int (6 : Int32))])) _
            refine X39.iload (pc' := 501) at_499 rfl rfl ?_
            refine X39.icmpNo (pc' := 504) at_501 (by decide) rfl ?_
            refine X39.iconst (pc' := 505) (z := 1) at_504 rfl rfl ?_
            refine X39.goto (pc' := 509) at_505 (by decide) (by decide) ?_
            exact X39.zreturn (z' := (1 : Int32)) rfl (by simp) at_509 rfl (by decide) (by decide) rfl
set_option maxRecDepth 65536 in
set_option maxHeartbeats 40000000 in
theorem ct0 (l : Launch) (Z : State) (a0 : Array Value) (hw : ∀ d ∈ tables_1, d.before a0 Z = true) (i0 i1 i2 : Int32) (i3 : Int64) (cma : Addr) (cm : Nat → Int32) (fov : Value) (cz ce : Int32) (h0 : Heap) (Sm : Sta Z h0 "com/example/rummage/rummage/SeekPlan" "COMMONNESS" "[B" (.ref cma)) (Vm : Lst Z h0 cma .byte (own_tn 128 cm)) (Sc : Sta Z h0 "java/lang/String" "COMPACT_STRINGS" "Z" (.int cz)) (hcz : cz ≠ (0 : Int32)) (Sf : Sta Z h0 "jdk/internal/util/Preconditions" "SIOOBE_FORMATTER" "Ljava/util/function/BiFunction;" fov) (hfo : fov = .null ∨ ∃ q, fov = .ref q) (Se : Sta Z h0 "com/example/rummage/rummage/SeekPlan" "COMMONEST" "I" (.int ce)) (hcm : ∀ t, (cm t).toInt ≤ 127) :
    Ct l Z x code maxLocals ret room_1 #[(.int i0), (.int i1), (.int i2), (.long i3)] h0 [] (fun v h => v = some (.int 1)) := by
  refine Ct.of (plainFor_of_name (by first | (simp [plainName, overriddenIn]; done) | decide +kernel)) ?_
  intro p e s m below meth c T0 X0
  refine Runs.top (g' := mkF m 0 #[.val (.int i0), .val (.int i1), .val (.int i2), .val (.long i3), .second, .unset, .unset, .unset, .unset, .unset, .unset, .unset, .unset, .unset, .unset] []) (by first | (simp [entryFrame, mkF, argsToLocals, Value.category, maxLocals]; done) | rfl) ?_
  refine X0.iconst (pc' := 1) (z := 1) at_0 rfl rfl ?_
  refine X0.iloadN (pc' := 2) at_1 rfl rfl ?_
  refine X0.bipush (pc' := 4) (z := 7) at_2 rfl rfl ?_
  refine X0.iand (pc' := 5) at_4 rfl ?_
  refine X0.bipush (pc' := 7) (z := 6) at_5 rfl rfl ?_
  refine X0.irem (pc' := 8) at_7 (by decide) rfl ?_
  refine X0.iadd (pc' := 9) at_8 rfl ?_
  have hz := own_six i0 _ rfl
  generalize ((1 : Int32) + ((i0 &&& (7 : Int32)) % (6 : Int32))) = z at hz ⊢
  rcases hz with rfl | rfl | rfl | rfl | rfl | rfl
  · refine X0.istore (pc' := 11) (l' := #[.val (.int i0), .val (.int i1), .val (.int i2), .val (.long i3), .second, .val (.int (1 : Int32)), .unset, .unset, .unset, .unset, .unset, .unset, .unset, .unset, .unset]) at_9 rfl rfl ?_
    refine X0.iloadN (pc' := 12) at_11 rfl rfl ?_
    refine X0.iconst (pc' := 13) (z := 3) at_12 rfl rfl ?_
    refine X0.iushr (pc' := 14) at_13 rfl ?_
    refine X0.iconst (pc' := 15) (z := 3) at_14 rfl rfl ?_
    refine X0.iand (pc' := 16) at_15 rfl ?_
    obtain ⟨st, hst, est⟩ := own_st ((i0.toUInt32 >>> ((3 : Int32) &&& 31).toUInt32).toInt32)
    rw [est]
    refine X0.istore (pc' := 18) (l' := #[.val (.int i0), .val (.int i1), .val (.int i2), .val (.long i3), .second, .val (.int (1 : Int32)), .val (.int st.toInt32), .unset, .unset, .unset, .unset, .unset, .unset, .unset, .unset]) at_16 rfl rfl ?_
    refine X0.iloadN (pc' := 19) at_18 rfl rfl ?_
    refine X0.iconst (pc' := 20) (z := 5) at_19 rfl rfl ?_
    refine X0.iushr (pc' := 21) at_20 rfl ?_
    refine X0.istore (pc' := 23) (l' := #[.val (.int i0), .val (.int i1), .val (.int i2), .val (.long i3), .second, .val (.int (1 : Int32)), .val (.int st.toInt32), .val (.int ((i0.toUInt32 >>> ((5 : Int32) &&& 31).toUInt32).toInt32)), .unset, .unset, .unset, .unset, .unset, .unset, .unset]) at_21 rfl rfl ?_
    refine X0.iload (pc' := 25) at_23 rfl rfl ?_
    refine X0.newarray (pc' := 27) (ty := .int) rfl (wd_0 hw) at_25 rfl (cap := 6) ⟨by decide, by decide⟩ (by decide) (by decide) (by decide) (fun T1 h1 b1 X1 g1 E1 V1 => ?_)
    have sz_b1 : h0.size ≤ b1 := g1 ▸ X0.size
    have ne_cma_b1 : cma ≠ b1 := Nat.ne_of_lt (g1 ▸ Vm.lt)
    have Sm_1 := Sta.ext E1 Sm
    have Vm_1 := Vm.ext E1
    have Sc_1 := Sta.ext E1 Sc
    have Sf_1 := Sta.ext E1 Sf
    have Se_1 := Sta.ext E1 Se
    have V1' : Lst Z h1 b1 .int [(.int (0 : Int32))] := V1
    refine X1.astore (pc' := 29) (l' := #[.val (.int i0), .val (.int i1), .val (.int i2), .val (.long i3), .second, .val (.int (1 : Int32)), .val (.int st.toInt32), .val (.int ((i0.toUInt32 >>> ((5 : Int32) &&& 31).toUInt32).toInt32)), .val (.ref b1), .unset, .unset, .unset, .unset, .unset, .unset]) at_27 rfl rfl rfl ?_
    refine X1.aload (pc' := 31) at_29 rfl rfl rfl ?_
    refine X1.iconst (pc' := 32) (z := 0) at_31 rfl rfl ?_
    refine X1.iloadN (pc' := 33) at_32 rfl rfl ?_
    refine X1.sipush (pc' := 36) (z := 255) at_33 rfl rfl ?_
    refine X1.iand (pc' := 37) at_36 rfl ?_
    refine X1.iastore (pc' := 38) V1' (show Inb (0 : Int32) 1 from ⟨by decide, by decide⟩) at_37 rfl (Or.inr sz_b1) (fun T2 h2 X2 W2 => ?_)
    have V2 : Lst Z h2 b1 .int [(.int (i1 &&& (255 : Int32)))] := V1'.set W2
    have Sm_2 := Sta.wr W2 Sm_1
    have Vm_2 := Vm_1.other W2 ne_cma_b1
    have Sc_2 := Sta.wr W2 Sc_1
    have Sf_2 := Sta.wr W2 Sf_1
    have Se_2 := Sta.wr W2 Se_1
    refine X2.iload (pc' := 40) at_38 rfl rfl ?_
    refine X2.iconst (pc' := 41) (z := 1) at_40 rfl rfl ?_
    refine X2.icmpYes (pc' := 56) at_41 (by decide) (by decide) (by decide) ?_
    refine X2.iload (pc' := 58) at_56 rfl rfl ?_
    refine X2.iconst (pc' := 59) (z := 2) at_58 rfl rfl ?_
    refine X2.icmpYes (pc' := 74) at_59 (by decide) (by decide) (by decide) ?_
    refine X2.iload (pc' := 76) at_74 rfl rfl ?_
    refine X2.iconst (pc' := 77) (z := 3) at_76 rfl rfl ?_
    refine X2.icmpYes (pc' := 92) at_77 (by decide) (by decide) (by decide) ?_
    refine X2.iload (pc' := 94) at_92 rfl rfl ?_
    refine X2.iconst (pc' := 95) (z := 4) at_94 rfl rfl ?_
    refine X2.icmpYes (pc' := 107) at_95 (by decide) (by decide) (by decide) ?_
    refine X2.iload (pc' := 109) at_107 rfl rfl ?_
    refine X2.iconst (pc' := 110) (z := 5) at_109 rfl rfl ?_
    refine X2.icmpYes (pc' := 125) at_110 (by decide) (by decide) (by decide) ?_
    obtain ⟨P, VP, hPm⟩ : ∃ P : Nat → Int32, Lst Z h2 b1 .int (own_tn 1 P) ∧ ∀ t, t < 1 → P t ∈ [(i1 &&& (255 : Int32))] := own_lstP [(i1 &&& (255 : Int32))] V2
    have hP : ∀ t, t < 1 → 0 ≤ (P t).toInt ∧ (P t).toInt ≤ 255 := by
      intro t ht
      have q := hPm t ht
      simp only [List.mem_cons, List.not_mem_nil, or_false] at q
      rcases q with q <;> (rw [q]; exact own_255 _)
    exact own_tail (n := 1) hw T2 h2 X2 (by decide) hst hcm Sm_2 Vm_2 VP (by decide) hP Sc_2 hcz Sf_2 hfo Se_2
  · refine X0.istore (pc' := 11) (l' := #[.val (.int i0), .val (.int i1), .val (.int i2), .val (.long i3), .second, .val (.int (2 : Int32)), .unset, .unset, .unset, .unset, .unset, .unset, .unset, .unset, .unset]) at_9 rfl rfl ?_
    refine X0.iloadN (pc' := 12) at_11 rfl rfl ?_
    refine X0.iconst (pc' := 13) (z := 3) at_12 rfl rfl ?_
    refine X0.iushr (pc' := 14) at_13 rfl ?_
    refine X0.iconst (pc' := 15) (z := 3) at_14 rfl rfl ?_
    refine X0.iand (pc' := 16) at_15 rfl ?_
    obtain ⟨st, hst, est⟩ := own_st ((i0.toUInt32 >>> ((3 : Int32) &&& 31).toUInt32).toInt32)
    rw [est]
    refine X0.istore (pc' := 18) (l' := #[.val (.int i0), .val (.int i1), .val (.int i2), .val (.long i3), .second, .val (.int (2 : Int32)), .val (.int st.toInt32), .unset, .unset, .unset, .unset, .unset, .unset, .unset, .unset]) at_16 rfl rfl ?_
    refine X0.iloadN (pc' := 19) at_18 rfl rfl ?_
    refine X0.iconst (pc' := 20) (z := 5) at_19 rfl rfl ?_
    refine X0.iushr (pc' := 21) at_20 rfl ?_
    refine X0.istore (pc' := 23) (l' := #[.val (.int i0), .val (.int i1), .val (.int i2), .val (.long i3), .second, .val (.int (2 : Int32)), .val (.int st.toInt32), .val (.int ((i0.toUInt32 >>> ((5 : Int32) &&& 31).toUInt32).toInt32)), .unset, .unset, .unset, .unset, .unset, .unset, .unset]) at_21 rfl rfl ?_
    refine X0.iload (pc' := 25) at_23 rfl rfl ?_
    refine X0.newarray (pc' := 27) (ty := .int) rfl (wd_0 hw) at_25 rfl (cap := 6) ⟨by decide, by decide⟩ (by decide) (by decide) (by decide) (fun T3 h3 b3 X3 g3 E3 V3 => ?_)
    have sz_b3 : h0.size ≤ b3 := g3 ▸ X0.size
    have ne_cma_b3 : cma ≠ b3 := Nat.ne_of_lt (g3 ▸ Vm.lt)
    have Sm_3 := Sta.ext E3 Sm
    have Vm_3 := Vm.ext E3
    have Sc_3 := Sta.ext E3 Sc
    have Sf_3 := Sta.ext E3 Sf
    have Se_3 := Sta.ext E3 Se
    have V3' : Lst Z h3 b3 .int [(.int (0 : Int32)), (.int (0 : Int32))] := V3
    refine X3.astore (pc' := 29) (l' := #[.val (.int i0), .val (.int i1), .val (.int i2), .val (.long i3), .second, .val (.int (2 : Int32)), .val (.int st.toInt32), .val (.int ((i0.toUInt32 >>> ((5 : Int32) &&& 31).toUInt32).toInt32)), .val (.ref b3), .unset, .unset, .unset, .unset, .unset, .unset]) at_27 rfl rfl rfl ?_
    refine X3.aload (pc' := 31) at_29 rfl rfl rfl ?_
    refine X3.iconst (pc' := 32) (z := 0) at_31 rfl rfl ?_
    refine X3.iloadN (pc' := 33) at_32 rfl rfl ?_
    refine X3.sipush (pc' := 36) (z := 255) at_33 rfl rfl ?_
    refine X3.iand (pc' := 37) at_36 rfl ?_
    refine X3.iastore (pc' := 38) V3' (show Inb (0 : Int32) 2 from ⟨by decide, by decide⟩) at_37 rfl (Or.inr sz_b3) (fun T4 h4 X4 W4 => ?_)
    have V4 : Lst Z h4 b3 .int [(.int (i1 &&& (255 : Int32))), (.int (0 : Int32))] := V3'.set W4
    have Sm_4 := Sta.wr W4 Sm_3
    have Vm_4 := Vm_3.other W4 ne_cma_b3
    have Sc_4 := Sta.wr W4 Sc_3
    have Sf_4 := Sta.wr W4 Sf_3
    have Se_4 := Sta.wr W4 Se_3
    refine X4.iload (pc' := 40) at_38 rfl rfl ?_
    refine X4.iconst (pc' := 41) (z := 1) at_40 rfl rfl ?_
    refine X4.icmpNo (pc' := 44) at_41 (by decide) rfl ?_
    refine X4.aload (pc' := 46) at_44 rfl rfl rfl ?_
    refine X4.iconst (pc' := 47) (z := 1) at_46 rfl rfl ?_
    refine X4.iloadN (pc' := 48) at_47 rfl rfl ?_
    refine X4.bipush (pc' := 50) (z := 8) at_48 rfl rfl ?_
    refine X4.iushr (pc' := 51) at_50 rfl ?_
    refine X4.sipush (pc' := 54) (z := 255) at_51 rfl rfl ?_
    refine X4.iand (pc' := 55) at_54 rfl ?_
    refine X4.iastore (pc' := 56) V4 (show Inb (1 : Int32) 2 from ⟨by decide, by decide⟩) at_55 rfl (Or.inr sz_b3) (fun T5 h5 X5 W5 => ?_)
    have V5 : Lst Z h5 b3 .int [(.int (i1 &&& (255 : Int32))), (.int (((i1.toUInt32 >>> ((8 : Int32) &&& 31).toUInt32).toInt32) &&& (255 : Int32)))] := V4.set W5
    have Sm_5 := Sta.wr W5 Sm_4
    have Vm_5 := Vm_4.other W5 ne_cma_b3
    have Sc_5 := Sta.wr W5 Sc_4
    have Sf_5 := Sta.wr W5 Sf_4
    have Se_5 := Sta.wr W5 Se_4
    refine X5.iload (pc' := 58) at_56 rfl rfl ?_
    refine X5.iconst (pc' := 59) (z := 2) at_58 rfl rfl ?_
    refine X5.icmpYes (pc' := 74) at_59 (by decide) (by decide) (by decide) ?_
    refine X5.iload (pc' := 76) at_74 rfl rfl ?_
    refine X5.iconst (pc' := 77) (z := 3) at_76 rfl rfl ?_
    refine X5.icmpYes (pc' := 92) at_77 (by decide) (by decide) (by decide) ?_
    refine X5.iload (pc' := 94) at_92 rfl rfl ?_
    refine X5.iconst (pc' := 95) (z := 4) at_94 rfl rfl ?_
    refine X5.icmpYes (pc' := 107) at_95 (by decide) (by decide) (by decide) ?_
    refine X5.iload (pc' := 109) at_107 rfl rfl ?_
    refine X5.iconst (pc' := 110) (z := 5) at_109 rfl rfl ?_
    refine X5.icmpYes (pc' := 125) at_110 (by decide) (by decide) (by decide) ?_
    obtain ⟨P, VP, hPm⟩ : ∃ P : Nat → Int32, Lst Z h5 b3 .int (own_tn 2 P) ∧ ∀ t, t < 2 → P t ∈ [(i1 &&& (255 : Int32)), (((i1.toUInt32 >>> ((8 : Int32) &&& 31).toUInt32).toInt32) &&& (255 : Int32))] := own_lstP [(i1 &&& (255 : Int32)), (((i1.toUInt32 >>> ((8 : Int32) &&& 31).toUInt32).toInt32) &&& (255 : Int32))] V5
    have hP : ∀ t, t < 2 → 0 ≤ (P t).toInt ∧ (P t).toInt ≤ 255 := by
      intro t ht
      have q := hPm t ht
      simp only [List.mem_cons, List.not_mem_nil, or_false] at q
      rcases q with q | q <;> (rw [q]; exact own_255 _)
    exact own_tail (n := 2) hw T5 h5 X5 (by decide) hst hcm Sm_5 Vm_5 VP (by decide) hP Sc_5 hcz Sf_5 hfo Se_5
  · refine X0.istore (pc' := 11) (l' := #[.val (.int i0), .val (.int i1), .val (.int i2), .val (.long i3), .second, .val (.int (3 : Int32)), .unset, .unset, .unset, .unset, .unset, .unset, .unset, .unset, .unset]) at_9 rfl rfl ?_
    refine X0.iloadN (pc' := 12) at_11 rfl rfl ?_
    refine X0.iconst (pc' := 13) (z := 3) at_12 rfl rfl ?_
    refine X0.iushr (pc' := 14) at_13 rfl ?_
    refine X0.iconst (pc' := 15) (z := 3) at_14 rfl rfl ?_
    refine X0.iand (pc' := 16) at_15 rfl ?_
    obtain ⟨st, hst, est⟩ := own_st ((i0.toUInt32 >>> ((3 : Int32) &&& 31).toUInt32).toInt32)
    rw [est]
    refine X0.istore (pc' := 18) (l' := #[.val (.int i0), .val (.int i1), .val (.int i2), .val (.long i3), .second, .val (.int (3 : Int32)), .val (.int st.toInt32), .unset, .unset, .unset, .unset, .unset, .unset, .unset, .unset]) at_16 rfl rfl ?_
    refine X0.iloadN (pc' := 19) at_18 rfl rfl ?_
    refine X0.iconst (pc' := 20) (z := 5) at_19 rfl rfl ?_
    refine X0.iushr (pc' := 21) at_20 rfl ?_
    refine X0.istore (pc' := 23) (l' := #[.val (.int i0), .val (.int i1), .val (.int i2), .val (.long i3), .second, .val (.int (3 : Int32)), .val (.int st.toInt32), .val (.int ((i0.toUInt32 >>> ((5 : Int32) &&& 31).toUInt32).toInt32)), .unset, .unset, .unset, .unset, .unset, .unset, .unset]) at_21 rfl rfl ?_
    refine X0.iload (pc' := 25) at_23 rfl rfl ?_
    refine X0.newarray (pc' := 27) (ty := .int) rfl (wd_0 hw) at_25 rfl (cap := 6) ⟨by decide, by decide⟩ (by decide) (by decide) (by decide) (fun T6 h6 b6 X6 g6 E6 V6 => ?_)
    have sz_b6 : h0.size ≤ b6 := g6 ▸ X0.size
    have ne_cma_b6 : cma ≠ b6 := Nat.ne_of_lt (g6 ▸ Vm.lt)
    have Sm_6 := Sta.ext E6 Sm
    have Vm_6 := Vm.ext E6
    have Sc_6 := Sta.ext E6 Sc
    have Sf_6 := Sta.ext E6 Sf
    have Se_6 := Sta.ext E6 Se
    have V6' : Lst Z h6 b6 .int [(.int (0 : Int32)), (.int (0 : Int32)), (.int (0 : Int32))] := V6
    refine X6.astore (pc' := 29) (l' := #[.val (.int i0), .val (.int i1), .val (.int i2), .val (.long i3), .second, .val (.int (3 : Int32)), .val (.int st.toInt32), .val (.int ((i0.toUInt32 >>> ((5 : Int32) &&& 31).toUInt32).toInt32)), .val (.ref b6), .unset, .unset, .unset, .unset, .unset, .unset]) at_27 rfl rfl rfl ?_
    refine X6.aload (pc' := 31) at_29 rfl rfl rfl ?_
    refine X6.iconst (pc' := 32) (z := 0) at_31 rfl rfl ?_
    refine X6.iloadN (pc' := 33) at_32 rfl rfl ?_
    refine X6.sipush (pc' := 36) (z := 255) at_33 rfl rfl ?_
    refine X6.iand (pc' := 37) at_36 rfl ?_
    refine X6.iastore (pc' := 38) V6' (show Inb (0 : Int32) 3 from ⟨by decide, by decide⟩) at_37 rfl (Or.inr sz_b6) (fun T7 h7 X7 W7 => ?_)
    have V7 : Lst Z h7 b6 .int [(.int (i1 &&& (255 : Int32))), (.int (0 : Int32)), (.int (0 : Int32))] := V6'.set W7
    have Sm_7 := Sta.wr W7 Sm_6
    have Vm_7 := Vm_6.other W7 ne_cma_b6
    have Sc_7 := Sta.wr W7 Sc_6
    have Sf_7 := Sta.wr W7 Sf_6
    have Se_7 := Sta.wr W7 Se_6
    refine X7.iload (pc' := 40) at_38 rfl rfl ?_
    refine X7.iconst (pc' := 41) (z := 1) at_40 rfl rfl ?_
    refine X7.icmpNo (pc' := 44) at_41 (by decide) rfl ?_
    refine X7.aload (pc' := 46) at_44 rfl rfl rfl ?_
    refine X7.iconst (pc' := 47) (z := 1) at_46 rfl rfl ?_
    refine X7.iloadN (pc' := 48) at_47 rfl rfl ?_
    refine X7.bipush (pc' := 50) (z := 8) at_48 rfl rfl ?_
    refine X7.iushr (pc' := 51) at_50 rfl ?_
    refine X7.sipush (pc' := 54) (z := 255) at_51 rfl rfl ?_
    refine X7.iand (pc' := 55) at_54 rfl ?_
    refine X7.iastore (pc' := 56) V7 (show Inb (1 : Int32) 3 from ⟨by decide, by decide⟩) at_55 rfl (Or.inr sz_b6) (fun T8 h8 X8 W8 => ?_)
    have V8 : Lst Z h8 b6 .int [(.int (i1 &&& (255 : Int32))), (.int (((i1.toUInt32 >>> ((8 : Int32) &&& 31).toUInt32).toInt32) &&& (255 : Int32))), (.int (0 : Int32))] := V7.set W8
    have Sm_8 := Sta.wr W8 Sm_7
    have Vm_8 := Vm_7.other W8 ne_cma_b6
    have Sc_8 := Sta.wr W8 Sc_7
    have Sf_8 := Sta.wr W8 Sf_7
    have Se_8 := Sta.wr W8 Se_7
    refine X8.iload (pc' := 58) at_56 rfl rfl ?_
    refine X8.iconst (pc' := 59) (z := 2) at_58 rfl rfl ?_
    refine X8.icmpNo (pc' := 62) at_59 (by decide) rfl ?_
    refine X8.aload (pc' := 64) at_62 rfl rfl rfl ?_
    refine X8.iconst (pc' := 65) (z := 2) at_64 rfl rfl ?_
    refine X8.iloadN (pc' := 66) at_65 rfl rfl ?_
    refine X8.bipush (pc' := 68) (z := 16) at_66 rfl rfl ?_
    refine X8.iushr (pc' := 69) at_68 rfl ?_
    refine X8.sipush (pc' := 72) (z := 255) at_69 rfl rfl ?_
    refine X8.iand (pc' := 73) at_72 rfl ?_
    refine X8.iastore (pc' := 74) V8 (show Inb (2 : Int32) 3 from ⟨by decide, by decide⟩) at_73 rfl (Or.inr sz_b6) (fun T9 h9 X9 W9 => ?_)
    have V9 : Lst Z h9 b6 .int [(.int (i1 &&& (255 : Int32))), (.int (((i1.toUInt32 >>> ((8 : Int32) &&& 31).toUInt32).toInt32) &&& (255 : Int32))), (.int (((i1.toUInt32 >>> ((16 : Int32) &&& 31).toUInt32).toInt32) &&& (255 : Int32)))] := V8.set W9
    have Sm_9 := Sta.wr W9 Sm_8
    have Vm_9 := Vm_8.other W9 ne_cma_b6
    have Sc_9 := Sta.wr W9 Sc_8
    have Sf_9 := Sta.wr W9 Sf_8
    have Se_9 := Sta.wr W9 Se_8
    refine X9.iload (pc' := 76) at_74 rfl rfl ?_
    refine X9.iconst (pc' := 77) (z := 3) at_76 rfl rfl ?_
    refine X9.icmpYes (pc' := 92) at_77 (by decide) (by decide) (by decide) ?_
    refine X9.iload (pc' := 94) at_92 rfl rfl ?_
    refine X9.iconst (pc' := 95) (z := 4) at_94 rfl rfl ?_
    refine X9.icmpYes (pc' := 107) at_95 (by decide) (by decide) (by decide) ?_
    refine X9.iload (pc' := 109) at_107 rfl rfl ?_
    refine X9.iconst (pc' := 110) (z := 5) at_109 rfl rfl ?_
    refine X9.icmpYes (pc' := 125) at_110 (by decide) (by decide) (by decide) ?_
    obtain ⟨P, VP, hPm⟩ : ∃ P : Nat → Int32, Lst Z h9 b6 .int (own_tn 3 P) ∧ ∀ t, t < 3 → P t ∈ [(i1 &&& (255 : Int32)), (((i1.toUInt32 >>> ((8 : Int32) &&& 31).toUInt32).toInt32) &&& (255 : Int32)), (((i1.toUInt32 >>> ((16 : Int32) &&& 31).toUInt32).toInt32) &&& (255 : Int32))] := own_lstP [(i1 &&& (255 : Int32)), (((i1.toUInt32 >>> ((8 : Int32) &&& 31).toUInt32).toInt32) &&& (255 : Int32)), (((i1.toUInt32 >>> ((16 : Int32) &&& 31).toUInt32).toInt32) &&& (255 : Int32))] V9
    have hP : ∀ t, t < 3 → 0 ≤ (P t).toInt ∧ (P t).toInt ≤ 255 := by
      intro t ht
      have q := hPm t ht
      simp only [List.mem_cons, List.not_mem_nil, or_false] at q
      rcases q with q | q | q <;> (rw [q]; exact own_255 _)
    exact own_tail (n := 3) hw T9 h9 X9 (by decide) hst hcm Sm_9 Vm_9 VP (by decide) hP Sc_9 hcz Sf_9 hfo Se_9
  · refine X0.istore (pc' := 11) (l' := #[.val (.int i0), .val (.int i1), .val (.int i2), .val (.long i3), .second, .val (.int (4 : Int32)), .unset, .unset, .unset, .unset, .unset, .unset, .unset, .unset, .unset]) at_9 rfl rfl ?_
    refine X0.iloadN (pc' := 12) at_11 rfl rfl ?_
    refine X0.iconst (pc' := 13) (z := 3) at_12 rfl rfl ?_
    refine X0.iushr (pc' := 14) at_13 rfl ?_
    refine X0.iconst (pc' := 15) (z := 3) at_14 rfl rfl ?_
    refine X0.iand (pc' := 16) at_15 rfl ?_
    obtain ⟨st, hst, est⟩ := own_st ((i0.toUInt32 >>> ((3 : Int32) &&& 31).toUInt32).toInt32)
    rw [est]
    refine X0.istore (pc' := 18) (l' := #[.val (.int i0), .val (.int i1), .val (.int i2), .val (.long i3), .second, .val (.int (4 : Int32)), .val (.int st.toInt32), .unset, .unset, .unset, .unset, .unset, .unset, .unset, .unset]) at_16 rfl rfl ?_
    refine X0.iloadN (pc' := 19) at_18 rfl rfl ?_
    refine X0.iconst (pc' := 20) (z := 5) at_19 rfl rfl ?_
    refine X0.iushr (pc' := 21) at_20 rfl ?_
    refine X0.istore (pc' := 23) (l' := #[.val (.int i0), .val (.int i1), .val (.int i2), .val (.long i3), .second, .val (.int (4 : Int32)), .val (.int st.toInt32), .val (.int ((i0.toUInt32 >>> ((5 : Int32) &&& 31).toUInt32).toInt32)), .unset, .unset, .unset, .unset, .unset, .unset, .unset]) at_21 rfl rfl ?_
    refine X0.iload (pc' := 25) at_23 rfl rfl ?_
    refine X0.newarray (pc' := 27) (ty := .int) rfl (wd_0 hw) at_25 rfl (cap := 6) ⟨by decide, by decide⟩ (by decide) (by decide) (by decide) (fun T10 h10 b10 X10 g10 E10 V10 => ?_)
    have sz_b10 : h0.size ≤ b10 := g10 ▸ X0.size
    have ne_cma_b10 : cma ≠ b10 := Nat.ne_of_lt (g10 ▸ Vm.lt)
    have Sm_10 := Sta.ext E10 Sm
    have Vm_10 := Vm.ext E10
    have Sc_10 := Sta.ext E10 Sc
    have Sf_10 := Sta.ext E10 Sf
    have Se_10 := Sta.ext E10 Se
    have V10' : Lst Z h10 b10 .int [(.int (0 : Int32)), (.int (0 : Int32)), (.int (0 : Int32)), (.int (0 : Int32))] := V10
    refine X10.astore (pc' := 29) (l' := #[.val (.int i0), .val (.int i1), .val (.int i2), .val (.long i3), .second, .val (.int (4 : Int32)), .val (.int st.toInt32), .val (.int ((i0.toUInt32 >>> ((5 : Int32) &&& 31).toUInt32).toInt32)), .val (.ref b10), .unset, .unset, .unset, .unset, .unset, .unset]) at_27 rfl rfl rfl ?_
    refine X10.aload (pc' := 31) at_29 rfl rfl rfl ?_
    refine X10.iconst (pc' := 32) (z := 0) at_31 rfl rfl ?_
    refine X10.iloadN (pc' := 33) at_32 rfl rfl ?_
    refine X10.sipush (pc' := 36) (z := 255) at_33 rfl rfl ?_
    refine X10.iand (pc' := 37) at_36 rfl ?_
    refine X10.iastore (pc' := 38) V10' (show Inb (0 : Int32) 4 from ⟨by decide, by decide⟩) at_37 rfl (Or.inr sz_b10) (fun T11 h11 X11 W11 => ?_)
    have V11 : Lst Z h11 b10 .int [(.int (i1 &&& (255 : Int32))), (.int (0 : Int32)), (.int (0 : Int32)), (.int (0 : Int32))] := V10'.set W11
    have Sm_11 := Sta.wr W11 Sm_10
    have Vm_11 := Vm_10.other W11 ne_cma_b10
    have Sc_11 := Sta.wr W11 Sc_10
    have Sf_11 := Sta.wr W11 Sf_10
    have Se_11 := Sta.wr W11 Se_10
    refine X11.iload (pc' := 40) at_38 rfl rfl ?_
    refine X11.iconst (pc' := 41) (z := 1) at_40 rfl rfl ?_
    refine X11.icmpNo (pc' := 44) at_41 (by decide) rfl ?_
    refine X11.aload (pc' := 46) at_44 rfl rfl rfl ?_
    refine X11.iconst (pc' := 47) (z := 1) at_46 rfl rfl ?_
    refine X11.iloadN (pc' := 48) at_47 rfl rfl ?_
    refine X11.bipush (pc' := 50) (z := 8) at_48 rfl rfl ?_
    refine X11.iushr (pc' := 51) at_50 rfl ?_
    refine X11.sipush (pc' := 54) (z := 255) at_51 rfl rfl ?_
    refine X11.iand (pc' := 55) at_54 rfl ?_
    refine X11.iastore (pc' := 56) V11 (show Inb (1 : Int32) 4 from ⟨by decide, by decide⟩) at_55 rfl (Or.inr sz_b10) (fun T12 h12 X12 W12 => ?_)
    have V12 : Lst Z h12 b10 .int [(.int (i1 &&& (255 : Int32))), (.int (((i1.toUInt32 >>> ((8 : Int32) &&& 31).toUInt32).toInt32) &&& (255 : Int32))), (.int (0 : Int32)), (.int (0 : Int32))] := V11.set W12
    have Sm_12 := Sta.wr W12 Sm_11
    have Vm_12 := Vm_11.other W12 ne_cma_b10
    have Sc_12 := Sta.wr W12 Sc_11
    have Sf_12 := Sta.wr W12 Sf_11
    have Se_12 := Sta.wr W12 Se_11
    refine X12.iload (pc' := 58) at_56 rfl rfl ?_
    refine X12.iconst (pc' := 59) (z := 2) at_58 rfl rfl ?_
    refine X12.icmpNo (pc' := 62) at_59 (by decide) rfl ?_
    refine X12.aload (pc' := 64) at_62 rfl rfl rfl ?_
    refine X12.iconst (pc' := 65) (z := 2) at_64 rfl rfl ?_
    refine X12.iloadN (pc' := 66) at_65 rfl rfl ?_
    refine X12.bipush (pc' := 68) (z := 16) at_66 rfl rfl ?_
    refine X12.iushr (pc' := 69) at_68 rfl ?_
    refine X12.sipush (pc' := 72) (z := 255) at_69 rfl rfl ?_
    refine X12.iand (pc' := 73) at_72 rfl ?_
    refine X12.iastore (pc' := 74) V12 (show Inb (2 : Int32) 4 from ⟨by decide, by decide⟩) at_73 rfl (Or.inr sz_b10) (fun T13 h13 X13 W13 => ?_)
    have V13 : Lst Z h13 b10 .int [(.int (i1 &&& (255 : Int32))), (.int (((i1.toUInt32 >>> ((8 : Int32) &&& 31).toUInt32).toInt32) &&& (255 : Int32))), (.int (((i1.toUInt32 >>> ((16 : Int32) &&& 31).toUInt32).toInt32) &&& (255 : Int32))), (.int (0 : Int32))] := V12.set W13
    have Sm_13 := Sta.wr W13 Sm_12
    have Vm_13 := Vm_12.other W13 ne_cma_b10
    have Sc_13 := Sta.wr W13 Sc_12
    have Sf_13 := Sta.wr W13 Sf_12
    have Se_13 := Sta.wr W13 Se_12
    refine X13.iload (pc' := 76) at_74 rfl rfl ?_
    refine X13.iconst (pc' := 77) (z := 3) at_76 rfl rfl ?_
    refine X13.icmpNo (pc' := 80) at_77 (by decide) rfl ?_
    refine X13.aload (pc' := 82) at_80 rfl rfl rfl ?_
    refine X13.iconst (pc' := 83) (z := 3) at_82 rfl rfl ?_
    refine X13.iloadN (pc' := 84) at_83 rfl rfl ?_
    refine X13.bipush (pc' := 86) (z := 24) at_84 rfl rfl ?_
    refine X13.iushr (pc' := 87) at_86 rfl ?_
    refine X13.sipush (pc' := 90) (z := 255) at_87 rfl rfl ?_
    refine X13.iand (pc' := 91) at_90 rfl ?_
    refine X13.iastore (pc' := 92) V13 (show Inb (3 : Int32) 4 from ⟨by decide, by decide⟩) at_91 rfl (Or.inr sz_b10) (fun T14 h14 X14 W14 => ?_)
    have V14 : Lst Z h14 b10 .int [(.int (i1 &&& (255 : Int32))), (.int (((i1.toUInt32 >>> ((8 : Int32) &&& 31).toUInt32).toInt32) &&& (255 : Int32))), (.int (((i1.toUInt32 >>> ((16 : Int32) &&& 31).toUInt32).toInt32) &&& (255 : Int32))), (.int (((i1.toUInt32 >>> ((24 : Int32) &&& 31).toUInt32).toInt32) &&& (255 : Int32)))] := V13.set W14
    have Sm_14 := Sta.wr W14 Sm_13
    have Vm_14 := Vm_13.other W14 ne_cma_b10
    have Sc_14 := Sta.wr W14 Sc_13
    have Sf_14 := Sta.wr W14 Sf_13
    have Se_14 := Sta.wr W14 Se_13
    refine X14.iload (pc' := 94) at_92 rfl rfl ?_
    refine X14.iconst (pc' := 95) (z := 4) at_94 rfl rfl ?_
    refine X14.icmpYes (pc' := 107) at_95 (by decide) (by decide) (by decide) ?_
    refine X14.iload (pc' := 109) at_107 rfl rfl ?_
    refine X14.iconst (pc' := 110) (z := 5) at_109 rfl rfl ?_
    refine X14.icmpYes (pc' := 125) at_110 (by decide) (by decide) (by decide) ?_
    obtain ⟨P, VP, hPm⟩ : ∃ P : Nat → Int32, Lst Z h14 b10 .int (own_tn 4 P) ∧ ∀ t, t < 4 → P t ∈ [(i1 &&& (255 : Int32)), (((i1.toUInt32 >>> ((8 : Int32) &&& 31).toUInt32).toInt32) &&& (255 : Int32)), (((i1.toUInt32 >>> ((16 : Int32) &&& 31).toUInt32).toInt32) &&& (255 : Int32)), (((i1.toUInt32 >>> ((24 : Int32) &&& 31).toUInt32).toInt32) &&& (255 : Int32))] := own_lstP [(i1 &&& (255 : Int32)), (((i1.toUInt32 >>> ((8 : Int32) &&& 31).toUInt32).toInt32) &&& (255 : Int32)), (((i1.toUInt32 >>> ((16 : Int32) &&& 31).toUInt32).toInt32) &&& (255 : Int32)), (((i1.toUInt32 >>> ((24 : Int32) &&& 31).toUInt32).toInt32) &&& (255 : Int32))] V14
    have hP : ∀ t, t < 4 → 0 ≤ (P t).toInt ∧ (P t).toInt ≤ 255 := by
      intro t ht
      have q := hPm t ht
      simp only [List.mem_cons, List.not_mem_nil, or_false] at q
      rcases q with q | q | q | q <;> (rw [q]; exact own_255 _)
    exact own_tail (n := 4) hw T14 h14 X14 (by decide) hst hcm Sm_14 Vm_14 VP (by decide) hP Sc_14 hcz Sf_14 hfo Se_14
  · refine X0.istore (pc' := 11) (l' := #[.val (.int i0), .val (.int i1), .val (.int i2), .val (.long i3), .second, .val (.int (5 : Int32)), .unset, .unset, .unset, .unset, .unset, .unset, .unset, .unset, .unset]) at_9 rfl rfl ?_
    refine X0.iloadN (pc' := 12) at_11 rfl rfl ?_
    refine X0.iconst (pc' := 13) (z := 3) at_12 rfl rfl ?_
    refine X0.iushr (pc' := 14) at_13 rfl ?_
    refine X0.iconst (pc' := 15) (z := 3) at_14 rfl rfl ?_
    refine X0.iand (pc' := 16) at_15 rfl ?_
    obtain ⟨st, hst, est⟩ := own_st ((i0.toUInt32 >>> ((3 : Int32) &&& 31).toUInt32).toInt32)
    rw [est]
    refine X0.istore (pc' := 18) (l' := #[.val (.int i0), .val (.int i1), .val (.int i2), .val (.long i3), .second, .val (.int (5 : Int32)), .val (.int st.toInt32), .unset, .unset, .unset, .unset, .unset, .unset, .unset, .unset]) at_16 rfl rfl ?_
    refine X0.iloadN (pc' := 19) at_18 rfl rfl ?_
    refine X0.iconst (pc' := 20) (z := 5) at_19 rfl rfl ?_
    refine X0.iushr (pc' := 21) at_20 rfl ?_
    refine X0.istore (pc' := 23) (l' := #[.val (.int i0), .val (.int i1), .val (.int i2), .val (.long i3), .second, .val (.int (5 : Int32)), .val (.int st.toInt32), .val (.int ((i0.toUInt32 >>> ((5 : Int32) &&& 31).toUInt32).toInt32)), .unset, .unset, .unset, .unset, .unset, .unset, .unset]) at_21 rfl rfl ?_
    refine X0.iload (pc' := 25) at_23 rfl rfl ?_
    refine X0.newarray (pc' := 27) (ty := .int) rfl (wd_0 hw) at_25 rfl (cap := 6) ⟨by decide, by decide⟩ (by decide) (by decide) (by decide) (fun T15 h15 b15 X15 g15 E15 V15 => ?_)
    have sz_b15 : h0.size ≤ b15 := g15 ▸ X0.size
    have ne_cma_b15 : cma ≠ b15 := Nat.ne_of_lt (g15 ▸ Vm.lt)
    have Sm_15 := Sta.ext E15 Sm
    have Vm_15 := Vm.ext E15
    have Sc_15 := Sta.ext E15 Sc
    have Sf_15 := Sta.ext E15 Sf
    have Se_15 := Sta.ext E15 Se
    have V15' : Lst Z h15 b15 .int [(.int (0 : Int32)), (.int (0 : Int32)), (.int (0 : Int32)), (.int (0 : Int32)), (.int (0 : Int32))] := V15
    refine X15.astore (pc' := 29) (l' := #[.val (.int i0), .val (.int i1), .val (.int i2), .val (.long i3), .second, .val (.int (5 : Int32)), .val (.int st.toInt32), .val (.int ((i0.toUInt32 >>> ((5 : Int32) &&& 31).toUInt32).toInt32)), .val (.ref b15), .unset, .unset, .unset, .unset, .unset, .unset]) at_27 rfl rfl rfl ?_
    refine X15.aload (pc' := 31) at_29 rfl rfl rfl ?_
    refine X15.iconst (pc' := 32) (z := 0) at_31 rfl rfl ?_
    refine X15.iloadN (pc' := 33) at_32 rfl rfl ?_
    refine X15.sipush (pc' := 36) (z := 255) at_33 rfl rfl ?_
    refine X15.iand (pc' := 37) at_36 rfl ?_
    refine X15.iastore (pc' := 38) V15' (show Inb (0 : Int32) 5 from ⟨by decide, by decide⟩) at_37 rfl (Or.inr sz_b15) (fun T16 h16 X16 W16 => ?_)
    have V16 : Lst Z h16 b15 .int [(.int (i1 &&& (255 : Int32))), (.int (0 : Int32)), (.int (0 : Int32)), (.int (0 : Int32)), (.int (0 : Int32))] := V15'.set W16
    have Sm_16 := Sta.wr W16 Sm_15
    have Vm_16 := Vm_15.other W16 ne_cma_b15
    have Sc_16 := Sta.wr W16 Sc_15
    have Sf_16 := Sta.wr W16 Sf_15
    have Se_16 := Sta.wr W16 Se_15
    refine X16.iload (pc' := 40) at_38 rfl rfl ?_
    refine X16.iconst (pc' := 41) (z := 1) at_40 rfl rfl ?_
    refine X16.icmpNo (pc' := 44) at_41 (by decide) rfl ?_
    refine X16.aload (pc' := 46) at_44 rfl rfl rfl ?_
    refine X16.iconst (pc' := 47) (z := 1) at_46 rfl rfl ?_
    refine X16.iloadN (pc' := 48) at_47 rfl rfl ?_
    refine X16.bipush (pc' := 50) (z := 8) at_48 rfl rfl ?_
    refine X16.iushr (pc' := 51) at_50 rfl ?_
    refine X16.sipush (pc' := 54) (z := 255) at_51 rfl rfl ?_
    refine X16.iand (pc' := 55) at_54 rfl ?_
    refine X16.iastore (pc' := 56) V16 (show Inb (1 : Int32) 5 from ⟨by decide, by decide⟩) at_55 rfl (Or.inr sz_b15) (fun T17 h17 X17 W17 => ?_)
    have V17 : Lst Z h17 b15 .int [(.int (i1 &&& (255 : Int32))), (.int (((i1.toUInt32 >>> ((8 : Int32) &&& 31).toUInt32).toInt32) &&& (255 : Int32))), (.int (0 : Int32)), (.int (0 : Int32)), (.int (0 : Int32))] := V16.set W17
    have Sm_17 := Sta.wr W17 Sm_16
    have Vm_17 := Vm_16.other W17 ne_cma_b15
    have Sc_17 := Sta.wr W17 Sc_16
    have Sf_17 := Sta.wr W17 Sf_16
    have Se_17 := Sta.wr W17 Se_16
    refine X17.iload (pc' := 58) at_56 rfl rfl ?_
    refine X17.iconst (pc' := 59) (z := 2) at_58 rfl rfl ?_
    refine X17.icmpNo (pc' := 62) at_59 (by decide) rfl ?_
    refine X17.aload (pc' := 64) at_62 rfl rfl rfl ?_
    refine X17.iconst (pc' := 65) (z := 2) at_64 rfl rfl ?_
    refine X17.iloadN (pc' := 66) at_65 rfl rfl ?_
    refine X17.bipush (pc' := 68) (z := 16) at_66 rfl rfl ?_
    refine X17.iushr (pc' := 69) at_68 rfl ?_
    refine X17.sipush (pc' := 72) (z := 255) at_69 rfl rfl ?_
    refine X17.iand (pc' := 73) at_72 rfl ?_
    refine X17.iastore (pc' := 74) V17 (show Inb (2 : Int32) 5 from ⟨by decide, by decide⟩) at_73 rfl (Or.inr sz_b15) (fun T18 h18 X18 W18 => ?_)
    have V18 : Lst Z h18 b15 .int [(.int (i1 &&& (255 : Int32))), (.int (((i1.toUInt32 >>> ((8 : Int32) &&& 31).toUInt32).toInt32) &&& (255 : Int32))), (.int (((i1.toUInt32 >>> ((16 : Int32) &&& 31).toUInt32).toInt32) &&& (255 : Int32))), (.int (0 : Int32)), (.int (0 : Int32))] := V17.set W18
    have Sm_18 := Sta.wr W18 Sm_17
    have Vm_18 := Vm_17.other W18 ne_cma_b15
    have Sc_18 := Sta.wr W18 Sc_17
    have Sf_18 := Sta.wr W18 Sf_17
    have Se_18 := Sta.wr W18 Se_17
    refine X18.iload (pc' := 76) at_74 rfl rfl ?_
    refine X18.iconst (pc' := 77) (z := 3) at_76 rfl rfl ?_
    refine X18.icmpNo (pc' := 80) at_77 (by decide) rfl ?_
    refine X18.aload (pc' := 82) at_80 rfl rfl rfl ?_
    refine X18.iconst (pc' := 83) (z := 3) at_82 rfl rfl ?_
    refine X18.iloadN (pc' := 84) at_83 rfl rfl ?_
    refine X18.bipush (pc' := 86) (z := 24) at_84 rfl rfl ?_
    refine X18.iushr (pc' := 87) at_86 rfl ?_
    refine X18.sipush (pc' := 90) (z := 255) at_87 rfl rfl ?_
    refine X18.iand (pc' := 91) at_90 rfl ?_
    refine X18.iastore (pc' := 92) V18 (show Inb (3 : Int32) 5 from ⟨by decide, by decide⟩) at_91 rfl (Or.inr sz_b15) (fun T19 h19 X19 W19 => ?_)
    have V19 : Lst Z h19 b15 .int [(.int (i1 &&& (255 : Int32))), (.int (((i1.toUInt32 >>> ((8 : Int32) &&& 31).toUInt32).toInt32) &&& (255 : Int32))), (.int (((i1.toUInt32 >>> ((16 : Int32) &&& 31).toUInt32).toInt32) &&& (255 : Int32))), (.int (((i1.toUInt32 >>> ((24 : Int32) &&& 31).toUInt32).toInt32) &&& (255 : Int32))), (.int (0 : Int32))] := V18.set W19
    have Sm_19 := Sta.wr W19 Sm_18
    have Vm_19 := Vm_18.other W19 ne_cma_b15
    have Sc_19 := Sta.wr W19 Sc_18
    have Sf_19 := Sta.wr W19 Sf_18
    have Se_19 := Sta.wr W19 Se_18
    refine X19.iload (pc' := 94) at_92 rfl rfl ?_
    refine X19.iconst (pc' := 95) (z := 4) at_94 rfl rfl ?_
    refine X19.icmpNo (pc' := 98) at_95 (by decide) rfl ?_
    refine X19.aload (pc' := 100) at_98 rfl rfl rfl ?_
    refine X19.iconst (pc' := 101) (z := 4) at_100 rfl rfl ?_
    refine X19.iloadN (pc' := 102) at_101 rfl rfl ?_
    refine X19.sipush (pc' := 105) (z := 255) at_102 rfl rfl ?_
    refine X19.iand (pc' := 106) at_105 rfl ?_
    refine X19.iastore (pc' := 107) V19 (show Inb (4 : Int32) 5 from ⟨by decide, by decide⟩) at_106 rfl (Or.inr sz_b15) (fun T20 h20 X20 W20 => ?_)
    have V20 : Lst Z h20 b15 .int [(.int (i1 &&& (255 : Int32))), (.int (((i1.toUInt32 >>> ((8 : Int32) &&& 31).toUInt32).toInt32) &&& (255 : Int32))), (.int (((i1.toUInt32 >>> ((16 : Int32) &&& 31).toUInt32).toInt32) &&& (255 : Int32))), (.int (((i1.toUInt32 >>> ((24 : Int32) &&& 31).toUInt32).toInt32) &&& (255 : Int32))), (.int (i2 &&& (255 : Int32)))] := V19.set W20
    have Sm_20 := Sta.wr W20 Sm_19
    have Vm_20 := Vm_19.other W20 ne_cma_b15
    have Sc_20 := Sta.wr W20 Sc_19
    have Sf_20 := Sta.wr W20 Sf_19
    have Se_20 := Sta.wr W20 Se_19
    refine X20.iload (pc' := 109) at_107 rfl rfl ?_
    refine X20.iconst (pc' := 110) (z := 5) at_109 rfl rfl ?_
    refine X20.icmpYes (pc' := 125) at_110 (by decide) (by decide) (by decide) ?_
    obtain ⟨P, VP, hPm⟩ : ∃ P : Nat → Int32, Lst Z h20 b15 .int (own_tn 5 P) ∧ ∀ t, t < 5 → P t ∈ [(i1 &&& (255 : Int32)), (((i1.toUInt32 >>> ((8 : Int32) &&& 31).toUInt32).toInt32) &&& (255 : Int32)), (((i1.toUInt32 >>> ((16 : Int32) &&& 31).toUInt32).toInt32) &&& (255 : Int32)), (((i1.toUInt32 >>> ((24 : Int32) &&& 31).toUInt32).toInt32) &&& (255 : Int32)), (i2 &&& (255 : Int32))] := own_lstP [(i1 &&& (255 : Int32)), (((i1.toUInt32 >>> ((8 : Int32) &&& 31).toUInt32).toInt32) &&& (255 : Int32)), (((i1.toUInt32 >>> ((16 : Int32) &&& 31).toUInt32).toInt32) &&& (255 : Int32)), (((i1.toUInt32 >>> ((24 : Int32) &&& 31).toUInt32).toInt32) &&& (255 : Int32)), (i2 &&& (255 : Int32))] V20
    have hP : ∀ t, t < 5 → 0 ≤ (P t).toInt ∧ (P t).toInt ≤ 255 := by
      intro t ht
      have q := hPm t ht
      simp only [List.mem_cons, List.not_mem_nil, or_false] at q
      rcases q with q | q | q | q | q <;> (rw [q]; exact own_255 _)
    exact own_tail (n := 5) hw T20 h20 X20 (by decide) hst hcm Sm_20 Vm_20 VP (by decide) hP Sc_20 hcz Sf_20 hfo Se_20
  · refine X0.istore (pc' := 11) (l' := #[.val (.int i0), .val (.int i1), .val (.int i2), .val (.long i3), .second, .val (.int (6 : Int32)), .unset, .unset, .unset, .unset, .unset, .unset, .unset, .unset, .unset]) at_9 rfl rfl ?_
    refine X0.iloadN (pc' := 12) at_11 rfl rfl ?_
    refine X0.iconst (pc' := 13) (z := 3) at_12 rfl rfl ?_
    refine X0.iushr (pc' := 14) at_13 rfl ?_
    refine X0.iconst (pc' := 15) (z := 3) at_14 rfl rfl ?_
    refine X0.iand (pc' := 16) at_15 rfl ?_
    obtain ⟨st, hst, est⟩ := own_st ((i0.toUInt32 >>> ((3 : Int32) &&& 31).toUInt32).toInt32)
    rw [est]
    refine X0.istore (pc' := 18) (l' := #[.val (.int i0), .val (.int i1), .val (.int i2), .val (.long i3), .second, .val (.int (6 : Int32)), .val (.int st.toInt32), .unset, .unset, .unset, .unset, .unset, .unset, .unset, .unset]) at_16 rfl rfl ?_
    refine X0.iloadN (pc' := 19) at_18 rfl rfl ?_
    refine X0.iconst (pc' := 20) (z := 5) at_19 rfl rfl ?_
    refine X0.iushr (pc' := 21) at_20 rfl ?_
    refine X0.istore (pc' := 23) (l' := #[.val (.int i0), .val (.int i1), .val (.int i2), .val (.long i3), .second, .val (.int (6 : Int32)), .val (.int st.toInt32), .val (.int ((i0.toUInt32 >>> ((5 : Int32) &&& 31).toUInt32).toInt32)), .unset, .unset, .unset, .unset, .unset, .unset, .unset]) at_21 rfl rfl ?_
    refine X0.iload (pc' := 25) at_23 rfl rfl ?_
    refine X0.newarray (pc' := 27) (ty := .int) rfl (wd_0 hw) at_25 rfl (cap := 6) ⟨by decide, by decide⟩ (by decide) (by decide) (by decide) (fun T21 h21 b21 X21 g21 E21 V21 => ?_)
    have sz_b21 : h0.size ≤ b21 := g21 ▸ X0.size
    have ne_cma_b21 : cma ≠ b21 := Nat.ne_of_lt (g21 ▸ Vm.lt)
    have Sm_21 := Sta.ext E21 Sm
    have Vm_21 := Vm.ext E21
    have Sc_21 := Sta.ext E21 Sc
    have Sf_21 := Sta.ext E21 Sf
    have Se_21 := Sta.ext E21 Se
    have V21' : Lst Z h21 b21 .int [(.int (0 : Int32)), (.int (0 : Int32)), (.int (0 : Int32)), (.int (0 : Int32)), (.int (0 : Int32)), (.int (0 : Int32))] := V21
    refine X21.astore (pc' := 29) (l' := #[.val (.int i0), .val (.int i1), .val (.int i2), .val (.long i3), .second, .val (.int (6 : Int32)), .val (.int st.toInt32), .val (.int ((i0.toUInt32 >>> ((5 : Int32) &&& 31).toUInt32).toInt32)), .val (.ref b21), .unset, .unset, .unset, .unset, .unset, .unset]) at_27 rfl rfl rfl ?_
    refine X21.aload (pc' := 31) at_29 rfl rfl rfl ?_
    refine X21.iconst (pc' := 32) (z := 0) at_31 rfl rfl ?_
    refine X21.iloadN (pc' := 33) at_32 rfl rfl ?_
    refine X21.sipush (pc' := 36) (z := 255) at_33 rfl rfl ?_
    refine X21.iand (pc' := 37) at_36 rfl ?_
    refine X21.iastore (pc' := 38) V21' (show Inb (0 : Int32) 6 from ⟨by decide, by decide⟩) at_37 rfl (Or.inr sz_b21) (fun T22 h22 X22 W22 => ?_)
    have V22 : Lst Z h22 b21 .int [(.int (i1 &&& (255 : Int32))), (.int (0 : Int32)), (.int (0 : Int32)), (.int (0 : Int32)), (.int (0 : Int32)), (.int (0 : Int32))] := V21'.set W22
    have Sm_22 := Sta.wr W22 Sm_21
    have Vm_22 := Vm_21.other W22 ne_cma_b21
    have Sc_22 := Sta.wr W22 Sc_21
    have Sf_22 := Sta.wr W22 Sf_21
    have Se_22 := Sta.wr W22 Se_21
    refine X22.iload (pc' := 40) at_38 rfl rfl ?_
    refine X22.iconst (pc' := 41) (z := 1) at_40 rfl rfl ?_
    refine X22.icmpNo (pc' := 44) at_41 (by decide) rfl ?_
    refine X22.aload (pc' := 46) at_44 rfl rfl rfl ?_
    refine X22.iconst (pc' := 47) (z := 1) at_46 rfl rfl ?_
    refine X22.iloadN (pc' := 48) at_47 rfl rfl ?_
    refine X22.bipush (pc' := 50) (z := 8) at_48 rfl rfl ?_
    refine X22.iushr (pc' := 51) at_50 rfl ?_
    refine X22.sipush (pc' := 54) (z := 255) at_51 rfl rfl ?_
    refine X22.iand (pc' := 55) at_54 rfl ?_
    refine X22.iastore (pc' := 56) V22 (show Inb (1 : Int32) 6 from ⟨by decide, by decide⟩) at_55 rfl (Or.inr sz_b21) (fun T23 h23 X23 W23 => ?_)
    have V23 : Lst Z h23 b21 .int [(.int (i1 &&& (255 : Int32))), (.int (((i1.toUInt32 >>> ((8 : Int32) &&& 31).toUInt32).toInt32) &&& (255 : Int32))), (.int (0 : Int32)), (.int (0 : Int32)), (.int (0 : Int32)), (.int (0 : Int32))] := V22.set W23
    have Sm_23 := Sta.wr W23 Sm_22
    have Vm_23 := Vm_22.other W23 ne_cma_b21
    have Sc_23 := Sta.wr W23 Sc_22
    have Sf_23 := Sta.wr W23 Sf_22
    have Se_23 := Sta.wr W23 Se_22
    refine X23.iload (pc' := 58) at_56 rfl rfl ?_
    refine X23.iconst (pc' := 59) (z := 2) at_58 rfl rfl ?_
    refine X23.icmpNo (pc' := 62) at_59 (by decide) rfl ?_
    refine X23.aload (pc' := 64) at_62 rfl rfl rfl ?_
    refine X23.iconst (pc' := 65) (z := 2) at_64 rfl rfl ?_
    refine X23.iloadN (pc' := 66) at_65 rfl rfl ?_
    refine X23.bipush (pc' := 68) (z := 16) at_66 rfl rfl ?_
    refine X23.iushr (pc' := 69) at_68 rfl ?_
    refine X23.sipush (pc' := 72) (z := 255) at_69 rfl rfl ?_
    refine X23.iand (pc' := 73) at_72 rfl ?_
    refine X23.iastore (pc' := 74) V23 (show Inb (2 : Int32) 6 from ⟨by decide, by decide⟩) at_73 rfl (Or.inr sz_b21) (fun T24 h24 X24 W24 => ?_)
    have V24 : Lst Z h24 b21 .int [(.int (i1 &&& (255 : Int32))), (.int (((i1.toUInt32 >>> ((8 : Int32) &&& 31).toUInt32).toInt32) &&& (255 : Int32))), (.int (((i1.toUInt32 >>> ((16 : Int32) &&& 31).toUInt32).toInt32) &&& (255 : Int32))), (.int (0 : Int32)), (.int (0 : Int32)), (.int (0 : Int32))] := V23.set W24
    have Sm_24 := Sta.wr W24 Sm_23
    have Vm_24 := Vm_23.other W24 ne_cma_b21
    have Sc_24 := Sta.wr W24 Sc_23
    have Sf_24 := Sta.wr W24 Sf_23
    have Se_24 := Sta.wr W24 Se_23
    refine X24.iload (pc' := 76) at_74 rfl rfl ?_
    refine X24.iconst (pc' := 77) (z := 3) at_76 rfl rfl ?_
    refine X24.icmpNo (pc' := 80) at_77 (by decide) rfl ?_
    refine X24.aload (pc' := 82) at_80 rfl rfl rfl ?_
    refine X24.iconst (pc' := 83) (z := 3) at_82 rfl rfl ?_
    refine X24.iloadN (pc' := 84) at_83 rfl rfl ?_
    refine X24.bipush (pc' := 86) (z := 24) at_84 rfl rfl ?_
    refine X24.iushr (pc' := 87) at_86 rfl ?_
    refine X24.sipush (pc' := 90) (z := 255) at_87 rfl rfl ?_
    refine X24.iand (pc' := 91) at_90 rfl ?_
    refine X24.iastore (pc' := 92) V24 (show Inb (3 : Int32) 6 from ⟨by decide, by decide⟩) at_91 rfl (Or.inr sz_b21) (fun T25 h25 X25 W25 => ?_)
    have V25 : Lst Z h25 b21 .int [(.int (i1 &&& (255 : Int32))), (.int (((i1.toUInt32 >>> ((8 : Int32) &&& 31).toUInt32).toInt32) &&& (255 : Int32))), (.int (((i1.toUInt32 >>> ((16 : Int32) &&& 31).toUInt32).toInt32) &&& (255 : Int32))), (.int (((i1.toUInt32 >>> ((24 : Int32) &&& 31).toUInt32).toInt32) &&& (255 : Int32))), (.int (0 : Int32)), (.int (0 : Int32))] := V24.set W25
    have Sm_25 := Sta.wr W25 Sm_24
    have Vm_25 := Vm_24.other W25 ne_cma_b21
    have Sc_25 := Sta.wr W25 Sc_24
    have Sf_25 := Sta.wr W25 Sf_24
    have Se_25 := Sta.wr W25 Se_24
    refine X25.iload (pc' := 94) at_92 rfl rfl ?_
    refine X25.iconst (pc' := 95) (z := 4) at_94 rfl rfl ?_
    refine X25.icmpNo (pc' := 98) at_95 (by decide) rfl ?_
    refine X25.aload (pc' := 100) at_98 rfl rfl rfl ?_
    refine X25.iconst (pc' := 101) (z := 4) at_100 rfl rfl ?_
    refine X25.iloadN (pc' := 102) at_101 rfl rfl ?_
    refine X25.sipush (pc' := 105) (z := 255) at_102 rfl rfl ?_
    refine X25.iand (pc' := 106) at_105 rfl ?_
    refine X25.iastore (pc' := 107) V25 (show Inb (4 : Int32) 6 from ⟨by decide, by decide⟩) at_106 rfl (Or.inr sz_b21) (fun T26 h26 X26 W26 => ?_)
    have V26 : Lst Z h26 b21 .int [(.int (i1 &&& (255 : Int32))), (.int (((i1.toUInt32 >>> ((8 : Int32) &&& 31).toUInt32).toInt32) &&& (255 : Int32))), (.int (((i1.toUInt32 >>> ((16 : Int32) &&& 31).toUInt32).toInt32) &&& (255 : Int32))), (.int (((i1.toUInt32 >>> ((24 : Int32) &&& 31).toUInt32).toInt32) &&& (255 : Int32))), (.int (i2 &&& (255 : Int32))), (.int (0 : Int32))] := V25.set W26
    have Sm_26 := Sta.wr W26 Sm_25
    have Vm_26 := Vm_25.other W26 ne_cma_b21
    have Sc_26 := Sta.wr W26 Sc_25
    have Sf_26 := Sta.wr W26 Sf_25
    have Se_26 := Sta.wr W26 Se_25
    refine X26.iload (pc' := 109) at_107 rfl rfl ?_
    refine X26.iconst (pc' := 110) (z := 5) at_109 rfl rfl ?_
    refine X26.icmpNo (pc' := 113) at_110 (by decide) rfl ?_
    refine X26.aload (pc' := 115) at_113 rfl rfl rfl ?_
    refine X26.iconst (pc' := 116) (z := 5) at_115 rfl rfl ?_
    refine X26.iloadN (pc' := 117) at_116 rfl rfl ?_
    refine X26.bipush (pc' := 119) (z := 8) at_117 rfl rfl ?_
    refine X26.iushr (pc' := 120) at_119 rfl ?_
    refine X26.sipush (pc' := 123) (z := 255) at_120 rfl rfl ?_
    refine X26.iand (pc' := 124) at_123 rfl ?_
    refine X26.iastore (pc' := 125) V26 (show Inb (5 : Int32) 6 from ⟨by decide, by decide⟩) at_124 rfl (Or.inr sz_b21) (fun T27 h27 X27 W27 => ?_)
    have V27 : Lst Z h27 b21 .int [(.int (i1 &&& (255 : Int32))), (.int (((i1.toUInt32 >>> ((8 : Int32) &&& 31).toUInt32).toInt32) &&& (255 : Int32))), (.int (((i1.toUInt32 >>> ((16 : Int32) &&& 31).toUInt32).toInt32) &&& (255 : Int32))), (.int (((i1.toUInt32 >>> ((24 : Int32) &&& 31).toUInt32).toInt32) &&& (255 : Int32))), (.int (i2 &&& (255 : Int32))), (.int (((i2.toUInt32 >>> ((8 : Int32) &&& 31).toUInt32).toInt32) &&& (255 : Int32)))] := V26.set W27
    have Sm_27 := Sta.wr W27 Sm_26
    have Vm_27 := Vm_26.other W27 ne_cma_b21
    have Sc_27 := Sta.wr W27 Sc_26
    have Sf_27 := Sta.wr W27 Sf_26
    have Se_27 := Sta.wr W27 Se_26
    obtain ⟨P, VP, hPm⟩ : ∃ P : Nat → Int32, Lst Z h27 b21 .int (own_tn 6 P) ∧ ∀ t, t < 6 → P t ∈ [(i1 &&& (255 : Int32)), (((i1.toUInt32 >>> ((8 : Int32) &&& 31).toUInt32).toInt32) &&& (255 : Int32)), (((i1.toUInt32 >>> ((16 : Int32) &&& 31).toUInt32).toInt32) &&& (255 : Int32)), (((i1.toUInt32 >>> ((24 : Int32) &&& 31).toUInt32).toInt32) &&& (255 : Int32)), (i2 &&& (255 : Int32)), (((i2.toUInt32 >>> ((8 : Int32) &&& 31).toUInt32).toInt32) &&& (255 : Int32))] := own_lstP [(i1 &&& (255 : Int32)), (((i1.toUInt32 >>> ((8 : Int32) &&& 31).toUInt32).toInt32) &&& (255 : Int32)), (((i1.toUInt32 >>> ((16 : Int32) &&& 31).toUInt32).toInt32) &&& (255 : Int32)), (((i1.toUInt32 >>> ((24 : Int32) &&& 31).toUInt32).toInt32) &&& (255 : Int32)), (i2 &&& (255 : Int32)), (((i2.toUInt32 >>> ((8 : Int32) &&& 31).toUInt32).toInt32) &&& (255 : Int32))] V27
    have hP : ∀ t, t < 6 → 0 ≤ (P t).toInt ∧ (P t).toInt ≤ 255 := by
      intro t ht
      have q := hPm t ht
      simp only [List.mem_cons, List.not_mem_nil, or_false] at q
      rcases q with q | q | q | q | q | q <;> (rw [q]; exact own_255 _)
    exact own_tail (n := 6) hw T27 h27 X27 (by decide) hst hcm Sm_27 Vm_27 VP (by decide) hP Sc_27 hcz Sf_27 hfo Se_27
theorem own_len {Z : State} {args : Array Value} {idx : List Nat} {t : Term} {a : Addr} {cl : Cell} (ev : t.eval args Z none idx Z = some (.ref a)) (hat : Z.arrayAt? a = some cl) : (Term.length t).eval args Z none idx Z = if cl.slots.size < 2 ^ 31 then some (.int cl.slots.size.toInt32) else none := by
  simp [Term.eval, ev, hat]

def own_cmF (cl : Cell) (j : Nat) : Int32 := match cl.slots[j]? with
  | some (.int w) => if j < 128 then w else 0
  | _ => 0
theorem own_cmOf {s : State} (hF : ShelfD.heapFits s = true) {ca : Addr} {cl : Cell} (A : Arr s s.heap ca cl .byte) (hsz : cl.slots.size = 128) : ∃ cm : Nat → Int32, (∀ t, (cm t).toInt ≤ 127) ∧ Lst s s.heap ca .byte (own_tn 128 cm) := by
  have hv : ∀ j, j < 128 → ∃ w : Int32, cl.slots[j]? = some (.int w) ∧ w.toInt ≤ 127 := by
    intro j hj
    obtain ⟨w, e, -, h2⟩ := fits_byte (((heapFits'_iff s).mp hF).elem_fits A.1 A.2.1 (Array.getElem?_eq_getElem (by omega : j < cl.slots.size)))
    refine ⟨w, by rw [Array.getElem?_eq_getElem (by omega : j < cl.slots.size), e], ?_⟩
    rw [Int32.le_iff_toInt_le] at h2
    exact h2
  refine ⟨own_cmF cl, fun t => ?_, cl, A, ?_, ?_⟩
  · by_cases ht : t < 128
    · obtain ⟨w, e, h⟩ := hv t ht
      simp only [own_cmF, e, ht]; exact h
    · unfold own_cmF
      split
      · rw [if_neg ht]; decide
      · decide
  · apply Array.ext_getElem?
    intro j
    refine Eq.trans (b := (own_tn 128 (own_cmF cl))[j]?) ?_ (by simp)
    by_cases hj : j < 128
    · obtain ⟨w, e, -⟩ := hv j hj
      rw [own_tn_get _ hj, e]
      simp only [own_cmF, e, hj, if_true]
    · rw [List.getElem?_eq_none (by rw [own_tn_len]; omega), Array.getElem?_eq_none (by omega)]
  · rw [own_tn_len]; decide

set_option maxRecDepth 65536 in
set_option maxHeartbeats 40000000 in
theorem comes_1 {Post : Tables → Env → Array Value → State → Outcome → State → Prop} (hpost : ∀ tb e args s v u, (limb_1_1.after args s (.returned v) u = true ∧ limb_1_2.after args s (.returned v) u = true ∧ True) → FrameEnd s (.returned v) u (Jvm.fieldLocs frame_1_writes args s ++ Jvm.arrayLocs frame_1_arrays args s ++ Jvm.staticLocs frame_1_statics s) 40 256 → Post tb e args s (.returned v) u) :
    ArmFor flags0 classFile x code maxLocals ret World_1 tables_1 room_1 Calls_1 rest_1 Pre_1 Post := by
  intro l hfl _ _ p e ha hc hk s m args below hf hA hF happ hP
  obtain ⟨hcalls, hrest, hpre⟩ := hP
  obtain ⟨-, -, -, hnamed, -, -, -, hat⟩ := (Spec.applies_iff hf).mp happ
  obtain ⟨hg, hn⟩ := and_e (Cond.before_iff.mp (show (Jvm.Cond.and given_1 narrow_1).before args s = true from hpre))
  obtain ⟨g1, g2⟩ := and_e hg
  obtain ⟨g3, g4⟩ := and_e g2
  obtain ⟨g5, g6⟩ := and_e g4
  obtain ⟨g7, g8⟩ := and_e g6
  obtain ⟨w0, w1, w2, w3, rfl⟩ : ∃ w0 w1 w2 w3 : Value, args = #[w0, w1, w2, w3] := by
    have hs : args.size = 4 := by simpa [Cond.value, given_1] using g1
    obtain ⟨L⟩ := args
    match L, hs with
    | [w0, w1, w2, w3], _ => exact ⟨w0, w1, w2, w3, rfl⟩
  have hw := fun d (hd : d ∈ tables_1) => atoms_spec (ws := Jvm.Cond.code x code maxLocals ret :: tables_1) hat d (List.mem_cons_of_mem _ hd)
  obtain ⟨hsets, hown0⟩ := atoms_of _ (rest_1_c_eq ▸ (show rest_1_c.before _ s = true from hrest))
  obtain ⟨cz, ecz⟩ := is_v (Cond.before_iff.mp (hsets _ (List.mem_of_getElem? (i := 1) rfl)))
  have Sc := Sta.start ecz (Or.inl (hsets _ (List.mem_of_getElem? (i := 0) rfl)))
  have hcw := hsets _ (List.mem_of_getElem? (i := 2) rfl)
  have hcz : cz ≠ (0 : Int32) := by
    rintro rfl
    have q := Cond.before_iff.mp hcw
    simp [Cond.value, ecz, Term.int_eval] at q
  obtain ⟨fov, efo, hfr⟩ := isR_v (Cond.before_iff.mp (hsets _ (List.mem_of_getElem? (i := 8) rfl)))
  have Sf := Sta.start efo (Or.inl (hsets _ (List.mem_of_getElem? (i := 7) rfl)))
  have hfo := RoadKit.ref_cases hfr
  obtain ⟨n1, n2⟩ := and_e hn
  obtain ⟨n3, n4⟩ := and_e n2
  obtain ⟨n5, -⟩ := and_e n4
  obtain ⟨ca, ev⟩ := arr_v n1
  obtain ⟨cl, A⟩ := Arr.start ev n1
  have hat' := A.fin (U := s) (Vm.Alike.refl _)
  have hsz : cl.slots.size = 128 := by
    obtain ⟨x, y, hx, hy, -, hk⟩ := cmp_v (Or.inl n3)
    obtain rfl : y = .int (128 : Int32) := (Option.some.inj ((Term.int_eval (128 : Int32)).symm.trans hy)).symm
    obtain ⟨z, rfl⟩ := hk
    have hz : z = 128 := by simpa [Cond.value, hx, hy] using n3
    subst hz
    have hx2 : (if cl.slots.size < 2 ^ 31 then some (Value.int cl.slots.size.toInt32) else none) = some (Value.int 128) := (own_len ev hat').symm.trans hx
    by_cases h31 : cl.slots.size < 2 ^ 31
    · rw [if_pos h31] at hx2
      have h3 : cl.slots.size.toInt32 = 128 := by simpa using hx2
      have h4 := congrArg Int32.toInt h3
      rw [show cl.slots.size.toInt32 = Int32.ofNat cl.slots.size from rfl, Int32.toInt_ofNat_of_lt (by simpa using h31)] at h4
      have h5 : (128 : Int32).toInt = 128 := rfl
      omega
    · rw [if_neg h31] at hx2; cases hx2
  have Sm := Sta.start ev (Or.inr ⟨(wd_9 hw), (wd_28 hw)⟩)
  obtain ⟨cm, hcm, Vm⟩ := own_cmOf hF A hsz
  obtain ⟨ce, ece⟩ : ∃ ce, (Jvm.Term.static "com/example/rummage/rummage/SeekPlan" "COMMONEST" "I").eval _ s none [] s = some (.int ce) := by
    obtain ⟨x, y, hx, hy, -, hk⟩ := cmp_v (Or.inl n5)
    obtain rfl : y = .int (4 : Int32) := (Option.some.inj ((Term.int_eval (4 : Int32)).symm.trans hy)).symm
    obtain ⟨z, rfl⟩ := hk
    exact ⟨z, hx⟩
  have Se := Sta.start ece (Or.inr ⟨(wd_9 hw), (wd_145 hw)⟩)
  obtain ⟨i0, ei0⟩ := is_v g3
  obtain rfl : w0 = (.int i0) := Option.some.inj ei0
  obtain ⟨i1, ei1⟩ := is_v g5
  obtain rfl : w1 = (.int i1) := Option.some.inj ei1
  obtain ⟨i2, ei2⟩ := is_v g7
  obtain rfl : w2 = (.int i2) := Option.some.inj ei2
  obtain ⟨i3, ei3⟩ := isL_v g8
  obtain rfl : w3 = (.long i3) := Option.some.inj ei3
  obtain ⟨n, o, h1, h2, h3, _, L, rfl, ⟨rfl, -, N⟩, hq⟩ := ct0 l s _ hw i0 i1 i2 i3 ca cm fov cz ce s.heap Sm Vm Sc hcz Sf hfo Se hcm tables_1 p e ha hc hk s m _ below hf ((Spec.applies_iff_loose hf).mp happ).1 ⟨rfl, State.Warmed39.refl s, rfl⟩ trivial
  refine ⟨n, _, h1, h2, h3, hpost _ _ _ _ _ _ ⟨Cond.after_iff.mpr rfl, Cond.after_iff.mpr (eq_i res_at (Term.int_eval (1)) rfl), trivial⟩ ⟨hq.1, hq.2.1, (hq.2.2.sift fun y hy => Or.inr ((N y hy).elim (fun z => nomatch z) id)).mono (by decide) (by decide)⟩⟩
theorem main_1_1 : Claimed_1_1 := comes_1 fun _ _ _ _ _ _ h hF => ⟨h.1, hF⟩
theorem main_1_2 : Claimed_1_2 := comes_1 fun _ _ _ _ _ _ h hF => ⟨h.2.1, hF⟩
end Jvm.Pilot.@@N@@
namespace Jvm.Pilot.@@N@@
open Jvm Jvm.ClassFile Sem Op Lib Jvm.Free Jvm.Stand Jvm.Pilot.@@N@@.Jvm.D
/-! MADE BY PROGRAM (witnessworld.py) out of the Statement's table words and the real class files: 22 classes; the members and pool entries that the words name. The judged class is class 1, her method 1. -/
namespace start1
open Jvm.ClassFile
def u (s : String) : CpInfo := .utf8 (stringToUtf16 s)
/-- a pool by its gaps: so many unusable entries, then the entry; so many at the end -/
def gap : Nat → List CpInfo → List CpInfo
  | 0, r => r
  | n + 1, r => .unusable :: gap n r
def poolList (es : List (Nat × CpInfo)) (last : Nat) : List CpInfo := es.foldr (fun e r => gap e.1 (e.2 :: r)) (gap last [])
def pool (es : List (Nat × CpInfo)) (last : Nat) : Array CpInfo := ⟨poolList es last⟩
def fileOf (pool : Array CpInfo) (this : Nat) (attrs : Array Attribute := #[]) (ms : Array MethodInfo := #[]) (fl : Nat := 33) (sup : Nat := 0) (ifs : Array Nat := #[]) (fds : Array FieldInfo := #[]) : ClassFile where
  minorVersion := 0
  majorVersion := 65
  constantPool := pool
  accessFlags := fl
  thisClass := this
  superClass := sup
  interfaces := ifs
  fields := fds
  methods := ms
  attributes := attrs
def plain (name : String) (sup : Option ClassId) : Class where
  name := name
  kind := .ordinary
  loader := none
  accessFlags := 33
  super := sup
  interfaces := #[]
  cf := none
  fields := #[]
  methods := #[]
  instanceTypes := #[]
  staticTypes := #[]
  resolved := #[]
  callSites := []
  init := .initialized
  statics := none
  mirror := none

def pool0 : Array CpInfo := pool [(5, u "<init>"), (0, u "()V"), (1, .class_ 10), (1, u "java/lang/Object")] 113

def k0c0 : Code := { maxStack := 0, maxLocals := 1, code := object_method_1_code, exceptionTable := #[], attributes := #[] }
def k0m0 : Method := { name := "<init>", desc := "()V", sig := { parameters := [], returnType := none }, accessFlags := 1, code := some k0c0 }
/-- java/lang/Object -/
def k0 : Class := { plain "java/lang/Object" none with
  accessFlags := 33
  interfaces := #[]
  cf := some (fileOf pool0 8 #[] #[{ accessFlags := 1, nameIndex := 5, descriptorIndex := 6, attributes := #[] }] 33 0 #[] #[])
  fields := #[]
  methods := #[k0m0]
  instanceTypes := #[]
  staticTypes := #[]
  resolved := Array.replicate 124 none
  statics := none }

def pool1 : Array CpInfo := pool [(2, .class_ 4), (1, u "java/lang/Object"), (0, u "<init>"), (0, u "()V"), (0, .long 255), (1, .methodref 10 11), (0, .class_ 12), (0, .nameAndType 13 14), (0, u "com/example/rummage/rummage/CharSeekOpeningPinLaw"), (0, u "copy"), (0, u "([CI[IIII)V"), (0, .methodref 16 17), (0, .class_ 18), (0, .nameAndType 19 20), (0, u "com/example/rummage/rummage/SeekPlan"), (0, u "forBlocks"), (0, u "([I)Lcom/example/rummage/rummage/SeekPlan;"), (0, .methodref 16 22), (0, .nameAndType 23 24), (0, u "anchor"), (0, u "()I"), (0, .methodref 16 26), (0, .nameAndType 27 24), (0, u "check"), (0, .class_ 29), (0, u "com/example/rummage/rummage/CharSeek"), (0, .methodref 28 31), (0, .nameAndType 5 32), (0, u "([I)V"), (0, .methodref 10 34), (0, .nameAndType 35 36), (0, u "eq"), (0, u "([CI[III)Z"), (0, .methodref 28 38), (0, .nameAndType 39 40), (0, u "opening"), (0, u "([CI)I"), (2, u "law"), (0, u "(IIIJ)Z")] 7

def k1m0 : Method := { name := "<init>", desc := "()V", sig := { parameters := [], returnType := none }, accessFlags := 1, code := none }
def k1c1 : Code := { maxStack := 6, maxLocals := 15, code := code, exceptionTable := #[], attributes := #[] }
def k1m1 : Method := { name := "law", desc := "(IIIJ)Z", sig := { parameters := [.int, .int, .int, .long], returnType := some .boolean }, accessFlags := 9, code := some k1c1 }
def k1c2 : Code := { maxStack := 4, maxLocals := 6, code := method_3_code, exceptionTable := #[], attributes := #[] }
def k1m2 : Method := { name := "copy", desc := "([CI[IIII)V", sig := { parameters := [(.array .char), .int, (.array .int), .int, .int, .int], returnType := none }, accessFlags := 10, code := some k1c2 }
def k1c3 : Code := { maxStack := 3, maxLocals := 5, code := method_4_code, exceptionTable := #[], attributes := #[] }
def k1m3 : Method := { name := "eq", desc := "([CI[III)Z", sig := { parameters := [(.array .char), .int, (.array .int), .int, .int], returnType := some .boolean }, accessFlags := 10, code := some k1c3 }
/-- com/example/rummage/rummage/CharSeekOpeningPinLaw -/
def k1 : Class := { plain "com/example/rummage/rummage/CharSeekOpeningPinLaw" (some 0) with
  accessFlags := 49
  interfaces := #[]
  cf := some (fileOf pool1 10 #[] #[{ accessFlags := 1, nameIndex := 5, descriptorIndex := 6, attributes := #[] }, { accessFlags := 9, nameIndex := 43, descriptorIndex := 44, attributes := #[] }, { accessFlags := 10, nameIndex := 13, descriptorIndex := 14, attributes := #[] }, { accessFlags := 10, nameIndex := 35, descriptorIndex := 36, attributes := #[] }] 49 2 #[] #[])
  fields := #[]
  methods := #[k1m0, k1m1, k1m2, k1m3]
  instanceTypes := #[]
  staticTypes := #[]
  resolved := Array.replicate 52 none
  statics := none }

def pool2 : Array CpInfo := pool [(1, .methodref 2 3), (0, .class_ 4), (0, .nameAndType 5 6), (0, u "com/example/rummage/rummage/SeekPlan"), (0, u "<init>"), (0, u "([III)V"), (0, .methodref 2 8), (0, .nameAndType 9 10), (0, u "rarest"), (0, u "([IIIIZ)I"), (0, .methodref 2 12), (0, .nameAndType 5 13), (0, u "([IIII)V"), (0, .methodref 15 16), (0, .class_ 17), (0, .nameAndType 5 18), (0, u "java/lang/Object"), (0, u "()V"), (0, .fieldref 2 20), (0, .nameAndType 21 22), (0, u "anchor"), (0, u "I"), (0, .fieldref 2 24), (0, .nameAndType 25 22), (0, u "check"), (0, .class_ 27), (0, u "java/lang/String"), (0, .methodref 26 3), (2, .fieldref 2 32), (0, .nameAndType 33 34), (0, u "checkedAlone"), (0, u "Ljava/lang/String;"), (0, .fieldref 2 36), (0, .nameAndType 37 34), (0, u "sought"), (0, .fieldref 2 39), (0, .nameAndType 40 41), (0, u "foundCoversChecks"), (0, u "Z"), (0, .fieldref 2 43), (0, .nameAndType 44 41), (0, u "seeksWhole"), (0, .methodref 2 46), (0, .nameAndType 47 48), (0, u "standsAgain"), (0, u "([III)Z"), (0, .fieldref 2 50), (0, .nameAndType 51 41), (0, u "leadRecurs"), (0, .methodref 2 53), (0, .nameAndType 54 55), (0, u "commonnessOf"), (0, u "(I)I"), (0, .fieldref 2 57), (0, .nameAndType 58 41), (0, u "checkIsRarer"), (0, .fieldref 2 60), (0, .nameAndType 61 41), (0, u "firstIsRarer"), (0, .fieldref 2 63), (0, .nameAndType 64 22), (0, u "COMMONEST"), (0, .fieldref 2 66), (0, .nameAndType 67 41), (0, u "pairsCheck"), (7, .methodref 76 77), (0, .class_ 78), (0, .nameAndType 79 80), (0, u "java/lang/Math"), (0, u "min"), (0, u "(II)I"), (6, .integer 2147483647), (2, u "COMMON"), (0, .fieldref 2 92), (0, .nameAndType 93 94), (0, u "COMMONNESS"), (0, u "[B"), (18, u "FRAGMENT"), (2, u "REPEATING_FRAGMENT"), (7, u "([I)Lcom/example/rummage/rummage/SeekPlan;"), (1, u "forBlocks"), (2, u "()I"), (0, u "()Z")] 6

def k2c0 : Code := { maxStack := 7, maxLocals := 4, code := prog_21_method_2_code, exceptionTable := #[], attributes := #[] }
def k2m0 : Method := { name := "<init>", desc := "([III)V", sig := { parameters := [(.array .int), .int, .int], returnType := none }, accessFlags := 2, code := some k2c0 }
def k2c1 : Code := { maxStack := 6, maxLocals := 6, code := prog_21_method_3_code, exceptionTable := #[], attributes := #[] }
def k2m1 : Method := { name := "<init>", desc := "([IIII)V", sig := { parameters := [(.array .int), .int, .int, .int], returnType := none }, accessFlags := 2, code := some k2c1 }
def k2c2 : Code := { maxStack := 6, maxLocals := 1, code := prog_21_method_6_code, exceptionTable := #[], attributes := #[] }
def k2m2 : Method := { name := "forBlocks", desc := "([I)Lcom/example/rummage/rummage/SeekPlan;", sig := { parameters := [(.array .int)], returnType := some (.object "com/example/rummage/rummage/SeekPlan") }, accessFlags := 8, code := some k2c2 }
def k2c3 : Code := { maxStack := 1, maxLocals := 1, code := prog_21_method_9_code, exceptionTable := #[], attributes := #[] }
def k2m3 : Method := { name := "anchor", desc := "()I", sig := { parameters := [], returnType := some .int }, accessFlags := 0, code := some k2c3 }
def k2c4 : Code := { maxStack := 1, maxLocals := 1, code := prog_21_method_10_code, exceptionTable := #[], attributes := #[] }
def k2m4 : Method := { name := "check", desc := "()I", sig := { parameters := [], returnType := some .int }, accessFlags := 0, code := some k2c4 }
def k2c5 : Code := { maxStack := 1, maxLocals := 1, code := prog_21_method_16_code, exceptionTable := #[], attributes := #[] }
def k2m5 : Method := { name := "firstIsRarer", desc := "()Z", sig := { parameters := [], returnType := some .boolean }, accessFlags := 0, code := some k2c5 }
def k2c6 : Code := { maxStack := 1, maxLocals := 1, code := prog_21_method_17_code, exceptionTable := #[], attributes := #[] }
def k2m6 : Method := { name := "pairsCheck", desc := "()Z", sig := { parameters := [], returnType := some .boolean }, accessFlags := 0, code := some k2c6 }
def k2c7 : Code := { maxStack := 3, maxLocals := 10, code := prog_21_method_18_code, exceptionTable := #[], attributes := #[] }
def k2m7 : Method := { name := "rarest", desc := "([IIIIZ)I", sig := { parameters := [(.array .int), .int, .int, .int, .boolean], returnType := some .int }, accessFlags := 10, code := some k2c7 }
def k2c8 : Code := { maxStack := 3, maxLocals := 4, code := prog_21_method_21_code, exceptionTable := #[], attributes := #[] }
def k2m8 : Method := { name := "standsAgain", desc := "([III)Z", sig := { parameters := [(.array .int), .int, .int], returnType := some .boolean }, accessFlags := 10, code := some k2c8 }
def k2c9 : Code := { maxStack := 2, maxLocals := 1, code := prog_21_method_22_code, exceptionTable := #[], attributes := #[] }
def k2m9 : Method := { name := "commonnessOf", desc := "(I)I", sig := { parameters := [.int], returnType := some .int }, accessFlags := 10, code := some k2c9 }
/-- com/example/rummage/rummage/SeekPlan -/
def k2 : Class := { plain "com/example/rummage/rummage/SeekPlan" (some 0) with
  accessFlags := 48
  interfaces := #[]
  cf := some (fileOf pool2 2 #[] #[{ accessFlags := 2, nameIndex := 5, descriptorIndex := 6, attributes := #[] }, { accessFlags := 2, nameIndex := 5, descriptorIndex := 13, attributes := #[] }, { accessFlags := 8, nameIndex := 126, descriptorIndex := 124, attributes := #[] }, { accessFlags := 0, nameIndex := 21, descriptorIndex := 129, attributes := #[] }, { accessFlags := 0, nameIndex := 25, descriptorIndex := 129, attributes := #[] }, { accessFlags := 0, nameIndex := 61, descriptorIndex := 130, attributes := #[] }, { accessFlags := 0, nameIndex := 67, descriptorIndex := 130, attributes := #[] }, { accessFlags := 10, nameIndex := 9, descriptorIndex := 10, attributes := #[] }, { accessFlags := 10, nameIndex := 47, descriptorIndex := 48, attributes := #[] }, { accessFlags := 10, nameIndex := 54, descriptorIndex := 55, attributes := #[] }] 48 15 #[] #[{ accessFlags := 26, nameIndex := 113, descriptorIndex := 22, attributes := #[] }, { accessFlags := 26, nameIndex := 116, descriptorIndex := 22, attributes := #[] }, { accessFlags := 26, nameIndex := 93, descriptorIndex := 94, attributes := #[] }, { accessFlags := 26, nameIndex := 90, descriptorIndex := 22, attributes := #[] }, { accessFlags := 26, nameIndex := 64, descriptorIndex := 22, attributes := #[] }, { accessFlags := 18, nameIndex := 37, descriptorIndex := 34, attributes := #[] }, { accessFlags := 18, nameIndex := 21, descriptorIndex := 22, attributes := #[] }, { accessFlags := 18, nameIndex := 25, descriptorIndex := 22, attributes := #[] }, { accessFlags := 18, nameIndex := 33, descriptorIndex := 34, attributes := #[] }, { accessFlags := 18, nameIndex := 58, descriptorIndex := 41, attributes := #[] }, { accessFlags := 18, nameIndex := 40, descriptorIndex := 41, attributes := #[] }, { accessFlags := 18, nameIndex := 44, descriptorIndex := 41, attributes := #[] }, { accessFlags := 18, nameIndex := 51, descriptorIndex := 41, attributes := #[] }, { accessFlags := 18, nameIndex := 61, descriptorIndex := 41, attributes := #[] }, { accessFlags := 18, nameIndex := 67, descriptorIndex := 41, attributes := #[] }])
  fields := #[{ name := "FRAGMENT", type := .int, accessFlags := 26, slot := 0, constantValue := 0 }, { name := "REPEATING_FRAGMENT", type := .int, accessFlags := 26, slot := 1, constantValue := 0 }, { name := "COMMONNESS", type := (.array .byte), accessFlags := 26, slot := 2, constantValue := 0 }, { name := "COMMON", type := .int, accessFlags := 26, slot := 3, constantValue := 0 }, { name := "COMMONEST", type := .int, accessFlags := 26, slot := 4, constantValue := 0 }, { name := "sought", type := (.object "java/lang/String"), accessFlags := 18, slot := 0, constantValue := 0 }, { name := "anchor", type := .int, accessFlags := 18, slot := 1, constantValue := 0 }, { name := "check", type := .int, accessFlags := 18, slot := 2, constantValue := 0 }, { name := "checkedAlone", type := (.object "java/lang/String"), accessFlags := 18, slot := 3, constantValue := 0 }, { name := "checkIsRarer", type := .boolean, accessFlags := 18, slot := 4, constantValue := 0 }, { name := "foundCoversChecks", type := .boolean, accessFlags := 18, slot := 5, constantValue := 0 }, { name := "seeksWhole", type := .boolean, accessFlags := 18, slot := 6, constantValue := 0 }, { name := "leadRecurs", type := .boolean, accessFlags := 18, slot := 7, constantValue := 0 }, { name := "firstIsRarer", type := .boolean, accessFlags := 18, slot := 8, constantValue := 0 }, { name := "pairsCheck", type := .boolean, accessFlags := 18, slot := 9, constantValue := 0 }]
  methods := #[k2m0, k2m1, k2m2, k2m3, k2m4, k2m5, k2m6, k2m7, k2m8, k2m9]
  instanceTypes := #[(.object "java/lang/String"), .int, .int, (.object "java/lang/String"), .boolean, .boolean, .boolean, .boolean, .boolean, .boolean]
  staticTypes := #[.int, .int, (.array .byte), .int, .int]
  resolved := Array.replicate 137 none
  statics := some 0 }

def pool3 : Array CpInfo := pool [(1, .class_ 2), (0, u "java/lang/Math"), (1, .class_ 6), (1, u "java/lang/Object"), (0, u "<init>"), (0, u "()V"), (89, .class_ 100), (1, u "java/lang/Math$RandomNumberGeneratorHolder"), (71, u "negativeZeroFloatBits"), (0, u "J"), (2, u "negativeZeroDoubleBits"), (24, u "min"), (43, u "$assertionsDisabled"), (0, u "Z"), (88, u "(II)I"), (2, u "twoToTheDoubleScaleDown"), (0, u "D"), (4, u "twoToTheDoubleScaleUp"), (9, u "E"), (3, u "PI"), (2, u "TAU"), (2, u "DEGREES_TO_RADIANS"), (0, u "RADIANS_TO_DEGREES")] 94

def k3m0 : Method := { name := "<init>", desc := "()V", sig := { parameters := [], returnType := none }, accessFlags := 2, code := none }
def k3c1 : Code := { maxStack := 2, maxLocals := 2, code := jdk_29_method_69_code, exceptionTable := #[], attributes := #[] }
def k3m1 : Method := { name := "min", desc := "(II)I", sig := { parameters := [.int, .int], returnType := some .int }, accessFlags := 9, code := some k3c1 }
/-- java/lang/Math -/
def k3 : Class := { plain "java/lang/Math" (some 0) with
  accessFlags := 49
  interfaces := #[]
  cf := some (fileOf pool3 1 #[.nestMembers #[98]] #[{ accessFlags := 2, nameIndex := 7, descriptorIndex := 8, attributes := #[] }, { accessFlags := 9, nameIndex := 201, descriptorIndex := 335, attributes := #[] }] 49 4 #[] #[{ accessFlags := 25, nameIndex := 354, descriptorIndex := 339, attributes := #[] }, { accessFlags := 25, nameIndex := 358, descriptorIndex := 339, attributes := #[] }, { accessFlags := 25, nameIndex := 361, descriptorIndex := 339, attributes := #[] }, { accessFlags := 26, nameIndex := 364, descriptorIndex := 339, attributes := #[] }, { accessFlags := 26, nameIndex := 365, descriptorIndex := 339, attributes := #[] }, { accessFlags := 26, nameIndex := 172, descriptorIndex := 173, attributes := #[] }, { accessFlags := 26, nameIndex := 176, descriptorIndex := 173, attributes := #[] }, { accessFlags := 8, nameIndex := 344, descriptorIndex := 339, attributes := #[] }, { accessFlags := 8, nameIndex := 338, descriptorIndex := 339, attributes := #[] }, { accessFlags := 4120, nameIndex := 245, descriptorIndex := 246, attributes := #[] }])
  fields := #[{ name := "E", type := .double, accessFlags := 25, slot := 0, constantValue := 0 }, { name := "PI", type := .double, accessFlags := 25, slot := 1, constantValue := 0 }, { name := "TAU", type := .double, accessFlags := 25, slot := 2, constantValue := 0 }, { name := "DEGREES_TO_RADIANS", type := .double, accessFlags := 26, slot := 3, constantValue := 0 }, { name := "RADIANS_TO_DEGREES", type := .double, accessFlags := 26, slot := 4, constantValue := 0 }, { name := "negativeZeroFloatBits", type := .long, accessFlags := 26, slot := 5, constantValue := 0 }, { name := "negativeZeroDoubleBits", type := .long, accessFlags := 26, slot := 6, constantValue := 0 }, { name := "twoToTheDoubleScaleUp", type := .double, accessFlags := 8, slot := 7, constantValue := 0 }, { name := "twoToTheDoubleScaleDown", type := .double, accessFlags := 8, slot := 8, constantValue := 0 }, { name := "$assertionsDisabled", type := .boolean, accessFlags := 4120, slot := 9, constantValue := 0 }]
  methods := #[k3m0, k3m1]
  instanceTypes := #[]
  staticTypes := #[.double, .double, .double, .double, .double, .long, .long, .double, .double, .boolean]
  resolved := Array.replicate 460 none
  statics := none }

def pool4 : Array CpInfo := pool [(1, .class_ 2), (0, u "java/io/Serializable"), (0, .class_ 4), (0, u "java/lang/Object")] 2

/-- java/io/Serializable -/
def k4 : Class := { plain "java/io/Serializable" (some 0) with
  accessFlags := 1537
  interfaces := #[]
  cf := some (fileOf pool4 1 #[] #[] 1537 3 #[] #[])
  fields := #[]
  methods := #[]
  instanceTypes := #[]
  staticTypes := #[]
  resolved := Array.replicate 7 none
  statics := none }

def pool5 : Array CpInfo := pool [(1, .class_ 2), (0, u "java/lang/Comparable"), (0, .class_ 4), (0, u "java/lang/Object")] 7

/-- java/lang/Comparable -/
def k5 : Class := { plain "java/lang/Comparable" (some 0) with
  accessFlags := 1537
  interfaces := #[]
  cf := some (fileOf pool5 1 #[] #[] 1537 3 #[] #[])
  fields := #[]
  methods := #[]
  instanceTypes := #[]
  staticTypes := #[]
  resolved := Array.replicate 12 none
  statics := none }

def pool6 : Array CpInfo := pool [(2, .class_ 4), (1, u "java/lang/CharSequence"), (42, .class_ 48), (0, u "java/lang/CharSequence$1CodePointIterator"), (10, .class_ 60), (0, u "java/lang/CharSequence$1CharIterator"), (5, .class_ 67), (0, u "java/lang/Object")] 63

/-- java/lang/CharSequence -/
def k6 : Class := { plain "java/lang/CharSequence" (some 0) with
  accessFlags := 1537
  interfaces := #[]
  cf := some (fileOf pool6 2 #[.nestMembers #[47, 59]] #[] 1537 66 #[] #[])
  fields := #[]
  methods := #[]
  instanceTypes := #[]
  staticTypes := #[]
  resolved := Array.replicate 131 none
  statics := none }

def pool7 : Array CpInfo := pool [(1, .class_ 2), (0, u "java/lang/constant/Constable"), (0, .class_ 4), (0, u "java/lang/Object")] 6

/-- java/lang/constant/Constable -/
def k7 : Class := { plain "java/lang/constant/Constable" (some 0) with
  accessFlags := 1537
  interfaces := #[]
  cf := some (fileOf pool7 1 #[] #[] 1537 3 #[] #[])
  fields := #[]
  methods := #[]
  instanceTypes := #[]
  staticTypes := #[]
  resolved := Array.replicate 11 none
  statics := none }

def pool8 : Array CpInfo := pool [(1, .class_ 2), (0, u "java/lang/constant/ConstantDesc"), (0, .class_ 4), (0, u "java/lang/Object")] 32

/-- java/lang/constant/ConstantDesc -/
def k8 : Class := { plain "java/lang/constant/ConstantDesc" (some 0) with
  accessFlags := 1537
  interfaces := #[]
  cf := some (fileOf pool8 1 #[] #[] 1537 3 #[] #[])
  fields := #[]
  methods := #[]
  instanceTypes := #[]
  staticTypes := #[]
  resolved := Array.replicate 37 none
  statics := none }

def pool9 : Array CpInfo := pool [(1, .methodref 2 3), (0, .class_ 4), (0, .nameAndType 5 6), (0, u "java/lang/Object"), (0, u "<init>"), (0, u "()V"), (2, .fieldref 10 11), (0, .class_ 12), (0, .nameAndType 13 14), (0, u "java/lang/String"), (0, u "value"), (0, u "[B"), (0, .fieldref 10 16), (0, .nameAndType 17 18), (0, u "coder"), (0, u "B"), (2, u "hash"), (0, u "I"), (2, u "hashIsZero"), (0, u "Z"), (7, .methodref 10 35), (0, .nameAndType 36 37), (0, u "checkBoundsOffCount"), (0, u "(III)I"), (0, .fieldref 10 39), (0, .nameAndType 40 26), (0, u "COMPACT_STRINGS"), (0, .methodref 42 43), (0, .class_ 44), (0, .nameAndType 45 46), (0, u "java/lang/StringUTF16"), (0, u "compress"), (0, u "([III)[B"), (0, .methodref 42 48), (0, .nameAndType 49 50), (0, u "coderFromArrayLen"), (0, u "([BI)B"), (524, .class_ 576), (0, u "java/lang/CharSequence"), (22, u "CASE_INSENSITIVE_ORDER"), (0, u "Ljava/util/Comparator;"), (452, .fieldref 1054 1055), (0, .class_ 1056), (0, .nameAndType 1057 1058), (0, u "jdk/internal/util/Preconditions"), (0, u "SIOOBE_FORMATTER"), (0, u "Ljava/util/function/BiFunction;"), (5, u "(IIILjava/util/function/BiFunction;)I"), (0, .methodref 1054 1066), (0, .nameAndType 1067 1064), (0, u "checkFromIndexSize"), (33, u "serialPersistentFields"), (0, u "[Ljava/io/ObjectStreamField;"), (0, .class_ 1104), (0, u "java/lang/String$CaseInsensitiveComparator"), (1, .class_ 1107), (0, u "java/io/Serializable"), (0, .class_ 1109), (0, u "java/lang/Comparable"), (0, .class_ 1111), (0, u "java/lang/constant/Constable"), (0, .class_ 1113), (0, u "java/lang/constant/ConstantDesc"), (2, u "serialVersionUID"), (0, u "J"), (3, u "REPL"), (0, u "C"), (2, u "LATIN1"), (1, u "UTF16"), (11, u "([III)V")] 311

def k9m0 : Method := { name := "<init>", desc := "()V", sig := { parameters := [], returnType := none }, accessFlags := 1, code := none }
def k9c1 : Code := { maxStack := 4, maxLocals := 5, code := jdk_42_method_6_code, exceptionTable := #[], attributes := #[] }
def k9m1 : Method := { name := "<init>", desc := "([III)V", sig := { parameters := [(.array .int), .int, .int], returnType := none }, accessFlags := 1, code := some k9c1 }
def k9c2 : Code := { maxStack := 4, maxLocals := 3, code := jdk_42_method_157_code, exceptionTable := #[], attributes := #[] }
def k9m2 : Method := { name := "checkBoundsOffCount", desc := "(III)I", sig := { parameters := [.int, .int, .int], returnType := some .int }, accessFlags := 8, code := some k9c2 }
/-- java/lang/String -/
def k9 : Class := { plain "java/lang/String" (some 0) with
  accessFlags := 49
  interfaces := #[4, 5, 6, 7, 8]
  cf := some (fileOf pool9 10 #[.nestMembers #[1103]] #[{ accessFlags := 1, nameIndex := 5, descriptorIndex := 6, attributes := #[] }, { accessFlags := 1, nameIndex := 5, descriptorIndex := 1139, attributes := #[] }, { accessFlags := 8, nameIndex := 36, descriptorIndex := 37, attributes := #[] }] 49 2 #[1106, 1108, 575, 1110, 1112] #[{ accessFlags := 18, nameIndex := 13, descriptorIndex := 14, attributes := #[] }, { accessFlags := 18, nameIndex := 17, descriptorIndex := 18, attributes := #[] }, { accessFlags := 2, nameIndex := 21, descriptorIndex := 22, attributes := #[] }, { accessFlags := 2, nameIndex := 25, descriptorIndex := 26, attributes := #[] }, { accessFlags := 26, nameIndex := 1116, descriptorIndex := 1117, attributes := #[] }, { accessFlags := 24, nameIndex := 40, descriptorIndex := 26, attributes := #[] }, { accessFlags := 26, nameIndex := 1101, descriptorIndex := 1102, attributes := #[] }, { accessFlags := 26, nameIndex := 1121, descriptorIndex := 1122, attributes := #[] }, { accessFlags := 25, nameIndex := 599, descriptorIndex := 600, attributes := #[] }, { accessFlags := 24, nameIndex := 1125, descriptorIndex := 18, attributes := #[] }, { accessFlags := 24, nameIndex := 1127, descriptorIndex := 18, attributes := #[] }])
  fields := #[{ name := "value", type := (.array .byte), accessFlags := 18, slot := 0, constantValue := 0 }, { name := "coder", type := .byte, accessFlags := 18, slot := 1, constantValue := 0 }, { name := "hash", type := .int, accessFlags := 2, slot := 2, constantValue := 0 }, { name := "hashIsZero", type := .boolean, accessFlags := 2, slot := 3, constantValue := 0 }, { name := "serialVersionUID", type := .long, accessFlags := 26, slot := 0, constantValue := 0 }, { name := "COMPACT_STRINGS", type := .boolean, accessFlags := 24, slot := 1, constantValue := 0 }, { name := "serialPersistentFields", type := (.array (.object "java/io/ObjectStreamField")), accessFlags := 26, slot := 2, constantValue := 0 }, { name := "REPL", type := .char, accessFlags := 26, slot := 3, constantValue := 0 }, { name := "CASE_INSENSITIVE_ORDER", type := (.object "java/util/Comparator"), accessFlags := 25, slot := 4, constantValue := 0 }, { name := "LATIN1", type := .byte, accessFlags := 24, slot := 5, constantValue := 0 }, { name := "UTF16", type := .byte, accessFlags := 24, slot := 6, constantValue := 0 }]
  methods := #[k9m0, k9m1, k9m2]
  instanceTypes := #[(.array .byte), .byte, .int, .boolean]
  staticTypes := #[.long, .boolean, (.array (.object "java/io/ObjectStreamField")), .char, (.object "java/util/Comparator"), .byte, .byte]
  resolved := Array.replicate 1451 none
  statics := some 1 }

def pool10 : Array CpInfo := pool [(2, .class_ 4), (1, u "java/lang/Object"), (0, u "<init>"), (0, u "()V"), (17, .class_ 26), (1, u "jdk/internal/util/Preconditions"), (22, u "checkFromIndexSize"), (5, .class_ 56), (0, u "jdk/internal/util/Preconditions$4"), (57, .class_ 115), (0, u "jdk/internal/util/Preconditions$1"), (7, u "SIOOBE_FORMATTER"), (0, u "Ljava/util/function/BiFunction;"), (0, .class_ 126), (0, u "jdk/internal/util/Preconditions$2"), (3, u "AIOOBE_FORMATTER"), (0, .class_ 132), (0, u "jdk/internal/util/Preconditions$3"), (3, u "IOOBE_FORMATTER"), (46, u "(IIILjava/util/function/BiFunction;)I")] 10

def k10m0 : Method := { name := "<init>", desc := "()V", sig := { parameters := [], returnType := none }, accessFlags := 1, code := none }
def k10c1 : Code := { maxStack := 4, maxLocals := 4, code := jdk_41_method_13_code, exceptionTable := #[], attributes := #[] }
def k10m1 : Method := { name := "checkFromIndexSize", desc := "(IIILjava/util/function/BiFunction;)I", sig := { parameters := [.int, .int, .int, (.object "java/util/function/BiFunction")], returnType := some .int }, accessFlags := 9, code := some k10c1 }
/-- jdk/internal/util/Preconditions -/
def k10 : Class := { plain "jdk/internal/util/Preconditions" (some 0) with
  accessFlags := 33
  interfaces := #[]
  cf := some (fileOf pool10 24 #[.nestMembers #[55, 131, 125, 114]] #[{ accessFlags := 1, nameIndex := 5, descriptorIndex := 6, attributes := #[] }, { accessFlags := 9, nameIndex := 49, descriptorIndex := 183, attributes := #[] }] 33 2 #[] #[{ accessFlags := 25, nameIndex := 123, descriptorIndex := 124, attributes := #[] }, { accessFlags := 25, nameIndex := 130, descriptorIndex := 124, attributes := #[] }, { accessFlags := 25, nameIndex := 136, descriptorIndex := 124, attributes := #[] }])
  fields := #[{ name := "SIOOBE_FORMATTER", type := (.object "java/util/function/BiFunction"), accessFlags := 25, slot := 0, constantValue := 0 }, { name := "AIOOBE_FORMATTER", type := (.object "java/util/function/BiFunction"), accessFlags := 25, slot := 1, constantValue := 0 }, { name := "IOOBE_FORMATTER", type := (.object "java/util/function/BiFunction"), accessFlags := 25, slot := 2, constantValue := 0 }]
  methods := #[k10m0, k10m1]
  instanceTypes := #[]
  staticTypes := #[(.object "java/util/function/BiFunction"), (.object "java/util/function/BiFunction"), (.object "java/util/function/BiFunction")]
  resolved := Array.replicate 194 none
  statics := some 2 }

def pool11 : Array CpInfo := pool [(6, .class_ 8), (1, u "java/lang/Object"), (0, u "<init>"), (0, u "()V"), (1, .class_ 14), (1, u "java/lang/StringUTF16"), (31, u "$assertionsDisabled"), (0, u "Z"), (13, u "HI_BYTE_SHIFT"), (0, u "I"), (2, u "LO_BYTE_SHIFT"), (51, u "compress"), (143, u "coderFromArrayLen"), (0, u "([BI)B"), (106, .class_ 371), (1, u "java/lang/StringUTF16$LinesSpliterator"), (58, u "MAX_LENGTH"), (32, u "([III)[B"), (163, .class_ 628), (0, u "java/lang/StringUTF16$CodePointsSpliterator"), (0, .class_ 630), (0, u "java/lang/StringUTF16$CharsSpliterator")] 4

def k11m0 : Method := { name := "<init>", desc := "()V", sig := { parameters := [], returnType := none }, accessFlags := 0, code := none }
def k11c1 : Code := { maxStack := 2, maxLocals := 2, code := jdk_52_method_15_code, exceptionTable := #[], attributes := #[] }
def k11m1 : Method := { name := "coderFromArrayLen", desc := "([BI)B", sig := { parameters := [(.array .byte), .int], returnType := some .byte }, accessFlags := 8, code := some k11c1 }
def k11c2 : Code := { maxStack := 5, maxLocals := 10, code := jdk_52_method_18_code, exceptionTable := #[], attributes := #[] }
def k11m2 : Method := { name := "compress", desc := "([III)[B", sig := { parameters := [(.array .int), .int, .int], returnType := some (.array .byte) }, accessFlags := 9, code := some k11c2 }
/-- java/lang/StringUTF16 -/
def k11 : Class := { plain "java/lang/StringUTF16" (some 0) with
  accessFlags := 48
  interfaces := #[]
  cf := some (fileOf pool11 12 #[.nestMembers #[627, 629, 369]] #[{ accessFlags := 0, nameIndex := 9, descriptorIndex := 10, attributes := #[] }, { accessFlags := 8, nameIndex := 261, descriptorIndex := 262, attributes := #[] }, { accessFlags := 9, nameIndex := 117, descriptorIndex := 463, attributes := #[] }] 48 6 #[] #[{ accessFlags := 26, nameIndex := 61, descriptorIndex := 62, attributes := #[] }, { accessFlags := 26, nameIndex := 65, descriptorIndex := 62, attributes := #[] }, { accessFlags := 24, nameIndex := 430, descriptorIndex := 62, attributes := #[] }, { accessFlags := 4120, nameIndex := 46, descriptorIndex := 47, attributes := #[] }])
  fields := #[{ name := "HI_BYTE_SHIFT", type := .int, accessFlags := 26, slot := 0, constantValue := 0 }, { name := "LO_BYTE_SHIFT", type := .int, accessFlags := 26, slot := 1, constantValue := 0 }, { name := "MAX_LENGTH", type := .int, accessFlags := 24, slot := 2, constantValue := 0 }, { name := "$assertionsDisabled", type := .boolean, accessFlags := 4120, slot := 3, constantValue := 0 }]
  methods := #[k11m0, k11m1, k11m2]
  instanceTypes := #[]
  staticTypes := #[.int, .int, .int, .boolean]
  resolved := Array.replicate 635 none
  statics := none }

def pool12 : Array CpInfo := pool [(1, .methodref 2 3), (0, .class_ 4), (0, .nameAndType 5 6), (0, u "java/lang/Object"), (0, u "<init>"), (0, u "()V"), (0, .methodref 8 9), (0, .class_ 10), (0, .nameAndType 11 12), (0, u "com/example/rummage/rummage/SeekPlan"), (0, u "forBlocks"), (0, u "([I)Lcom/example/rummage/rummage/SeekPlan;"), (0, .methodref 8 14), (0, .nameAndType 15 16), (0, u "anchor"), (0, u "()I"), (0, .fieldref 18 19), (0, .class_ 20), (0, .nameAndType 21 22), (0, u "com/example/rummage/rummage/CharSeek"), (0, u "pattern"), (0, u "[I"), (0, .fieldref 18 24), (0, .nameAndType 25 26), (0, u "length"), (0, u "I"), (0, .methodref 8 28), (0, .nameAndType 29 30), (0, u "firstIsRarer"), (0, u "()Z"), (0, .fieldref 18 32), (0, .nameAndType 33 26), (0, u "lead"), (0, .fieldref 18 35), (0, .nameAndType 36 26), (0, u "beside"), (0, .methodref 8 38), (0, .nameAndType 39 16), (0, u "check"), (0, .fieldref 18 41), (0, .nameAndType 39 26), (0, .methodref 8 43), (0, .nameAndType 44 30), (0, u "pairsCheck"), (0, .fieldref 18 46), (0, .nameAndType 47 48), (0, u "paired"), (0, u "Z"), (0, .fieldref 18 50), (0, .nameAndType 51 52), (0, u "leadSymbol"), (0, u "C"), (0, .fieldref 18 54), (0, .nameAndType 55 52), (0, u "besideSymbol"), (0, .fieldref 18 57), (0, .nameAndType 58 52), (0, u "checked"), (0, .fieldref 18 60), (0, .nameAndType 61 48), (0, u "checksWhole"), (14, u "NEAR"), (2, u "CROWDED"), (1, u "SHORT"), (1, u "([I)V"), (5, u "opening"), (0, u "([CI)I")] 2

def k12c0 : Code := { maxStack := 3, maxLocals := 5, code := prog_7_method_1_code, exceptionTable := #[], attributes := #[] }
def k12m0 : Method := { name := "<init>", desc := "([I)V", sig := { parameters := [(.array .int)], returnType := none }, accessFlags := 0, code := some k12c0 }
def k12c1 : Code := { maxStack := 3, maxLocals := 4, code := prog_7_method_3_code, exceptionTable := #[], attributes := #[] }
def k12m1 : Method := { name := "opening", desc := "([CI)I", sig := { parameters := [(.array .char), .int], returnType := some .int }, accessFlags := 0, code := some k12c1 }
/-- com/example/rummage/rummage/CharSeek -/
def k12 : Class := { plain "com/example/rummage/rummage/CharSeek" (some 0) with
  accessFlags := 48
  interfaces := #[]
  cf := some (fileOf pool12 18 #[] #[{ accessFlags := 0, nameIndex := 5, descriptorIndex := 83, attributes := #[] }, { accessFlags := 0, nameIndex := 89, descriptorIndex := 90, attributes := #[] }] 48 2 #[] #[{ accessFlags := 26, nameIndex := 76, descriptorIndex := 26, attributes := #[] }, { accessFlags := 26, nameIndex := 79, descriptorIndex := 26, attributes := #[] }, { accessFlags := 26, nameIndex := 81, descriptorIndex := 26, attributes := #[] }, { accessFlags := 18, nameIndex := 21, descriptorIndex := 22, attributes := #[] }, { accessFlags := 18, nameIndex := 25, descriptorIndex := 26, attributes := #[] }, { accessFlags := 18, nameIndex := 33, descriptorIndex := 26, attributes := #[] }, { accessFlags := 18, nameIndex := 36, descriptorIndex := 26, attributes := #[] }, { accessFlags := 18, nameIndex := 39, descriptorIndex := 26, attributes := #[] }, { accessFlags := 18, nameIndex := 51, descriptorIndex := 52, attributes := #[] }, { accessFlags := 18, nameIndex := 55, descriptorIndex := 52, attributes := #[] }, { accessFlags := 18, nameIndex := 58, descriptorIndex := 52, attributes := #[] }, { accessFlags := 18, nameIndex := 47, descriptorIndex := 48, attributes := #[] }, { accessFlags := 18, nameIndex := 61, descriptorIndex := 48, attributes := #[] }])
  fields := #[{ name := "NEAR", type := .int, accessFlags := 26, slot := 0, constantValue := 0 }, { name := "CROWDED", type := .int, accessFlags := 26, slot := 1, constantValue := 0 }, { name := "SHORT", type := .int, accessFlags := 26, slot := 2, constantValue := 0 }, { name := "pattern", type := (.array .int), accessFlags := 18, slot := 0, constantValue := 0 }, { name := "length", type := .int, accessFlags := 18, slot := 1, constantValue := 0 }, { name := "lead", type := .int, accessFlags := 18, slot := 2, constantValue := 0 }, { name := "beside", type := .int, accessFlags := 18, slot := 3, constantValue := 0 }, { name := "check", type := .int, accessFlags := 18, slot := 4, constantValue := 0 }, { name := "leadSymbol", type := .char, accessFlags := 18, slot := 5, constantValue := 0 }, { name := "besideSymbol", type := .char, accessFlags := 18, slot := 6, constantValue := 0 }, { name := "checked", type := .char, accessFlags := 18, slot := 7, constantValue := 0 }, { name := "paired", type := .boolean, accessFlags := 18, slot := 8, constantValue := 0 }, { name := "checksWhole", type := .boolean, accessFlags := 18, slot := 9, constantValue := 0 }]
  methods := #[k12m0, k12m1]
  instanceTypes := #[(.array .int), .int, .int, .int, .int, .char, .char, .char, .boolean, .boolean]
  staticTypes := #[.int, .int, .int]
  resolved := Array.replicate 93 none
  statics := none }

def pool13 : Array CpInfo := pool [(4, .class_ 6), (1, u "java/lang/Object"), (0, u "<init>"), (0, u "()V"), (5, .class_ 16), (1, u "java/lang/StringLatin1"), (104, u "$assertionsDisabled"), (0, u "Z"), (98, .class_ 223), (1, u "java/lang/StringLatin1$LinesSpliterator"), (166, .class_ 391), (0, u "java/lang/StringLatin1$CharsSpliterator")] 3

def k13m0 : Method := { name := "<init>", desc := "()V", sig := { parameters := [], returnType := none }, accessFlags := 0, code := none }
/-- java/lang/StringLatin1 -/
def k13 : Class := { plain "java/lang/StringLatin1" (some 0) with
  accessFlags := 48
  interfaces := #[]
  cf := some (fileOf pool13 14 #[.nestMembers #[390, 221]] #[{ accessFlags := 0, nameIndex := 7, descriptorIndex := 8, attributes := #[] }] 48 4 #[] #[{ accessFlags := 4120, nameIndex := 121, descriptorIndex := 122, attributes := #[] }])
  fields := #[{ name := "$assertionsDisabled", type := .boolean, accessFlags := 4120, slot := 0, constantValue := 0 }]
  methods := #[k13m0]
  instanceTypes := #[]
  staticTypes := #[.boolean]
  resolved := Array.replicate 395 none
  statics := none }

def pool14 : Array CpInfo := pool [(9, u "<init>"), (6, .class_ 18), (1, u "java/lang/Object"), (0, u "()V"), (1, .class_ 23), (1, u "jdk/internal/util/ArraysSupport"), (0, u "LOG2_ARRAY_LONG_INDEX_SCALE"), (0, u "I"), (2, u "U"), (0, u "Ljdk/internal/misc/Unsafe;"), (8, u "BIG_ENDIAN"), (0, u "Z"), (8, u "LOG2_BYTE_BIT_SIZE"), (4, u "LOG2_ARRAY_INT_INDEX_SCALE"), (54, u "JLA"), (0, u "Ljdk/internal/access/JavaLangAccess;"), (11, u "LOG2_ARRAY_BOOLEAN_INDEX_SCALE"), (9, u "LOG2_ARRAY_BYTE_INDEX_SCALE"), (5, u "LOG2_ARRAY_CHAR_INDEX_SCALE"), (5, u "LOG2_ARRAY_SHORT_INDEX_SCALE"), (18, u "LOG2_ARRAY_FLOAT_INDEX_SCALE"), (24, u "LOG2_ARRAY_DOUBLE_INDEX_SCALE"), (89, u "T_BOOLEAN"), (2, u "T_CHAR"), (1, u "T_FLOAT"), (1, u "T_DOUBLE"), (1, u "T_BYTE"), (1, u "T_SHORT"), (1, u "T_INT"), (1, u "T_LONG"), (1, u "SOFT_MAX_ARRAY_LENGTH")] 83

def k14m0 : Method := { name := "<init>", desc := "()V", sig := { parameters := [], returnType := none }, accessFlags := 2, code := none }
/-- jdk/internal/util/ArraysSupport -/
def k14 : Class := { plain "jdk/internal/util/ArraysSupport" (some 0) with
  accessFlags := 33
  interfaces := #[]
  cf := some (fileOf pool14 21 #[] #[{ accessFlags := 2, nameIndex := 9, descriptorIndex := 19, attributes := #[] }] 33 16 #[] #[{ accessFlags := 24, nameIndex := 28, descriptorIndex := 29, attributes := #[] }, { accessFlags := 26, nameIndex := 38, descriptorIndex := 39, attributes := #[] }, { accessFlags := 25, nameIndex := 121, descriptorIndex := 25, attributes := #[] }, { accessFlags := 25, nameIndex := 131, descriptorIndex := 25, attributes := #[] }, { accessFlags := 25, nameIndex := 137, descriptorIndex := 25, attributes := #[] }, { accessFlags := 25, nameIndex := 143, descriptorIndex := 25, attributes := #[] }, { accessFlags := 25, nameIndex := 53, descriptorIndex := 25, attributes := #[] }, { accessFlags := 25, nameIndex := 24, descriptorIndex := 25, attributes := #[] }, { accessFlags := 25, nameIndex := 162, descriptorIndex := 25, attributes := #[] }, { accessFlags := 25, nameIndex := 187, descriptorIndex := 25, attributes := #[] }, { accessFlags := 26, nameIndex := 48, descriptorIndex := 25, attributes := #[] }, { accessFlags := 25, nameIndex := 277, descriptorIndex := 25, attributes := #[] }, { accessFlags := 25, nameIndex := 280, descriptorIndex := 25, attributes := #[] }, { accessFlags := 25, nameIndex := 282, descriptorIndex := 25, attributes := #[] }, { accessFlags := 25, nameIndex := 284, descriptorIndex := 25, attributes := #[] }, { accessFlags := 25, nameIndex := 286, descriptorIndex := 25, attributes := #[] }, { accessFlags := 25, nameIndex := 288, descriptorIndex := 25, attributes := #[] }, { accessFlags := 25, nameIndex := 290, descriptorIndex := 25, attributes := #[] }, { accessFlags := 25, nameIndex := 292, descriptorIndex := 25, attributes := #[] }, { accessFlags := 26, nameIndex := 108, descriptorIndex := 109, attributes := #[] }, { accessFlags := 25, nameIndex := 294, descriptorIndex := 25, attributes := #[] }])
  fields := #[{ name := "U", type := (.object "jdk/internal/misc/Unsafe"), accessFlags := 24, slot := 0, constantValue := 0 }, { name := "BIG_ENDIAN", type := .boolean, accessFlags := 26, slot := 1, constantValue := 0 }, { name := "LOG2_ARRAY_BOOLEAN_INDEX_SCALE", type := .int, accessFlags := 25, slot := 2, constantValue := 0 }, { name := "LOG2_ARRAY_BYTE_INDEX_SCALE", type := .int, accessFlags := 25, slot := 3, constantValue := 0 }, { name := "LOG2_ARRAY_CHAR_INDEX_SCALE", type := .int, accessFlags := 25, slot := 4, constantValue := 0 }, { name := "LOG2_ARRAY_SHORT_INDEX_SCALE", type := .int, accessFlags := 25, slot := 5, constantValue := 0 }, { name := "LOG2_ARRAY_INT_INDEX_SCALE", type := .int, accessFlags := 25, slot := 6, constantValue := 0 }, { name := "LOG2_ARRAY_LONG_INDEX_SCALE", type := .int, accessFlags := 25, slot := 7, constantValue := 0 }, { name := "LOG2_ARRAY_FLOAT_INDEX_SCALE", type := .int, accessFlags := 25, slot := 8, constantValue := 0 }, { name := "LOG2_ARRAY_DOUBLE_INDEX_SCALE", type := .int, accessFlags := 25, slot := 9, constantValue := 0 }, { name := "LOG2_BYTE_BIT_SIZE", type := .int, accessFlags := 26, slot := 10, constantValue := 0 }, { name := "T_BOOLEAN", type := .int, accessFlags := 25, slot := 11, constantValue := 0 }, { name := "T_CHAR", type := .int, accessFlags := 25, slot := 12, constantValue := 0 }, { name := "T_FLOAT", type := .int, accessFlags := 25, slot := 13, constantValue := 0 }, { name := "T_DOUBLE", type := .int, accessFlags := 25, slot := 14, constantValue := 0 }, { name := "T_BYTE", type := .int, accessFlags := 25, slot := 15, constantValue := 0 }, { name := "T_SHORT", type := .int, accessFlags := 25, slot := 16, constantValue := 0 }, { name := "T_INT", type := .int, accessFlags := 25, slot := 17, constantValue := 0 }, { name := "T_LONG", type := .int, accessFlags := 25, slot := 18, constantValue := 0 }, { name := "JLA", type := (.object "jdk/internal/access/JavaLangAccess"), accessFlags := 26, slot := 19, constantValue := 0 }, { name := "SOFT_MAX_ARRAY_LENGTH", type := .int, accessFlags := 25, slot := 20, constantValue := 0 }]
  methods := #[k14m0]
  instanceTypes := #[]
  staticTypes := #[(.object "jdk/internal/misc/Unsafe"), .boolean, .int, .int, .int, .int, .int, .int, .int, .int, .int, .int, .int, .int, .int, .int, .int, .int, .int, (.object "jdk/internal/access/JavaLangAccess"), .int]
  resolved := Array.replicate 378 none
  statics := none }

def pool15 : Array CpInfo := pool [(1, u "java/lang/Cloneable"), (0, .class_ 1), (0, u "java/lang/Object"), (0, .class_ 3)] 3

/-- java/lang/Cloneable -/
def k15 : Class := { plain "java/lang/Cloneable" (some 0) with
  accessFlags := 1537
  interfaces := #[]
  cf := some (fileOf pool15 2 #[] #[] 1537 4 #[] #[])
  fields := #[]
  methods := #[]
  instanceTypes := #[]
  staticTypes := #[]
  resolved := Array.replicate 8 none
  statics := none }

/-- the primitive byte -/
def k16 : Class := { plain "byte" none with kind := .primitive 'B', accessFlags := 0x411 }
/-- [B -/
def k17 : Class := { plain "[B" (some 0) with kind := .array 16 .byte, interfaces := #[15, 4], accessFlags := 1041 }

/-- the primitive char -/
def k18 : Class := { plain "char" none with kind := .primitive 'C', accessFlags := 0x411 }
/-- [C -/
def k19 : Class := { plain "[C" (some 0) with kind := .array 18 .char, interfaces := #[15, 4], accessFlags := 1041 }

/-- the primitive int -/
def k20 : Class := { plain "int" none with kind := .primitive 'I', accessFlags := 0x411 }
/-- [I -/
def k21 : Class := { plain "[I" (some 0) with kind := .array 20 .int, interfaces := #[15, 4], accessFlags := 1041 }

def heap : Heap := #[{ cls := 2, slots := #[.int 0, .int 0, .ref 3, .int 0, .int 4], vm := .statics 2 },
  { cls := 9, slots := #[.long 0, .int 1, .null, .int 0, .null, .int 0, .int 0], vm := .statics 9 },
  { cls := 10, slots := #[.null, .null, .null], vm := .statics 10 },
  { cls := 17, slots := #[.int 0, .int 0, .int 0, .int 0, .int 0, .int 0, .int 0, .int 0, .int 0, .int 2, .int 2, .int 0, .int 0, .int 2, .int 0, .int 0, .int 0, .int 0, .int 0, .int 0, .int 0, .int 0, .int 0, .int 0, .int 0, .int 0, .int 0, .int 0, .int 0, .int 0, .int 0, .int 0, .int 5, .int 2, .int 2, .int 2, .int 2, .int 2, .int 2, .int 2, .int 2, .int 2, .int 2, .int 2, .int 2, .int 2, .int 2, .int 2, .int 2, .int 2, .int 2, .int 2, .int 2, .int 2, .int 2, .int 2, .int 2, .int 2, .int 2, .int 2, .int 2, .int 2, .int 2, .int 2, .int 2, .int 1, .int 1, .int 1, .int 1, .int 1, .int 1, .int 1, .int 1, .int 1, .int 1, .int 1, .int 1, .int 1, .int 1, .int 1, .int 1, .int 1, .int 1, .int 1, .int 1, .int 1, .int 1, .int 1, .int 1, .int 1, .int 1, .int 2, .int 2, .int 2, .int 2, .int 2, .int 2, .int 4, .int 3, .int 3, .int 3, .int 4, .int 3, .int 3, .int 4, .int 4, .int 0, .int 2, .int 3, .int 3, .int 4, .int 4, .int 3, .int 0, .int 4, .int 4, .int 4, .int 3, .int 2, .int 3, .int 0, .int 3, .int 0, .int 2, .int 2, .int 2, .int 2, .int 0], vm := .none }]
def classes : Array Class := #[k0, k1, k2, k3, k4, k5, k6, k7, k8, k9, k10, k11, k12, k13, k14, k15, k16, k17, k18, k19, k20, k21]
def interned : List (Array UInt16 × Addr) := []
def slotsUsed : Nat := 143
def theMethod : MethodId := ⟨1, 1⟩
def args0 : Array Value := #[.int 5, .int 7, .int 9, .long 11]
def aboutOver (below : List Frame) : State where
  vm := { classes := classes, interned := interned.toArray }
  heap := heap
  slotsUsed := slotsUsed
  threads := #[{ frames := .invoking theMethod args0 :: below }]
def below0 : List Frame := [.native { method := ⟨0, 0⟩, args := #[] }]
def about1 : State := aboutOver below0
def p0 : Program := .bare "" "" ""
def e0 : Env := launch0.env 0 0 0
theorem w_frames : about1.frames = Frame.invoking theMethod args0 :: below0 := rfl
set_option maxRecDepth 65536 in
theorem w_args : argsFit about1.vm theMethod args0 = true := by decide +kernel
set_option maxRecDepth 65536 in
theorem w_heap : heapFits about1 = true := by decide +kernel
set_option maxRecDepth 65536 in
theorem w_runnable : about1.curStatus? = some .runnable := by decide +kernel
set_option maxRecDepth 65536 in
theorem w_alone : about1.alone = true := by decide +kernel
set_option maxRecDepth 65536 in
theorem w_named : about1.methodNamed? x = some theMethod := by decide +kernel
set_option maxRecDepth 65536 in
theorem w_hears : about1.hears theMethod below0 = true := by decide +kernel
set_option maxRecDepth 65536 in
theorem w_ripe : about1.ripe theMethod args0 below0 = true := by decide +kernel
theorem w_running : about1.status = .running := rfl
set_option maxRecDepth 65536 in
theorem w_room : about1.hasRoom e0.platform room_1 = true :=
  launch0.hasRoom_least _ room_1 (by decide +kernel) (by decide +kernel) (by decide +kernel) (by decide +kernel) (by decide +kernel) (by decide +kernel)
theorem allAtoms_all (ts : List Jvm.Cond) (a : Array Jvm.Value) (st : Jvm.State) : (allAtoms ts).before a st = ts.all (fun c => c.before a st) := by
  induction ts with
  | nil => rfl
  | cons c t ih =>
    show (Jvm.Cond.and c (allAtoms t)).before a st = _
    rw [Jvm.Cond.before_and, ih, List.all_cons]
def words1 : List Jvm.Cond := Jvm.Cond.code x code maxLocals ret :: tables_1
/-- a 'code' word, met by the world's own term for the bytes: nothing is compared byte by byte -/
theorem code_word {y : MethodName} {bytes : ByteArray} {mx : Nat} {rt : Option FieldType} {a : Array Value} {s : State} {m : MethodId} {meth : Method} {c : Code} (h1 : s.methodNamed? y = some m) (h2 : s.vm.method? m = some meth) (h3 : meth.code = some c) (h4 : c.code = bytes)
    (h5 : (c.maxLocals == mx && c.exceptionTable.isEmpty && decide (c.maxStack ≤ mostOperands) && decide (meth.sig.returnType = rt) && !meth.locks && decide (parseMethodDescriptor y.desc = some meth.sig)) = true) : (Jvm.Cond.code y bytes mx rt).before a s = true := by
  simp only [Bool.and_eq_true, beq_iff_eq, Bool.not_eq_true', decide_eq_true_eq] at h5
  obtain ⟨⟨⟨⟨⟨g1, g2⟩, g3⟩, g4⟩, g5⟩, g6⟩ := h5
  simp [Cond.before, Cond.holds, Cond.value, h1, h2, h3, h4, g1, g2, g3, g4, g5, g6]
def isCode : Jvm.Cond → Bool
  | .code _ _ _ _ => true
  | _ => false
theorem all_split {L : List Jvm.Cond} {P : Jvm.Cond → Bool} (h1 : L.all (fun c => isCode c || P c) = true) (h2 : ∀ c ∈ L.filter isCode, P c = true) : L.all P = true := by
  refine List.all_eq_true.mpr fun c hc => ?_
  have h := List.all_eq_true.mp h1 c hc
  rcases Bool.eq_false_or_eq_true (isCode c) with hi | hi
  · exact h2 c (List.mem_filter.mpr ⟨hc, hi⟩)
  · simpa [hi] using h
set_option maxRecDepth 65536 in
theorem w_c0 : (Jvm.Cond.code x code maxLocals ret).before args0 about1 = true := code_word (m := ⟨1, 1⟩) (meth := k1m1) (c := k1c1) (by decide +kernel) rfl rfl rfl (by decide +kernel)
set_option maxRecDepth 65536 in
theorem w_c1 : (Jvm.Cond.code ({ cls := "com/example/rummage/rummage/CharSeekOpeningPinLaw", name := "copy", desc := "([CI[IIII)V" } : Jvm.MethodName) method_3_code (6 : Nat) (Option.none : Option Jvm.ClassFile.FieldType)).before args0 about1 = true := code_word (m := ⟨1, 2⟩) (meth := k1m2) (c := k1c2) (by decide +kernel) rfl rfl rfl (by decide +kernel)
set_option maxRecDepth 65536 in
theorem w_c2 : (Jvm.Cond.code ({ cls := "com/example/rummage/rummage/SeekPlan", name := "forBlocks", desc := "([I)Lcom/example/rummage/rummage/SeekPlan;" } : Jvm.MethodName) prog_21_method_6_code (1 : Nat) (Option.some (Jvm.ClassFile.FieldType.object "com/example/rummage/rummage/SeekPlan"))).before args0 about1 = true := code_word (m := ⟨2, 2⟩) (meth := k2m2) (c := k2c2) (by decide +kernel) rfl rfl rfl (by decide +kernel)
set_option maxRecDepth 65536 in
theorem w_c3 : (Jvm.Cond.code ({ cls := "java/lang/Math", name := "min", desc := "(II)I" } : Jvm.MethodName) jdk_29_method_69_code (2 : Nat) (Option.some Jvm.ClassFile.FieldType.int)).before args0 about1 = true := code_word (m := ⟨3, 1⟩) (meth := k3m1) (c := k3c1) (by decide +kernel) rfl rfl rfl (by decide +kernel)
set_option maxRecDepth 65536 in
theorem w_c4 : (Jvm.Cond.code ({ cls := "com/example/rummage/rummage/SeekPlan", name := "<init>", desc := "([III)V" } : Jvm.MethodName) prog_21_method_2_code (4 : Nat) (Option.none : Option Jvm.ClassFile.FieldType)).before args0 about1 = true := code_word (m := ⟨2, 0⟩) (meth := k2m0) (c := k2c0) (by decide +kernel) rfl rfl rfl (by decide +kernel)
set_option maxRecDepth 65536 in
theorem w_c5 : (Jvm.Cond.code ({ cls := "com/example/rummage/rummage/SeekPlan", name := "rarest", desc := "([IIIIZ)I" } : Jvm.MethodName) prog_21_method_18_code (10 : Nat) (Option.some Jvm.ClassFile.FieldType.int)).before args0 about1 = true := code_word (m := ⟨2, 7⟩) (meth := k2m7) (c := k2c7) (by decide +kernel) rfl rfl rfl (by decide +kernel)
set_option maxRecDepth 65536 in
theorem w_c6 : (Jvm.Cond.code ({ cls := "com/example/rummage/rummage/SeekPlan", name := "commonnessOf", desc := "(I)I" } : Jvm.MethodName) prog_21_method_22_code (1 : Nat) (Option.some Jvm.ClassFile.FieldType.int)).before args0 about1 = true := code_word (m := ⟨2, 9⟩) (meth := k2m9) (c := k2c9) (by decide +kernel) rfl rfl rfl (by decide +kernel)
set_option maxRecDepth 65536 in
theorem w_c7 : (Jvm.Cond.code ({ cls := "com/example/rummage/rummage/SeekPlan", name := "<init>", desc := "([IIII)V" } : Jvm.MethodName) prog_21_method_3_code (6 : Nat) (Option.none : Option Jvm.ClassFile.FieldType)).before args0 about1 = true := code_word (m := ⟨2, 1⟩) (meth := k2m1) (c := k2c1) (by decide +kernel) rfl rfl rfl (by decide +kernel)
set_option maxRecDepth 65536 in
theorem w_c8 : (Jvm.Cond.code ({ cls := "java/lang/Object", name := "<init>", desc := "()V" } : Jvm.MethodName) object_method_1_code (1 : Nat) (Option.none : Option Jvm.ClassFile.FieldType)).before args0 about1 = true := code_word (m := ⟨0, 0⟩) (meth := k0m0) (c := k0c0) (by decide +kernel) rfl rfl rfl (by decide +kernel)
set_option maxRecDepth 65536 in
theorem w_c9 : (Jvm.Cond.code ({ cls := "java/lang/String", name := "<init>", desc := "([III)V" } : Jvm.MethodName) jdk_42_method_6_code (5 : Nat) (Option.none : Option Jvm.ClassFile.FieldType)).before args0 about1 = true := code_word (m := ⟨9, 1⟩) (meth := k9m1) (c := k9c1) (by decide +kernel) rfl rfl rfl (by decide +kernel)
set_option maxRecDepth 65536 in
theorem w_c10 : (Jvm.Cond.code ({ cls := "java/lang/String", name := "checkBoundsOffCount", desc := "(III)I" } : Jvm.MethodName) jdk_42_method_157_code (3 : Nat) (Option.some Jvm.ClassFile.FieldType.int)).before args0 about1 = true := code_word (m := ⟨9, 2⟩) (meth := k9m2) (c := k9c2) (by decide +kernel) rfl rfl rfl (by decide +kernel)
set_option maxRecDepth 65536 in
theorem w_c11 : (Jvm.Cond.code ({ cls := "jdk/internal/util/Preconditions", name := "checkFromIndexSize", desc := "(IIILjava/util/function/BiFunction;)I" } : Jvm.MethodName) jdk_41_method_13_code (4 : Nat) (Option.some Jvm.ClassFile.FieldType.int)).before args0 about1 = true := code_word (m := ⟨10, 1⟩) (meth := k10m1) (c := k10c1) (by decide +kernel) rfl rfl rfl (by decide +kernel)
set_option maxRecDepth 65536 in
theorem w_c12 : (Jvm.Cond.code ({ cls := "java/lang/StringUTF16", name := "compress", desc := "([III)[B" } : Jvm.MethodName) jdk_52_method_18_code (10 : Nat) (Option.some (Jvm.ClassFile.FieldType.array Jvm.ClassFile.FieldType.byte))).before args0 about1 = true := code_word (m := ⟨11, 2⟩) (meth := k11m2) (c := k11c2) (by decide +kernel) rfl rfl rfl (by decide +kernel)
set_option maxRecDepth 65536 in
theorem w_c13 : (Jvm.Cond.code ({ cls := "java/lang/StringUTF16", name := "coderFromArrayLen", desc := "([BI)B" } : Jvm.MethodName) jdk_52_method_15_code (2 : Nat) (Option.some Jvm.ClassFile.FieldType.byte)).before args0 about1 = true := code_word (m := ⟨11, 1⟩) (meth := k11m1) (c := k11c1) (by decide +kernel) rfl rfl rfl (by decide +kernel)
set_option maxRecDepth 65536 in
theorem w_c14 : (Jvm.Cond.code ({ cls := "com/example/rummage/rummage/SeekPlan", name := "standsAgain", desc := "([III)Z" } : Jvm.MethodName) prog_21_method_21_code (4 : Nat) (Option.some Jvm.ClassFile.FieldType.boolean)).before args0 about1 = true := code_word (m := ⟨2, 8⟩) (meth := k2m8) (c := k2c8) (by decide +kernel) rfl rfl rfl (by decide +kernel)
set_option maxRecDepth 65536 in
theorem w_c15 : (Jvm.Cond.code ({ cls := "com/example/rummage/rummage/SeekPlan", name := "anchor", desc := "()I" } : Jvm.MethodName) prog_21_method_9_code (1 : Nat) (Option.some Jvm.ClassFile.FieldType.int)).before args0 about1 = true := code_word (m := ⟨2, 3⟩) (meth := k2m3) (c := k2c3) (by decide +kernel) rfl rfl rfl (by decide +kernel)
set_option maxRecDepth 65536 in
theorem w_c16 : (Jvm.Cond.code ({ cls := "com/example/rummage/rummage/SeekPlan", name := "check", desc := "()I" } : Jvm.MethodName) prog_21_method_10_code (1 : Nat) (Option.some Jvm.ClassFile.FieldType.int)).before args0 about1 = true := code_word (m := ⟨2, 4⟩) (meth := k2m4) (c := k2c4) (by decide +kernel) rfl rfl rfl (by decide +kernel)
set_option maxRecDepth 65536 in
theorem w_c17 : (Jvm.Cond.code ({ cls := "com/example/rummage/rummage/CharSeek", name := "<init>", desc := "([I)V" } : Jvm.MethodName) prog_7_method_1_code (5 : Nat) (Option.none : Option Jvm.ClassFile.FieldType)).before args0 about1 = true := code_word (m := ⟨12, 0⟩) (meth := k12m0) (c := k12c0) (by decide +kernel) rfl rfl rfl (by decide +kernel)
set_option maxRecDepth 65536 in
theorem w_c18 : (Jvm.Cond.code ({ cls := "com/example/rummage/rummage/SeekPlan", name := "firstIsRarer", desc := "()Z" } : Jvm.MethodName) prog_21_method_16_code (1 : Nat) (Option.some Jvm.ClassFile.FieldType.boolean)).before args0 about1 = true := code_word (m := ⟨2, 5⟩) (meth := k2m5) (c := k2c5) (by decide +kernel) rfl rfl rfl (by decide +kernel)
set_option maxRecDepth 65536 in
theorem w_c19 : (Jvm.Cond.code ({ cls := "com/example/rummage/rummage/SeekPlan", name := "pairsCheck", desc := "()Z" } : Jvm.MethodName) prog_21_method_17_code (1 : Nat) (Option.some Jvm.ClassFile.FieldType.boolean)).before args0 about1 = true := code_word (m := ⟨2, 6⟩) (meth := k2m6) (c := k2c6) (by decide +kernel) rfl rfl rfl (by decide +kernel)
set_option maxRecDepth 65536 in
theorem w_c20 : (Jvm.Cond.code ({ cls := "com/example/rummage/rummage/CharSeekOpeningPinLaw", name := "eq", desc := "([CI[III)Z" } : Jvm.MethodName) method_4_code (5 : Nat) (Option.some Jvm.ClassFile.FieldType.boolean)).before args0 about1 = true := code_word (m := ⟨1, 3⟩) (meth := k1m3) (c := k1c3) (by decide +kernel) rfl rfl rfl (by decide +kernel)
set_option maxRecDepth 65536 in
theorem w_c21 : (Jvm.Cond.code ({ cls := "com/example/rummage/rummage/CharSeek", name := "opening", desc := "([CI)I" } : Jvm.MethodName) prog_7_method_3_code (4 : Nat) (Option.some Jvm.ClassFile.FieldType.int)).before args0 about1 = true := code_word (m := ⟨12, 1⟩) (meth := k12m1) (c := k12c1) (by decide +kernel) rfl rfl rfl (by decide +kernel)
def codes1 : List Jvm.Cond := [Jvm.Cond.code x code maxLocals ret, Jvm.Cond.code ({ cls := "com/example/rummage/rummage/CharSeekOpeningPinLaw", name := "copy", desc := "([CI[IIII)V" } : Jvm.MethodName) method_3_code (6 : Nat) (Option.none : Option Jvm.ClassFile.FieldType), Jvm.Cond.code ({ cls := "com/example/rummage/rummage/SeekPlan", name := "forBlocks", desc := "([I)Lcom/example/rummage/rummage/SeekPlan;" } : Jvm.MethodName) prog_21_method_6_code (1 : Nat) (Option.some (Jvm.ClassFile.FieldType.object "com/example/rummage/rummage/SeekPlan")), Jvm.Cond.code ({ cls := "java/lang/Math", name := "min", desc := "(II)I" } : Jvm.MethodName) jdk_29_method_69_code (2 : Nat) (Option.some Jvm.ClassFile.FieldType.int), Jvm.Cond.code ({ cls := "com/example/rummage/rummage/SeekPlan", name := "<init>", desc := "([III)V" } : Jvm.MethodName) prog_21_method_2_code (4 : Nat) (Option.none : Option Jvm.ClassFile.FieldType), Jvm.Cond.code ({ cls := "com/example/rummage/rummage/SeekPlan", name := "rarest", desc := "([IIIIZ)I" } : Jvm.MethodName) prog_21_method_18_code (10 : Nat) (Option.some Jvm.ClassFile.FieldType.int), Jvm.Cond.code ({ cls := "com/example/rummage/rummage/SeekPlan", name := "commonnessOf", desc := "(I)I" } : Jvm.MethodName) prog_21_method_22_code (1 : Nat) (Option.some Jvm.ClassFile.FieldType.int), Jvm.Cond.code ({ cls := "com/example/rummage/rummage/SeekPlan", name := "<init>", desc := "([IIII)V" } : Jvm.MethodName) prog_21_method_3_code (6 : Nat) (Option.none : Option Jvm.ClassFile.FieldType), Jvm.Cond.code ({ cls := "java/lang/Object", name := "<init>", desc := "()V" } : Jvm.MethodName) object_method_1_code (1 : Nat) (Option.none : Option Jvm.ClassFile.FieldType), Jvm.Cond.code ({ cls := "java/lang/String", name := "<init>", desc := "([III)V" } : Jvm.MethodName) jdk_42_method_6_code (5 : Nat) (Option.none : Option Jvm.ClassFile.FieldType), Jvm.Cond.code ({ cls := "java/lang/String", name := "checkBoundsOffCount", desc := "(III)I" } : Jvm.MethodName) jdk_42_method_157_code (3 : Nat) (Option.some Jvm.ClassFile.FieldType.int), Jvm.Cond.code ({ cls := "jdk/internal/util/Preconditions", name := "checkFromIndexSize", desc := "(IIILjava/util/function/BiFunction;)I" } : Jvm.MethodName) jdk_41_method_13_code (4 : Nat) (Option.some Jvm.ClassFile.FieldType.int), Jvm.Cond.code ({ cls := "java/lang/StringUTF16", name := "compress", desc := "([III)[B" } : Jvm.MethodName) jdk_52_method_18_code (10 : Nat) (Option.some (Jvm.ClassFile.FieldType.array Jvm.ClassFile.FieldType.byte)), Jvm.Cond.code ({ cls := "java/lang/StringUTF16", name := "coderFromArrayLen", desc := "([BI)B" } : Jvm.MethodName) jdk_52_method_15_code (2 : Nat) (Option.some Jvm.ClassFile.FieldType.byte), Jvm.Cond.code ({ cls := "com/example/rummage/rummage/SeekPlan", name := "standsAgain", desc := "([III)Z" } : Jvm.MethodName) prog_21_method_21_code (4 : Nat) (Option.some Jvm.ClassFile.FieldType.boolean), Jvm.Cond.code ({ cls := "com/example/rummage/rummage/SeekPlan", name := "anchor", desc := "()I" } : Jvm.MethodName) prog_21_method_9_code (1 : Nat) (Option.some Jvm.ClassFile.FieldType.int), Jvm.Cond.code ({ cls := "com/example/rummage/rummage/SeekPlan", name := "check", desc := "()I" } : Jvm.MethodName) prog_21_method_10_code (1 : Nat) (Option.some Jvm.ClassFile.FieldType.int), Jvm.Cond.code ({ cls := "com/example/rummage/rummage/CharSeek", name := "<init>", desc := "([I)V" } : Jvm.MethodName) prog_7_method_1_code (5 : Nat) (Option.none : Option Jvm.ClassFile.FieldType), Jvm.Cond.code ({ cls := "com/example/rummage/rummage/SeekPlan", name := "firstIsRarer", desc := "()Z" } : Jvm.MethodName) prog_21_method_16_code (1 : Nat) (Option.some Jvm.ClassFile.FieldType.boolean), Jvm.Cond.code ({ cls := "com/example/rummage/rummage/SeekPlan", name := "pairsCheck", desc := "()Z" } : Jvm.MethodName) prog_21_method_17_code (1 : Nat) (Option.some Jvm.ClassFile.FieldType.boolean), Jvm.Cond.code ({ cls := "com/example/rummage/rummage/CharSeekOpeningPinLaw", name := "eq", desc := "([CI[III)Z" } : Jvm.MethodName) method_4_code (5 : Nat) (Option.some Jvm.ClassFile.FieldType.boolean), Jvm.Cond.code ({ cls := "com/example/rummage/rummage/CharSeek", name := "opening", desc := "([CI)I" } : Jvm.MethodName) prog_7_method_3_code (4 : Nat) (Option.some Jvm.ClassFile.FieldType.int)]
set_option maxRecDepth 65536 in
theorem codes_eq : words1.filter isCode = codes1 := rfl
theorem w_codes : ∀ c ∈ words1.filter isCode, c.before args0 about1 = true := by
  rw [codes_eq]
  intro c hc
  simp only [codes1, List.mem_cons, List.not_mem_nil, or_false] at hc
  rcases hc with rfl | rfl | rfl | rfl | rfl | rfl | rfl | rfl | rfl | rfl | rfl | rfl | rfl | rfl | rfl | rfl | rfl | rfl | rfl | rfl | rfl | rfl
  · exact w_c0
  · exact w_c1
  · exact w_c2
  · exact w_c3
  · exact w_c4
  · exact w_c5
  · exact w_c6
  · exact w_c7
  · exact w_c8
  · exact w_c9
  · exact w_c10
  · exact w_c11
  · exact w_c12
  · exact w_c13
  · exact w_c14
  · exact w_c15
  · exact w_c16
  · exact w_c17
  · exact w_c18
  · exact w_c19
  · exact w_c20
  · exact w_c21
set_option maxRecDepth 65536 in
theorem w_t1 : (words1.take 24).all (fun c => isCode c || c.before args0 about1) = true := by decide +kernel
set_option maxRecDepth 65536 in
theorem w_t2 : ((words1.drop 24).take 24).all (fun c => isCode c || c.before args0 about1) = true := by decide +kernel
set_option maxRecDepth 65536 in
theorem w_t3 : (((words1.drop 24).drop 24).take 24).all (fun c => isCode c || c.before args0 about1) = true := by decide +kernel
set_option maxRecDepth 65536 in
theorem w_t4 : ((((words1.drop 24).drop 24).drop 24).take 24).all (fun c => isCode c || c.before args0 about1) = true := by decide +kernel
set_option maxRecDepth 65536 in
theorem w_t5 : (((((words1.drop 24).drop 24).drop 24).drop 24).take 24).all (fun c => isCode c || c.before args0 about1) = true := by decide +kernel
set_option maxRecDepth 65536 in
theorem w_t6 : ((((((words1.drop 24).drop 24).drop 24).drop 24).drop 24).take 24).all (fun c => isCode c || c.before args0 about1) = true := by decide +kernel
set_option maxRecDepth 65536 in
theorem w_t7 : ((((((words1.drop 24).drop 24).drop 24).drop 24).drop 24).drop 24).all (fun c => isCode c || c.before args0 about1) = true := by decide +kernel
theorem w_tables : (allAtoms (Jvm.Cond.code x code maxLocals ret :: tables_1)).before args0 about1 = true := by
  rw [allAtoms_all]
  show words1.all (fun c => c.before args0 about1) = true
  refine all_split ?_ w_codes
  rw [← List.take_append_drop 24 words1, List.all_append, w_t1, ← List.take_append_drop 24 (words1.drop 24), List.all_append, w_t2, ← List.take_append_drop 24 ((words1.drop 24).drop 24), List.all_append, w_t3, ← List.take_append_drop 24 (((words1.drop 24).drop 24).drop 24), List.all_append, w_t4, ← List.take_append_drop 24 ((((words1.drop 24).drop 24).drop 24).drop 24), List.all_append, w_t5, ← List.take_append_drop 24 (((((words1.drop 24).drop 24).drop 24).drop 24).drop 24), List.all_append, w_t6, w_t7]
  rfl
set_option maxRecDepth 65536 in
theorem w_rest : rest_1_c.before args0 about1 = true := by decide +kernel
set_option maxRecDepth 65536 in
theorem w_case : (Jvm.Cond.and given_1 narrow_1).before args0 about1 = true := by decide +kernel
theorem w_applies : (headSpec (Jvm.Cond.code x code maxLocals ret :: tables_1) room_1).applies x e0.platform about1 = true :=
  (Spec.applies_iff w_frames).mpr ⟨w_running, w_runnable, w_alone, w_named, w_hears, w_ripe, w_room, w_tables⟩
theorem atStart : AtStart classFile x code maxLocals ret World_1 tables_1 room_1 Calls_1 rest_1 Pre_1 launch0 p0 e0 about1 theMethod args0 below0 :=
  ⟨lists_1, trivial, launch0.admits_env _ _ _, launch0.least_env, fairChoices_fair.cas, fairChoices_fair.clock, w_frames, w_args, w_heap, w_applies, trivial, w_rest, w_case⟩
end start1
theorem witness_1 : WitnessClaimed_1 := ⟨start1.p0, start1.e0, start1.about1, start1.theMethod, start1.args0, start1.below0, start1.atStart⟩
end Jvm.Pilot.@@N@@
