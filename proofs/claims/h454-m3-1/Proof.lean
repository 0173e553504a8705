import JvmDerived
import JvmDerived.Pilot.@@N@@Statement
import JvmDerived.Pilot.@@N@@Code
set_option linter.unusedVariables false
set_option linter.unusedSimpArgs false
namespace Jvm.Own
open Jvm Jvm.ClassFile Sem Op Lib Jvm.Free Jvm.Stand Jvm.LawKit Jvm.RoadKit
/-- the run from A ends, and G holds of its end -/
def Runs (p : Program) (e : Env) (below : List Frame) (A : State) (G : Outcome → State → Prop) : Prop :=
  ∃ s₂ o, Steps p.tables e below A s₂ ∧ s₂.status = .running ∧ Ended s₂ below o ∧ G o s₂
section A
variable {p : Program} {e : Env} {below : List Frame} {A B : State} {G : Outcome → State → Prop}
theorem Runs.of (k : Runs p e below B G) (h : ∀ t, Steps p.tables e below B t → Steps p.tables e below A t) : Runs p e below A G := by
  obtain ⟨t, o, hs, r⟩ := k
  exact ⟨t, o, h t hs, r⟩
theorem Runs.dia {P : Prop} [Decidable P] {B : Int32 → State} {vt vf : Int32} (ht : P → Runs p e below (B vt) G → Runs p e below A G) (hf : ¬ P → Runs p e below (B vf) G → Runs p e below A G) (k : Runs p e below (B (if P then vt else vf)) G) : Runs p e below A G := by
  by_cases hc : P
  · rw [if_pos hc] at k; exact ht hc k
  · rw [if_neg hc] at k; exact hf hc k
theorem Runs.via (k : Runs p e below B G) (h : Steps p.tables e below A B) : Runs p e below A G := k.of fun _ q => h.trans q
end A
/-- what stood at h0 is written at ws alone -/
def Wrote (h0 : Heap) (ws : List Addr) (L : List Loc) : Prop := ∀ y ∈ L, y.base ∈ ws ∨ h0.size ≤ y.base
theorem Wrote.nil {h0 : Heap} {ws : List Addr} : Wrote h0 ws [] := fun _ q => nomatch q
theorem Wrote.app {h0 h : Heap} {ws ws' : List Addr} {L L' : List Loc} (N : Wrote h0 ws L) (N' : Wrote h ws' L') (hs : h0.size ≤ h.size) (hw : ∀ x ∈ ws', x ∈ ws ∨ h0.size ≤ x) : Wrote h0 ws (L ++ L') := fun y q =>
  (List.mem_append.mp q).elim (N y) fun r => (N' y r).elim (hw _) fun z => Or.inr (Nat.le_trans hs z)
theorem Wrote.snoc {h0 : Heap} {ws : List Addr} {L : List Loc} {a : Addr} {i : Nat} (N : Wrote h0 ws L) (q : a ∈ ws ∨ h0.size ≤ a) : Wrote h0 ws (L ++ [⟨a, i⟩]) := fun y r =>
  (List.mem_append.mp r).elim (N y) fun z => by cases List.mem_singleton.mp z; exact q
/-- where a walk stands: the method's own facts, the heap as it is now, what was written since h0 -/
def Here (p : Program) (l : Launch) (e : Env) (R : Room) (s : State) (m : MethodId) (args : Array Value) (below : List Frame) (meth : Method) (c : Code)
    (y : MethodName) (bytes : ByteArray) (maxL : Nat) (ret : Option FieldType) (Z : State) (h0 : Heap) (ws : List Addr) (T : State) (cells slots : Nat) (h : Heap) : Prop :=
  (p.tables.exec = Jvm.exec ∧ Z.Warmed39 s.vm ∧ c.code = bytes ∧ c.maxLocals = maxL ∧ s.vm.findClass y.cls = some m.cls ∧ meth.name = y.name ∧ meth.sig.returnType = ret ∧ meth.locks = false) ∧
  T.heap = h ∧ Keep h0 h ws ∧ ∃ locs, Stand p l e R s m args below meth c T locs cells slots ∧ Wrote h0 ws locs
/-- how a walk must end: it returns, Q holds of the result and the heap, what stood at h0 is written at ws alone -/
def Out (s : State) (h0 : Heap) (ws : List Addr) (rm : Room) (Q : Option Value → Heap → Prop) (o : Outcome) (U : State) : Prop :=
  ∃ v L, o = .returned v ∧ (Q v U.heap ∧ Keep h0 U.heap ws ∧ Wrote h0 ws L) ∧ FrameEnd s o U L rm.cells rm.slots
/-- a method's contract at the heap h0 and these arguments -/
def Ct (l : Launch) (Z : State) (y : MethodName) (bytes : ByteArray) (maxL : Nat) (ret : Option FieldType) (rm : Room) (as : Array Value) (h0 : Heap) (ws : List Addr) (Q : Option Value → Heap → Prop) : Prop :=
  ∀ wz, MetFree l y (head1 (Jvm.Cond.code y bytes maxL ret :: wz) rm) (fun a U => a = as ∧ Z.Warmed39 U.vm ∧ U.heap = h0) (fun _ _ _ _ _ => True)
    (fun _ U o U' => ∃ v L, o = .returned v ∧ (Q v U'.heap ∧ Keep h0 U'.heap ws ∧ Wrote h0 ws L) ∧ FrameEnd U o U' L rm.cells rm.slots)
section B
variable {p : Program} {l : Launch} {e : Env} {R : Room} {s : State} {m : MethodId} {args : Array Value} {below : List Frame} {meth : Method} {c : Code} {y : MethodName} {bytes : ByteArray} {maxL : Nat} {ret : Option FieldType} {Z : State} {h0 : Heap} {ws : List Addr} {T : State} {cells slots : Nat} {h : Heap} {G : Outcome → State → Prop} {a0 : Array Value}
theorem Ct.of {rm : Room} {as : Array Value} {Q : Option Value → Heap → Prop} (hp : plainFor y = true)
    (body : ∀ p e s m below meth c T, Here p l e rm s m as below meth c y bytes maxL ret Z h0 ws T 0 0 h0 → Runs p e below (T.setTop (entryFrame m as maxL)) (Out s h0 ws rm Q)) :
    Ct l Z y bytes maxL ret rm as h0 ws Q := fun wz => by
  refine MetFree.of_bodySF hp hisR ?_
  intro p e s m args below meth c s₁ Bd hml0 hP hK
  obtain ⟨rfl, hZ, hh⟩ := hP
  have e0 : s₁.heap = h0 := by rw [← hh, Bd.state]; rfl
  exact body p e s m below meth c s₁ ⟨⟨Bd.exec, hZ, Bd.bytes, hml0, findClass_of_methodNamed Bd.named, (name_of_methodNamed Bd.named Bd.method).1, Bd.returns, BodyLoose.notSynchronized Bd⟩, e0, Keep.refl _ _, [], Stand.of_body Bd, Wrote.nil⟩
theorem Ct.mono {rm : Room} {as : Array Value} {Q Q' : Option Value → Heap → Prop} (h : Ct l Z y bytes maxL ret rm as h0 ws Q) (hq : ∀ v h, Q v h → Q' v h) : Ct l Z y bytes maxL ret rm as h0 ws Q' := fun wz => by
  intro p e ha hc hk s m args below hf happ hP hK
  obtain ⟨n, o, w1, w2, w3, v, L, q1, q2, q3⟩ := h wz p e ha hc hk s m args below hf happ hP hK
  exact ⟨n, o, w1, w2, w3, v, L, q1, ⟨hq _ _ q2.1, q2.2⟩, q3⟩
/-- from one frame to another that is the same -/
theorem Runs.top {g g' : JFrame} (q : g = g') (k : Runs p e below (T.setTop g') G) : Runs p e below (T.setTop g) G := q ▸ k
theorem Here.keep (X : Here p l e R s m args below meth c y bytes maxL ret Z h0 ws T cells slots h) : Keep h0 h ws := X.2.2.1
theorem Here.hZ (X : Here p l e R s m args below meth c y bytes maxL ret Z h0 ws T cells slots h) : Z.Warmed39 s.vm := X.1.2.1
theorem Here.size (X : Here p l e R s m args below meth c y bytes maxL ret Z h0 ws T cells slots h) : h0.size ≤ h.size := X.2.2.1.1
/-- a plain step -/
theorem Here.step (X : Here p l e R s m args below meth c y bytes maxL ret Z h0 ws T cells slots h) {g g' : JFrame}
    (st : ∀ locs, p.tables.exec = Jvm.exec → c.code = bytes → Z.Warmed39 s.vm → s.vm.findClass y.cls = some m.cls → T.heap = h → Stand p l e R s m args below meth c T locs cells slots → ∀ t, Steps p.tables e below (T.setTop g') t → Steps p.tables e below (T.setTop g) t)
    (k : Runs p e below (T.setTop g') G) : Runs p e below (T.setTop g) G := by
  obtain ⟨⟨x1, x2, x3, x4, x5, x6, x7, x8⟩, x9, x10, locs, S, N⟩ := X
  exact k.of (st locs x1 x3 x2 x5 x9 S)
/-- a step that leaves the heap as it is -/
theorem Here.stepT (X : Here p l e R s m args below meth c y bytes maxL ret Z h0 ws T cells slots h) {g g' : JFrame}
    (st : ∀ locs, p.tables.exec = Jvm.exec → c.code = bytes → c.maxLocals = maxL → Z.Warmed39 s.vm → s.vm.findClass y.cls = some m.cls → T.heap = h → Stand p l e R s m args below meth c T locs cells slots → ∃ T', Stand p l e R s m args below meth c T' locs cells slots ∧ T'.heap = h ∧ ∀ t, Steps p.tables e below (T'.setTop g') t → Steps p.tables e below (T.setTop g) t)
    (k : ∀ T', Here p l e R s m args below meth c y bytes maxL ret Z h0 ws T' cells slots h → Runs p e below (T'.setTop g') G) : Runs p e below (T.setTop g) G := by
  obtain ⟨⟨x1, x2, x3, x4, x5, x6, x7, x8⟩, x9, x10, locs, S, N⟩ := X
  obtain ⟨T', S', e', q⟩ := st locs x1 x3 x4 x2 x5 x9 S
  exact (k T' ⟨⟨x1, x2, x3, x4, x5, x6, x7, x8⟩, e', x10, locs, S', N⟩).of q
/-- a step that writes one slot -/
theorem Here.stepW (X : Here p l e R s m args below meth c y bytes maxL ret Z h0 ws T cells slots h) {g g' : JFrame} {a : Addr} {i : Nat} {v : Value} (hn : a ∈ ws ∨ h0.size ≤ a)
    (st : ∀ locs, p.tables.exec = Jvm.exec → c.code = bytes → meth.name = y.name → Z.Warmed39 s.vm → s.vm.findClass y.cls = some m.cls → T.heap = h → Stand p l e R s m args below meth c T locs cells slots → ∃ T' h', Stand p l e R s m args below meth c T' (locs ++ [⟨a, i⟩]) cells slots ∧ T'.heap = h' ∧ Wr h h' a i v ∧ ∀ t, Steps p.tables e below (T'.setTop g') t → Steps p.tables e below (T.setTop g) t)
    (k : ∀ T' h', Here p l e R s m args below meth c y bytes maxL ret Z h0 ws T' cells slots h' → Wr h h' a i v → Runs p e below (T'.setTop g') G) : Runs p e below (T.setTop g) G := by
  obtain ⟨⟨x1, x2, x3, x4, x5, x6, x7, x8⟩, x9, x10, locs, S, N⟩ := X
  obtain ⟨T', h', S', e', W, q⟩ := st locs x1 x3 x6 x2 x5 x9 S
  exact (k T' h' ⟨⟨x1, x2, x3, x4, x5, x6, x7, x8⟩, e', x10.wr W hn, _, S', N.snoc hn⟩ W).of q
theorem Here.iload (X : Here p l e R s m args below meth c y bytes maxL ret Z h0 ws T cells slots h) {pc pc' : Nat} {Ls : Array Slot} {St : List Value} {i : Nat} {v : Int32} (hd : decode bytes pc = .ok (.iload i, 2)) (hl : Ls[i]? = some (.val (.int v))) (hp : pc + 2 = pc') (k : Runs p e below (T.setTop (mkF m pc' Ls (.int v :: St))) G) : Runs p e below (T.setTop (mkF m pc Ls (St))) G := by
  subst hp
  exact X.step (fun _ hx hb' _ hown _ S t q => XS.iload S.here hx rfl (hb hb' hd) hl q) k
theorem Here.iloadN (X : Here p l e R s m args below meth c y bytes maxL ret Z h0 ws T cells slots h) {pc pc' : Nat} {Ls : Array Slot} {St : List Value} {i : Fin 4} {v : Int32} (hd : decode bytes pc = .ok (.iload_n i, 1)) (hl : Ls[i.val]? = some (.val (.int v))) (hp : pc + 1 = pc') (k : Runs p e below (T.setTop (mkF m pc' Ls (.int v :: St))) G) : Runs p e below (T.setTop (mkF m pc Ls (St))) G := by
  subst hp
  exact X.step (fun _ hx hb' _ hown _ S t q => XS.iloadN S.here hx rfl (hb hb' hd) hl q) k
theorem Here.lload (X : Here p l e R s m args below meth c y bytes maxL ret Z h0 ws T cells slots h) {pc pc' : Nat} {Ls : Array Slot} {St : List Value} {i : Nat} {v : Int64} (hd : decode bytes pc = .ok (.lload i, 2)) (hl : Ls[i]? = some (.val (.long v))) (hp : pc + 2 = pc') (k : Runs p e below (T.setTop (mkF m pc' Ls (.long v :: St))) G) : Runs p e below (T.setTop (mkF m pc Ls (St))) G := by
  subst hp
  exact X.step (fun _ hx hb' _ hown _ S t q => XS.lload S.here hx rfl (hb hb' hd) hl q) k
theorem Here.lloadN (X : Here p l e R s m args below meth c y bytes maxL ret Z h0 ws T cells slots h) {pc pc' : Nat} {Ls : Array Slot} {St : List Value} {i : Fin 4} {v : Int64} (hd : decode bytes pc = .ok (.lload_n i, 1)) (hl : Ls[i.val]? = some (.val (.long v))) (hp : pc + 1 = pc') (k : Runs p e below (T.setTop (mkF m pc' Ls (.long v :: St))) G) : Runs p e below (T.setTop (mkF m pc Ls (St))) G := by
  subst hp
  exact X.step (fun _ hx hb' _ hown _ S t q => XS.lloadN S.here hx rfl (hb hb' hd) hl q) k
theorem Here.aload (X : Here p l e R s m args below meth c y bytes maxL ret Z h0 ws T cells slots h) {pc pc' : Nat} {Ls : Array Slot} {St : List Value} {i : Nat} {v : Value} (hd : decode bytes pc = .ok (.aload i, 2)) (hl : Ls[i]? = some (.val v)) (hv : v.isRef = true) (hp : pc + 2 = pc') (k : Runs p e below (T.setTop (mkF m pc' Ls (v :: St))) G) : Runs p e below (T.setTop (mkF m pc Ls (St))) G := by
  subst hp
  exact X.step (fun _ hx hb' _ hown _ S t q => XS.aload S.here hx rfl (hb hb' hd) hl hv q) k
theorem Here.aloadN (X : Here p l e R s m args below meth c y bytes maxL ret Z h0 ws T cells slots h) {pc pc' : Nat} {Ls : Array Slot} {St : List Value} {i : Fin 4} {v : Value} (hd : decode bytes pc = .ok (.aload_n i, 1)) (hl : Ls[i.val]? = some (.val v)) (hv : v.isRef = true) (hp : pc + 1 = pc') (k : Runs p e below (T.setTop (mkF m pc' Ls (v :: St))) G) : Runs p e below (T.setTop (mkF m pc Ls (St))) G := by
  subst hp
  exact X.step (fun _ hx hb' _ hown _ S t q => XS.aloadN S.here hx rfl (hb hb' hd) hl hv q) k
theorem Here.istore (X : Here p l e R s m args below meth c y bytes maxL ret Z h0 ws T cells slots h) {pc pc' : Nat} {Ls : Array Slot} {St : List Value} {i : Nat} {v : Int32} {l' : Array Slot} (hd : decode bytes pc = .ok (.istore i, 2)) (hl : storeLocals Ls i (.int v) = some l') (hp : pc + 2 = pc') (k : Runs p e below (T.setTop (mkF m pc' l' (St))) G) : Runs p e below (T.setTop (mkF m pc Ls (.int v :: St))) G := by
  subst hp
  exact X.step (fun _ hx hb' _ hown _ S t q => XS.istore S.here hx rfl (hb hb' hd) rfl hl q) k
theorem Here.istoreN (X : Here p l e R s m args below meth c y bytes maxL ret Z h0 ws T cells slots h) {pc pc' : Nat} {Ls : Array Slot} {St : List Value} {i : Fin 4} {v : Int32} {l' : Array Slot} (hd : decode bytes pc = .ok (.istore_n i, 1)) (hl : storeLocals Ls i.val (.int v) = some l') (hp : pc + 1 = pc') (k : Runs p e below (T.setTop (mkF m pc' l' (St))) G) : Runs p e below (T.setTop (mkF m pc Ls (.int v :: St))) G := by
  subst hp
  exact X.step (fun _ hx hb' _ hown _ S t q => XS.istoreN S.here hx rfl (hb hb' hd) rfl hl q) k
theorem Here.lstore (X : Here p l e R s m args below meth c y bytes maxL ret Z h0 ws T cells slots h) {pc pc' : Nat} {Ls : Array Slot} {St : List Value} {i : Nat} {v : Int64} {l' : Array Slot} (hd : decode bytes pc = .ok (.lstore i, 2)) (hl : storeLocals Ls i (.long v) = some l') (hp : pc + 2 = pc') (k : Runs p e below (T.setTop (mkF m pc' l' (St))) G) : Runs p e below (T.setTop (mkF m pc Ls (.long v :: St))) G := by
  subst hp
  exact X.step (fun _ hx hb' _ hown _ S t q => XS.lstore S.here hx rfl (hb hb' hd) rfl hl q) k
theorem Here.lstoreN (X : Here p l e R s m args below meth c y bytes maxL ret Z h0 ws T cells slots h) {pc pc' : Nat} {Ls : Array Slot} {St : List Value} {i : Fin 4} {v : Int64} {l' : Array Slot} (hd : decode bytes pc = .ok (.lstore_n i, 1)) (hl : storeLocals Ls i.val (.long v) = some l') (hp : pc + 1 = pc') (k : Runs p e below (T.setTop (mkF m pc' l' (St))) G) : Runs p e below (T.setTop (mkF m pc Ls (.long v :: St))) G := by
  subst hp
  exact X.step (fun _ hx hb' _ hown _ S t q => XS.lstoreN S.here hx rfl (hb hb' hd) rfl hl q) k
theorem Here.astore (X : Here p l e R s m args below meth c y bytes maxL ret Z h0 ws T cells slots h) {pc pc' : Nat} {Ls : Array Slot} {St : List Value} {i : Nat} {v : Value} {l' : Array Slot} (hd : decode bytes pc = .ok (.astore i, 2)) (hv : v.isRef = true) (hl : storeLocals Ls i v = some l') (hp : pc + 2 = pc') (k : Runs p e below (T.setTop (mkF m pc' l' (St))) G) : Runs p e below (T.setTop (mkF m pc Ls (v :: St))) G := by
  subst hp
  exact X.step (fun _ hx hb' _ hown _ S t q => XS.astore S.here hx rfl (hb hb' hd) rfl hv hl q) k
theorem Here.astoreN (X : Here p l e R s m args below meth c y bytes maxL ret Z h0 ws T cells slots h) {pc pc' : Nat} {Ls : Array Slot} {St : List Value} {i : Fin 4} {v : Value} {l' : Array Slot} (hd : decode bytes pc = .ok (.astore_n i, 1)) (hv : v.isRef = true) (hl : storeLocals Ls i.val v = some l') (hp : pc + 1 = pc') (k : Runs p e below (T.setTop (mkF m pc' l' (St))) G) : Runs p e below (T.setTop (mkF m pc Ls (v :: St))) G := by
  subst hp
  exact X.step (fun _ hx hb' _ hown _ S t q => XS.astoreN S.here hx rfl (hb hb' hd) rfl hv hl q) k
theorem Here.iconst (X : Here p l e R s m args below meth c y bytes maxL ret Z h0 ws T cells slots h) {pc pc' : Nat} {Ls : Array Slot} {St : List Value} {i : Int} {z : Int32} (hd : decode bytes pc = .ok (.iconst i, 1)) (hz : Int32.ofInt i = z) (hp : pc + 1 = pc') (k : Runs p e below (T.setTop (mkF m pc' Ls (.int z :: St))) G) : Runs p e below (T.setTop (mkF m pc Ls (St))) G := by
  subst hp
  exact X.step (fun _ hx hb' _ hown _ S t q => XS.iconst S.here hx rfl (hb hb' hd) (hz ▸ q)) k
theorem Here.bipush (X : Here p l e R s m args below meth c y bytes maxL ret Z h0 ws T cells slots h) {pc pc' : Nat} {Ls : Array Slot} {St : List Value} {i : Int} {z : Int32} (hd : decode bytes pc = .ok (.bipush i, 2)) (hz : (Int8.ofInt i).toInt32 = z) (hp : pc + 2 = pc') (k : Runs p e below (T.setTop (mkF m pc' Ls (.int z :: St))) G) : Runs p e below (T.setTop (mkF m pc Ls (St))) G := by
  subst hp
  exact X.step (fun _ hx hb' _ hown _ S t q => XS.bipush S.here hx rfl (hb hb' hd) (hz ▸ q)) k
theorem Here.sipush (X : Here p l e R s m args below meth c y bytes maxL ret Z h0 ws T cells slots h) {pc pc' : Nat} {Ls : Array Slot} {St : List Value} {i : Int} {z : Int32} (hd : decode bytes pc = .ok (.sipush i, 3)) (hz : (Int16.ofInt i).toInt32 = z) (hp : pc + 3 = pc') (k : Runs p e below (T.setTop (mkF m pc' Ls (.int z :: St))) G) : Runs p e below (T.setTop (mkF m pc Ls (St))) G := by
  subst hp
  exact X.step (fun _ hx hb' _ hown _ S t q => XS.sipush S.here hx rfl (hb hb' hd) (hz ▸ q)) k
theorem Here.lconst0 (X : Here p l e R s m args below meth c y bytes maxL ret Z h0 ws T cells slots h) {pc pc' : Nat} {Ls : Array Slot} {St : List Value}  (hd : decode bytes pc = .ok (.lconst 0, 1))  (hp : pc + 1 = pc') (k : Runs p e below (T.setTop (mkF m pc' Ls (.long 0 :: St))) G) : Runs p e below (T.setTop (mkF m pc Ls (St))) G := by
  subst hp
  exact X.step (fun _ hx hb' _ hown _ S t q => XS.lconst S.here hx rfl (hb hb' hd) q) k
theorem Here.lconst1 (X : Here p l e R s m args below meth c y bytes maxL ret Z h0 ws T cells slots h) {pc pc' : Nat} {Ls : Array Slot} {St : List Value}  (hd : decode bytes pc = .ok (.lconst 1, 1))  (hp : pc + 1 = pc') (k : Runs p e below (T.setTop (mkF m pc' Ls (.long 1 :: St))) G) : Runs p e below (T.setTop (mkF m pc Ls (St))) G := by
  subst hp
  exact X.step (fun _ hx hb' _ hown _ S t q => XS.lconst S.here hx rfl (hb hb' hd) q) k
theorem Here.aconstNull (X : Here p l e R s m args below meth c y bytes maxL ret Z h0 ws T cells slots h) {pc pc' : Nat} {Ls : Array Slot} {St : List Value}  (hd : decode bytes pc = .ok (.aconst_null, 1))  (hp : pc + 1 = pc') (k : Runs p e below (T.setTop (mkF m pc' Ls (.null :: St))) G) : Runs p e below (T.setTop (mkF m pc Ls (St))) G := by
  subst hp
  exact X.step (fun _ hx hb' _ hown _ S t q => XS.aconstNull S.here hx rfl (hb hb' hd) q) k
theorem Here.iadd (X : Here p l e R s m args below meth c y bytes maxL ret Z h0 ws T cells slots h) {pc pc' : Nat} {Ls : Array Slot} {St : List Value} {a b : Int32} (hd : decode bytes pc = .ok (.iadd, 1))  (hp : pc + 1 = pc') (k : Runs p e below (T.setTop (mkF m pc' Ls (.int (a + b) :: St))) G) : Runs p e below (T.setTop (mkF m pc Ls (.int b :: .int a :: St))) G := by
  subst hp
  exact X.step (fun _ hx hb' _ hown _ S t q => XS.iadd S.here hx rfl (hb hb' hd) rfl q) k
theorem Here.isub (X : Here p l e R s m args below meth c y bytes maxL ret Z h0 ws T cells slots h) {pc pc' : Nat} {Ls : Array Slot} {St : List Value} {a b : Int32} (hd : decode bytes pc = .ok (.isub, 1))  (hp : pc + 1 = pc') (k : Runs p e below (T.setTop (mkF m pc' Ls (.int (a - b) :: St))) G) : Runs p e below (T.setTop (mkF m pc Ls (.int b :: .int a :: St))) G := by
  subst hp
  exact X.step (fun _ hx hb' _ hown _ S t q => XS.isub S.here hx rfl (hb hb' hd) rfl q) k
theorem Here.imul (X : Here p l e R s m args below meth c y bytes maxL ret Z h0 ws T cells slots h) {pc pc' : Nat} {Ls : Array Slot} {St : List Value} {a b : Int32} (hd : decode bytes pc = .ok (.imul, 1))  (hp : pc + 1 = pc') (k : Runs p e below (T.setTop (mkF m pc' Ls (.int (a * b) :: St))) G) : Runs p e below (T.setTop (mkF m pc Ls (.int b :: .int a :: St))) G := by
  subst hp
  exact X.step (fun _ hx hb' _ hown _ S t q => XS.imul S.here hx rfl (hb hb' hd) rfl q) k
theorem Here.iand (X : Here p l e R s m args below meth c y bytes maxL ret Z h0 ws T cells slots h) {pc pc' : Nat} {Ls : Array Slot} {St : List Value} {a b : Int32} (hd : decode bytes pc = .ok (.iand, 1))  (hp : pc + 1 = pc') (k : Runs p e below (T.setTop (mkF m pc' Ls (.int (a &&& b) :: St))) G) : Runs p e below (T.setTop (mkF m pc Ls (.int b :: .int a :: St))) G := by
  subst hp
  exact X.step (fun _ hx hb' _ hown _ S t q => XS.iand S.here hx rfl (hb hb' hd) rfl q) k
theorem Here.ior (X : Here p l e R s m args below meth c y bytes maxL ret Z h0 ws T cells slots h) {pc pc' : Nat} {Ls : Array Slot} {St : List Value} {a b : Int32} (hd : decode bytes pc = .ok (.ior, 1))  (hp : pc + 1 = pc') (k : Runs p e below (T.setTop (mkF m pc' Ls (.int (a ||| b) :: St))) G) : Runs p e below (T.setTop (mkF m pc Ls (.int b :: .int a :: St))) G := by
  subst hp
  exact X.step (fun _ hx hb' _ hown _ S t q => XS.ior S.here hx rfl (hb hb' hd) rfl q) k
theorem Here.ixor (X : Here p l e R s m args below meth c y bytes maxL ret Z h0 ws T cells slots h) {pc pc' : Nat} {Ls : Array Slot} {St : List Value} {a b : Int32} (hd : decode bytes pc = .ok (.ixor, 1))  (hp : pc + 1 = pc') (k : Runs p e below (T.setTop (mkF m pc' Ls (.int (a ^^^ b) :: St))) G) : Runs p e below (T.setTop (mkF m pc Ls (.int b :: .int a :: St))) G := by
  subst hp
  exact X.step (fun _ hx hb' _ hown _ S t q => XS.ixor S.here hx rfl (hb hb' hd) rfl q) k
theorem Here.ladd (X : Here p l e R s m args below meth c y bytes maxL ret Z h0 ws T cells slots h) {pc pc' : Nat} {Ls : Array Slot} {St : List Value} {a b : Int64} (hd : decode bytes pc = .ok (.ladd, 1))  (hp : pc + 1 = pc') (k : Runs p e below (T.setTop (mkF m pc' Ls (.long (a + b) :: St))) G) : Runs p e below (T.setTop (mkF m pc Ls (.long b :: .long a :: St))) G := by
  subst hp
  exact X.step (fun _ hx hb' _ hown _ S t q => XS.ladd S.here hx rfl (hb hb' hd) rfl q) k
theorem Here.lsub (X : Here p l e R s m args below meth c y bytes maxL ret Z h0 ws T cells slots h) {pc pc' : Nat} {Ls : Array Slot} {St : List Value} {a b : Int64} (hd : decode bytes pc = .ok (.lsub, 1))  (hp : pc + 1 = pc') (k : Runs p e below (T.setTop (mkF m pc' Ls (.long (a - b) :: St))) G) : Runs p e below (T.setTop (mkF m pc Ls (.long b :: .long a :: St))) G := by
  subst hp
  exact X.step (fun _ hx hb' _ hown _ S t q => XS.lsub S.here hx rfl (hb hb' hd) rfl q) k
theorem Here.lmul (X : Here p l e R s m args below meth c y bytes maxL ret Z h0 ws T cells slots h) {pc pc' : Nat} {Ls : Array Slot} {St : List Value} {a b : Int64} (hd : decode bytes pc = .ok (.lmul, 1))  (hp : pc + 1 = pc') (k : Runs p e below (T.setTop (mkF m pc' Ls (.long (a * b) :: St))) G) : Runs p e below (T.setTop (mkF m pc Ls (.long b :: .long a :: St))) G := by
  subst hp
  exact X.step (fun _ hx hb' _ hown _ S t q => XS.lmul S.here hx rfl (hb hb' hd) rfl q) k
theorem Here.land (X : Here p l e R s m args below meth c y bytes maxL ret Z h0 ws T cells slots h) {pc pc' : Nat} {Ls : Array Slot} {St : List Value} {a b : Int64} (hd : decode bytes pc = .ok (.land, 1))  (hp : pc + 1 = pc') (k : Runs p e below (T.setTop (mkF m pc' Ls (.long (a &&& b) :: St))) G) : Runs p e below (T.setTop (mkF m pc Ls (.long b :: .long a :: St))) G := by
  subst hp
  exact X.step (fun _ hx hb' _ hown _ S t q => XS.land S.here hx rfl (hb hb' hd) rfl q) k
theorem Here.lor (X : Here p l e R s m args below meth c y bytes maxL ret Z h0 ws T cells slots h) {pc pc' : Nat} {Ls : Array Slot} {St : List Value} {a b : Int64} (hd : decode bytes pc = .ok (.lor, 1))  (hp : pc + 1 = pc') (k : Runs p e below (T.setTop (mkF m pc' Ls (.long (a ||| b) :: St))) G) : Runs p e below (T.setTop (mkF m pc Ls (.long b :: .long a :: St))) G := by
  subst hp
  exact X.step (fun _ hx hb' _ hown _ S t q => XS.lor S.here hx rfl (hb hb' hd) rfl q) k
theorem Here.lxor (X : Here p l e R s m args below meth c y bytes maxL ret Z h0 ws T cells slots h) {pc pc' : Nat} {Ls : Array Slot} {St : List Value} {a b : Int64} (hd : decode bytes pc = .ok (.lxor, 1))  (hp : pc + 1 = pc') (k : Runs p e below (T.setTop (mkF m pc' Ls (.long (a ^^^ b) :: St))) G) : Runs p e below (T.setTop (mkF m pc Ls (.long b :: .long a :: St))) G := by
  subst hp
  exact X.step (fun _ hx hb' _ hown _ S t q => XS.lxor S.here hx rfl (hb hb' hd) rfl q) k
theorem Here.ishl (X : Here p l e R s m args below meth c y bytes maxL ret Z h0 ws T cells slots h) {pc pc' : Nat} {Ls : Array Slot} {St : List Value} {a b : Int32} (hd : decode bytes pc = .ok (.ishl, 1))  (hp : pc + 1 = pc') (k : Runs p e below (T.setTop (mkF m pc' Ls (.int (a <<< (b &&& 31)) :: St))) G) : Runs p e below (T.setTop (mkF m pc Ls (.int b :: .int a :: St))) G := by
  subst hp
  exact X.step (fun _ hx hb' _ hown _ S t q => XS.ishl S.here hx rfl (hb hb' hd) rfl q) k
theorem Here.ishr (X : Here p l e R s m args below meth c y bytes maxL ret Z h0 ws T cells slots h) {pc pc' : Nat} {Ls : Array Slot} {St : List Value} {a b : Int32} (hd : decode bytes pc = .ok (.ishr, 1))  (hp : pc + 1 = pc') (k : Runs p e below (T.setTop (mkF m pc' Ls (.int (a >>> (b &&& 31)) :: St))) G) : Runs p e below (T.setTop (mkF m pc Ls (.int b :: .int a :: St))) G := by
  subst hp
  exact X.step (fun _ hx hb' _ hown _ S t q => XS.ishr S.here hx rfl (hb hb' hd) rfl q) k
theorem Here.iushr (X : Here p l e R s m args below meth c y bytes maxL ret Z h0 ws T cells slots h) {pc pc' : Nat} {Ls : Array Slot} {St : List Value} {a b : Int32} (hd : decode bytes pc = .ok (.iushr, 1))  (hp : pc + 1 = pc') (k : Runs p e below (T.setTop (mkF m pc' Ls (.int ((a.toUInt32 >>> (b &&& 31).toUInt32).toInt32) :: St))) G) : Runs p e below (T.setTop (mkF m pc Ls (.int b :: .int a :: St))) G := by
  subst hp
  exact X.step (fun _ hx hb' _ hown _ S t q => XS.iushr S.here hx rfl (hb hb' hd) rfl q) k
theorem Here.lshl (X : Here p l e R s m args below meth c y bytes maxL ret Z h0 ws T cells slots h) {pc pc' : Nat} {Ls : Array Slot} {St : List Value} {a : Int64} {b : Int32} (hd : decode bytes pc = .ok (.lshl, 1))  (hp : pc + 1 = pc') (k : Runs p e below (T.setTop (mkF m pc' Ls (.long (a <<< (b &&& 0x3f).toInt64) :: St))) G) : Runs p e below (T.setTop (mkF m pc Ls (.int b :: .long a :: St))) G := by
  subst hp
  exact X.step (fun _ hx hb' _ hown _ S t q => XS.lshl S.here hx rfl (hb hb' hd) rfl q) k
theorem Here.lshr (X : Here p l e R s m args below meth c y bytes maxL ret Z h0 ws T cells slots h) {pc pc' : Nat} {Ls : Array Slot} {St : List Value} {a : Int64} {b : Int32} (hd : decode bytes pc = .ok (.lshr, 1))  (hp : pc + 1 = pc') (k : Runs p e below (T.setTop (mkF m pc' Ls (.long (a >>> (b &&& 0x3f).toInt64) :: St))) G) : Runs p e below (T.setTop (mkF m pc Ls (.int b :: .long a :: St))) G := by
  subst hp
  exact X.step (fun _ hx hb' _ hown _ S t q => XS.lshr S.here hx rfl (hb hb' hd) rfl q) k
theorem Here.lushr (X : Here p l e R s m args below meth c y bytes maxL ret Z h0 ws T cells slots h) {pc pc' : Nat} {Ls : Array Slot} {St : List Value} {a : Int64} {b : Int32} (hd : decode bytes pc = .ok (.lushr, 1))  (hp : pc + 1 = pc') (k : Runs p e below (T.setTop (mkF m pc' Ls (.long ((a.toUInt64 >>> (b &&& 0x3f).toInt64.toUInt64).toInt64) :: St))) G) : Runs p e below (T.setTop (mkF m pc Ls (.int b :: .long a :: St))) G := by
  subst hp
  exact X.step (fun _ hx hb' _ hown _ S t q => XS.lushr S.here hx rfl (hb hb' hd) rfl q) k
theorem Here.ineg (X : Here p l e R s m args below meth c y bytes maxL ret Z h0 ws T cells slots h) {pc pc' : Nat} {Ls : Array Slot} {St : List Value} {a : Int32} (hd : decode bytes pc = .ok (.ineg, 1))  (hp : pc + 1 = pc') (k : Runs p e below (T.setTop (mkF m pc' Ls (.int (-a) :: St))) G) : Runs p e below (T.setTop (mkF m pc Ls (.int a :: St))) G := by
  subst hp
  exact X.step (fun _ hx hb' _ hown _ S t q => XS.ineg S.here hx rfl (hb hb' hd) rfl q) k
theorem Here.lneg (X : Here p l e R s m args below meth c y bytes maxL ret Z h0 ws T cells slots h) {pc pc' : Nat} {Ls : Array Slot} {St : List Value} {a : Int64} (hd : decode bytes pc = .ok (.lneg, 1))  (hp : pc + 1 = pc') (k : Runs p e below (T.setTop (mkF m pc' Ls (.long (-a) :: St))) G) : Runs p e below (T.setTop (mkF m pc Ls (.long a :: St))) G := by
  subst hp
  exact X.step (fun _ hx hb' _ hown _ S t q => XS.lneg S.here hx rfl (hb hb' hd) rfl q) k
theorem Here.lcmp (X : Here p l e R s m args below meth c y bytes maxL ret Z h0 ws T cells slots h) {pc pc' : Nat} {Ls : Array Slot} {St : List Value} {a b : Int64} (hd : decode bytes pc = .ok (.lcmp, 1))  (hp : pc + 1 = pc') (k : Runs p e below (T.setTop (mkF m pc' Ls (.int (lcmpW a b) :: St))) G) : Runs p e below (T.setTop (mkF m pc Ls (.long b :: .long a :: St))) G := by
  subst hp
  exact X.step (fun _ hx hb' _ hown _ S t q => XS.lcmp S.here hx rfl (hb hb' hd) rfl q) k
theorem Here.i2l (X : Here p l e R s m args below meth c y bytes maxL ret Z h0 ws T cells slots h) {pc pc' : Nat} {Ls : Array Slot} {St : List Value} {a : Int32} (hd : decode bytes pc = .ok (.i2l, 1))  (hp : pc + 1 = pc') (k : Runs p e below (T.setTop (mkF m pc' Ls (.long a.toInt64 :: St))) G) : Runs p e below (T.setTop (mkF m pc Ls (.int a :: St))) G := by
  subst hp
  exact X.step (fun _ hx hb' _ hown _ S t q => XS.i2l S.here hx rfl (hb hb' hd) rfl q) k
theorem Here.l2i (X : Here p l e R s m args below meth c y bytes maxL ret Z h0 ws T cells slots h) {pc pc' : Nat} {Ls : Array Slot} {St : List Value} {a : Int64} (hd : decode bytes pc = .ok (.l2i, 1))  (hp : pc + 1 = pc') (k : Runs p e below (T.setTop (mkF m pc' Ls (.int a.toInt32 :: St))) G) : Runs p e below (T.setTop (mkF m pc Ls (.long a :: St))) G := by
  subst hp
  exact X.step (fun _ hx hb' _ hown _ S t q => XS.l2i S.here hx rfl (hb hb' hd) rfl q) k
theorem Here.i2b (X : Here p l e R s m args below meth c y bytes maxL ret Z h0 ws T cells slots h) {pc pc' : Nat} {Ls : Array Slot} {St : List Value} {a : Int32} (hd : decode bytes pc = .ok (.i2b, 1))  (hp : pc + 1 = pc') (k : Runs p e below (T.setTop (mkF m pc' Ls (.int a.toInt8.toInt32 :: St))) G) : Runs p e below (T.setTop (mkF m pc Ls (.int a :: St))) G := by
  subst hp
  exact X.step (fun _ hx hb' _ hown _ S t q => XS.i2b S.here hx rfl (hb hb' hd) rfl q) k
theorem Here.i2s (X : Here p l e R s m args below meth c y bytes maxL ret Z h0 ws T cells slots h) {pc pc' : Nat} {Ls : Array Slot} {St : List Value} {a : Int32} (hd : decode bytes pc = .ok (.i2s, 1))  (hp : pc + 1 = pc') (k : Runs p e below (T.setTop (mkF m pc' Ls (.int a.toInt16.toInt32 :: St))) G) : Runs p e below (T.setTop (mkF m pc Ls (.int a :: St))) G := by
  subst hp
  exact X.step (fun _ hx hb' _ hown _ S t q => XS.i2s S.here hx rfl (hb hb' hd) rfl q) k
theorem Here.i2c (X : Here p l e R s m args below meth c y bytes maxL ret Z h0 ws T cells slots h) {pc pc' : Nat} {Ls : Array Slot} {St : List Value} {a : Int32} (hd : decode bytes pc = .ok (.i2c, 1))  (hp : pc + 1 = pc') (k : Runs p e below (T.setTop (mkF m pc' Ls (.int a.toUInt32.toUInt16.toUInt32.toInt32 :: St))) G) : Runs p e below (T.setTop (mkF m pc Ls (.int a :: St))) G := by
  subst hp
  exact X.step (fun _ hx hb' _ hown _ S t q => XS.i2c S.here hx rfl (hb hb' hd) rfl q) k
theorem Here.irem (X : Here p l e R s m args below meth c y bytes maxL ret Z h0 ws T cells slots h) {pc pc' : Nat} {Ls : Array Slot} {St : List Value} {a b : Int32} (hd : decode bytes pc = .ok (.irem, 1)) (hy : b ≠ 0) (hp : pc + 1 = pc') (k : Runs p e below (T.setTop (mkF m pc' Ls (.int (a % b) :: St))) G) : Runs p e below (T.setTop (mkF m pc Ls (.int b :: .int a :: St))) G := by
  subst hp
  exact X.step (fun _ hx hb' _ hown _ S t q => iremM S hx rfl (hb hb' hd) rfl hy q) k
theorem Here.idiv (X : Here p l e R s m args below meth c y bytes maxL ret Z h0 ws T cells slots h) {pc pc' : Nat} {Ls : Array Slot} {St : List Value} {a b : Int32} (hd : decode bytes pc = .ok (.idiv, 1)) (hy : b ≠ 0) (hp : pc + 1 = pc') (k : Runs p e below (T.setTop (mkF m pc' Ls (.int (a / b) :: St))) G) : Runs p e below (T.setTop (mkF m pc Ls (.int b :: .int a :: St))) G := by
  subst hp
  exact X.step (fun _ hx hb' _ hown _ S t q => XS.idiv S.here hx rfl (hb hb' hd) rfl hy q) k
theorem Here.iinc (X : Here p l e R s m args below meth c y bytes maxL ret Z h0 ws T cells slots h) {pc pc' : Nat} {Ls : Array Slot} {St : List Value} {i : Nat} {cst : Int} {v z : Int32} {l' : Array Slot} (hd : decode bytes pc = .ok (.iinc i cst, 3)) (hl : Ls[i]? = some (.val (.int v))) (hz : Int32.ofInt cst = z) (hl' : storeLocals Ls i (.int (v + z)) = some l') (hp : pc + 3 = pc') (k : Runs p e below (T.setTop (mkF m pc' l' (St))) G) : Runs p e below (T.setTop (mkF m pc Ls (St))) G := by
  subst hp
  exact X.step (fun _ hx hb' _ hown _ S t q => XS.iinc S.here hx rfl (hb hb' hd) hl (hz ▸ hl') q) k
theorem Here.dup (X : Here p l e R s m args below meth c y bytes maxL ret Z h0 ws T cells slots h) {pc pc' : Nat} {Ls : Array Slot} {St : List Value} {v : Value} (hd : decode bytes pc = .ok (.dup, 1)) (hv : v.category = 1) (hp : pc + 1 = pc') (k : Runs p e below (T.setTop (mkF m pc' Ls (v :: v :: St))) G) : Runs p e below (T.setTop (mkF m pc Ls (v :: St))) G := by
  subst hp
  exact X.step (fun _ hx hb' _ hown _ S t q => XS.dup S.here hx rfl (hb hb' hd) rfl hv q) k
theorem Here.dupX1 (X : Here p l e R s m args below meth c y bytes maxL ret Z h0 ws T cells slots h) {pc pc' : Nat} {Ls : Array Slot} {St : List Value} {v w : Value} (hd : decode bytes pc = .ok (.dup_x1, 1)) (hv : v.category = 1) (hw : w.category = 1) (hp : pc + 1 = pc') (k : Runs p e below (T.setTop (mkF m pc' Ls (v :: w :: v :: St))) G) : Runs p e below (T.setTop (mkF m pc Ls (v :: w :: St))) G := by
  subst hp
  exact X.step (fun _ hx hb' _ hown _ S t q => XS.dupX1 S.here hx rfl (hb hb' hd) rfl hv hw q) k
theorem Here.dup2 (X : Here p l e R s m args below meth c y bytes maxL ret Z h0 ws T cells slots h) {pc pc' : Nat} {Ls : Array Slot} {St : List Value} {v w : Value} (hd : decode bytes pc = .ok (.dup2, 1)) (hv : v.category = 1) (hw : w.category = 1) (hp : pc + 1 = pc') (k : Runs p e below (T.setTop (mkF m pc' Ls (v :: w :: v :: w :: St))) G) : Runs p e below (T.setTop (mkF m pc Ls (v :: w :: St))) G := by
  subst hp
  exact X.step (fun _ hx hb' _ hown _ S t q => Jvm.Free.XT.dup2 S.here hx rfl (hb hb' hd) rfl hv hw q) k
theorem Here.dup2L (X : Here p l e R s m args below meth c y bytes maxL ret Z h0 ws T cells slots h) {pc pc' : Nat} {Ls : Array Slot} {St : List Value} {v : Int64} (hd : decode bytes pc = .ok (.dup2, 1))  (hp : pc + 1 = pc') (k : Runs p e below (T.setTop (mkF m pc' Ls (.long v :: .long v :: St))) G) : Runs p e below (T.setTop (mkF m pc Ls (.long v :: St))) G := by
  subst hp
  exact X.step (fun _ hx hb' _ hown _ S t q => Jvm.Free.XT.dup2L S.here hx rfl (hb hb' hd) rfl q) k
theorem Here.pop (X : Here p l e R s m args below meth c y bytes maxL ret Z h0 ws T cells slots h) {pc pc' : Nat} {Ls : Array Slot} {St : List Value} {v : Value} (hd : decode bytes pc = .ok (.pop, 1)) (hv : v.category = 1) (hp : pc + 1 = pc') (k : Runs p e below (T.setTop (mkF m pc' Ls (St))) G) : Runs p e below (T.setTop (mkF m pc Ls (v :: St))) G := by
  subst hp
  exact X.step (fun _ hx hb' _ hown _ S t q => XS.pop S.here hx rfl (hb hb' hd) rfl hv q) k
theorem Here.ldcInt (X : Here p l e R s m args below meth c y bytes maxL ret Z h0 ws T cells slots h) {pc pc' : Nat} {Ls : Array Slot} {St : List Value} {i : Nat} {v : Int32} (w : (Jvm.Cond.constant y.cls i v).before a0 Z = true) (hd : decode bytes pc = .ok (.ldc i, 2)) (hp : pc + 2 = pc') (k : Runs p e below (T.setTop (mkF m pc' Ls (.int v :: St))) G) : Runs p e below (T.setTop (mkF m pc Ls St)) G := by
  subst hp
  exact X.step (fun _ hx hb' hZ hown _ S t q => S.ldcInt hx hown (mvT hZ w) (g := mkF m pc Ls St) rfl (hb hb' hd) t q) k
theorem Here.ldcwInt (X : Here p l e R s m args below meth c y bytes maxL ret Z h0 ws T cells slots h) {pc pc' : Nat} {Ls : Array Slot} {St : List Value} {i : Nat} {v : Int32} (w : (Jvm.Cond.constant y.cls i v).before a0 Z = true) (hd : decode bytes pc = .ok (.ldc_w i, 3)) (hp : pc + 3 = pc') (k : Runs p e below (T.setTop (mkF m pc' Ls (.int v :: St))) G) : Runs p e below (T.setTop (mkF m pc Ls St)) G := by
  subst hp
  exact X.step (fun _ hx hb' hZ hown _ S t q => S.ldcwInt hx hown (mvT hZ w) (g := mkF m pc Ls St) rfl (hb hb' hd) t q) k
theorem Here.ldc2 (X : Here p l e R s m args below meth c y bytes maxL ret Z h0 ws T cells slots h) {pc pc' : Nat} {Ls : Array Slot} {St : List Value} {i : Nat} {v : Int64} (w : (Jvm.Cond.constantLong y.cls i v).before a0 Z = true) (hd : decode bytes pc = .ok (.ldc2_w i, 3)) (hp : pc + 3 = pc') (k : Runs p e below (T.setTop (mkF m pc' Ls (.long v :: St))) G) : Runs p e below (T.setTop (mkF m pc Ls St)) G := by
  subst hp
  exact X.step (fun _ hx hb' hZ hown _ S t q => S.ldc2Long hx hown (mvT hZ w) (g := mkF m pc Ls St) rfl (hb hb' hd) t q) k
theorem Here.goto (X : Here p l e R s m args below meth c y bytes maxL ret Z h0 ws T cells slots h) {pc pc' : Nat} {Ls : Array Slot} {St : List Value} {o : Int}  (hd : decode bytes pc = .ok (.goto o, 3))  (ho : 0 ≤ (pc : Int) + o) (hp : ((pc : Int) + o).toNat = pc') (k : Runs p e below (T.setTop (mkF m pc' Ls St)) G) : Runs p e below (T.setTop (mkF m pc Ls (St))) G := by
  exact X.step (fun _ hx hb' _ hown _ S t q => XS.goto S.here hx rfl rfl (hb hb' hd) ho hp q) k
theorem Here.ifYes (X : Here p l e R s m args below meth c y bytes maxL ret Z h0 ws T cells slots h) {pc pc' : Nat} {Ls : Array Slot} {St : List Value} {o : Int} {cd : ClassFile.Cond} {a : Int32} (hd : decode bytes pc = .ok (.ifCond cd o, 3)) (hc : if_icmp.holds cd a 0 = true) (ho : 0 ≤ (pc : Int) + o) (hp : ((pc : Int) + o).toNat = pc') (k : Runs p e below (T.setTop (mkF m pc' Ls St)) G) : Runs p e below (T.setTop (mkF m pc Ls (.int a :: St))) G := by
  exact X.step (fun _ hx hb' _ hown _ S t q => XS.ifYes S.here hx rfl rfl (hb hb' hd) rfl ((if0 _ _).trans hc) ho hp q) k
theorem Here.icmpYes (X : Here p l e R s m args below meth c y bytes maxL ret Z h0 ws T cells slots h) {pc pc' : Nat} {Ls : Array Slot} {St : List Value} {o : Int} {cd : ClassFile.Cond} {a b : Int32} (hd : decode bytes pc = .ok (.if_icmp cd o, 3)) (hc : if_icmp.holds cd a b = true) (ho : 0 ≤ (pc : Int) + o) (hp : ((pc : Int) + o).toNat = pc') (k : Runs p e below (T.setTop (mkF m pc' Ls St)) G) : Runs p e below (T.setTop (mkF m pc Ls (.int b :: .int a :: St))) G := by
  exact X.step (fun _ hx hb' _ hown _ S t q => XS.icmpYes S.here hx rfl rfl (hb hb' hd) rfl hc ho hp q) k
theorem Here.ifnullYes (X : Here p l e R s m args below meth c y bytes maxL ret Z h0 ws T cells slots h) {pc pc' : Nat} {Ls : Array Slot} {St : List Value} {o : Int}  (hd : decode bytes pc = .ok (.ifnull o, 3))  (ho : 0 ≤ (pc : Int) + o) (hp : ((pc : Int) + o).toNat = pc') (k : Runs p e below (T.setTop (mkF m pc' Ls St)) G) : Runs p e below (T.setTop (mkF m pc Ls (.null :: St))) G := by
  exact X.step (fun _ hx hb' _ hown _ S t q => XS.ifnullYes S.here hx rfl rfl (hb hb' hd) rfl ho hp q) k
theorem Here.ifnonnullYes (X : Here p l e R s m args below meth c y bytes maxL ret Z h0 ws T cells slots h) {pc pc' : Nat} {Ls : Array Slot} {St : List Value} {o : Int} {b : Addr} (hd : decode bytes pc = .ok (.ifnonnull o, 3))  (ho : 0 ≤ (pc : Int) + o) (hp : ((pc : Int) + o).toNat = pc') (k : Runs p e below (T.setTop (mkF m pc' Ls St)) G) : Runs p e below (T.setTop (mkF m pc Ls (.ref b :: St))) G := by
  exact X.step (fun _ hx hb' _ hown _ S t q => XS.ifnonnullYes S.here hx rfl rfl (hb hb' hd) rfl ho hp q) k
theorem Here.ifNo (X : Here p l e R s m args below meth c y bytes maxL ret Z h0 ws T cells slots h) {pc pc' : Nat} {Ls : Array Slot} {St : List Value} {o : Int} {cd : ClassFile.Cond} {a : Int32} (hd : decode bytes pc = .ok (.ifCond cd o, 3)) (hc : if_icmp.holds cd a 0 = false) (hp : pc + 3 = pc') (k : Runs p e below (T.setTop (mkF m pc' Ls (St))) G) : Runs p e below (T.setTop (mkF m pc Ls (.int a :: St))) G := by
  subst hp
  exact X.step (fun _ hx hb' _ hown _ S t q => XS.ifNo S.here hx rfl (hb hb' hd) rfl ((if0 _ _).trans hc) q) k
theorem Here.icmpNo (X : Here p l e R s m args below meth c y bytes maxL ret Z h0 ws T cells slots h) {pc pc' : Nat} {Ls : Array Slot} {St : List Value} {o : Int} {cd : ClassFile.Cond} {a b : Int32} (hd : decode bytes pc = .ok (.if_icmp cd o, 3)) (hc : if_icmp.holds cd a b = false) (hp : pc + 3 = pc') (k : Runs p e below (T.setTop (mkF m pc' Ls (St))) G) : Runs p e below (T.setTop (mkF m pc Ls (.int b :: .int a :: St))) G := by
  subst hp
  exact X.step (fun _ hx hb' _ hown _ S t q => XS.icmpNo S.here hx rfl (hb hb' hd) rfl hc q) k
theorem Here.ifnullNo (X : Here p l e R s m args below meth c y bytes maxL ret Z h0 ws T cells slots h) {pc pc' : Nat} {Ls : Array Slot} {St : List Value} {o : Int} {b : Addr} (hd : decode bytes pc = .ok (.ifnull o, 3))  (hp : pc + 3 = pc') (k : Runs p e below (T.setTop (mkF m pc' Ls (St))) G) : Runs p e below (T.setTop (mkF m pc Ls (.ref b :: St))) G := by
  subst hp
  exact X.step (fun _ hx hb' _ hown _ S t q => XS.ifnullNo S.here hx rfl (hb hb' hd) rfl q) k
theorem Here.ifnonnullNo (X : Here p l e R s m args below meth c y bytes maxL ret Z h0 ws T cells slots h) {pc pc' : Nat} {Ls : Array Slot} {St : List Value} {o : Int} (hd : decode bytes pc = .ok (.ifnonnull o, 3))  (hp : pc + 3 = pc') (k : Runs p e below (T.setTop (mkF m pc' Ls (St))) G) : Runs p e below (T.setTop (mkF m pc Ls (.null :: St))) G := by
  subst hp
  exact X.step (fun _ hx hb' _ hown _ S t q => XS.ifnonnullNo S.here hx rfl (hb hb' hd) rfl q) k
theorem Here.acmp (X : Here p l e R s m args below meth c y bytes maxL ret Z h0 ws T cells slots h) {pc pc' : Nat} {Ls : Array Slot} {St : List Value} {o : Int} {cd : ACond} {u v : Value} {same : Bool} (hd : decode bytes pc = .ok (.if_acmp cd o, 3)) (hu : u.isRef = true) (hv : v.isRef = true) (hq : decide (u = v) = same) (ho : 0 ≤ (pc : Int) + o) (hp : pc' = if acV cd same = true then ((pc : Int) + o).toNat else pc + 3) (k : Runs p e below (T.setTop (mkF m pc' Ls St)) G) : Runs p e below (T.setTop (mkF m pc Ls (v :: u :: St))) G := by
  exact X.step (fun _ hx hb' _ hown _ S t q => Jvm.RoadKit.acmp (g := mkF m pc Ls (v :: u :: St)) S hx rfl hu hv rfl (hb hb' hd) rfl hq ho hp q) k
theorem Here.getfield (X : Here p l e R s m args below meth c y bytes maxL ret Z h0 ws T cells slots h) {pc pc' : Nat} {Ls : Array Slot} {St : List Value} {R0 O n d host : String} {i : Nat} {a : Addr} {v : Value} (w : (Jvm.Cond.fieldLink y.cls i R0 n d).before a0 Z = true ∨ (Jvm.Cond.fieldLinkNest y.cls i R0 n d host).before a0 Z = true) (via : Via Z R0 O n d) (F : Fld Z h a O n d v) (hd : decode bytes pc = .ok (.getfield i, 3)) (hp : pc + 3 = pc')
    (k : ∀ T', Here p l e R s m args below meth c y bytes maxL ret Z h0 ws T' cells slots h → Runs p e below (T'.setTop (mkF m pc' Ls (v :: St))) G) : Runs p e below (T.setTop (mkF m pc Ls (.ref a :: St))) G := by
  subst hp
  exact X.stepT (fun _ hx hb' _ hZ hown eT S => getF S hx hZ hown w via eT F (g := mkF m pc Ls (.ref a :: St)) rfl rfl (hb hb' hd)) k
theorem Here.getstatic (X : Here p l e R s m args below meth c y bytes maxL ret Z h0 ws T cells slots h) {pc pc' : Nat} {Ls : Array Slot} {St : List Value} {R0 O n d host : String} {i : Nat} {v : Value} (w : (Jvm.Cond.fieldLink y.cls i R0 n d).before a0 Z = true ∨ (Jvm.Cond.fieldLinkNest y.cls i R0 n d host).before a0 Z = true) (via : Via Z R0 O n d) (F : Sta Z h O n d v) (hd : decode bytes pc = .ok (.getstatic i, 3)) (hp : pc + 3 = pc')
    (k : ∀ T', Here p l e R s m args below meth c y bytes maxL ret Z h0 ws T' cells slots h → Runs p e below (T'.setTop (mkF m pc' Ls (v :: St))) G) : Runs p e below (T.setTop (mkF m pc Ls St)) G := by
  subst hp
  exact X.stepT (fun _ hx hb' _ hZ hown eT S => getS2 S hx hZ hown w via eT F (g := mkF m pc Ls St) rfl (hb hb' hd)) k
theorem Here.putfield (X : Here p l e R s m args below meth c y bytes maxL ret Z h0 ws T cells slots h) {pc pc' : Nat} {Ls : Array Slot} {St : List Value} {R0 O n d host C : String} {i kk : Nat} {ty : FieldType} {a : Addr} {v old : Value} (w : (Jvm.Cond.fieldLink y.cls i R0 n d).before a0 Z = true ∨ (Jvm.Cond.fieldLinkNest y.cls i R0 n d host).before a0 Z = true) (via : Via Z R0 O n d) (F : Fld Z h a O n d old) (E : Exa Z h a C)
    (L : (Jvm.Cond.lays C O n d).before a0 Z = true ∨ ((Jvm.Cond.laysFinal C O n d).before a0 Z = true ∧ y.cls = O ∧ y.name = "<init>")) (wi : (Jvm.Cond.instantiable C kk).before a0 Z = true) (hty : parseFieldDescriptor d = some ty) (hn : narrow ty v = v) (hf : fits ty v = true) (hd : decode bytes pc = .ok (.putfield i, 3)) (hp : pc + 3 = pc') (hws : a ∈ ws ∨ h0.size ≤ a)
    (k : ∀ T' h', Here p l e R s m args below meth c y bytes maxL ret Z h0 ws T' cells slots h' → Wr h h' a (Jvm.RoadKit.slotOf Z O n d) v → Runs p e below (T'.setTop (mkF m pc' Ls St)) G) : Runs p e below (T.setTop (mkF m pc Ls (v :: .ref a :: St))) G := by
  subst hp
  exact X.stepW hws (fun _ hx hb' hnm hZ hown eT S => putF S hx hZ hown w via eT F E (L.imp id fun q => ⟨q.1, q.2.1, hnm.trans q.2.2⟩) wi hty hn hf (g := mkF m pc Ls (v :: .ref a :: St)) rfl rfl (hb hb' hd)) k
theorem Here.putfieldN (X : Here p l e R s m args below meth c y bytes maxL ret Z h0 ws T cells slots h) {pc pc' : Nat} {Ls : Array Slot} {St : List Value} {R0 O n d C : String} {i kk : Nat} {ty : FieldType} {a : Addr} {v v' old : Value} (w : (Jvm.Cond.fieldLink y.cls i R0 n d).before a0 Z = true) (via : Via Z R0 O n d) (F : Fld Z h a O n d old) (E : Exa Z h a C)
    (L : (Jvm.Cond.lays C O n d).before a0 Z = true ∨ ((Jvm.Cond.laysFinal C O n d).before a0 Z = true ∧ y.cls = O ∧ y.name = "<init>")) (wi : (Jvm.Cond.instantiable C kk).before a0 Z = true) (hty : parseFieldDescriptor d = some ty) (hn : narrow ty v = v') (hf : fits ty v' = true) (hd : decode bytes pc = .ok (.putfield i, 3)) (hp : pc + 3 = pc') (hws : a ∈ ws ∨ h0.size ≤ a)
    (k : ∀ T' h', Here p l e R s m args below meth c y bytes maxL ret Z h0 ws T' cells slots h' → Wr h h' a (Jvm.RoadKit.slotOf Z O n d) v' → Runs p e below (T'.setTop (mkF m pc' Ls St)) G) : Runs p e below (T.setTop (mkF m pc Ls (v :: .ref a :: St))) G := by
  subst hp
  exact X.stepW hws (fun _ hx hb' hnm hZ hown eT S => putFN S hx hZ hown w via eT F E (L.imp id fun q => ⟨q.1, q.2.1, hnm.trans q.2.2⟩) wi hty hn hf (g := mkF m pc Ls (v :: .ref a :: St)) rfl rfl (hb hb' hd)) k
theorem Here.new (X : Here p l e R s m args below meth c y bytes maxL ret Z h0 ws T cells slots h) {pc pc' : Nat} {Ls : Array Slot} {St : List Value} {C : String} {i n : Nat} (w : (Jvm.Cond.classLink y.cls i C).before a0 Z = true) (wi : (Jvm.Cond.instantiable C n).before a0 Z = true) (wz : (Jvm.Cond.initialized C).before a0 Z = true) (hd : decode bytes pc = .ok (.new i, 3)) (hp : pc + 3 = pc') (hc : cells + 1 ≤ R.cells) (hl : slots + n ≤ R.slots)
    (k : ∀ T' h' b, Here p l e R s m args below meth c y bytes maxL ret Z h0 ws T' (cells + 1) (slots + n) h' → b = h.size → Ext h h' → Exa Z h' b C → (∀ {O nm d : String} {ty : FieldType}, Laid Z a0 C O nm d → parseFieldDescriptor d = some ty → Fld Z h' b O nm d (defaultValue ty)) → Runs p e below (T'.setTop (mkF m pc' Ls (.ref b :: St))) G) : Runs p e below (T.setTop (mkF m pc Ls St)) G := by
  subst hp
  obtain ⟨⟨x1, x2, x3, x4, x5, x6, x7, x8⟩, x9, x10, locs, S, N⟩ := X
  obtain ⟨T', h', S', e', E, A, D, -, st⟩ := newO S x1 x2 x5 w wi wz x9 (g := mkF m pc Ls St) rfl (hb x3 hd) hc hl
  exact (k T' h' _ ⟨⟨x1, x2, x3, x4, x5, x6, x7, x8⟩, e', x10.ext E, _, S', N⟩ rfl E A D).of st
theorem Here.initObj (X : Here p l e R s m args below meth c y bytes maxL ret Z h0 ws T cells slots h) {pc pc' : Nat} {Ls : Array Slot} {St : List Value} {i : Nat} {a : Addr} (w1 : (Jvm.Cond.methodLink y.cls i Lib.objectInit).before a0 Z = true) (w2 : (Jvm.Cond.instanceMethod Lib.objectInit).before a0 Z = true) (w3 : (Jvm.Cond.code Lib.objectInit ⟨#[0xb1]⟩ 1 none).before a0 Z = true) (hsz : Ls.size = maxL) (hd : decode bytes pc = .ok (.invokespecial i, 3)) (hp : pc + 3 = pc') (hf : 1 ≤ R.frames) {W : Nat} (hW : (St.map fun v => v.category).sum = W) (hl : W + 12 ≤ R.locals)
    (k : ∀ T', Here p l e R s m args below meth c y bytes maxL ret Z h0 ws T' cells slots h → Runs p e below (T'.setTop (mkF m pc' Ls St)) G) : Runs p e below (T.setTop (mkF m pc Ls (.ref a :: St))) G := by
  subst hp
  exact X.stepT (fun _ hx hb' hml hZ hown eT S => initO S hx hZ hown w1 w2 w3 eT (g := mkF m pc Ls (.ref a :: St)) rfl (hsz.trans hml.symm) rfl (hb hb' hd) hf (W := W) (by show 2 * 0 + _ ≤ _; rw [hW]; omega) hl) k
theorem Here.castYes (X : Here p l e R s m args below meth c y bytes maxL ret Z h0 ws T cells slots h) {pc pc' : Nat} {Ls : Array Slot} {St : List Value} {K : String} {i : Nat} {a : Addr} (w : (Jvm.Cond.classLink y.cls i K).before a0 Z = true) (F : Jvm.RoadKit.Ins Z h a K true) (hd : decode bytes pc = .ok (.checkcast i, 3)) (hp : pc + 3 = pc')
    (k : ∀ T', Here p l e R s m args below meth c y bytes maxL ret Z h0 ws T' cells slots h → Runs p e below (T'.setTop (mkF m pc' Ls (.ref a :: St))) G) : Runs p e below (T.setTop (mkF m pc Ls (.ref a :: St))) G := by
  subst hp
  exact X.stepT (fun _ hx hb' _ hZ hown eT S => castY S hx hZ hown w eT F (g := mkF m pc Ls (.ref a :: St)) rfl rfl (hb hb' hd)) k
theorem Here.instYes (X : Here p l e R s m args below meth c y bytes maxL ret Z h0 ws T cells slots h) {pc pc' : Nat} {Ls : Array Slot} {St : List Value} {K : String} {i : Nat} {a : Addr} (w : (Jvm.Cond.classLink y.cls i K).before a0 Z = true) (F : Jvm.RoadKit.Ins Z h a K true) (hd : decode bytes pc = .ok (.instanceof i, 3)) (hp : pc + 3 = pc')
    (k : ∀ T', Here p l e R s m args below meth c y bytes maxL ret Z h0 ws T' cells slots h → Runs p e below (T'.setTop (mkF m pc' Ls (.int (1 : Int32) :: St))) G) : Runs p e below (T.setTop (mkF m pc Ls (.ref a :: St))) G := by
  subst hp
  exact X.stepT (fun _ hx hb' _ hZ hown eT S => instY S hx hZ hown w eT F (g := mkF m pc Ls (.ref a :: St)) rfl rfl (hb hb' hd)) k
theorem Here.instNo (X : Here p l e R s m args below meth c y bytes maxL ret Z h0 ws T cells slots h) {pc pc' : Nat} {Ls : Array Slot} {St : List Value} {C K : String} {i : Nat} {a : Addr} (w : (Jvm.Cond.classLink y.cls i K).before a0 Z = true) (E : Exa Z h a C) (F : ∃ c t, Z.vm.findClass C = some c ∧ Z.vm.findClass K = some t ∧ Z.vm.assignable c t = false) (hd : decode bytes pc = .ok (.instanceof i, 3)) (hp : pc + 3 = pc')
    (k : ∀ T', Here p l e R s m args below meth c y bytes maxL ret Z h0 ws T' cells slots h → Runs p e below (T'.setTop (mkF m pc' Ls (.int (0 : Int32) :: St))) G) : Runs p e below (T.setTop (mkF m pc Ls (.ref a :: St))) G := by
  subst hp
  exact X.stepT (fun _ hx hb' _ hZ hown eT S => Jvm.RoadKit.instNo S hx hZ hown w eT E F (g := mkF m pc Ls (.ref a :: St)) rfl rfl (hb hb' hd)) k
theorem Here.checkcastNull (X : Here p l e R s m args below meth c y bytes maxL ret Z h0 ws T cells slots h) {pc pc' : Nat} {Ls : Array Slot} {St : List Value} {i : Nat} (hd : decode bytes pc = .ok (.checkcast i, 3)) (hp : pc + 3 = pc') (k : Runs p e below (T.setTop (mkF m pc' Ls (.null :: St))) G) : Runs p e below (T.setTop (mkF m pc Ls (.null :: St))) G := by
  subst hp
  exact X.step (fun _ hx hb' _ _ _ S t q => S.checkcastNull hx (g := mkF m pc Ls (.null :: St)) rfl rfl (hb hb' hd) t q) k
theorem Here.instanceofNull (X : Here p l e R s m args below meth c y bytes maxL ret Z h0 ws T cells slots h) {pc pc' : Nat} {Ls : Array Slot} {St : List Value} {i : Nat} (hd : decode bytes pc = .ok (.instanceof i, 3)) (hp : pc + 3 = pc') (k : Runs p e below (T.setTop (mkF m pc' Ls (.int (0 : Int32) :: St))) G) : Runs p e below (T.setTop (mkF m pc Ls (.null :: St))) G := by
  subst hp
  exact X.step (fun _ hx hb' _ _ _ S t q => S.instanceofNull hx (g := mkF m pc Ls (.null :: St)) rfl rfl (hb hb' hd) t q) k
theorem Here.aaload (X : Here p l e R s m args below meth c y bytes maxL ret Z h0 ws T cells slots h) {pc pc' : Nat} {Ls : Array Slot} {St : List Value} {a : Addr} {cl : Cell} {ty : FieldType} {j : Int32} {v : Value} (A : Arr Z h a cl ty) (hty : ty.isReference = true) (hj : ¬ (j < 0 ∨ cl.slots.size ≤ j.toNatClampNeg)) (hv : cl.slots[j.toNatClampNeg]? = some v) (hd : decode bytes pc = .ok (.aaload, 1)) (hp : pc + 1 = pc')
    (k : Runs p e below (T.setTop (mkF m pc' Ls (v :: St))) G) : Runs p e below (T.setTop (mkF m pc Ls (.int j :: .ref a :: St))) G := by
  subst hp
  exact X.step (fun _ hx hb' hZ _ eT S t q => S.aaload hx (j := j) (v := v) (by rw [eT]; exact A.1) (State.isArrayOf_alike hZ.alike A.2.1) hty A.2.2 hj hv (g := mkF m pc Ls (.int j :: .ref a :: St)) rfl rfl (hb hb' hd) t q) k
theorem sta_keep0 {C n d : String} {v : Value} {h' : Heap} (F : Sta Z h C n d v) (K : Keep h h' []) : Sta Z h' C n d v := by
  obtain ⟨cf, i, k, f, st, cell, h1, h2, h3, h4, h5, r⟩ := F
  exact ⟨cf, i, k, f, st, cell, h1, h2, h3, h4, K.2.1 _ _ h5 nin0, r⟩
theorem arr_keep0 {a : Addr} {cl : Cell} {ty : FieldType} {h' : Heap} (F : Arr Z h a cl ty) (K : Keep h h' []) : Arr Z h' a cl ty := ⟨K.2.1 _ _ F.1 nin0, F.2⟩
theorem allWs0 {P : Addr → Prop} : ∀ x ∈ ([] : List Addr), P x := fun _ q => nomatch q
/-! arrays: the list of their values -/
/-- the array at a holds just these values -/
def Lst (Z : State) (h : Heap) (a : Addr) (ty : FieldType) (vs : List Value) : Prop := ∃ cl : Cell, Arr Z h a cl ty ∧ cl.slots = vs.toArray ∧ vs.length < 2 ^ 31
section L
variable {a b : Addr} {ty : FieldType} {vs : List Value} {h' : Heap} {sl : Nat} {v : Value} {ws' : List Addr} {C' : String}
theorem Lst.lt (F : Lst Z h a ty vs) : a < h.size := by obtain ⟨c, A, -⟩ := F; exact A.lt
theorem Lst.len (F : Lst Z h a ty vs) : vs.length < 2 ^ 31 := by obtain ⟨c, A, -, q⟩ := F; exact q
theorem Lst.ext (F : Lst Z h a ty vs) (E : Ext h h') : Lst Z h' a ty vs := by obtain ⟨c, A, r⟩ := F; exact ⟨c, A.ext E, r⟩
theorem Lst.other (F : Lst Z h b ty vs) (W : Wr h h' a sl v) (q : b ≠ a) : Lst Z h' b ty vs := by obtain ⟨c, A, r⟩ := F; exact ⟨c, A.other W q, r⟩
theorem Lst.keep (F : Lst Z h a ty vs) (K : Keep h h' ws') (q : a ∉ ws') : Lst Z h' a ty vs := by obtain ⟨c, A, r⟩ := F; exact ⟨c, ⟨K.2.1 a c A.1 q, A.2⟩, r⟩
theorem Lst.set (F : Lst Z h a ty vs) (W : Wr h h' a sl v) : Lst Z h' a ty (vs.set sl v) := by
  obtain ⟨c, A, r, q⟩ := F
  exact ⟨_, A.same W, by simp [Cell.setSlot, r], by simpa using q⟩
theorem Lst.ne (F : Lst Z h a ty vs) (wi : (Jvm.Cond.instantiable C' sl).before a0 Z = true) (G : Exa Z h b C') : b ≠ a := by obtain ⟨c, A, -⟩ := F; exact ne_arr G wi A
end L
/-- the place j lies inside a list -/
def Inb (j : Int32) (n : Nat) : Prop := 0 ≤ j.toInt ∧ j.toInt < (n : Int)
theorem nat_of_ins {j : Int32} {n : Nat} (q : Inb j n) : j.toNatClampNeg = j.toInt.toNat ∧ j.toInt.toNat < n ∧ ¬ j < 0 := by
  obtain ⟨q1, q2⟩ := q
  refine ⟨rfl, by omega, fun z => ?_⟩
  have : j.toInt < (0 : Int32).toInt := Int32.lt_iff_toInt_lt.mp z
  simp at this; omega
theorem in_of_ins {cl : Cell} {vs : List Value} {j : Int32} (r : cl.slots = vs.toArray) (q : Inb j vs.length) : ¬ (j < 0 ∨ cl.slots.size ≤ j.toNatClampNeg) := by
  obtain ⟨q1, q2, q3⟩ := nat_of_ins q
  rw [q1, r]; simp only [List.size_toArray]; intro z; rcases z with z | z
  · exact q3 z
  · omega
theorem at_of_ins {cl : Cell} {vs : List Value} {j : Int32} {v : Value} (r : cl.slots = vs.toArray) (hv : vs[j.toInt.toNat]? = some v) : cl.slots[j.toNatClampNeg]? = some v := by
  rw [r]; exact (by simpa using hv : vs.toArray[j.toInt.toNat]? = some v)
theorem Here.newarray (X : Here p l e R s m args below meth c y bytes maxL ret Z h0 ws T cells slots h) {pc pc' : Nat} {Ls : Array Slot} {St : List Value} {aty : ArrayType} {ty : FieldType} {n : Int32} (hty : newarray.typeOf aty = ty) (w : (Jvm.Cond.arrayClass ty).before a0 Z = true) (hd : decode bytes pc = .ok (.newarray aty, 2)) (hp : pc + 2 = pc') {cap : Nat} (hn : Inb n (cap + 1)) (hb8 : cap * 8 ≤ 536870912) (hc : cells + 1 ≤ R.cells) (hl : slots + cap ≤ R.slots)
    (k : ∀ T' h' b, Here p l e R s m args below meth c y bytes maxL ret Z h0 ws T' (cells + 1) (slots + cap) h' → b = h.size → Ext h h' → Lst Z h' b ty (List.replicate n.toInt.toNat (defaultValue ty)) → Runs p e below (T'.setTop (mkF m pc' Ls (.ref b :: St))) G) : Runs p e below (T.setTop (mkF m pc Ls (.int n :: St))) G := by
  subst hp; subst hty
  obtain ⟨n1, n2, n3⟩ := nat_of_ins hn
  obtain ⟨⟨x1, x2, x3, x4, x5, x6, x7, x8⟩, x9, x10, locs, S, N⟩ := X
  obtain ⟨T', h', cA, S', e', E, A, st⟩ := newP S x1 x2 w x9 (g := mkF m pc Ls (.int n :: St)) rfl (hb x3 hd) rfl n3 (cap := cap) (by rw [n1]; omega) hb8 hc hl
  exact (k T' h' _ ⟨⟨x1, x2, x3, x4, x5, x6, x7, x8⟩, e', x10.ext E, _, S', N⟩ rfl E ⟨_, A, by show Array.replicate n.toNatClampNeg _ = _; rw [n1, List.toArray_replicate], by rw [List.length_replicate]; omega⟩).of st
theorem Here.arraylength (X : Here p l e R s m args below meth c y bytes maxL ret Z h0 ws T cells slots h) {pc pc' : Nat} {Ls : Array Slot} {St : List Value} {a : Addr} {ty : FieldType} {vs : List Value} {n : Int32} (F : Lst Z h a ty vs) (hn : vs.length.toInt32 = n) (hd : decode bytes pc = .ok (.arraylength, 1)) (hp : pc + 1 = pc')
    (k : Runs p e below (T.setTop (mkF m pc' Ls (.int n :: St))) G) : Runs p e below (T.setTop (mkF m pc Ls (.ref a :: St))) G := by
  subst hp
  obtain ⟨cl, A, r, -⟩ := F
  exact X.step (fun _ hx hb' hZ _ eT S t q => S.arraylength hx (by rw [eT]; exact A.1) (State.isArrayOf_alike hZ.alike A.2.1) (g := mkF m pc Ls (.ref a :: St)) rfl rfl (hb hb' hd) t (by rw [r, List.size_toArray, hn]; exact q)) k
theorem Here.iaload (X : Here p l e R s m args below meth c y bytes maxL ret Z h0 ws T cells slots h) {pc pc' : Nat} {Ls : Array Slot} {St : List Value} {a : Addr} {vs : List Value} {j : Int32} {v : Value} (F : Lst Z h a .int vs) (hj : Inb j vs.length) (hv : vs[j.toInt.toNat]? = some v) (hd : decode bytes pc = .ok (.iaload, 1)) (hp : pc + 1 = pc')
    (k : Runs p e below (T.setTop (mkF m pc' Ls (v :: St))) G) : Runs p e below (T.setTop (mkF m pc Ls (.int j :: .ref a :: St))) G := by
  subst hp
  obtain ⟨cl, A, r, -⟩ := F
  exact X.step (fun _ hx hb' hZ _ eT S t q => S.iaload hx (j := j) (v := v) (by rw [eT]; exact A.1) (State.isArrayOf_alike hZ.alike A.2.1) A.2.2 (in_of_ins r hj) (at_of_ins r hv) (g := mkF m pc Ls (.int j :: .ref a :: St)) rfl rfl (hb hb' hd) t q) k
theorem Here.laload (X : Here p l e R s m args below meth c y bytes maxL ret Z h0 ws T cells slots h) {pc pc' : Nat} {Ls : Array Slot} {St : List Value} {a : Addr} {vs : List Value} {j : Int32} {v : Value} (F : Lst Z h a .long vs) (hj : Inb j vs.length) (hv : vs[j.toInt.toNat]? = some v) (hd : decode bytes pc = .ok (.laload, 1)) (hp : pc + 1 = pc')
    (k : Runs p e below (T.setTop (mkF m pc' Ls (v :: St))) G) : Runs p e below (T.setTop (mkF m pc Ls (.int j :: .ref a :: St))) G := by
  subst hp
  obtain ⟨cl, A, r, -⟩ := F
  exact X.step (fun _ hx hb' hZ _ eT S t q => S.laload hx (j := j) (v := v) (by rw [eT]; exact A.1) (State.isArrayOf_alike hZ.alike A.2.1) A.2.2 (in_of_ins r hj) (at_of_ins r hv) (g := mkF m pc Ls (.int j :: .ref a :: St)) rfl rfl (hb hb' hd) t q) k
theorem Here.caload (X : Here p l e R s m args below meth c y bytes maxL ret Z h0 ws T cells slots h) {pc pc' : Nat} {Ls : Array Slot} {St : List Value} {a : Addr} {vs : List Value} {j : Int32} {v : Value} (F : Lst Z h a .char vs) (hj : Inb j vs.length) (hv : vs[j.toInt.toNat]? = some v) (hd : decode bytes pc = .ok (.caload, 1)) (hp : pc + 1 = pc')
    (k : Runs p e below (T.setTop (mkF m pc' Ls (v :: St))) G) : Runs p e below (T.setTop (mkF m pc Ls (.int j :: .ref a :: St))) G := by
  subst hp
  obtain ⟨cl, A, r, -⟩ := F
  exact X.step (fun _ hx hb' hZ _ eT S t q => S.caload hx (j := j) (v := v) (by rw [eT]; exact A.1) (State.isArrayOf_alike hZ.alike A.2.1) A.2.2 (in_of_ins r hj) (at_of_ins r hv) (g := mkF m pc Ls (.int j :: .ref a :: St)) rfl rfl (hb hb' hd) t q) k
theorem Here.baload (X : Here p l e R s m args below meth c y bytes maxL ret Z h0 ws T cells slots h) {pc pc' : Nat} {Ls : Array Slot} {St : List Value} {a : Addr} {vs : List Value} {j : Int32} {v : Value} (F : Lst Z h a .byte vs) (hj : Inb j vs.length) (hv : vs[j.toInt.toNat]? = some v) (hd : decode bytes pc = .ok (.baload, 1)) (hp : pc + 1 = pc')
    (k : Runs p e below (T.setTop (mkF m pc' Ls (v :: St))) G) : Runs p e below (T.setTop (mkF m pc Ls (.int j :: .ref a :: St))) G := by
  subst hp
  obtain ⟨cl, A, r, -⟩ := F
  exact X.step (fun _ hx hb' hZ _ eT S t q => S.baloadBytes hx (j := j) (v := v) (by rw [eT]; exact A.1) (State.isArrayOf_alike hZ.alike A.2.1) A.2.2 (in_of_ins r hj) (at_of_ins r hv) (g := mkF m pc Ls (.int j :: .ref a :: St)) rfl rfl (hb hb' hd) t q) k
theorem Here.iastore (X : Here p l e R s m args below meth c y bytes maxL ret Z h0 ws T cells slots h) {pc pc' : Nat} {Ls : Array Slot} {St : List Value} {a : Addr} {vs : List Value} {j : Int32} {x : Int32} (F : Lst Z h a .int vs) (hj : Inb j vs.length) (hd : decode bytes pc = .ok (.iastore, 1)) (hp : pc + 1 = pc') (hws : a ∈ ws ∨ h0.size ≤ a)
    (k : ∀ T' h', Here p l e R s m args below meth c y bytes maxL ret Z h0 ws T' cells slots h' → Wr h h' a j.toInt.toNat (.int x) → Runs p e below (T'.setTop (mkF m pc' Ls St)) G) : Runs p e below (T.setTop (mkF m pc Ls (.int x :: .int j :: .ref a :: St))) G := by
  subst hp
  obtain ⟨cl, A, r, -⟩ := F
  exact X.stepW hws (fun _ hx hb' _ hZ _ eT S => stI S hx hZ eT A (j := j) (in_of_ins r hj) (g := mkF m pc Ls (.int x :: .int j :: .ref a :: St)) rfl rfl (hb hb' hd)) k
theorem Here.lastore (X : Here p l e R s m args below meth c y bytes maxL ret Z h0 ws T cells slots h) {pc pc' : Nat} {Ls : Array Slot} {St : List Value} {a : Addr} {vs : List Value} {j : Int32} {x : Int64} (F : Lst Z h a .long vs) (hj : Inb j vs.length) (hd : decode bytes pc = .ok (.lastore, 1)) (hp : pc + 1 = pc') (hws : a ∈ ws ∨ h0.size ≤ a)
    (k : ∀ T' h', Here p l e R s m args below meth c y bytes maxL ret Z h0 ws T' cells slots h' → Wr h h' a j.toInt.toNat (.long x) → Runs p e below (T'.setTop (mkF m pc' Ls St)) G) : Runs p e below (T.setTop (mkF m pc Ls (.long x :: .int j :: .ref a :: St))) G := by
  subst hp
  obtain ⟨cl, A, r, -⟩ := F
  exact X.stepW hws (fun _ hx hb' _ hZ _ eT S => stJ S hx hZ eT A (j := j) (in_of_ins r hj) (g := mkF m pc Ls (.long x :: .int j :: .ref a :: St)) rfl rfl (hb hb' hd)) k
theorem Here.castore (X : Here p l e R s m args below meth c y bytes maxL ret Z h0 ws T cells slots h) {pc pc' : Nat} {Ls : Array Slot} {St : List Value} {a : Addr} {vs : List Value} {j : Int32} {x : Int32} (F : Lst Z h a .char vs) (hj : Inb j vs.length) (hd : decode bytes pc = .ok (.castore, 1)) (hp : pc + 1 = pc') (hws : a ∈ ws ∨ h0.size ≤ a)
    (k : ∀ T' h', Here p l e R s m args below meth c y bytes maxL ret Z h0 ws T' cells slots h' → Wr h h' a j.toInt.toNat (.int (nar .char x)) → Runs p e below (T'.setTop (mkF m pc' Ls St)) G) : Runs p e below (T.setTop (mkF m pc Ls (.int x :: .int j :: .ref a :: St))) G := by
  subst hp
  obtain ⟨cl, A, r, -⟩ := F
  exact X.stepW hws (fun _ hx hb' _ hZ _ eT S => stC S hx hZ eT A (j := j) (in_of_ins r hj) (g := mkF m pc Ls (.int x :: .int j :: .ref a :: St)) rfl rfl (hb hb' hd)) k
theorem Here.bastore (X : Here p l e R s m args below meth c y bytes maxL ret Z h0 ws T cells slots h) {pc pc' : Nat} {Ls : Array Slot} {St : List Value} {a : Addr} {vs : List Value} {j : Int32} {x : Int32} (F : Lst Z h a .byte vs) (hj : Inb j vs.length) (hd : decode bytes pc = .ok (.bastore, 1)) (hp : pc + 1 = pc') (hws : a ∈ ws ∨ h0.size ≤ a)
    (k : ∀ T' h', Here p l e R s m args below meth c y bytes maxL ret Z h0 ws T' cells slots h' → Wr h h' a j.toInt.toNat (.int x.toInt8.toInt32) → Runs p e below (T'.setTop (mkF m pc' Ls St)) G) : Runs p e below (T.setTop (mkF m pc Ls (.int x :: .int j :: .ref a :: St))) G := by
  subst hp
  obtain ⟨cl, A, r, -⟩ := F
  exact X.stepW hws (fun _ hx hb' _ hZ _ eT S => stB S hx hZ eT A (j := j) (in_of_ins r hj) (g := mkF m pc Ls (.int x :: .int j :: .ref a :: St)) rfl rfl (hb hb' hd)) k
/-! calls by a contract -/
variable {y' : MethodName} {bytes' : ByteArray} {maxL' : Nat} {ret' : Option FieldType} {rm : Room} {as : Array Value} {ws' : List Addr} {Q : Option Value → Heap → Prop}
theorem backCt (X : Here p l e R s m args below meth c y bytes maxL ret Z h0 ws T cells slots h) {len W : Nat} (hM : Ct l Z y' bytes' maxL' ret' rm as h ws' Q) (wc : (Jvm.Cond.code y' bytes' maxL' ret').before a0 Z = true) (wz : (Jvm.Cond.initialized y'.cls).before a0 Z = true) (hf : rm.frames + 1 ≤ R.frames) (hl : W + (maxL' + 11) + rm.locals ≤ R.locals) :
    Back l R p e below s args y' len W (fun A a => a = as ∧ A.U.heap = h ∧ A.cells + rm.cells ≤ R.cells ∧ A.slots + rm.slots ≤ R.slots)
      (fun A _ v B => ∃ L, (Q v B.U.heap ∧ Keep h B.U.heap ws' ∧ Wrote h ws' L) ∧ B.locs = A.locs ++ L ∧ B.cells = A.cells + rm.cells ∧ B.slots = A.slots + rm.slots) :=
  backOf (Q := fun v h' L => Q v h' ∧ Keep h h' ws' ∧ Wrote h ws' L) (hM []) X.hZ wc wz hf hl
theorem Here.back (X : Here p l e R s m args below meth c y bytes maxL ret Z h0 ws T cells slots h) {U : State} {locs : List Loc} {h' : Heap} {L : List Loc} (N : Wrote h0 ws locs) (hU : Stand p l e R s m args below meth c U (locs ++ L) (cells + rm.cells) (slots + rm.slots)) (e' : U.heap = h') (K : Keep h h' ws') (N' : Wrote h ws' L) (hws : ∀ x ∈ ws', x ∈ ws ∨ h0.size ≤ x) :
    Here p l e R s m args below meth c y bytes maxL ret Z h0 ws U (cells + rm.cells) (slots + rm.slots) h' :=
  ⟨X.1, e', X.keep.trans K hws, _, hU, N.app N' X.size hws⟩
theorem Here.callS (X : Here p l e R s m args below meth c y bytes maxL ret Z h0 ws T cells slots h) {pc pc' : Nat} {Ls : Array Slot} {St : List Value} {i : Nat} {sig : MethodDescriptor} {argsL rest : List Value} (hM : Ct l Z y' bytes' maxL' ret' rm as h ws' Q) (w1 : (Jvm.Cond.methodLink y.cls i y').before a0 Z = true) (w2 : (Jvm.Cond.static y').before a0 Z = true) (w3 : (Jvm.Cond.initialized y'.cls).before a0 Z = true) (w4 : (Jvm.Cond.code y' bytes' maxL' ret').before a0 Z = true)
    (hy : y'.cls ≠ "java/lang/invoke/MethodHandle" ∧ y'.cls ≠ "java/lang/invoke/VarHandle") (hsig : parseMethodDescriptor y'.desc = some sig) (hlen : argsL.length = sig.parameters.length) (has : argsL.toArray = as) (hst : St = argsL.reverse ++ rest) (hsz : Ls.size = maxL) (hd : decode bytes pc = .ok (.invokestatic i, 3)) (hp : pc + 3 = pc')
    (hf : rm.frames + 1 ≤ R.frames) {W : Nat} (hW : (rest.map fun v => v.category).sum = W) (hl : W + (maxL' + 11) + rm.locals ≤ R.locals) (hc : cells + rm.cells ≤ R.cells) (hs : slots + rm.slots ≤ R.slots) (hws : ∀ x ∈ ws', x ∈ ws ∨ h0.size ≤ x)
    (k : ∀ T' h' v, Here p l e R s m args below meth c y bytes maxL ret Z h0 ws T' (cells + rm.cells) (slots + rm.slots) h' → Keep h h' ws' → Q v h' → Runs p e below (T'.setTop (mkF m pc' Ls (v.toList ++ rest))) G) : Runs p e below (T.setTop (mkF m pc Ls St)) G := by
  subst hp hst
  have X' := X
  obtain ⟨⟨x1, x2, x3, x4, x5, x6, x7, x8⟩, x9, x10, locs, S, N⟩ := X
  obtain ⟨v, vm₁, ⟨U, lo, ce, sl⟩, -, SU, ⟨Lc, hQ, z1, z2, z3⟩, st⟩ := Jvm.LawKit.callS S x1 (y := y') x5 (mvT x2 w1) (mvT x2 w2) (mvT x2 w3) (mvT x2 w4) hy (backCt X' hM w4 w3 hf hl) (g := mkF m pc Ls (argsL.reverse ++ rest)) rfl (hsz.trans x4.symm) (argsL := argsL) (rest := rest) (lenOf hsig hlen) rfl (by show 2 * 0 + _ ≤ _; rw [hW]; omega) (hb x3 hd) (fun _ _ => ⟨has, x9, hc, hs⟩)
  dsimp only [Pt.U, Pt.locs, Pt.cells, Pt.slots] at SU z1 z2 z3 st hQ
  subst z1 z2 z3
  exact (k U _ v (X'.back N SU rfl hQ.2.1 hQ.2.2 hws) hQ.2.1 hQ.1).of st
theorem Here.special (X : Here p l e R s m args below meth c y bytes maxL ret Z h0 ws T cells slots h) {pc pc' : Nat} {Ls : Array Slot} {St : List Value} {i : Nat} {sig : MethodDescriptor} {a : Addr} {argsL rest : List Value} (hM : Ct l Z y' bytes' maxL' none rm as h ws' Q) (hin : y'.name = "<init>") (w1 : (Jvm.Cond.methodLink y.cls i y').before a0 Z = true) (w2 : (Jvm.Cond.instanceMethod y').before a0 Z = true) (w3 : (Jvm.Cond.initialized y'.cls).before a0 Z = true) (w4 : (Jvm.Cond.code y' bytes' maxL' none).before a0 Z = true)
    (hy : y'.cls ≠ "java/lang/invoke/MethodHandle" ∧ y'.cls ≠ "java/lang/invoke/VarHandle") (hsig : parseMethodDescriptor y'.desc = some sig) (hlen : argsL.length = sig.parameters.length) (has : (.ref a :: argsL).toArray = as) (hst : St = argsL.reverse ++ .ref a :: rest) (hsz : Ls.size = maxL) (hd : decode bytes pc = .ok (.invokespecial i, 3)) (hp : pc + 3 = pc')
    (hf : rm.frames + 1 ≤ R.frames) {W : Nat} (hW : (rest.map fun v => v.category).sum = W) (hl : W + (maxL' + 11) + rm.locals ≤ R.locals) (hc : cells + rm.cells ≤ R.cells) (hs : slots + rm.slots ≤ R.slots) (hws : ∀ x ∈ ws', x ∈ ws ∨ h0.size ≤ x)
    (k : ∀ T' h' v, Here p l e R s m args below meth c y bytes maxL ret Z h0 ws T' (cells + rm.cells) (slots + rm.slots) h' → Keep h h' ws' → Q v h' → Runs p e below (T'.setTop (mkF m pc' Ls (v.toList ++ rest))) G) : Runs p e below (T.setTop (mkF m pc Ls St)) G := by
  subst hp hst
  have X' := X
  obtain ⟨⟨x1, x2, x3, x4, x5, x6, x7, x8⟩, x9, x10, locs, S, N⟩ := X
  obtain ⟨v, vm₁, ⟨U, lo, ce, sl⟩, -, SU, ⟨Lc, hQ, z1, z2, z3⟩, st⟩ := S.specialBack x1 (y := y') hin x5 (mvT x2 w1) (mvT x2 w2) (mvT x2 w4) hy (backCt X' hM w4 w3 hf hl) (g := mkF m pc Ls (argsL.reverse ++ .ref a :: rest)) rfl (hsz.trans x4.symm) (Steps.refl _) (a := a) (argsL := argsL) (rest := rest) (lenOf hsig hlen) rfl (by show 2 * 0 + _ ≤ _; rw [hW]; omega) (hb x3 hd) (fun _ _ => ⟨has, x9, hc, hs⟩)
  dsimp only [Pt.U, Pt.locs, Pt.cells, Pt.slots] at SU z1 z2 z3 st hQ
  subst z1 z2 z3
  exact (k U _ v (X'.back N SU rfl hQ.2.1 hQ.2.2 hws) hQ.2.1 hQ.1).via st
theorem Here.virtual (X : Here p l e R s m args below meth c y bytes maxL ret Z h0 ws T cells slots h) {pc pc' : Nat} {Ls : Array Slot} {St : List Value} {i : Nat} {yr : MethodName} {C : String} {sig : MethodDescriptor} {a : Addr} {argsL rest : List Value} (hM : Ct l Z y' bytes' maxL' ret' rm as h ws' Q) (w1 : (Jvm.Cond.methodLink y.cls i yr).before a0 Z = true) (w5 : (Jvm.Cond.declares yr).before a0 Z = true) (nf : ∀ args, (Jvm.Cond.selects C yr y').before args s = true → NotFace s yr) (w6 : (Jvm.Cond.selects C yr y').before a0 Z = true) (w2 : (Jvm.Cond.instanceMethod y').before a0 Z = true) (w3 : (Jvm.Cond.initialized y'.cls).before a0 Z = true) (w4 : (Jvm.Cond.code y' bytes' maxL' ret').before a0 Z = true)
    (hy : yr.cls ≠ "java/lang/invoke/MethodHandle" ∧ yr.cls ≠ "java/lang/invoke/VarHandle") (E : Exa Z h a C) (hsig : parseMethodDescriptor yr.desc = some sig) (hlen : argsL.length = sig.parameters.length) (has : (.ref a :: argsL).toArray = as) (hst : St = argsL.reverse ++ .ref a :: rest) (hsz : Ls.size = maxL) (hd : decode bytes pc = .ok (.invokevirtual i, 3)) (hp : pc + 3 = pc')
    (hf : rm.frames + 1 ≤ R.frames) {W : Nat} (hW : (rest.map fun v => v.category).sum = W) (hl : W + (maxL' + 11) + rm.locals ≤ R.locals) (hc : cells + rm.cells ≤ R.cells) (hs : slots + rm.slots ≤ R.slots) (hws : ∀ x ∈ ws', x ∈ ws ∨ h0.size ≤ x)
    (k : ∀ T' h' v, Here p l e R s m args below meth c y bytes maxL ret Z h0 ws T' (cells + rm.cells) (slots + rm.slots) h' → Keep h h' ws' → Q v h' → Runs p e below (T'.setTop (mkF m pc' Ls (v.toList ++ rest))) G) : Runs p e below (T.setTop (mkF m pc Ls St)) G := by
  subst hp hst
  have X' := X
  obtain ⟨⟨x1, x2, x3, x4, x5, x6, x7, x8⟩, x9, x10, locs, S, N⟩ := X
  obtain ⟨cq, kq, q1, q2, q3⟩ := isOf (T := T) x2 x9 E
  obtain ⟨v, vm₁, ⟨U, lo, ce, sl⟩, -, SU, ⟨Lc, hQ, z1, z2, z3⟩, st⟩ := S.virtualBack x1 (y := yr) (z := y') x5 (mvT x2 w1) (mvT x2 w5) (nf args (mvT x2 w6)) (mvT x2 w6) (mvT x2 w2) hy (backCt X' hM w4 w3 hf hl) q1 q3 (g := mkF m pc Ls (argsL.reverse ++ .ref a :: rest)) rfl (hsz.trans x4.symm) (Steps.refl _) (argsL := argsL) (rest := rest) (lenOf hsig hlen) rfl (by show 2 * 0 + _ ≤ _; rw [hW]; omega) (hb x3 hd) (fun _ _ => ⟨has, x9, hc, hs⟩)
  dsimp only [Pt.U, Pt.locs, Pt.cells, Pt.slots] at SU z1 z2 z3 st hQ
  subst z1 z2 z3
  exact (k U _ v (X'.back N SU rfl hQ.2.1 hQ.2.2 hws) hQ.2.1 hQ.1).via st
theorem Here.priv (X : Here p l e R s m args below meth c y bytes maxL ret Z h0 ws T cells slots h) {pc pc' : Nat} {Ls : Array Slot} {St : List Value} {i : Nat} {C : String} {sig : MethodDescriptor} {a : Addr} {argsL rest : List Value} (hM : Ct l Z y' bytes' maxL' ret' rm as h ws' Q) (w1 : (Jvm.Cond.methodLink y.cls i y').before a0 Z = true) (w6 : (Jvm.Cond.selects y'.cls y' y').before a0 Z = true) (w7 : (Jvm.Cond.privateMethod y').before a0 Z = true) (w2 : (Jvm.Cond.instanceMethod y').before a0 Z = true) (w3 : (Jvm.Cond.initialized y'.cls).before a0 Z = true) (w4 : (Jvm.Cond.code y' bytes' maxL' ret').before a0 Z = true)
    (hy : y'.cls ≠ "java/lang/invoke/MethodHandle" ∧ y'.cls ≠ "java/lang/invoke/VarHandle") (E : Exa Z h a C) (hsig : parseMethodDescriptor y'.desc = some sig) (hlen : argsL.length = sig.parameters.length) (has : (.ref a :: argsL).toArray = as) (hst : St = argsL.reverse ++ .ref a :: rest) (hsz : Ls.size = maxL) (hd : decode bytes pc = .ok (.invokevirtual i, 3)) (hp : pc + 3 = pc')
    (hf : rm.frames + 1 ≤ R.frames) {W : Nat} (hW : (rest.map fun v => v.category).sum = W) (hl : W + (maxL' + 11) + rm.locals ≤ R.locals) (hc : cells + rm.cells ≤ R.cells) (hs : slots + rm.slots ≤ R.slots) (hws : ∀ x ∈ ws', x ∈ ws ∨ h0.size ≤ x)
    (k : ∀ T' h' v, Here p l e R s m args below meth c y bytes maxL ret Z h0 ws T' (cells + rm.cells) (slots + rm.slots) h' → Keep h h' ws' → Q v h' → Runs p e below (T'.setTop (mkF m pc' Ls (v.toList ++ rest))) G) : Runs p e below (T.setTop (mkF m pc Ls St)) G := by
  subst hp hst
  have X' := X
  obtain ⟨⟨x1, x2, x3, x4, x5, x6, x7, x8⟩, x9, x10, locs, S, N⟩ := X
  obtain ⟨cq, q1, q2⟩ := E.cell
  obtain ⟨v, vm₁, ⟨U, lo, ce, sl⟩, -, SU, ⟨Lc, hQ, z1, z2, z3⟩, st⟩ := S.privateBack x1 (y := y') x5 (mvT x2 w1) (mvT x2 w2) (mvT x2 w6) (Cond.privateMethod_at (mvP x2 w7 (args := #[]))) (mvT x2 w4) hy (backCt X' hM w4 w3 hf hl) (g := mkF m pc Ls (argsL.reverse ++ .ref a :: rest)) rfl (hsz.trans x4.symm) (Steps.refl _) (a := a) (by rw [x9]; exact q1) q2 (argsL := argsL) (rest := rest) (lenOf hsig hlen) rfl (by show 2 * 0 + _ ≤ _; rw [hW]; omega) (hb x3 hd) (fun _ _ => ⟨has, x9, hc, hs⟩)
  dsimp only [Pt.U, Pt.locs, Pt.cells, Pt.slots] at SU z1 z2 z3 st hQ
  subst z1 z2 z3
  exact (k U _ v (X'.back N SU rfl hQ.2.1 hQ.2.2 hws) hQ.2.1 hQ.1).via st

/-! the returns -/
theorem Here.leave (X : Here p l e R s m args below meth c y bytes maxL ret Z h0 ws T cells slots h) {Q : Option Value → Heap → Prop} {rm : Room} {g : JFrame} {v : Option Value} (hv : ret = none → v = none) (hc : cells ≤ rm.cells) (hs : slots ≤ rm.slots) (hq : Q v h)
    (st : ∀ locs fs, p.tables.exec = Jvm.exec → c.code = bytes → meth.sig.returnType = ret → Stand p l e R s m args below meth c T locs cells slots → (∀ (f : JFrame) (acts : List Action), f.method = m → f.locked = none → f.entered = [] → (doReturn e (T.setTop f) acts v).1 = T.setFrames fs) → Steps p.tables e below (T.setTop g) (T.setFrames fs)) :
    Runs p e below (T.setTop g) (Out s h0 ws rm Q) := by
  obtain ⟨⟨x1, x2, x3, x4, x5, x6, x7, x8⟩, x9, x10, locs, S, N⟩ := X
  obtain ⟨fs, hr, hrun, hended, hW, hsame⟩ := S.leave (v := v) (fun h => hv (x7 ▸ h)) x8
  refine ⟨_, _, st locs fs x1 x3 x7 S hr, hrun, hended, v, locs, rfl, ⟨?_, ?_, N⟩, ⟨_, rfl⟩, hW, hsame.mono hc hs⟩
  · show Q v T.heap; rw [x9]; exact hq
  · show Keep h0 T.heap ws; rw [x9]; exact x10
theorem Here.ireturn (X : Here p l e R s m args below meth c y bytes maxL ret Z h0 ws T cells slots h) {Q : Option Value → Heap → Prop} {rm : Room} {pc : Nat} {Ls : Array Slot} {St : List Value} {z : Int32} (hr : ret = some .int) (hd : decode bytes pc = .ok (.ireturn, 1)) (hc : cells ≤ rm.cells) (hs : slots ≤ rm.slots) (hq : Q (some (.int z)) h) : Runs p e below (T.setTop (mkF m pc Ls (.int z :: St))) (Out s h0 ws rm Q) := by
  subst hr
  exact X.leave (fun h => nomatch h) hc hs hq fun _ _ hx hb' hret S hl => retOut S hx hret rfl (Or.inl ⟨rfl, Or.inl rfl, _, rfl⟩) (hb hb' hd) hl
theorem Here.zreturn (X : Here p l e R s m args below meth c y bytes maxL ret Z h0 ws T cells slots h) {Q : Option Value → Heap → Prop} {rm : Room} {pc : Nat} {Ls : Array Slot} {St : List Value} {z z' : Int32} {t : FieldType} (hr : ret = some t) (ht : t = .boolean ∨ t = .byte ∨ t = .char ∨ t = .short) (hd : decode bytes pc = .ok (.ireturn, 1)) (hz : nar t z = z') (hc : cells ≤ rm.cells) (hs : slots ≤ rm.slots) (hq : Q (some (.int z')) h) : Runs p e below (T.setTop (mkF m pc Ls (.int z :: St))) (Out s h0 ws rm Q) := by
  subst hr hz
  exact X.leave (fun h => nomatch h) hc hs hq fun _ _ hx hb' hret S hl => retN S hx hret ht (hb hb' hd) hl
theorem Here.lreturn (X : Here p l e R s m args below meth c y bytes maxL ret Z h0 ws T cells slots h) {Q : Option Value → Heap → Prop} {rm : Room} {pc : Nat} {Ls : Array Slot} {St : List Value} {z : Int64} (hr : ret = some .long) (hd : decode bytes pc = .ok (.lreturn, 1)) (hc : cells ≤ rm.cells) (hs : slots ≤ rm.slots) (hq : Q (some (.long z)) h) : Runs p e below (T.setTop (mkF m pc Ls (.long z :: St))) (Out s h0 ws rm Q) := by
  subst hr
  exact X.leave (fun h => nomatch h) hc hs hq fun _ _ hx hb' hret S hl => retOut S hx hret rfl (Or.inr (Or.inl ⟨rfl, rfl, _, rfl⟩)) (hb hb' hd) hl
theorem Here.areturn (X : Here p l e R s m args below meth c y bytes maxL ret Z h0 ws T cells slots h) {Q : Option Value → Heap → Prop} {rm : Room} {pc : Nat} {Ls : Array Slot} {St : List Value} {v : Value} {t : FieldType} (hr : ret = some t) (ht : t.isReference = true) (hv : v.isRef = true) (hn : narrow t v = v) (hd : decode bytes pc = .ok (.areturn, 1)) (hc : cells ≤ rm.cells) (hs : slots ≤ rm.slots) (hq : Q (some v) h) : Runs p e below (T.setTop (mkF m pc Ls (v :: St))) (Out s h0 ws rm Q) := by
  subst hr
  exact X.leave (fun h => nomatch h) hc hs hq fun _ _ hx hb' hret S hl => retOut S hx hret hn (Or.inr (Or.inr (Or.inr (Or.inr ⟨rfl, ht, hv⟩)))) (hb hb' hd) hl
theorem Here.vreturn (X : Here p l e R s m args below meth c y bytes maxL ret Z h0 ws T cells slots h) {Q : Option Value → Heap → Prop} {rm : Room} {pc : Nat} {Ls : Array Slot} (hr : ret = none) (hd : decode bytes pc = .ok (.return_, 1)) (hc : cells ≤ rm.cells) (hs : slots ≤ rm.slots) (hq : Q none h) : Runs p e below (T.setTop (mkF m pc Ls [])) (Out s h0 ws rm Q) := by
  subst hr
  exact X.leave (fun _ => rfl) hc hs hq fun _ _ hx hb' hret S hl => S.returnOut hx hret (hb hb' hd) hl
end B
end Jvm.Own
namespace Jvm.Own
open Jvm Jvm.ClassFile Sem Op Lib Jvm.Free Jvm.Stand Jvm.LawKit Jvm.RoadKit
theorem xd_dload {tb : Tables} [Ours tb] {e : Env} {below : List Frame} {T target : State} {m : MethodId} {c : Code} {g : JFrame} (h : At T m c below) (hx : tb.exec = Jvm.exec) (hg : g.method = m) {k : Nat} {v : UInt64} (hd : decode c.code g.pc = .ok (.dload k, 2)) (hl : g.locals[k]? = some (.val (.double v))) (hr : Steps tb e below (T.setTop { g with pc := g.pc + 2, stack := .double v :: g.stack }) target) : Steps tb e below (T.setTop g) target := by
  subst hg
  jvm_step h [h.top, hx, hd, hl]
  exact hr
theorem xd_dloadN {tb : Tables} [Ours tb] {e : Env} {below : List Frame} {T target : State} {m : MethodId} {c : Code} {g : JFrame} (h : At T m c below) (hx : tb.exec = Jvm.exec) (hg : g.method = m) {k : Fin 4} {v : UInt64} (hd : decode c.code g.pc = .ok (.dload_n k, 1)) (hl : g.locals[k.val]? = some (.val (.double v))) (hr : Steps tb e below (T.setTop { g with pc := g.pc + 1, stack := .double v :: g.stack }) target) : Steps tb e below (T.setTop g) target := by
  subst hg
  jvm_step h [h.top, hx, hd, hl]
  exact hr
theorem xd_dstore {tb : Tables} [Ours tb] {e : Env} {below : List Frame} {T target : State} {m : MethodId} {c : Code} {g : JFrame} (h : At T m c below) (hx : tb.exec = Jvm.exec) (hg : g.method = m) {k : Nat} {v : UInt64} {rest : List Value} {l' : Array Slot} (hd : decode c.code g.pc = .ok (.dstore k, 2)) (hs : g.stack = .double v :: rest) (hl : storeLocals g.locals k (.double v) = some l') (hr : Steps tb e below (T.setTop { g with pc := g.pc + 2, stack := rest, locals := l' }) target) : Steps tb e below (T.setTop g) target := by
  subst hg
  jvm_step h [h.top, hx, hd, hs, hl]
  exact hr
theorem xd_dstoreN {tb : Tables} [Ours tb] {e : Env} {below : List Frame} {T target : State} {m : MethodId} {c : Code} {g : JFrame} (h : At T m c below) (hx : tb.exec = Jvm.exec) (hg : g.method = m) {k : Fin 4} {v : UInt64} {rest : List Value} {l' : Array Slot} (hd : decode c.code g.pc = .ok (.dstore_n k, 1)) (hs : g.stack = .double v :: rest) (hl : storeLocals g.locals k.val (.double v) = some l') (hr : Steps tb e below (T.setTop { g with pc := g.pc + 1, stack := rest, locals := l' }) target) : Steps tb e below (T.setTop g) target := by
  subst hg
  jvm_step h [h.top, hx, hd, hs, hl]
  exact hr
theorem xd_l2d {tb : Tables} [Ours tb] {e : Env} {below : List Frame} {T target : State} {m : MethodId} {c : Code} {g : JFrame} (h : At T m c below) (hx : tb.exec = Jvm.exec) (hg : g.method = m) {a : Int64} {rest : List Value} (hd : decode c.code g.pc = .ok (.l2d, 1)) (hs : g.stack = .long a :: rest) (hr : Steps tb e below (T.setTop { g with pc := g.pc + 1, stack := .double (FP.l2d a) :: rest }) target) : Steps tb e below (T.setTop g) target := by
  subst hg
  jvm_step h [h.top, hx, hd, l2d.wp_sem, hs]
  exact hr
theorem xd_i2d {tb : Tables} [Ours tb] {e : Env} {below : List Frame} {T target : State} {m : MethodId} {c : Code} {g : JFrame} (h : At T m c below) (hx : tb.exec = Jvm.exec) (hg : g.method = m) {a : Int32} {rest : List Value} (hd : decode c.code g.pc = .ok (.i2d, 1)) (hs : g.stack = .int a :: rest) (hr : Steps tb e below (T.setTop { g with pc := g.pc + 1, stack := .double (FP.i2d a) :: rest }) target) : Steps tb e below (T.setTop g) target := by
  subst hg
  jvm_step h [h.top, hx, hd, i2d.wp_sem, hs]
  exact hr
theorem xd_dconst0 {tb : Tables} [Ours tb] {e : Env} {below : List Frame} {T target : State} {m : MethodId} {c : Code} {g : JFrame} (h : At T m c below) (hx : tb.exec = Jvm.exec) (hg : g.method = m)  (hd : decode c.code g.pc = .ok (.dconst 0, 1))  (hr : Steps tb e below (T.setTop { g with pc := g.pc + 1, stack := .double FP.dconst0 :: g.stack }) target) : Steps tb e below (T.setTop g) target := by
  subst hg
  jvm_step h [h.top, hx, hd, dconst.wp_sem]
  exact hr
theorem xd_dconst1 {tb : Tables} [Ours tb] {e : Env} {below : List Frame} {T target : State} {m : MethodId} {c : Code} {g : JFrame} (h : At T m c below) (hx : tb.exec = Jvm.exec) (hg : g.method = m)  (hd : decode c.code g.pc = .ok (.dconst 1, 1))  (hr : Steps tb e below (T.setTop { g with pc := g.pc + 1, stack := .double FP.dconst1 :: g.stack }) target) : Steps tb e below (T.setTop g) target := by
  subst hg
  jvm_step h [h.top, hx, hd, dconst.wp_sem]
  exact hr
theorem xd_dadd {tb : Tables} [Ours tb] {e : Env} {below : List Frame} {T target : State} {m : MethodId} {c : Code} {g : JFrame} (h : At T m c below) (hx : tb.exec = Jvm.exec) (hg : g.method = m) {a b : UInt64} {rest : List Value} (hd : decode c.code g.pc = .ok (.dadd, 1)) (hs : g.stack = .double b :: .double a :: rest) (hn : Jvm.Free.Fl.NoNaN64 (FP.dadd a b)) (hr : Steps tb e below (T.setTop { g with pc := g.pc + 1, stack := .double (FP.dadd a b) :: rest }) target) : Steps tb e below (T.setTop g) target := by
  subst hg
  jvm_step h [hx, hd, dadd.wp_number (s := T) (f := g) h.top hs hn]
  exact hr
theorem xd_dsub {tb : Tables} [Ours tb] {e : Env} {below : List Frame} {T target : State} {m : MethodId} {c : Code} {g : JFrame} (h : At T m c below) (hx : tb.exec = Jvm.exec) (hg : g.method = m) {a b : UInt64} {rest : List Value} (hd : decode c.code g.pc = .ok (.dsub, 1)) (hs : g.stack = .double b :: .double a :: rest) (hn : Jvm.Free.Fl.NoNaN64 (FP.dsub a b)) (hr : Steps tb e below (T.setTop { g with pc := g.pc + 1, stack := .double (FP.dsub a b) :: rest }) target) : Steps tb e below (T.setTop g) target := by
  subst hg
  jvm_step h [hx, hd, dsub.wp_number (s := T) (f := g) h.top hs hn]
  exact hr
theorem xd_dmul {tb : Tables} [Ours tb] {e : Env} {below : List Frame} {T target : State} {m : MethodId} {c : Code} {g : JFrame} (h : At T m c below) (hx : tb.exec = Jvm.exec) (hg : g.method = m) {a b : UInt64} {rest : List Value} (hd : decode c.code g.pc = .ok (.dmul, 1)) (hs : g.stack = .double b :: .double a :: rest) (hn : Jvm.Free.Fl.NoNaN64 (FP.dmul a b)) (hr : Steps tb e below (T.setTop { g with pc := g.pc + 1, stack := .double (FP.dmul a b) :: rest }) target) : Steps tb e below (T.setTop g) target := by
  subst hg
  jvm_step h [hx, hd, dmul.wp_number (s := T) (f := g) h.top hs hn]
  exact hr
theorem xd_ddiv {tb : Tables} [Ours tb] {e : Env} {below : List Frame} {T target : State} {m : MethodId} {c : Code} {g : JFrame} (h : At T m c below) (hx : tb.exec = Jvm.exec) (hg : g.method = m) {a b : UInt64} {rest : List Value} (hd : decode c.code g.pc = .ok (.ddiv, 1)) (hs : g.stack = .double b :: .double a :: rest) (hn : Jvm.Free.Fl.NoNaN64 (FP.ddiv a b)) (hr : Steps tb e below (T.setTop { g with pc := g.pc + 1, stack := .double (FP.ddiv a b) :: rest }) target) : Steps tb e below (T.setTop g) target := by
  subst hg
  jvm_step h [hx, hd, ddiv.wp_number (s := T) (f := g) h.top hs hn]
  exact hr
theorem xd_dcmp {tb : Tables} [Ours tb] {e : Env} {below : List Frame} {T target : State} {m : MethodId} {c : Code} {g : JFrame} (h : At T m c below) (hx : tb.exec = Jvm.exec) (hg : g.method = m) {op : CmpOp} {a b : UInt64} {rest : List Value} (hd : decode c.code g.pc = .ok (.dcmp op, 1)) (hs : g.stack = .double b :: .double a :: rest) (hr : Steps tb e below (T.setTop { g with pc := g.pc + 1, stack := .int (cmpValue (FP.dcmp a b) op) :: rest }) target) : Steps tb e below (T.setTop g) target := by
  subst hg
  jvm_step h [h.top, hx, hd, dcmp.wp_sem, hs]
  exact hr
section D
variable {p : Program} {l : Launch} {e : Env} {R : Room} {s : State} {m : MethodId} {args : Array Value} {below : List Frame} {meth : Method} {c : Code} {y : MethodName} {bytes : ByteArray} {maxL : Nat} {ret : Option FieldType} {Z : State} {h0 : Heap} {ws : List Addr} {T : State} {cells slots : Nat} {h : Heap} {G : Outcome → State → Prop} {a0 : Array Value}
theorem Here.dload (X : Here p l e R s m args below meth c y bytes maxL ret Z h0 ws T cells slots h) {pc pc' : Nat} {Ls : Array Slot} {St : List Value} {i : Nat} {v : UInt64} (hd : decode bytes pc = .ok (.dload i, 2)) (hl : Ls[i]? = some (.val (.double v))) (hp : pc + 2 = pc') (k : Runs p e below (T.setTop (mkF m pc' Ls (.double v :: St))) G) : Runs p e below (T.setTop (mkF m pc Ls (St))) G := by
  subst hp
  exact X.step (fun _ hx hb' _ hown _ S t q => xd_dload S.here hx rfl (hb hb' hd) hl q) k
theorem Here.dloadN (X : Here p l e R s m args below meth c y bytes maxL ret Z h0 ws T cells slots h) {pc pc' : Nat} {Ls : Array Slot} {St : List Value} {i : Fin 4} {v : UInt64} (hd : decode bytes pc = .ok (.dload_n i, 1)) (hl : Ls[i.val]? = some (.val (.double v))) (hp : pc + 1 = pc') (k : Runs p e below (T.setTop (mkF m pc' Ls (.double v :: St))) G) : Runs p e below (T.setTop (mkF m pc Ls (St))) G := by
  subst hp
  exact X.step (fun _ hx hb' _ hown _ S t q => xd_dloadN S.here hx rfl (hb hb' hd) hl q) k
theorem Here.dstore (X : Here p l e R s m args below meth c y bytes maxL ret Z h0 ws T cells slots h) {pc pc' : Nat} {Ls : Array Slot} {St : List Value} {i : Nat} {v : UInt64} {l' : Array Slot} (hd : decode bytes pc = .ok (.dstore i, 2)) (hl : storeLocals Ls i (.double v) = some l') (hp : pc + 2 = pc') (k : Runs p e below (T.setTop (mkF m pc' l' (St))) G) : Runs p e below (T.setTop (mkF m pc Ls (.double v :: St))) G := by
  subst hp
  exact X.step (fun _ hx hb' _ hown _ S t q => xd_dstore S.here hx rfl (hb hb' hd) rfl hl q) k
theorem Here.dstoreN (X : Here p l e R s m args below meth c y bytes maxL ret Z h0 ws T cells slots h) {pc pc' : Nat} {Ls : Array Slot} {St : List Value} {i : Fin 4} {v : UInt64} {l' : Array Slot} (hd : decode bytes pc = .ok (.dstore_n i, 1)) (hl : storeLocals Ls i.val (.double v) = some l') (hp : pc + 1 = pc') (k : Runs p e below (T.setTop (mkF m pc' l' (St))) G) : Runs p e below (T.setTop (mkF m pc Ls (.double v :: St))) G := by
  subst hp
  exact X.step (fun _ hx hb' _ hown _ S t q => xd_dstoreN S.here hx rfl (hb hb' hd) rfl hl q) k
theorem Here.l2d (X : Here p l e R s m args below meth c y bytes maxL ret Z h0 ws T cells slots h) {pc pc' : Nat} {Ls : Array Slot} {St : List Value} {a : Int64} (hd : decode bytes pc = .ok (.l2d, 1))  (hp : pc + 1 = pc') (k : Runs p e below (T.setTop (mkF m pc' Ls (.double (FP.l2d a) :: St))) G) : Runs p e below (T.setTop (mkF m pc Ls (.long a :: St))) G := by
  subst hp
  exact X.step (fun _ hx hb' _ hown _ S t q => xd_l2d S.here hx rfl (hb hb' hd) rfl q) k
theorem Here.i2d (X : Here p l e R s m args below meth c y bytes maxL ret Z h0 ws T cells slots h) {pc pc' : Nat} {Ls : Array Slot} {St : List Value} {a : Int32} (hd : decode bytes pc = .ok (.i2d, 1))  (hp : pc + 1 = pc') (k : Runs p e below (T.setTop (mkF m pc' Ls (.double (FP.i2d a) :: St))) G) : Runs p e below (T.setTop (mkF m pc Ls (.int a :: St))) G := by
  subst hp
  exact X.step (fun _ hx hb' _ hown _ S t q => xd_i2d S.here hx rfl (hb hb' hd) rfl q) k
theorem Here.dconst0 (X : Here p l e R s m args below meth c y bytes maxL ret Z h0 ws T cells slots h) {pc pc' : Nat} {Ls : Array Slot} {St : List Value}  (hd : decode bytes pc = .ok (.dconst 0, 1))  (hp : pc + 1 = pc') (k : Runs p e below (T.setTop (mkF m pc' Ls (.double FP.dconst0 :: St))) G) : Runs p e below (T.setTop (mkF m pc Ls (St))) G := by
  subst hp
  exact X.step (fun _ hx hb' _ hown _ S t q => xd_dconst0 S.here hx rfl (hb hb' hd) q) k
theorem Here.dconst1 (X : Here p l e R s m args below meth c y bytes maxL ret Z h0 ws T cells slots h) {pc pc' : Nat} {Ls : Array Slot} {St : List Value}  (hd : decode bytes pc = .ok (.dconst 1, 1))  (hp : pc + 1 = pc') (k : Runs p e below (T.setTop (mkF m pc' Ls (.double FP.dconst1 :: St))) G) : Runs p e below (T.setTop (mkF m pc Ls (St))) G := by
  subst hp
  exact X.step (fun _ hx hb' _ hown _ S t q => xd_dconst1 S.here hx rfl (hb hb' hd) q) k
theorem Here.dadd (X : Here p l e R s m args below meth c y bytes maxL ret Z h0 ws T cells slots h) {pc pc' : Nat} {Ls : Array Slot} {St : List Value} {a b : UInt64} (hd : decode bytes pc = .ok (.dadd, 1)) (hn : Jvm.Free.Fl.NoNaN64 (FP.dadd a b)) (hp : pc + 1 = pc') (k : Runs p e below (T.setTop (mkF m pc' Ls (.double (FP.dadd a b) :: St))) G) : Runs p e below (T.setTop (mkF m pc Ls (.double b :: .double a :: St))) G := by
  subst hp
  exact X.step (fun _ hx hb' _ hown _ S t q => xd_dadd S.here hx rfl (hb hb' hd) rfl hn q) k
theorem Here.dsub (X : Here p l e R s m args below meth c y bytes maxL ret Z h0 ws T cells slots h) {pc pc' : Nat} {Ls : Array Slot} {St : List Value} {a b : UInt64} (hd : decode bytes pc = .ok (.dsub, 1)) (hn : Jvm.Free.Fl.NoNaN64 (FP.dsub a b)) (hp : pc + 1 = pc') (k : Runs p e below (T.setTop (mkF m pc' Ls (.double (FP.dsub a b) :: St))) G) : Runs p e below (T.setTop (mkF m pc Ls (.double b :: .double a :: St))) G := by
  subst hp
  exact X.step (fun _ hx hb' _ hown _ S t q => xd_dsub S.here hx rfl (hb hb' hd) rfl hn q) k
theorem Here.dmul (X : Here p l e R s m args below meth c y bytes maxL ret Z h0 ws T cells slots h) {pc pc' : Nat} {Ls : Array Slot} {St : List Value} {a b : UInt64} (hd : decode bytes pc = .ok (.dmul, 1)) (hn : Jvm.Free.Fl.NoNaN64 (FP.dmul a b)) (hp : pc + 1 = pc') (k : Runs p e below (T.setTop (mkF m pc' Ls (.double (FP.dmul a b) :: St))) G) : Runs p e below (T.setTop (mkF m pc Ls (.double b :: .double a :: St))) G := by
  subst hp
  exact X.step (fun _ hx hb' _ hown _ S t q => xd_dmul S.here hx rfl (hb hb' hd) rfl hn q) k
theorem Here.ddiv (X : Here p l e R s m args below meth c y bytes maxL ret Z h0 ws T cells slots h) {pc pc' : Nat} {Ls : Array Slot} {St : List Value} {a b : UInt64} (hd : decode bytes pc = .ok (.ddiv, 1)) (hn : Jvm.Free.Fl.NoNaN64 (FP.ddiv a b)) (hp : pc + 1 = pc') (k : Runs p e below (T.setTop (mkF m pc' Ls (.double (FP.ddiv a b) :: St))) G) : Runs p e below (T.setTop (mkF m pc Ls (.double b :: .double a :: St))) G := by
  subst hp
  exact X.step (fun _ hx hb' _ hown _ S t q => xd_ddiv S.here hx rfl (hb hb' hd) rfl hn q) k
theorem Here.dcmp (X : Here p l e R s m args below meth c y bytes maxL ret Z h0 ws T cells slots h) {pc pc' : Nat} {Ls : Array Slot} {St : List Value} {op : CmpOp} {a b : UInt64} {z : Int32} (hd : decode bytes pc = .ok (.dcmp op, 1)) (hz : cmpValue (FP.dcmp a b) op = z) (hp : pc + 1 = pc') (k : Runs p e below (T.setTop (mkF m pc' Ls (.int z :: St))) G) : Runs p e below (T.setTop (mkF m pc Ls (.double b :: .double a :: St))) G := by
  subst hp
  exact X.step (fun _ hx hb' _ hown _ S t q => xd_dcmp S.here hx rfl (hb hb' hd) rfl (hz ▸ q)) k
theorem Here.ldc2D (X : Here p l e R s m args below meth c y bytes maxL ret Z h0 ws T cells slots h) {pc pc' : Nat} {Ls : Array Slot} {St : List Value} {i : Nat} {v : UInt64} (w : (Jvm.Cond.constantDouble y.cls i v).before a0 Z = true) (hd : decode bytes pc = .ok (.ldc2_w i, 3)) (hp : pc + 3 = pc') (k : Runs p e below (T.setTop (mkF m pc' Ls (.double v :: St))) G) : Runs p e below (T.setTop (mkF m pc Ls St)) G := by
  subst hp
  exact X.step (fun _ hx hb' hZ hown _ S t q => S.ldc2DoubleC hx hown (mvT hZ w) (g := mkF m pc Ls St) rfl (hb hb' hd) t q) k
theorem Here.daload (X : Here p l e R s m args below meth c y bytes maxL ret Z h0 ws T cells slots h) {pc pc' : Nat} {Ls : Array Slot} {St : List Value} {a : Addr} {vs : List Value} {j : Int32} {v : Value} (F : Lst Z h a .double vs) (hj : Inb j vs.length) (hv : vs[j.toInt.toNat]? = some v) (hd : decode bytes pc = .ok (.daload, 1)) (hp : pc + 1 = pc')
    (k : Runs p e below (T.setTop (mkF m pc' Ls (v :: St))) G) : Runs p e below (T.setTop (mkF m pc Ls (.int j :: .ref a :: St))) G := by
  subst hp
  obtain ⟨cl, A, r, -⟩ := F
  exact X.step (fun _ hx hb' hZ _ eT S t q => S.daload hx (j := j) (v := v) (by rw [eT]; exact A.1) (State.isArrayOf_alike hZ.alike A.2.1) A.2.2 (in_of_ins r hj) (at_of_ins r hv) (g := mkF m pc Ls (.int j :: .ref a :: St)) rfl rfl (hb hb' hd) t q) k
theorem stD {locs : List Loc} (S : Stand p l e R s m args below meth c T locs cells slots) (hx : p.tables.exec = Jvm.exec) (hZ : Z.Warmed39 s.vm) (eT : T.heap = h) {a : Addr} {cl : Cell} (A : Arr Z h a cl .double) {j : Int32} {x : UInt64} (hj : ¬ (j < 0 ∨ cl.slots.size ≤ j.toNatClampNeg)) {g : JFrame} (hg : g.method = m) {rest : List Value} (hs : g.stack = .double x :: .int j :: .ref a :: rest) (hd : decode c.code g.pc = .ok (.dastore, 1)) :
    ∃ T' h', Stand p l e R s m args below meth c T' (locs ++ [⟨a, j.toNatClampNeg⟩]) cells slots ∧ T'.heap = h' ∧ Wr h h' a j.toNatClampNeg (.double x) ∧ ∀ target, Steps p.tables e below (T'.setTop { g with pc := g.pc + 1, stack := rest }) target → Steps p.tables e below (T.setTop g) target := by
  obtain ⟨X', st⟩ := S.dastore hx (by rw [eT]; exact A.1) (State.isArrayOf_alike hZ.alike A.2.1) A.2.2 hj hg hs hd
  exact ⟨_, _, X', rfl, ⟨cl, A.1, A.plain, Nat.lt_of_not_le fun q => hj (Or.inr q), by rw [← eT]; rfl⟩, st⟩
theorem Here.dastore (X : Here p l e R s m args below meth c y bytes maxL ret Z h0 ws T cells slots h) {pc pc' : Nat} {Ls : Array Slot} {St : List Value} {a : Addr} {vs : List Value} {j : Int32} {x : UInt64} (F : Lst Z h a .double vs) (hj : Inb j vs.length) (hd : decode bytes pc = .ok (.dastore, 1)) (hp : pc + 1 = pc') (hws : a ∈ ws ∨ h0.size ≤ a)
    (k : ∀ T' h', Here p l e R s m args below meth c y bytes maxL ret Z h0 ws T' cells slots h' → Wr h h' a j.toInt.toNat (.double x) → Runs p e below (T'.setTop (mkF m pc' Ls St)) G) : Runs p e below (T.setTop (mkF m pc Ls (.double x :: .int j :: .ref a :: St))) G := by
  subst hp
  obtain ⟨cl, A, r, -⟩ := F
  exact X.stepW hws (fun _ hx hb' _ hZ _ eT S => stD S hx hZ eT A (j := j) (in_of_ins r hj) (g := mkF m pc Ls (.double x :: .int j :: .ref a :: St)) rfl rfl (hb hb' hd)) k
theorem Here.dreturn (X : Here p l e R s m args below meth c y bytes maxL ret Z h0 ws T cells slots h) {Q : Option Value → Heap → Prop} {rm : Room} {pc : Nat} {Ls : Array Slot} {St : List Value} {z : UInt64} (hr : ret = some .double) (hd : decode bytes pc = .ok (.dreturn, 1)) (hc : cells ≤ rm.cells) (hs : slots ≤ rm.slots) (hq : Q (some (.double z)) h) : Runs p e below (T.setTop (mkF m pc Ls (.double z :: St))) (Out s h0 ws rm Q) := by
  subst hr
  exact X.leave (fun h => nomatch h) hc hs hq fun _ _ hx hb' hret S hl => retOut S hx hret rfl (Or.inr (Or.inr (Or.inl ⟨rfl, rfl, _, rfl⟩))) (hb hb' hd) hl
end D
end Jvm.Own
namespace Jvm.Elm
open Jvm Jvm.FP.Core Sem Op
/-- the number k / 2^n as a datum -/
theorem rep (k n : Nat) (hk : k < 2 ^ 53) (hn : n ≤ 1074) : ∃ V : Datum, Jvm.FP.Core.fits b64 V ∧ V ≠ .nan ∧ zmag b64 V = k * 2 ^ (1074 - n) := by
  obtain ⟨c', q', h1, h2⟩ := round_exact good_b64 false (c := k) (q := -(n : Int)) (by show k < 2 ^ 53; exact hk) (by rw [qmin_b64]; omega) (by show -(n : Int) ≤ 971; omega)
  refine ⟨_, round_fits good_b64 (.fin false k (-(n : Int))), by rw [h1]; exact Datum.noConfusion, ?_⟩
  rw [h1]
  show inUnits c' q' b64.qmin = _
  rw [h2, qmin_b64]; unfold inUnits
  rw [show (-(n : Int) - -1074).toNat = 1074 - n by omega]
theorem le {N D k n : Nat} (hD : 0 < D) (hk : k < 2 ^ 53) (hn : n ≤ 1074) (h : N * 2 ^ n ≤ k * D) : zmag b64 (roundRatio b64 false N D 0) ≤ k * 2 ^ (1074 - n) := by
  obtain ⟨V, v1, v2, v3⟩ := rep k n hk hn
  rw [← v3]
  refine zmag_roundRatio_le good_b64 (e0 := b64.qmin) hD v1 v2 (Int.le_refl _) (by rw [qmin_b64]; decide) ?_
  rw [v3, qmin_b64]
  show N * 2 ^ 1074 ≤ k * 2 ^ (1074 - n) * 1 * D
  have e : 2 ^ 1074 = 2 ^ n * 2 ^ (1074 - n) := by rw [← Nat.pow_add]; congr 1; omega
  rw [e, Nat.mul_one]
  calc N * (2 ^ n * 2 ^ (1074 - n)) = N * 2 ^ n * 2 ^ (1074 - n) := (Nat.mul_assoc _ _ _).symm
    _ ≤ k * D * 2 ^ (1074 - n) := Nat.mul_le_mul_right _ h
    _ = k * 2 ^ (1074 - n) * D := Nat.mul_right_comm _ _ _
theorem ge {N D k n : Nat} (hD : 0 < D) (hk : k < 2 ^ 53) (hn : n ≤ 1074) (h : k * D ≤ N * 2 ^ n) : k * 2 ^ (1074 - n) ≤ zmag b64 (roundRatio b64 false N D 0) := by
  obtain ⟨V, v1, v2, v3⟩ := rep k n hk hn
  rw [← v3]
  refine zmag_roundRatio_ge good_b64 (e0 := b64.qmin) hD v1 (Int.le_refl _) (by rw [qmin_b64]; decide) ?_
  rw [v3, qmin_b64]
  show k * 2 ^ (1074 - n) * 1 * D ≤ N * 2 ^ 1074
  have e : 2 ^ 1074 = 2 ^ n * 2 ^ (1074 - n) := by rw [← Nat.pow_add]; congr 1; omega
  rw [e, Nat.mul_one]
  calc k * 2 ^ (1074 - n) * D = k * D * 2 ^ (1074 - n) := Nat.mul_right_comm _ _ _
    _ ≤ N * 2 ^ n * 2 ^ (1074 - n) := Nat.mul_le_mul_right _ h
    _ = N * (2 ^ n * 2 ^ (1074 - n)) := Nat.mul_assoc _ _ _
/-- a whole number as a datum -/
theorem shape {i : Int} {a : UInt64} (h : DInt i a) : ∃ s c q, val64 a = .fin s c q ∧ signed s (c * 2 ^ q.toNat) = i * ((2 ^ (-q).toNat : Nat) : Int) := by
  unfold DInt at h
  generalize val64 a = d at h
  cases d with
  | nan => exact h.elim
  | inf => exact h.elim
  | fin s c q => exact ⟨s, c, q, rfl, h⟩
theorem pos {N : Nat} {a : UInt64} (hN : 0 < N) (h : DInt (N : Int) a) : ∃ c q, val64 a = .fin false c q ∧ 0 < c ∧ c * 2 ^ q.toNat = N * 2 ^ (-q).toNat := by
  obtain ⟨s, c, q, e, w⟩ := shape h
  have p1 := Nat.two_pow_pos q.toNat
  have p2 := Nat.two_pow_pos (-q).toNat
  have p3 := Nat.mul_pos hN p2
  cases s with
  | true =>
    exfalso
    simp only [signed, if_true] at w
    rw [← Int.natCast_mul] at w
    omega
  | false =>
    have w : ((c * 2 ^ q.toNat : Nat) : Int) = ((N * 2 ^ (-q).toNat : Nat) : Int) := by rw [Int.natCast_mul N]; exact w
    have w : c * 2 ^ q.toNat = N * 2 ^ (-q).toNat := by exact_mod_cast w
    refine ⟨c, q, e, ?_, w⟩
    rcases Nat.eq_zero_or_pos c with h0 | h0
    · rw [h0, Nat.zero_mul] at w; omega
    · exact h0
theorem split_pow (q r : Int) : q.toNat + (-r).toNat + ((r - q) - 0).toNat = (-q).toNat + r.toNat + ((0 : Int) - (r - q)).toNat := by omega
/-- a quotient of two whole numbers above nothing -/
theorem div {N D : Nat} {a b : UInt64} (hN : 0 < N) (hD : 0 < D) (ha : DInt (N : Int) a) (hb : DInt (D : Int) b) : val64 (FP.ddiv a b) = roundRatio b64 false N D 0 := by
  obtain ⟨c, q, e1, c0, w1⟩ := pos hN ha
  obtain ⟨d, r, e2, d0, w2⟩ := pos hD hb
  rw [val64_ddiv, e1, e2]
  show (if d = 0 then _ else roundRatio b64 (false != false) c d (q - r)) = _
  rw [if_neg (by omega)]
  refine roundRatio_congr d0 hD ?_
  have p1 := Nat.two_pow_pos q.toNat
  have p2 := Nat.two_pow_pos (-r).toNat
  have p3 := Nat.two_pow_pos (-q).toNat
  have p4 := Nat.two_pow_pos r.toNat
  have key : c * D * 2 ^ (q - r - 0).toNat * (2 ^ q.toNat * 2 ^ (-r).toNat * (2 ^ (-q).toNat * 2 ^ r.toNat)) = N * d * 2 ^ (0 - (q - r)).toNat * (2 ^ q.toNat * 2 ^ (-r).toNat * (2 ^ (-q).toNat * 2 ^ r.toNat)) := by
    have a1 : c * D * 2 ^ (q - r - 0).toNat * (2 ^ q.toNat * 2 ^ (-r).toNat * (2 ^ (-q).toNat * 2 ^ r.toNat)) = (c * 2 ^ q.toNat) * (D * 2 ^ (-r).toNat) * (2 ^ (q - r - 0).toNat * 2 ^ (-q).toNat * 2 ^ r.toNat) := by ac_rfl
    have a2 : N * d * 2 ^ (0 - (q - r)).toNat * (2 ^ q.toNat * 2 ^ (-r).toNat * (2 ^ (-q).toNat * 2 ^ r.toNat)) = (N * 2 ^ (-q).toNat) * (d * 2 ^ r.toNat) * (2 ^ (0 - (q - r)).toNat * 2 ^ q.toNat * 2 ^ (-r).toNat) := by ac_rfl
    rw [a1, a2, w1, w2, ← Nat.pow_add, ← Nat.pow_add, ← Nat.pow_add, ← Nat.pow_add]
    congr 2
    omega
  exact Nat.eq_of_mul_eq_mul_right (Nat.mul_pos (Nat.mul_pos p1 p2) (Nat.mul_pos p3 p4)) key
theorem nn {N D : Nat} {a b : UInt64} (hN : 0 < N) (hD : 0 < D) (ha : DInt (N : Int) a) (hb : DInt (D : Int) b) : Jvm.Free.Fl.NoNaN64 (FP.ddiv a b) := Jvm.Free.Fl.val64_no.mpr (by rw [div hN hD ha hb]; exact roundRatio_ne_nan _ _ _ _ _)
theorem cmp_z {a b : UInt64} (ha : val64 a ≠ .nan) (hb : val64 b ≠ .nan) : FP.dcmp a b = some (compare (zval b64 (val64 a)) (zval b64 (val64 b))) := order_zval good_b64 (val64_fits a) (val64_fits b) ha hb
theorem cmp_lt {a b : UInt64} {op : ClassFile.CmpOp} (ha : val64 a ≠ .nan) (hb : val64 b ≠ .nan) (h : zval b64 (val64 a) < zval b64 (val64 b)) : cmpValue (FP.dcmp a b) op = -1 := by
  rw [cmp_z ha hb, Int.compare_eq_lt.mpr h]; rfl
theorem cmp_gt {a b : UInt64} {op : ClassFile.CmpOp} (ha : val64 a ≠ .nan) (hb : val64 b ≠ .nan) (h : zval b64 (val64 b) < zval b64 (val64 a)) : cmpValue (FP.dcmp a b) op = 1 := by
  rw [cmp_z ha hb, Int.compare_eq_gt.mpr h]; rfl
theorem zv {N D : Nat} {a b : UInt64} (hN : 0 < N) (hD : 0 < D) (ha : DInt (N : Int) a) (hb : DInt (D : Int) b) : val64 (FP.ddiv a b) ≠ .nan ∧ zval b64 (val64 (FP.ddiv a b)) = (zmag b64 (roundRatio b64 false N D 0) : Int) := by
  rw [div hN hD ha hb]
  refine ⟨roundRatio_ne_nan _ _ _ _ _, ?_⟩
  unfold zval
  rw [sgn_roundRatio]; rfl
theorem fin {i : Int} {a : UInt64} (h : DInt i a) : Jvm.Free.Fl.Fin64 a := by
  obtain ⟨s, c, q, e, -⟩ := shape h
  exact (Jvm.Free.Fl.fin64_iff a).mpr ((fin_bits a).mp ⟨s, c, q, e⟩)
theorem d2 : DInt 2 (4611686018427387904 : UInt64) := by
  unfold DInt
  rw [show val64 (4611686018427387904 : UInt64) = .fin false (2 ^ 52) (-51) by decide +kernel]
  show signed false (2 ^ 52 * 2 ^ (-51 : Int).toNat) = 2 * ((2 ^ (-(-51 : Int)).toNat : Nat) : Int)
  decide +kernel
theorem d3 : DInt 3 (4613937818241073152 : UInt64) := by
  unfold DInt
  rw [show val64 (4613937818241073152 : UInt64) = .fin false (3 * 2 ^ 51) (-51) by decide +kernel]
  show signed false (3 * 2 ^ 51 * 2 ^ (-51 : Int).toNat) = 3 * ((2 ^ (-(-51 : Int)).toNat : Nat) : Int)
  decide +kernel
theorem z0 : val64 FP.dconst0 ≠ .nan ∧ zval b64 (val64 FP.dconst0) = 0 := by
  rw [show val64 FP.dconst0 = _ from val64_dconst0]
  exact ⟨Datum.noConfusion, rfl⟩
/-- lambda + 2 mu / 3 is above nothing -/
theorem check {L M : Int} {x y : UInt64} (hx : DInt L x) (hy : DInt M y) (hM : 0 < M) (hb : M ≤ 2 ^ 45) (h : 0 < 3 * L + 2 * M) :
    Jvm.Free.Fl.NoNaN64 (FP.dmul (4611686018427387904 : UInt64) y) ∧ Jvm.Free.Fl.NoNaN64 (FP.ddiv (FP.dmul (4611686018427387904 : UInt64) y) (4613937818241073152 : UInt64)) ∧
    Jvm.Free.Fl.NoNaN64 (FP.dadd x (FP.ddiv (FP.dmul (4611686018427387904 : UInt64) y) (4613937818241073152 : UInt64))) ∧
    cmpValue (FP.dcmp (FP.dadd x (FP.ddiv (FP.dmul (4611686018427387904 : UInt64) y) (4613937818241073152 : UInt64))) FP.dconst0) .l = 1 := by
  have hm := dmul_int d2 hy (by omega)
  obtain ⟨N, hN⟩ : ∃ N : Nat, 2 * M = (N : Int) := ⟨(2 * M).toNat, by omega⟩
  have hm' : DInt (N : Int) (FP.dmul (4611686018427387904 : UInt64) y) := hN ▸ hm
  have N0 : 0 < N := by omega
  have hv := div N0 (by decide : 0 < 3) hm' d3
  obtain ⟨hn1, hz1⟩ := zv N0 (by decide : 0 < 3) hm' d3
  generalize FP.ddiv (FP.dmul (4611686018427387904 : UInt64) y) (4613937818241073152 : UInt64) = z at *
  have hsum : 0 < zval b64 (val64 x) + zval b64 (val64 z) := by
    rw [DInt_zval hx, hz1]
    have g := ge (N := N) (D := 3) (k := 4 * L.natAbs + (if L < 0 then 1 else 0)) (n := 2) (by decide)
    by_cases hL : L < 0
    · rw [if_pos hL] at g
      have g := g (by omega) (by decide) (by omega)
      have e : one64 = 2 ^ 2 * 2 ^ (1074 - 2) := (congrArg (2 ^ ·) (by decide : 1074 = 2 + (1074 - 2)) : 2 ^ 1074 = 2 ^ (2 + (1074 - 2))).trans (Nat.pow_add _ _ _)
      have p := Nat.two_pow_pos (1074 - 2)
      rw [e]
      generalize 2 ^ (1074 - 2) = P' at *
      generalize zmag b64 (roundRatio b64 false N 3 0) = U at *
      have g' : (((4 * L.natAbs + 1) * P' : Nat) : Int) ≤ (U : Int) := by exact_mod_cast g
      rw [Int.natCast_mul] at g' ⊢
      have p' : (0 : Int) < (P' : Int) := by omega
      generalize (P' : Int) = P at *
      have e2 : ((4 * L.natAbs + 1 : Nat) : Int) = 4 * (-L) + 1 := by omega
      rw [e2, Int.add_mul, Int.one_mul] at g'
      have e3 : L * (((2 ^ 2 : Nat) : Int) * P) = 4 * (L * P) := by rw [Int.mul_left_comm]; rfl
      have e4 : 4 * (-L) * P = - (4 * (L * P)) := by rw [Int.mul_assoc, Int.neg_mul, Int.mul_neg]
      rw [e3]; rw [e4] at g'
      omega
    · have g := ge (N := N) (D := 3) (k := 1) (n := 2) (by decide) (by decide) (by decide) (by omega)
      have p := Nat.two_pow_pos (1074 - 2)
      have q : 0 ≤ L * (one64 : Int) := Int.mul_nonneg (by omega) (by omega)
      generalize zmag b64 (roundRatio b64 false N 3 0) = U at *
      omega
  have nx := DInt_ne_nan hx
  obtain ⟨s, c, q, ex, -⟩ := shape hx
  have fx := val64_fits x
  have fz := val64_fits z
  have goal : val64 (FP.dadd x z) ≠ .nan ∧ 0 < zval b64 (val64 (FP.dadd x z)) := by
    rw [val64_dadd]
    rw [ex] at fx hsum ⊢
    rcases roundRatio_cases b64 false N 3 0 with ⟨d, r, e⟩ | e
    · rw [hv, e] at fz hsum ⊢
      obtain ⟨sg, n, ee, k1, k2, k3⟩ := sum_units fx fz
      rw [k1]
      show roundRatio b64 sg n 1 ee ≠ .nan ∧ 0 < zval b64 (roundRatio b64 sg n 1 ee)
      refine ⟨roundRatio_ne_nan _ _ _ _ _, ?_⟩
      rw [← k3] at hsum
      have hs : sg = false := by
        cases sg with
        | false => rfl
        | true => simp only [signed, if_true] at hsum; omega
      subst hs
      have hu : 1 ≤ inUnits n ee b64.qmin := by
        have : (0 : Int) < (inUnits n ee b64.qmin : Int) := hsum
        omega
      unfold zval
      rw [sgn_roundRatio]
      show (0 : Int) < ((zmag b64 (roundRatio b64 false n 1 ee) : Nat) : Int)
      have g := zmag_roundRatio_ge good_b64 (s := false) (A := n) (B := 1) (e := ee) (e0 := b64.qmin) (V := .fin false 1 b64.qmin) (by decide) ⟨by decide, Int.le_refl _, by decide, Or.inl rfl⟩ (Int.le_refl _) k2 (by
        show inUnits 1 b64.qmin b64.qmin * 2 ^ (b64.qmin - b64.qmin).toNat * 1 ≤ _
        rw [show inUnits 1 b64.qmin b64.qmin * 2 ^ (b64.qmin - b64.qmin).toNat * 1 = 1 by decide]
        exact hu)
      have : zmag b64 (.fin false 1 b64.qmin) = 1 := by decide
      omega
    · rw [hv, e]
      show Datum.inf false ≠ .nan ∧ 0 < zval b64 (Datum.inf false)
      exact ⟨Datum.noConfusion, by decide +kernel⟩
  refine ⟨Jvm.Free.Fl.val64_no.mpr (DInt_ne_nan hm), Jvm.Free.Fl.val64_no.mpr hn1, Jvm.Free.Fl.val64_no.mpr goal.1, cmp_gt goal.1 z0.1 (by rw [z0.2]; exact goal.2)⟩
end Jvm.Elm
namespace Jvm.Elm
open Jvm Jvm.FP.Core Sem Op
theorem eqv {N D n d : Nat} {a b a' b' : UInt64} {op : ClassFile.CmpOp} (hN : 0 < N) (hD : 0 < D) (hn : 0 < n) (hd : 0 < d) (ha : DInt (N : Int) a) (hb : DInt (D : Int) b) (ha' : DInt (n : Int) a') (hb' : DInt (d : Int) b') (h : N * d = n * D) :
    cmpValue (FP.dcmp (FP.ddiv a b) (FP.ddiv a' b')) op = 0 := by
  obtain ⟨k1, -⟩ := zv hN hD ha hb
  obtain ⟨k2, -⟩ := zv hn hd ha' hb'
  have e : val64 (FP.ddiv a b) = val64 (FP.ddiv a' b') := by
    rw [div hN hD ha hb, div hn hd ha' hb']
    exact roundRatio_congr hD hd (by rw [h])
  rw [cmp_z k1 k2, e, compare_self_int]; rfl
theorem zq : val64 (4598175219545276416 : UInt64) ≠ .nan ∧ zval b64 (val64 (4598175219545276416 : UInt64)) = ((2 ^ (1074 - 2) : Nat) : Int) := by
  rw [show val64 (4598175219545276416 : UInt64) = .fin false (2 ^ 52) (-54) by decide +kernel]
  refine ⟨Datum.noConfusion, ?_⟩
  show ((2 ^ 52 * 2 ^ (-54 - b64.qmin).toNat : Nat) : Int) = _
  rw [qmin_b64, show (-54 - -1074 : Int).toNat = 1020 by decide, ← Nat.pow_add]
theorem z1 : val64 FP.dconst1 ≠ .nan ∧ zval b64 (val64 FP.dconst1) = ((2 ^ 24 * 2 ^ (1074 - 24) : Nat) : Int) := by
  rw [show val64 FP.dconst1 = _ from val64_dconst1]
  refine ⟨Datum.noConfusion, ?_⟩
  show ((2 ^ 52 * 2 ^ (-52 - b64.qmin).toNat : Nat) : Int) = _
  rw [qmin_b64, show (-52 - -1074 : Int).toNat = 1022 by decide, ← Nat.pow_add, ← Nat.pow_add]
theorem quarter {N D : Nat} {a b : UInt64} {op : ClassFile.CmpOp} (hN : 0 < N) (hD : 0 < D) (ha : DInt (N : Int) a) (hb : DInt (D : Int) b) (h : D < 4 * N) (hb' : D ≤ 2 ^ 23) : cmpValue (FP.dcmp (4598175219545276416 : UInt64) (FP.ddiv a b)) op = -1 := by
  obtain ⟨k1, k2⟩ := zv hN hD ha hb
  refine cmp_lt zq.1 k1 ?_
  rw [zq.2, k2]
  have g := ge (N := N) (D := D) (k := 2 ^ 24 + 1) (n := 26) hD (by decide) (by decide) (by omega)
  have e : 2 ^ (1074 - 2) = 2 ^ 24 * 2 ^ (1074 - 26) := by rw [← Nat.pow_add]
  rw [e]
  have p := Nat.two_pow_pos (1074 - 26)
  generalize 2 ^ (1074 - 26) = P at *
  generalize zmag b64 (roundRatio b64 false N D 0) = U at *
  omega
theorem one {N D : Nat} {a b : UInt64} {op : ClassFile.CmpOp} (hN : 0 < N) (hD : 0 < D) (ha : DInt (N : Int) a) (hb : DInt (D : Int) b) (h : N < D) (hb' : D ≤ 2 ^ 23) : cmpValue (FP.dcmp (FP.ddiv a b) FP.dconst1) op = -1 := by
  obtain ⟨k1, k2⟩ := zv hN hD ha hb
  refine cmp_lt k1 z1.1 ?_
  rw [z1.2, k2]
  have g := le (N := N) (D := D) (k := 2 ^ 24 - 1) (n := 24) hD (by decide) (by decide) (by omega)
  exact Int.ofNat_lt.mpr (Nat.lt_of_le_of_lt g (Nat.mul_lt_mul_of_pos_right (by decide) (Nat.two_pow_pos _)))
theorem gapl (X N D DD : Nat) (h : N < D) (hb : D ≤ 2 ^ 22) (a5 : DD ≤ 2 ^ 22 * D) : X + N * 2 ^ 50 + 2 * DD + 2 * D ≤ X + D * 2 ^ 50 := by omega
theorem gap {N D k : Nat} (hD : 0 < D) (h : N < D) (hb : D ≤ 2 ^ 22) (hk : k * D ≤ N * 2 ^ 50 + D) : (k + 1) * (D + 1) ≤ (N + 1) * 2 ^ 50 := by
  refine Nat.le_of_mul_le_mul_right ?_ hD
  have a1 : (k + 1) * (D + 1) * D = (k * D + D) * (D + 1) := by rw [Nat.mul_right_comm, Nat.add_mul, Nat.one_mul]
  have a2 : (N + 1) * 2 ^ 50 * D = N * D * 2 ^ 50 + D * 2 ^ 50 := by rw [Nat.mul_right_comm, Nat.add_mul, Nat.one_mul, Nat.add_mul]
  have a3 : (N * 2 ^ 50 + 2 * D) * (D + 1) = N * D * 2 ^ 50 + N * 2 ^ 50 + 2 * (D * D) + 2 * D := by
    rw [Nat.mul_add, Nat.mul_one, Nat.add_mul, Nat.mul_right_comm, Nat.mul_assoc 2 D D]; omega
  have a4 : (k * D + D) * (D + 1) ≤ (N * 2 ^ 50 + 2 * D) * (D + 1) := Nat.mul_le_mul_right _ (by omega)
  have a5 : D * D ≤ 2 ^ 22 * D := Nat.mul_le_mul_right _ hb
  have a6 := gapl (N * D * 2 ^ 50) N D (D * D) h hb a5
  exact Nat.le_trans (Nat.le_of_eq a1) (Nat.le_trans a4 (Nat.le_trans (Nat.le_of_eq a3) (Nat.le_trans a6 (Nat.le_of_eq a2.symm))))
theorem mono {N D : Nat} {a b a' b' : UInt64} {op : ClassFile.CmpOp} (hN : 0 < N) (hD : 0 < D) (ha : DInt (N : Int) a) (hb : DInt (D : Int) b) (ha' : DInt ((N + 1 : Nat) : Int) a') (hb' : DInt ((D + 1 : Nat) : Int) b') (h : N < D) (hB : D ≤ 2 ^ 22) :
    cmpValue (FP.dcmp (FP.ddiv a b) (FP.ddiv a' b')) op = -1 := by
  obtain ⟨k1, k2⟩ := zv hN hD ha hb
  obtain ⟨k3, k4⟩ := zv (N := N + 1) (D := D + 1) (Nat.succ_pos N) (Nat.succ_pos D) ha' hb'
  refine cmp_lt k1 k3 ?_
  rw [k2, k4]
  have d := Nat.div_add_mod (N * 2 ^ 50 + (D - 1)) D
  have m := Nat.mod_lt (N * 2 ^ 50 + (D - 1)) hD
  generalize (N * 2 ^ 50 + (D - 1)) % D = r at *
  generalize (N * 2 ^ 50 + (D - 1)) / D = k at *
  rw [Nat.mul_comm] at d
  have hk : k < 2 ^ 52 := by
    refine Nat.lt_of_mul_lt_mul_right (a := D) ?_
    omega
  have g1 := le (N := N) (D := D) (k := k) (n := 50) hD (by omega) (by decide) (by omega)
  have g2 := ge (N := N + 1) (D := D + 1) (k := k + 1) (n := 50) (Nat.succ_pos D) (by omega) (by decide) (gap hD h hB (by omega))
  rw [Nat.add_mul, Nat.one_mul] at g2
  have p := Nat.two_pow_pos (1074 - 50)
  generalize 2 ^ (1074 - 50) = P at *
  omega
end Jvm.Elm
namespace Jvm.Elm
open Jvm Jvm.FP.Core Sem Op
theorem alpha {L M : Int} {x y : UInt64} (hx : DInt L x) (hy : DInt M y) (hL : L.natAbs ≤ 2 ^ 45) (hM : M.natAbs ≤ 2 ^ 45) (h1 : 0 < L + M) (h2 : 0 < L + 2 * M) :
    (Jvm.Free.Fl.NoNaN64 (FP.dadd x y) ∧ Jvm.Free.Fl.NoNaN64 (FP.dmul (4611686018427387904 : UInt64) y) ∧ Jvm.Free.Fl.NoNaN64 (FP.dadd x (FP.dmul (4611686018427387904 : UInt64) y)) ∧ Jvm.Free.Fl.NoNaN64 (FP.ddiv (FP.dadd x y) (FP.dadd x (FP.dmul (4611686018427387904 : UInt64) y)))) ∧ DInt (L + M) (FP.dadd x y) ∧ DInt (L + 2 * M) (FP.dadd x (FP.dmul (4611686018427387904 : UInt64) y)) := by
  have a := dadd_int hx hy (by omega)
  have b := dmul_int d2 hy (by omega)
  have d := dadd_int hx b (by omega)
  have e1 : L + M = ((L + M).toNat : Int) := by omega
  have e2 : L + 2 * M = ((L + 2 * M).toNat : Int) := by omega
  have q := nn (N := (L + M).toNat) (D := (L + 2 * M).toNat) (by omega) (by omega) (e1 ▸ a) (e2 ▸ d)
  exact ⟨⟨Jvm.Free.Fl.val64_no.mpr (DInt_ne_nan a), Jvm.Free.Fl.val64_no.mpr (DInt_ne_nan b), Jvm.Free.Fl.val64_no.mpr (DInt_ne_nan d), q⟩, a, d⟩
theorem cpos {M : Int} {y : UInt64} (hy : DInt M y) (hM : 0 < M) : cmpValue (FP.dcmp y FP.dconst0) .l = 1 := cmp_gt (DInt_ne_nan hy) z0.1 (by rw [z0.2, DInt_zval hy]; exact Int.mul_pos hM (by exact_mod_cast one64_pos))
/-- the facts of one object's making -/
def Med (L M : Int) (x y : UInt64) : Prop := DInt L x ∧ DInt M y ∧ L.natAbs ≤ 2 ^ 45 ∧ M.natAbs ≤ 2 ^ 45 ∧ 0 < M ∧ 0 < 3 * L + 2 * M
theorem Med.chk {L M : Int} {x y : UInt64} (h : Med L M x y) : Jvm.Free.Fl.NoNaN64 (FP.dmul (4611686018427387904 : UInt64) y) ∧ Jvm.Free.Fl.NoNaN64 (FP.ddiv (FP.dmul (4611686018427387904 : UInt64) y) (4613937818241073152 : UInt64)) ∧ Jvm.Free.Fl.NoNaN64 (FP.dadd x (FP.ddiv (FP.dmul (4611686018427387904 : UInt64) y) (4613937818241073152 : UInt64))) ∧ cmpValue (FP.dcmp (FP.dadd x (FP.ddiv (FP.dmul (4611686018427387904 : UInt64) y) (4613937818241073152 : UInt64))) FP.dconst0) .l = 1 := check h.1 h.2.1 h.2.2.2.2.1 (by have := h.2.2.2.1; omega) h.2.2.2.2.2
theorem Med.al {L M : Int} {x y : UInt64} (h : Med L M x y) : (Jvm.Free.Fl.NoNaN64 (FP.dadd x y) ∧ Jvm.Free.Fl.NoNaN64 (FP.dmul (4611686018427387904 : UInt64) y) ∧ Jvm.Free.Fl.NoNaN64 (FP.dadd x (FP.dmul (4611686018427387904 : UInt64) y)) ∧ Jvm.Free.Fl.NoNaN64 (FP.ddiv (FP.dadd x y) (FP.dadd x (FP.dmul (4611686018427387904 : UInt64) y)))) ∧ DInt (L + M) (FP.dadd x y) ∧ DInt (L + 2 * M) (FP.dadd x (FP.dmul (4611686018427387904 : UInt64) y)) := by
  obtain ⟨h1, h2, h3, h4, h5, h6⟩ := h
  exact alpha h1 h2 h3 h4 (by omega) (by omega)
theorem Med.cpos {L M : Int} {x y : UInt64} (h : Med L M x y) : cmpValue (FP.dcmp y FP.dconst0) .l = 1 := Elm.cpos h.2.1 h.2.2.2.2.1
theorem Med.quarter {L M : Int} {x y : UInt64} (h : Med L M x y) (b : L + 2 * M ≤ 2 ^ 23) : cmpValue (FP.dcmp (4598175219545276416 : UInt64) (FP.ddiv (FP.dadd x y) (FP.dadd x (FP.dmul (4611686018427387904 : UInt64) y)))) .g = -1 := by
  have q := h.al.2
  obtain ⟨h1, h2, h3, h4, h5, h6⟩ := h
  have e1 : L + M = ((L + M).toNat : Int) := by omega
  have e2 : L + 2 * M = ((L + 2 * M).toNat : Int) := by omega
  exact Elm.quarter (N := (L + M).toNat) (D := (L + 2 * M).toNat) (by omega) (by omega) (e1 ▸ q.1) (e2 ▸ q.2) (by omega) (by omega)
theorem Med.one {L M : Int} {x y : UInt64} (h : Med L M x y) (b : L + 2 * M ≤ 2 ^ 23) : cmpValue (FP.dcmp (FP.ddiv (FP.dadd x y) (FP.dadd x (FP.dmul (4611686018427387904 : UInt64) y))) FP.dconst1) .g = -1 := by
  have q := h.al.2
  obtain ⟨h1, h2, h3, h4, h5, h6⟩ := h
  have e1 : L + M = ((L + M).toNat : Int) := by omega
  have e2 : L + 2 * M = ((L + 2 * M).toNat : Int) := by omega
  exact Elm.one (N := (L + M).toNat) (D := (L + 2 * M).toNat) (by omega) (by omega) (e1 ▸ q.1) (e2 ▸ q.2) (by omega) (by omega)
theorem Med.mono {L M : Int} {x y z : UInt64} (h : Med L M x y) (h' : Med (L + 1) M z y) (b : L + 2 * M ≤ 2 ^ 22) : cmpValue (FP.dcmp (FP.ddiv (FP.dadd x y) (FP.dadd x (FP.dmul (4611686018427387904 : UInt64) y))) (FP.ddiv (FP.dadd z y) (FP.dadd z (FP.dmul (4611686018427387904 : UInt64) y)))) .g = -1 := by
  have q := h.al.2
  have q' := h'.al.2
  obtain ⟨h1, h2, h3, h4, h5, h6⟩ := h
  have e1 : L + M = ((L + M).toNat : Int) := by omega
  have e2 : L + 2 * M = ((L + 2 * M).toNat : Int) := by omega
  have e3 : L + 1 + M = (((L + M).toNat + 1 : Nat) : Int) := by omega
  have e4 : L + 1 + 2 * M = (((L + 2 * M).toNat + 1 : Nat) : Int) := by omega
  exact Elm.mono (N := (L + M).toNat) (D := (L + 2 * M).toNat) (by omega) (by omega) (e1 ▸ q.1) (e2 ▸ q.2) (e3 ▸ q'.1) (e4 ▸ q'.2) (by omega) (by omega)
theorem Med.eqv {L M S n d : Int} {x y u v : UInt64} (h : Med L M x y) (hu : DInt n u) (hv : DInt d v) (e1 : L + M = S * n) (e2 : L + 2 * M = S * d) (hn : 0 < n) (hd : 0 < d) : cmpValue (FP.dcmp (FP.ddiv (FP.dadd x y) (FP.dadd x (FP.dmul (4611686018427387904 : UInt64) y))) (FP.ddiv u v)) .l = 0 := by
  have q := h.al.2
  obtain ⟨h1, h2, h3, h4, h5, h6⟩ := h
  have f1 : L + M = ((L + M).toNat : Int) := by omega
  have f2 : L + 2 * M = ((L + 2 * M).toNat : Int) := by omega
  have f3 : n = (n.toNat : Int) := by omega
  have f4 : d = (d.toNat : Int) := by omega
  refine Elm.eqv (N := (L + M).toNat) (D := (L + 2 * M).toNat) (n := n.toNat) (d := d.toNat) (by omega) (by omega) (by omega) (by omega) (f1 ▸ q.1) (f2 ▸ q.2) (f3 ▸ hu) (f4 ▸ hv) ?_
  have : (((L + M).toNat * d.toNat : Nat) : Int) = ((n.toNat * (L + 2 * M).toNat : Nat) : Int) := by
    rw [Int.natCast_mul, Int.natCast_mul, ← f1, ← f2, ← f3, ← f4, e1, e2]; ac_rfl
  exact_mod_cast this
end Jvm.Elm
namespace Jvm.Pilot.@@N@@
open Jvm Jvm.ClassFile Sem Op Lib Jvm.Free Jvm.Stand Jvm.LawKit Jvm.RoadKit Bundle Jvm.Own Jvm.Pilot.@@N@@.Jvm.D
abbrev y1 : MethodName := ⟨"com/example/faultloom/faultloom/core/elastic/ElasticModuli", "<init>", "(DD)V"⟩
abbrev y2 : MethodName := ⟨"java/lang/Record", "<init>", "()V"⟩
abbrev y3 : MethodName := ⟨"java/lang/Object", "<init>", "()V"⟩
abbrev y4 : MethodName := ⟨"java/lang/Double", "isFinite", "(D)Z"⟩
abbrev y5 : MethodName := ⟨"java/lang/Math", "abs", "(D)D"⟩
abbrev y6 : MethodName := ⟨"com/example/faultloom/faultloom/core/elastic/ElasticModuli", "alpha", "()D"⟩
theorem pd_0 : parseMethodDescriptor "()V" = some ⟨[], none⟩ := by decide +kernel
theorem pd_1 : parseMethodDescriptor "(D)Z" = some ⟨[.double], some .boolean⟩ := by decide +kernel
theorem pd_2 : parseMethodDescriptor "(DD)V" = some ⟨[.double, .double], none⟩ := by decide +kernel
theorem pd_3 : parseMethodDescriptor "()D" = some ⟨[], some .double⟩ := by decide +kernel
theorem wd_0 {a0 : Array Value} {Z : State} (hw : ∀ d ∈ tables_1, d.before a0 Z = true) : (Jvm.Cond.constant "com/example/faultloom/faultloom/core/elastic/ElasticModuliAlphaPinLaw" (7 : Nat) (2147483647 : Int32)).before a0 Z = true := hw _ (List.mem_of_getElem? (i := 0) rfl)
theorem wd_1 {a0 : Array Value} {Z : State} (hw : ∀ d ∈ tables_1, d.before a0 Z = true) : (Jvm.Cond.constant "com/example/faultloom/faultloom/core/elastic/ElasticModuliAlphaPinLaw" (8 : Nat) (1048575 : Int32)).before a0 Z = true := hw _ (List.mem_of_getElem? (i := 1) rfl)
theorem wd_2 {a0 : Array Value} {Z : State} (hw : ∀ d ∈ tables_1, d.before a0 Z = true) : (Jvm.Cond.classLink "com/example/faultloom/faultloom/core/elastic/ElasticModuliAlphaPinLaw" (9 : Nat) "com/example/faultloom/faultloom/core/elastic/ElasticModuli").before a0 Z = true := hw _ (List.mem_of_getElem? (i := 2) rfl)
theorem wd_3 {a0 : Array Value} {Z : State} (hw : ∀ d ∈ tables_1, d.before a0 Z = true) : (Jvm.Cond.instantiable "com/example/faultloom/faultloom/core/elastic/ElasticModuli" (2 : Nat)).before a0 Z = true := hw _ (List.mem_of_getElem? (i := 3) rfl)
theorem wd_4 {a0 : Array Value} {Z : State} (hw : ∀ d ∈ tables_1, d.before a0 Z = true) : (Jvm.Cond.initialized "com/example/faultloom/faultloom/core/elastic/ElasticModuli").before a0 Z = true := hw _ (List.mem_of_getElem? (i := 4) rfl)
theorem wd_5 {a0 : Array Value} {Z : State} (hw : ∀ d ∈ tables_1, d.before a0 Z = true) : (Jvm.Cond.methodLink "com/example/faultloom/faultloom/core/elastic/ElasticModuliAlphaPinLaw" (11 : Nat) ({ cls := "com/example/faultloom/faultloom/core/elastic/ElasticModuli", name := "<init>", desc := "(DD)V" } : Jvm.MethodName)).before a0 Z = true := hw _ (List.mem_of_getElem? (i := 5) rfl)
theorem wd_6 {a0 : Array Value} {Z : State} (hw : ∀ d ∈ tables_1, d.before a0 Z = true) : (Jvm.Cond.instanceMethod ({ cls := "com/example/faultloom/faultloom/core/elastic/ElasticModuli", name := "<init>", desc := "(DD)V" } : Jvm.MethodName)).before a0 Z = true := hw _ (List.mem_of_getElem? (i := 6) rfl)
theorem wd_7 {a0 : Array Value} {Z : State} (hw : ∀ d ∈ tables_1, d.before a0 Z = true) : (Jvm.Cond.code ({ cls := "com/example/faultloom/faultloom/core/elastic/ElasticModuli", name := "<init>", desc := "(DD)V" } : Jvm.MethodName) prog_10_method_1_code (5 : Nat) (Option.none : Option Jvm.ClassFile.FieldType)).before a0 Z = true := hw _ (List.mem_of_getElem? (i := 7) rfl)
theorem wd_8 {a0 : Array Value} {Z : State} (hw : ∀ d ∈ tables_1, d.before a0 Z = true) : (Jvm.Cond.methodLink "com/example/faultloom/faultloom/core/elastic/ElasticModuli" (1 : Nat) ({ cls := "java/lang/Record", name := "<init>", desc := "()V" } : Jvm.MethodName)).before a0 Z = true := hw _ (List.mem_of_getElem? (i := 8) rfl)
theorem wd_9 {a0 : Array Value} {Z : State} (hw : ∀ d ∈ tables_1, d.before a0 Z = true) : (Jvm.Cond.instanceMethod ({ cls := "java/lang/Record", name := "<init>", desc := "()V" } : Jvm.MethodName)).before a0 Z = true := hw _ (List.mem_of_getElem? (i := 9) rfl)
theorem wd_11 {a0 : Array Value} {Z : State} (hw : ∀ d ∈ tables_1, d.before a0 Z = true) : (Jvm.Cond.initialized "java/lang/Record").before a0 Z = true := hw _ (List.mem_of_getElem? (i := 11) rfl)
theorem wd_12 {a0 : Array Value} {Z : State} (hw : ∀ d ∈ tables_1, d.before a0 Z = true) : (Jvm.Cond.code ({ cls := "java/lang/Record", name := "<init>", desc := "()V" } : Jvm.MethodName) jdk_30_method_1_code (1 : Nat) (Option.none : Option Jvm.ClassFile.FieldType)).before a0 Z = true := hw _ (List.mem_of_getElem? (i := 12) rfl)
theorem wd_13 {a0 : Array Value} {Z : State} (hw : ∀ d ∈ tables_1, d.before a0 Z = true) : (Jvm.Cond.methodLink "java/lang/Record" (1 : Nat) ({ cls := "java/lang/Object", name := "<init>", desc := "()V" } : Jvm.MethodName)).before a0 Z = true := hw _ (List.mem_of_getElem? (i := 13) rfl)
theorem wd_14 {a0 : Array Value} {Z : State} (hw : ∀ d ∈ tables_1, d.before a0 Z = true) : (Jvm.Cond.instanceMethod ({ cls := "java/lang/Object", name := "<init>", desc := "()V" } : Jvm.MethodName)).before a0 Z = true := hw _ (List.mem_of_getElem? (i := 14) rfl)
theorem wd_15 {a0 : Array Value} {Z : State} (hw : ∀ d ∈ tables_1, d.before a0 Z = true) : (Jvm.Cond.code ({ cls := "java/lang/Object", name := "<init>", desc := "()V" } : Jvm.MethodName) object_method_1_code (1 : Nat) (Option.none : Option Jvm.ClassFile.FieldType)).before a0 Z = true := hw _ (List.mem_of_getElem? (i := 15) rfl)
theorem wd_16 {a0 : Array Value} {Z : State} (hw : ∀ d ∈ tables_1, d.before a0 Z = true) : (Jvm.Cond.methodLink "com/example/faultloom/faultloom/core/elastic/ElasticModuli" (7 : Nat) ({ cls := "java/lang/Double", name := "isFinite", desc := "(D)Z" } : Jvm.MethodName)).before a0 Z = true := hw _ (List.mem_of_getElem? (i := 16) rfl)
theorem wd_17 {a0 : Array Value} {Z : State} (hw : ∀ d ∈ tables_1, d.before a0 Z = true) : (Jvm.Cond.static ({ cls := "java/lang/Double", name := "isFinite", desc := "(D)Z" } : Jvm.MethodName)).before a0 Z = true := hw _ (List.mem_of_getElem? (i := 17) rfl)
theorem wd_18 {a0 : Array Value} {Z : State} (hw : ∀ d ∈ tables_1, d.before a0 Z = true) : (Jvm.Cond.initialized "java/lang/Double").before a0 Z = true := hw _ (List.mem_of_getElem? (i := 18) rfl)
theorem wd_19 {a0 : Array Value} {Z : State} (hw : ∀ d ∈ tables_1, d.before a0 Z = true) : (Jvm.Cond.code ({ cls := "java/lang/Double", name := "isFinite", desc := "(D)Z" } : Jvm.MethodName) jdk_117_method_8_code (2 : Nat) (Option.some Jvm.ClassFile.FieldType.boolean)).before a0 Z = true := hw _ (List.mem_of_getElem? (i := 19) rfl)
theorem wd_20 {a0 : Array Value} {Z : State} (hw : ∀ d ∈ tables_1, d.before a0 Z = true) : (Jvm.Cond.methodLink "java/lang/Double" (38 : Nat) ({ cls := "java/lang/Math", name := "abs", desc := "(D)D" } : Jvm.MethodName)).before a0 Z = true := hw _ (List.mem_of_getElem? (i := 20) rfl)
theorem wd_21 {a0 : Array Value} {Z : State} (hw : ∀ d ∈ tables_1, d.before a0 Z = true) : (Jvm.Cond.static ({ cls := "java/lang/Math", name := "abs", desc := "(D)D" } : Jvm.MethodName)).before a0 Z = true := hw _ (List.mem_of_getElem? (i := 21) rfl)
theorem wd_22 {a0 : Array Value} {Z : State} (hw : ∀ d ∈ tables_1, d.before a0 Z = true) : (Jvm.Cond.initialized "java/lang/Math").before a0 Z = true := hw _ (List.mem_of_getElem? (i := 22) rfl)
theorem wd_23 {a0 : Array Value} {Z : State} (hw : ∀ d ∈ tables_1, d.before a0 Z = true) : (Jvm.Cond.code ({ cls := "java/lang/Math", name := "abs", desc := "(D)D" } : Jvm.MethodName) jdk_29_method_64_code (2 : Nat) (Option.some Jvm.ClassFile.FieldType.double)).before a0 Z = true := hw _ (List.mem_of_getElem? (i := 23) rfl)
theorem wd_24 {a0 : Array Value} {Z : State} (hw : ∀ d ∈ tables_1, d.before a0 Z = true) : (Jvm.Cond.constantDouble "java/lang/Double" (111 : Nat) (9218868437227405311 : UInt64)).before a0 Z = true := hw _ (List.mem_of_getElem? (i := 24) rfl)
theorem wd_25 {a0 : Array Value} {Z : State} (hw : ∀ d ∈ tables_1, d.before a0 Z = true) : (Jvm.Cond.constantDouble "com/example/faultloom/faultloom/core/elastic/ElasticModuli" (25 : Nat) (4611686018427387904 : UInt64)).before a0 Z = true := hw _ (List.mem_of_getElem? (i := 25) rfl)
theorem wd_26 {a0 : Array Value} {Z : State} (hw : ∀ d ∈ tables_1, d.before a0 Z = true) : (Jvm.Cond.constantDouble "com/example/faultloom/faultloom/core/elastic/ElasticModuli" (27 : Nat) (4613937818241073152 : UInt64)).before a0 Z = true := hw _ (List.mem_of_getElem? (i := 26) rfl)
theorem wd_27 {a0 : Array Value} {Z : State} (hw : ∀ d ∈ tables_1, d.before a0 Z = true) : (Jvm.Cond.fieldLink "com/example/faultloom/faultloom/core/elastic/ElasticModuli" (30 : Nat) "com/example/faultloom/faultloom/core/elastic/ElasticModuli" "lambda" "D").before a0 Z = true := hw _ (List.mem_of_getElem? (i := 27) rfl)
theorem wd_28 {a0 : Array Value} {Z : State} (hw : ∀ d ∈ tables_1, d.before a0 Z = true) : (Jvm.Cond.laysFinal "com/example/faultloom/faultloom/core/elastic/ElasticModuli" "com/example/faultloom/faultloom/core/elastic/ElasticModuli" "lambda" "D").before a0 Z = true := hw _ (List.mem_of_getElem? (i := 28) rfl)
theorem wd_29 {a0 : Array Value} {Z : State} (hw : ∀ d ∈ tables_1, d.before a0 Z = true) : (Jvm.Cond.fieldLink "com/example/faultloom/faultloom/core/elastic/ElasticModuli" (36 : Nat) "com/example/faultloom/faultloom/core/elastic/ElasticModuli" "mu" "D").before a0 Z = true := hw _ (List.mem_of_getElem? (i := 29) rfl)
theorem wd_30 {a0 : Array Value} {Z : State} (hw : ∀ d ∈ tables_1, d.before a0 Z = true) : (Jvm.Cond.laysFinal "com/example/faultloom/faultloom/core/elastic/ElasticModuli" "com/example/faultloom/faultloom/core/elastic/ElasticModuli" "mu" "D").before a0 Z = true := hw _ (List.mem_of_getElem? (i := 30) rfl)
theorem wd_31 {a0 : Array Value} {Z : State} (hw : ∀ d ∈ tables_1, d.before a0 Z = true) : (Jvm.Cond.methodLink "com/example/faultloom/faultloom/core/elastic/ElasticModuliAlphaPinLaw" (14 : Nat) ({ cls := "com/example/faultloom/faultloom/core/elastic/ElasticModuli", name := "alpha", desc := "()D" } : Jvm.MethodName)).before a0 Z = true := hw _ (List.mem_of_getElem? (i := 31) rfl)
theorem wd_32 {a0 : Array Value} {Z : State} (hw : ∀ d ∈ tables_1, d.before a0 Z = true) : (Jvm.Cond.declares ({ cls := "com/example/faultloom/faultloom/core/elastic/ElasticModuli", name := "alpha", desc := "()D" } : Jvm.MethodName)).before a0 Z = true := hw _ (List.mem_of_getElem? (i := 32) rfl)
theorem wd_33 {a0 : Array Value} {Z : State} (hw : ∀ d ∈ tables_1, d.before a0 Z = true) : (Jvm.Cond.instanceMethod ({ cls := "com/example/faultloom/faultloom/core/elastic/ElasticModuli", name := "alpha", desc := "()D" } : Jvm.MethodName)).before a0 Z = true := hw _ (List.mem_of_getElem? (i := 33) rfl)
theorem wd_34 {a0 : Array Value} {Z : State} (hw : ∀ d ∈ tables_1, d.before a0 Z = true) : (Jvm.Cond.selects "com/example/faultloom/faultloom/core/elastic/ElasticModuli" ({ cls := "com/example/faultloom/faultloom/core/elastic/ElasticModuli", name := "alpha", desc := "()D" } : Jvm.MethodName) ({ cls := "com/example/faultloom/faultloom/core/elastic/ElasticModuli", name := "alpha", desc := "()D" } : Jvm.MethodName)).before a0 Z = true := hw _ (List.mem_of_getElem? (i := 34) rfl)
theorem wd_35 {a0 : Array Value} {Z : State} (hw : ∀ d ∈ tables_1, d.before a0 Z = true) : (Jvm.Cond.code ({ cls := "com/example/faultloom/faultloom/core/elastic/ElasticModuli", name := "alpha", desc := "()D" } : Jvm.MethodName) prog_10_method_2_code (1 : Nat) (Option.some Jvm.ClassFile.FieldType.double)).before a0 Z = true := hw _ (List.mem_of_getElem? (i := 35) rfl)
theorem wd_36 {a0 : Array Value} {Z : State} (hw : ∀ d ∈ tables_1, d.before a0 Z = true) : (Jvm.Cond.constant "com/example/faultloom/faultloom/core/elastic/ElasticModuliAlphaPinLaw" (18 : Nat) (2097152 : Int32)).before a0 Z = true := hw _ (List.mem_of_getElem? (i := 36) rfl)
theorem wd_37 {a0 : Array Value} {Z : State} (hw : ∀ d ∈ tables_1, d.before a0 Z = true) : (Jvm.Cond.constantLong "com/example/faultloom/faultloom/core/elastic/ElasticModuliAlphaPinLaw" (19 : Nat) (3 : Int64)).before a0 Z = true := hw _ (List.mem_of_getElem? (i := 37) rfl)
theorem wd_38 {a0 : Array Value} {Z : State} (hw : ∀ d ∈ tables_1, d.before a0 Z = true) : (Jvm.Cond.constantLong "com/example/faultloom/faultloom/core/elastic/ElasticModuliAlphaPinLaw" (21 : Nat) (2 : Int64)).before a0 Z = true := hw _ (List.mem_of_getElem? (i := 38) rfl)
theorem wd_39 {a0 : Array Value} {Z : State} (hw : ∀ d ∈ tables_1, d.before a0 Z = true) : (Jvm.Cond.constantDouble "com/example/faultloom/faultloom/core/elastic/ElasticModuliAlphaPinLaw" (23 : Nat) (4598175219545276416 : UInt64)).before a0 Z = true := hw _ (List.mem_of_getElem? (i := 39) rfl)
theorem d1_0 : decode prog_10_method_1_code 0 = .ok (.aload_n 0, 1) := by decide +kernel
theorem d1_1 : decode prog_10_method_1_code 1 = .ok (.invokespecial 1, 3) := by decide +kernel
theorem d1_4 : decode prog_10_method_1_code 4 = .ok (.dload_n 1, 1) := by decide +kernel
theorem d1_5 : decode prog_10_method_1_code 5 = .ok (.invokestatic 7, 3) := by decide +kernel
theorem d1_8 : decode prog_10_method_1_code 8 = .ok (.ifCond .eq 10, 3) := by decide +kernel
theorem d1_11 : decode prog_10_method_1_code 11 = .ok (.dload_n 3, 1) := by decide +kernel
theorem d1_12 : decode prog_10_method_1_code 12 = .ok (.invokestatic 7, 3) := by decide +kernel
theorem d1_15 : decode prog_10_method_1_code 15 = .ok (.ifCond .ne 18, 3) := by decide +kernel
theorem d1_33 : decode prog_10_method_1_code 33 = .ok (.dload_n 3, 1) := by decide +kernel
theorem d1_34 : decode prog_10_method_1_code 34 = .ok (.dconst 0, 1) := by decide +kernel
theorem d1_35 : decode prog_10_method_1_code 35 = .ok (.dcmp .l, 1) := by decide +kernel
theorem d1_36 : decode prog_10_method_1_code 36 = .ok (.ifCond .gt 17, 3) := by decide +kernel
theorem d1_53 : decode prog_10_method_1_code 53 = .ok (.dload_n 1, 1) := by decide +kernel
theorem d1_54 : decode prog_10_method_1_code 54 = .ok (.ldc2_w 25, 3) := by decide +kernel
theorem d1_57 : decode prog_10_method_1_code 57 = .ok (.dload_n 3, 1) := by decide +kernel
theorem d1_58 : decode prog_10_method_1_code 58 = .ok (.dmul, 1) := by decide +kernel
theorem d1_59 : decode prog_10_method_1_code 59 = .ok (.ldc2_w 27, 3) := by decide +kernel
theorem d1_62 : decode prog_10_method_1_code 62 = .ok (.ddiv, 1) := by decide +kernel
theorem d1_63 : decode prog_10_method_1_code 63 = .ok (.dadd, 1) := by decide +kernel
theorem d1_64 : decode prog_10_method_1_code 64 = .ok (.dconst 0, 1) := by decide +kernel
theorem d1_65 : decode prog_10_method_1_code 65 = .ok (.dcmp .l, 1) := by decide +kernel
theorem d1_66 : decode prog_10_method_1_code 66 = .ok (.ifCond .gt 18, 3) := by decide +kernel
theorem d1_84 : decode prog_10_method_1_code 84 = .ok (.aload_n 0, 1) := by decide +kernel
theorem d1_85 : decode prog_10_method_1_code 85 = .ok (.dload_n 1, 1) := by decide +kernel
theorem d1_86 : decode prog_10_method_1_code 86 = .ok (.putfield 30, 3) := by decide +kernel
theorem d1_89 : decode prog_10_method_1_code 89 = .ok (.aload_n 0, 1) := by decide +kernel
theorem d1_90 : decode prog_10_method_1_code 90 = .ok (.dload_n 3, 1) := by decide +kernel
theorem d1_91 : decode prog_10_method_1_code 91 = .ok (.putfield 36, 3) := by decide +kernel
theorem d1_94 : decode prog_10_method_1_code 94 = .ok (.return_, 1) := by decide +kernel
theorem d2_0 : decode jdk_30_method_1_code 0 = .ok (.aload_n 0, 1) := by decide +kernel
theorem d2_1 : decode jdk_30_method_1_code 1 = .ok (.invokespecial 1, 3) := by decide +kernel
theorem d2_4 : decode jdk_30_method_1_code 4 = .ok (.return_, 1) := by decide +kernel
theorem d6_0 : decode prog_10_method_2_code 0 = .ok (.aload_n 0, 1) := by decide +kernel
theorem d6_1 : decode prog_10_method_2_code 1 = .ok (.getfield 30, 3) := by decide +kernel
theorem d6_4 : decode prog_10_method_2_code 4 = .ok (.aload_n 0, 1) := by decide +kernel
theorem d6_5 : decode prog_10_method_2_code 5 = .ok (.getfield 36, 3) := by decide +kernel
theorem d6_8 : decode prog_10_method_2_code 8 = .ok (.dadd, 1) := by decide +kernel
theorem d6_9 : decode prog_10_method_2_code 9 = .ok (.aload_n 0, 1) := by decide +kernel
theorem d6_10 : decode prog_10_method_2_code 10 = .ok (.getfield 30, 3) := by decide +kernel
theorem d6_13 : decode prog_10_method_2_code 13 = .ok (.ldc2_w 25, 3) := by decide +kernel
theorem d6_16 : decode prog_10_method_2_code 16 = .ok (.aload_n 0, 1) := by decide +kernel
theorem d6_17 : decode prog_10_method_2_code 17 = .ok (.getfield 36, 3) := by decide +kernel
theorem d6_20 : decode prog_10_method_2_code 20 = .ok (.dmul, 1) := by decide +kernel
theorem d6_21 : decode prog_10_method_2_code 21 = .ok (.dadd, 1) := by decide +kernel
theorem d6_22 : decode prog_10_method_2_code 22 = .ok (.ddiv, 1) := by decide +kernel
theorem d6_23 : decode prog_10_method_2_code 23 = .ok (.dreturn, 1) := by decide +kernel
theorem own_dn {V : Int} {x : UInt64} (h : Jvm.FP.Core.DInt V x) : Jvm.Free.Fl.NoNaN64 x := Jvm.Free.Fl.val64_no.mpr fun q => by
  unfold Jvm.FP.Core.DInt at h; rw [q] at h; exact h.elim
theorem own_mb {i j : Int} {a b : Nat} (hi : i.natAbs ≤ a) (hj : j.natAbs ≤ b) : (i * j).natAbs ≤ a * b := by rw [Int.natAbs_mul]; exact Nat.mul_le_mul hi hj
theorem own_ab {i j : Int} {a b : Nat} (hi : i.natAbs ≤ a) (hj : j.natAbs ≤ b) : (i + j).natAbs ≤ a + b := by omega
theorem own_sb {i j : Int} {a b : Nat} (hi : i.natAbs ≤ a) (hj : j.natAbs ≤ b) : (i - j).natAbs ≤ a + b := by omega
theorem own_dc0 {i j : Int} {a b : UInt64} {op : CmpOp} (ha : Jvm.FP.Core.DInt i a) (hb : Jvm.FP.Core.DInt j b) (h : i = j) : cmpValue (FP.dcmp a b) op = 0 := by
  have := Jvm.FP.Core.dcmp_int ha hb
  rw [show FP.dcmp a b = some (compare i j) from this, h, Jvm.FP.Core.compare_self_int]; rfl
theorem own_d0 : Jvm.FP.Core.DInt 0 FP.dconst0 := by
  unfold Jvm.FP.Core.DInt
  rw [show Jvm.FP.Core.val64 FP.dconst0 = _ from Jvm.FP.Core.val64_dconst0]
  show Jvm.FP.Core.signed false (0 * 2 ^ (Jvm.FP.Core.b64.qmin).toNat) = 0 * _
  rw [Nat.zero_mul, Int.zero_mul]; rfl
theorem own_lm {x y : Int64} {b : Nat} (h : (x.toInt * y.toInt).natAbs ≤ b) (hb : b < 2 ^ 62) : (x * y).toInt = x.toInt * y.toInt := by
  have k := c_lmul x y
  have r := rng64 (x * y)
  omega
theorem own_la {x y : Int64} {b : Nat} (h : (x.toInt + y.toInt).natAbs ≤ b) (hb : b < 2 ^ 62) : (x + y).toInt = x.toInt + y.toInt := by
  have k := c_ladd x y
  have r := rng64 (x + y)
  omega
theorem own_ls {x y : Int64} {b : Nat} (h : (x.toInt - y.toInt).natAbs ≤ b) (hb : b < 2 ^ 62) : (x - y).toInt = x.toInt - y.toInt := by
  have k := c_lsub x y
  have r := rng64 (x - y)
  omega
theorem own_dval (x : Int32) : 4 ≤ ((1 : Int32) <<< (((x &&& (15 : Int32)) + (2 : Int32)) &&& 31)).toInt ∧ ((1 : Int32) <<< (((x &&& (15 : Int32)) + (2 : Int32)) &&& 31)).toInt ≤ 131072 ∧ ((1 : Int32) <<< (((x &&& (15 : Int32)) + (2 : Int32)) &&& 31)).toInt % 4 = 0 := by
  have h := c_mask x (15 : Int32) 4 (by decide) (by decide)
  generalize x &&& (15 : Int32) = z at *
  have h' : z.toInt = 0 ∨ z.toInt = 1 ∨ z.toInt = 2 ∨ z.toInt = 3 ∨ z.toInt = 4 ∨ z.toInt = 5 ∨ z.toInt = 6 ∨ z.toInt = 7 ∨ z.toInt = 8 ∨ z.toInt = 9 ∨ z.toInt = 10 ∨ z.toInt = 11 ∨ z.toInt = 12 ∨ z.toInt = 13 ∨ z.toInt = 14 ∨ z.toInt = 15 := by omega
  have : z = (0 : Int32) ∨ z = (1 : Int32) ∨ z = (2 : Int32) ∨ z = (3 : Int32) ∨ z = (4 : Int32) ∨ z = (5 : Int32) ∨ z = (6 : Int32) ∨ z = (7 : Int32) ∨ z = (8 : Int32) ∨ z = (9 : Int32) ∨ z = (10 : Int32) ∨ z = (11 : Int32) ∨ z = (12 : Int32) ∨ z = (13 : Int32) ∨ z = (14 : Int32) ∨ z = (15 : Int32) := by rcases h' with h | h | h | h | h | h | h | h | h | h | h | h | h | h | h | h <;> simp [← Int32.toInt_inj, h]
  rcases this with rfl | rfl | rfl | rfl | rfl | rfl | rfl | rfl | rfl | rfl | rfl | rfl | rfl | rfl | rfl | rfl
  all_goals decide
theorem own_low {z : Int32} (h : 4 ≤ z.toInt ∧ z.toInt ≤ 131072 ∧ z.toInt % 4 = 0) : ((z / (4 : Int32)) + (1 : Int32)).toInt = z.toInt / 4 + 1 ∧ (z - ((z / (4 : Int32)) + (1 : Int32))).toInt = z.toInt - z.toInt / 4 - 1 := by
  have a := (c_idiv z (4 : Int32) 4 (by decide) (by decide)).1 (by omega)
  have b := c_iadd (z / (4 : Int32)) (1 : Int32)
  have r := rng32 ((z / (4 : Int32)) + (1 : Int32))
  have e : (1 : Int32).toInt = 1 := rfl
  have b' : ((z / (4 : Int32)) + (1 : Int32)).toInt = z.toInt / 4 + 1 := by omega
  have d := c_isub z ((z / (4 : Int32)) + (1 : Int32))
  have r2 := rng32 (z - ((z / (4 : Int32)) + (1 : Int32)))
  exact ⟨b', by omega⟩
theorem own_span {z : Int32} (h : 4 ≤ z.toInt ∧ z.toInt ≤ 131072 ∧ z.toInt % 4 = 0) : z - ((z / (4 : Int32)) + (1 : Int32)) ≠ 0 := by
  intro q
  have := (own_low h).2
  rw [q] at this
  have e : (0 : Int32).toInt = 0 := rfl
  omega
theorem own_nn {z : Int32} (x : Int32) (h : 4 ≤ z.toInt ∧ z.toInt ≤ 131072 ∧ z.toInt % 4 = 0) : z.toInt < 4 * (((z / (4 : Int32)) + (1 : Int32)) + ((x &&& (2147483647 : Int32)) % (z - ((z / (4 : Int32)) + (1 : Int32))))).toInt ∧ (((z / (4 : Int32)) + (1 : Int32)) + ((x &&& (2147483647 : Int32)) % (z - ((z / (4 : Int32)) + (1 : Int32))))).toInt < z.toInt := by
  obtain ⟨h1, h2⟩ := own_low h
  have m := (c_and x (2147483647 : Int32) (by decide)).1
  obtain ⟨r, r3, -⟩ := (c_iremV (x &&& (2147483647 : Int32)) (z - ((z / (4 : Int32)) + (1 : Int32)))).1 m (by omega)
  have a := c_iadd ((z / (4 : Int32)) + (1 : Int32)) ((x &&& (2147483647 : Int32)) % (z - ((z / (4 : Int32)) + (1 : Int32))))
  have r2 := rng32 (((z / (4 : Int32)) + (1 : Int32)) + ((x &&& (2147483647 : Int32)) % (z - ((z / (4 : Int32)) + (1 : Int32)))))
  generalize ((z / (4 : Int32)) + (1 : Int32)) + ((x &&& (2147483647 : Int32)) % (z - ((z / (4 : Int32)) + (1 : Int32)))) = w at *
  generalize (x &&& (2147483647 : Int32)) % (z - ((z / (4 : Int32)) + (1 : Int32))) = v at *
  rw [h2] at r3
  rw [h1] at a
  generalize z.toInt = D at *
  obtain ⟨k, hk⟩ : ∃ k, D = 4 * k := ⟨D / 4, by omega⟩
  subst hk
  have e4 : 4 * k / 4 = k := by omega
  rw [e4] at r3 a
  have hw : w.toInt = k + 1 + v.toInt := by omega
  omega
theorem own_ss (x : Int32) : 1 ≤ ((x &&& (1048575 : Int32)).toInt64 + (1 : Int64)).toInt ∧ ((x &&& (1048575 : Int32)).toInt64 + (1 : Int64)).toInt ≤ 1048576 := by
  have h := c_and x (1048575 : Int32) (by decide)
  have e := c_i2l (x &&& (1048575 : Int32))
  have e1 : (1 : Int64).toInt = 1 := rfl
  have e2 : (1048575 : Int32).toInt = 1048575 := rfl
  have b := own_la (x := (x &&& (1048575 : Int32)).toInt64) (y := (1 : Int64)) (b := 1048576) (by omega) (by decide)
  omega
theorem own_ll (x : Int32) : -2097152 < ((x % (2097152 : Int32)).toInt64).toInt ∧ ((x % (2097152 : Int32)).toInt64).toInt < 2097152 := by
  have h := c_irem x (2097152 : Int32) 2097152 rfl
  have e := c_i2l (x % (2097152 : Int32))
  omega
theorem own_mul {s : Int64} {k : Int32} (hs : 1 ≤ s.toInt ∧ s.toInt ≤ 1048576) (hk : k.toInt.natAbs ≤ 131072) : (s * k.toInt64).toInt = s.toInt * k.toInt ∧ (s.toInt * k.toInt).natAbs ≤ 137438953472 := by
  have e := c_i2l k
  have b : (s.toInt * k.toInt).natAbs ≤ 1048576 * 131072 := own_mb (by omega) hk
  have a := own_lm (x := s) (y := k.toInt64) (b := 1048576 * 131072) (by rw [e]; exact b) (by decide)
  rw [e] at a
  exact ⟨a, b⟩
theorem own_ex {s : Int64} {n d : Int32} (hs : 1 ≤ s.toInt ∧ s.toInt ≤ 1048576) (hd : 4 ≤ d.toInt ∧ d.toInt ≤ 131072 ∧ d.toInt % 4 = 0) (hn : d.toInt < 4 * n.toInt ∧ n.toInt < d.toInt) :
    ∃ L M, Jvm.Elm.Med L M (FP.l2d (s * (((2 : Int32) * n) - d).toInt64)) (FP.l2d (s * (d - n).toInt64)) ∧ L + M = s.toInt * n.toInt ∧ L + 2 * M = s.toInt * d.toInt := by
  have a1 := c_imul (2 : Int32) n
  have e2 : (2 : Int32).toInt = 2 := rfl
  have a2 := c_isub ((2 : Int32) * n) d
  have r1 := rng32 ((2 : Int32) * n)
  have r2 := rng32 (((2 : Int32) * n) - d)
  have a3 := c_isub d n
  have r3 := rng32 (d - n)
  have f1 : (((2 : Int32) * n) - d).toInt = 2 * n.toInt - d.toInt := by rw [e2] at a1; omega
  have f2 : (d - n).toInt = d.toInt - n.toInt := by omega
  obtain ⟨g1, b1⟩ := own_mul (k := ((2 : Int32) * n) - d) hs (by omega)
  obtain ⟨g2, b2⟩ := own_mul (k := d - n) hs (by omega)
  rw [f1] at g1 b1
  rw [f2] at g2 b2
  have x1 : s.toInt * (2 * n.toInt - d.toInt) = 2 * (s.toInt * n.toInt) - s.toInt * d.toInt := by rw [Int.mul_sub, Int.mul_left_comm]
  have x2 : s.toInt * (d.toInt - n.toInt) = s.toInt * d.toInt - s.toInt * n.toInt := Int.mul_sub _ _ _
  have p1 : 0 < s.toInt * (d.toInt - n.toInt) := Int.mul_pos (by omega) (by omega)
  have p2 : 0 < s.toInt * (4 * n.toInt - d.toInt) := Int.mul_pos (by omega) (by omega)
  have x3 : s.toInt * (4 * n.toInt - d.toInt) = 4 * (s.toInt * n.toInt) - s.toInt * d.toInt := by rw [Int.mul_sub, Int.mul_left_comm]
  have D1 := Jvm.FP.Core.l2d_int (a := s * (((2 : Int32) * n) - d).toInt64) (by rw [g1]; omega)
  have D2 := Jvm.FP.Core.l2d_int (a := s * (d - n).toInt64) (by rw [g2]; omega)
  rw [g1] at D1
  rw [g2] at D2
  refine ⟨_, _, ⟨D1, D2, by omega, by omega, p1, ?_⟩, ?_, ?_⟩
  · rw [x1, x2]; rw [x3] at p2; omega
  · rw [x1, x2]; omega
  · rw [x1, x2]; omega
theorem own_gen {a b : Int64} (ha : -2097152 < a.toInt ∧ a.toInt < 2097152) (hb : 1 ≤ b.toInt ∧ b.toInt ≤ 1048576) (h : (0 : Int64) < ((3 : Int64) * a) + ((2 : Int64) * b)) :
    Jvm.Elm.Med a.toInt b.toInt (FP.l2d a) (FP.l2d b) ∧ Jvm.Elm.Med (a.toInt + 1) b.toInt (FP.l2d (a + (1 : Int64))) (FP.l2d b) ∧ a.toInt + 2 * b.toInt ≤ 4194304 := by
  have e3 : (3 : Int64).toInt = 3 := rfl
  have e2 : (2 : Int64).toInt = 2 := rfl
  have e1 : (1 : Int64).toInt = 1 := rfl
  have m1 := own_lm (x := (3 : Int64)) (y := a) (b := 10000000) (by rw [e3]; omega) (by decide)
  have m2 := own_lm (x := (2 : Int64)) (y := b) (b := 10000000) (by rw [e2]; omega) (by decide)
  rw [e3] at m1
  rw [e2] at m2
  have m3 := own_la (x := (3 : Int64) * a) (y := (2 : Int64) * b) (b := 20000000) (by rw [m1, m2]; omega) (by decide)
  have m4 := own_la (x := a) (y := (1 : Int64)) (b := 20000000) (by rw [e1]; omega) (by decide)
  rw [e1] at m4
  rw [Int64.lt_iff_toInt_lt, m3, m1, m2, show (0 : Int64).toInt = 0 from rfl] at h
  have D1 := Jvm.FP.Core.l2d_int (a := a) (by omega)
  have D2 := Jvm.FP.Core.l2d_int (a := b) (by omega)
  have D3 := Jvm.FP.Core.l2d_int (a := a + (1 : Int64)) (by rw [m4]; omega)
  rw [m4] at D3
  exact ⟨⟨D1, D2, by omega, by omega, by omega, by omega⟩, ⟨D3, D2, by omega, by omega, by omega, by omega⟩, by omega⟩

set_option maxRecDepth 65536 in
set_option maxHeartbeats 40000000 in
theorem ct2 (l : Launch) (Z : State) (a0 : Array Value) (hw : ∀ d ∈ tables_1, d.before a0 Z = true) (a : Addr) (h0 : Heap)  :
    Ct l Z y2 jdk_30_method_1_code 1 none ({ frames := 1, cells := 0, slots := 0, locals := 12 } : Room) #[(.ref a)] h0 [] (fun v h => v = none ∧ h0 = h) := by
  refine Ct.of (plainFor_of_name (by first | (simp [plainName, overriddenIn]; done) | decide +kernel)) ?_
  intro p e s m below meth c T0 X0
  refine Runs.top (g' := mkF m 0 #[.val (.ref a)] []) (by first | (simp [entryFrame, mkF, argsToLocals, Value.category]; done) | rfl) ?_
  refine X0.aloadN (pc' := 1) d2_0 rfl rfl rfl ?_
  refine X0.initObj (pc' := 4) (W := 0) (wd_13 hw) (wd_14 hw) (wd_15 hw) rfl d2_1 rfl (by decide) rfl (by decide) (fun T1 X1 => ?_)
  exact X1.vreturn rfl d2_4 (by decide) (by decide) ⟨rfl, rfl⟩
theorem ct4 (l : Launch) (Z : State) (a0 : Array Value) (hw : ∀ d ∈ tables_1, d.before a0 Z = true) (g : UInt64) (h0 : Heap) (F : Jvm.Free.Fl.Fin64 g) :
    Ct l Z y4 jdk_117_method_8_code 2 (some .boolean) ({ frames := 1, cells := 0, slots := 0, locals := 13 } : Room) #[(.double g)] h0 [] (fun v h => v = some (.int 1) ∧ h0 = h) := by
  intro wz p e ha hc hk s m args below hf happ hP hK
  obtain ⟨rfl, hZ, hh⟩ := hP
  obtain ⟨a1, a2, a3, a4, a5, a6, a7, a8⟩ := (Spec.appliesLoose_iff hf).mp happ
  have hpre : Jvm.Free.Fl.IsFinite.spec.pre.before #[(.double g)] s = true := by
    simp only [Jvm.Free.Fl.IsFinite.spec, Jvm.Free.Fl.IsFinite.tab, Cond.before_and, Bool.and_eq_true]
    exact ⟨rfl, mv hZ (wd_19 hw), mv hZ (wd_20 hw), mv hZ (wd_21 hw), mv hZ (wd_22 hw), mv hZ (wd_23 hw), mv hZ (wd_24 hw)⟩
  obtain ⟨n, o, w1, w2, w3, q1, q2, q3⟩ := Jvm.Free.Fl.IsFinite.gets_fin l g p e ha hc hk s m _ below hf ((Spec.appliesLoose_iff hf).mpr ⟨a1, a2, a3, a4, a5, a6, a7, hpre⟩) ⟨rfl, F⟩ trivial
  exact ⟨n, o, w1, w2, w3, _, [], q1, ⟨⟨rfl, by rw [q2, hh]⟩, by rw [q2, hh]; exact Keep.refl _ _, Wrote.nil⟩, q3⟩

set_option maxRecDepth 65536 in
set_option maxHeartbeats 40000000 in
theorem ct1 (l : Launch) (Z : State) (a0 : Array Value) (hw : ∀ d ∈ tables_1, d.before a0 Z = true) (a : Addr) (dx dy u1 u2 : UInt64) (h0 : Heap) (E_a : Exa Z h0 a "com/example/faultloom/faultloom/core/elastic/ElasticModuli") (Flambda_a : Fld Z h0 a "com/example/faultloom/faultloom/core/elastic/ElasticModuli" "lambda" "D" (.double u1)) (Fmu_a : Fld Z h0 a "com/example/faultloom/faultloom/core/elastic/ElasticModuli" "mu" "D" (.double u2)) (hx : Jvm.Free.Fl.Fin64 dx) (hy : Jvm.Free.Fl.Fin64 dy) (hp : cmpValue (FP.dcmp dy FP.dconst0) .l = 1) (hk : Jvm.Free.Fl.NoNaN64 (FP.dmul (4611686018427387904 : UInt64) dy) ∧ Jvm.Free.Fl.NoNaN64 (FP.ddiv (FP.dmul (4611686018427387904 : UInt64) dy) (4613937818241073152 : UInt64)) ∧ Jvm.Free.Fl.NoNaN64 (FP.dadd dx (FP.ddiv (FP.dmul (4611686018427387904 : UInt64) dy) (4613937818241073152 : UInt64))) ∧ cmpValue (FP.dcmp (FP.dadd dx (FP.ddiv (FP.dmul (4611686018427387904 : UInt64) dy) (4613937818241073152 : UInt64))) FP.dconst0) .l = 1) :
    Ct l Z y1 prog_10_method_1_code 5 none ({ frames := 2, cells := 0, slots := 0, locals := 30 } : Room) #[(.ref a), (.double dx), (.double dy)] h0 [a] (fun v h => v = none ∧ Exa Z h a "com/example/faultloom/faultloom/core/elastic/ElasticModuli" ∧ Fld Z h a "com/example/faultloom/faultloom/core/elastic/ElasticModuli" "lambda" "D" (.double dx) ∧ Fld Z h a "com/example/faultloom/faultloom/core/elastic/ElasticModuli" "mu" "D" (.double dy)) := by
  refine Ct.of (plainFor_of_name (by first | (simp [plainName, overriddenIn]; done) | decide +kernel)) ?_
  intro p e s m below meth c T0 X0
  refine Runs.top (g' := mkF m 0 #[.val (.ref a), .val (.double dx), .second, .val (.double dy), .second] []) (by first | (simp [entryFrame, mkF, argsToLocals, Value.category]; done) | rfl) ?_
  refine X0.aloadN (pc' := 1) d1_0 rfl rfl rfl ?_
  refine X0.special (pc' := 4) (W := 0) (a := a) (argsL := []) (rest := []) (ct2 l Z a0 hw a h0) rfl (wd_8 hw) (wd_9 hw) (wd_11 hw) (wd_12 hw) (by decide) pd_0 rfl rfl rfl rfl d1_1 rfl (by decide) rfl (by decide) (by decide) (by decide) allWs0 (fun T1 h1 v1 X1 K1 Q1 => ?_)
  obtain ⟨rfl, rfl⟩ := Q1
  show Runs p e below (T1.setTop (mkF m 4 #[.val (.ref a), .val (.double dx), .second, .val (.double dy), .second] [])) _
  refine X1.dloadN (pc' := 5) d1_4 rfl rfl ?_
  refine X1.callS (pc' := 8) (W := 0) (argsL := [(.double dx)]) (rest := []) (ct4 l Z a0 hw dx h0 hx) (wd_16 hw) (wd_17 hw) (wd_18 hw) (wd_19 hw) (by decide) pd_1 rfl rfl rfl rfl d1_5 rfl (by decide) rfl (by decide) (by decide) (by decide) allWs0 (fun T2 h2 v2 X2 K2 Q2 => ?_)
  obtain ⟨rfl, rfl⟩ := Q2
  show Runs p e below (T2.setTop (mkF m 8 #[.val (.ref a), .val (.double dx), .second, .val (.double dy), .second] [(.int (1 : Int32))])) _
  refine X2.ifNo (pc' := 11) d1_8 (by decide) rfl ?_
  refine X2.dloadN (pc' := 12) d1_11 rfl rfl ?_
  refine X2.callS (pc' := 15) (W := 0) (argsL := [(.double dy)]) (rest := []) (ct4 l Z a0 hw dy h0 hy) (wd_16 hw) (wd_17 hw) (wd_18 hw) (wd_19 hw) (by decide) pd_1 rfl rfl rfl rfl d1_12 rfl (by decide) rfl (by decide) (by decide) (by decide) allWs0 (fun T3 h3 v3 X3 K3 Q3 => ?_)
  obtain ⟨rfl, rfl⟩ := Q3
  show Runs p e below (T3.setTop (mkF m 15 #[.val (.ref a), .val (.double dx), .second, .val (.double dy), .second] [(.int (1 : Int32))])) _
  refine X3.ifYes (pc' := 33) d1_15 (by decide) (by decide) (by decide) ?_
  refine X3.dloadN (pc' := 34) d1_33 rfl rfl ?_
  refine X3.dconst0 (pc' := 35) d1_34 rfl ?_
  refine X3.dcmp (pc' := 36) (z := 1) d1_35 hp rfl ?_
  refine X3.ifYes (pc' := 53) d1_36 (by decide) (by decide) (by decide) ?_
  refine X3.dloadN (pc' := 54) d1_53 rfl rfl ?_
  refine X3.ldc2D (pc' := 57) (wd_25 hw) d1_54 rfl ?_
  refine X3.dloadN (pc' := 58) d1_57 rfl rfl ?_
  refine X3.dmul (pc' := 59) d1_58 hk.1 rfl ?_
  refine X3.ldc2D (pc' := 62) (wd_26 hw) d1_59 rfl ?_
  refine X3.ddiv (pc' := 63) d1_62 hk.2.1 rfl ?_
  refine X3.dadd (pc' := 64) d1_63 hk.2.2.1 rfl ?_
  refine X3.dconst0 (pc' := 65) d1_64 rfl ?_
  refine X3.dcmp (pc' := 66) (z := 1) d1_65 hk.2.2.2 rfl ?_
  refine X3.ifYes (pc' := 84) d1_66 (by decide) (by decide) (by decide) ?_
  refine X3.aloadN (pc' := 85) d1_84 rfl rfl rfl ?_
  refine X3.dloadN (pc' := 86) d1_85 rfl rfl ?_
  refine X3.putfield (pc' := 89) (host := "") (Or.inl (wd_27 hw)) Via.refl Flambda_a E_a (Or.inr ⟨(wd_28 hw), rfl, rfl⟩) (wd_3 hw) (ty := .double) (by decide) rfl rfl d1_86 rfl (Or.inl (by simp)) (fun T4 h4 X4 W4 => ?_)
  have Fw4 := Fld.same W4 Flambda_a
  have E_a_4 := Exa.wr W4 E_a
  have Fmu_a_4 := Fld.other W4 Fmu_a (Or.inr (slot_ne (Or.inr (wd_30 hw)) (Or.inr (wd_28 hw)) (by decide) (t := .double) (t' := .double) (by decide) (by decide)))
  refine X4.aloadN (pc' := 90) d1_89 rfl rfl rfl ?_
  refine X4.dloadN (pc' := 91) d1_90 rfl rfl ?_
  refine X4.putfield (pc' := 94) (host := "") (Or.inl (wd_29 hw)) Via.refl Fmu_a_4 E_a_4 (Or.inr ⟨(wd_30 hw), rfl, rfl⟩) (wd_3 hw) (ty := .double) (by decide) rfl rfl d1_91 rfl (Or.inl (by simp)) (fun T5 h5 X5 W5 => ?_)
  have Fw5 := Fld.same W5 Fmu_a_4
  have E_a_5 := Exa.wr W5 E_a_4
  have Fw4_5 := Fld.other W5 Fw4 (Or.inr (slot_ne (Or.inr (wd_28 hw)) (Or.inr (wd_30 hw)) (by decide) (t := .double) (t' := .double) (by decide) (by decide)))
  exact X5.vreturn rfl d1_94 (by decide) (by decide) ⟨rfl, E_a_5, Fw4_5, Fw5⟩
set_option maxRecDepth 65536 in
set_option maxHeartbeats 40000000 in
theorem ct6 (l : Launch) (Z : State) (a0 : Array Value) (hw : ∀ d ∈ tables_1, d.before a0 Z = true) (a : Addr) (dx dy : UInt64) (h0 : Heap) (Fl : Fld Z h0 a "com/example/faultloom/faultloom/core/elastic/ElasticModuli" "lambda" "D" (.double dx)) (Fm : Fld Z h0 a "com/example/faultloom/faultloom/core/elastic/ElasticModuli" "mu" "D" (.double dy)) (hk : Jvm.Free.Fl.NoNaN64 (FP.dadd dx dy) ∧ Jvm.Free.Fl.NoNaN64 (FP.dmul (4611686018427387904 : UInt64) dy) ∧ Jvm.Free.Fl.NoNaN64 (FP.dadd dx (FP.dmul (4611686018427387904 : UInt64) dy)) ∧ Jvm.Free.Fl.NoNaN64 (FP.ddiv (FP.dadd dx dy) (FP.dadd dx (FP.dmul (4611686018427387904 : UInt64) dy)))) :
    Ct l Z y6 prog_10_method_2_code 1 (some .double) ({ frames := 0, cells := 0, slots := 0, locals := 0 } : Room) #[(.ref a)] h0 [] (fun v h => v = some (.double (FP.ddiv (FP.dadd dx dy) (FP.dadd dx (FP.dmul (4611686018427387904 : UInt64) dy)))) ∧ h0 = h) := by
  refine Ct.of (plainFor_of_name (by first | (simp [plainName, overriddenIn]; done) | decide +kernel)) ?_
  intro p e s m below meth c T0 X0
  refine Runs.top (g' := mkF m 0 #[.val (.ref a)] []) (by first | (simp [entryFrame, mkF, argsToLocals, Value.category]; done) | rfl) ?_
  refine X0.aloadN (pc' := 1) d6_0 rfl rfl rfl ?_
  refine X0.getfield (pc' := 4) (host := "") (Or.inl (wd_27 hw)) Via.refl Fl d6_1 rfl (fun T1 X1 => ?_)
  refine X1.aloadN (pc' := 5) d6_4 rfl rfl rfl ?_
  refine X1.getfield (pc' := 8) (host := "") (Or.inl (wd_29 hw)) Via.refl Fm d6_5 rfl (fun T2 X2 => ?_)
  refine X2.dadd (pc' := 9) d6_8 hk.1 rfl ?_
  refine X2.aloadN (pc' := 10) d6_9 rfl rfl rfl ?_
  refine X2.getfield (pc' := 13) (host := "") (Or.inl (wd_27 hw)) Via.refl Fl d6_10 rfl (fun T3 X3 => ?_)
  refine X3.ldc2D (pc' := 16) (wd_25 hw) d6_13 rfl ?_
  refine X3.aloadN (pc' := 17) d6_16 rfl rfl rfl ?_
  refine X3.getfield (pc' := 20) (host := "") (Or.inl (wd_29 hw)) Via.refl Fm d6_17 rfl (fun T4 X4 => ?_)
  refine X4.dmul (pc' := 21) d6_20 hk.2.1 rfl ?_
  refine X4.dadd (pc' := 22) d6_21 hk.2.2.1 rfl ?_
  refine X4.ddiv (pc' := 23) d6_22 hk.2.2.2 rfl ?_
  exact X4.dreturn rfl d6_23 (by decide) (by decide) ⟨rfl, rfl⟩
set_option maxRecDepth 65536 in
set_option maxHeartbeats 40000000 in
theorem ct0 (l : Launch) (Z : State) (a0 : Array Value) (hw : ∀ d ∈ tables_1, d.before a0 Z = true) (q1 q2 q3 q4 q5 : Int32) (h0 : Heap)  :
    Ct l Z x code maxLocals ret room_1 #[(.int q1), (.int q2), (.int q3), (.int q4), (.int q5)] h0 [] (fun v h => v = some (.int 1)) := by
  refine Ct.of (plainFor_of_name (by first | (simp [plainName, overriddenIn]; done) | decide +kernel)) ?_
  intro p e s m below meth c T0 X0
  refine Runs.top (g' := mkF m 0 #[.val (.int q1), .val (.int q2), .val (.int q3), .val (.int q4), .val (.int q5), .unset, .unset, .unset, .unset, .unset, .unset, .unset, .unset, .unset, .unset, .unset, .unset, .unset, .unset, .unset, .unset, .unset, .unset, .unset, .unset, .unset, .unset, .unset, .unset, .unset, .unset] []) (by first | (simp [entryFrame, mkF, argsToLocals, Value.category, maxLocals]; done) | rfl) ?_
  refine X0.iloadN (pc' := 1) at_0 rfl rfl ?_
  refine X0.bipush (pc' := 3) (z := 15) at_1 rfl rfl ?_
  refine X0.iand (pc' := 4) at_3 rfl ?_
  refine X0.iconst (pc' := 5) (z := 2) at_4 rfl rfl ?_
  refine X0.iadd (pc' := 6) at_5 rfl ?_
  refine X0.istore (pc' := 8) (l' := #[.val (.int q1), .val (.int q2), .val (.int q3), .val (.int q4), .val (.int q5), .val (.int ((q1 &&& (15 : Int32)) + (2 : Int32))), .unset, .unset, .unset, .unset, .unset, .unset, .unset, .unset, .unset, .unset, .unset, .unset, .unset, .unset, .unset, .unset, .unset, .unset, .unset, .unset, .unset, .unset, .unset, .unset, .unset]) at_6 rfl rfl ?_
  refine X0.iconst (pc' := 9) (z := 1) at_8 rfl rfl ?_
  refine X0.iload (pc' := 11) at_9 rfl rfl ?_
  refine X0.ishl (pc' := 12) at_11 rfl ?_
  refine X0.istore (pc' := 14) (l' := #[.val (.int q1), .val (.int q2), .val (.int q3), .val (.int q4), .val (.int q5), .val (.int ((q1 &&& (15 : Int32)) + (2 : Int32))), .val (.int ((1 : Int32) <<< (((q1 &&& (15 : Int32)) + (2 : Int32)) &&& 31))), .unset, .unset, .unset, .unset, .unset, .unset, .unset, .unset, .unset, .unset, .unset, .unset, .unset, .unset, .unset, .unset, .unset, .unset, .unset, .unset, .unset, .unset, .unset, .unset]) at_12 rfl rfl ?_
  refine X0.iload (pc' := 16) at_14 rfl rfl ?_
  refine X0.iconst (pc' := 17) (z := 4) at_16 rfl rfl ?_
  refine X0.idiv (pc' := 18) at_17 (by decide) rfl ?_
  refine X0.iconst (pc' := 19) (z := 1) at_18 rfl rfl ?_
  refine X0.iadd (pc' := 20) at_19 rfl ?_
  refine X0.istore (pc' := 22) (l' := #[.val (.int q1), .val (.int q2), .val (.int q3), .val (.int q4), .val (.int q5), .val (.int ((q1 &&& (15 : Int32)) + (2 : Int32))), .val (.int ((1 : Int32) <<< (((q1 &&& (15 : Int32)) + (2 : Int32)) &&& 31))), .val (.int ((((1 : Int32) <<< (((q1 &&& (15 : Int32)) + (2 : Int32)) &&& 31)) / (4 : Int32)) + (1 : Int32))), .unset, .unset, .unset, .unset, .unset, .unset, .unset, .unset, .unset, .unset, .unset, .unset, .unset, .unset, .unset, .unset, .unset, .unset, .unset, .unset, .unset, .unset, .unset]) at_20 rfl rfl ?_
  refine X0.iload (pc' := 24) at_22 rfl rfl ?_
  refine X0.iload (pc' := 26) at_24 rfl rfl ?_
  refine X0.isub (pc' := 27) at_26 rfl ?_
  refine X0.istore (pc' := 29) (l' := #[.val (.int q1), .val (.int q2), .val (.int q3), .val (.int q4), .val (.int q5), .val (.int ((q1 &&& (15 : Int32)) + (2 : Int32))), .val (.int ((1 : Int32) <<< (((q1 &&& (15 : Int32)) + (2 : Int32)) &&& 31))), .val (.int ((((1 : Int32) <<< (((q1 &&& (15 : Int32)) + (2 : Int32)) &&& 31)) / (4 : Int32)) + (1 : Int32))), .val (.int (((1 : Int32) <<< (((q1 &&& (15 : Int32)) + (2 : Int32)) &&& 31)) - ((((1 : Int32) <<< (((q1 &&& (15 : Int32)) + (2 : Int32)) &&& 31)) / (4 : Int32)) + (1 : Int32)))), .unset, .unset, .unset, .unset, .unset, .unset, .unset, .unset, .unset, .unset, .unset, .unset, .unset, .unset, .unset, .unset, .unset, .unset, .unset, .unset, .unset, .unset]) at_27 rfl rfl ?_
  have hd := own_dval q1
  generalize ((1 : Int32) <<< (((q1 &&& (15 : Int32)) + (2 : Int32)) &&& 31)) = dn at hd ⊢
  refine X0.iload (pc' := 31) at_29 rfl rfl ?_
  refine X0.iloadN (pc' := 32) at_31 rfl rfl ?_
  refine X0.ldcInt (pc' := 34) (wd_0 hw) at_32 rfl ?_
  refine X0.iand (pc' := 35) at_34 rfl ?_
  refine X0.iload (pc' := 37) at_35 rfl rfl ?_
  refine X0.irem (pc' := 38) at_37 (own_span hd) rfl ?_
  refine X0.iadd (pc' := 39) at_38 rfl ?_
  refine X0.istore (pc' := 41) (l' := #[.val (.int q1), .val (.int q2), .val (.int q3), .val (.int q4), .val (.int q5), .val (.int ((q1 &&& (15 : Int32)) + (2 : Int32))), .val (.int dn), .val (.int ((dn / (4 : Int32)) + (1 : Int32))), .val (.int (dn - ((dn / (4 : Int32)) + (1 : Int32)))), .val (.int (((dn / (4 : Int32)) + (1 : Int32)) + ((q2 &&& (2147483647 : Int32)) % (dn - ((dn / (4 : Int32)) + (1 : Int32)))))), .unset, .unset, .unset, .unset, .unset, .unset, .unset, .unset, .unset, .unset, .unset, .unset, .unset, .unset, .unset, .unset, .unset, .unset, .unset, .unset, .unset]) at_39 rfl rfl ?_
  have hn := own_nn q2 hd
  generalize (((dn / (4 : Int32)) + (1 : Int32)) + ((q2 &&& (2147483647 : Int32)) % (dn - ((dn / (4 : Int32)) + (1 : Int32))))) = n at hn ⊢
  refine X0.iloadN (pc' := 42) at_41 rfl rfl ?_
  refine X0.ldcInt (pc' := 44) (wd_1 hw) at_42 rfl ?_
  refine X0.iand (pc' := 45) at_44 rfl ?_
  refine X0.i2l (pc' := 46) at_45 rfl ?_
  refine X0.lconst1 (pc' := 47) at_46 rfl ?_
  refine X0.ladd (pc' := 48) at_47 rfl ?_
  refine X0.lstore (pc' := 50) (l' := #[.val (.int q1), .val (.int q2), .val (.int q3), .val (.int q4), .val (.int q5), .val (.int ((q1 &&& (15 : Int32)) + (2 : Int32))), .val (.int dn), .val (.int ((dn / (4 : Int32)) + (1 : Int32))), .val (.int (dn - ((dn / (4 : Int32)) + (1 : Int32)))), .val (.int n), .val (.long (((q3 &&& (1048575 : Int32)).toInt64) + (1 : Int64))), .second, .unset, .unset, .unset, .unset, .unset, .unset, .unset, .unset, .unset, .unset, .unset, .unset, .unset, .unset, .unset, .unset, .unset, .unset, .unset]) at_48 rfl rfl ?_
  have hs := own_ss q3
  generalize (((q3 &&& (1048575 : Int32)).toInt64) + (1 : Int64)) = s1 at hs ⊢
  refine X0.lload (pc' := 52) at_50 rfl rfl ?_
  refine X0.iconst (pc' := 53) (z := 2) at_52 rfl rfl ?_
  refine X0.iload (pc' := 55) at_53 rfl rfl ?_
  refine X0.imul (pc' := 56) at_55 rfl ?_
  refine X0.iload (pc' := 58) at_56 rfl rfl ?_
  refine X0.isub (pc' := 59) at_58 rfl ?_
  refine X0.i2l (pc' := 60) at_59 rfl ?_
  refine X0.lmul (pc' := 61) at_60 rfl ?_
  refine X0.lstore (pc' := 63) (l' := #[.val (.int q1), .val (.int q2), .val (.int q3), .val (.int q4), .val (.int q5), .val (.int ((q1 &&& (15 : Int32)) + (2 : Int32))), .val (.int dn), .val (.int ((dn / (4 : Int32)) + (1 : Int32))), .val (.int (dn - ((dn / (4 : Int32)) + (1 : Int32)))), .val (.int n), .val (.long s1), .second, .val (.long (s1 * ((((2 : Int32) * n) - dn).toInt64))), .second, .unset, .unset, .unset, .unset, .unset, .unset, .unset, .unset, .unset, .unset, .unset, .unset, .unset, .unset, .unset, .unset, .unset]) at_61 rfl rfl ?_
  refine X0.lload (pc' := 65) at_63 rfl rfl ?_
  refine X0.iload (pc' := 67) at_65 rfl rfl ?_
  refine X0.iload (pc' := 69) at_67 rfl rfl ?_
  refine X0.isub (pc' := 70) at_69 rfl ?_
  refine X0.i2l (pc' := 71) at_70 rfl ?_
  refine X0.lmul (pc' := 72) at_71 rfl ?_
  refine X0.lstore (pc' := 74) (l' := #[.val (.int q1), .val (.int q2), .val (.int q3), .val (.int q4), .val (.int q5), .val (.int ((q1 &&& (15 : Int32)) + (2 : Int32))), .val (.int dn), .val (.int ((dn / (4 : Int32)) + (1 : Int32))), .val (.int (dn - ((dn / (4 : Int32)) + (1 : Int32)))), .val (.int n), .val (.long s1), .second, .val (.long (s1 * ((((2 : Int32) * n) - dn).toInt64))), .second, .val (.long (s1 * ((dn - n).toInt64))), .second, .unset, .unset, .unset, .unset, .unset, .unset, .unset, .unset, .unset, .unset, .unset, .unset, .unset, .unset, .unset]) at_72 rfl rfl ?_
  obtain ⟨L, M, me, hL, hM⟩ := own_ex hs hd hn
  refine X0.new (pc' := 77) (wd_2 hw) (wd_3 hw) (wd_4 hw) at_74 rfl (by decide) (by decide) (fun T1 h1 b1 X1 g1 E1 A1 D1 => ?_)
  have sz_b1 : h0.size ≤ b1 := g1 ▸ X0.size
  have Flambda_b1 : Fld Z h1 b1 "com/example/faultloom/faultloom/core/elastic/ElasticModuli" "lambda" "D" (.double (0 : UInt64)) := D1 (Or.inr (wd_28 hw)) (ty := .double) (by decide)
  have Fmu_b1 : Fld Z h1 b1 "com/example/faultloom/faultloom/core/elastic/ElasticModuli" "mu" "D" (.double (0 : UInt64)) := D1 (Or.inr (wd_30 hw)) (ty := .double) (by decide)
  refine X1.dup (pc' := 78) at_77 rfl rfl ?_
  refine X1.lload (pc' := 80) at_78 rfl rfl ?_
  refine X1.l2d (pc' := 81) at_80 rfl ?_
  refine X1.lload (pc' := 83) at_81 rfl rfl ?_
  refine X1.l2d (pc' := 84) at_83 rfl ?_
  refine X1.special (pc' := 87) (W := 1) (a := b1) (argsL := [(.double (FP.l2d (s1 * ((((2 : Int32) * n) - dn).toInt64)))), (.double (FP.l2d (s1 * ((dn - n).toInt64))))]) (rest := [(.ref b1)]) (ct1 l Z a0 hw b1 (FP.l2d (s1 * ((((2 : Int32) * n) - dn).toInt64))) (FP.l2d (s1 * ((dn - n).toInt64))) (0 : UInt64) (0 : UInt64) h1 A1 Flambda_b1 Fmu_b1 (Jvm.Elm.fin me.1) (Jvm.Elm.fin me.2.1) me.cpos me.chk) rfl (wd_5 hw) (wd_6 hw) (wd_4 hw) (wd_7 hw) (by decide) pd_2 rfl rfl rfl rfl at_84 rfl (by decide) rfl (by decide) (by decide) (by decide) ((allS (Or.inr sz_b1) all0)) (fun T2 h2 v2 X2 K2 Q2 => ?_)
  have A1_2 := A1.keep K2
  obtain ⟨rfl, Ea2, Fl2, Fm2⟩ := Q2
  show Runs p e below (T2.setTop (mkF m 87 #[.val (.int q1), .val (.int q2), .val (.int q3), .val (.int q4), .val (.int q5), .val (.int ((q1 &&& (15 : Int32)) + (2 : Int32))), .val (.int dn), .val (.int ((dn / (4 : Int32)) + (1 : Int32))), .val (.int (dn - ((dn / (4 : Int32)) + (1 : Int32)))), .val (.int n), .val (.long s1), .second, .val (.long (s1 * ((((2 : Int32) * n) - dn).toInt64))), .second, .val (.long (s1 * ((dn - n).toInt64))), .second, .unset, .unset, .unset, .unset, .unset, .unset, .unset, .unset, .unset, .unset, .unset, .unset, .unset, .unset, .unset] [(.ref b1)])) _
  refine X2.astore (pc' := 89) (l' := #[.val (.int q1), .val (.int q2), .val (.int q3), .val (.int q4), .val (.int q5), .val (.int ((q1 &&& (15 : Int32)) + (2 : Int32))), .val (.int dn), .val (.int ((dn / (4 : Int32)) + (1 : Int32))), .val (.int (dn - ((dn / (4 : Int32)) + (1 : Int32)))), .val (.int n), .val (.long s1), .second, .val (.long (s1 * ((((2 : Int32) * n) - dn).toInt64))), .second, .val (.long (s1 * ((dn - n).toInt64))), .second, .val (.ref b1), .unset, .unset, .unset, .unset, .unset, .unset, .unset, .unset, .unset, .unset, .unset, .unset, .unset, .unset]) at_87 rfl rfl rfl ?_
  refine X2.aload (pc' := 91) at_89 rfl rfl rfl ?_
  refine X2.virtual (pc' := 94) (W := 0) (a := b1) (argsL := []) (rest := []) (ct6 l Z a0 hw b1 (FP.l2d (s1 * ((((2 : Int32) * n) - dn).toInt64))) (FP.l2d (s1 * ((dn - n).toInt64))) h2 Fl2 Fm2 me.al.1) (wd_31 hw) (wd_32 hw) (fun _ q => notFace_of_selects q) (wd_34 hw) (wd_33 hw) (wd_4 hw) (wd_35 hw) (by decide) Ea2 pd_3 rfl rfl rfl rfl at_91 rfl (by decide) rfl (by decide) (by decide) (by decide) allWs0 (fun T3 h3 v3 X3 K3 Q3 => ?_)
  obtain ⟨rfl, rfl⟩ := Q3
  show Runs p e below (T3.setTop (mkF m 94 #[.val (.int q1), .val (.int q2), .val (.int q3), .val (.int q4), .val (.int q5), .val (.int ((q1 &&& (15 : Int32)) + (2 : Int32))), .val (.int dn), .val (.int ((dn / (4 : Int32)) + (1 : Int32))), .val (.int (dn - ((dn / (4 : Int32)) + (1 : Int32)))), .val (.int n), .val (.long s1), .second, .val (.long (s1 * ((((2 : Int32) * n) - dn).toInt64))), .second, .val (.long (s1 * ((dn - n).toInt64))), .second, .val (.ref b1), .unset, .unset, .unset, .unset, .unset, .unset, .unset, .unset, .unset, .unset, .unset, .unset, .unset, .unset] [(.double (FP.ddiv (FP.dadd (FP.l2d (s1 * ((((2 : Int32) * n) - dn).toInt64))) (FP.l2d (s1 * ((dn - n).toInt64)))) (FP.dadd (FP.l2d (s1 * ((((2 : Int32) * n) - dn).toInt64))) (FP.dmul (4611686018427387904 : UInt64) (FP.l2d (s1 * ((dn - n).toInt64)))))))])) _
  refine X3.dstore (pc' := 96) (l' := #[.val (.int q1), .val (.int q2), .val (.int q3), .val (.int q4), .val (.int q5), .val (.int ((q1 &&& (15 : Int32)) + (2 : Int32))), .val (.int dn), .val (.int ((dn / (4 : Int32)) + (1 : Int32))), .val (.int (dn - ((dn / (4 : Int32)) + (1 : Int32)))), .val (.int n), .val (.long s1), .second, .val (.long (s1 * ((((2 : Int32) * n) - dn).toInt64))), .second, .val (.long (s1 * ((dn - n).toInt64))), .second, .val (.ref b1), .val (.double (FP.ddiv (FP.dadd (FP.l2d (s1 * ((((2 : Int32) * n) - dn).toInt64))) (FP.l2d (s1 * ((dn - n).toInt64)))) (FP.dadd (FP.l2d (s1 * ((((2 : Int32) * n) - dn).toInt64))) (FP.dmul (4611686018427387904 : UInt64) (FP.l2d (s1 * ((dn - n).toInt64))))))), .second, .unset, .unset, .unset, .unset, .unset, .unset, .unset, .unset, .unset, .unset, .unset, .unset]) at_94 rfl rfl ?_
  refine X3.dload (pc' := 98) at_96 rfl rfl ?_
  refine X3.iload (pc' := 100) at_98 rfl rfl ?_
  refine X3.i2d (pc' := 101) at_100 rfl ?_
  refine X3.iload (pc' := 103) at_101 rfl rfl ?_
  refine X3.i2d (pc' := 104) at_103 rfl ?_
  refine X3.ddiv (pc' := 105) at_104 (Jvm.Elm.nn (N := n.toInt.toNat) (D := dn.toInt.toNat) (by omega) (by omega) (by rw [show ((n.toInt.toNat : Nat) : Int) = n.toInt by omega]; exact Jvm.FP.Core.i2d_int n) (by rw [show ((dn.toInt.toNat : Nat) : Int) = dn.toInt by omega]; exact Jvm.FP.Core.i2d_int dn)) rfl ?_
  refine X3.dcmp (pc' := 106) (z := 0) at_105 (me.eqv (Jvm.FP.Core.i2d_int n) (Jvm.FP.Core.i2d_int dn) hL hM (by omega) (by omega)) rfl ?_
  refine X3.ifNo (pc' := 109) at_106 (by decide) rfl ?_
  refine X3.iconst (pc' := 110) (z := 1) at_109 rfl rfl ?_
  refine X3.goto (pc' := 114) at_110 (by decide) (by decide) ?_
  refine X3.istore (pc' := 116) (l' := #[.val (.int q1), .val (.int q2), .val (.int q3), .val (.int q4), .val (.int q5), .val (.int ((q1 &&& (15 : Int32)) + (2 : Int32))), .val (.int dn), .val (.int ((dn / (4 : Int32)) + (1 : Int32))), .val (.int (dn - ((dn / (4 : Int32)) + (1 : Int32)))), .val (.int n), .val (.long s1), .second, .val (.long (s1 * ((((2 : Int32) * n) - dn).toInt64))), .second, .val (.long (s1 * ((dn - n).toInt64))), .second, .val (.ref b1), .val (.double (FP.ddiv (FP.dadd (FP.l2d (s1 * ((((2 : Int32) * n) - dn).toInt64))) (FP.l2d (s1 * ((dn - n).toInt64)))) (FP.dadd (FP.l2d (s1 * ((((2 : Int32) * n) - dn).toInt64))) (FP.dmul (4611686018427387904 : UInt64) (FP.l2d (s1 * ((dn - n).toInt64))))))), .second, .val (.int (1 : Int32)), .unset, .unset, .unset, .unset, .unset, .unset, .unset, .unset, .unset, .unset, .unset]) at_114 rfl rfl ?_
  refine X3.iload (pc' := 118) at_116 rfl rfl ?_
  refine X3.ldcInt (pc' := 120) (wd_1 hw) at_118 rfl ?_
  refine X3.iand (pc' := 121) at_120 rfl ?_
  refine X3.i2l (pc' := 122) at_121 rfl ?_
  refine X3.lconst1 (pc' := 123) at_122 rfl ?_
  refine X3.ladd (pc' := 124) at_123 rfl ?_
  refine X3.lstore (pc' := 126) (l' := #[.val (.int q1), .val (.int q2), .val (.int q3), .val (.int q4), .val (.int q5), .val (.int ((q1 &&& (15 : Int32)) + (2 : Int32))), .val (.int dn), .val (.int ((dn / (4 : Int32)) + (1 : Int32))), .val (.int (dn - ((dn / (4 : Int32)) + (1 : Int32)))), .val (.int n), .val (.long s1), .second, .val (.long (s1 * ((((2 : Int32) * n) - dn).toInt64))), .second, .val (.long (s1 * ((dn - n).toInt64))), .second, .val (.ref b1), .val (.double (FP.ddiv (FP.dadd (FP.l2d (s1 * ((((2 : Int32) * n) - dn).toInt64))) (FP.l2d (s1 * ((dn - n).toInt64)))) (FP.dadd (FP.l2d (s1 * ((((2 : Int32) * n) - dn).toInt64))) (FP.dmul (4611686018427387904 : UInt64) (FP.l2d (s1 * ((dn - n).toInt64))))))), .second, .val (.int (1 : Int32)), .val (.long (((q5 &&& (1048575 : Int32)).toInt64) + (1 : Int64))), .second, .unset, .unset, .unset, .unset, .unset, .unset, .unset, .unset, .unset]) at_124 rfl rfl ?_
  refine X3.iloadN (pc' := 127) at_126 rfl rfl ?_
  refine X3.ldcInt (pc' := 129) (wd_36 hw) at_127 rfl ?_
  refine X3.irem (pc' := 130) at_129 (by decide) rfl ?_
  refine X3.i2l (pc' := 131) at_130 rfl ?_
  refine X3.lstore (pc' := 133) (l' := #[.val (.int q1), .val (.int q2), .val (.int q3), .val (.int q4), .val (.int q5), .val (.int ((q1 &&& (15 : Int32)) + (2 : Int32))), .val (.int dn), .val (.int ((dn / (4 : Int32)) + (1 : Int32))), .val (.int (dn - ((dn / (4 : Int32)) + (1 : Int32)))), .val (.int n), .val (.long s1), .second, .val (.long (s1 * ((((2 : Int32) * n) - dn).toInt64))), .second, .val (.long (s1 * ((dn - n).toInt64))), .second, .val (.ref b1), .val (.double (FP.ddiv (FP.dadd (FP.l2d (s1 * ((((2 : Int32) * n) - dn).toInt64))) (FP.l2d (s1 * ((dn - n).toInt64)))) (FP.dadd (FP.l2d (s1 * ((((2 : Int32) * n) - dn).toInt64))) (FP.dmul (4611686018427387904 : UInt64) (FP.l2d (s1 * ((dn - n).toInt64))))))), .second, .val (.int (1 : Int32)), .val (.long (((q5 &&& (1048575 : Int32)).toInt64) + (1 : Int64))), .second, .val (.long ((q4 % (2097152 : Int32)).toInt64)), .second, .unset, .unset, .unset, .unset, .unset, .unset, .unset]) at_131 rfl rfl ?_
  have hb := own_ss q5
  generalize (((q5 &&& (1048575 : Int32)).toInt64) + (1 : Int64)) = mu at hb ⊢
  have ha := own_ll q4
  generalize ((q4 % (2097152 : Int32)).toInt64) = la at ha ⊢
  refine X3.iconst (pc' := 134) (z := 1) at_133 rfl rfl ?_
  refine X3.istore (pc' := 136) (l' := #[.val (.int q1), .val (.int q2), .val (.int q3), .val (.int q4), .val (.int q5), .val (.int ((q1 &&& (15 : Int32)) + (2 : Int32))), .val (.int dn), .val (.int ((dn / (4 : Int32)) + (1 : Int32))), .val (.int (dn - ((dn / (4 : Int32)) + (1 : Int32)))), .val (.int n), .val (.long s1), .second, .val (.long (s1 * ((((2 : Int32) * n) - dn).toInt64))), .second, .val (.long (s1 * ((dn - n).toInt64))), .second, .val (.ref b1), .val (.double (FP.ddiv (FP.dadd (FP.l2d (s1 * ((((2 : Int32) * n) - dn).toInt64))) (FP.l2d (s1 * ((dn - n).toInt64)))) (FP.dadd (FP.l2d (s1 * ((((2 : Int32) * n) - dn).toInt64))) (FP.dmul (4611686018427387904 : UInt64) (FP.l2d (s1 * ((dn - n).toInt64))))))), .second, .val (.int (1 : Int32)), .val (.long mu), .second, .val (.long la), .second, .val (.int (1 : Int32)), .unset, .unset, .unset, .unset, .unset, .unset]) at_134 rfl rfl ?_
  refine X3.ldc2 (pc' := 139) (wd_37 hw) at_136 rfl ?_
  refine X3.lload (pc' := 141) at_139 rfl rfl ?_
  refine X3.lmul (pc' := 142) at_141 rfl ?_
  refine X3.ldc2 (pc' := 145) (wd_38 hw) at_142 rfl ?_
  refine X3.lload (pc' := 147) at_145 rfl rfl ?_
  refine X3.lmul (pc' := 148) at_147 rfl ?_
  refine X3.ladd (pc' := 149) at_148 rfl ?_
  refine X3.lconst0 (pc' := 150) at_149 rfl ?_
  refine X3.lcmp (pc' := 151) at_150 rfl ?_
  by_cases hc4 : (0 : Int64) < (((3 : Int64) * la) + ((2 : Int64) * mu))
  · refine X3.ifNo (pc' := 154) at_151 (tlt ((lw_gt _ _).mpr hc4)).2.2.2 rfl ?_
    have mg := own_gen ha hb hc4
    refine X3.new (pc' := 157) (wd_2 hw) (wd_3 hw) (wd_4 hw) at_154 rfl (by decide) (by decide) (fun T5 h5 b5 X5 g5 E5 A5 D5 => ?_)
    have sz_b5 : h0.size ≤ b5 := g5 ▸ X3.size
    have ne_b1_b5 : b1 ≠ b5 := Nat.ne_of_lt (g5 ▸ Ea2.lt)
    have Ea2_5 := Exa.ext E5 Ea2
    have Fl2_5 := Fld.ext E5 Fl2
    have Fm2_5 := Fld.ext E5 Fm2
    have Flambda_b5 : Fld Z h5 b5 "com/example/faultloom/faultloom/core/elastic/ElasticModuli" "lambda" "D" (.double (0 : UInt64)) := D5 (Or.inr (wd_28 hw)) (ty := .double) (by decide)
    have Fmu_b5 : Fld Z h5 b5 "com/example/faultloom/faultloom/core/elastic/ElasticModuli" "mu" "D" (.double (0 : UInt64)) := D5 (Or.inr (wd_30 hw)) (ty := .double) (by decide)
    refine X5.dup (pc' := 158) at_157 rfl rfl ?_
    refine X5.lload (pc' := 160) at_158 rfl rfl ?_
    refine X5.l2d (pc' := 161) at_160 rfl ?_
    refine X5.lload (pc' := 163) at_161 rfl rfl ?_
    refine X5.l2d (pc' := 164) at_163 rfl ?_
    refine X5.special (pc' := 167) (W := 1) (a := b5) (argsL := [(.double (FP.l2d la)), (.double (FP.l2d mu))]) (rest := [(.ref b5)]) (ct1 l Z a0 hw b5 (FP.l2d la) (FP.l2d mu) (0 : UInt64) (0 : UInt64) h5 A5 Flambda_b5 Fmu_b5 (Jvm.Elm.fin mg.1.1) (Jvm.Elm.fin mg.1.2.1) mg.1.cpos mg.1.chk) rfl (wd_5 hw) (wd_6 hw) (wd_4 hw) (wd_7 hw) (by decide) pd_2 rfl rfl rfl rfl at_164 rfl (by decide) rfl (by decide) (by decide) (by decide) ((allS (Or.inr sz_b5) all0)) (fun T6 h6 v6 X6 K6 Q6 => ?_)
    have Ea2_6 := Ea2_5.keep K6
    have Fl2_6 := Fl2_5.keep K6 (ninS ne_b1_b5 nin0)
    have Fm2_6 := Fm2_5.keep K6 (ninS ne_b1_b5 nin0)
    have A5_6 := A5.keep K6
    obtain ⟨rfl, Ea6, Fl6, Fm6⟩ := Q6
    show Runs p e below (T6.setTop (mkF m 167 #[.val (.int q1), .val (.int q2), .val (.int q3), .val (.int q4), .val (.int q5), .val (.int ((q1 &&& (15 : Int32)) + (2 : Int32))), .val (.int dn), .val (.int ((dn / (4 : Int32)) + (1 : Int32))), .val (.int (dn - ((dn / (4 : Int32)) + (1 : Int32)))), .val (.int n), .val (.long s1), .second, .val (.long (s1 * ((((2 : Int32) * n) - dn).toInt64))), .second, .val (.long (s1 * ((dn - n).toInt64))), .second, .val (.ref b1), .val (.double (FP.ddiv (FP.dadd (FP.l2d (s1 * ((((2 : Int32) * n) - dn).toInt64))) (FP.l2d (s1 * ((dn - n).toInt64)))) (FP.dadd (FP.l2d (s1 * ((((2 : Int32) * n) - dn).toInt64))) (FP.dmul (4611686018427387904 : UInt64) (FP.l2d (s1 * ((dn - n).toInt64))))))), .second, .val (.int (1 : Int32)), .val (.long mu), .second, .val (.long la), .second, .val (.int (1 : Int32)), .unset, .unset, .unset, .unset, .unset, .unset] [(.ref b5)])) _
    refine X6.astore (pc' := 169) (l' := #[.val (.int q1), .val (.int q2), .val (.int q3), .val (.int q4), .val (.int q5), .val (.int ((q1 &&& (15 : Int32)) + (2 : Int32))), .val (.int dn), .val (.int ((dn / (4 : Int32)) + (1 : Int32))), .val (.int (dn - ((dn / (4 : Int32)) + (1 : Int32)))), .val (.int n), .val (.long s1), .second, .val (.long (s1 * ((((2 : Int32) * n) - dn).toInt64))), .second, .val (.long (s1 * ((dn - n).toInt64))), .second, .val (.ref b1), .val (.double (FP.ddiv (FP.dadd (FP.l2d (s1 * ((((2 : Int32) * n) - dn).toInt64))) (FP.l2d (s1 * ((dn - n).toInt64)))) (FP.dadd (FP.l2d (s1 * ((((2 : Int32) * n) - dn).toInt64))) (FP.dmul (4611686018427387904 : UInt64) (FP.l2d (s1 * ((dn - n).toInt64))))))), .second, .val (.int (1 : Int32)), .val (.long mu), .second, .val (.long la), .second, .val (.int (1 : Int32)), .val (.ref b5), .unset, .unset, .unset, .unset, .unset]) at_167 rfl rfl rfl ?_
    refine X6.new (pc' := 172) (wd_2 hw) (wd_3 hw) (wd_4 hw) at_169 rfl (by decide) (by decide) (fun T7 h7 b7 X7 g7 E7 A7 D7 => ?_)
    have sz_b7 : h0.size ≤ b7 := g7 ▸ X6.size
    have ne_b1_b7 : b1 ≠ b7 := Nat.ne_of_lt (g7 ▸ Ea2_6.lt)
    have ne_b5_b7 : b5 ≠ b7 := Nat.ne_of_lt (g7 ▸ Ea6.lt)
    have Ea2_7 := Exa.ext E7 Ea2_6
    have Fl2_7 := Fld.ext E7 Fl2_6
    have Fm2_7 := Fld.ext E7 Fm2_6
    have Ea6_7 := Exa.ext E7 Ea6
    have Fl6_7 := Fld.ext E7 Fl6
    have Fm6_7 := Fld.ext E7 Fm6
    have Flambda_b7 : Fld Z h7 b7 "com/example/faultloom/faultloom/core/elastic/ElasticModuli" "lambda" "D" (.double (0 : UInt64)) := D7 (Or.inr (wd_28 hw)) (ty := .double) (by decide)
    have Fmu_b7 : Fld Z h7 b7 "com/example/faultloom/faultloom/core/elastic/ElasticModuli" "mu" "D" (.double (0 : UInt64)) := D7 (Or.inr (wd_30 hw)) (ty := .double) (by decide)
    refine X7.dup (pc' := 173) at_172 rfl rfl ?_
    refine X7.lload (pc' := 175) at_173 rfl rfl ?_
    refine X7.lconst1 (pc' := 176) at_175 rfl ?_
    refine X7.ladd (pc' := 177) at_176 rfl ?_
    refine X7.l2d (pc' := 178) at_177 rfl ?_
    refine X7.lload (pc' := 180) at_178 rfl rfl ?_
    refine X7.l2d (pc' := 181) at_180 rfl ?_
    refine X7.special (pc' := 184) (W := 1) (a := b7) (argsL := [(.double (FP.l2d (la + (1 : Int64)))), (.double (FP.l2d mu))]) (rest := [(.ref b7)]) (ct1 l Z a0 hw b7 (FP.l2d (la + (1 : Int64))) (FP.l2d mu) (0 : UInt64) (0 : UInt64) h7 A7 Flambda_b7 Fmu_b7 (Jvm.Elm.fin mg.2.1.1) (Jvm.Elm.fin mg.2.1.2.1) mg.2.1.cpos mg.2.1.chk) rfl (wd_5 hw) (wd_6 hw) (wd_4 hw) (wd_7 hw) (by decide) pd_2 rfl rfl rfl rfl at_181 rfl (by decide) rfl (by decide) (by decide) (by decide) ((allS (Or.inr sz_b7) all0)) (fun T8 h8 v8 X8 K8 Q8 => ?_)
    have Ea2_8 := Ea2_7.keep K8
    have Fl2_8 := Fl2_7.keep K8 (ninS ne_b1_b7 nin0)
    have Fm2_8 := Fm2_7.keep K8 (ninS ne_b1_b7 nin0)
    have Ea6_8 := Ea6_7.keep K8
    have Fl6_8 := Fl6_7.keep K8 (ninS ne_b5_b7 nin0)
    have Fm6_8 := Fm6_7.keep K8 (ninS ne_b5_b7 nin0)
    have A7_8 := A7.keep K8
    obtain ⟨rfl, Ea8, Fl8, Fm8⟩ := Q8
    show Runs p e below (T8.setTop (mkF m 184 #[.val (.int q1), .val (.int q2), .val (.int q3), .val (.int q4), .val (.int q5), .val (.int ((q1 &&& (15 : Int32)) + (2 : Int32))), .val (.int dn), .val (.int ((dn / (4 : Int32)) + (1 : Int32))), .val (.int (dn - ((dn / (4 : Int32)) + (1 : Int32)))), .val (.int n), .val (.long s1), .second, .val (.long (s1 * ((((2 : Int32) * n) - dn).toInt64))), .second, .val (.long (s1 * ((dn - n).toInt64))), .second, .val (.ref b1), .val (.double (FP.ddiv (FP.dadd (FP.l2d (s1 * ((((2 : Int32) * n) - dn).toInt64))) (FP.l2d (s1 * ((dn - n).toInt64)))) (FP.dadd (FP.l2d (s1 * ((((2 : Int32) * n) - dn).toInt64))) (FP.dmul (4611686018427387904 : UInt64) (FP.l2d (s1 * ((dn - n).toInt64))))))), .second, .val (.int (1 : Int32)), .val (.long mu), .second, .val (.long la), .second, .val (.int (1 : Int32)), .val (.ref b5), .unset, .unset, .unset, .unset, .unset] [(.ref b7)])) _
    refine X8.astore (pc' := 186) (l' := #[.val (.int q1), .val (.int q2), .val (.int q3), .val (.int q4), .val (.int q5), .val (.int ((q1 &&& (15 : Int32)) + (2 : Int32))), .val (.int dn), .val (.int ((dn / (4 : Int32)) + (1 : Int32))), .val (.int (dn - ((dn / (4 : Int32)) + (1 : Int32)))), .val (.int n), .val (.long s1), .second, .val (.long (s1 * ((((2 : Int32) * n) - dn).toInt64))), .second, .val (.long (s1 * ((dn - n).toInt64))), .second, .val (.ref b1), .val (.double (FP.ddiv (FP.dadd (FP.l2d (s1 * ((((2 : Int32) * n) - dn).toInt64))) (FP.l2d (s1 * ((dn - n).toInt64)))) (FP.dadd (FP.l2d (s1 * ((((2 : Int32) * n) - dn).toInt64))) (FP.dmul (4611686018427387904 : UInt64) (FP.l2d (s1 * ((dn - n).toInt64))))))), .second, .val (.int (1 : Int32)), .val (.long mu), .second, .val (.long la), .second, .val (.int (1 : Int32)), .val (.ref b5), .val (.ref b7), .unset, .unset, .unset, .unset]) at_184 rfl rfl rfl ?_
    refine X8.aload (pc' := 188) at_186 rfl rfl rfl ?_
    refine X8.virtual (pc' := 191) (W := 0) (a := b5) (argsL := []) (rest := []) (ct6 l Z a0 hw b5 (FP.l2d la) (FP.l2d mu) h8 Fl6_8 Fm6_8 mg.1.al.1) (wd_31 hw) (wd_32 hw) (fun _ q => notFace_of_selects q) (wd_34 hw) (wd_33 hw) (wd_4 hw) (wd_35 hw) (by decide) Ea6_8 pd_3 rfl rfl rfl rfl at_188 rfl (by decide) rfl (by decide) (by decide) (by decide) allWs0 (fun T9 h9 v9 X9 K9 Q9 => ?_)
    obtain ⟨rfl, rfl⟩ := Q9
    show Runs p e below (T9.setTop (mkF m 191 #[.val (.int q1), .val (.int q2), .val (.int q3), .val (.int q4), .val (.int q5), .val (.int ((q1 &&& (15 : Int32)) + (2 : Int32))), .val (.int dn), .val (.int ((dn / (4 : Int32)) + (1 : Int32))), .val (.int (dn - ((dn / (4 : Int32)) + (1 : Int32)))), .val (.int n), .val (.long s1), .second, .val (.long (s1 * ((((2 : Int32) * n) - dn).toInt64))), .second, .val (.long (s1 * ((dn - n).toInt64))), .second, .val (.ref b1), .val (.double (FP.ddiv (FP.dadd (FP.l2d (s1 * ((((2 : Int32) * n) - dn).toInt64))) (FP.l2d (s1 * ((dn - n).toInt64)))) (FP.dadd (FP.l2d (s1 * ((((2 : Int32) * n) - dn).toInt64))) (FP.dmul (4611686018427387904 : UInt64) (FP.l2d (s1 * ((dn - n).toInt64))))))), .second, .val (.int (1 : Int32)), .val (.long mu), .second, .val (.long la), .second, .val (.int (1 : Int32)), .val (.ref b5), .val (.ref b7), .unset, .unset, .unset, .unset] [(.double (FP.ddiv (FP.dadd (FP.l2d la) (FP.l2d mu)) (FP.dadd (FP.l2d la) (FP.dmul (4611686018427387904 : UInt64) (FP.l2d mu)))))])) _
    refine X9.dstore (pc' := 193) (l' := #[.val (.int q1), .val (.int q2), .val (.int q3), .val (.int q4), .val (.int q5), .val (.int ((q1 &&& (15 : Int32)) + (2 : Int32))), .val (.int dn), .val (.int ((dn / (4 : Int32)) + (1 : Int32))), .val (.int (dn - ((dn / (4 : Int32)) + (1 : Int32)))), .val (.int n), .val (.long s1), .second, .val (.long (s1 * ((((2 : Int32) * n) - dn).toInt64))), .second, .val (.long (s1 * ((dn - n).toInt64))), .second, .val (.ref b1), .val (.double (FP.ddiv (FP.dadd (FP.l2d (s1 * ((((2 : Int32) * n) - dn).toInt64))) (FP.l2d (s1 * ((dn - n).toInt64)))) (FP.dadd (FP.l2d (s1 * ((((2 : Int32) * n) - dn).toInt64))) (FP.dmul (4611686018427387904 : UInt64) (FP.l2d (s1 * ((dn - n).toInt64))))))), .second, .val (.int (1 : Int32)), .val (.long mu), .second, .val (.long la), .second, .val (.int (1 : Int32)), .val (.ref b5), .val (.ref b7), .val (.double (FP.ddiv (FP.dadd (FP.l2d la) (FP.l2d mu)) (FP.dadd (FP.l2d la) (FP.dmul (4611686018427387904 : UInt64) (FP.l2d mu))))), .second, .unset, .unset]) at_191 rfl rfl ?_
    refine X9.aload (pc' := 195) at_193 rfl rfl rfl ?_
    refine X9.virtual (pc' := 198) (W := 0) (a := b7) (argsL := []) (rest := []) (ct6 l Z a0 hw b7 (FP.l2d (la + (1 : Int64))) (FP.l2d mu) h8 Fl8 Fm8 mg.2.1.al.1) (wd_31 hw) (wd_32 hw) (fun _ q => notFace_of_selects q) (wd_34 hw) (wd_33 hw) (wd_4 hw) (wd_35 hw) (by decide) Ea8 pd_3 rfl rfl rfl rfl at_195 rfl (by decide) rfl (by decide) (by decide) (by decide) allWs0 (fun T10 h10 v10 X10 K10 Q10 => ?_)
    obtain ⟨rfl, rfl⟩ := Q10
    show Runs p e below (T10.setTop (mkF m 198 #[.val (.int q1), .val (.int q2), .val (.int q3), .val (.int q4), .val (.int q5), .val (.int ((q1 &&& (15 : Int32)) + (2 : Int32))), .val (.int dn), .val (.int ((dn / (4 : Int32)) + (1 : Int32))), .val (.int (dn - ((dn / (4 : Int32)) + (1 : Int32)))), .val (.int n), .val (.long s1), .second, .val (.long (s1 * ((((2 : Int32) * n) - dn).toInt64))), .second, .val (.long (s1 * ((dn - n).toInt64))), .second, .val (.ref b1), .val (.double (FP.ddiv (FP.dadd (FP.l2d (s1 * ((((2 : Int32) * n) - dn).toInt64))) (FP.l2d (s1 * ((dn - n).toInt64)))) (FP.dadd (FP.l2d (s1 * ((((2 : Int32) * n) - dn).toInt64))) (FP.dmul (4611686018427387904 : UInt64) (FP.l2d (s1 * ((dn - n).toInt64))))))), .second, .val (.int (1 : Int32)), .val (.long mu), .second, .val (.long la), .second, .val (.int (1 : Int32)), .val (.ref b5), .val (.ref b7), .val (.double (FP.ddiv (FP.dadd (FP.l2d la) (FP.l2d mu)) (FP.dadd (FP.l2d la) (FP.dmul (4611686018427387904 : UInt64) (FP.l2d mu))))), .second, .unset, .unset] [(.double (FP.ddiv (FP.dadd (FP.l2d (la + (1 : Int64))) (FP.l2d mu)) (FP.dadd (FP.l2d (la + (1 : Int64))) (FP.dmul (4611686018427387904 : UInt64) (FP.l2d mu)))))])) _
    refine X10.dstore (pc' := 200) (l' := #[.val (.int q1), .val (.int q2), .val (.int q3), .val (.int q4), .val (.int q5), .val (.int ((q1 &&& (15 : Int32)) + (2 : Int32))), .val (.int dn), .val (.int ((dn / (4 : Int32)) + (1 : Int32))), .val (.int (dn - ((dn / (4 : Int32)) + (1 : Int32)))), .val (.int n), .val (.long s1), .second, .val (.long (s1 * ((((2 : Int32) * n) - dn).toInt64))), .second, .val (.long (s1 * ((dn - n).toInt64))), .second, .val (.ref b1), .val (.double (FP.ddiv (FP.dadd (FP.l2d (s1 * ((((2 : Int32) * n) - dn).toInt64))) (FP.l2d (s1 * ((dn - n).toInt64)))) (FP.dadd (FP.l2d (s1 * ((((2 : Int32) * n) - dn).toInt64))) (FP.dmul (4611686018427387904 : UInt64) (FP.l2d (s1 * ((dn - n).toInt64))))))), .second, .val (.int (1 : Int32)), .val (.long mu), .second, .val (.long la), .second, .val (.int (1 : Int32)), .val (.ref b5), .val (.ref b7), .val (.double (FP.ddiv (FP.dadd (FP.l2d la) (FP.l2d mu)) (FP.dadd (FP.l2d la) (FP.dmul (4611686018427387904 : UInt64) (FP.l2d mu))))), .second, .val (.double (FP.ddiv (FP.dadd (FP.l2d (la + (1 : Int64))) (FP.l2d mu)) (FP.dadd (FP.l2d (la + (1 : Int64))) (FP.dmul (4611686018427387904 : UInt64) (FP.l2d mu))))), .second]) at_198 rfl rfl ?_
    refine X10.ldc2D (pc' := 203) (wd_39 hw) at_200 rfl ?_
    refine X10.dload (pc' := 205) at_203 rfl rfl ?_
    refine X10.dcmp (pc' := 206) (z := -1) at_205 (mg.1.quarter (by omega)) rfl ?_
    refine X10.ifNo (pc' := 209) at_206 (by decide) rfl ?_
    refine X10.dload (pc' := 211) at_209 rfl rfl ?_
    refine X10.dconst1 (pc' := 212) at_211 rfl ?_
    refine X10.dcmp (pc' := 213) (z := -1) at_212 (mg.1.one (by omega)) rfl ?_
    refine X10.ifNo (pc' := 216) at_213 (by decide) rfl ?_
    refine X10.dload (pc' := 218) at_216 rfl rfl ?_
    refine X10.dload (pc' := 220) at_218 rfl rfl ?_
    refine X10.dcmp (pc' := 221) (z := -1) at_220 (mg.1.mono mg.2.1 (by omega)) rfl ?_
    refine X10.ifNo (pc' := 224) at_221 (by decide) rfl ?_
    refine X10.iconst (pc' := 225) (z := 1) at_224 rfl rfl ?_
    refine X10.goto (pc' := 229) at_225 (by decide) (by decide) ?_
    refine X10.istore (pc' := 231) (l' := #[.val (.int q1), .val (.int q2), .val (.int q3), .val (.int q4), .val (.int q5), .val (.int ((q1 &&& (15 : Int32)) + (2 : Int32))), .val (.int dn), .val (.int ((dn / (4 : Int32)) + (1 : Int32))), .val (.int (dn - ((dn / (4 : Int32)) + (1 : Int32)))), .val (.int n), .val (.long s1), .second, .val (.long (s1 * ((((2 : Int32) * n) - dn).toInt64))), .second, .val (.long (s1 * ((dn - n).toInt64))), .second, .val (.ref b1), .val (.double (FP.ddiv (FP.dadd (FP.l2d (s1 * ((((2 : Int32) * n) - dn).toInt64))) (FP.l2d (s1 * ((dn - n).toInt64)))) (FP.dadd (FP.l2d (s1 * ((((2 : Int32) * n) - dn).toInt64))) (FP.dmul (4611686018427387904 : UInt64) (FP.l2d (s1 * ((dn - n).toInt64))))))), .second, .val (.int (1 : Int32)), .val (.long mu), .second, .val (.long la), .second, .val (.int (1 : Int32)), .val (.ref b5), .val (.ref b7), .val (.double (FP.ddiv (FP.dadd (FP.l2d la) (FP.l2d mu)) (FP.dadd (FP.l2d la) (FP.dmul (4611686018427387904 : UInt64) (FP.l2d mu))))), .second, .val (.double (FP.ddiv (FP.dadd (FP.l2d (la + (1 : Int64))) (FP.l2d mu)) (FP.dadd (FP.l2d (la + (1 : Int64))) (FP.dmul (4611686018427387904 : UInt64) (FP.l2d mu))))), .second]) at_229 rfl rfl ?_
    refine X10.iload (pc' := 233) at_231 rfl rfl ?_
    refine X10.ifNo (pc' := 236) at_233 (by decide) rfl ?_
    refine X10.iload (pc' := 238) at_236 rfl rfl ?_
    refine X10.ifNo (pc' := 241) at_238 (by decide) rfl ?_
    refine X10.iconst (pc' := 242) (z := 1) at_241 rfl rfl ?_
    refine X10.goto (pc' := 246) at_242 (by decide) (by decide) ?_
    exact X10.zreturn (z' := (1 : Int32)) rfl (by simp) at_246 rfl (by decide) (by decide) rfl
  · refine X3.ifYes (pc' := 231) at_151 (flt (fun q => hc4 ((lw_gt _ _).mp q))).2.2.2 (by decide) (by decide) ?_
    refine X3.iload (pc' := 233) at_231 rfl rfl ?_
    refine X3.ifNo (pc' := 236) at_233 (by decide) rfl ?_
    refine X3.iload (pc' := 238) at_236 rfl rfl ?_
    refine X3.ifNo (pc' := 241) at_238 (by decide) rfl ?_
    refine X3.iconst (pc' := 242) (z := 1) at_241 rfl rfl ?_
    refine X3.goto (pc' := 246) at_242 (by decide) (by decide) ?_
    exact X3.zreturn (z' := (1 : Int32)) rfl (by simp) at_246 rfl (by decide) (by decide) rfl
set_option maxRecDepth 65536 in
set_option maxHeartbeats 40000000 in
theorem comes_1 {Post : Tables → Env → Array Value → State → Outcome → State → Prop} (hpost : ∀ tb e args s v u, (limb_1_1.after args s (.returned v) u = true ∧ limb_1_2.after args s (.returned v) u = true ∧ True) → FrameEnd s (.returned v) u (Jvm.fieldLocs frame_1_writes args s ++ Jvm.arrayLocs frame_1_arrays args s ++ Jvm.staticLocs frame_1_statics s) 16 128 → Post tb e args s (.returned v) u) :
    ArmFor flags0 classFile x code maxLocals ret World_1 tables_1 room_1 Calls_1 rest_1 Pre_1 Post := by
  intro l hfl _ _ p e ha hc hk s m args below hf hA hF happ hP
  obtain ⟨hcalls, hrest, hpre⟩ := hP
  obtain ⟨-, -, -, hnamed, -, -, -, hat⟩ := (Spec.applies_iff hf).mp happ
  obtain ⟨hg, hn⟩ := and_e (Cond.before_iff.mp (show (Jvm.Cond.and given_1 narrow_1).before args s = true from hpre))
  obtain ⟨g1, g2⟩ := and_e hg
  obtain ⟨g3, g4⟩ := and_e g2
  obtain ⟨g5, g6⟩ := and_e g4
  obtain ⟨g7, g8⟩ := and_e g6
  obtain ⟨g9, g10⟩ := and_e g8
  obtain ⟨w0, w1, w2, w3, w4, rfl⟩ : ∃ w0 w1 w2 w3 w4 : Value, args = #[w0, w1, w2, w3, w4] := by
    have hs : args.size = 5 := by simpa [Cond.value, given_1] using g1
    obtain ⟨L⟩ := args
    match L, hs with
    | [w0, w1, w2, w3, w4], _ => exact ⟨w0, w1, w2, w3, w4, rfl⟩
  have hw := fun d (hd : d ∈ tables_1) => atoms_spec (ws := Jvm.Cond.code x code maxLocals ret :: tables_1) hat d (List.mem_cons_of_mem _ hd)
  obtain ⟨i0, ei0⟩ := is_v g3
  obtain rfl : w0 = (.int i0) := Option.some.inj ei0
  obtain ⟨i1, ei1⟩ := is_v g5
  obtain rfl : w1 = (.int i1) := Option.some.inj ei1
  obtain ⟨i2, ei2⟩ := is_v g7
  obtain rfl : w2 = (.int i2) := Option.some.inj ei2
  obtain ⟨i3, ei3⟩ := is_v g9
  obtain rfl : w3 = (.int i3) := Option.some.inj ei3
  obtain ⟨i4, ei4⟩ := is_v g10
  obtain rfl : w4 = (.int i4) := Option.some.inj ei4
  obtain ⟨n, o, h1, h2, h3, _, L, rfl, ⟨rfl, -, N⟩, hq⟩ := ct0 l s _ hw i0 i1 i2 i3 i4 s.heap tables_1 p e ha hc hk s m _ below hf ((Spec.applies_iff_loose hf).mp happ).1 ⟨rfl, State.Warmed39.refl s, rfl⟩ trivial
  refine ⟨n, _, h1, h2, h3, hpost _ _ _ _ _ _ ⟨Cond.after_iff.mpr rfl, Cond.after_iff.mpr (eq_i res_at (Term.int_eval (1)) rfl), trivial⟩ ⟨hq.1, hq.2.1, (hq.2.2.sift fun y hy => Or.inr ((N y hy).elim (fun z => nomatch z) id)).mono (by decide) (by decide)⟩⟩
theorem main_1_1 : Claimed_1_1 := comes_1 fun _ _ _ _ _ _ h hF => ⟨h.1, hF⟩
theorem main_1_2 : Claimed_1_2 := comes_1 fun _ _ _ _ _ _ h hF => ⟨h.2.1, hF⟩
end Jvm.Pilot.@@N@@
namespace Jvm.Pilot.@@N@@
open Jvm Jvm.ClassFile Sem Op Lib Jvm.Free Jvm.Stand Jvm.Pilot.@@N@@.Jvm.D
/-! MADE BY PROGRAM (witnessworld.py) out of the Statement's table words and the real class files: 16 classes; the members and pool entries that the words name. The judged class is class 1, her method 1. -/
namespace start1
open Jvm.ClassFile
def u (s : String) : CpInfo := .utf8 (stringToUtf16 s)
/-- a pool by its gaps: so many unusable entries, then the entry; so many at the end -/
def gap : Nat → List CpInfo → List CpInfo
  | 0, r => r
  | n + 1, r => .unusable :: gap n r
def poolList (es : List (Nat × CpInfo)) (last : Nat) : List CpInfo := es.foldr (fun e r => gap e.1 (e.2 :: r)) (gap last [])
def pool (es : List (Nat × CpInfo)) (last : Nat) : Array CpInfo := ⟨poolList es last⟩
def fileOf (pool : Array CpInfo) (this : Nat) (attrs : Array Attribute := #[]) (ms : Array MethodInfo := #[]) (fl : Nat := 33) (sup : Nat := 0) (ifs : Array Nat := #[]) (fds : Array FieldInfo := #[]) : ClassFile where
  minorVersion := 0
  majorVersion := 65
  constantPool := pool
  accessFlags := fl
  thisClass := this
  superClass := sup
  interfaces := ifs
  fields := fds
  methods := ms
  attributes := attrs
def plain (name : String) (sup : Option ClassId) : Class where
  name := name
  kind := .ordinary
  loader := none
  accessFlags := 33
  super := sup
  interfaces := #[]
  cf := none
  fields := #[]
  methods := #[]
  instanceTypes := #[]
  staticTypes := #[]
  resolved := #[]
  callSites := []
  init := .initialized
  statics := none
  mirror := none

def pool0 : Array CpInfo := pool [(5, u "<init>"), (0, u "()V"), (1, .class_ 10), (1, u "java/lang/Object")] 113

def k0c0 : Code := { maxStack := 0, maxLocals := 1, code := object_method_1_code, exceptionTable := #[], attributes := #[] }
def k0m0 : Method := { name := "<init>", desc := "()V", sig := { parameters := [], returnType := none }, accessFlags := 1, code := some k0c0 }
/-- java/lang/Object -/
def k0 : Class := { plain "java/lang/Object" none with
  accessFlags := 33
  interfaces := #[]
  cf := some (fileOf pool0 8 #[] #[{ accessFlags := 1, nameIndex := 5, descriptorIndex := 6, attributes := #[] }] 33 0 #[] #[])
  fields := #[]
  methods := #[k0m0]
  instanceTypes := #[]
  staticTypes := #[]
  resolved := Array.replicate 124 none
  statics := none }

def pool1 : Array CpInfo := pool [(2, .class_ 4), (1, u "java/lang/Object"), (0, u "<init>"), (0, u "()V"), (0, .integer 2147483647), (0, .integer 1048575), (0, .class_ 10), (0, u "com/example/faultloom/faultloom/core/elastic/ElasticModuli"), (0, .methodref 9 12), (0, .nameAndType 5 13), (0, u "(DD)V"), (0, .methodref 9 15), (0, .nameAndType 16 17), (0, u "alpha"), (0, u "()D"), (0, .integer 2097152), (0, .long 3), (1, .long 2), (1, .double 4598175219545276416), (1, .class_ 26), (0, u "com/example/faultloom/faultloom/core/elastic/ElasticModuliAlphaPinLaw"), (2, u "law"), (0, u "(IIIII)Z")] 3

def k1m0 : Method := { name := "<init>", desc := "()V", sig := { parameters := [], returnType := none }, accessFlags := 1, code := none }
def k1c1 : Code := { maxStack := 6, maxLocals := 31, code := code, exceptionTable := #[], attributes := #[] }
def k1m1 : Method := { name := "law", desc := "(IIIII)Z", sig := { parameters := [.int, .int, .int, .int, .int], returnType := some .boolean }, accessFlags := 9, code := some k1c1 }
/-- com/example/faultloom/faultloom/core/elastic/ElasticModuliAlphaPinLaw -/
def k1 : Class := { plain "com/example/faultloom/faultloom/core/elastic/ElasticModuliAlphaPinLaw" (some 0) with
  accessFlags := 49
  interfaces := #[]
  cf := some (fileOf pool1 25 #[] #[{ accessFlags := 1, nameIndex := 5, descriptorIndex := 6, attributes := #[] }, { accessFlags := 9, nameIndex := 29, descriptorIndex := 30, attributes := #[] }] 49 2 #[] #[])
  fields := #[]
  methods := #[k1m0, k1m1]
  instanceTypes := #[]
  staticTypes := #[]
  resolved := Array.replicate 34 none
  statics := none }

def pool2 : Array CpInfo := pool [(1, .methodref 2 3), (0, .class_ 4), (0, .nameAndType 5 6), (0, u "java/lang/Object"), (0, u "<init>"), (0, u "()V"), (0, .class_ 8), (0, u "java/lang/Record")] 13

def k2c0 : Code := { maxStack := 1, maxLocals := 1, code := jdk_30_method_1_code, exceptionTable := #[], attributes := #[] }
def k2m0 : Method := { name := "<init>", desc := "()V", sig := { parameters := [], returnType := none }, accessFlags := 4, code := some k2c0 }
/-- java/lang/Record -/
def k2 : Class := { plain "java/lang/Record" (some 0) with
  accessFlags := 1057
  interfaces := #[]
  cf := some (fileOf pool2 7 #[] #[{ accessFlags := 4, nameIndex := 5, descriptorIndex := 6, attributes := #[] }] 1057 2 #[] #[])
  fields := #[]
  methods := #[k2m0]
  instanceTypes := #[]
  staticTypes := #[]
  resolved := Array.replicate 22 none
  statics := none }

def pool3 : Array CpInfo := pool [(1, .methodref 2 3), (0, .class_ 4), (0, .nameAndType 5 6), (0, u "java/lang/Record"), (0, u "<init>"), (0, u "()V"), (0, .methodref 8 9), (0, .class_ 10), (0, .nameAndType 11 12), (0, u "java/lang/Double"), (0, u "isFinite"), (0, u "(D)Z"), (12, .double 4611686018427387904), (1, .double 4613937818241073152), (2, .fieldref 31 32), (0, .class_ 33), (0, .nameAndType 34 35), (0, u "com/example/faultloom/faultloom/core/elastic/ElasticModuli"), (0, u "lambda"), (0, u "D"), (0, .fieldref 31 37), (0, .nameAndType 38 35), (0, u "mu"), (12, u "(DD)V"), (4, u "alpha"), (0, u "()D")] 36

def k3c0 : Code := { maxStack := 6, maxLocals := 5, code := prog_10_method_1_code, exceptionTable := #[], attributes := #[] }
def k3m0 : Method := { name := "<init>", desc := "(DD)V", sig := { parameters := [.double, .double], returnType := none }, accessFlags := 1, code := some k3c0 }
def k3c1 : Code := { maxStack := 8, maxLocals := 1, code := prog_10_method_2_code, exceptionTable := #[], attributes := #[] }
def k3m1 : Method := { name := "alpha", desc := "()D", sig := { parameters := [], returnType := some .double }, accessFlags := 1, code := some k3c1 }
/-- com/example/faultloom/faultloom/core/elastic/ElasticModuli -/
def k3 : Class := { plain "com/example/faultloom/faultloom/core/elastic/ElasticModuli" (some 2) with
  accessFlags := 49
  interfaces := #[]
  cf := some (fileOf pool3 31 #[] #[{ accessFlags := 1, nameIndex := 5, descriptorIndex := 51, attributes := #[] }, { accessFlags := 1, nameIndex := 56, descriptorIndex := 57, attributes := #[] }] 49 2 #[] #[{ accessFlags := 18, nameIndex := 34, descriptorIndex := 35, attributes := #[] }, { accessFlags := 18, nameIndex := 38, descriptorIndex := 35, attributes := #[] }])
  fields := #[{ name := "lambda", type := .double, accessFlags := 18, slot := 0, constantValue := 0 }, { name := "mu", type := .double, accessFlags := 18, slot := 1, constantValue := 0 }]
  methods := #[k3m0, k3m1]
  instanceTypes := #[.double, .double]
  staticTypes := #[]
  resolved := Array.replicate 94 none
  statics := none }

def pool4 : Array CpInfo := pool [(1, .class_ 2), (0, u "java/io/Serializable"), (0, .class_ 4), (0, u "java/lang/Object")] 2

/-- java/io/Serializable -/
def k4 : Class := { plain "java/io/Serializable" (some 0) with
  accessFlags := 1537
  interfaces := #[]
  cf := some (fileOf pool4 1 #[] #[] 1537 3 #[] #[])
  fields := #[]
  methods := #[]
  instanceTypes := #[]
  staticTypes := #[]
  resolved := Array.replicate 7 none
  statics := none }

def pool5 : Array CpInfo := pool [(2, .class_ 4), (1, u "java/lang/Object"), (0, u "<init>"), (0, u "()V"), (1, .class_ 10), (1, u "java/lang/Number"), (2, .class_ 14), (0, u "java/io/Serializable"), (0, u "serialVersionUID"), (0, u "J")] 20

def k5m0 : Method := { name := "<init>", desc := "()V", sig := { parameters := [], returnType := none }, accessFlags := 1, code := none }
/-- java/lang/Number -/
def k5 : Class := { plain "java/lang/Number" (some 0) with
  accessFlags := 1057
  interfaces := #[4]
  cf := some (fileOf pool5 8 #[] #[{ accessFlags := 1, nameIndex := 5, descriptorIndex := 6, attributes := #[] }] 1057 2 #[13] #[{ accessFlags := 26, nameIndex := 15, descriptorIndex := 16, attributes := #[] }])
  fields := #[{ name := "serialVersionUID", type := .long, accessFlags := 26, slot := 0, constantValue := 0 }]
  methods := #[k5m0]
  instanceTypes := #[]
  staticTypes := #[.long]
  resolved := Array.replicate 37 none
  statics := none }

def pool6 : Array CpInfo := pool [(1, .class_ 2), (0, u "java/lang/Comparable"), (0, .class_ 4), (0, u "java/lang/Object")] 7

/-- java/lang/Comparable -/
def k6 : Class := { plain "java/lang/Comparable" (some 0) with
  accessFlags := 1537
  interfaces := #[]
  cf := some (fileOf pool6 1 #[] #[] 1537 3 #[] #[])
  fields := #[]
  methods := #[]
  instanceTypes := #[]
  staticTypes := #[]
  resolved := Array.replicate 12 none
  statics := none }

def pool7 : Array CpInfo := pool [(1, .class_ 2), (0, u "java/lang/constant/Constable"), (0, .class_ 4), (0, u "java/lang/Object")] 6

/-- java/lang/constant/Constable -/
def k7 : Class := { plain "java/lang/constant/Constable" (some 0) with
  accessFlags := 1537
  interfaces := #[]
  cf := some (fileOf pool7 1 #[] #[] 1537 3 #[] #[])
  fields := #[]
  methods := #[]
  instanceTypes := #[]
  staticTypes := #[]
  resolved := Array.replicate 11 none
  statics := none }

def pool8 : Array CpInfo := pool [(1, .class_ 2), (0, u "java/lang/constant/ConstantDesc"), (0, .class_ 4), (0, u "java/lang/Object")] 32

/-- java/lang/constant/ConstantDesc -/
def k8 : Class := { plain "java/lang/constant/ConstantDesc" (some 0) with
  accessFlags := 1537
  interfaces := #[]
  cf := some (fileOf pool8 1 #[] #[] 1537 3 #[] #[])
  fields := #[]
  methods := #[]
  instanceTypes := #[]
  staticTypes := #[]
  resolved := Array.replicate 37 none
  statics := none }

def pool9 : Array CpInfo := pool [(1, .class_ 2), (0, u "java/lang/Double"), (10, u "isFinite"), (0, u "(D)Z"), (8, .class_ 25), (1, u "java/lang/Math"), (12, .methodref 23 39), (0, .nameAndType 40 41), (0, u "abs"), (0, u "(D)D"), (69, .double 9218868437227405311), (2, .class_ 116), (1, u "java/lang/Number"), (3, u "value"), (0, u "D"), (51, u "TYPE"), (0, u "Ljava/lang/Class;"), (0, .class_ 176), (0, u "java/lang/Comparable"), (0, .class_ 178), (0, u "java/lang/constant/Constable"), (0, .class_ 180), (0, u "java/lang/constant/ConstantDesc"), (0, u "POSITIVE_INFINITY"), (3, u "NEGATIVE_INFINITY"), (2, u "NaN"), (2, u "MAX_VALUE"), (0, u "MIN_NORMAL"), (0, u "MIN_VALUE"), (2, u "SIZE"), (0, u "I"), (1, u "PRECISION"), (1, u "MAX_EXPONENT"), (1, u "MIN_EXPONENT"), (1, u "BYTES"), (3, u "serialVersionUID"), (0, u "J")] 79

def k9c0 : Code := { maxStack := 4, maxLocals := 2, code := jdk_117_method_8_code, exceptionTable := #[], attributes := #[] }
def k9m0 : Method := { name := "isFinite", desc := "(D)Z", sig := { parameters := [.double], returnType := some .boolean }, accessFlags := 9, code := some k9c0 }
/-- java/lang/Double -/
def k9 : Class := { plain "java/lang/Double" (some 5) with
  accessFlags := 49
  interfaces := #[6, 7, 8]
  cf := some (fileOf pool9 1 #[] #[{ accessFlags := 9, nameIndex := 13, descriptorIndex := 14, attributes := #[] }] 49 114 #[175, 177, 179] #[{ accessFlags := 25, nameIndex := 181, descriptorIndex := 121, attributes := #[] }, { accessFlags := 25, nameIndex := 185, descriptorIndex := 121, attributes := #[] }, { accessFlags := 25, nameIndex := 188, descriptorIndex := 121, attributes := #[] }, { accessFlags := 25, nameIndex := 191, descriptorIndex := 121, attributes := #[] }, { accessFlags := 25, nameIndex := 192, descriptorIndex := 121, attributes := #[] }, { accessFlags := 25, nameIndex := 193, descriptorIndex := 121, attributes := #[] }, { accessFlags := 25, nameIndex := 196, descriptorIndex := 197, attributes := #[] }, { accessFlags := 25, nameIndex := 199, descriptorIndex := 197, attributes := #[] }, { accessFlags := 25, nameIndex := 201, descriptorIndex := 197, attributes := #[] }, { accessFlags := 25, nameIndex := 203, descriptorIndex := 197, attributes := #[] }, { accessFlags := 25, nameIndex := 205, descriptorIndex := 197, attributes := #[] }, { accessFlags := 25, nameIndex := 173, descriptorIndex := 174, attributes := #[] }, { accessFlags := 18, nameIndex := 120, descriptorIndex := 121, attributes := #[] }, { accessFlags := 26, nameIndex := 209, descriptorIndex := 210, attributes := #[] }])
  fields := #[{ name := "POSITIVE_INFINITY", type := .double, accessFlags := 25, slot := 0, constantValue := 0 }, { name := "NEGATIVE_INFINITY", type := .double, accessFlags := 25, slot := 1, constantValue := 0 }, { name := "NaN", type := .double, accessFlags := 25, slot := 2, constantValue := 0 }, { name := "MAX_VALUE", type := .double, accessFlags := 25, slot := 3, constantValue := 0 }, { name := "MIN_NORMAL", type := .double, accessFlags := 25, slot := 4, constantValue := 0 }, { name := "MIN_VALUE", type := .double, accessFlags := 25, slot := 5, constantValue := 0 }, { name := "SIZE", type := .int, accessFlags := 25, slot := 6, constantValue := 0 }, { name := "PRECISION", type := .int, accessFlags := 25, slot := 7, constantValue := 0 }, { name := "MAX_EXPONENT", type := .int, accessFlags := 25, slot := 8, constantValue := 0 }, { name := "MIN_EXPONENT", type := .int, accessFlags := 25, slot := 9, constantValue := 0 }, { name := "BYTES", type := .int, accessFlags := 25, slot := 10, constantValue := 0 }, { name := "TYPE", type := (.object "java/lang/Class"), accessFlags := 25, slot := 11, constantValue := 0 }, { name := "value", type := .double, accessFlags := 18, slot := 0, constantValue := 0 }, { name := "serialVersionUID", type := .long, accessFlags := 26, slot := 12, constantValue := 0 }]
  methods := #[k9m0]
  instanceTypes := #[.double]
  staticTypes := #[.double, .double, .double, .double, .double, .double, .int, .int, .int, .int, .int, (.object "java/lang/Class"), .long]
  resolved := Array.replicate 290 none
  statics := none }

def pool10 : Array CpInfo := pool [(1, .class_ 2), (0, u "java/lang/Math"), (1, .class_ 6), (1, u "java/lang/Object"), (0, u "<init>"), (0, u "()V"), (5, u "(D)D"), (83, .class_ 100), (1, u "java/lang/Math$RandomNumberGeneratorHolder"), (23, u "abs"), (47, u "negativeZeroFloatBits"), (0, u "J"), (2, u "negativeZeroDoubleBits"), (68, u "$assertionsDisabled"), (0, u "Z"), (91, u "twoToTheDoubleScaleDown"), (0, u "D"), (4, u "twoToTheDoubleScaleUp"), (9, u "E"), (3, u "PI"), (2, u "TAU"), (2, u "DEGREES_TO_RADIANS"), (0, u "RADIANS_TO_DEGREES")] 94

def k10m0 : Method := { name := "<init>", desc := "()V", sig := { parameters := [], returnType := none }, accessFlags := 2, code := none }
def k10c1 : Code := { maxStack := 4, maxLocals := 2, code := jdk_29_method_64_code, exceptionTable := #[], attributes := #[] }
def k10m1 : Method := { name := "abs", desc := "(D)D", sig := { parameters := [.double], returnType := some .double }, accessFlags := 9, code := some k10c1 }
/-- java/lang/Math -/
def k10 : Class := { plain "java/lang/Math" (some 0) with
  accessFlags := 49
  interfaces := #[]
  cf := some (fileOf pool10 1 #[.nestMembers #[98]] #[{ accessFlags := 2, nameIndex := 7, descriptorIndex := 8, attributes := #[] }, { accessFlags := 9, nameIndex := 124, descriptorIndex := 14, attributes := #[] }] 49 4 #[] #[{ accessFlags := 25, nameIndex := 354, descriptorIndex := 339, attributes := #[] }, { accessFlags := 25, nameIndex := 358, descriptorIndex := 339, attributes := #[] }, { accessFlags := 25, nameIndex := 361, descriptorIndex := 339, attributes := #[] }, { accessFlags := 26, nameIndex := 364, descriptorIndex := 339, attributes := #[] }, { accessFlags := 26, nameIndex := 365, descriptorIndex := 339, attributes := #[] }, { accessFlags := 26, nameIndex := 172, descriptorIndex := 173, attributes := #[] }, { accessFlags := 26, nameIndex := 176, descriptorIndex := 173, attributes := #[] }, { accessFlags := 8, nameIndex := 344, descriptorIndex := 339, attributes := #[] }, { accessFlags := 8, nameIndex := 338, descriptorIndex := 339, attributes := #[] }, { accessFlags := 4120, nameIndex := 245, descriptorIndex := 246, attributes := #[] }])
  fields := #[{ name := "E", type := .double, accessFlags := 25, slot := 0, constantValue := 0 }, { name := "PI", type := .double, accessFlags := 25, slot := 1, constantValue := 0 }, { name := "TAU", type := .double, accessFlags := 25, slot := 2, constantValue := 0 }, { name := "DEGREES_TO_RADIANS", type := .double, accessFlags := 26, slot := 3, constantValue := 0 }, { name := "RADIANS_TO_DEGREES", type := .double, accessFlags := 26, slot := 4, constantValue := 0 }, { name := "negativeZeroFloatBits", type := .long, accessFlags := 26, slot := 5, constantValue := 0 }, { name := "negativeZeroDoubleBits", type := .long, accessFlags := 26, slot := 6, constantValue := 0 }, { name := "twoToTheDoubleScaleUp", type := .double, accessFlags := 8, slot := 7, constantValue := 0 }, { name := "twoToTheDoubleScaleDown", type := .double, accessFlags := 8, slot := 8, constantValue := 0 }, { name := "$assertionsDisabled", type := .boolean, accessFlags := 4120, slot := 9, constantValue := 0 }]
  methods := #[k10m0, k10m1]
  instanceTypes := #[]
  staticTypes := #[.double, .double, .double, .double, .double, .long, .long, .double, .double, .boolean]
  resolved := Array.replicate 460 none
  statics := none }

def pool11 : Array CpInfo := pool [(1, u "java/lang/Cloneable"), (0, .class_ 1), (0, u "java/lang/Object"), (0, .class_ 3)] 3

/-- java/lang/Cloneable -/
def k11 : Class := { plain "java/lang/Cloneable" (some 0) with
  accessFlags := 1537
  interfaces := #[]
  cf := some (fileOf pool11 2 #[] #[] 1537 4 #[] #[])
  fields := #[]
  methods := #[]
  instanceTypes := #[]
  staticTypes := #[]
  resolved := Array.replicate 8 none
  statics := none }

/-- the primitive byte -/
def k12 : Class := { plain "byte" none with kind := .primitive 'B', accessFlags := 0x411 }
/-- [B -/
def k13 : Class := { plain "[B" (some 0) with kind := .array 12 .byte, interfaces := #[11, 4], accessFlags := 1041 }

/-- the primitive int -/
def k14 : Class := { plain "int" none with kind := .primitive 'I', accessFlags := 0x411 }
/-- [I -/
def k15 : Class := { plain "[I" (some 0) with kind := .array 14 .int, interfaces := #[11, 4], accessFlags := 1041 }

def heap : Heap := #[]
def classes : Array Class := #[k0, k1, k2, k3, k4, k5, k6, k7, k8, k9, k10, k11, k12, k13, k14, k15]
def interned : List (Array UInt16 × Addr) := []
def slotsUsed : Nat := 0
def theMethod : MethodId := ⟨1, 1⟩
def args0 : Array Value := #[.int 2, .int 3, .int 4, .int 5, .int 6]
def aboutOver (below : List Frame) : State where
  vm := { classes := classes, interned := interned.toArray }
  heap := heap
  slotsUsed := slotsUsed
  threads := #[{ frames := .invoking theMethod args0 :: below }]
def below0 : List Frame := [.native { method := ⟨0, 0⟩, args := #[] }]
def about1 : State := aboutOver below0
def p0 : Program := .bare "" "" ""
def e0 : Env := launch0.env 0 0 0
theorem w_frames : about1.frames = Frame.invoking theMethod args0 :: below0 := rfl
set_option maxRecDepth 65536 in
theorem w_args : argsFit about1.vm theMethod args0 = true := by decide +kernel
set_option maxRecDepth 65536 in
theorem w_heap : heapFits about1 = true := by decide +kernel
set_option maxRecDepth 65536 in
theorem w_runnable : about1.curStatus? = some .runnable := by decide +kernel
set_option maxRecDepth 65536 in
theorem w_alone : about1.alone = true := by decide +kernel
set_option maxRecDepth 65536 in
theorem w_named : about1.methodNamed? x = some theMethod := by decide +kernel
set_option maxRecDepth 65536 in
theorem w_hears : about1.hears theMethod below0 = true := by decide +kernel
set_option maxRecDepth 65536 in
theorem w_ripe : about1.ripe theMethod args0 below0 = true := by decide +kernel
theorem w_running : about1.status = .running := rfl
set_option maxRecDepth 65536 in
theorem w_room : about1.hasRoom e0.platform room_1 = true :=
  launch0.hasRoom_least _ room_1 (by decide +kernel) (by decide +kernel) (by decide +kernel) (by decide +kernel) (by decide +kernel) (by decide +kernel)
theorem allAtoms_all (ts : List Jvm.Cond) (a : Array Jvm.Value) (st : Jvm.State) : (allAtoms ts).before a st = ts.all (fun c => c.before a st) := by
  induction ts with
  | nil => rfl
  | cons c t ih =>
    show (Jvm.Cond.and c (allAtoms t)).before a st = _
    rw [Jvm.Cond.before_and, ih, List.all_cons]
def words1 : List Jvm.Cond := Jvm.Cond.code x code maxLocals ret :: tables_1
/-- a 'code' word, met by the world's own term for the bytes: nothing is compared byte by byte -/
theorem code_word {y : MethodName} {bytes : ByteArray} {mx : Nat} {rt : Option FieldType} {a : Array Value} {s : State} {m : MethodId} {meth : Method} {c : Code} (h1 : s.methodNamed? y = some m) (h2 : s.vm.method? m = some meth) (h3 : meth.code = some c) (h4 : c.code = bytes)
    (h5 : (c.maxLocals == mx && c.exceptionTable.isEmpty && decide (c.maxStack ≤ mostOperands) && decide (meth.sig.returnType = rt) && !meth.locks && decide (parseMethodDescriptor y.desc = some meth.sig)) = true) : (Jvm.Cond.code y bytes mx rt).before a s = true := by
  simp only [Bool.and_eq_true, beq_iff_eq, Bool.not_eq_true', decide_eq_true_eq] at h5
  obtain ⟨⟨⟨⟨⟨g1, g2⟩, g3⟩, g4⟩, g5⟩, g6⟩ := h5
  simp [Cond.before, Cond.holds, Cond.value, h1, h2, h3, h4, g1, g2, g3, g4, g5, g6]
def isCode : Jvm.Cond → Bool
  | .code _ _ _ _ => true
  | _ => false
theorem all_split {L : List Jvm.Cond} {P : Jvm.Cond → Bool} (h1 : L.all (fun c => isCode c || P c) = true) (h2 : ∀ c ∈ L.filter isCode, P c = true) : L.all P = true := by
  refine List.all_eq_true.mpr fun c hc => ?_
  have h := List.all_eq_true.mp h1 c hc
  rcases Bool.eq_false_or_eq_true (isCode c) with hi | hi
  · exact h2 c (List.mem_filter.mpr ⟨hc, hi⟩)
  · simpa [hi] using h
set_option maxRecDepth 65536 in
theorem w_c0 : (Jvm.Cond.code x code maxLocals ret).before args0 about1 = true := code_word (m := ⟨1, 1⟩) (meth := k1m1) (c := k1c1) (by decide +kernel) rfl rfl rfl (by decide +kernel)
set_option maxRecDepth 65536 in
theorem w_c1 : (Jvm.Cond.code ({ cls := "com/example/faultloom/faultloom/core/elastic/ElasticModuli", name := "<init>", desc := "(DD)V" } : Jvm.MethodName) prog_10_method_1_code (5 : Nat) (Option.none : Option Jvm.ClassFile.FieldType)).before args0 about1 = true := code_word (m := ⟨3, 0⟩) (meth := k3m0) (c := k3c0) (by decide +kernel) rfl rfl rfl (by decide +kernel)
set_option maxRecDepth 65536 in
theorem w_c2 : (Jvm.Cond.code ({ cls := "java/lang/Record", name := "<init>", desc := "()V" } : Jvm.MethodName) jdk_30_method_1_code (1 : Nat) (Option.none : Option Jvm.ClassFile.FieldType)).before args0 about1 = true := code_word (m := ⟨2, 0⟩) (meth := k2m0) (c := k2c0) (by decide +kernel) rfl rfl rfl (by decide +kernel)
set_option maxRecDepth 65536 in
theorem w_c3 : (Jvm.Cond.code ({ cls := "java/lang/Object", name := "<init>", desc := "()V" } : Jvm.MethodName) object_method_1_code (1 : Nat) (Option.none : Option Jvm.ClassFile.FieldType)).before args0 about1 = true := code_word (m := ⟨0, 0⟩) (meth := k0m0) (c := k0c0) (by decide +kernel) rfl rfl rfl (by decide +kernel)
set_option maxRecDepth 65536 in
theorem w_c4 : (Jvm.Cond.code ({ cls := "java/lang/Double", name := "isFinite", desc := "(D)Z" } : Jvm.MethodName) jdk_117_method_8_code (2 : Nat) (Option.some Jvm.ClassFile.FieldType.boolean)).before args0 about1 = true := code_word (m := ⟨9, 0⟩) (meth := k9m0) (c := k9c0) (by decide +kernel) rfl rfl rfl (by decide +kernel)
set_option maxRecDepth 65536 in
theorem w_c5 : (Jvm.Cond.code ({ cls := "java/lang/Math", name := "abs", desc := "(D)D" } : Jvm.MethodName) jdk_29_method_64_code (2 : Nat) (Option.some Jvm.ClassFile.FieldType.double)).before args0 about1 = true := code_word (m := ⟨10, 1⟩) (meth := k10m1) (c := k10c1) (by decide +kernel) rfl rfl rfl (by decide +kernel)
set_option maxRecDepth 65536 in
theorem w_c6 : (Jvm.Cond.code ({ cls := "com/example/faultloom/faultloom/core/elastic/ElasticModuli", name := "alpha", desc := "()D" } : Jvm.MethodName) prog_10_method_2_code (1 : Nat) (Option.some Jvm.ClassFile.FieldType.double)).before args0 about1 = true := code_word (m := ⟨3, 1⟩) (meth := k3m1) (c := k3c1) (by decide +kernel) rfl rfl rfl (by decide +kernel)
def codes1 : List Jvm.Cond := [Jvm.Cond.code x code maxLocals ret, Jvm.Cond.code ({ cls := "com/example/faultloom/faultloom/core/elastic/ElasticModuli", name := "<init>", desc := "(DD)V" } : Jvm.MethodName) prog_10_method_1_code (5 : Nat) (Option.none : Option Jvm.ClassFile.FieldType), Jvm.Cond.code ({ cls := "java/lang/Record", name := "<init>", desc := "()V" } : Jvm.MethodName) jdk_30_method_1_code (1 : Nat) (Option.none : Option Jvm.ClassFile.FieldType), Jvm.Cond.code ({ cls := "java/lang/Object", name := "<init>", desc := "()V" } : Jvm.MethodName) object_method_1_code (1 : Nat) (Option.none : Option Jvm.ClassFile.FieldType), Jvm.Cond.code ({ cls := "java/lang/Double", name := "isFinite", desc := "(D)Z" } : Jvm.MethodName) jdk_117_method_8_code (2 : Nat) (Option.some Jvm.ClassFile.FieldType.boolean), Jvm.Cond.code ({ cls := "java/lang/Math", name := "abs", desc := "(D)D" } : Jvm.MethodName) jdk_29_method_64_code (2 : Nat) (Option.some Jvm.ClassFile.FieldType.double), Jvm.Cond.code ({ cls := "com/example/faultloom/faultloom/core/elastic/ElasticModuli", name := "alpha", desc := "()D" } : Jvm.MethodName) prog_10_method_2_code (1 : Nat) (Option.some Jvm.ClassFile.FieldType.double)]
set_option maxRecDepth 65536 in
theorem codes_eq : words1.filter isCode = codes1 := rfl
theorem w_codes : ∀ c ∈ words1.filter isCode, c.before args0 about1 = true := by
  rw [codes_eq]
  intro c hc
  simp only [codes1, List.mem_cons, List.not_mem_nil, or_false] at hc
  rcases hc with rfl | rfl | rfl | rfl | rfl | rfl | rfl
  · exact w_c0
  · exact w_c1
  · exact w_c2
  · exact w_c3
  · exact w_c4
  · exact w_c5
  · exact w_c6
set_option maxRecDepth 65536 in
theorem w_t1 : (words1.take 24).all (fun c => isCode c || c.before args0 about1) = true := by decide +kernel
set_option maxRecDepth 65536 in
theorem w_t2 : (words1.drop 24).all (fun c => isCode c || c.before args0 about1) = true := by decide +kernel
theorem w_tables : (allAtoms (Jvm.Cond.code x code maxLocals ret :: tables_1)).before args0 about1 = true := by
  rw [allAtoms_all]
  show words1.all (fun c => c.before args0 about1) = true
  refine all_split ?_ w_codes
  rw [← List.take_append_drop 24 words1, List.all_append, w_t1, w_t2]
  rfl
set_option maxRecDepth 65536 in
theorem w_case : (Jvm.Cond.and given_1 narrow_1).before args0 about1 = true := by decide +kernel
theorem w_applies : (headSpec (Jvm.Cond.code x code maxLocals ret :: tables_1) room_1).applies x e0.platform about1 = true :=
  (Spec.applies_iff w_frames).mpr ⟨w_running, w_runnable, w_alone, w_named, w_hears, w_ripe, w_room, w_tables⟩
theorem atStart : AtStart classFile x code maxLocals ret World_1 tables_1 room_1 Calls_1 rest_1 Pre_1 launch0 p0 e0 about1 theMethod args0 below0 :=
  ⟨lists_1, trivial, launch0.admits_env _ _ _, launch0.least_env, fairChoices_fair.cas, fairChoices_fair.clock, w_frames, w_args, w_heap, w_applies, trivial, trivial, w_case⟩
end start1
theorem witness_1 : WitnessClaimed_1 := ⟨start1.p0, start1.e0, start1.about1, start1.theMethod, start1.args0, start1.below0, start1.atStart⟩
end Jvm.Pilot.@@N@@
