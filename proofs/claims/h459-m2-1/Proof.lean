import JvmDerived
import JvmDerived.Pilot.@@N@@Statement
import JvmDerived.Pilot.@@N@@Code
set_option linter.unusedVariables false
set_option linter.unusedSimpArgs false
namespace Jvm.Own
open Jvm Jvm.ClassFile Sem Op Lib Jvm.Free Jvm.Stand Jvm.LawKit Jvm.RoadKit
/-- the run from A ends, and G holds of its end -/
def Runs (p : Program) (e : Env) (below : List Frame) (A : State) (G : Outcome → State → Prop) : Prop :=
  ∃ s₂ o, Steps p.tables e below A s₂ ∧ s₂.status = .running ∧ Ended s₂ below o ∧ G o s₂
section A
variable {p : Program} {e : Env} {below : List Frame} {A B : State} {G : Outcome → State → Prop}
theorem Runs.of (k : Runs p e below B G) (h : ∀ t, Steps p.tables e below B t → Steps p.tables e below A t) : Runs p e below A G := by
  obtain ⟨t, o, hs, r⟩ := k
  exact ⟨t, o, h t hs, r⟩
theorem Runs.dia {P : Prop} [Decidable P] {B : Int32 → State} {vt vf : Int32} (ht : P → Runs p e below (B vt) G → Runs p e below A G) (hf : ¬ P → Runs p e below (B vf) G → Runs p e below A G) (k : Runs p e below (B (if P then vt else vf)) G) : Runs p e below A G := by
  by_cases hc : P
  · rw [if_pos hc] at k; exact ht hc k
  · rw [if_neg hc] at k; exact hf hc k
theorem Runs.via (k : Runs p e below B G) (h : Steps p.tables e below A B) : Runs p e below A G := k.of fun _ q => h.trans q
end A
/-- what stood at h0 is written at ws alone -/
def Wrote (h0 : Heap) (ws : List Addr) (L : List Loc) : Prop := ∀ y ∈ L, y.base ∈ ws ∨ h0.size ≤ y.base
theorem Wrote.nil {h0 : Heap} {ws : List Addr} : Wrote h0 ws [] := fun _ q => nomatch q
theorem Wrote.app {h0 h : Heap} {ws ws' : List Addr} {L L' : List Loc} (N : Wrote h0 ws L) (N' : Wrote h ws' L') (hs : h0.size ≤ h.size) (hw : ∀ x ∈ ws', x ∈ ws ∨ h0.size ≤ x) : Wrote h0 ws (L ++ L') := fun y q =>
  (List.mem_append.mp q).elim (N y) fun r => (N' y r).elim (hw _) fun z => Or.inr (Nat.le_trans hs z)
theorem Wrote.snoc {h0 : Heap} {ws : List Addr} {L : List Loc} {a : Addr} {i : Nat} (N : Wrote h0 ws L) (q : a ∈ ws ∨ h0.size ≤ a) : Wrote h0 ws (L ++ [⟨a, i⟩]) := fun y r =>
  (List.mem_append.mp r).elim (N y) fun z => by cases List.mem_singleton.mp z; exact q
/-- where a walk stands: the method's own facts, the heap as it is now, what was written since h0 -/
def Here (p : Program) (l : Launch) (e : Env) (R : Room) (s : State) (m : MethodId) (args : Array Value) (below : List Frame) (meth : Method) (c : Code)
    (y : MethodName) (bytes : ByteArray) (maxL : Nat) (ret : Option FieldType) (Z : State) (h0 : Heap) (ws : List Addr) (T : State) (cells slots : Nat) (h : Heap) : Prop :=
  (p.tables.exec = Jvm.exec ∧ Z.Warmed39 s.vm ∧ c.code = bytes ∧ c.maxLocals = maxL ∧ s.vm.findClass y.cls = some m.cls ∧ meth.name = y.name ∧ meth.sig.returnType = ret ∧ meth.locks = false) ∧
  T.heap = h ∧ Keep h0 h ws ∧ ∃ locs, Stand p l e R s m args below meth c T locs cells slots ∧ Wrote h0 ws locs
/-- how a walk must end: it returns, Q holds of the result and the heap, what stood at h0 is written at ws alone -/
def Out (s : State) (h0 : Heap) (ws : List Addr) (rm : Room) (Q : Option Value → Heap → Prop) (o : Outcome) (U : State) : Prop :=
  ∃ v L, o = .returned v ∧ (Q v U.heap ∧ Keep h0 U.heap ws ∧ Wrote h0 ws L) ∧ FrameEnd s o U L rm.cells rm.slots
/-- a method's contract at the heap h0 and these arguments -/
def Ct (l : Launch) (Z : State) (y : MethodName) (bytes : ByteArray) (maxL : Nat) (ret : Option FieldType) (rm : Room) (as : Array Value) (h0 : Heap) (ws : List Addr) (Q : Option Value → Heap → Prop) : Prop :=
  ∀ wz, MetFree l y (head1 (Jvm.Cond.code y bytes maxL ret :: wz) rm) (fun a U => a = as ∧ Z.Warmed39 U.vm ∧ U.heap = h0) (fun _ _ _ _ _ => True)
    (fun _ U o U' => ∃ v L, o = .returned v ∧ (Q v U'.heap ∧ Keep h0 U'.heap ws ∧ Wrote h0 ws L) ∧ FrameEnd U o U' L rm.cells rm.slots)
section B
variable {p : Program} {l : Launch} {e : Env} {R : Room} {s : State} {m : MethodId} {args : Array Value} {below : List Frame} {meth : Method} {c : Code} {y : MethodName} {bytes : ByteArray} {maxL : Nat} {ret : Option FieldType} {Z : State} {h0 : Heap} {ws : List Addr} {T : State} {cells slots : Nat} {h : Heap} {G : Outcome → State → Prop} {a0 : Array Value}
theorem Ct.of {rm : Room} {as : Array Value} {Q : Option Value → Heap → Prop} (hp : plainFor y = true)
    (body : ∀ p e s m below meth c T, Here p l e rm s m as below meth c y bytes maxL ret Z h0 ws T 0 0 h0 → Runs p e below (T.setTop (entryFrame m as maxL)) (Out s h0 ws rm Q)) :
    Ct l Z y bytes maxL ret rm as h0 ws Q := fun wz => by
  refine MetFree.of_bodySF hp hisR ?_
  intro p e s m args below meth c s₁ Bd hml0 hP hK
  obtain ⟨rfl, hZ, hh⟩ := hP
  have e0 : s₁.heap = h0 := by rw [← hh, Bd.state]; rfl
  exact body p e s m below meth c s₁ ⟨⟨Bd.exec, hZ, Bd.bytes, hml0, findClass_of_methodNamed Bd.named, (name_of_methodNamed Bd.named Bd.method).1, Bd.returns, BodyLoose.notSynchronized Bd⟩, e0, Keep.refl _ _, [], Stand.of_body Bd, Wrote.nil⟩
theorem Ct.mono {rm : Room} {as : Array Value} {Q Q' : Option Value → Heap → Prop} (h : Ct l Z y bytes maxL ret rm as h0 ws Q) (hq : ∀ v h, Q v h → Q' v h) : Ct l Z y bytes maxL ret rm as h0 ws Q' := fun wz => by
  intro p e ha hc hk s m args below hf happ hP hK
  obtain ⟨n, o, w1, w2, w3, v, L, q1, q2, q3⟩ := h wz p e ha hc hk s m args below hf happ hP hK
  exact ⟨n, o, w1, w2, w3, v, L, q1, ⟨hq _ _ q2.1, q2.2⟩, q3⟩
/-- from one frame to another that is the same -/
theorem Runs.top {g g' : JFrame} (q : g = g') (k : Runs p e below (T.setTop g') G) : Runs p e below (T.setTop g) G := q ▸ k
theorem Here.keep (X : Here p l e R s m args below meth c y bytes maxL ret Z h0 ws T cells slots h) : Keep h0 h ws := X.2.2.1
theorem Here.hZ (X : Here p l e R s m args below meth c y bytes maxL ret Z h0 ws T cells slots h) : Z.Warmed39 s.vm := X.1.2.1
theorem Here.size (X : Here p l e R s m args below meth c y bytes maxL ret Z h0 ws T cells slots h) : h0.size ≤ h.size := X.2.2.1.1
/-- a plain step -/
theorem Here.step (X : Here p l e R s m args below meth c y bytes maxL ret Z h0 ws T cells slots h) {g g' : JFrame}
    (st : ∀ locs, p.tables.exec = Jvm.exec → c.code = bytes → Z.Warmed39 s.vm → s.vm.findClass y.cls = some m.cls → T.heap = h → Stand p l e R s m args below meth c T locs cells slots → ∀ t, Steps p.tables e below (T.setTop g') t → Steps p.tables e below (T.setTop g) t)
    (k : Runs p e below (T.setTop g') G) : Runs p e below (T.setTop g) G := by
  obtain ⟨⟨x1, x2, x3, x4, x5, x6, x7, x8⟩, x9, x10, locs, S, N⟩ := X
  exact k.of (st locs x1 x3 x2 x5 x9 S)
/-- a step that leaves the heap as it is -/
theorem Here.stepT (X : Here p l e R s m args below meth c y bytes maxL ret Z h0 ws T cells slots h) {g g' : JFrame}
    (st : ∀ locs, p.tables.exec = Jvm.exec → c.code = bytes → c.maxLocals = maxL → Z.Warmed39 s.vm → s.vm.findClass y.cls = some m.cls → T.heap = h → Stand p l e R s m args below meth c T locs cells slots → ∃ T', Stand p l e R s m args below meth c T' locs cells slots ∧ T'.heap = h ∧ ∀ t, Steps p.tables e below (T'.setTop g') t → Steps p.tables e below (T.setTop g) t)
    (k : ∀ T', Here p l e R s m args below meth c y bytes maxL ret Z h0 ws T' cells slots h → Runs p e below (T'.setTop g') G) : Runs p e below (T.setTop g) G := by
  obtain ⟨⟨x1, x2, x3, x4, x5, x6, x7, x8⟩, x9, x10, locs, S, N⟩ := X
  obtain ⟨T', S', e', q⟩ := st locs x1 x3 x4 x2 x5 x9 S
  exact (k T' ⟨⟨x1, x2, x3, x4, x5, x6, x7, x8⟩, e', x10, locs, S', N⟩).of q
/-- a step that writes one slot -/
theorem Here.stepW (X : Here p l e R s m args below meth c y bytes maxL ret Z h0 ws T cells slots h) {g g' : JFrame} {a : Addr} {i : Nat} {v : Value} (hn : a ∈ ws ∨ h0.size ≤ a)
    (st : ∀ locs, p.tables.exec = Jvm.exec → c.code = bytes → meth.name = y.name → Z.Warmed39 s.vm → s.vm.findClass y.cls = some m.cls → T.heap = h → Stand p l e R s m args below meth c T locs cells slots → ∃ T' h', Stand p l e R s m args below meth c T' (locs ++ [⟨a, i⟩]) cells slots ∧ T'.heap = h' ∧ Wr h h' a i v ∧ ∀ t, Steps p.tables e below (T'.setTop g') t → Steps p.tables e below (T.setTop g) t)
    (k : ∀ T' h', Here p l e R s m args below meth c y bytes maxL ret Z h0 ws T' cells slots h' → Wr h h' a i v → Runs p e below (T'.setTop g') G) : Runs p e below (T.setTop g) G := by
  obtain ⟨⟨x1, x2, x3, x4, x5, x6, x7, x8⟩, x9, x10, locs, S, N⟩ := X
  obtain ⟨T', h', S', e', W, q⟩ := st locs x1 x3 x6 x2 x5 x9 S
  exact (k T' h' ⟨⟨x1, x2, x3, x4, x5, x6, x7, x8⟩, e', x10.wr W hn, _, S', N.snoc hn⟩ W).of q
theorem Here.iload (X : Here p l e R s m args below meth c y bytes maxL ret Z h0 ws T cells slots h) {pc pc' : Nat} {Ls : Array Slot} {St : List Value} {i : Nat} {v : Int32} (hd : decode bytes pc = .ok (.iload i, 2)) (hl : Ls[i]? = some (.val (.int v))) (hp : pc + 2 = pc') (k : Runs p e below (T.setTop (mkF m pc' Ls (.int v :: St))) G) : Runs p e below (T.setTop (mkF m pc Ls (St))) G := by
  subst hp
  exact X.step (fun _ hx hb' _ hown _ S t q => XS.iload S.here hx rfl (hb hb' hd) hl q) k
theorem Here.iloadN (X : Here p l e R s m args below meth c y bytes maxL ret Z h0 ws T cells slots h) {pc pc' : Nat} {Ls : Array Slot} {St : List Value} {i : Fin 4} {v : Int32} (hd : decode bytes pc = .ok (.iload_n i, 1)) (hl : Ls[i.val]? = some (.val (.int v))) (hp : pc + 1 = pc') (k : Runs p e below (T.setTop (mkF m pc' Ls (.int v :: St))) G) : Runs p e below (T.setTop (mkF m pc Ls (St))) G := by
  subst hp
  exact X.step (fun _ hx hb' _ hown _ S t q => XS.iloadN S.here hx rfl (hb hb' hd) hl q) k
theorem Here.lload (X : Here p l e R s m args below meth c y bytes maxL ret Z h0 ws T cells slots h) {pc pc' : Nat} {Ls : Array Slot} {St : List Value} {i : Nat} {v : Int64} (hd : decode bytes pc = .ok (.lload i, 2)) (hl : Ls[i]? = some (.val (.long v))) (hp : pc + 2 = pc') (k : Runs p e below (T.setTop (mkF m pc' Ls (.long v :: St))) G) : Runs p e below (T.setTop (mkF m pc Ls (St))) G := by
  subst hp
  exact X.step (fun _ hx hb' _ hown _ S t q => XS.lload S.here hx rfl (hb hb' hd) hl q) k
theorem Here.lloadN (X : Here p l e R s m args below meth c y bytes maxL ret Z h0 ws T cells slots h) {pc pc' : Nat} {Ls : Array Slot} {St : List Value} {i : Fin 4} {v : Int64} (hd : decode bytes pc = .ok (.lload_n i, 1)) (hl : Ls[i.val]? = some (.val (.long v))) (hp : pc + 1 = pc') (k : Runs p e below (T.setTop (mkF m pc' Ls (.long v :: St))) G) : Runs p e below (T.setTop (mkF m pc Ls (St))) G := by
  subst hp
  exact X.step (fun _ hx hb' _ hown _ S t q => XS.lloadN S.here hx rfl (hb hb' hd) hl q) k
theorem Here.aload (X : Here p l e R s m args below meth c y bytes maxL ret Z h0 ws T cells slots h) {pc pc' : Nat} {Ls : Array Slot} {St : List Value} {i : Nat} {v : Value} (hd : decode bytes pc = .ok (.aload i, 2)) (hl : Ls[i]? = some (.val v)) (hv : v.isRef = true) (hp : pc + 2 = pc') (k : Runs p e below (T.setTop (mkF m pc' Ls (v :: St))) G) : Runs p e below (T.setTop (mkF m pc Ls (St))) G := by
  subst hp
  exact X.step (fun _ hx hb' _ hown _ S t q => XS.aload S.here hx rfl (hb hb' hd) hl hv q) k
theorem Here.aloadN (X : Here p l e R s m args below meth c y bytes maxL ret Z h0 ws T cells slots h) {pc pc' : Nat} {Ls : Array Slot} {St : List Value} {i : Fin 4} {v : Value} (hd : decode bytes pc = .ok (.aload_n i, 1)) (hl : Ls[i.val]? = some (.val v)) (hv : v.isRef = true) (hp : pc + 1 = pc') (k : Runs p e below (T.setTop (mkF m pc' Ls (v :: St))) G) : Runs p e below (T.setTop (mkF m pc Ls (St))) G := by
  subst hp
  exact X.step (fun _ hx hb' _ hown _ S t q => XS.aloadN S.here hx rfl (hb hb' hd) hl hv q) k
theorem Here.istore (X : Here p l e R s m args below meth c y bytes maxL ret Z h0 ws T cells slots h) {pc pc' : Nat} {Ls : Array Slot} {St : List Value} {i : Nat} {v : Int32} {l' : Array Slot} (hd : decode bytes pc = .ok (.istore i, 2)) (hl : storeLocals Ls i (.int v) = some l') (hp : pc + 2 = pc') (k : Runs p e below (T.setTop (mkF m pc' l' (St))) G) : Runs p e below (T.setTop (mkF m pc Ls (.int v :: St))) G := by
  subst hp
  exact X.step (fun _ hx hb' _ hown _ S t q => XS.istore S.here hx rfl (hb hb' hd) rfl hl q) k
theorem Here.istoreN (X : Here p l e R s m args below meth c y bytes maxL ret Z h0 ws T cells slots h) {pc pc' : Nat} {Ls : Array Slot} {St : List Value} {i : Fin 4} {v : Int32} {l' : Array Slot} (hd : decode bytes pc = .ok (.istore_n i, 1)) (hl : storeLocals Ls i.val (.int v) = some l') (hp : pc + 1 = pc') (k : Runs p e below (T.setTop (mkF m pc' l' (St))) G) : Runs p e below (T.setTop (mkF m pc Ls (.int v :: St))) G := by
  subst hp
  exact X.step (fun _ hx hb' _ hown _ S t q => XS.istoreN S.here hx rfl (hb hb' hd) rfl hl q) k
theorem Here.lstore (X : Here p l e R s m args below meth c y bytes maxL ret Z h0 ws T cells slots h) {pc pc' : Nat} {Ls : Array Slot} {St : List Value} {i : Nat} {v : Int64} {l' : Array Slot} (hd : decode bytes pc = .ok (.lstore i, 2)) (hl : storeLocals Ls i (.long v) = some l') (hp : pc + 2 = pc') (k : Runs p e below (T.setTop (mkF m pc' l' (St))) G) : Runs p e below (T.setTop (mkF m pc Ls (.long v :: St))) G := by
  subst hp
  exact X.step (fun _ hx hb' _ hown _ S t q => XS.lstore S.here hx rfl (hb hb' hd) rfl hl q) k
theorem Here.lstoreN (X : Here p l e R s m args below meth c y bytes maxL ret Z h0 ws T cells slots h) {pc pc' : Nat} {Ls : Array Slot} {St : List Value} {i : Fin 4} {v : Int64} {l' : Array Slot} (hd : decode bytes pc = .ok (.lstore_n i, 1)) (hl : storeLocals Ls i.val (.long v) = some l') (hp : pc + 1 = pc') (k : Runs p e below (T.setTop (mkF m pc' l' (St))) G) : Runs p e below (T.setTop (mkF m pc Ls (.long v :: St))) G := by
  subst hp
  exact X.step (fun _ hx hb' _ hown _ S t q => XS.lstoreN S.here hx rfl (hb hb' hd) rfl hl q) k
theorem Here.astore (X : Here p l e R s m args below meth c y bytes maxL ret Z h0 ws T cells slots h) {pc pc' : Nat} {Ls : Array Slot} {St : List Value} {i : Nat} {v : Value} {l' : Array Slot} (hd : decode bytes pc = .ok (.astore i, 2)) (hv : v.isRef = true) (hl : storeLocals Ls i v = some l') (hp : pc + 2 = pc') (k : Runs p e below (T.setTop (mkF m pc' l' (St))) G) : Runs p e below (T.setTop (mkF m pc Ls (v :: St))) G := by
  subst hp
  exact X.step (fun _ hx hb' _ hown _ S t q => XS.astore S.here hx rfl (hb hb' hd) rfl hv hl q) k
theorem Here.astoreN (X : Here p l e R s m args below meth c y bytes maxL ret Z h0 ws T cells slots h) {pc pc' : Nat} {Ls : Array Slot} {St : List Value} {i : Fin 4} {v : Value} {l' : Array Slot} (hd : decode bytes pc = .ok (.astore_n i, 1)) (hv : v.isRef = true) (hl : storeLocals Ls i.val v = some l') (hp : pc + 1 = pc') (k : Runs p e below (T.setTop (mkF m pc' l' (St))) G) : Runs p e below (T.setTop (mkF m pc Ls (v :: St))) G := by
  subst hp
  exact X.step (fun _ hx hb' _ hown _ S t q => XS.astoreN S.here hx rfl (hb hb' hd) rfl hv hl q) k
theorem Here.iconst (X : Here p l e R s m args below meth c y bytes maxL ret Z h0 ws T cells slots h) {pc pc' : Nat} {Ls : Array Slot} {St : List Value} {i : Int} {z : Int32} (hd : decode bytes pc = .ok (.iconst i, 1)) (hz : Int32.ofInt i = z) (hp : pc + 1 = pc') (k : Runs p e below (T.setTop (mkF m pc' Ls (.int z :: St))) G) : Runs p e below (T.setTop (mkF m pc Ls (St))) G := by
  subst hp
  exact X.step (fun _ hx hb' _ hown _ S t q => XS.iconst S.here hx rfl (hb hb' hd) (hz ▸ q)) k
theorem Here.bipush (X : Here p l e R s m args below meth c y bytes maxL ret Z h0 ws T cells slots h) {pc pc' : Nat} {Ls : Array Slot} {St : List Value} {i : Int} {z : Int32} (hd : decode bytes pc = .ok (.bipush i, 2)) (hz : (Int8.ofInt i).toInt32 = z) (hp : pc + 2 = pc') (k : Runs p e below (T.setTop (mkF m pc' Ls (.int z :: St))) G) : Runs p e below (T.setTop (mkF m pc Ls (St))) G := by
  subst hp
  exact X.step (fun _ hx hb' _ hown _ S t q => XS.bipush S.here hx rfl (hb hb' hd) (hz ▸ q)) k
theorem Here.sipush (X : Here p l e R s m args below meth c y bytes maxL ret Z h0 ws T cells slots h) {pc pc' : Nat} {Ls : Array Slot} {St : List Value} {i : Int} {z : Int32} (hd : decode bytes pc = .ok (.sipush i, 3)) (hz : (Int16.ofInt i).toInt32 = z) (hp : pc + 3 = pc') (k : Runs p e below (T.setTop (mkF m pc' Ls (.int z :: St))) G) : Runs p e below (T.setTop (mkF m pc Ls (St))) G := by
  subst hp
  exact X.step (fun _ hx hb' _ hown _ S t q => XS.sipush S.here hx rfl (hb hb' hd) (hz ▸ q)) k
theorem Here.lconst0 (X : Here p l e R s m args below meth c y bytes maxL ret Z h0 ws T cells slots h) {pc pc' : Nat} {Ls : Array Slot} {St : List Value}  (hd : decode bytes pc = .ok (.lconst 0, 1))  (hp : pc + 1 = pc') (k : Runs p e below (T.setTop (mkF m pc' Ls (.long 0 :: St))) G) : Runs p e below (T.setTop (mkF m pc Ls (St))) G := by
  subst hp
  exact X.step (fun _ hx hb' _ hown _ S t q => XS.lconst S.here hx rfl (hb hb' hd) q) k
theorem Here.lconst1 (X : Here p l e R s m args below meth c y bytes maxL ret Z h0 ws T cells slots h) {pc pc' : Nat} {Ls : Array Slot} {St : List Value}  (hd : decode bytes pc = .ok (.lconst 1, 1))  (hp : pc + 1 = pc') (k : Runs p e below (T.setTop (mkF m pc' Ls (.long 1 :: St))) G) : Runs p e below (T.setTop (mkF m pc Ls (St))) G := by
  subst hp
  exact X.step (fun _ hx hb' _ hown _ S t q => XS.lconst S.here hx rfl (hb hb' hd) q) k
theorem Here.aconstNull (X : Here p l e R s m args below meth c y bytes maxL ret Z h0 ws T cells slots h) {pc pc' : Nat} {Ls : Array Slot} {St : List Value}  (hd : decode bytes pc = .ok (.aconst_null, 1))  (hp : pc + 1 = pc') (k : Runs p e below (T.setTop (mkF m pc' Ls (.null :: St))) G) : Runs p e below (T.setTop (mkF m pc Ls (St))) G := by
  subst hp
  exact X.step (fun _ hx hb' _ hown _ S t q => XS.aconstNull S.here hx rfl (hb hb' hd) q) k
theorem Here.iadd (X : Here p l e R s m args below meth c y bytes maxL ret Z h0 ws T cells slots h) {pc pc' : Nat} {Ls : Array Slot} {St : List Value} {a b : Int32} (hd : decode bytes pc = .ok (.iadd, 1))  (hp : pc + 1 = pc') (k : Runs p e below (T.setTop (mkF m pc' Ls (.int (a + b) :: St))) G) : Runs p e below (T.setTop (mkF m pc Ls (.int b :: .int a :: St))) G := by
  subst hp
  exact X.step (fun _ hx hb' _ hown _ S t q => XS.iadd S.here hx rfl (hb hb' hd) rfl q) k
theorem Here.isub (X : Here p l e R s m args below meth c y bytes maxL ret Z h0 ws T cells slots h) {pc pc' : Nat} {Ls : Array Slot} {St : List Value} {a b : Int32} (hd : decode bytes pc = .ok (.isub, 1))  (hp : pc + 1 = pc') (k : Runs p e below (T.setTop (mkF m pc' Ls (.int (a - b) :: St))) G) : Runs p e below (T.setTop (mkF m pc Ls (.int b :: .int a :: St))) G := by
  subst hp
  exact X.step (fun _ hx hb' _ hown _ S t q => XS.isub S.here hx rfl (hb hb' hd) rfl q) k
theorem Here.imul (X : Here p l e R s m args below meth c y bytes maxL ret Z h0 ws T cells slots h) {pc pc' : Nat} {Ls : Array Slot} {St : List Value} {a b : Int32} (hd : decode bytes pc = .ok (.imul, 1))  (hp : pc + 1 = pc') (k : Runs p e below (T.setTop (mkF m pc' Ls (.int (a * b) :: St))) G) : Runs p e below (T.setTop (mkF m pc Ls (.int b :: .int a :: St))) G := by
  subst hp
  exact X.step (fun _ hx hb' _ hown _ S t q => XS.imul S.here hx rfl (hb hb' hd) rfl q) k
theorem Here.iand (X : Here p l e R s m args below meth c y bytes maxL ret Z h0 ws T cells slots h) {pc pc' : Nat} {Ls : Array Slot} {St : List Value} {a b : Int32} (hd : decode bytes pc = .ok (.iand, 1))  (hp : pc + 1 = pc') (k : Runs p e below (T.setTop (mkF m pc' Ls (.int (a &&& b) :: St))) G) : Runs p e below (T.setTop (mkF m pc Ls (.int b :: .int a :: St))) G := by
  subst hp
  exact X.step (fun _ hx hb' _ hown _ S t q => XS.iand S.here hx rfl (hb hb' hd) rfl q) k
theorem Here.ior (X : Here p l e R s m args below meth c y bytes maxL ret Z h0 ws T cells slots h) {pc pc' : Nat} {Ls : Array Slot} {St : List Value} {a b : Int32} (hd : decode bytes pc = .ok (.ior, 1))  (hp : pc + 1 = pc') (k : Runs p e below (T.setTop (mkF m pc' Ls (.int (a ||| b) :: St))) G) : Runs p e below (T.setTop (mkF m pc Ls (.int b :: .int a :: St))) G := by
  subst hp
  exact X.step (fun _ hx hb' _ hown _ S t q => XS.ior S.here hx rfl (hb hb' hd) rfl q) k
theorem Here.ixor (X : Here p l e R s m args below meth c y bytes maxL ret Z h0 ws T cells slots h) {pc pc' : Nat} {Ls : Array Slot} {St : List Value} {a b : Int32} (hd : decode bytes pc = .ok (.ixor, 1))  (hp : pc + 1 = pc') (k : Runs p e below (T.setTop (mkF m pc' Ls (.int (a ^^^ b) :: St))) G) : Runs p e below (T.setTop (mkF m pc Ls (.int b :: .int a :: St))) G := by
  subst hp
  exact X.step (fun _ hx hb' _ hown _ S t q => XS.ixor S.here hx rfl (hb hb' hd) rfl q) k
theorem Here.ladd (X : Here p l e R s m args below meth c y bytes maxL ret Z h0 ws T cells slots h) {pc pc' : Nat} {Ls : Array Slot} {St : List Value} {a b : Int64} (hd : decode bytes pc = .ok (.ladd, 1))  (hp : pc + 1 = pc') (k : Runs p e below (T.setTop (mkF m pc' Ls (.long (a + b) :: St))) G) : Runs p e below (T.setTop (mkF m pc Ls (.long b :: .long a :: St))) G := by
  subst hp
  exact X.step (fun _ hx hb' _ hown _ S t q => XS.ladd S.here hx rfl (hb hb' hd) rfl q) k
theorem Here.lsub (X : Here p l e R s m args below meth c y bytes maxL ret Z h0 ws T cells slots h) {pc pc' : Nat} {Ls : Array Slot} {St : List Value} {a b : Int64} (hd : decode bytes pc = .ok (.lsub, 1))  (hp : pc + 1 = pc') (k : Runs p e below (T.setTop (mkF m pc' Ls (.long (a - b) :: St))) G) : Runs p e below (T.setTop (mkF m pc Ls (.long b :: .long a :: St))) G := by
  subst hp
  exact X.step (fun _ hx hb' _ hown _ S t q => XS.lsub S.here hx rfl (hb hb' hd) rfl q) k
theorem Here.lmul (X : Here p l e R s m args below meth c y bytes maxL ret Z h0 ws T cells slots h) {pc pc' : Nat} {Ls : Array Slot} {St : List Value} {a b : Int64} (hd : decode bytes pc = .ok (.lmul, 1))  (hp : pc + 1 = pc') (k : Runs p e below (T.setTop (mkF m pc' Ls (.long (a * b) :: St))) G) : Runs p e below (T.setTop (mkF m pc Ls (.long b :: .long a :: St))) G := by
  subst hp
  exact X.step (fun _ hx hb' _ hown _ S t q => XS.lmul S.here hx rfl (hb hb' hd) rfl q) k
theorem Here.land (X : Here p l e R s m args below meth c y bytes maxL ret Z h0 ws T cells slots h) {pc pc' : Nat} {Ls : Array Slot} {St : List Value} {a b : Int64} (hd : decode bytes pc = .ok (.land, 1))  (hp : pc + 1 = pc') (k : Runs p e below (T.setTop (mkF m pc' Ls (.long (a &&& b) :: St))) G) : Runs p e below (T.setTop (mkF m pc Ls (.long b :: .long a :: St))) G := by
  subst hp
  exact X.step (fun _ hx hb' _ hown _ S t q => XS.land S.here hx rfl (hb hb' hd) rfl q) k
theorem Here.lor (X : Here p l e R s m args below meth c y bytes maxL ret Z h0 ws T cells slots h) {pc pc' : Nat} {Ls : Array Slot} {St : List Value} {a b : Int64} (hd : decode bytes pc = .ok (.lor, 1))  (hp : pc + 1 = pc') (k : Runs p e below (T.setTop (mkF m pc' Ls (.long (a ||| b) :: St))) G) : Runs p e below (T.setTop (mkF m pc Ls (.long b :: .long a :: St))) G := by
  subst hp
  exact X.step (fun _ hx hb' _ hown _ S t q => XS.lor S.here hx rfl (hb hb' hd) rfl q) k
theorem Here.lxor (X : Here p l e R s m args below meth c y bytes maxL ret Z h0 ws T cells slots h) {pc pc' : Nat} {Ls : Array Slot} {St : List Value} {a b : Int64} (hd : decode bytes pc = .ok (.lxor, 1))  (hp : pc + 1 = pc') (k : Runs p e below (T.setTop (mkF m pc' Ls (.long (a ^^^ b) :: St))) G) : Runs p e below (T.setTop (mkF m pc Ls (.long b :: .long a :: St))) G := by
  subst hp
  exact X.step (fun _ hx hb' _ hown _ S t q => XS.lxor S.here hx rfl (hb hb' hd) rfl q) k
theorem Here.ishl (X : Here p l e R s m args below meth c y bytes maxL ret Z h0 ws T cells slots h) {pc pc' : Nat} {Ls : Array Slot} {St : List Value} {a b : Int32} (hd : decode bytes pc = .ok (.ishl, 1))  (hp : pc + 1 = pc') (k : Runs p e below (T.setTop (mkF m pc' Ls (.int (a <<< (b &&& 31)) :: St))) G) : Runs p e below (T.setTop (mkF m pc Ls (.int b :: .int a :: St))) G := by
  subst hp
  exact X.step (fun _ hx hb' _ hown _ S t q => XS.ishl S.here hx rfl (hb hb' hd) rfl q) k
theorem Here.ishr (X : Here p l e R s m args below meth c y bytes maxL ret Z h0 ws T cells slots h) {pc pc' : Nat} {Ls : Array Slot} {St : List Value} {a b : Int32} (hd : decode bytes pc = .ok (.ishr, 1))  (hp : pc + 1 = pc') (k : Runs p e below (T.setTop (mkF m pc' Ls (.int (a >>> (b &&& 31)) :: St))) G) : Runs p e below (T.setTop (mkF m pc Ls (.int b :: .int a :: St))) G := by
  subst hp
  exact X.step (fun _ hx hb' _ hown _ S t q => XS.ishr S.here hx rfl (hb hb' hd) rfl q) k
theorem Here.iushr (X : Here p l e R s m args below meth c y bytes maxL ret Z h0 ws T cells slots h) {pc pc' : Nat} {Ls : Array Slot} {St : List Value} {a b : Int32} (hd : decode bytes pc = .ok (.iushr, 1))  (hp : pc + 1 = pc') (k : Runs p e below (T.setTop (mkF m pc' Ls (.int ((a.toUInt32 >>> (b &&& 31).toUInt32).toInt32) :: St))) G) : Runs p e below (T.setTop (mkF m pc Ls (.int b :: .int a :: St))) G := by
  subst hp
  exact X.step (fun _ hx hb' _ hown _ S t q => XS.iushr S.here hx rfl (hb hb' hd) rfl q) k
theorem Here.lshl (X : Here p l e R s m args below meth c y bytes maxL ret Z h0 ws T cells slots h) {pc pc' : Nat} {Ls : Array Slot} {St : List Value} {a : Int64} {b : Int32} (hd : decode bytes pc = .ok (.lshl, 1))  (hp : pc + 1 = pc') (k : Runs p e below (T.setTop (mkF m pc' Ls (.long (a <<< (b &&& 0x3f).toInt64) :: St))) G) : Runs p e below (T.setTop (mkF m pc Ls (.int b :: .long a :: St))) G := by
  subst hp
  exact X.step (fun _ hx hb' _ hown _ S t q => XS.lshl S.here hx rfl (hb hb' hd) rfl q) k
theorem Here.lshr (X : Here p l e R s m args below meth c y bytes maxL ret Z h0 ws T cells slots h) {pc pc' : Nat} {Ls : Array Slot} {St : List Value} {a : Int64} {b : Int32} (hd : decode bytes pc = .ok (.lshr, 1))  (hp : pc + 1 = pc') (k : Runs p e below (T.setTop (mkF m pc' Ls (.long (a >>> (b &&& 0x3f).toInt64) :: St))) G) : Runs p e below (T.setTop (mkF m pc Ls (.int b :: .long a :: St))) G := by
  subst hp
  exact X.step (fun _ hx hb' _ hown _ S t q => XS.lshr S.here hx rfl (hb hb' hd) rfl q) k
theorem Here.lushr (X : Here p l e R s m args below meth c y bytes maxL ret Z h0 ws T cells slots h) {pc pc' : Nat} {Ls : Array Slot} {St : List Value} {a : Int64} {b : Int32} (hd : decode bytes pc = .ok (.lushr, 1))  (hp : pc + 1 = pc') (k : Runs p e below (T.setTop (mkF m pc' Ls (.long ((a.toUInt64 >>> (b &&& 0x3f).toInt64.toUInt64).toInt64) :: St))) G) : Runs p e below (T.setTop (mkF m pc Ls (.int b :: .long a :: St))) G := by
  subst hp
  exact X.step (fun _ hx hb' _ hown _ S t q => XS.lushr S.here hx rfl (hb hb' hd) rfl q) k
theorem Here.ineg (X : Here p l e R s m args below meth c y bytes maxL ret Z h0 ws T cells slots h) {pc pc' : Nat} {Ls : Array Slot} {St : List Value} {a : Int32} (hd : decode bytes pc = .ok (.ineg, 1))  (hp : pc + 1 = pc') (k : Runs p e below (T.setTop (mkF m pc' Ls (.int (-a) :: St))) G) : Runs p e below (T.setTop (mkF m pc Ls (.int a :: St))) G := by
  subst hp
  exact X.step (fun _ hx hb' _ hown _ S t q => XS.ineg S.here hx rfl (hb hb' hd) rfl q) k
theorem Here.lneg (X : Here p l e R s m args below meth c y bytes maxL ret Z h0 ws T cells slots h) {pc pc' : Nat} {Ls : Array Slot} {St : List Value} {a : Int64} (hd : decode bytes pc = .ok (.lneg, 1))  (hp : pc + 1 = pc') (k : Runs p e below (T.setTop (mkF m pc' Ls (.long (-a) :: St))) G) : Runs p e below (T.setTop (mkF m pc Ls (.long a :: St))) G := by
  subst hp
  exact X.step (fun _ hx hb' _ hown _ S t q => XS.lneg S.here hx rfl (hb hb' hd) rfl q) k
theorem Here.lcmp (X : Here p l e R s m args below meth c y bytes maxL ret Z h0 ws T cells slots h) {pc pc' : Nat} {Ls : Array Slot} {St : List Value} {a b : Int64} (hd : decode bytes pc = .ok (.lcmp, 1))  (hp : pc + 1 = pc') (k : Runs p e below (T.setTop (mkF m pc' Ls (.int (lcmpW a b) :: St))) G) : Runs p e below (T.setTop (mkF m pc Ls (.long b :: .long a :: St))) G := by
  subst hp
  exact X.step (fun _ hx hb' _ hown _ S t q => XS.lcmp S.here hx rfl (hb hb' hd) rfl q) k
theorem Here.i2l (X : Here p l e R s m args below meth c y bytes maxL ret Z h0 ws T cells slots h) {pc pc' : Nat} {Ls : Array Slot} {St : List Value} {a : Int32} (hd : decode bytes pc = .ok (.i2l, 1))  (hp : pc + 1 = pc') (k : Runs p e below (T.setTop (mkF m pc' Ls (.long a.toInt64 :: St))) G) : Runs p e below (T.setTop (mkF m pc Ls (.int a :: St))) G := by
  subst hp
  exact X.step (fun _ hx hb' _ hown _ S t q => XS.i2l S.here hx rfl (hb hb' hd) rfl q) k
theorem Here.l2i (X : Here p l e R s m args below meth c y bytes maxL ret Z h0 ws T cells slots h) {pc pc' : Nat} {Ls : Array Slot} {St : List Value} {a : Int64} (hd : decode bytes pc = .ok (.l2i, 1))  (hp : pc + 1 = pc') (k : Runs p e below (T.setTop (mkF m pc' Ls (.int a.toInt32 :: St))) G) : Runs p e below (T.setTop (mkF m pc Ls (.long a :: St))) G := by
  subst hp
  exact X.step (fun _ hx hb' _ hown _ S t q => XS.l2i S.here hx rfl (hb hb' hd) rfl q) k
theorem Here.i2b (X : Here p l e R s m args below meth c y bytes maxL ret Z h0 ws T cells slots h) {pc pc' : Nat} {Ls : Array Slot} {St : List Value} {a : Int32} (hd : decode bytes pc = .ok (.i2b, 1))  (hp : pc + 1 = pc') (k : Runs p e below (T.setTop (mkF m pc' Ls (.int a.toInt8.toInt32 :: St))) G) : Runs p e below (T.setTop (mkF m pc Ls (.int a :: St))) G := by
  subst hp
  exact X.step (fun _ hx hb' _ hown _ S t q => XS.i2b S.here hx rfl (hb hb' hd) rfl q) k
theorem Here.i2s (X : Here p l e R s m args below meth c y bytes maxL ret Z h0 ws T cells slots h) {pc pc' : Nat} {Ls : Array Slot} {St : List Value} {a : Int32} (hd : decode bytes pc = .ok (.i2s, 1))  (hp : pc + 1 = pc') (k : Runs p e below (T.setTop (mkF m pc' Ls (.int a.toInt16.toInt32 :: St))) G) : Runs p e below (T.setTop (mkF m pc Ls (.int a :: St))) G := by
  subst hp
  exact X.step (fun _ hx hb' _ hown _ S t q => XS.i2s S.here hx rfl (hb hb' hd) rfl q) k
theorem Here.i2c (X : Here p l e R s m args below meth c y bytes maxL ret Z h0 ws T cells slots h) {pc pc' : Nat} {Ls : Array Slot} {St : List Value} {a : Int32} (hd : decode bytes pc = .ok (.i2c, 1))  (hp : pc + 1 = pc') (k : Runs p e below (T.setTop (mkF m pc' Ls (.int a.toUInt32.toUInt16.toUInt32.toInt32 :: St))) G) : Runs p e below (T.setTop (mkF m pc Ls (.int a :: St))) G := by
  subst hp
  exact X.step (fun _ hx hb' _ hown _ S t q => XS.i2c S.here hx rfl (hb hb' hd) rfl q) k
theorem Here.irem (X : Here p l e R s m args below meth c y bytes maxL ret Z h0 ws T cells slots h) {pc pc' : Nat} {Ls : Array Slot} {St : List Value} {a b : Int32} (hd : decode bytes pc = .ok (.irem, 1)) (hy : b ≠ 0) (hp : pc + 1 = pc') (k : Runs p e below (T.setTop (mkF m pc' Ls (.int (a % b) :: St))) G) : Runs p e below (T.setTop (mkF m pc Ls (.int b :: .int a :: St))) G := by
  subst hp
  exact X.step (fun _ hx hb' _ hown _ S t q => iremM S hx rfl (hb hb' hd) rfl hy q) k
theorem Here.idiv (X : Here p l e R s m args below meth c y bytes maxL ret Z h0 ws T cells slots h) {pc pc' : Nat} {Ls : Array Slot} {St : List Value} {a b : Int32} (hd : decode bytes pc = .ok (.idiv, 1)) (hy : b ≠ 0) (hp : pc + 1 = pc') (k : Runs p e below (T.setTop (mkF m pc' Ls (.int (a / b) :: St))) G) : Runs p e below (T.setTop (mkF m pc Ls (.int b :: .int a :: St))) G := by
  subst hp
  exact X.step (fun _ hx hb' _ hown _ S t q => XS.idiv S.here hx rfl (hb hb' hd) rfl hy q) k
theorem Here.iinc (X : Here p l e R s m args below meth c y bytes maxL ret Z h0 ws T cells slots h) {pc pc' : Nat} {Ls : Array Slot} {St : List Value} {i : Nat} {cst : Int} {v z : Int32} {l' : Array Slot} (hd : decode bytes pc = .ok (.iinc i cst, 3)) (hl : Ls[i]? = some (.val (.int v))) (hz : Int32.ofInt cst = z) (hl' : storeLocals Ls i (.int (v + z)) = some l') (hp : pc + 3 = pc') (k : Runs p e below (T.setTop (mkF m pc' l' (St))) G) : Runs p e below (T.setTop (mkF m pc Ls (St))) G := by
  subst hp
  exact X.step (fun _ hx hb' _ hown _ S t q => XS.iinc S.here hx rfl (hb hb' hd) hl (hz ▸ hl') q) k
theorem Here.dup (X : Here p l e R s m args below meth c y bytes maxL ret Z h0 ws T cells slots h) {pc pc' : Nat} {Ls : Array Slot} {St : List Value} {v : Value} (hd : decode bytes pc = .ok (.dup, 1)) (hv : v.category = 1) (hp : pc + 1 = pc') (k : Runs p e below (T.setTop (mkF m pc' Ls (v :: v :: St))) G) : Runs p e below (T.setTop (mkF m pc Ls (v :: St))) G := by
  subst hp
  exact X.step (fun _ hx hb' _ hown _ S t q => XS.dup S.here hx rfl (hb hb' hd) rfl hv q) k
theorem Here.dupX1 (X : Here p l e R s m args below meth c y bytes maxL ret Z h0 ws T cells slots h) {pc pc' : Nat} {Ls : Array Slot} {St : List Value} {v w : Value} (hd : decode bytes pc = .ok (.dup_x1, 1)) (hv : v.category = 1) (hw : w.category = 1) (hp : pc + 1 = pc') (k : Runs p e below (T.setTop (mkF m pc' Ls (v :: w :: v :: St))) G) : Runs p e below (T.setTop (mkF m pc Ls (v :: w :: St))) G := by
  subst hp
  exact X.step (fun _ hx hb' _ hown _ S t q => XS.dupX1 S.here hx rfl (hb hb' hd) rfl hv hw q) k
theorem Here.dup2 (X : Here p l e R s m args below meth c y bytes maxL ret Z h0 ws T cells slots h) {pc pc' : Nat} {Ls : Array Slot} {St : List Value} {v w : Value} (hd : decode bytes pc = .ok (.dup2, 1)) (hv : v.category = 1) (hw : w.category = 1) (hp : pc + 1 = pc') (k : Runs p e below (T.setTop (mkF m pc' Ls (v :: w :: v :: w :: St))) G) : Runs p e below (T.setTop (mkF m pc Ls (v :: w :: St))) G := by
  subst hp
  exact X.step (fun _ hx hb' _ hown _ S t q => Jvm.Free.XT.dup2 S.here hx rfl (hb hb' hd) rfl hv hw q) k
theorem Here.dup2L (X : Here p l e R s m args below meth c y bytes maxL ret Z h0 ws T cells slots h) {pc pc' : Nat} {Ls : Array Slot} {St : List Value} {v : Int64} (hd : decode bytes pc = .ok (.dup2, 1))  (hp : pc + 1 = pc') (k : Runs p e below (T.setTop (mkF m pc' Ls (.long v :: .long v :: St))) G) : Runs p e below (T.setTop (mkF m pc Ls (.long v :: St))) G := by
  subst hp
  exact X.step (fun _ hx hb' _ hown _ S t q => Jvm.Free.XT.dup2L S.here hx rfl (hb hb' hd) rfl q) k
theorem Here.pop (X : Here p l e R s m args below meth c y bytes maxL ret Z h0 ws T cells slots h) {pc pc' : Nat} {Ls : Array Slot} {St : List Value} {v : Value} (hd : decode bytes pc = .ok (.pop, 1)) (hv : v.category = 1) (hp : pc + 1 = pc') (k : Runs p e below (T.setTop (mkF m pc' Ls (St))) G) : Runs p e below (T.setTop (mkF m pc Ls (v :: St))) G := by
  subst hp
  exact X.step (fun _ hx hb' _ hown _ S t q => XS.pop S.here hx rfl (hb hb' hd) rfl hv q) k
theorem Here.ldcInt (X : Here p l e R s m args below meth c y bytes maxL ret Z h0 ws T cells slots h) {pc pc' : Nat} {Ls : Array Slot} {St : List Value} {i : Nat} {v : Int32} (w : (Jvm.Cond.constant y.cls i v).before a0 Z = true) (hd : decode bytes pc = .ok (.ldc i, 2)) (hp : pc + 2 = pc') (k : Runs p e below (T.setTop (mkF m pc' Ls (.int v :: St))) G) : Runs p e below (T.setTop (mkF m pc Ls St)) G := by
  subst hp
  exact X.step (fun _ hx hb' hZ hown _ S t q => S.ldcInt hx hown (mvT hZ w) (g := mkF m pc Ls St) rfl (hb hb' hd) t q) k
theorem Here.ldcwInt (X : Here p l e R s m args below meth c y bytes maxL ret Z h0 ws T cells slots h) {pc pc' : Nat} {Ls : Array Slot} {St : List Value} {i : Nat} {v : Int32} (w : (Jvm.Cond.constant y.cls i v).before a0 Z = true) (hd : decode bytes pc = .ok (.ldc_w i, 3)) (hp : pc + 3 = pc') (k : Runs p e below (T.setTop (mkF m pc' Ls (.int v :: St))) G) : Runs p e below (T.setTop (mkF m pc Ls St)) G := by
  subst hp
  exact X.step (fun _ hx hb' hZ hown _ S t q => S.ldcwInt hx hown (mvT hZ w) (g := mkF m pc Ls St) rfl (hb hb' hd) t q) k
theorem Here.ldc2 (X : Here p l e R s m args below meth c y bytes maxL ret Z h0 ws T cells slots h) {pc pc' : Nat} {Ls : Array Slot} {St : List Value} {i : Nat} {v : Int64} (w : (Jvm.Cond.constantLong y.cls i v).before a0 Z = true) (hd : decode bytes pc = .ok (.ldc2_w i, 3)) (hp : pc + 3 = pc') (k : Runs p e below (T.setTop (mkF m pc' Ls (.long v :: St))) G) : Runs p e below (T.setTop (mkF m pc Ls St)) G := by
  subst hp
  exact X.step (fun _ hx hb' hZ hown _ S t q => S.ldc2Long hx hown (mvT hZ w) (g := mkF m pc Ls St) rfl (hb hb' hd) t q) k
theorem Here.goto (X : Here p l e R s m args below meth c y bytes maxL ret Z h0 ws T cells slots h) {pc pc' : Nat} {Ls : Array Slot} {St : List Value} {o : Int}  (hd : decode bytes pc = .ok (.goto o, 3))  (ho : 0 ≤ (pc : Int) + o) (hp : ((pc : Int) + o).toNat = pc') (k : Runs p e below (T.setTop (mkF m pc' Ls St)) G) : Runs p e below (T.setTop (mkF m pc Ls (St))) G := by
  exact X.step (fun _ hx hb' _ hown _ S t q => XS.goto S.here hx rfl rfl (hb hb' hd) ho hp q) k
theorem Here.ifYes (X : Here p l e R s m args below meth c y bytes maxL ret Z h0 ws T cells slots h) {pc pc' : Nat} {Ls : Array Slot} {St : List Value} {o : Int} {cd : ClassFile.Cond} {a : Int32} (hd : decode bytes pc = .ok (.ifCond cd o, 3)) (hc : if_icmp.holds cd a 0 = true) (ho : 0 ≤ (pc : Int) + o) (hp : ((pc : Int) + o).toNat = pc') (k : Runs p e below (T.setTop (mkF m pc' Ls St)) G) : Runs p e below (T.setTop (mkF m pc Ls (.int a :: St))) G := by
  exact X.step (fun _ hx hb' _ hown _ S t q => XS.ifYes S.here hx rfl rfl (hb hb' hd) rfl ((if0 _ _).trans hc) ho hp q) k
theorem Here.icmpYes (X : Here p l e R s m args below meth c y bytes maxL ret Z h0 ws T cells slots h) {pc pc' : Nat} {Ls : Array Slot} {St : List Value} {o : Int} {cd : ClassFile.Cond} {a b : Int32} (hd : decode bytes pc = .ok (.if_icmp cd o, 3)) (hc : if_icmp.holds cd a b = true) (ho : 0 ≤ (pc : Int) + o) (hp : ((pc : Int) + o).toNat = pc') (k : Runs p e below (T.setTop (mkF m pc' Ls St)) G) : Runs p e below (T.setTop (mkF m pc Ls (.int b :: .int a :: St))) G := by
  exact X.step (fun _ hx hb' _ hown _ S t q => XS.icmpYes S.here hx rfl rfl (hb hb' hd) rfl hc ho hp q) k
theorem Here.ifnullYes (X : Here p l e R s m args below meth c y bytes maxL ret Z h0 ws T cells slots h) {pc pc' : Nat} {Ls : Array Slot} {St : List Value} {o : Int}  (hd : decode bytes pc = .ok (.ifnull o, 3))  (ho : 0 ≤ (pc : Int) + o) (hp : ((pc : Int) + o).toNat = pc') (k : Runs p e below (T.setTop (mkF m pc' Ls St)) G) : Runs p e below (T.setTop (mkF m pc Ls (.null :: St))) G := by
  exact X.step (fun _ hx hb' _ hown _ S t q => XS.ifnullYes S.here hx rfl rfl (hb hb' hd) rfl ho hp q) k
theorem Here.ifnonnullYes (X : Here p l e R s m args below meth c y bytes maxL ret Z h0 ws T cells slots h) {pc pc' : Nat} {Ls : Array Slot} {St : List Value} {o : Int} {b : Addr} (hd : decode bytes pc = .ok (.ifnonnull o, 3))  (ho : 0 ≤ (pc : Int) + o) (hp : ((pc : Int) + o).toNat = pc') (k : Runs p e below (T.setTop (mkF m pc' Ls St)) G) : Runs p e below (T.setTop (mkF m pc Ls (.ref b :: St))) G := by
  exact X.step (fun _ hx hb' _ hown _ S t q => XS.ifnonnullYes S.here hx rfl rfl (hb hb' hd) rfl ho hp q) k
theorem Here.ifNo (X : Here p l e R s m args below meth c y bytes maxL ret Z h0 ws T cells slots h) {pc pc' : Nat} {Ls : Array Slot} {St : List Value} {o : Int} {cd : ClassFile.Cond} {a : Int32} (hd : decode bytes pc = .ok (.ifCond cd o, 3)) (hc : if_icmp.holds cd a 0 = false) (hp : pc + 3 = pc') (k : Runs p e below (T.setTop (mkF m pc' Ls (St))) G) : Runs p e below (T.setTop (mkF m pc Ls (.int a :: St))) G := by
  subst hp
  exact X.step (fun _ hx hb' _ hown _ S t q => XS.ifNo S.here hx rfl (hb hb' hd) rfl ((if0 _ _).trans hc) q) k
theorem Here.icmpNo (X : Here p l e R s m args below meth c y bytes maxL ret Z h0 ws T cells slots h) {pc pc' : Nat} {Ls : Array Slot} {St : List Value} {o : Int} {cd : ClassFile.Cond} {a b : Int32} (hd : decode bytes pc = .ok (.if_icmp cd o, 3)) (hc : if_icmp.holds cd a b = false) (hp : pc + 3 = pc') (k : Runs p e below (T.setTop (mkF m pc' Ls (St))) G) : Runs p e below (T.setTop (mkF m pc Ls (.int b :: .int a :: St))) G := by
  subst hp
  exact X.step (fun _ hx hb' _ hown _ S t q => XS.icmpNo S.here hx rfl (hb hb' hd) rfl hc q) k
theorem Here.ifnullNo (X : Here p l e R s m args below meth c y bytes maxL ret Z h0 ws T cells slots h) {pc pc' : Nat} {Ls : Array Slot} {St : List Value} {o : Int} {b : Addr} (hd : decode bytes pc = .ok (.ifnull o, 3))  (hp : pc + 3 = pc') (k : Runs p e below (T.setTop (mkF m pc' Ls (St))) G) : Runs p e below (T.setTop (mkF m pc Ls (.ref b :: St))) G := by
  subst hp
  exact X.step (fun _ hx hb' _ hown _ S t q => XS.ifnullNo S.here hx rfl (hb hb' hd) rfl q) k
theorem Here.ifnonnullNo (X : Here p l e R s m args below meth c y bytes maxL ret Z h0 ws T cells slots h) {pc pc' : Nat} {Ls : Array Slot} {St : List Value} {o : Int} (hd : decode bytes pc = .ok (.ifnonnull o, 3))  (hp : pc + 3 = pc') (k : Runs p e below (T.setTop (mkF m pc' Ls (St))) G) : Runs p e below (T.setTop (mkF m pc Ls (.null :: St))) G := by
  subst hp
  exact X.step (fun _ hx hb' _ hown _ S t q => XS.ifnonnullNo S.here hx rfl (hb hb' hd) rfl q) k
theorem Here.acmp (X : Here p l e R s m args below meth c y bytes maxL ret Z h0 ws T cells slots h) {pc pc' : Nat} {Ls : Array Slot} {St : List Value} {o : Int} {cd : ACond} {u v : Value} {same : Bool} (hd : decode bytes pc = .ok (.if_acmp cd o, 3)) (hu : u.isRef = true) (hv : v.isRef = true) (hq : decide (u = v) = same) (ho : 0 ≤ (pc : Int) + o) (hp : pc' = if acV cd same = true then ((pc : Int) + o).toNat else pc + 3) (k : Runs p e below (T.setTop (mkF m pc' Ls St)) G) : Runs p e below (T.setTop (mkF m pc Ls (v :: u :: St))) G := by
  exact X.step (fun _ hx hb' _ hown _ S t q => Jvm.RoadKit.acmp (g := mkF m pc Ls (v :: u :: St)) S hx rfl hu hv rfl (hb hb' hd) rfl hq ho hp q) k
theorem Here.getfield (X : Here p l e R s m args below meth c y bytes maxL ret Z h0 ws T cells slots h) {pc pc' : Nat} {Ls : Array Slot} {St : List Value} {R0 O n d host : String} {i : Nat} {a : Addr} {v : Value} (w : (Jvm.Cond.fieldLink y.cls i R0 n d).before a0 Z = true ∨ (Jvm.Cond.fieldLinkNest y.cls i R0 n d host).before a0 Z = true) (via : Via Z R0 O n d) (F : Fld Z h a O n d v) (hd : decode bytes pc = .ok (.getfield i, 3)) (hp : pc + 3 = pc')
    (k : ∀ T', Here p l e R s m args below meth c y bytes maxL ret Z h0 ws T' cells slots h → Runs p e below (T'.setTop (mkF m pc' Ls (v :: St))) G) : Runs p e below (T.setTop (mkF m pc Ls (.ref a :: St))) G := by
  subst hp
  exact X.stepT (fun _ hx hb' _ hZ hown eT S => getF S hx hZ hown w via eT F (g := mkF m pc Ls (.ref a :: St)) rfl rfl (hb hb' hd)) k
theorem Here.getstatic (X : Here p l e R s m args below meth c y bytes maxL ret Z h0 ws T cells slots h) {pc pc' : Nat} {Ls : Array Slot} {St : List Value} {R0 O n d host : String} {i : Nat} {v : Value} (w : (Jvm.Cond.fieldLink y.cls i R0 n d).before a0 Z = true ∨ (Jvm.Cond.fieldLinkNest y.cls i R0 n d host).before a0 Z = true) (via : Via Z R0 O n d) (F : Sta Z h O n d v) (hd : decode bytes pc = .ok (.getstatic i, 3)) (hp : pc + 3 = pc')
    (k : ∀ T', Here p l e R s m args below meth c y bytes maxL ret Z h0 ws T' cells slots h → Runs p e below (T'.setTop (mkF m pc' Ls (v :: St))) G) : Runs p e below (T.setTop (mkF m pc Ls St)) G := by
  subst hp
  exact X.stepT (fun _ hx hb' _ hZ hown eT S => getS2 S hx hZ hown w via eT F (g := mkF m pc Ls St) rfl (hb hb' hd)) k
theorem Here.putfield (X : Here p l e R s m args below meth c y bytes maxL ret Z h0 ws T cells slots h) {pc pc' : Nat} {Ls : Array Slot} {St : List Value} {R0 O n d host C : String} {i kk : Nat} {ty : FieldType} {a : Addr} {v old : Value} (w : (Jvm.Cond.fieldLink y.cls i R0 n d).before a0 Z = true ∨ (Jvm.Cond.fieldLinkNest y.cls i R0 n d host).before a0 Z = true) (via : Via Z R0 O n d) (F : Fld Z h a O n d old) (E : Exa Z h a C)
    (L : (Jvm.Cond.lays C O n d).before a0 Z = true ∨ ((Jvm.Cond.laysFinal C O n d).before a0 Z = true ∧ y.cls = O ∧ y.name = "<init>")) (wi : (Jvm.Cond.instantiable C kk).before a0 Z = true) (hty : parseFieldDescriptor d = some ty) (hn : narrow ty v = v) (hf : fits ty v = true) (hd : decode bytes pc = .ok (.putfield i, 3)) (hp : pc + 3 = pc') (hws : a ∈ ws ∨ h0.size ≤ a)
    (k : ∀ T' h', Here p l e R s m args below meth c y bytes maxL ret Z h0 ws T' cells slots h' → Wr h h' a (Jvm.RoadKit.slotOf Z O n d) v → Runs p e below (T'.setTop (mkF m pc' Ls St)) G) : Runs p e below (T.setTop (mkF m pc Ls (v :: .ref a :: St))) G := by
  subst hp
  exact X.stepW hws (fun _ hx hb' hnm hZ hown eT S => putF S hx hZ hown w via eT F E (L.imp id fun q => ⟨q.1, q.2.1, hnm.trans q.2.2⟩) wi hty hn hf (g := mkF m pc Ls (v :: .ref a :: St)) rfl rfl (hb hb' hd)) k
theorem Here.putfieldN (X : Here p l e R s m args below meth c y bytes maxL ret Z h0 ws T cells slots h) {pc pc' : Nat} {Ls : Array Slot} {St : List Value} {R0 O n d C : String} {i kk : Nat} {ty : FieldType} {a : Addr} {v v' old : Value} (w : (Jvm.Cond.fieldLink y.cls i R0 n d).before a0 Z = true) (via : Via Z R0 O n d) (F : Fld Z h a O n d old) (E : Exa Z h a C)
    (L : (Jvm.Cond.lays C O n d).before a0 Z = true ∨ ((Jvm.Cond.laysFinal C O n d).before a0 Z = true ∧ y.cls = O ∧ y.name = "<init>")) (wi : (Jvm.Cond.instantiable C kk).before a0 Z = true) (hty : parseFieldDescriptor d = some ty) (hn : narrow ty v = v') (hf : fits ty v' = true) (hd : decode bytes pc = .ok (.putfield i, 3)) (hp : pc + 3 = pc') (hws : a ∈ ws ∨ h0.size ≤ a)
    (k : ∀ T' h', Here p l e R s m args below meth c y bytes maxL ret Z h0 ws T' cells slots h' → Wr h h' a (Jvm.RoadKit.slotOf Z O n d) v' → Runs p e below (T'.setTop (mkF m pc' Ls St)) G) : Runs p e below (T.setTop (mkF m pc Ls (v :: .ref a :: St))) G := by
  subst hp
  exact X.stepW hws (fun _ hx hb' hnm hZ hown eT S => putFN S hx hZ hown w via eT F E (L.imp id fun q => ⟨q.1, q.2.1, hnm.trans q.2.2⟩) wi hty hn hf (g := mkF m pc Ls (v :: .ref a :: St)) rfl rfl (hb hb' hd)) k
theorem Here.new (X : Here p l e R s m args below meth c y bytes maxL ret Z h0 ws T cells slots h) {pc pc' : Nat} {Ls : Array Slot} {St : List Value} {C : String} {i n : Nat} (w : (Jvm.Cond.classLink y.cls i C).before a0 Z = true) (wi : (Jvm.Cond.instantiable C n).before a0 Z = true) (wz : (Jvm.Cond.initialized C).before a0 Z = true) (hd : decode bytes pc = .ok (.new i, 3)) (hp : pc + 3 = pc') (hc : cells + 1 ≤ R.cells) (hl : slots + n ≤ R.slots)
    (k : ∀ T' h' b, Here p l e R s m args below meth c y bytes maxL ret Z h0 ws T' (cells + 1) (slots + n) h' → b = h.size → Ext h h' → Exa Z h' b C → (∀ {O nm d : String} {ty : FieldType}, Laid Z a0 C O nm d → parseFieldDescriptor d = some ty → Fld Z h' b O nm d (defaultValue ty)) → Runs p e below (T'.setTop (mkF m pc' Ls (.ref b :: St))) G) : Runs p e below (T.setTop (mkF m pc Ls St)) G := by
  subst hp
  obtain ⟨⟨x1, x2, x3, x4, x5, x6, x7, x8⟩, x9, x10, locs, S, N⟩ := X
  obtain ⟨T', h', S', e', E, A, D, -, st⟩ := newO S x1 x2 x5 w wi wz x9 (g := mkF m pc Ls St) rfl (hb x3 hd) hc hl
  exact (k T' h' _ ⟨⟨x1, x2, x3, x4, x5, x6, x7, x8⟩, e', x10.ext E, _, S', N⟩ rfl E A D).of st
theorem Here.initObj (X : Here p l e R s m args below meth c y bytes maxL ret Z h0 ws T cells slots h) {pc pc' : Nat} {Ls : Array Slot} {St : List Value} {i : Nat} {a : Addr} (w1 : (Jvm.Cond.methodLink y.cls i Lib.objectInit).before a0 Z = true) (w2 : (Jvm.Cond.instanceMethod Lib.objectInit).before a0 Z = true) (w3 : (Jvm.Cond.code Lib.objectInit ⟨#[0xb1]⟩ 1 none).before a0 Z = true) (hsz : Ls.size = maxL) (hd : decode bytes pc = .ok (.invokespecial i, 3)) (hp : pc + 3 = pc') (hf : 1 ≤ R.frames) (hl : (St.map fun v => v.category).sum + 12 ≤ R.locals)
    (k : ∀ T', Here p l e R s m args below meth c y bytes maxL ret Z h0 ws T' cells slots h → Runs p e below (T'.setTop (mkF m pc' Ls St)) G) : Runs p e below (T.setTop (mkF m pc Ls (.ref a :: St))) G := by
  subst hp
  exact X.stepT (fun _ hx hb' hml hZ hown eT S => initO S hx hZ hown w1 w2 w3 eT (g := mkF m pc Ls (.ref a :: St)) rfl (hsz.trans hml.symm) rfl (hb hb' hd) hf (W := (St.map fun v => v.category).sum) (by show 2 * 0 + _ ≤ _; omega) hl) k
theorem Here.castYes (X : Here p l e R s m args below meth c y bytes maxL ret Z h0 ws T cells slots h) {pc pc' : Nat} {Ls : Array Slot} {St : List Value} {K : String} {i : Nat} {a : Addr} (w : (Jvm.Cond.classLink y.cls i K).before a0 Z = true) (F : Jvm.RoadKit.Ins Z h a K true) (hd : decode bytes pc = .ok (.checkcast i, 3)) (hp : pc + 3 = pc')
    (k : ∀ T', Here p l e R s m args below meth c y bytes maxL ret Z h0 ws T' cells slots h → Runs p e below (T'.setTop (mkF m pc' Ls (.ref a :: St))) G) : Runs p e below (T.setTop (mkF m pc Ls (.ref a :: St))) G := by
  subst hp
  exact X.stepT (fun _ hx hb' _ hZ hown eT S => castY S hx hZ hown w eT F (g := mkF m pc Ls (.ref a :: St)) rfl rfl (hb hb' hd)) k
theorem Here.instYes (X : Here p l e R s m args below meth c y bytes maxL ret Z h0 ws T cells slots h) {pc pc' : Nat} {Ls : Array Slot} {St : List Value} {K : String} {i : Nat} {a : Addr} (w : (Jvm.Cond.classLink y.cls i K).before a0 Z = true) (F : Jvm.RoadKit.Ins Z h a K true) (hd : decode bytes pc = .ok (.instanceof i, 3)) (hp : pc + 3 = pc')
    (k : ∀ T', Here p l e R s m args below meth c y bytes maxL ret Z h0 ws T' cells slots h → Runs p e below (T'.setTop (mkF m pc' Ls (.int (1 : Int32) :: St))) G) : Runs p e below (T.setTop (mkF m pc Ls (.ref a :: St))) G := by
  subst hp
  exact X.stepT (fun _ hx hb' _ hZ hown eT S => instY S hx hZ hown w eT F (g := mkF m pc Ls (.ref a :: St)) rfl rfl (hb hb' hd)) k
theorem Here.instNo (X : Here p l e R s m args below meth c y bytes maxL ret Z h0 ws T cells slots h) {pc pc' : Nat} {Ls : Array Slot} {St : List Value} {C K : String} {i : Nat} {a : Addr} (w : (Jvm.Cond.classLink y.cls i K).before a0 Z = true) (E : Exa Z h a C) (F : ∃ c t, Z.vm.findClass C = some c ∧ Z.vm.findClass K = some t ∧ Z.vm.assignable c t = false) (hd : decode bytes pc = .ok (.instanceof i, 3)) (hp : pc + 3 = pc')
    (k : ∀ T', Here p l e R s m args below meth c y bytes maxL ret Z h0 ws T' cells slots h → Runs p e below (T'.setTop (mkF m pc' Ls (.int (0 : Int32) :: St))) G) : Runs p e below (T.setTop (mkF m pc Ls (.ref a :: St))) G := by
  subst hp
  exact X.stepT (fun _ hx hb' _ hZ hown eT S => Jvm.RoadKit.instNo S hx hZ hown w eT E F (g := mkF m pc Ls (.ref a :: St)) rfl rfl (hb hb' hd)) k
theorem Here.checkcastNull (X : Here p l e R s m args below meth c y bytes maxL ret Z h0 ws T cells slots h) {pc pc' : Nat} {Ls : Array Slot} {St : List Value} {i : Nat} (hd : decode bytes pc = .ok (.checkcast i, 3)) (hp : pc + 3 = pc') (k : Runs p e below (T.setTop (mkF m pc' Ls (.null :: St))) G) : Runs p e below (T.setTop (mkF m pc Ls (.null :: St))) G := by
  subst hp
  exact X.step (fun _ hx hb' _ _ _ S t q => S.checkcastNull hx (g := mkF m pc Ls (.null :: St)) rfl rfl (hb hb' hd) t q) k
theorem Here.instanceofNull (X : Here p l e R s m args below meth c y bytes maxL ret Z h0 ws T cells slots h) {pc pc' : Nat} {Ls : Array Slot} {St : List Value} {i : Nat} (hd : decode bytes pc = .ok (.instanceof i, 3)) (hp : pc + 3 = pc') (k : Runs p e below (T.setTop (mkF m pc' Ls (.int (0 : Int32) :: St))) G) : Runs p e below (T.setTop (mkF m pc Ls (.null :: St))) G := by
  subst hp
  exact X.step (fun _ hx hb' _ _ _ S t q => S.instanceofNull hx (g := mkF m pc Ls (.null :: St)) rfl rfl (hb hb' hd) t q) k
theorem Here.aaload (X : Here p l e R s m args below meth c y bytes maxL ret Z h0 ws T cells slots h) {pc pc' : Nat} {Ls : Array Slot} {St : List Value} {a : Addr} {cl : Cell} {ty : FieldType} {j : Int32} {v : Value} (A : Arr Z h a cl ty) (hty : ty.isReference = true) (hj : ¬ (j < 0 ∨ cl.slots.size ≤ j.toNatClampNeg)) (hv : cl.slots[j.toNatClampNeg]? = some v) (hd : decode bytes pc = .ok (.aaload, 1)) (hp : pc + 1 = pc')
    (k : Runs p e below (T.setTop (mkF m pc' Ls (v :: St))) G) : Runs p e below (T.setTop (mkF m pc Ls (.int j :: .ref a :: St))) G := by
  subst hp
  exact X.step (fun _ hx hb' hZ _ eT S t q => S.aaload hx (j := j) (v := v) (by rw [eT]; exact A.1) (State.isArrayOf_alike hZ.alike A.2.1) hty A.2.2 hj hv (g := mkF m pc Ls (.int j :: .ref a :: St)) rfl rfl (hb hb' hd) t q) k
theorem sta_keep0 {C n d : String} {v : Value} {h' : Heap} (F : Sta Z h C n d v) (K : Keep h h' []) : Sta Z h' C n d v := by
  obtain ⟨cf, i, k, f, st, cell, h1, h2, h3, h4, h5, r⟩ := F
  exact ⟨cf, i, k, f, st, cell, h1, h2, h3, h4, K.2.1 _ _ h5 nin0, r⟩
theorem arr_keep0 {a : Addr} {cl : Cell} {ty : FieldType} {h' : Heap} (F : Arr Z h a cl ty) (K : Keep h h' []) : Arr Z h' a cl ty := ⟨K.2.1 _ _ F.1 nin0, F.2⟩
theorem allWs0 {P : Addr → Prop} : ∀ x ∈ ([] : List Addr), P x := fun _ q => nomatch q
/-! arrays: the list of their values -/
/-- the array at a holds just these values -/
def Lst (Z : State) (h : Heap) (a : Addr) (ty : FieldType) (vs : List Value) : Prop := ∃ cl : Cell, Arr Z h a cl ty ∧ cl.slots = vs.toArray ∧ vs.length < 2 ^ 31
section L
variable {a b : Addr} {ty : FieldType} {vs : List Value} {h' : Heap} {sl : Nat} {v : Value} {ws' : List Addr} {C' : String}
theorem Lst.lt (F : Lst Z h a ty vs) : a < h.size := by obtain ⟨c, A, -⟩ := F; exact A.lt
theorem Lst.len (F : Lst Z h a ty vs) : vs.length < 2 ^ 31 := by obtain ⟨c, A, -, q⟩ := F; exact q
theorem Lst.ext (F : Lst Z h a ty vs) (E : Ext h h') : Lst Z h' a ty vs := by obtain ⟨c, A, r⟩ := F; exact ⟨c, A.ext E, r⟩
theorem Lst.other (F : Lst Z h b ty vs) (W : Wr h h' a sl v) (q : b ≠ a) : Lst Z h' b ty vs := by obtain ⟨c, A, r⟩ := F; exact ⟨c, A.other W q, r⟩
theorem Lst.keep (F : Lst Z h a ty vs) (K : Keep h h' ws') (q : a ∉ ws') : Lst Z h' a ty vs := by obtain ⟨c, A, r⟩ := F; exact ⟨c, ⟨K.2.1 a c A.1 q, A.2⟩, r⟩
theorem Lst.set (F : Lst Z h a ty vs) (W : Wr h h' a sl v) : Lst Z h' a ty (vs.set sl v) := by
  obtain ⟨c, A, r, q⟩ := F
  exact ⟨_, A.same W, by simp [Cell.setSlot, r], by simpa using q⟩
theorem Lst.ne (F : Lst Z h a ty vs) (wi : (Jvm.Cond.instantiable C' sl).before a0 Z = true) (G : Exa Z h b C') : b ≠ a := by obtain ⟨c, A, -⟩ := F; exact ne_arr G wi A
end L
/-- the place j lies inside a list -/
def Inb (j : Int32) (n : Nat) : Prop := 0 ≤ j.toInt ∧ j.toInt < (n : Int)
theorem nat_of_ins {j : Int32} {n : Nat} (q : Inb j n) : j.toNatClampNeg = j.toInt.toNat ∧ j.toInt.toNat < n ∧ ¬ j < 0 := by
  obtain ⟨q1, q2⟩ := q
  refine ⟨rfl, by omega, fun z => ?_⟩
  have : j.toInt < (0 : Int32).toInt := Int32.lt_iff_toInt_lt.mp z
  simp at this; omega
theorem in_of_ins {cl : Cell} {vs : List Value} {j : Int32} (r : cl.slots = vs.toArray) (q : Inb j vs.length) : ¬ (j < 0 ∨ cl.slots.size ≤ j.toNatClampNeg) := by
  obtain ⟨q1, q2, q3⟩ := nat_of_ins q
  rw [q1, r]; simp only [List.size_toArray]; intro z; rcases z with z | z
  · exact q3 z
  · omega
theorem at_of_ins {cl : Cell} {vs : List Value} {j : Int32} {v : Value} (r : cl.slots = vs.toArray) (hv : vs[j.toInt.toNat]? = some v) : cl.slots[j.toNatClampNeg]? = some v := by
  rw [r]; exact (by simpa using hv : vs.toArray[j.toInt.toNat]? = some v)
theorem Here.newarray (X : Here p l e R s m args below meth c y bytes maxL ret Z h0 ws T cells slots h) {pc pc' : Nat} {Ls : Array Slot} {St : List Value} {aty : ArrayType} {ty : FieldType} {n : Int32} (hty : newarray.typeOf aty = ty) (w : (Jvm.Cond.arrayClass ty).before a0 Z = true) (hd : decode bytes pc = .ok (.newarray aty, 2)) (hp : pc + 2 = pc') {cap : Nat} (hn : Inb n (cap + 1)) (hb8 : cap * 8 ≤ 536870912) (hc : cells + 1 ≤ R.cells) (hl : slots + cap ≤ R.slots)
    (k : ∀ T' h' b, Here p l e R s m args below meth c y bytes maxL ret Z h0 ws T' (cells + 1) (slots + cap) h' → b = h.size → Ext h h' → Lst Z h' b ty (List.replicate n.toInt.toNat (defaultValue ty)) → Runs p e below (T'.setTop (mkF m pc' Ls (.ref b :: St))) G) : Runs p e below (T.setTop (mkF m pc Ls (.int n :: St))) G := by
  subst hp; subst hty
  obtain ⟨n1, n2, n3⟩ := nat_of_ins hn
  obtain ⟨⟨x1, x2, x3, x4, x5, x6, x7, x8⟩, x9, x10, locs, S, N⟩ := X
  obtain ⟨T', h', cA, S', e', E, A, st⟩ := newP S x1 x2 w x9 (g := mkF m pc Ls (.int n :: St)) rfl (hb x3 hd) rfl n3 (cap := cap) (by rw [n1]; omega) hb8 hc hl
  exact (k T' h' _ ⟨⟨x1, x2, x3, x4, x5, x6, x7, x8⟩, e', x10.ext E, _, S', N⟩ rfl E ⟨_, A, by show Array.replicate n.toNatClampNeg _ = _; rw [n1, List.toArray_replicate], by rw [List.length_replicate]; omega⟩).of st
theorem Here.arraylength (X : Here p l e R s m args below meth c y bytes maxL ret Z h0 ws T cells slots h) {pc pc' : Nat} {Ls : Array Slot} {St : List Value} {a : Addr} {ty : FieldType} {vs : List Value} {n : Int32} (F : Lst Z h a ty vs) (hn : vs.length.toInt32 = n) (hd : decode bytes pc = .ok (.arraylength, 1)) (hp : pc + 1 = pc')
    (k : Runs p e below (T.setTop (mkF m pc' Ls (.int n :: St))) G) : Runs p e below (T.setTop (mkF m pc Ls (.ref a :: St))) G := by
  subst hp
  obtain ⟨cl, A, r, -⟩ := F
  exact X.step (fun _ hx hb' hZ _ eT S t q => S.arraylength hx (by rw [eT]; exact A.1) (State.isArrayOf_alike hZ.alike A.2.1) (g := mkF m pc Ls (.ref a :: St)) rfl rfl (hb hb' hd) t (by rw [r, List.size_toArray, hn]; exact q)) k
theorem Here.iaload (X : Here p l e R s m args below meth c y bytes maxL ret Z h0 ws T cells slots h) {pc pc' : Nat} {Ls : Array Slot} {St : List Value} {a : Addr} {vs : List Value} {j : Int32} {v : Value} (F : Lst Z h a .int vs) (hj : Inb j vs.length) (hv : vs[j.toInt.toNat]? = some v) (hd : decode bytes pc = .ok (.iaload, 1)) (hp : pc + 1 = pc')
    (k : Runs p e below (T.setTop (mkF m pc' Ls (v :: St))) G) : Runs p e below (T.setTop (mkF m pc Ls (.int j :: .ref a :: St))) G := by
  subst hp
  obtain ⟨cl, A, r, -⟩ := F
  exact X.step (fun _ hx hb' hZ _ eT S t q => S.iaload hx (j := j) (v := v) (by rw [eT]; exact A.1) (State.isArrayOf_alike hZ.alike A.2.1) A.2.2 (in_of_ins r hj) (at_of_ins r hv) (g := mkF m pc Ls (.int j :: .ref a :: St)) rfl rfl (hb hb' hd) t q) k
theorem Here.laload (X : Here p l e R s m args below meth c y bytes maxL ret Z h0 ws T cells slots h) {pc pc' : Nat} {Ls : Array Slot} {St : List Value} {a : Addr} {vs : List Value} {j : Int32} {v : Value} (F : Lst Z h a .long vs) (hj : Inb j vs.length) (hv : vs[j.toInt.toNat]? = some v) (hd : decode bytes pc = .ok (.laload, 1)) (hp : pc + 1 = pc')
    (k : Runs p e below (T.setTop (mkF m pc' Ls (v :: St))) G) : Runs p e below (T.setTop (mkF m pc Ls (.int j :: .ref a :: St))) G := by
  subst hp
  obtain ⟨cl, A, r, -⟩ := F
  exact X.step (fun _ hx hb' hZ _ eT S t q => S.laload hx (j := j) (v := v) (by rw [eT]; exact A.1) (State.isArrayOf_alike hZ.alike A.2.1) A.2.2 (in_of_ins r hj) (at_of_ins r hv) (g := mkF m pc Ls (.int j :: .ref a :: St)) rfl rfl (hb hb' hd) t q) k
theorem Here.caload (X : Here p l e R s m args below meth c y bytes maxL ret Z h0 ws T cells slots h) {pc pc' : Nat} {Ls : Array Slot} {St : List Value} {a : Addr} {vs : List Value} {j : Int32} {v : Value} (F : Lst Z h a .char vs) (hj : Inb j vs.length) (hv : vs[j.toInt.toNat]? = some v) (hd : decode bytes pc = .ok (.caload, 1)) (hp : pc + 1 = pc')
    (k : Runs p e below (T.setTop (mkF m pc' Ls (v :: St))) G) : Runs p e below (T.setTop (mkF m pc Ls (.int j :: .ref a :: St))) G := by
  subst hp
  obtain ⟨cl, A, r, -⟩ := F
  exact X.step (fun _ hx hb' hZ _ eT S t q => S.caload hx (j := j) (v := v) (by rw [eT]; exact A.1) (State.isArrayOf_alike hZ.alike A.2.1) A.2.2 (in_of_ins r hj) (at_of_ins r hv) (g := mkF m pc Ls (.int j :: .ref a :: St)) rfl rfl (hb hb' hd) t q) k
theorem Here.baload (X : Here p l e R s m args below meth c y bytes maxL ret Z h0 ws T cells slots h) {pc pc' : Nat} {Ls : Array Slot} {St : List Value} {a : Addr} {vs : List Value} {j : Int32} {v : Value} (F : Lst Z h a .byte vs) (hj : Inb j vs.length) (hv : vs[j.toInt.toNat]? = some v) (hd : decode bytes pc = .ok (.baload, 1)) (hp : pc + 1 = pc')
    (k : Runs p e below (T.setTop (mkF m pc' Ls (v :: St))) G) : Runs p e below (T.setTop (mkF m pc Ls (.int j :: .ref a :: St))) G := by
  subst hp
  obtain ⟨cl, A, r, -⟩ := F
  exact X.step (fun _ hx hb' hZ _ eT S t q => S.baloadBytes hx (j := j) (v := v) (by rw [eT]; exact A.1) (State.isArrayOf_alike hZ.alike A.2.1) A.2.2 (in_of_ins r hj) (at_of_ins r hv) (g := mkF m pc Ls (.int j :: .ref a :: St)) rfl rfl (hb hb' hd) t q) k
theorem Here.iastore (X : Here p l e R s m args below meth c y bytes maxL ret Z h0 ws T cells slots h) {pc pc' : Nat} {Ls : Array Slot} {St : List Value} {a : Addr} {vs : List Value} {j : Int32} {x : Int32} (F : Lst Z h a .int vs) (hj : Inb j vs.length) (hd : decode bytes pc = .ok (.iastore, 1)) (hp : pc + 1 = pc') (hws : a ∈ ws ∨ h0.size ≤ a)
    (k : ∀ T' h', Here p l e R s m args below meth c y bytes maxL ret Z h0 ws T' cells slots h' → Wr h h' a j.toInt.toNat (.int x) → Runs p e below (T'.setTop (mkF m pc' Ls St)) G) : Runs p e below (T.setTop (mkF m pc Ls (.int x :: .int j :: .ref a :: St))) G := by
  subst hp
  obtain ⟨cl, A, r, -⟩ := F
  exact X.stepW hws (fun _ hx hb' _ hZ _ eT S => stI S hx hZ eT A (j := j) (in_of_ins r hj) (g := mkF m pc Ls (.int x :: .int j :: .ref a :: St)) rfl rfl (hb hb' hd)) k
theorem Here.lastore (X : Here p l e R s m args below meth c y bytes maxL ret Z h0 ws T cells slots h) {pc pc' : Nat} {Ls : Array Slot} {St : List Value} {a : Addr} {vs : List Value} {j : Int32} {x : Int64} (F : Lst Z h a .long vs) (hj : Inb j vs.length) (hd : decode bytes pc = .ok (.lastore, 1)) (hp : pc + 1 = pc') (hws : a ∈ ws ∨ h0.size ≤ a)
    (k : ∀ T' h', Here p l e R s m args below meth c y bytes maxL ret Z h0 ws T' cells slots h' → Wr h h' a j.toInt.toNat (.long x) → Runs p e below (T'.setTop (mkF m pc' Ls St)) G) : Runs p e below (T.setTop (mkF m pc Ls (.long x :: .int j :: .ref a :: St))) G := by
  subst hp
  obtain ⟨cl, A, r, -⟩ := F
  exact X.stepW hws (fun _ hx hb' _ hZ _ eT S => stJ S hx hZ eT A (j := j) (in_of_ins r hj) (g := mkF m pc Ls (.long x :: .int j :: .ref a :: St)) rfl rfl (hb hb' hd)) k
theorem Here.castore (X : Here p l e R s m args below meth c y bytes maxL ret Z h0 ws T cells slots h) {pc pc' : Nat} {Ls : Array Slot} {St : List Value} {a : Addr} {vs : List Value} {j : Int32} {x : Int32} (F : Lst Z h a .char vs) (hj : Inb j vs.length) (hd : decode bytes pc = .ok (.castore, 1)) (hp : pc + 1 = pc') (hws : a ∈ ws ∨ h0.size ≤ a)
    (k : ∀ T' h', Here p l e R s m args below meth c y bytes maxL ret Z h0 ws T' cells slots h' → Wr h h' a j.toInt.toNat (.int (nar .char x)) → Runs p e below (T'.setTop (mkF m pc' Ls St)) G) : Runs p e below (T.setTop (mkF m pc Ls (.int x :: .int j :: .ref a :: St))) G := by
  subst hp
  obtain ⟨cl, A, r, -⟩ := F
  exact X.stepW hws (fun _ hx hb' _ hZ _ eT S => stC S hx hZ eT A (j := j) (in_of_ins r hj) (g := mkF m pc Ls (.int x :: .int j :: .ref a :: St)) rfl rfl (hb hb' hd)) k
theorem Here.bastore (X : Here p l e R s m args below meth c y bytes maxL ret Z h0 ws T cells slots h) {pc pc' : Nat} {Ls : Array Slot} {St : List Value} {a : Addr} {vs : List Value} {j : Int32} {x : Int32} (F : Lst Z h a .byte vs) (hj : Inb j vs.length) (hd : decode bytes pc = .ok (.bastore, 1)) (hp : pc + 1 = pc') (hws : a ∈ ws ∨ h0.size ≤ a)
    (k : ∀ T' h', Here p l e R s m args below meth c y bytes maxL ret Z h0 ws T' cells slots h' → Wr h h' a j.toInt.toNat (.int x.toInt8.toInt32) → Runs p e below (T'.setTop (mkF m pc' Ls St)) G) : Runs p e below (T.setTop (mkF m pc Ls (.int x :: .int j :: .ref a :: St))) G := by
  subst hp
  obtain ⟨cl, A, r, -⟩ := F
  exact X.stepW hws (fun _ hx hb' _ hZ _ eT S => stB S hx hZ eT A (j := j) (in_of_ins r hj) (g := mkF m pc Ls (.int x :: .int j :: .ref a :: St)) rfl rfl (hb hb' hd)) k
/-! calls by a contract -/
variable {y' : MethodName} {bytes' : ByteArray} {maxL' : Nat} {ret' : Option FieldType} {rm : Room} {as : Array Value} {ws' : List Addr} {Q : Option Value → Heap → Prop}
theorem backCt (X : Here p l e R s m args below meth c y bytes maxL ret Z h0 ws T cells slots h) {len W : Nat} (hM : Ct l Z y' bytes' maxL' ret' rm as h ws' Q) (wc : (Jvm.Cond.code y' bytes' maxL' ret').before a0 Z = true) (wz : (Jvm.Cond.initialized y'.cls).before a0 Z = true) (hf : rm.frames + 1 ≤ R.frames) (hl : W + (maxL' + 11) + rm.locals ≤ R.locals) :
    Back l R p e below s args y' len W (fun A a => a = as ∧ A.U.heap = h ∧ A.cells + rm.cells ≤ R.cells ∧ A.slots + rm.slots ≤ R.slots)
      (fun A _ v B => ∃ L, (Q v B.U.heap ∧ Keep h B.U.heap ws' ∧ Wrote h ws' L) ∧ B.locs = A.locs ++ L ∧ B.cells = A.cells + rm.cells ∧ B.slots = A.slots + rm.slots) :=
  backOf (Q := fun v h' L => Q v h' ∧ Keep h h' ws' ∧ Wrote h ws' L) (hM []) X.hZ wc wz hf hl
theorem Here.back (X : Here p l e R s m args below meth c y bytes maxL ret Z h0 ws T cells slots h) {U : State} {locs : List Loc} {h' : Heap} {L : List Loc} (N : Wrote h0 ws locs) (hU : Stand p l e R s m args below meth c U (locs ++ L) (cells + rm.cells) (slots + rm.slots)) (e' : U.heap = h') (K : Keep h h' ws') (N' : Wrote h ws' L) (hws : ∀ x ∈ ws', x ∈ ws ∨ h0.size ≤ x) :
    Here p l e R s m args below meth c y bytes maxL ret Z h0 ws U (cells + rm.cells) (slots + rm.slots) h' :=
  ⟨X.1, e', X.keep.trans K hws, _, hU, N.app N' X.size hws⟩
theorem Here.callS (X : Here p l e R s m args below meth c y bytes maxL ret Z h0 ws T cells slots h) {pc pc' : Nat} {Ls : Array Slot} {St : List Value} {i : Nat} {sig : MethodDescriptor} {argsL rest : List Value} (hM : Ct l Z y' bytes' maxL' ret' rm as h ws' Q) (w1 : (Jvm.Cond.methodLink y.cls i y').before a0 Z = true) (w2 : (Jvm.Cond.static y').before a0 Z = true) (w3 : (Jvm.Cond.initialized y'.cls).before a0 Z = true) (w4 : (Jvm.Cond.code y' bytes' maxL' ret').before a0 Z = true)
    (hy : y'.cls ≠ "java/lang/invoke/MethodHandle" ∧ y'.cls ≠ "java/lang/invoke/VarHandle") (hsig : parseMethodDescriptor y'.desc = some sig) (hlen : argsL.length = sig.parameters.length) (has : argsL.toArray = as) (hst : St = argsL.reverse ++ rest) (hsz : Ls.size = maxL) (hd : decode bytes pc = .ok (.invokestatic i, 3)) (hp : pc + 3 = pc')
    (hf : rm.frames + 1 ≤ R.frames) (hl : (rest.map fun v => v.category).sum + (maxL' + 11) + rm.locals ≤ R.locals) (hc : cells + rm.cells ≤ R.cells) (hs : slots + rm.slots ≤ R.slots) (hws : ∀ x ∈ ws', x ∈ ws ∨ h0.size ≤ x)
    (k : ∀ T' h' v, Here p l e R s m args below meth c y bytes maxL ret Z h0 ws T' (cells + rm.cells) (slots + rm.slots) h' → Keep h h' ws' → Q v h' → Runs p e below (T'.setTop (mkF m pc' Ls (v.toList ++ rest))) G) : Runs p e below (T.setTop (mkF m pc Ls St)) G := by
  subst hp hst
  have X' := X
  obtain ⟨⟨x1, x2, x3, x4, x5, x6, x7, x8⟩, x9, x10, locs, S, N⟩ := X
  obtain ⟨v, vm₁, ⟨U, lo, ce, sl⟩, -, SU, ⟨Lc, hQ, z1, z2, z3⟩, st⟩ := Jvm.LawKit.callS S x1 (y := y') x5 (mvT x2 w1) (mvT x2 w2) (mvT x2 w3) (mvT x2 w4) hy (backCt X' hM w4 w3 hf hl) (g := mkF m pc Ls (argsL.reverse ++ rest)) rfl (hsz.trans x4.symm) (argsL := argsL) (rest := rest) (lenOf hsig hlen) rfl (by show 2 * 0 + _ ≤ _; omega) (hb x3 hd) (fun _ _ => ⟨has, x9, hc, hs⟩)
  dsimp only [Pt.U, Pt.locs, Pt.cells, Pt.slots] at SU z1 z2 z3 st hQ
  subst z1 z2 z3
  exact (k U _ v (X'.back N SU rfl hQ.2.1 hQ.2.2 hws) hQ.2.1 hQ.1).of st
theorem Here.special (X : Here p l e R s m args below meth c y bytes maxL ret Z h0 ws T cells slots h) {pc pc' : Nat} {Ls : Array Slot} {St : List Value} {i : Nat} {sig : MethodDescriptor} {a : Addr} {argsL rest : List Value} (hM : Ct l Z y' bytes' maxL' none rm as h ws' Q) (hin : y'.name = "<init>") (w1 : (Jvm.Cond.methodLink y.cls i y').before a0 Z = true) (w2 : (Jvm.Cond.instanceMethod y').before a0 Z = true) (w3 : (Jvm.Cond.initialized y'.cls).before a0 Z = true) (w4 : (Jvm.Cond.code y' bytes' maxL' none).before a0 Z = true)
    (hy : y'.cls ≠ "java/lang/invoke/MethodHandle" ∧ y'.cls ≠ "java/lang/invoke/VarHandle") (hsig : parseMethodDescriptor y'.desc = some sig) (hlen : argsL.length = sig.parameters.length) (has : (.ref a :: argsL).toArray = as) (hst : St = argsL.reverse ++ .ref a :: rest) (hsz : Ls.size = maxL) (hd : decode bytes pc = .ok (.invokespecial i, 3)) (hp : pc + 3 = pc')
    (hf : rm.frames + 1 ≤ R.frames) (hl : (rest.map fun v => v.category).sum + (maxL' + 11) + rm.locals ≤ R.locals) (hc : cells + rm.cells ≤ R.cells) (hs : slots + rm.slots ≤ R.slots) (hws : ∀ x ∈ ws', x ∈ ws ∨ h0.size ≤ x)
    (k : ∀ T' h' v, Here p l e R s m args below meth c y bytes maxL ret Z h0 ws T' (cells + rm.cells) (slots + rm.slots) h' → Keep h h' ws' → Q v h' → Runs p e below (T'.setTop (mkF m pc' Ls (v.toList ++ rest))) G) : Runs p e below (T.setTop (mkF m pc Ls St)) G := by
  subst hp hst
  have X' := X
  obtain ⟨⟨x1, x2, x3, x4, x5, x6, x7, x8⟩, x9, x10, locs, S, N⟩ := X
  obtain ⟨v, vm₁, ⟨U, lo, ce, sl⟩, -, SU, ⟨Lc, hQ, z1, z2, z3⟩, st⟩ := S.specialBack x1 (y := y') hin x5 (mvT x2 w1) (mvT x2 w2) (mvT x2 w4) hy (backCt X' hM w4 w3 hf hl) (g := mkF m pc Ls (argsL.reverse ++ .ref a :: rest)) rfl (hsz.trans x4.symm) (Steps.refl _) (a := a) (argsL := argsL) (rest := rest) (lenOf hsig hlen) rfl (by show 2 * 0 + _ ≤ _; omega) (hb x3 hd) (fun _ _ => ⟨has, x9, hc, hs⟩)
  dsimp only [Pt.U, Pt.locs, Pt.cells, Pt.slots] at SU z1 z2 z3 st hQ
  subst z1 z2 z3
  exact (k U _ v (X'.back N SU rfl hQ.2.1 hQ.2.2 hws) hQ.2.1 hQ.1).via st
theorem Here.virtual (X : Here p l e R s m args below meth c y bytes maxL ret Z h0 ws T cells slots h) {pc pc' : Nat} {Ls : Array Slot} {St : List Value} {i : Nat} {yr : MethodName} {C : String} {sig : MethodDescriptor} {a : Addr} {argsL rest : List Value} (hM : Ct l Z y' bytes' maxL' ret' rm as h ws' Q) (w1 : (Jvm.Cond.methodLink y.cls i yr).before a0 Z = true) (w5 : (Jvm.Cond.declares yr).before a0 Z = true) (nf : ∀ args, (Jvm.Cond.selects C yr y').before args s = true → NotFace s yr) (w6 : (Jvm.Cond.selects C yr y').before a0 Z = true) (w2 : (Jvm.Cond.instanceMethod y').before a0 Z = true) (w3 : (Jvm.Cond.initialized y'.cls).before a0 Z = true) (w4 : (Jvm.Cond.code y' bytes' maxL' ret').before a0 Z = true)
    (hy : yr.cls ≠ "java/lang/invoke/MethodHandle" ∧ yr.cls ≠ "java/lang/invoke/VarHandle") (E : Exa Z h a C) (hsig : parseMethodDescriptor yr.desc = some sig) (hlen : argsL.length = sig.parameters.length) (has : (.ref a :: argsL).toArray = as) (hst : St = argsL.reverse ++ .ref a :: rest) (hsz : Ls.size = maxL) (hd : decode bytes pc = .ok (.invokevirtual i, 3)) (hp : pc + 3 = pc')
    (hf : rm.frames + 1 ≤ R.frames) (hl : (rest.map fun v => v.category).sum + (maxL' + 11) + rm.locals ≤ R.locals) (hc : cells + rm.cells ≤ R.cells) (hs : slots + rm.slots ≤ R.slots) (hws : ∀ x ∈ ws', x ∈ ws ∨ h0.size ≤ x)
    (k : ∀ T' h' v, Here p l e R s m args below meth c y bytes maxL ret Z h0 ws T' (cells + rm.cells) (slots + rm.slots) h' → Keep h h' ws' → Q v h' → Runs p e below (T'.setTop (mkF m pc' Ls (v.toList ++ rest))) G) : Runs p e below (T.setTop (mkF m pc Ls St)) G := by
  subst hp hst
  have X' := X
  obtain ⟨⟨x1, x2, x3, x4, x5, x6, x7, x8⟩, x9, x10, locs, S, N⟩ := X
  obtain ⟨cq, kq, q1, q2, q3⟩ := isOf (T := T) x2 x9 E
  obtain ⟨v, vm₁, ⟨U, lo, ce, sl⟩, -, SU, ⟨Lc, hQ, z1, z2, z3⟩, st⟩ := S.virtualBack x1 (y := yr) (z := y') x5 (mvT x2 w1) (mvT x2 w5) (nf args (mvT x2 w6)) (mvT x2 w6) (mvT x2 w2) hy (backCt X' hM w4 w3 hf hl) q1 q3 (g := mkF m pc Ls (argsL.reverse ++ .ref a :: rest)) rfl (hsz.trans x4.symm) (Steps.refl _) (argsL := argsL) (rest := rest) (lenOf hsig hlen) rfl (by show 2 * 0 + _ ≤ _; omega) (hb x3 hd) (fun _ _ => ⟨has, x9, hc, hs⟩)
  dsimp only [Pt.U, Pt.locs, Pt.cells, Pt.slots] at SU z1 z2 z3 st hQ
  subst z1 z2 z3
  exact (k U _ v (X'.back N SU rfl hQ.2.1 hQ.2.2 hws) hQ.2.1 hQ.1).via st
theorem Here.priv (X : Here p l e R s m args below meth c y bytes maxL ret Z h0 ws T cells slots h) {pc pc' : Nat} {Ls : Array Slot} {St : List Value} {i : Nat} {C : String} {sig : MethodDescriptor} {a : Addr} {argsL rest : List Value} (hM : Ct l Z y' bytes' maxL' ret' rm as h ws' Q) (w1 : (Jvm.Cond.methodLink y.cls i y').before a0 Z = true) (w6 : (Jvm.Cond.selects y'.cls y' y').before a0 Z = true) (w7 : (Jvm.Cond.privateMethod y').before a0 Z = true) (w2 : (Jvm.Cond.instanceMethod y').before a0 Z = true) (w3 : (Jvm.Cond.initialized y'.cls).before a0 Z = true) (w4 : (Jvm.Cond.code y' bytes' maxL' ret').before a0 Z = true)
    (hy : y'.cls ≠ "java/lang/invoke/MethodHandle" ∧ y'.cls ≠ "java/lang/invoke/VarHandle") (E : Exa Z h a C) (hsig : parseMethodDescriptor y'.desc = some sig) (hlen : argsL.length = sig.parameters.length) (has : (.ref a :: argsL).toArray = as) (hst : St = argsL.reverse ++ .ref a :: rest) (hsz : Ls.size = maxL) (hd : decode bytes pc = .ok (.invokevirtual i, 3)) (hp : pc + 3 = pc')
    (hf : rm.frames + 1 ≤ R.frames) (hl : (rest.map fun v => v.category).sum + (maxL' + 11) + rm.locals ≤ R.locals) (hc : cells + rm.cells ≤ R.cells) (hs : slots + rm.slots ≤ R.slots) (hws : ∀ x ∈ ws', x ∈ ws ∨ h0.size ≤ x)
    (k : ∀ T' h' v, Here p l e R s m args below meth c y bytes maxL ret Z h0 ws T' (cells + rm.cells) (slots + rm.slots) h' → Keep h h' ws' → Q v h' → Runs p e below (T'.setTop (mkF m pc' Ls (v.toList ++ rest))) G) : Runs p e below (T.setTop (mkF m pc Ls St)) G := by
  subst hp hst
  have X' := X
  obtain ⟨⟨x1, x2, x3, x4, x5, x6, x7, x8⟩, x9, x10, locs, S, N⟩ := X
  obtain ⟨cq, q1, q2⟩ := E.cell
  obtain ⟨v, vm₁, ⟨U, lo, ce, sl⟩, -, SU, ⟨Lc, hQ, z1, z2, z3⟩, st⟩ := S.privateBack x1 (y := y') x5 (mvT x2 w1) (mvT x2 w2) (mvT x2 w6) (Cond.privateMethod_at (mvP x2 w7 (args := #[]))) (mvT x2 w4) hy (backCt X' hM w4 w3 hf hl) (g := mkF m pc Ls (argsL.reverse ++ .ref a :: rest)) rfl (hsz.trans x4.symm) (Steps.refl _) (a := a) (by rw [x9]; exact q1) q2 (argsL := argsL) (rest := rest) (lenOf hsig hlen) rfl (by show 2 * 0 + _ ≤ _; omega) (hb x3 hd) (fun _ _ => ⟨has, x9, hc, hs⟩)
  dsimp only [Pt.U, Pt.locs, Pt.cells, Pt.slots] at SU z1 z2 z3 st hQ
  subst z1 z2 z3
  exact (k U _ v (X'.back N SU rfl hQ.2.1 hQ.2.2 hws) hQ.2.1 hQ.1).via st

/-! the returns -/
theorem Here.leave (X : Here p l e R s m args below meth c y bytes maxL ret Z h0 ws T cells slots h) {Q : Option Value → Heap → Prop} {rm : Room} {g : JFrame} {v : Option Value} (hv : ret = none → v = none) (hc : cells ≤ rm.cells) (hs : slots ≤ rm.slots) (hq : Q v h)
    (st : ∀ locs fs, p.tables.exec = Jvm.exec → c.code = bytes → meth.sig.returnType = ret → Stand p l e R s m args below meth c T locs cells slots → (∀ (f : JFrame) (acts : List Action), f.method = m → f.locked = none → f.entered = [] → (doReturn e (T.setTop f) acts v).1 = T.setFrames fs) → Steps p.tables e below (T.setTop g) (T.setFrames fs)) :
    Runs p e below (T.setTop g) (Out s h0 ws rm Q) := by
  obtain ⟨⟨x1, x2, x3, x4, x5, x6, x7, x8⟩, x9, x10, locs, S, N⟩ := X
  obtain ⟨fs, hr, hrun, hended, hW, hsame⟩ := S.leave (v := v) (fun h => hv (x7 ▸ h)) x8
  refine ⟨_, _, st locs fs x1 x3 x7 S hr, hrun, hended, v, locs, rfl, ⟨?_, ?_, N⟩, ⟨_, rfl⟩, hW, hsame.mono hc hs⟩
  · show Q v T.heap; rw [x9]; exact hq
  · show Keep h0 T.heap ws; rw [x9]; exact x10
theorem Here.ireturn (X : Here p l e R s m args below meth c y bytes maxL ret Z h0 ws T cells slots h) {Q : Option Value → Heap → Prop} {rm : Room} {pc : Nat} {Ls : Array Slot} {St : List Value} {z : Int32} (hr : ret = some .int) (hd : decode bytes pc = .ok (.ireturn, 1)) (hc : cells ≤ rm.cells) (hs : slots ≤ rm.slots) (hq : Q (some (.int z)) h) : Runs p e below (T.setTop (mkF m pc Ls (.int z :: St))) (Out s h0 ws rm Q) := by
  subst hr
  exact X.leave (fun h => nomatch h) hc hs hq fun _ _ hx hb' hret S hl => retOut S hx hret rfl (Or.inl ⟨rfl, Or.inl rfl, _, rfl⟩) (hb hb' hd) hl
theorem Here.zreturn (X : Here p l e R s m args below meth c y bytes maxL ret Z h0 ws T cells slots h) {Q : Option Value → Heap → Prop} {rm : Room} {pc : Nat} {Ls : Array Slot} {St : List Value} {z z' : Int32} {t : FieldType} (hr : ret = some t) (ht : t = .boolean ∨ t = .byte ∨ t = .char ∨ t = .short) (hd : decode bytes pc = .ok (.ireturn, 1)) (hz : nar t z = z') (hc : cells ≤ rm.cells) (hs : slots ≤ rm.slots) (hq : Q (some (.int z')) h) : Runs p e below (T.setTop (mkF m pc Ls (.int z :: St))) (Out s h0 ws rm Q) := by
  subst hr hz
  exact X.leave (fun h => nomatch h) hc hs hq fun _ _ hx hb' hret S hl => retN S hx hret ht (hb hb' hd) hl
theorem Here.lreturn (X : Here p l e R s m args below meth c y bytes maxL ret Z h0 ws T cells slots h) {Q : Option Value → Heap → Prop} {rm : Room} {pc : Nat} {Ls : Array Slot} {St : List Value} {z : Int64} (hr : ret = some .long) (hd : decode bytes pc = .ok (.lreturn, 1)) (hc : cells ≤ rm.cells) (hs : slots ≤ rm.slots) (hq : Q (some (.long z)) h) : Runs p e below (T.setTop (mkF m pc Ls (.long z :: St))) (Out s h0 ws rm Q) := by
  subst hr
  exact X.leave (fun h => nomatch h) hc hs hq fun _ _ hx hb' hret S hl => retOut S hx hret rfl (Or.inr (Or.inl ⟨rfl, rfl, _, rfl⟩)) (hb hb' hd) hl
theorem Here.areturn (X : Here p l e R s m args below meth c y bytes maxL ret Z h0 ws T cells slots h) {Q : Option Value → Heap → Prop} {rm : Room} {pc : Nat} {Ls : Array Slot} {St : List Value} {v : Value} {t : FieldType} (hr : ret = some t) (ht : t.isReference = true) (hv : v.isRef = true) (hn : narrow t v = v) (hd : decode bytes pc = .ok (.areturn, 1)) (hc : cells ≤ rm.cells) (hs : slots ≤ rm.slots) (hq : Q (some v) h) : Runs p e below (T.setTop (mkF m pc Ls (v :: St))) (Out s h0 ws rm Q) := by
  subst hr
  exact X.leave (fun h => nomatch h) hc hs hq fun _ _ hx hb' hret S hl => retOut S hx hret hn (Or.inr (Or.inr (Or.inr (Or.inr ⟨rfl, ht, hv⟩)))) (hb hb' hd) hl
theorem Here.vreturn (X : Here p l e R s m args below meth c y bytes maxL ret Z h0 ws T cells slots h) {Q : Option Value → Heap → Prop} {rm : Room} {pc : Nat} {Ls : Array Slot} (hr : ret = none) (hd : decode bytes pc = .ok (.return_, 1)) (hc : cells ≤ rm.cells) (hs : slots ≤ rm.slots) (hq : Q none h) : Runs p e below (T.setTop (mkF m pc Ls [])) (Out s h0 ws rm Q) := by
  subst hr
  exact X.leave (fun _ => rfl) hc hs hq fun _ _ hx hb' hret S hl => S.returnOut hx hret (hb hb' hd) hl
end B
end Jvm.Own
namespace Jvm.Pilot.@@N@@
open Jvm Jvm.ClassFile Sem Op Lib Jvm.Free Jvm.Stand Jvm.LawKit Jvm.RoadKit Bundle Jvm.Own Jvm.Pilot.@@N@@.Jvm.D
abbrev y1 : MethodName := ⟨"com/example/threader/threader/core/UnreadCount", "check", "(J)J"⟩
theorem pd_0 : parseMethodDescriptor "(J)J" = some ⟨[.long], some .long⟩ := by decide +kernel
theorem wd_0 {a0 : Array Value} {Z : State} (hw : ∀ d ∈ tables_1, d.before a0 Z = true) : (Jvm.Cond.constantLong "com/example/threader/threader/core/UnreadCountCheckPinLaw" (9 : Nat) (9223372036854775807 : Int64)).before a0 Z = true := hw _ (List.mem_of_getElem? (i := 0) rfl)
theorem wd_1 {a0 : Array Value} {Z : State} (hw : ∀ d ∈ tables_1, d.before a0 Z = true) : (Jvm.Cond.methodLink "com/example/threader/threader/core/UnreadCountCheckPinLaw" (11 : Nat) ({ cls := "com/example/threader/threader/core/UnreadCount", name := "check", desc := "(J)J" } : Jvm.MethodName)).before a0 Z = true := hw _ (List.mem_of_getElem? (i := 1) rfl)
theorem wd_2 {a0 : Array Value} {Z : State} (hw : ∀ d ∈ tables_1, d.before a0 Z = true) : (Jvm.Cond.static ({ cls := "com/example/threader/threader/core/UnreadCount", name := "check", desc := "(J)J" } : Jvm.MethodName)).before a0 Z = true := hw _ (List.mem_of_getElem? (i := 2) rfl)
theorem wd_3 {a0 : Array Value} {Z : State} (hw : ∀ d ∈ tables_1, d.before a0 Z = true) : (Jvm.Cond.initialized "com/example/threader/threader/core/UnreadCount").before a0 Z = true := hw _ (List.mem_of_getElem? (i := 3) rfl)
theorem wd_4 {a0 : Array Value} {Z : State} (hw : ∀ d ∈ tables_1, d.before a0 Z = true) : (Jvm.Cond.code ({ cls := "com/example/threader/threader/core/UnreadCount", name := "check", desc := "(J)J" } : Jvm.MethodName) prog_12_method_2_code (2 : Nat) (Option.some Jvm.ClassFile.FieldType.long)).before a0 Z = true := hw _ (List.mem_of_getElem? (i := 4) rfl)
theorem d1_0 : decode prog_12_method_2_code 0 = .ok (.lload_n 0, 1) := by decide +kernel
theorem d1_1 : decode prog_12_method_2_code 1 = .ok (.lconst 0, 1) := by decide +kernel
theorem d1_2 : decode prog_12_method_2_code 2 = .ok (.lcmp, 1) := by decide +kernel
theorem d1_3 : decode prog_12_method_2_code 3 = .ok (.ifCond .ge 17, 3) := by decide +kernel
theorem d1_20 : decode prog_12_method_2_code 20 = .ok (.lload_n 0, 1) := by decide +kernel
theorem d1_21 : decode prog_12_method_2_code 21 = .ok (.lreturn, 1) := by decide +kernel
set_option maxRecDepth 65536 in
set_option maxHeartbeats 40000000 in
theorem ct1 (l : Launch) (Z : State) (a0 : Array Value) (hw : ∀ d ∈ tables_1, d.before a0 Z = true) (q1 : Int64) (h0 : Heap) (hq : ¬ (q1 < (0 : Int64))) :
    Ct l Z y1 prog_12_method_2_code 2 (some .long) ({ frames := 0, cells := 0, slots := 0, locals := 0 } : Room) #[(.long q1)] h0 [] (fun v h => v = some (.long q1) ∧ h0 = h) := by
  refine Ct.of (plainFor_of_name (by first | (simp [plainName, overriddenIn]; done) | decide +kernel)) ?_
  intro p e s m below meth c T0 X0
  refine Runs.top (g' := mkF m 0 #[.val (.long q1), .second] []) (by first | (simp [entryFrame, mkF, argsToLocals, Value.category]; done) | rfl) ?_
  refine X0.lloadN (pc' := 1) d1_0 rfl rfl ?_
  refine X0.lconst0 (pc' := 2) d1_1 rfl ?_
  refine X0.lcmp (pc' := 3) d1_2 rfl ?_
  refine X0.ifYes (pc' := 20) d1_3 (flt (fun q => hq ((lw_lt _ _).mp q))).2.1 (by decide) (by decide) ?_
  refine X0.lloadN (pc' := 21) d1_20 rfl rfl ?_
  exact X0.lreturn rfl d1_21 (by decide) (by decide) ⟨rfl, rfl⟩
theorem own_nonneg (q : Int64) : ¬ (q &&& (9223372036854775807 : Int64)) < (0 : Int64) := by
  have h := c_maskL q (9223372036854775807 : Int64) 63 (by decide) (by decide)
  rw [Int64.lt_iff_toInt_lt]
  have h0 : (0 : Int64).toInt = 0 := rfl
  omega

set_option maxRecDepth 65536 in
set_option maxHeartbeats 40000000 in
theorem ct0 (l : Launch) (Z : State) (a0 : Array Value) (hw : ∀ d ∈ tables_1, d.before a0 Z = true) (q1 : Int64) (h0 : Heap)  :
    Ct l Z x code maxLocals ret room_1 #[(.long q1)] h0 [] (fun v h => v = some (.int 1)) := by
  refine Ct.of (plainFor_of_name (by first | (simp [plainName, overriddenIn]; done) | decide +kernel)) ?_
  intro p e s m below meth c T0 X0
  refine Runs.top (g' := mkF m 0 #[.val (.long q1), .second, .unset, .unset] []) (by first | (simp [entryFrame, mkF, argsToLocals, Value.category, maxLocals]; done) | rfl) ?_
  refine X0.lloadN (pc' := 1) at_0 rfl rfl ?_
  refine X0.ldc2 (pc' := 4) (wd_0 hw) at_1 rfl ?_
  refine X0.land (pc' := 5) at_4 rfl ?_
  refine X0.lstoreN (pc' := 6) (l' := #[.val (.long q1), .second, .val (.long (q1 &&& (9223372036854775807 : Int64))), .second]) at_5 rfl rfl ?_
  refine X0.lloadN (pc' := 7) at_6 rfl rfl ?_
  refine X0.callS (pc' := 10) (argsL := [(.long (q1 &&& (9223372036854775807 : Int64)))]) (rest := []) (ct1 l Z a0 hw (q1 &&& (9223372036854775807 : Int64)) h0 (own_nonneg q1)) (wd_1 hw) (wd_2 hw) (wd_3 hw) (wd_4 hw) (by decide) pd_0 rfl rfl rfl rfl at_7 rfl (by decide) (by decide) (by decide) (by decide) allWs0 (fun T1 h1 v1 X1 K1 Q1 => ?_)
  obtain ⟨rfl, rfl⟩ := Q1
  show Runs p e below (T1.setTop (mkF m 10 #[.val (.long q1), .second, .val (.long (q1 &&& (9223372036854775807 : Int64))), .second] [(.long (q1 &&& (9223372036854775807 : Int64)))])) _
  refine X1.lloadN (pc' := 11) at_10 rfl rfl ?_
  refine X1.lcmp (pc' := 12) at_11 rfl ?_
  refine X1.ifNo (pc' := 15) at_12 (teq ((lw_eq _ _).mpr rfl)).2 rfl ?_
  refine X1.iconst (pc' := 16) (z := 1) at_15 rfl rfl ?_
  refine X1.goto (pc' := 20) at_16 (by decide) (by decide) ?_
  exact X1.zreturn rfl (by simp) at_20 rfl (by decide) (by decide) rfl
set_option maxRecDepth 65536 in
set_option maxHeartbeats 40000000 in
theorem comes_1 {Post : Tables → Env → Array Value → State → Outcome → State → Prop} (hpost : ∀ tb e args s v u, (limb_1_1.after args s (.returned v) u = true ∧ limb_1_2.after args s (.returned v) u = true ∧ True) → FrameEnd s (.returned v) u (Jvm.fieldLocs frame_1_writes args s ++ Jvm.arrayLocs frame_1_arrays args s ++ Jvm.staticLocs frame_1_statics s) 0 0 → Post tb e args s (.returned v) u) :
    ArmFor flags0 classFile x code maxLocals ret World_1 tables_1 room_1 Calls_1 rest_1 Pre_1 Post := by
  intro l hfl _ _ p e ha hc hk s m args below hf hA hF happ hP
  obtain ⟨hcalls, hrest, hpre⟩ := hP
  obtain ⟨-, -, -, hnamed, -, -, -, hat⟩ := (Spec.applies_iff hf).mp happ
  obtain ⟨hg, hn⟩ := and_e (Cond.before_iff.mp (show (Jvm.Cond.and given_1 narrow_1).before args s = true from hpre))
  obtain ⟨g1, g2⟩ := and_e hg
  obtain ⟨w0, rfl⟩ : ∃ w0 : Value, args = #[w0] := by
    have hs : args.size = 1 := by simpa [Cond.value, given_1] using g1
    obtain ⟨L⟩ := args
    match L, hs with
    | [w0], _ => exact ⟨w0, rfl⟩
  have hw := fun d (hd : d ∈ tables_1) => atoms_spec (ws := Jvm.Cond.code x code maxLocals ret :: tables_1) hat d (List.mem_cons_of_mem _ hd)
  obtain ⟨i0, ei0⟩ := isL_v g2
  obtain rfl : w0 = (.long i0) := Option.some.inj ei0
  obtain ⟨n, o, h1, h2, h3, _, L, rfl, ⟨rfl, -, N⟩, hq⟩ := ct0 l s _ hw i0 s.heap tables_1 p e ha hc hk s m _ below hf ((Spec.applies_iff_loose hf).mp happ).1 ⟨rfl, State.Warmed39.refl s, rfl⟩ trivial
  refine ⟨n, _, h1, h2, h3, hpost _ _ _ _ _ _ ⟨Cond.after_iff.mpr rfl, Cond.after_iff.mpr (eq_i res_at (Term.int_eval (1)) rfl), trivial⟩ ⟨hq.1, hq.2.1, (hq.2.2.sift fun y hy => Or.inr ((N y hy).elim (fun z => nomatch z) id)).mono (by decide) (by decide)⟩⟩
theorem main_1_1 : Claimed_1_1 := comes_1 fun _ _ _ _ _ _ h hF => ⟨h.1, hF⟩
theorem main_1_2 : Claimed_1_2 := comes_1 fun _ _ _ _ _ _ h hF => ⟨h.2.1, hF⟩
end Jvm.Pilot.@@N@@
namespace Jvm.Pilot.@@N@@
open Jvm Jvm.ClassFile Sem Op Lib Jvm.Free Jvm.Stand Jvm.Pilot.@@N@@.Jvm.D
/-! MADE BY PROGRAM (witnessworld.py) out of the Statement's table words and the real class files: 9 classes; the members and pool entries that the words name. The judged class is class 1, her method 1. -/
namespace start1
open Jvm.ClassFile
def u (s : String) : CpInfo := .utf8 (stringToUtf16 s)
/-- a pool by its gaps: so many unusable entries, then the entry; so many at the end -/
def gap : Nat → List CpInfo → List CpInfo
  | 0, r => r
  | n + 1, r => .unusable :: gap n r
def poolList (es : List (Nat × CpInfo)) (last : Nat) : List CpInfo := es.foldr (fun e r => gap e.1 (e.2 :: r)) (gap last [])
def pool (es : List (Nat × CpInfo)) (last : Nat) : Array CpInfo := ⟨poolList es last⟩
def fileOf (pool : Array CpInfo) (this : Nat) (attrs : Array Attribute := #[]) (ms : Array MethodInfo := #[]) (fl : Nat := 33) (sup : Nat := 0) (ifs : Array Nat := #[]) (fds : Array FieldInfo := #[]) : ClassFile where
  minorVersion := 0
  majorVersion := 65
  constantPool := pool
  accessFlags := fl
  thisClass := this
  superClass := sup
  interfaces := ifs
  fields := fds
  methods := ms
  attributes := attrs
def plain (name : String) (sup : Option ClassId) : Class where
  name := name
  kind := .ordinary
  loader := none
  accessFlags := 33
  super := sup
  interfaces := #[]
  cf := none
  fields := #[]
  methods := #[]
  instanceTypes := #[]
  staticTypes := #[]
  resolved := #[]
  callSites := []
  init := .initialized
  statics := none
  mirror := none

def pool0 : Array CpInfo := pool [(5, u "<init>"), (0, u "()V"), (1, .class_ 10), (1, u "java/lang/Object")] 113

def k0m0 : Method := { name := "<init>", desc := "()V", sig := { parameters := [], returnType := none }, accessFlags := 1, code := none }
/-- java/lang/Object -/
def k0 : Class := { plain "java/lang/Object" none with
  accessFlags := 33
  interfaces := #[]
  cf := some (fileOf pool0 8 #[] #[{ accessFlags := 1, nameIndex := 5, descriptorIndex := 6, attributes := #[] }] 33 0 #[] #[])
  fields := #[]
  methods := #[k0m0]
  instanceTypes := #[]
  staticTypes := #[]
  resolved := Array.replicate 124 none
  statics := none }

def pool1 : Array CpInfo := pool [(2, .class_ 4), (1, u "java/lang/Object"), (0, u "<init>"), (0, u "()V"), (2, .long 9223372036854775807), (1, .methodref 12 13), (0, .class_ 14), (0, .nameAndType 15 16), (0, u "com/example/threader/threader/core/UnreadCount"), (0, u "check"), (0, u "(J)J"), (0, .class_ 18), (0, u "com/example/threader/threader/core/UnreadCountCheckPinLaw"), (2, u "law"), (0, u "(J)Z")] 3

def k1m0 : Method := { name := "<init>", desc := "()V", sig := { parameters := [], returnType := none }, accessFlags := 2, code := none }
def k1c1 : Code := { maxStack := 4, maxLocals := 4, code := code, exceptionTable := #[], attributes := #[] }
def k1m1 : Method := { name := "law", desc := "(J)Z", sig := { parameters := [.long], returnType := some .boolean }, accessFlags := 9, code := some k1c1 }
/-- com/example/threader/threader/core/UnreadCountCheckPinLaw -/
def k1 : Class := { plain "com/example/threader/threader/core/UnreadCountCheckPinLaw" (some 0) with
  accessFlags := 49
  interfaces := #[]
  cf := some (fileOf pool1 17 #[] #[{ accessFlags := 2, nameIndex := 5, descriptorIndex := 6, attributes := #[] }, { accessFlags := 9, nameIndex := 21, descriptorIndex := 22, attributes := #[] }] 49 2 #[] #[])
  fields := #[]
  methods := #[k1m0, k1m1]
  instanceTypes := #[]
  staticTypes := #[]
  resolved := Array.replicate 26 none
  statics := none }

def pool2 : Array CpInfo := pool [(2, .class_ 4), (1, u "java/lang/Object"), (0, u "<init>"), (0, u "()V"), (9, .class_ 17), (0, u "com/example/threader/threader/core/UnreadCount"), (2, u "check"), (0, u "(J)J")] 18

def k2m0 : Method := { name := "<init>", desc := "()V", sig := { parameters := [], returnType := none }, accessFlags := 2, code := none }
def k2c1 : Code := { maxStack := 4, maxLocals := 2, code := prog_12_method_2_code, exceptionTable := #[], attributes := #[] }
def k2m1 : Method := { name := "check", desc := "(J)J", sig := { parameters := [.long], returnType := some .long }, accessFlags := 8, code := some k2c1 }
/-- com/example/threader/threader/core/UnreadCount -/
def k2 : Class := { plain "com/example/threader/threader/core/UnreadCount" (some 0) with
  accessFlags := 48
  interfaces := #[]
  cf := some (fileOf pool2 16 #[] #[{ accessFlags := 2, nameIndex := 5, descriptorIndex := 6, attributes := #[] }, { accessFlags := 8, nameIndex := 20, descriptorIndex := 21, attributes := #[] }] 48 2 #[] #[])
  fields := #[]
  methods := #[k2m0, k2m1]
  instanceTypes := #[]
  staticTypes := #[]
  resolved := Array.replicate 40 none
  statics := none }

def pool3 : Array CpInfo := pool [(1, u "java/lang/Cloneable"), (0, .class_ 1), (0, u "java/lang/Object"), (0, .class_ 3)] 3

/-- java/lang/Cloneable -/
def k3 : Class := { plain "java/lang/Cloneable" (some 0) with
  accessFlags := 1537
  interfaces := #[]
  cf := some (fileOf pool3 2 #[] #[] 1537 4 #[] #[])
  fields := #[]
  methods := #[]
  instanceTypes := #[]
  staticTypes := #[]
  resolved := Array.replicate 8 none
  statics := none }

def pool4 : Array CpInfo := pool [(1, u "java/io/Serializable"), (0, .class_ 1), (0, u "java/lang/Object"), (0, .class_ 3)] 3

/-- java/io/Serializable -/
def k4 : Class := { plain "java/io/Serializable" (some 0) with
  accessFlags := 1537
  interfaces := #[]
  cf := some (fileOf pool4 2 #[] #[] 1537 4 #[] #[])
  fields := #[]
  methods := #[]
  instanceTypes := #[]
  staticTypes := #[]
  resolved := Array.replicate 8 none
  statics := none }

/-- the primitive byte -/
def k5 : Class := { plain "byte" none with kind := .primitive 'B', accessFlags := 0x411 }
/-- [B -/
def k6 : Class := { plain "[B" (some 0) with kind := .array 5 .byte, interfaces := #[3, 4], accessFlags := 1041 }

/-- the primitive int -/
def k7 : Class := { plain "int" none with kind := .primitive 'I', accessFlags := 0x411 }
/-- [I -/
def k8 : Class := { plain "[I" (some 0) with kind := .array 7 .int, interfaces := #[3, 4], accessFlags := 1041 }

def heap : Heap := #[]
def classes : Array Class := #[k0, k1, k2, k3, k4, k5, k6, k7, k8]
def interned : List (Array UInt16 × Addr) := []
def slotsUsed : Nat := 0
def theMethod : MethodId := ⟨1, 1⟩
def args0 : Array Value := #[.long 5]
def aboutOver (below : List Frame) : State where
  vm := { classes := classes, interned := interned.toArray }
  heap := heap
  slotsUsed := slotsUsed
  threads := #[{ frames := .invoking theMethod args0 :: below }]
def below0 : List Frame := [.native { method := ⟨0, 0⟩, args := #[] }]
def about1 : State := aboutOver below0
def p0 : Program := .bare "" "" ""
def e0 : Env := launch0.env 0 0 0
theorem w_frames : about1.frames = Frame.invoking theMethod args0 :: below0 := rfl
set_option maxRecDepth 65536 in
theorem w_args : argsFit about1.vm theMethod args0 = true := by decide +kernel
set_option maxRecDepth 65536 in
theorem w_heap : heapFits about1 = true := by decide +kernel
set_option maxRecDepth 65536 in
theorem w_runnable : about1.curStatus? = some .runnable := by decide +kernel
set_option maxRecDepth 65536 in
theorem w_alone : about1.alone = true := by decide +kernel
set_option maxRecDepth 65536 in
theorem w_named : about1.methodNamed? x = some theMethod := by decide +kernel
set_option maxRecDepth 65536 in
theorem w_hears : about1.hears theMethod below0 = true := by decide +kernel
set_option maxRecDepth 65536 in
theorem w_ripe : about1.ripe theMethod args0 below0 = true := by decide +kernel
theorem w_running : about1.status = .running := rfl
set_option maxRecDepth 65536 in
theorem w_room : about1.hasRoom e0.platform room_1 = true :=
  launch0.hasRoom_least _ room_1 (by decide +kernel) (by decide +kernel) (by decide +kernel) (by decide +kernel) (by decide +kernel) (by decide +kernel)
theorem allAtoms_all (ts : List Jvm.Cond) (a : Array Jvm.Value) (st : Jvm.State) : (allAtoms ts).before a st = ts.all (fun c => c.before a st) := by
  induction ts with
  | nil => rfl
  | cons c t ih =>
    show (Jvm.Cond.and c (allAtoms t)).before a st = _
    rw [Jvm.Cond.before_and, ih, List.all_cons]
def words1 : List Jvm.Cond := Jvm.Cond.code x code maxLocals ret :: tables_1
/-- a 'code' word, met by the world's own term for the bytes: nothing is compared byte by byte -/
theorem code_word {y : MethodName} {bytes : ByteArray} {mx : Nat} {rt : Option FieldType} {a : Array Value} {s : State} {m : MethodId} {meth : Method} {c : Code} (h1 : s.methodNamed? y = some m) (h2 : s.vm.method? m = some meth) (h3 : meth.code = some c) (h4 : c.code = bytes)
    (h5 : (c.maxLocals == mx && c.exceptionTable.isEmpty && decide (c.maxStack ≤ mostOperands) && decide (meth.sig.returnType = rt) && !meth.locks && decide (parseMethodDescriptor y.desc = some meth.sig)) = true) : (Jvm.Cond.code y bytes mx rt).before a s = true := by
  simp only [Bool.and_eq_true, beq_iff_eq, Bool.not_eq_true', decide_eq_true_eq] at h5
  obtain ⟨⟨⟨⟨⟨g1, g2⟩, g3⟩, g4⟩, g5⟩, g6⟩ := h5
  simp [Cond.before, Cond.holds, Cond.value, h1, h2, h3, h4, g1, g2, g3, g4, g5, g6]
def isCode : Jvm.Cond → Bool
  | .code _ _ _ _ => true
  | _ => false
theorem all_split {L : List Jvm.Cond} {P : Jvm.Cond → Bool} (h1 : L.all (fun c => isCode c || P c) = true) (h2 : ∀ c ∈ L.filter isCode, P c = true) : L.all P = true := by
  refine List.all_eq_true.mpr fun c hc => ?_
  have h := List.all_eq_true.mp h1 c hc
  rcases Bool.eq_false_or_eq_true (isCode c) with hi | hi
  · exact h2 c (List.mem_filter.mpr ⟨hc, hi⟩)
  · simpa [hi] using h
set_option maxRecDepth 65536 in
theorem w_c0 : (Jvm.Cond.code x code maxLocals ret).before args0 about1 = true := code_word (m := ⟨1, 1⟩) (meth := k1m1) (c := k1c1) (by decide +kernel) rfl rfl rfl (by decide +kernel)
set_option maxRecDepth 65536 in
theorem w_c1 : (Jvm.Cond.code ({ cls := "com/example/threader/threader/core/UnreadCount", name := "check", desc := "(J)J" } : Jvm.MethodName) prog_12_method_2_code (2 : Nat) (Option.some Jvm.ClassFile.FieldType.long)).before args0 about1 = true := code_word (m := ⟨2, 1⟩) (meth := k2m1) (c := k2c1) (by decide +kernel) rfl rfl rfl (by decide +kernel)
def codes1 : List Jvm.Cond := [Jvm.Cond.code x code maxLocals ret, Jvm.Cond.code ({ cls := "com/example/threader/threader/core/UnreadCount", name := "check", desc := "(J)J" } : Jvm.MethodName) prog_12_method_2_code (2 : Nat) (Option.some Jvm.ClassFile.FieldType.long)]
set_option maxRecDepth 65536 in
theorem codes_eq : words1.filter isCode = codes1 := rfl
theorem w_codes : ∀ c ∈ words1.filter isCode, c.before args0 about1 = true := by
  rw [codes_eq]
  intro c hc
  simp only [codes1, List.mem_cons, List.not_mem_nil, or_false] at hc
  rcases hc with rfl | rfl
  · exact w_c0
  · exact w_c1
set_option maxRecDepth 65536 in
theorem w_t1 : words1.all (fun c => isCode c || c.before args0 about1) = true := by decide +kernel
theorem w_tables : (allAtoms (Jvm.Cond.code x code maxLocals ret :: tables_1)).before args0 about1 = true := by
  rw [allAtoms_all]
  show words1.all (fun c => c.before args0 about1) = true
  refine all_split ?_ w_codes
  rw [w_t1]
set_option maxRecDepth 65536 in
theorem w_case : (Jvm.Cond.and given_1 narrow_1).before args0 about1 = true := by decide +kernel
theorem w_applies : (headSpec (Jvm.Cond.code x code maxLocals ret :: tables_1) room_1).applies x e0.platform about1 = true :=
  (Spec.applies_iff w_frames).mpr ⟨w_running, w_runnable, w_alone, w_named, w_hears, w_ripe, w_room, w_tables⟩
theorem atStart : AtStart classFile x code maxLocals ret World_1 tables_1 room_1 Calls_1 rest_1 Pre_1 launch0 p0 e0 about1 theMethod args0 below0 :=
  ⟨lists_1, trivial, launch0.admits_env _ _ _, launch0.least_env, fairChoices_fair.cas, fairChoices_fair.clock, w_frames, w_args, w_heap, w_applies, trivial, trivial, w_case⟩
end start1
theorem witness_1 : WitnessClaimed_1 := ⟨start1.p0, start1.e0, start1.about1, start1.theMethod, start1.args0, start1.below0, start1.atStart⟩
end Jvm.Pilot.@@N@@
