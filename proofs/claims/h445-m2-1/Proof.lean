import JvmDerived
import JvmDerived.Pilot.@@N@@Statement
import JvmDerived.Pilot.@@N@@Code
set_option linter.unusedVariables false
set_option linter.unusedSimpArgs false
namespace Jvm.Own
open Jvm Jvm.ClassFile Sem Op Lib Jvm.Free Jvm.Stand Jvm.LawKit Jvm.RoadKit
/-- the run from A ends, and G holds of its end -/
def Runs (p : Program) (e : Env) (below : List Frame) (A : State) (G : Outcome → State → Prop) : Prop :=
  ∃ s₂ o, Steps p.tables e below A s₂ ∧ s₂.status = .running ∧ Ended s₂ below o ∧ G o s₂
section A
variable {p : Program} {e : Env} {below : List Frame} {A B : State} {G : Outcome → State → Prop}
theorem Runs.of (k : Runs p e below B G) (h : ∀ t, Steps p.tables e below B t → Steps p.tables e below A t) : Runs p e below A G := by
  obtain ⟨t, o, hs, r⟩ := k
  exact ⟨t, o, h t hs, r⟩
theorem Runs.dia {P : Prop} [Decidable P] {B : Int32 → State} {vt vf : Int32} (ht : P → Runs p e below (B vt) G → Runs p e below A G) (hf : ¬ P → Runs p e below (B vf) G → Runs p e below A G) (k : Runs p e below (B (if P then vt else vf)) G) : Runs p e below A G := by
  by_cases hc : P
  · rw [if_pos hc] at k; exact ht hc k
  · rw [if_neg hc] at k; exact hf hc k
theorem Runs.via (k : Runs p e below B G) (h : Steps p.tables e below A B) : Runs p e below A G := k.of fun _ q => h.trans q
end A
/-- what stood at h0 is written at ws alone -/
def Wrote (h0 : Heap) (ws : List Addr) (L : List Loc) : Prop := ∀ y ∈ L, y.base ∈ ws ∨ h0.size ≤ y.base
theorem Wrote.nil {h0 : Heap} {ws : List Addr} : Wrote h0 ws [] := fun _ q => nomatch q
theorem Wrote.app {h0 h : Heap} {ws ws' : List Addr} {L L' : List Loc} (N : Wrote h0 ws L) (N' : Wrote h ws' L') (hs : h0.size ≤ h.size) (hw : ∀ x ∈ ws', x ∈ ws ∨ h0.size ≤ x) : Wrote h0 ws (L ++ L') := fun y q =>
  (List.mem_append.mp q).elim (N y) fun r => (N' y r).elim (hw _) fun z => Or.inr (Nat.le_trans hs z)
theorem Wrote.snoc {h0 : Heap} {ws : List Addr} {L : List Loc} {a : Addr} {i : Nat} (N : Wrote h0 ws L) (q : a ∈ ws ∨ h0.size ≤ a) : Wrote h0 ws (L ++ [⟨a, i⟩]) := fun y r =>
  (List.mem_append.mp r).elim (N y) fun z => by cases List.mem_singleton.mp z; exact q
/-- a word on the tables that warming keeps -/
def Stb (J : Vm → Prop) : Prop := ∀ (s : State) (vm : Vm), s.WarmedH vm → J s.vm → J vm
def anyVm : Vm → Prop := fun _ => True
theorem anyVm.stb : Stb anyVm := fun _ _ _ _ => trivial
/-- where a walk stands: the tables vm0 under its Stand, the method's own facts, the heap as it is now, what was written since h0 -/
def Here (p : Program) (l : Launch) (e : Env) (R : Room) (s : State) (m : MethodId) (args : Array Value) (below : List Frame) (meth : Method) (c : Code)
    (y : MethodName) (bytes : ByteArray) (maxL : Nat) (ret : Option FieldType) (Z : State) (h0 : Heap) (ws : List Addr) (J : Vm → Prop) (T : State) (cells slots : Nat) (h : Heap) : Prop :=
  ∃ vm0 k0, (s.Since vm0 k0 ∧ k0 ≤ h.size ∧ J vm0 ∧ Stb J ∧ s.heap = h0) ∧
  (p.tables.exec = Jvm.exec ∧ Z.Warmed39 (s.setVm vm0).vm ∧ c.code = bytes ∧ c.maxLocals = maxL ∧ (s.setVm vm0).vm.findClass y.cls = some m.cls ∧ meth.name = y.name ∧ meth.sig.returnType = ret ∧ meth.locks = false) ∧
  T.heap = h ∧ Keep h0 h ws ∧ ∃ locs, Stand p l e R (s.setVm vm0) m args below meth c T locs cells slots ∧ Wrote h0 ws locs
/-- how a walk must end: it returns, Q holds of the result and the heap, J of the tables, what stood at h0 is written at ws alone -/
def Out (s : State) (h0 : Heap) (ws : List Addr) (J : Vm → Prop) (rm : Room) (Q : Option Value → Heap → Prop) (o : Outcome) (U : State) : Prop :=
  ∃ v L, o = .returned v ∧ ((Q v U.heap ∧ J U.vm) ∧ Keep h0 U.heap ws ∧ Wrote h0 ws L) ∧ ReturnedEndW s o U L rm.cells rm.slots
/-- a method's contract at the heap h0 and these arguments; J of the tables ahead, J' behind -/
def Ct (l : Launch) (Z : State) (y : MethodName) (bytes : ByteArray) (maxL : Nat) (ret : Option FieldType) (rm : Room) (as : Array Value) (h0 : Heap) (ws : List Addr) (J J' : Vm → Prop) (Q : Option Value → Heap → Prop) : Prop :=
  (Stb J ∧ Stb J') ∧ ∀ wz, MetFree l y (head1 (Jvm.Cond.code y bytes maxL ret :: wz) rm) (fun a U => a = as ∧ (Z.Warmed39 U.vm ∧ J U.vm) ∧ U.heap = h0) (fun _ _ _ _ _ => True)
    (fun _ U o U' => ∃ v L, o = .returned v ∧ ((Q v U'.heap ∧ J' U'.vm) ∧ Keep h0 U'.heap ws ∧ Wrote h0 ws L) ∧ ReturnedEndW U o U' L rm.cells rm.slots)
section B
variable {p : Program} {l : Launch} {e : Env} {R : Room} {s : State} {m : MethodId} {args : Array Value} {below : List Frame} {meth : Method} {c : Code} {y : MethodName} {bytes : ByteArray} {maxL : Nat} {ret : Option FieldType} {Z : State} {h0 : Heap} {ws : List Addr} {J J' : Vm → Prop} {T : State} {cells slots : Nat} {h : Heap} {G : Outcome → State → Prop} {a0 : Array Value}
theorem Ct.of {rm : Room} {as : Array Value} {Q : Option Value → Heap → Prop} (hJ : Stb J) (hJ' : Stb J') (hp : plainFor y = true)
    (body : ∀ p e s m below meth c T, Here p l e rm s m as below meth c y bytes maxL ret Z h0 ws J T 0 0 h0 → Runs p e below (T.setTop (entryFrame m as maxL)) (Out s h0 ws J' rm Q)) :
    Ct l Z y bytes maxL ret rm as h0 ws J J' Q := ⟨⟨hJ, hJ'⟩, fun wz => by
  refine MetFree.of_bodySF hp hisR ?_
  intro p e s m args below meth c s₁ Bd hml0 hP hK
  obtain ⟨rfl, ⟨hZ, hj⟩, hh⟩ := hP
  have e0 : s₁.heap = h0 := by rw [← hh, Bd.state]; rfl
  exact body p e s m below meth c s₁ ⟨s.vm, 0, ⟨(State.WarmedH.refl s).since 0, Nat.zero_le _, hj, hJ, hh⟩, ⟨Bd.exec, hZ, Bd.bytes, hml0, findClass_of_methodNamed Bd.named, (name_of_methodNamed Bd.named Bd.method).1, Bd.returns, BodyLoose.notSynchronized Bd⟩, e0, Keep.refl _ _, [], Stand.of_body Bd, Wrote.nil⟩⟩
theorem Ct.mono {rm : Room} {as : Array Value} {Q Q' : Option Value → Heap → Prop} (h : Ct l Z y bytes maxL ret rm as h0 ws J J' Q) (hq : ∀ v h, Q v h → Q' v h) : Ct l Z y bytes maxL ret rm as h0 ws J J' Q' := ⟨h.1, fun wz => by
  intro p e ha hc hk s m args below hf happ hP hK
  obtain ⟨n, o, w1, w2, w3, v, L, q1, q2, q3⟩ := h.2 wz p e ha hc hk s m args below hf happ hP hK
  exact ⟨n, o, w1, w2, w3, v, L, q1, ⟨⟨hq _ _ q2.1.1, q2.1.2⟩, q2.2⟩, q3⟩⟩
/-- from one frame to another that is the same -/
theorem Runs.top {g g' : JFrame} (q : g = g') (k : Runs p e below (T.setTop g') G) : Runs p e below (T.setTop g) G := q ▸ k
theorem Here.keep (X : Here p l e R s m args below meth c y bytes maxL ret Z h0 ws J T cells slots h) : Keep h0 h ws := by obtain ⟨vm0, k0, -, -, -, q, -⟩ := X; exact q
theorem Here.size (X : Here p l e R s m args below meth c y bytes maxL ret Z h0 ws J T cells slots h) : h0.size ≤ h.size := X.keep.1
/-- a plain step -/
theorem Here.step (X : Here p l e R s m args below meth c y bytes maxL ret Z h0 ws J T cells slots h) {g g' : JFrame}
    (st : ∀ {s' : State} locs, p.tables.exec = Jvm.exec → c.code = bytes → Z.Warmed39 s'.vm → s'.vm.findClass y.cls = some m.cls → T.heap = h → Stand p l e R s' m args below meth c T locs cells slots → ∀ t, Steps p.tables e below (T.setTop g') t → Steps p.tables e below (T.setTop g) t)
    (k : Runs p e below (T.setTop g') G) : Runs p e below (T.setTop g) G := by
  obtain ⟨vm0, k0, ⟨j1, j2, j3, j4, j5⟩, ⟨x1, x2, x3, x4, x5, x6, x7, x8⟩, x9, x10, locs, S, N⟩ := X
  exact k.of (st locs x1 x3 x2 x5 x9 S)
/-- a step that leaves the heap as it is -/
theorem Here.stepT (X : Here p l e R s m args below meth c y bytes maxL ret Z h0 ws J T cells slots h) {g g' : JFrame}
    (st : ∀ {s' : State} locs, p.tables.exec = Jvm.exec → c.code = bytes → c.maxLocals = maxL → Z.Warmed39 s'.vm → s'.vm.findClass y.cls = some m.cls → T.heap = h → Stand p l e R s' m args below meth c T locs cells slots → ∃ T', Stand p l e R s' m args below meth c T' locs cells slots ∧ T'.heap = h ∧ ∀ t, Steps p.tables e below (T'.setTop g') t → Steps p.tables e below (T.setTop g) t)
    (k : ∀ T', Here p l e R s m args below meth c y bytes maxL ret Z h0 ws J T' cells slots h → Runs p e below (T'.setTop g') G) : Runs p e below (T.setTop g) G := by
  obtain ⟨vm0, k0, ⟨j1, j2, j3, j4, j5⟩, ⟨x1, x2, x3, x4, x5, x6, x7, x8⟩, x9, x10, locs, S, N⟩ := X
  obtain ⟨T', S', e', q⟩ := st locs x1 x3 x4 x2 x5 x9 S
  exact (k T' ⟨vm0, k0, ⟨j1, j2, j3, j4, j5⟩, ⟨x1, x2, x3, x4, x5, x6, x7, x8⟩, e', x10, locs, S', N⟩).of q
/-- a step that writes one slot -/
theorem Here.stepW (X : Here p l e R s m args below meth c y bytes maxL ret Z h0 ws J T cells slots h) {g g' : JFrame} {a : Addr} {i : Nat} {v : Value} (hn : a ∈ ws ∨ h0.size ≤ a)
    (st : ∀ {s' : State} locs, p.tables.exec = Jvm.exec → c.code = bytes → meth.name = y.name → Z.Warmed39 s'.vm → s'.vm.findClass y.cls = some m.cls → T.heap = h → Stand p l e R s' m args below meth c T locs cells slots → ∃ T' h', Stand p l e R s' m args below meth c T' (locs ++ [⟨a, i⟩]) cells slots ∧ T'.heap = h' ∧ Wr h h' a i v ∧ ∀ t, Steps p.tables e below (T'.setTop g') t → Steps p.tables e below (T.setTop g) t)
    (k : ∀ T' h', Here p l e R s m args below meth c y bytes maxL ret Z h0 ws J T' cells slots h' → Wr h h' a i v → Runs p e below (T'.setTop g') G) : Runs p e below (T.setTop g) G := by
  obtain ⟨vm0, k0, ⟨j1, j2, j3, j4, j5⟩, ⟨x1, x2, x3, x4, x5, x6, x7, x8⟩, x9, x10, locs, S, N⟩ := X
  obtain ⟨T', h', S', e', W, q⟩ := st locs x1 x3 x6 x2 x5 x9 S
  exact (k T' h' ⟨vm0, k0, ⟨j1, Nat.le_trans j2 ((Keep.refl h [a]).wr W (Or.inl (List.mem_singleton.mpr rfl))).1, j3, j4, j5⟩, ⟨x1, x2, x3, x4, x5, x6, x7, x8⟩, e', x10.wr W hn, _, S', N.snoc hn⟩ W).of q
theorem Here.iload (X : Here p l e R s m args below meth c y bytes maxL ret Z h0 ws J T cells slots h) {pc pc' : Nat} {Ls : Array Slot} {St : List Value} {i : Nat} {v : Int32} (hd : decode bytes pc = .ok (.iload i, 2)) (hl : Ls[i]? = some (.val (.int v))) (hp : pc + 2 = pc') (k : Runs p e below (T.setTop (mkF m pc' Ls (.int v :: St))) G) : Runs p e below (T.setTop (mkF m pc Ls (St))) G := by
  subst hp
  exact X.step (fun _ hx hb' _ hown _ S t q => XS.iload S.here hx rfl (hb hb' hd) hl q) k
theorem Here.iloadN (X : Here p l e R s m args below meth c y bytes maxL ret Z h0 ws J T cells slots h) {pc pc' : Nat} {Ls : Array Slot} {St : List Value} {i : Fin 4} {v : Int32} (hd : decode bytes pc = .ok (.iload_n i, 1)) (hl : Ls[i.val]? = some (.val (.int v))) (hp : pc + 1 = pc') (k : Runs p e below (T.setTop (mkF m pc' Ls (.int v :: St))) G) : Runs p e below (T.setTop (mkF m pc Ls (St))) G := by
  subst hp
  exact X.step (fun _ hx hb' _ hown _ S t q => XS.iloadN S.here hx rfl (hb hb' hd) hl q) k
theorem Here.lload (X : Here p l e R s m args below meth c y bytes maxL ret Z h0 ws J T cells slots h) {pc pc' : Nat} {Ls : Array Slot} {St : List Value} {i : Nat} {v : Int64} (hd : decode bytes pc = .ok (.lload i, 2)) (hl : Ls[i]? = some (.val (.long v))) (hp : pc + 2 = pc') (k : Runs p e below (T.setTop (mkF m pc' Ls (.long v :: St))) G) : Runs p e below (T.setTop (mkF m pc Ls (St))) G := by
  subst hp
  exact X.step (fun _ hx hb' _ hown _ S t q => XS.lload S.here hx rfl (hb hb' hd) hl q) k
theorem Here.lloadN (X : Here p l e R s m args below meth c y bytes maxL ret Z h0 ws J T cells slots h) {pc pc' : Nat} {Ls : Array Slot} {St : List Value} {i : Fin 4} {v : Int64} (hd : decode bytes pc = .ok (.lload_n i, 1)) (hl : Ls[i.val]? = some (.val (.long v))) (hp : pc + 1 = pc') (k : Runs p e below (T.setTop (mkF m pc' Ls (.long v :: St))) G) : Runs p e below (T.setTop (mkF m pc Ls (St))) G := by
  subst hp
  exact X.step (fun _ hx hb' _ hown _ S t q => XS.lloadN S.here hx rfl (hb hb' hd) hl q) k
theorem Here.aload (X : Here p l e R s m args below meth c y bytes maxL ret Z h0 ws J T cells slots h) {pc pc' : Nat} {Ls : Array Slot} {St : List Value} {i : Nat} {v : Value} (hd : decode bytes pc = .ok (.aload i, 2)) (hl : Ls[i]? = some (.val v)) (hv : v.isRef = true) (hp : pc + 2 = pc') (k : Runs p e below (T.setTop (mkF m pc' Ls (v :: St))) G) : Runs p e below (T.setTop (mkF m pc Ls (St))) G := by
  subst hp
  exact X.step (fun _ hx hb' _ hown _ S t q => XS.aload S.here hx rfl (hb hb' hd) hl hv q) k
theorem Here.aloadN (X : Here p l e R s m args below meth c y bytes maxL ret Z h0 ws J T cells slots h) {pc pc' : Nat} {Ls : Array Slot} {St : List Value} {i : Fin 4} {v : Value} (hd : decode bytes pc = .ok (.aload_n i, 1)) (hl : Ls[i.val]? = some (.val v)) (hv : v.isRef = true) (hp : pc + 1 = pc') (k : Runs p e below (T.setTop (mkF m pc' Ls (v :: St))) G) : Runs p e below (T.setTop (mkF m pc Ls (St))) G := by
  subst hp
  exact X.step (fun _ hx hb' _ hown _ S t q => XS.aloadN S.here hx rfl (hb hb' hd) hl hv q) k
theorem Here.istore (X : Here p l e R s m args below meth c y bytes maxL ret Z h0 ws J T cells slots h) {pc pc' : Nat} {Ls : Array Slot} {St : List Value} {i : Nat} {v : Int32} {l' : Array Slot} (hd : decode bytes pc = .ok (.istore i, 2)) (hl : storeLocals Ls i (.int v) = some l') (hp : pc + 2 = pc') (k : Runs p e below (T.setTop (mkF m pc' l' (St))) G) : Runs p e below (T.setTop (mkF m pc Ls (.int v :: St))) G := by
  subst hp
  exact X.step (fun _ hx hb' _ hown _ S t q => XS.istore S.here hx rfl (hb hb' hd) rfl hl q) k
theorem Here.istoreN (X : Here p l e R s m args below meth c y bytes maxL ret Z h0 ws J T cells slots h) {pc pc' : Nat} {Ls : Array Slot} {St : List Value} {i : Fin 4} {v : Int32} {l' : Array Slot} (hd : decode bytes pc = .ok (.istore_n i, 1)) (hl : storeLocals Ls i.val (.int v) = some l') (hp : pc + 1 = pc') (k : Runs p e below (T.setTop (mkF m pc' l' (St))) G) : Runs p e below (T.setTop (mkF m pc Ls (.int v :: St))) G := by
  subst hp
  exact X.step (fun _ hx hb' _ hown _ S t q => XS.istoreN S.here hx rfl (hb hb' hd) rfl hl q) k
theorem Here.lstore (X : Here p l e R s m args below meth c y bytes maxL ret Z h0 ws J T cells slots h) {pc pc' : Nat} {Ls : Array Slot} {St : List Value} {i : Nat} {v : Int64} {l' : Array Slot} (hd : decode bytes pc = .ok (.lstore i, 2)) (hl : storeLocals Ls i (.long v) = some l') (hp : pc + 2 = pc') (k : Runs p e below (T.setTop (mkF m pc' l' (St))) G) : Runs p e below (T.setTop (mkF m pc Ls (.long v :: St))) G := by
  subst hp
  exact X.step (fun _ hx hb' _ hown _ S t q => XS.lstore S.here hx rfl (hb hb' hd) rfl hl q) k
theorem Here.lstoreN (X : Here p l e R s m args below meth c y bytes maxL ret Z h0 ws J T cells slots h) {pc pc' : Nat} {Ls : Array Slot} {St : List Value} {i : Fin 4} {v : Int64} {l' : Array Slot} (hd : decode bytes pc = .ok (.lstore_n i, 1)) (hl : storeLocals Ls i.val (.long v) = some l') (hp : pc + 1 = pc') (k : Runs p e below (T.setTop (mkF m pc' l' (St))) G) : Runs p e below (T.setTop (mkF m pc Ls (.long v :: St))) G := by
  subst hp
  exact X.step (fun _ hx hb' _ hown _ S t q => XS.lstoreN S.here hx rfl (hb hb' hd) rfl hl q) k
theorem Here.astore (X : Here p l e R s m args below meth c y bytes maxL ret Z h0 ws J T cells slots h) {pc pc' : Nat} {Ls : Array Slot} {St : List Value} {i : Nat} {v : Value} {l' : Array Slot} (hd : decode bytes pc = .ok (.astore i, 2)) (hv : v.isRef = true) (hl : storeLocals Ls i v = some l') (hp : pc + 2 = pc') (k : Runs p e below (T.setTop (mkF m pc' l' (St))) G) : Runs p e below (T.setTop (mkF m pc Ls (v :: St))) G := by
  subst hp
  exact X.step (fun _ hx hb' _ hown _ S t q => XS.astore S.here hx rfl (hb hb' hd) rfl hv hl q) k
theorem Here.astoreN (X : Here p l e R s m args below meth c y bytes maxL ret Z h0 ws J T cells slots h) {pc pc' : Nat} {Ls : Array Slot} {St : List Value} {i : Fin 4} {v : Value} {l' : Array Slot} (hd : decode bytes pc = .ok (.astore_n i, 1)) (hv : v.isRef = true) (hl : storeLocals Ls i.val v = some l') (hp : pc + 1 = pc') (k : Runs p e below (T.setTop (mkF m pc' l' (St))) G) : Runs p e below (T.setTop (mkF m pc Ls (v :: St))) G := by
  subst hp
  exact X.step (fun _ hx hb' _ hown _ S t q => XS.astoreN S.here hx rfl (hb hb' hd) rfl hv hl q) k
theorem Here.iconst (X : Here p l e R s m args below meth c y bytes maxL ret Z h0 ws J T cells slots h) {pc pc' : Nat} {Ls : Array Slot} {St : List Value} {i : Int} {z : Int32} (hd : decode bytes pc = .ok (.iconst i, 1)) (hz : Int32.ofInt i = z) (hp : pc + 1 = pc') (k : Runs p e below (T.setTop (mkF m pc' Ls (.int z :: St))) G) : Runs p e below (T.setTop (mkF m pc Ls (St))) G := by
  subst hp
  exact X.step (fun _ hx hb' _ hown _ S t q => XS.iconst S.here hx rfl (hb hb' hd) (hz ▸ q)) k
theorem Here.bipush (X : Here p l e R s m args below meth c y bytes maxL ret Z h0 ws J T cells slots h) {pc pc' : Nat} {Ls : Array Slot} {St : List Value} {i : Int} {z : Int32} (hd : decode bytes pc = .ok (.bipush i, 2)) (hz : (Int8.ofInt i).toInt32 = z) (hp : pc + 2 = pc') (k : Runs p e below (T.setTop (mkF m pc' Ls (.int z :: St))) G) : Runs p e below (T.setTop (mkF m pc Ls (St))) G := by
  subst hp
  exact X.step (fun _ hx hb' _ hown _ S t q => XS.bipush S.here hx rfl (hb hb' hd) (hz ▸ q)) k
theorem Here.sipush (X : Here p l e R s m args below meth c y bytes maxL ret Z h0 ws J T cells slots h) {pc pc' : Nat} {Ls : Array Slot} {St : List Value} {i : Int} {z : Int32} (hd : decode bytes pc = .ok (.sipush i, 3)) (hz : (Int16.ofInt i).toInt32 = z) (hp : pc + 3 = pc') (k : Runs p e below (T.setTop (mkF m pc' Ls (.int z :: St))) G) : Runs p e below (T.setTop (mkF m pc Ls (St))) G := by
  subst hp
  exact X.step (fun _ hx hb' _ hown _ S t q => XS.sipush S.here hx rfl (hb hb' hd) (hz ▸ q)) k
theorem Here.lconst0 (X : Here p l e R s m args below meth c y bytes maxL ret Z h0 ws J T cells slots h) {pc pc' : Nat} {Ls : Array Slot} {St : List Value}  (hd : decode bytes pc = .ok (.lconst 0, 1))  (hp : pc + 1 = pc') (k : Runs p e below (T.setTop (mkF m pc' Ls (.long 0 :: St))) G) : Runs p e below (T.setTop (mkF m pc Ls (St))) G := by
  subst hp
  exact X.step (fun _ hx hb' _ hown _ S t q => XS.lconst S.here hx rfl (hb hb' hd) q) k
theorem Here.lconst1 (X : Here p l e R s m args below meth c y bytes maxL ret Z h0 ws J T cells slots h) {pc pc' : Nat} {Ls : Array Slot} {St : List Value}  (hd : decode bytes pc = .ok (.lconst 1, 1))  (hp : pc + 1 = pc') (k : Runs p e below (T.setTop (mkF m pc' Ls (.long 1 :: St))) G) : Runs p e below (T.setTop (mkF m pc Ls (St))) G := by
  subst hp
  exact X.step (fun _ hx hb' _ hown _ S t q => XS.lconst S.here hx rfl (hb hb' hd) q) k
theorem Here.aconstNull (X : Here p l e R s m args below meth c y bytes maxL ret Z h0 ws J T cells slots h) {pc pc' : Nat} {Ls : Array Slot} {St : List Value}  (hd : decode bytes pc = .ok (.aconst_null, 1))  (hp : pc + 1 = pc') (k : Runs p e below (T.setTop (mkF m pc' Ls (.null :: St))) G) : Runs p e below (T.setTop (mkF m pc Ls (St))) G := by
  subst hp
  exact X.step (fun _ hx hb' _ hown _ S t q => XS.aconstNull S.here hx rfl (hb hb' hd) q) k
theorem Here.iadd (X : Here p l e R s m args below meth c y bytes maxL ret Z h0 ws J T cells slots h) {pc pc' : Nat} {Ls : Array Slot} {St : List Value} {a b : Int32} (hd : decode bytes pc = .ok (.iadd, 1))  (hp : pc + 1 = pc') (k : Runs p e below (T.setTop (mkF m pc' Ls (.int (a + b) :: St))) G) : Runs p e below (T.setTop (mkF m pc Ls (.int b :: .int a :: St))) G := by
  subst hp
  exact X.step (fun _ hx hb' _ hown _ S t q => XS.iadd S.here hx rfl (hb hb' hd) rfl q) k
theorem Here.isub (X : Here p l e R s m args below meth c y bytes maxL ret Z h0 ws J T cells slots h) {pc pc' : Nat} {Ls : Array Slot} {St : List Value} {a b : Int32} (hd : decode bytes pc = .ok (.isub, 1))  (hp : pc + 1 = pc') (k : Runs p e below (T.setTop (mkF m pc' Ls (.int (a - b) :: St))) G) : Runs p e below (T.setTop (mkF m pc Ls (.int b :: .int a :: St))) G := by
  subst hp
  exact X.step (fun _ hx hb' _ hown _ S t q => XS.isub S.here hx rfl (hb hb' hd) rfl q) k
theorem Here.imul (X : Here p l e R s m args below meth c y bytes maxL ret Z h0 ws J T cells slots h) {pc pc' : Nat} {Ls : Array Slot} {St : List Value} {a b : Int32} (hd : decode bytes pc = .ok (.imul, 1))  (hp : pc + 1 = pc') (k : Runs p e below (T.setTop (mkF m pc' Ls (.int (a * b) :: St))) G) : Runs p e below (T.setTop (mkF m pc Ls (.int b :: .int a :: St))) G := by
  subst hp
  exact X.step (fun _ hx hb' _ hown _ S t q => XS.imul S.here hx rfl (hb hb' hd) rfl q) k
theorem Here.iand (X : Here p l e R s m args below meth c y bytes maxL ret Z h0 ws J T cells slots h) {pc pc' : Nat} {Ls : Array Slot} {St : List Value} {a b : Int32} (hd : decode bytes pc = .ok (.iand, 1))  (hp : pc + 1 = pc') (k : Runs p e below (T.setTop (mkF m pc' Ls (.int (a &&& b) :: St))) G) : Runs p e below (T.setTop (mkF m pc Ls (.int b :: .int a :: St))) G := by
  subst hp
  exact X.step (fun _ hx hb' _ hown _ S t q => XS.iand S.here hx rfl (hb hb' hd) rfl q) k
theorem Here.ior (X : Here p l e R s m args below meth c y bytes maxL ret Z h0 ws J T cells slots h) {pc pc' : Nat} {Ls : Array Slot} {St : List Value} {a b : Int32} (hd : decode bytes pc = .ok (.ior, 1))  (hp : pc + 1 = pc') (k : Runs p e below (T.setTop (mkF m pc' Ls (.int (a ||| b) :: St))) G) : Runs p e below (T.setTop (mkF m pc Ls (.int b :: .int a :: St))) G := by
  subst hp
  exact X.step (fun _ hx hb' _ hown _ S t q => XS.ior S.here hx rfl (hb hb' hd) rfl q) k
theorem Here.ixor (X : Here p l e R s m args below meth c y bytes maxL ret Z h0 ws J T cells slots h) {pc pc' : Nat} {Ls : Array Slot} {St : List Value} {a b : Int32} (hd : decode bytes pc = .ok (.ixor, 1))  (hp : pc + 1 = pc') (k : Runs p e below (T.setTop (mkF m pc' Ls (.int (a ^^^ b) :: St))) G) : Runs p e below (T.setTop (mkF m pc Ls (.int b :: .int a :: St))) G := by
  subst hp
  exact X.step (fun _ hx hb' _ hown _ S t q => XS.ixor S.here hx rfl (hb hb' hd) rfl q) k
theorem Here.ladd (X : Here p l e R s m args below meth c y bytes maxL ret Z h0 ws J T cells slots h) {pc pc' : Nat} {Ls : Array Slot} {St : List Value} {a b : Int64} (hd : decode bytes pc = .ok (.ladd, 1))  (hp : pc + 1 = pc') (k : Runs p e below (T.setTop (mkF m pc' Ls (.long (a + b) :: St))) G) : Runs p e below (T.setTop (mkF m pc Ls (.long b :: .long a :: St))) G := by
  subst hp
  exact X.step (fun _ hx hb' _ hown _ S t q => XS.ladd S.here hx rfl (hb hb' hd) rfl q) k
theorem Here.lsub (X : Here p l e R s m args below meth c y bytes maxL ret Z h0 ws J T cells slots h) {pc pc' : Nat} {Ls : Array Slot} {St : List Value} {a b : Int64} (hd : decode bytes pc = .ok (.lsub, 1))  (hp : pc + 1 = pc') (k : Runs p e below (T.setTop (mkF m pc' Ls (.long (a - b) :: St))) G) : Runs p e below (T.setTop (mkF m pc Ls (.long b :: .long a :: St))) G := by
  subst hp
  exact X.step (fun _ hx hb' _ hown _ S t q => XS.lsub S.here hx rfl (hb hb' hd) rfl q) k
theorem Here.lmul (X : Here p l e R s m args below meth c y bytes maxL ret Z h0 ws J T cells slots h) {pc pc' : Nat} {Ls : Array Slot} {St : List Value} {a b : Int64} (hd : decode bytes pc = .ok (.lmul, 1))  (hp : pc + 1 = pc') (k : Runs p e below (T.setTop (mkF m pc' Ls (.long (a * b) :: St))) G) : Runs p e below (T.setTop (mkF m pc Ls (.long b :: .long a :: St))) G := by
  subst hp
  exact X.step (fun _ hx hb' _ hown _ S t q => XS.lmul S.here hx rfl (hb hb' hd) rfl q) k
theorem Here.land (X : Here p l e R s m args below meth c y bytes maxL ret Z h0 ws J T cells slots h) {pc pc' : Nat} {Ls : Array Slot} {St : List Value} {a b : Int64} (hd : decode bytes pc = .ok (.land, 1))  (hp : pc + 1 = pc') (k : Runs p e below (T.setTop (mkF m pc' Ls (.long (a &&& b) :: St))) G) : Runs p e below (T.setTop (mkF m pc Ls (.long b :: .long a :: St))) G := by
  subst hp
  exact X.step (fun _ hx hb' _ hown _ S t q => XS.land S.here hx rfl (hb hb' hd) rfl q) k
theorem Here.lor (X : Here p l e R s m args below meth c y bytes maxL ret Z h0 ws J T cells slots h) {pc pc' : Nat} {Ls : Array Slot} {St : List Value} {a b : Int64} (hd : decode bytes pc = .ok (.lor, 1))  (hp : pc + 1 = pc') (k : Runs p e below (T.setTop (mkF m pc' Ls (.long (a ||| b) :: St))) G) : Runs p e below (T.setTop (mkF m pc Ls (.long b :: .long a :: St))) G := by
  subst hp
  exact X.step (fun _ hx hb' _ hown _ S t q => XS.lor S.here hx rfl (hb hb' hd) rfl q) k
theorem Here.lxor (X : Here p l e R s m args below meth c y bytes maxL ret Z h0 ws J T cells slots h) {pc pc' : Nat} {Ls : Array Slot} {St : List Value} {a b : Int64} (hd : decode bytes pc = .ok (.lxor, 1))  (hp : pc + 1 = pc') (k : Runs p e below (T.setTop (mkF m pc' Ls (.long (a ^^^ b) :: St))) G) : Runs p e below (T.setTop (mkF m pc Ls (.long b :: .long a :: St))) G := by
  subst hp
  exact X.step (fun _ hx hb' _ hown _ S t q => XS.lxor S.here hx rfl (hb hb' hd) rfl q) k
theorem Here.ishl (X : Here p l e R s m args below meth c y bytes maxL ret Z h0 ws J T cells slots h) {pc pc' : Nat} {Ls : Array Slot} {St : List Value} {a b : Int32} (hd : decode bytes pc = .ok (.ishl, 1))  (hp : pc + 1 = pc') (k : Runs p e below (T.setTop (mkF m pc' Ls (.int (a <<< (b &&& 31)) :: St))) G) : Runs p e below (T.setTop (mkF m pc Ls (.int b :: .int a :: St))) G := by
  subst hp
  exact X.step (fun _ hx hb' _ hown _ S t q => XS.ishl S.here hx rfl (hb hb' hd) rfl q) k
theorem Here.ishr (X : Here p l e R s m args below meth c y bytes maxL ret Z h0 ws J T cells slots h) {pc pc' : Nat} {Ls : Array Slot} {St : List Value} {a b : Int32} (hd : decode bytes pc = .ok (.ishr, 1))  (hp : pc + 1 = pc') (k : Runs p e below (T.setTop (mkF m pc' Ls (.int (a >>> (b &&& 31)) :: St))) G) : Runs p e below (T.setTop (mkF m pc Ls (.int b :: .int a :: St))) G := by
  subst hp
  exact X.step (fun _ hx hb' _ hown _ S t q => XS.ishr S.here hx rfl (hb hb' hd) rfl q) k
theorem Here.iushr (X : Here p l e R s m args below meth c y bytes maxL ret Z h0 ws J T cells slots h) {pc pc' : Nat} {Ls : Array Slot} {St : List Value} {a b : Int32} (hd : decode bytes pc = .ok (.iushr, 1))  (hp : pc + 1 = pc') (k : Runs p e below (T.setTop (mkF m pc' Ls (.int ((a.toUInt32 >>> (b &&& 31).toUInt32).toInt32) :: St))) G) : Runs p e below (T.setTop (mkF m pc Ls (.int b :: .int a :: St))) G := by
  subst hp
  exact X.step (fun _ hx hb' _ hown _ S t q => XS.iushr S.here hx rfl (hb hb' hd) rfl q) k
theorem Here.lshl (X : Here p l e R s m args below meth c y bytes maxL ret Z h0 ws J T cells slots h) {pc pc' : Nat} {Ls : Array Slot} {St : List Value} {a : Int64} {b : Int32} (hd : decode bytes pc = .ok (.lshl, 1))  (hp : pc + 1 = pc') (k : Runs p e below (T.setTop (mkF m pc' Ls (.long (a <<< (b &&& 0x3f).toInt64) :: St))) G) : Runs p e below (T.setTop (mkF m pc Ls (.int b :: .long a :: St))) G := by
  subst hp
  exact X.step (fun _ hx hb' _ hown _ S t q => XS.lshl S.here hx rfl (hb hb' hd) rfl q) k
theorem Here.lshr (X : Here p l e R s m args below meth c y bytes maxL ret Z h0 ws J T cells slots h) {pc pc' : Nat} {Ls : Array Slot} {St : List Value} {a : Int64} {b : Int32} (hd : decode bytes pc = .ok (.lshr, 1))  (hp : pc + 1 = pc') (k : Runs p e below (T.setTop (mkF m pc' Ls (.long (a >>> (b &&& 0x3f).toInt64) :: St))) G) : Runs p e below (T.setTop (mkF m pc Ls (.int b :: .long a :: St))) G := by
  subst hp
  exact X.step (fun _ hx hb' _ hown _ S t q => XS.lshr S.here hx rfl (hb hb' hd) rfl q) k
theorem Here.lushr (X : Here p l e R s m args below meth c y bytes maxL ret Z h0 ws J T cells slots h) {pc pc' : Nat} {Ls : Array Slot} {St : List Value} {a : Int64} {b : Int32} (hd : decode bytes pc = .ok (.lushr, 1))  (hp : pc + 1 = pc') (k : Runs p e below (T.setTop (mkF m pc' Ls (.long ((a.toUInt64 >>> (b &&& 0x3f).toInt64.toUInt64).toInt64) :: St))) G) : Runs p e below (T.setTop (mkF m pc Ls (.int b :: .long a :: St))) G := by
  subst hp
  exact X.step (fun _ hx hb' _ hown _ S t q => XS.lushr S.here hx rfl (hb hb' hd) rfl q) k
theorem Here.ineg (X : Here p l e R s m args below meth c y bytes maxL ret Z h0 ws J T cells slots h) {pc pc' : Nat} {Ls : Array Slot} {St : List Value} {a : Int32} (hd : decode bytes pc = .ok (.ineg, 1))  (hp : pc + 1 = pc') (k : Runs p e below (T.setTop (mkF m pc' Ls (.int (-a) :: St))) G) : Runs p e below (T.setTop (mkF m pc Ls (.int a :: St))) G := by
  subst hp
  exact X.step (fun _ hx hb' _ hown _ S t q => XS.ineg S.here hx rfl (hb hb' hd) rfl q) k
theorem Here.lneg (X : Here p l e R s m args below meth c y bytes maxL ret Z h0 ws J T cells slots h) {pc pc' : Nat} {Ls : Array Slot} {St : List Value} {a : Int64} (hd : decode bytes pc = .ok (.lneg, 1))  (hp : pc + 1 = pc') (k : Runs p e below (T.setTop (mkF m pc' Ls (.long (-a) :: St))) G) : Runs p e below (T.setTop (mkF m pc Ls (.long a :: St))) G := by
  subst hp
  exact X.step (fun _ hx hb' _ hown _ S t q => XS.lneg S.here hx rfl (hb hb' hd) rfl q) k
theorem Here.lcmp (X : Here p l e R s m args below meth c y bytes maxL ret Z h0 ws J T cells slots h) {pc pc' : Nat} {Ls : Array Slot} {St : List Value} {a b : Int64} (hd : decode bytes pc = .ok (.lcmp, 1))  (hp : pc + 1 = pc') (k : Runs p e below (T.setTop (mkF m pc' Ls (.int (lcmpW a b) :: St))) G) : Runs p e below (T.setTop (mkF m pc Ls (.long b :: .long a :: St))) G := by
  subst hp
  exact X.step (fun _ hx hb' _ hown _ S t q => XS.lcmp S.here hx rfl (hb hb' hd) rfl q) k
theorem Here.i2l (X : Here p l e R s m args below meth c y bytes maxL ret Z h0 ws J T cells slots h) {pc pc' : Nat} {Ls : Array Slot} {St : List Value} {a : Int32} (hd : decode bytes pc = .ok (.i2l, 1))  (hp : pc + 1 = pc') (k : Runs p e below (T.setTop (mkF m pc' Ls (.long a.toInt64 :: St))) G) : Runs p e below (T.setTop (mkF m pc Ls (.int a :: St))) G := by
  subst hp
  exact X.step (fun _ hx hb' _ hown _ S t q => XS.i2l S.here hx rfl (hb hb' hd) rfl q) k
theorem Here.l2i (X : Here p l e R s m args below meth c y bytes maxL ret Z h0 ws J T cells slots h) {pc pc' : Nat} {Ls : Array Slot} {St : List Value} {a : Int64} (hd : decode bytes pc = .ok (.l2i, 1))  (hp : pc + 1 = pc') (k : Runs p e below (T.setTop (mkF m pc' Ls (.int a.toInt32 :: St))) G) : Runs p e below (T.setTop (mkF m pc Ls (.long a :: St))) G := by
  subst hp
  exact X.step (fun _ hx hb' _ hown _ S t q => XS.l2i S.here hx rfl (hb hb' hd) rfl q) k
theorem Here.i2b (X : Here p l e R s m args below meth c y bytes maxL ret Z h0 ws J T cells slots h) {pc pc' : Nat} {Ls : Array Slot} {St : List Value} {a : Int32} (hd : decode bytes pc = .ok (.i2b, 1))  (hp : pc + 1 = pc') (k : Runs p e below (T.setTop (mkF m pc' Ls (.int a.toInt8.toInt32 :: St))) G) : Runs p e below (T.setTop (mkF m pc Ls (.int a :: St))) G := by
  subst hp
  exact X.step (fun _ hx hb' _ hown _ S t q => XS.i2b S.here hx rfl (hb hb' hd) rfl q) k
theorem Here.i2s (X : Here p l e R s m args below meth c y bytes maxL ret Z h0 ws J T cells slots h) {pc pc' : Nat} {Ls : Array Slot} {St : List Value} {a : Int32} (hd : decode bytes pc = .ok (.i2s, 1))  (hp : pc + 1 = pc') (k : Runs p e below (T.setTop (mkF m pc' Ls (.int a.toInt16.toInt32 :: St))) G) : Runs p e below (T.setTop (mkF m pc Ls (.int a :: St))) G := by
  subst hp
  exact X.step (fun _ hx hb' _ hown _ S t q => XS.i2s S.here hx rfl (hb hb' hd) rfl q) k
theorem Here.i2c (X : Here p l e R s m args below meth c y bytes maxL ret Z h0 ws J T cells slots h) {pc pc' : Nat} {Ls : Array Slot} {St : List Value} {a : Int32} (hd : decode bytes pc = .ok (.i2c, 1))  (hp : pc + 1 = pc') (k : Runs p e below (T.setTop (mkF m pc' Ls (.int a.toUInt32.toUInt16.toUInt32.toInt32 :: St))) G) : Runs p e below (T.setTop (mkF m pc Ls (.int a :: St))) G := by
  subst hp
  exact X.step (fun _ hx hb' _ hown _ S t q => XS.i2c S.here hx rfl (hb hb' hd) rfl q) k
theorem Here.irem (X : Here p l e R s m args below meth c y bytes maxL ret Z h0 ws J T cells slots h) {pc pc' : Nat} {Ls : Array Slot} {St : List Value} {a b : Int32} (hd : decode bytes pc = .ok (.irem, 1)) (hy : b ≠ 0) (hp : pc + 1 = pc') (k : Runs p e below (T.setTop (mkF m pc' Ls (.int (a % b) :: St))) G) : Runs p e below (T.setTop (mkF m pc Ls (.int b :: .int a :: St))) G := by
  subst hp
  exact X.step (fun _ hx hb' _ hown _ S t q => iremM S hx rfl (hb hb' hd) rfl hy q) k
theorem Here.idiv (X : Here p l e R s m args below meth c y bytes maxL ret Z h0 ws J T cells slots h) {pc pc' : Nat} {Ls : Array Slot} {St : List Value} {a b : Int32} (hd : decode bytes pc = .ok (.idiv, 1)) (hy : b ≠ 0) (hp : pc + 1 = pc') (k : Runs p e below (T.setTop (mkF m pc' Ls (.int (a / b) :: St))) G) : Runs p e below (T.setTop (mkF m pc Ls (.int b :: .int a :: St))) G := by
  subst hp
  exact X.step (fun _ hx hb' _ hown _ S t q => XS.idiv S.here hx rfl (hb hb' hd) rfl hy q) k
theorem Here.iinc (X : Here p l e R s m args below meth c y bytes maxL ret Z h0 ws J T cells slots h) {pc pc' : Nat} {Ls : Array Slot} {St : List Value} {i : Nat} {cst : Int} {v z : Int32} {l' : Array Slot} (hd : decode bytes pc = .ok (.iinc i cst, 3)) (hl : Ls[i]? = some (.val (.int v))) (hz : Int32.ofInt cst = z) (hl' : storeLocals Ls i (.int (v + z)) = some l') (hp : pc + 3 = pc') (k : Runs p e below (T.setTop (mkF m pc' l' (St))) G) : Runs p e below (T.setTop (mkF m pc Ls (St))) G := by
  subst hp
  exact X.step (fun _ hx hb' _ hown _ S t q => XS.iinc S.here hx rfl (hb hb' hd) hl (hz ▸ hl') q) k
theorem Here.dup (X : Here p l e R s m args below meth c y bytes maxL ret Z h0 ws J T cells slots h) {pc pc' : Nat} {Ls : Array Slot} {St : List Value} {v : Value} (hd : decode bytes pc = .ok (.dup, 1)) (hv : v.category = 1) (hp : pc + 1 = pc') (k : Runs p e below (T.setTop (mkF m pc' Ls (v :: v :: St))) G) : Runs p e below (T.setTop (mkF m pc Ls (v :: St))) G := by
  subst hp
  exact X.step (fun _ hx hb' _ hown _ S t q => XS.dup S.here hx rfl (hb hb' hd) rfl hv q) k
theorem Here.dupX1 (X : Here p l e R s m args below meth c y bytes maxL ret Z h0 ws J T cells slots h) {pc pc' : Nat} {Ls : Array Slot} {St : List Value} {v w : Value} (hd : decode bytes pc = .ok (.dup_x1, 1)) (hv : v.category = 1) (hw : w.category = 1) (hp : pc + 1 = pc') (k : Runs p e below (T.setTop (mkF m pc' Ls (v :: w :: v :: St))) G) : Runs p e below (T.setTop (mkF m pc Ls (v :: w :: St))) G := by
  subst hp
  exact X.step (fun _ hx hb' _ hown _ S t q => XS.dupX1 S.here hx rfl (hb hb' hd) rfl hv hw q) k
theorem Here.dup2 (X : Here p l e R s m args below meth c y bytes maxL ret Z h0 ws J T cells slots h) {pc pc' : Nat} {Ls : Array Slot} {St : List Value} {v w : Value} (hd : decode bytes pc = .ok (.dup2, 1)) (hv : v.category = 1) (hw : w.category = 1) (hp : pc + 1 = pc') (k : Runs p e below (T.setTop (mkF m pc' Ls (v :: w :: v :: w :: St))) G) : Runs p e below (T.setTop (mkF m pc Ls (v :: w :: St))) G := by
  subst hp
  exact X.step (fun _ hx hb' _ hown _ S t q => Jvm.Free.XT.dup2 S.here hx rfl (hb hb' hd) rfl hv hw q) k
theorem Here.dup2L (X : Here p l e R s m args below meth c y bytes maxL ret Z h0 ws J T cells slots h) {pc pc' : Nat} {Ls : Array Slot} {St : List Value} {v : Int64} (hd : decode bytes pc = .ok (.dup2, 1))  (hp : pc + 1 = pc') (k : Runs p e below (T.setTop (mkF m pc' Ls (.long v :: .long v :: St))) G) : Runs p e below (T.setTop (mkF m pc Ls (.long v :: St))) G := by
  subst hp
  exact X.step (fun _ hx hb' _ hown _ S t q => Jvm.Free.XT.dup2L S.here hx rfl (hb hb' hd) rfl q) k
theorem Here.pop (X : Here p l e R s m args below meth c y bytes maxL ret Z h0 ws J T cells slots h) {pc pc' : Nat} {Ls : Array Slot} {St : List Value} {v : Value} (hd : decode bytes pc = .ok (.pop, 1)) (hv : v.category = 1) (hp : pc + 1 = pc') (k : Runs p e below (T.setTop (mkF m pc' Ls (St))) G) : Runs p e below (T.setTop (mkF m pc Ls (v :: St))) G := by
  subst hp
  exact X.step (fun _ hx hb' _ hown _ S t q => XS.pop S.here hx rfl (hb hb' hd) rfl hv q) k
theorem Here.ldcInt (X : Here p l e R s m args below meth c y bytes maxL ret Z h0 ws J T cells slots h) {pc pc' : Nat} {Ls : Array Slot} {St : List Value} {i : Nat} {v : Int32} (w : (Jvm.Cond.constant y.cls i v).before a0 Z = true) (hd : decode bytes pc = .ok (.ldc i, 2)) (hp : pc + 2 = pc') (k : Runs p e below (T.setTop (mkF m pc' Ls (.int v :: St))) G) : Runs p e below (T.setTop (mkF m pc Ls St)) G := by
  subst hp
  exact X.step (fun _ hx hb' hZ hown _ S t q => S.ldcInt hx hown (mvT hZ w) (g := mkF m pc Ls St) rfl (hb hb' hd) t q) k
theorem Here.ldcwInt (X : Here p l e R s m args below meth c y bytes maxL ret Z h0 ws J T cells slots h) {pc pc' : Nat} {Ls : Array Slot} {St : List Value} {i : Nat} {v : Int32} (w : (Jvm.Cond.constant y.cls i v).before a0 Z = true) (hd : decode bytes pc = .ok (.ldc_w i, 3)) (hp : pc + 3 = pc') (k : Runs p e below (T.setTop (mkF m pc' Ls (.int v :: St))) G) : Runs p e below (T.setTop (mkF m pc Ls St)) G := by
  subst hp
  exact X.step (fun _ hx hb' hZ hown _ S t q => S.ldcwInt hx hown (mvT hZ w) (g := mkF m pc Ls St) rfl (hb hb' hd) t q) k
theorem Here.ldc2 (X : Here p l e R s m args below meth c y bytes maxL ret Z h0 ws J T cells slots h) {pc pc' : Nat} {Ls : Array Slot} {St : List Value} {i : Nat} {v : Int64} (w : (Jvm.Cond.constantLong y.cls i v).before a0 Z = true) (hd : decode bytes pc = .ok (.ldc2_w i, 3)) (hp : pc + 3 = pc') (k : Runs p e below (T.setTop (mkF m pc' Ls (.long v :: St))) G) : Runs p e below (T.setTop (mkF m pc Ls St)) G := by
  subst hp
  exact X.step (fun _ hx hb' hZ hown _ S t q => S.ldc2Long hx hown (mvT hZ w) (g := mkF m pc Ls St) rfl (hb hb' hd) t q) k
theorem Here.goto (X : Here p l e R s m args below meth c y bytes maxL ret Z h0 ws J T cells slots h) {pc pc' : Nat} {Ls : Array Slot} {St : List Value} {o : Int}  (hd : decode bytes pc = .ok (.goto o, 3))  (ho : 0 ≤ (pc : Int) + o) (hp : ((pc : Int) + o).toNat = pc') (k : Runs p e below (T.setTop (mkF m pc' Ls St)) G) : Runs p e below (T.setTop (mkF m pc Ls (St))) G := by
  exact X.step (fun _ hx hb' _ hown _ S t q => XS.goto S.here hx rfl rfl (hb hb' hd) ho hp q) k
theorem Here.ifYes (X : Here p l e R s m args below meth c y bytes maxL ret Z h0 ws J T cells slots h) {pc pc' : Nat} {Ls : Array Slot} {St : List Value} {o : Int} {cd : ClassFile.Cond} {a : Int32} (hd : decode bytes pc = .ok (.ifCond cd o, 3)) (hc : if_icmp.holds cd a 0 = true) (ho : 0 ≤ (pc : Int) + o) (hp : ((pc : Int) + o).toNat = pc') (k : Runs p e below (T.setTop (mkF m pc' Ls St)) G) : Runs p e below (T.setTop (mkF m pc Ls (.int a :: St))) G := by
  exact X.step (fun _ hx hb' _ hown _ S t q => XS.ifYes S.here hx rfl rfl (hb hb' hd) rfl ((if0 _ _).trans hc) ho hp q) k
theorem Here.icmpYes (X : Here p l e R s m args below meth c y bytes maxL ret Z h0 ws J T cells slots h) {pc pc' : Nat} {Ls : Array Slot} {St : List Value} {o : Int} {cd : ClassFile.Cond} {a b : Int32} (hd : decode bytes pc = .ok (.if_icmp cd o, 3)) (hc : if_icmp.holds cd a b = true) (ho : 0 ≤ (pc : Int) + o) (hp : ((pc : Int) + o).toNat = pc') (k : Runs p e below (T.setTop (mkF m pc' Ls St)) G) : Runs p e below (T.setTop (mkF m pc Ls (.int b :: .int a :: St))) G := by
  exact X.step (fun _ hx hb' _ hown _ S t q => XS.icmpYes S.here hx rfl rfl (hb hb' hd) rfl hc ho hp q) k
theorem Here.ifnullYes (X : Here p l e R s m args below meth c y bytes maxL ret Z h0 ws J T cells slots h) {pc pc' : Nat} {Ls : Array Slot} {St : List Value} {o : Int}  (hd : decode bytes pc = .ok (.ifnull o, 3))  (ho : 0 ≤ (pc : Int) + o) (hp : ((pc : Int) + o).toNat = pc') (k : Runs p e below (T.setTop (mkF m pc' Ls St)) G) : Runs p e below (T.setTop (mkF m pc Ls (.null :: St))) G := by
  exact X.step (fun _ hx hb' _ hown _ S t q => XS.ifnullYes S.here hx rfl rfl (hb hb' hd) rfl ho hp q) k
theorem Here.ifnonnullYes (X : Here p l e R s m args below meth c y bytes maxL ret Z h0 ws J T cells slots h) {pc pc' : Nat} {Ls : Array Slot} {St : List Value} {o : Int} {b : Addr} (hd : decode bytes pc = .ok (.ifnonnull o, 3))  (ho : 0 ≤ (pc : Int) + o) (hp : ((pc : Int) + o).toNat = pc') (k : Runs p e below (T.setTop (mkF m pc' Ls St)) G) : Runs p e below (T.setTop (mkF m pc Ls (.ref b :: St))) G := by
  exact X.step (fun _ hx hb' _ hown _ S t q => XS.ifnonnullYes S.here hx rfl rfl (hb hb' hd) rfl ho hp q) k
theorem Here.ifNo (X : Here p l e R s m args below meth c y bytes maxL ret Z h0 ws J T cells slots h) {pc pc' : Nat} {Ls : Array Slot} {St : List Value} {o : Int} {cd : ClassFile.Cond} {a : Int32} (hd : decode bytes pc = .ok (.ifCond cd o, 3)) (hc : if_icmp.holds cd a 0 = false) (hp : pc + 3 = pc') (k : Runs p e below (T.setTop (mkF m pc' Ls (St))) G) : Runs p e below (T.setTop (mkF m pc Ls (.int a :: St))) G := by
  subst hp
  exact X.step (fun _ hx hb' _ hown _ S t q => XS.ifNo S.here hx rfl (hb hb' hd) rfl ((if0 _ _).trans hc) q) k
theorem Here.icmpNo (X : Here p l e R s m args below meth c y bytes maxL ret Z h0 ws J T cells slots h) {pc pc' : Nat} {Ls : Array Slot} {St : List Value} {o : Int} {cd : ClassFile.Cond} {a b : Int32} (hd : decode bytes pc = .ok (.if_icmp cd o, 3)) (hc : if_icmp.holds cd a b = false) (hp : pc + 3 = pc') (k : Runs p e below (T.setTop (mkF m pc' Ls (St))) G) : Runs p e below (T.setTop (mkF m pc Ls (.int b :: .int a :: St))) G := by
  subst hp
  exact X.step (fun _ hx hb' _ hown _ S t q => XS.icmpNo S.here hx rfl (hb hb' hd) rfl hc q) k
theorem Here.ifnullNo (X : Here p l e R s m args below meth c y bytes maxL ret Z h0 ws J T cells slots h) {pc pc' : Nat} {Ls : Array Slot} {St : List Value} {o : Int} {b : Addr} (hd : decode bytes pc = .ok (.ifnull o, 3))  (hp : pc + 3 = pc') (k : Runs p e below (T.setTop (mkF m pc' Ls (St))) G) : Runs p e below (T.setTop (mkF m pc Ls (.ref b :: St))) G := by
  subst hp
  exact X.step (fun _ hx hb' _ hown _ S t q => XS.ifnullNo S.here hx rfl (hb hb' hd) rfl q) k
theorem Here.ifnonnullNo (X : Here p l e R s m args below meth c y bytes maxL ret Z h0 ws J T cells slots h) {pc pc' : Nat} {Ls : Array Slot} {St : List Value} {o : Int} (hd : decode bytes pc = .ok (.ifnonnull o, 3))  (hp : pc + 3 = pc') (k : Runs p e below (T.setTop (mkF m pc' Ls (St))) G) : Runs p e below (T.setTop (mkF m pc Ls (.null :: St))) G := by
  subst hp
  exact X.step (fun _ hx hb' _ hown _ S t q => XS.ifnonnullNo S.here hx rfl (hb hb' hd) rfl q) k
theorem Here.acmp (X : Here p l e R s m args below meth c y bytes maxL ret Z h0 ws J T cells slots h) {pc pc' : Nat} {Ls : Array Slot} {St : List Value} {o : Int} {cd : ACond} {u v : Value} {same : Bool} (hd : decode bytes pc = .ok (.if_acmp cd o, 3)) (hu : u.isRef = true) (hv : v.isRef = true) (hq : decide (u = v) = same) (ho : 0 ≤ (pc : Int) + o) (hp : pc' = if acV cd same = true then ((pc : Int) + o).toNat else pc + 3) (k : Runs p e below (T.setTop (mkF m pc' Ls St)) G) : Runs p e below (T.setTop (mkF m pc Ls (v :: u :: St))) G := by
  exact X.step (fun _ hx hb' _ hown _ S t q => Jvm.RoadKit.acmp (g := mkF m pc Ls (v :: u :: St)) S hx rfl hu hv rfl (hb hb' hd) rfl hq ho hp q) k
theorem Here.getfield (X : Here p l e R s m args below meth c y bytes maxL ret Z h0 ws J T cells slots h) {pc pc' : Nat} {Ls : Array Slot} {St : List Value} {R0 O n d host : String} {i : Nat} {a : Addr} {v : Value} (w : (Jvm.Cond.fieldLink y.cls i R0 n d).before a0 Z = true ∨ (Jvm.Cond.fieldLinkNest y.cls i R0 n d host).before a0 Z = true) (via : Via Z R0 O n d) (F : Fld Z h a O n d v) (hd : decode bytes pc = .ok (.getfield i, 3)) (hp : pc + 3 = pc')
    (k : ∀ T', Here p l e R s m args below meth c y bytes maxL ret Z h0 ws J T' cells slots h → Runs p e below (T'.setTop (mkF m pc' Ls (v :: St))) G) : Runs p e below (T.setTop (mkF m pc Ls (.ref a :: St))) G := by
  subst hp
  exact X.stepT (fun _ hx hb' _ hZ hown eT S => getF S hx hZ hown w via eT F (g := mkF m pc Ls (.ref a :: St)) rfl rfl (hb hb' hd)) k
theorem Here.getstatic (X : Here p l e R s m args below meth c y bytes maxL ret Z h0 ws J T cells slots h) {pc pc' : Nat} {Ls : Array Slot} {St : List Value} {R0 O n d host : String} {i : Nat} {v : Value} (w : (Jvm.Cond.fieldLink y.cls i R0 n d).before a0 Z = true ∨ (Jvm.Cond.fieldLinkNest y.cls i R0 n d host).before a0 Z = true) (via : Via Z R0 O n d) (F : Sta Z h O n d v) (hd : decode bytes pc = .ok (.getstatic i, 3)) (hp : pc + 3 = pc')
    (k : ∀ T', Here p l e R s m args below meth c y bytes maxL ret Z h0 ws J T' cells slots h → Runs p e below (T'.setTop (mkF m pc' Ls (v :: St))) G) : Runs p e below (T.setTop (mkF m pc Ls St)) G := by
  subst hp
  exact X.stepT (fun _ hx hb' _ hZ hown eT S => getS2 S hx hZ hown w via eT F (g := mkF m pc Ls St) rfl (hb hb' hd)) k
theorem Here.putfield (X : Here p l e R s m args below meth c y bytes maxL ret Z h0 ws J T cells slots h) {pc pc' : Nat} {Ls : Array Slot} {St : List Value} {R0 O n d host C : String} {i kk : Nat} {ty : FieldType} {a : Addr} {v old : Value} (w : (Jvm.Cond.fieldLink y.cls i R0 n d).before a0 Z = true ∨ (Jvm.Cond.fieldLinkNest y.cls i R0 n d host).before a0 Z = true) (via : Via Z R0 O n d) (F : Fld Z h a O n d old) (E : Exa Z h a C)
    (L : (Jvm.Cond.lays C O n d).before a0 Z = true ∨ ((Jvm.Cond.laysFinal C O n d).before a0 Z = true ∧ y.cls = O ∧ y.name = "<init>")) (wi : (Jvm.Cond.instantiable C kk).before a0 Z = true) (hty : parseFieldDescriptor d = some ty) (hn : narrow ty v = v) (hf : fits ty v = true) (hd : decode bytes pc = .ok (.putfield i, 3)) (hp : pc + 3 = pc') (hws : a ∈ ws ∨ h0.size ≤ a)
    (k : ∀ T' h', Here p l e R s m args below meth c y bytes maxL ret Z h0 ws J T' cells slots h' → Wr h h' a (Jvm.RoadKit.slotOf Z O n d) v → Runs p e below (T'.setTop (mkF m pc' Ls St)) G) : Runs p e below (T.setTop (mkF m pc Ls (v :: .ref a :: St))) G := by
  subst hp
  exact X.stepW hws (fun _ hx hb' hnm hZ hown eT S => putF S hx hZ hown w via eT F E (L.imp id fun q => ⟨q.1, q.2.1, hnm.trans q.2.2⟩) wi hty hn hf (g := mkF m pc Ls (v :: .ref a :: St)) rfl rfl (hb hb' hd)) k
theorem Here.putfieldN (X : Here p l e R s m args below meth c y bytes maxL ret Z h0 ws J T cells slots h) {pc pc' : Nat} {Ls : Array Slot} {St : List Value} {R0 O n d C : String} {i kk : Nat} {ty : FieldType} {a : Addr} {v v' old : Value} (w : (Jvm.Cond.fieldLink y.cls i R0 n d).before a0 Z = true) (via : Via Z R0 O n d) (F : Fld Z h a O n d old) (E : Exa Z h a C)
    (L : (Jvm.Cond.lays C O n d).before a0 Z = true ∨ ((Jvm.Cond.laysFinal C O n d).before a0 Z = true ∧ y.cls = O ∧ y.name = "<init>")) (wi : (Jvm.Cond.instantiable C kk).before a0 Z = true) (hty : parseFieldDescriptor d = some ty) (hn : narrow ty v = v') (hf : fits ty v' = true) (hd : decode bytes pc = .ok (.putfield i, 3)) (hp : pc + 3 = pc') (hws : a ∈ ws ∨ h0.size ≤ a)
    (k : ∀ T' h', Here p l e R s m args below meth c y bytes maxL ret Z h0 ws J T' cells slots h' → Wr h h' a (Jvm.RoadKit.slotOf Z O n d) v' → Runs p e below (T'.setTop (mkF m pc' Ls St)) G) : Runs p e below (T.setTop (mkF m pc Ls (v :: .ref a :: St))) G := by
  subst hp
  exact X.stepW hws (fun _ hx hb' hnm hZ hown eT S => putFN S hx hZ hown w via eT F E (L.imp id fun q => ⟨q.1, q.2.1, hnm.trans q.2.2⟩) wi hty hn hf (g := mkF m pc Ls (v :: .ref a :: St)) rfl rfl (hb hb' hd)) k
theorem Here.new (X : Here p l e R s m args below meth c y bytes maxL ret Z h0 ws J T cells slots h) {pc pc' : Nat} {Ls : Array Slot} {St : List Value} {C : String} {i n : Nat} (w : (Jvm.Cond.classLink y.cls i C).before a0 Z = true) (wi : (Jvm.Cond.instantiable C n).before a0 Z = true) (wz : (Jvm.Cond.initialized C).before a0 Z = true) (hd : decode bytes pc = .ok (.new i, 3)) (hp : pc + 3 = pc') (hc : cells + 1 ≤ R.cells) (hl : slots + n ≤ R.slots)
    (k : ∀ T' h' b, Here p l e R s m args below meth c y bytes maxL ret Z h0 ws J T' (cells + 1) (slots + n) h' → b = h.size → Ext h h' → Exa Z h' b C → (∀ {O nm d : String} {ty : FieldType}, Laid Z a0 C O nm d → parseFieldDescriptor d = some ty → Fld Z h' b O nm d (defaultValue ty)) → Runs p e below (T'.setTop (mkF m pc' Ls (.ref b :: St))) G) : Runs p e below (T.setTop (mkF m pc Ls St)) G := by
  subst hp
  obtain ⟨vm0, k0, ⟨j1, j2, j3, j4, j5⟩, ⟨x1, x2, x3, x4, x5, x6, x7, x8⟩, x9, x10, locs, S, N⟩ := X
  obtain ⟨T', h', S', e', E, A, D, -, st⟩ := newO S x1 x2 x5 w wi wz x9 (g := mkF m pc Ls St) rfl (hb x3 hd) hc hl
  exact (k T' h' _ ⟨vm0, k0, ⟨j1, Nat.le_trans j2 E.1, j3, j4, j5⟩, ⟨x1, x2, x3, x4, x5, x6, x7, x8⟩, e', x10.ext E, _, S', N⟩ rfl E A D).of st
theorem Here.initObj (X : Here p l e R s m args below meth c y bytes maxL ret Z h0 ws J T cells slots h) {pc pc' : Nat} {Ls : Array Slot} {St : List Value} {i : Nat} {a : Addr} (w1 : (Jvm.Cond.methodLink y.cls i Lib.objectInit).before a0 Z = true) (w2 : (Jvm.Cond.instanceMethod Lib.objectInit).before a0 Z = true) (w3 : (Jvm.Cond.code Lib.objectInit ⟨#[0xb1]⟩ 1 none).before a0 Z = true) (hsz : Ls.size = maxL) (hd : decode bytes pc = .ok (.invokespecial i, 3)) (hp : pc + 3 = pc') (hf : 1 ≤ R.frames) {W : Nat} (hW : (St.map fun v => v.category).sum = W) (hl : W + 12 ≤ R.locals)
    (k : ∀ T', Here p l e R s m args below meth c y bytes maxL ret Z h0 ws J T' cells slots h → Runs p e below (T'.setTop (mkF m pc' Ls St)) G) : Runs p e below (T.setTop (mkF m pc Ls (.ref a :: St))) G := by
  subst hp
  exact X.stepT (fun _ hx hb' hml hZ hown eT S => initO S hx hZ hown w1 w2 w3 eT (g := mkF m pc Ls (.ref a :: St)) rfl (hsz.trans hml.symm) rfl (hb hb' hd) hf (W := W) (by show 2 * 0 + _ ≤ _; rw [hW]; omega) hl) k
theorem Here.castYes (X : Here p l e R s m args below meth c y bytes maxL ret Z h0 ws J T cells slots h) {pc pc' : Nat} {Ls : Array Slot} {St : List Value} {K : String} {i : Nat} {a : Addr} (w : (Jvm.Cond.classLink y.cls i K).before a0 Z = true) (F : Jvm.RoadKit.Ins Z h a K true) (hd : decode bytes pc = .ok (.checkcast i, 3)) (hp : pc + 3 = pc')
    (k : ∀ T', Here p l e R s m args below meth c y bytes maxL ret Z h0 ws J T' cells slots h → Runs p e below (T'.setTop (mkF m pc' Ls (.ref a :: St))) G) : Runs p e below (T.setTop (mkF m pc Ls (.ref a :: St))) G := by
  subst hp
  exact X.stepT (fun _ hx hb' _ hZ hown eT S => castY S hx hZ hown w eT F (g := mkF m pc Ls (.ref a :: St)) rfl rfl (hb hb' hd)) k
theorem Here.instYes (X : Here p l e R s m args below meth c y bytes maxL ret Z h0 ws J T cells slots h) {pc pc' : Nat} {Ls : Array Slot} {St : List Value} {K : String} {i : Nat} {a : Addr} (w : (Jvm.Cond.classLink y.cls i K).before a0 Z = true) (F : Jvm.RoadKit.Ins Z h a K true) (hd : decode bytes pc = .ok (.instanceof i, 3)) (hp : pc + 3 = pc')
    (k : ∀ T', Here p l e R s m args below meth c y bytes maxL ret Z h0 ws J T' cells slots h → Runs p e below (T'.setTop (mkF m pc' Ls (.int (1 : Int32) :: St))) G) : Runs p e below (T.setTop (mkF m pc Ls (.ref a :: St))) G := by
  subst hp
  exact X.stepT (fun _ hx hb' _ hZ hown eT S => instY S hx hZ hown w eT F (g := mkF m pc Ls (.ref a :: St)) rfl rfl (hb hb' hd)) k
theorem Here.instNo (X : Here p l e R s m args below meth c y bytes maxL ret Z h0 ws J T cells slots h) {pc pc' : Nat} {Ls : Array Slot} {St : List Value} {C K : String} {i : Nat} {a : Addr} (w : (Jvm.Cond.classLink y.cls i K).before a0 Z = true) (E : Exa Z h a C) (F : ∃ c t, Z.vm.findClass C = some c ∧ Z.vm.findClass K = some t ∧ Z.vm.assignable c t = false) (hd : decode bytes pc = .ok (.instanceof i, 3)) (hp : pc + 3 = pc')
    (k : ∀ T', Here p l e R s m args below meth c y bytes maxL ret Z h0 ws J T' cells slots h → Runs p e below (T'.setTop (mkF m pc' Ls (.int (0 : Int32) :: St))) G) : Runs p e below (T.setTop (mkF m pc Ls (.ref a :: St))) G := by
  subst hp
  exact X.stepT (fun _ hx hb' _ hZ hown eT S => Jvm.RoadKit.instNo S hx hZ hown w eT E F (g := mkF m pc Ls (.ref a :: St)) rfl rfl (hb hb' hd)) k
theorem Here.checkcastNull (X : Here p l e R s m args below meth c y bytes maxL ret Z h0 ws J T cells slots h) {pc pc' : Nat} {Ls : Array Slot} {St : List Value} {i : Nat} (hd : decode bytes pc = .ok (.checkcast i, 3)) (hp : pc + 3 = pc') (k : Runs p e below (T.setTop (mkF m pc' Ls (.null :: St))) G) : Runs p e below (T.setTop (mkF m pc Ls (.null :: St))) G := by
  subst hp
  exact X.step (fun _ hx hb' _ _ _ S t q => S.checkcastNull hx (g := mkF m pc Ls (.null :: St)) rfl rfl (hb hb' hd) t q) k
theorem Here.instanceofNull (X : Here p l e R s m args below meth c y bytes maxL ret Z h0 ws J T cells slots h) {pc pc' : Nat} {Ls : Array Slot} {St : List Value} {i : Nat} (hd : decode bytes pc = .ok (.instanceof i, 3)) (hp : pc + 3 = pc') (k : Runs p e below (T.setTop (mkF m pc' Ls (.int (0 : Int32) :: St))) G) : Runs p e below (T.setTop (mkF m pc Ls (.null :: St))) G := by
  subst hp
  exact X.step (fun _ hx hb' _ _ _ S t q => S.instanceofNull hx (g := mkF m pc Ls (.null :: St)) rfl rfl (hb hb' hd) t q) k
theorem Here.aaload (X : Here p l e R s m args below meth c y bytes maxL ret Z h0 ws J T cells slots h) {pc pc' : Nat} {Ls : Array Slot} {St : List Value} {a : Addr} {cl : Cell} {ty : FieldType} {j : Int32} {v : Value} (A : Arr Z h a cl ty) (hty : ty.isReference = true) (hj : ¬ (j < 0 ∨ cl.slots.size ≤ j.toNatClampNeg)) (hv : cl.slots[j.toNatClampNeg]? = some v) (hd : decode bytes pc = .ok (.aaload, 1)) (hp : pc + 1 = pc')
    (k : Runs p e below (T.setTop (mkF m pc' Ls (v :: St))) G) : Runs p e below (T.setTop (mkF m pc Ls (.int j :: .ref a :: St))) G := by
  subst hp
  exact X.step (fun _ hx hb' hZ _ eT S t q => S.aaload hx (j := j) (v := v) (by rw [eT]; exact A.1) (State.isArrayOf_alike hZ.alike A.2.1) hty A.2.2 hj hv (g := mkF m pc Ls (.int j :: .ref a :: St)) rfl rfl (hb hb' hd) t q) k
theorem sta_keep0 {C n d : String} {v : Value} {h' : Heap} (F : Sta Z h C n d v) (K : Keep h h' []) : Sta Z h' C n d v := by
  obtain ⟨cf, i, k, f, st, cell, h1, h2, h3, h4, h5, r⟩ := F
  exact ⟨cf, i, k, f, st, cell, h1, h2, h3, h4, K.2.1 _ _ h5 nin0, r⟩
theorem arr_keep0 {a : Addr} {cl : Cell} {ty : FieldType} {h' : Heap} (F : Arr Z h a cl ty) (K : Keep h h' []) : Arr Z h' a cl ty := ⟨K.2.1 _ _ F.1 nin0, F.2⟩
theorem allWs0 {P : Addr → Prop} : ∀ x ∈ ([] : List Addr), P x := fun _ q => nomatch q
/-! arrays: the list of their values -/
/-- the array at a holds just these values -/
def Lst (Z : State) (h : Heap) (a : Addr) (ty : FieldType) (vs : List Value) : Prop := ∃ cl : Cell, Arr Z h a cl ty ∧ cl.slots = vs.toArray ∧ vs.length < 2 ^ 31
section L
variable {a b : Addr} {ty : FieldType} {vs : List Value} {h' : Heap} {sl : Nat} {v : Value} {ws' : List Addr} {C' : String}
theorem Lst.lt (F : Lst Z h a ty vs) : a < h.size := by obtain ⟨c, A, -⟩ := F; exact A.lt
theorem Lst.len (F : Lst Z h a ty vs) : vs.length < 2 ^ 31 := by obtain ⟨c, A, -, q⟩ := F; exact q
theorem Lst.ext (F : Lst Z h a ty vs) (E : Ext h h') : Lst Z h' a ty vs := by obtain ⟨c, A, r⟩ := F; exact ⟨c, A.ext E, r⟩
theorem Lst.other (F : Lst Z h b ty vs) (W : Wr h h' a sl v) (q : b ≠ a) : Lst Z h' b ty vs := by obtain ⟨c, A, r⟩ := F; exact ⟨c, A.other W q, r⟩
theorem Lst.keep (F : Lst Z h a ty vs) (K : Keep h h' ws') (q : a ∉ ws') : Lst Z h' a ty vs := by obtain ⟨c, A, r⟩ := F; exact ⟨c, ⟨K.2.1 a c A.1 q, A.2⟩, r⟩
theorem Lst.set (F : Lst Z h a ty vs) (W : Wr h h' a sl v) : Lst Z h' a ty (vs.set sl v) := by
  obtain ⟨c, A, r, q⟩ := F
  exact ⟨_, A.same W, by simp [Cell.setSlot, r], by simpa using q⟩
theorem Lst.ne (F : Lst Z h a ty vs) (wi : (Jvm.Cond.instantiable C' sl).before a0 Z = true) (G : Exa Z h b C') : b ≠ a := by obtain ⟨c, A, -⟩ := F; exact ne_arr G wi A
end L
/-- the place j lies inside a list -/
def Inb (j : Int32) (n : Nat) : Prop := 0 ≤ j.toInt ∧ j.toInt < (n : Int)
theorem nat_of_ins {j : Int32} {n : Nat} (q : Inb j n) : j.toNatClampNeg = j.toInt.toNat ∧ j.toInt.toNat < n ∧ ¬ j < 0 := by
  obtain ⟨q1, q2⟩ := q
  refine ⟨rfl, by omega, fun z => ?_⟩
  have : j.toInt < (0 : Int32).toInt := Int32.lt_iff_toInt_lt.mp z
  simp at this; omega
theorem in_of_ins {cl : Cell} {vs : List Value} {j : Int32} (r : cl.slots = vs.toArray) (q : Inb j vs.length) : ¬ (j < 0 ∨ cl.slots.size ≤ j.toNatClampNeg) := by
  obtain ⟨q1, q2, q3⟩ := nat_of_ins q
  rw [q1, r]; simp only [List.size_toArray]; intro z; rcases z with z | z
  · exact q3 z
  · omega
theorem at_of_ins {cl : Cell} {vs : List Value} {j : Int32} {v : Value} (r : cl.slots = vs.toArray) (hv : vs[j.toInt.toNat]? = some v) : cl.slots[j.toNatClampNeg]? = some v := by
  rw [r]; exact (by simpa using hv : vs.toArray[j.toInt.toNat]? = some v)
theorem Here.newarray (X : Here p l e R s m args below meth c y bytes maxL ret Z h0 ws J T cells slots h) {pc pc' : Nat} {Ls : Array Slot} {St : List Value} {aty : ArrayType} {ty : FieldType} {n : Int32} (hty : newarray.typeOf aty = ty) (w : (Jvm.Cond.arrayClass ty).before a0 Z = true) (hd : decode bytes pc = .ok (.newarray aty, 2)) (hp : pc + 2 = pc') {cap : Nat} (hn : Inb n (cap + 1)) (hb8 : cap * 8 ≤ 536870912) (hc : cells + 1 ≤ R.cells) (hl : slots + cap ≤ R.slots)
    (k : ∀ T' h' b, Here p l e R s m args below meth c y bytes maxL ret Z h0 ws J T' (cells + 1) (slots + cap) h' → b = h.size → Ext h h' → Lst Z h' b ty (List.replicate n.toInt.toNat (defaultValue ty)) → Runs p e below (T'.setTop (mkF m pc' Ls (.ref b :: St))) G) : Runs p e below (T.setTop (mkF m pc Ls (.int n :: St))) G := by
  subst hp; subst hty
  obtain ⟨n1, n2, n3⟩ := nat_of_ins hn
  obtain ⟨vm0, k0, ⟨j1, j2, j3, j4, j5⟩, ⟨x1, x2, x3, x4, x5, x6, x7, x8⟩, x9, x10, locs, S, N⟩ := X
  obtain ⟨T', h', cA, S', e', E, A, st⟩ := newP S x1 x2 w x9 (g := mkF m pc Ls (.int n :: St)) rfl (hb x3 hd) rfl n3 (cap := cap) (by rw [n1]; omega) hb8 hc hl
  exact (k T' h' _ ⟨vm0, k0, ⟨j1, Nat.le_trans j2 E.1, j3, j4, j5⟩, ⟨x1, x2, x3, x4, x5, x6, x7, x8⟩, e', x10.ext E, _, S', N⟩ rfl E ⟨_, A, by show Array.replicate n.toNatClampNeg _ = _; rw [n1, List.toArray_replicate], by rw [List.length_replicate]; omega⟩).of st
theorem Here.arraylength (X : Here p l e R s m args below meth c y bytes maxL ret Z h0 ws J T cells slots h) {pc pc' : Nat} {Ls : Array Slot} {St : List Value} {a : Addr} {ty : FieldType} {vs : List Value} {n : Int32} (F : Lst Z h a ty vs) (hn : vs.length.toInt32 = n) (hd : decode bytes pc = .ok (.arraylength, 1)) (hp : pc + 1 = pc')
    (k : Runs p e below (T.setTop (mkF m pc' Ls (.int n :: St))) G) : Runs p e below (T.setTop (mkF m pc Ls (.ref a :: St))) G := by
  subst hp
  obtain ⟨cl, A, r, -⟩ := F
  exact X.step (fun _ hx hb' hZ _ eT S t q => S.arraylength hx (by rw [eT]; exact A.1) (State.isArrayOf_alike hZ.alike A.2.1) (g := mkF m pc Ls (.ref a :: St)) rfl rfl (hb hb' hd) t (by rw [r, List.size_toArray, hn]; exact q)) k
theorem Here.iaload (X : Here p l e R s m args below meth c y bytes maxL ret Z h0 ws J T cells slots h) {pc pc' : Nat} {Ls : Array Slot} {St : List Value} {a : Addr} {vs : List Value} {j : Int32} {v : Value} (F : Lst Z h a .int vs) (hj : Inb j vs.length) (hv : vs[j.toInt.toNat]? = some v) (hd : decode bytes pc = .ok (.iaload, 1)) (hp : pc + 1 = pc')
    (k : Runs p e below (T.setTop (mkF m pc' Ls (v :: St))) G) : Runs p e below (T.setTop (mkF m pc Ls (.int j :: .ref a :: St))) G := by
  subst hp
  obtain ⟨cl, A, r, -⟩ := F
  exact X.step (fun _ hx hb' hZ _ eT S t q => S.iaload hx (j := j) (v := v) (by rw [eT]; exact A.1) (State.isArrayOf_alike hZ.alike A.2.1) A.2.2 (in_of_ins r hj) (at_of_ins r hv) (g := mkF m pc Ls (.int j :: .ref a :: St)) rfl rfl (hb hb' hd) t q) k
theorem Here.laload (X : Here p l e R s m args below meth c y bytes maxL ret Z h0 ws J T cells slots h) {pc pc' : Nat} {Ls : Array Slot} {St : List Value} {a : Addr} {vs : List Value} {j : Int32} {v : Value} (F : Lst Z h a .long vs) (hj : Inb j vs.length) (hv : vs[j.toInt.toNat]? = some v) (hd : decode bytes pc = .ok (.laload, 1)) (hp : pc + 1 = pc')
    (k : Runs p e below (T.setTop (mkF m pc' Ls (v :: St))) G) : Runs p e below (T.setTop (mkF m pc Ls (.int j :: .ref a :: St))) G := by
  subst hp
  obtain ⟨cl, A, r, -⟩ := F
  exact X.step (fun _ hx hb' hZ _ eT S t q => S.laload hx (j := j) (v := v) (by rw [eT]; exact A.1) (State.isArrayOf_alike hZ.alike A.2.1) A.2.2 (in_of_ins r hj) (at_of_ins r hv) (g := mkF m pc Ls (.int j :: .ref a :: St)) rfl rfl (hb hb' hd) t q) k
theorem Here.caload (X : Here p l e R s m args below meth c y bytes maxL ret Z h0 ws J T cells slots h) {pc pc' : Nat} {Ls : Array Slot} {St : List Value} {a : Addr} {vs : List Value} {j : Int32} {v : Value} (F : Lst Z h a .char vs) (hj : Inb j vs.length) (hv : vs[j.toInt.toNat]? = some v) (hd : decode bytes pc = .ok (.caload, 1)) (hp : pc + 1 = pc')
    (k : Runs p e below (T.setTop (mkF m pc' Ls (v :: St))) G) : Runs p e below (T.setTop (mkF m pc Ls (.int j :: .ref a :: St))) G := by
  subst hp
  obtain ⟨cl, A, r, -⟩ := F
  exact X.step (fun _ hx hb' hZ _ eT S t q => S.caload hx (j := j) (v := v) (by rw [eT]; exact A.1) (State.isArrayOf_alike hZ.alike A.2.1) A.2.2 (in_of_ins r hj) (at_of_ins r hv) (g := mkF m pc Ls (.int j :: .ref a :: St)) rfl rfl (hb hb' hd) t q) k
theorem Here.baload (X : Here p l e R s m args below meth c y bytes maxL ret Z h0 ws J T cells slots h) {pc pc' : Nat} {Ls : Array Slot} {St : List Value} {a : Addr} {vs : List Value} {j : Int32} {v : Value} (F : Lst Z h a .byte vs) (hj : Inb j vs.length) (hv : vs[j.toInt.toNat]? = some v) (hd : decode bytes pc = .ok (.baload, 1)) (hp : pc + 1 = pc')
    (k : Runs p e below (T.setTop (mkF m pc' Ls (v :: St))) G) : Runs p e below (T.setTop (mkF m pc Ls (.int j :: .ref a :: St))) G := by
  subst hp
  obtain ⟨cl, A, r, -⟩ := F
  exact X.step (fun _ hx hb' hZ _ eT S t q => S.baloadBytes hx (j := j) (v := v) (by rw [eT]; exact A.1) (State.isArrayOf_alike hZ.alike A.2.1) A.2.2 (in_of_ins r hj) (at_of_ins r hv) (g := mkF m pc Ls (.int j :: .ref a :: St)) rfl rfl (hb hb' hd) t q) k
theorem Here.iastore (X : Here p l e R s m args below meth c y bytes maxL ret Z h0 ws J T cells slots h) {pc pc' : Nat} {Ls : Array Slot} {St : List Value} {a : Addr} {vs : List Value} {j : Int32} {x : Int32} (F : Lst Z h a .int vs) (hj : Inb j vs.length) (hd : decode bytes pc = .ok (.iastore, 1)) (hp : pc + 1 = pc') (hws : a ∈ ws ∨ h0.size ≤ a)
    (k : ∀ T' h', Here p l e R s m args below meth c y bytes maxL ret Z h0 ws J T' cells slots h' → Wr h h' a j.toInt.toNat (.int x) → Runs p e below (T'.setTop (mkF m pc' Ls St)) G) : Runs p e below (T.setTop (mkF m pc Ls (.int x :: .int j :: .ref a :: St))) G := by
  subst hp
  obtain ⟨cl, A, r, -⟩ := F
  exact X.stepW hws (fun _ hx hb' _ hZ _ eT S => stI S hx hZ eT A (j := j) (in_of_ins r hj) (g := mkF m pc Ls (.int x :: .int j :: .ref a :: St)) rfl rfl (hb hb' hd)) k
theorem Here.lastore (X : Here p l e R s m args below meth c y bytes maxL ret Z h0 ws J T cells slots h) {pc pc' : Nat} {Ls : Array Slot} {St : List Value} {a : Addr} {vs : List Value} {j : Int32} {x : Int64} (F : Lst Z h a .long vs) (hj : Inb j vs.length) (hd : decode bytes pc = .ok (.lastore, 1)) (hp : pc + 1 = pc') (hws : a ∈ ws ∨ h0.size ≤ a)
    (k : ∀ T' h', Here p l e R s m args below meth c y bytes maxL ret Z h0 ws J T' cells slots h' → Wr h h' a j.toInt.toNat (.long x) → Runs p e below (T'.setTop (mkF m pc' Ls St)) G) : Runs p e below (T.setTop (mkF m pc Ls (.long x :: .int j :: .ref a :: St))) G := by
  subst hp
  obtain ⟨cl, A, r, -⟩ := F
  exact X.stepW hws (fun _ hx hb' _ hZ _ eT S => stJ S hx hZ eT A (j := j) (in_of_ins r hj) (g := mkF m pc Ls (.long x :: .int j :: .ref a :: St)) rfl rfl (hb hb' hd)) k
theorem Here.castore (X : Here p l e R s m args below meth c y bytes maxL ret Z h0 ws J T cells slots h) {pc pc' : Nat} {Ls : Array Slot} {St : List Value} {a : Addr} {vs : List Value} {j : Int32} {x : Int32} (F : Lst Z h a .char vs) (hj : Inb j vs.length) (hd : decode bytes pc = .ok (.castore, 1)) (hp : pc + 1 = pc') (hws : a ∈ ws ∨ h0.size ≤ a)
    (k : ∀ T' h', Here p l e R s m args below meth c y bytes maxL ret Z h0 ws J T' cells slots h' → Wr h h' a j.toInt.toNat (.int (nar .char x)) → Runs p e below (T'.setTop (mkF m pc' Ls St)) G) : Runs p e below (T.setTop (mkF m pc Ls (.int x :: .int j :: .ref a :: St))) G := by
  subst hp
  obtain ⟨cl, A, r, -⟩ := F
  exact X.stepW hws (fun _ hx hb' _ hZ _ eT S => stC S hx hZ eT A (j := j) (in_of_ins r hj) (g := mkF m pc Ls (.int x :: .int j :: .ref a :: St)) rfl rfl (hb hb' hd)) k
theorem Here.bastore (X : Here p l e R s m args below meth c y bytes maxL ret Z h0 ws J T cells slots h) {pc pc' : Nat} {Ls : Array Slot} {St : List Value} {a : Addr} {vs : List Value} {j : Int32} {x : Int32} (F : Lst Z h a .byte vs) (hj : Inb j vs.length) (hd : decode bytes pc = .ok (.bastore, 1)) (hp : pc + 1 = pc') (hws : a ∈ ws ∨ h0.size ≤ a)
    (k : ∀ T' h', Here p l e R s m args below meth c y bytes maxL ret Z h0 ws J T' cells slots h' → Wr h h' a j.toInt.toNat (.int x.toInt8.toInt32) → Runs p e below (T'.setTop (mkF m pc' Ls St)) G) : Runs p e below (T.setTop (mkF m pc Ls (.int x :: .int j :: .ref a :: St))) G := by
  subst hp
  obtain ⟨cl, A, r, -⟩ := F
  exact X.stepW hws (fun _ hx hb' _ hZ _ eT S => stB S hx hZ eT A (j := j) (in_of_ins r hj) (g := mkF m pc Ls (.int x :: .int j :: .ref a :: St)) rfl rfl (hb hb' hd)) k
/-! calls by a contract -/
variable {y' : MethodName} {bytes' : ByteArray} {maxL' : Nat} {ret' : Option FieldType} {rm : Room} {as : Array Value} {ws' : List Addr} {Q : Option Value → Heap → Prop}
theorem backCt (hZ : Z.Warmed39 s.vm) (hj : J s.vm) {len W : Nat} (hM : Ct l Z y' bytes' maxL' ret' rm as h ws' J J' Q) (wc : (Jvm.Cond.code y' bytes' maxL' ret').before a0 Z = true) (wz : (Jvm.Cond.initialized y'.cls).before a0 Z = true) (hf : rm.frames + 1 ≤ R.frames) (hl : W + (maxL' + 11) + rm.locals ≤ R.locals) :
    BackS l R p e below s args y' len W (fun A a => a = as ∧ A.U.heap = h ∧ A.cells + rm.cells ≤ R.cells ∧ A.slots + rm.slots ≤ R.slots)
      (fun A _ v B => ∃ L, ((Q v B.U.heap ∧ J' B.U.vm) ∧ Keep h B.U.heap ws' ∧ Wrote h ws' L) ∧ B.locs = A.locs ++ L ∧ B.cells = A.cells + rm.cells ∧ B.slots = A.slots + rm.slots) :=
  BackS.of_freeW (bytes := bytes') (maxL := maxL') (ret := ret') (E := fun _ _ o t L k n => k = rm.cells ∧ n = rm.slots ∧ ∃ v, o = .returned v ∧ ((Q v t.heap ∧ J' t.vm) ∧ Keep h t.heap ws' ∧ Wrote h ws' L)) (hM.2 []) hf hl
    (fun m meth c A a Y hp => have hU : Z.Warmed39 A.U.vm := wtrans hZ Y.warmed
      ⟨by show (Cond.and _ .tt).before a A.U = true; rw [Cond.before_and, mv hU wc]; rfl, mv hU wc, mv hU wz, hp.2.2.1, hp.2.2.2⟩)
    (fun m meth c A a g mk Y hp => ⟨hp.1, ⟨wtrans hZ Y.warmed, hM.1.1 _ _ Y.warmed hj⟩, hp.2.1⟩) (fun _ _ _ _ _ _ _ _ _ => trivial)
    (fun _ _ _ _ ⟨v, L, h1, h2, h3⟩ => ⟨L, _, _, h3, rfl, rfl, v, h1, h2⟩)
    (fun m meth c A a g mk v t L k n Y hp _ _ ⟨e1, e2, v', e3, e4⟩ => by cases e3; subst e1 e2; exact ⟨L, e4, rfl, rfl, rfl⟩)
theorem Here.back {vm0 : Vm} {k0 : Nat} {U : State} {locs L : List Loc} (j1 : s.Since vm0 k0) (j2 : k0 ≤ T.heap.size) (j5 : s.heap = h0)
    (xx : p.tables.exec = Jvm.exec ∧ Z.Warmed39 (s.setVm vm0).vm ∧ c.code = bytes ∧ c.maxLocals = maxL ∧ (s.setVm vm0).vm.findClass y.cls = some m.cls ∧ meth.name = y.name ∧ meth.sig.returnType = ret ∧ meth.locks = false)
    (x10 : Keep h0 h ws) (N : Wrote h0 ws locs) (hU : Stand p l e R ((s.setVm vm0).setVm U.vm) m args below meth c U (locs ++ L) (cells + rm.cells) (slots + rm.slots)) (h2 : (s.setVm vm0).Since U.vm U.heap.size) (g2 : T.heap.size ≤ U.heap.size) (hj : J' U.vm) (hJ : Stb J') (K : Keep h U.heap ws') (N' : Wrote h ws' L) (hws : ∀ x ∈ ws', x ∈ ws ∨ h0.size ≤ x) :
    Here p l e R s m args below meth c y bytes maxL ret Z h0 ws J' U (cells + rm.cells) (slots + rm.slots) U.heap := by
  obtain ⟨x1, x2, x3, x4, x5, x6, x7, x8⟩ := xx
  exact ⟨U.vm, U.heap.size, ⟨j1.trans h2 (Nat.le_trans j2 g2), Nat.le_refl _, hj, hJ, j5⟩, ⟨x1, State.Warmed39.trans x2 h2.1, x3, x4, (h2.1.alike.findClass _ _).trans x5, x6, x7, x8⟩, rfl, x10.trans K hws, _, hU, N.app N' x10.1 hws⟩
theorem Here.callS (X : Here p l e R s m args below meth c y bytes maxL ret Z h0 ws J T cells slots h) {pc pc' : Nat} {Ls : Array Slot} {St : List Value} {i : Nat} {sig : MethodDescriptor} {argsL rest : List Value} (hM : Ct l Z y' bytes' maxL' ret' rm as h ws' J J' Q) (w1 : (Jvm.Cond.methodLink y.cls i y').before a0 Z = true) (w2 : (Jvm.Cond.static y').before a0 Z = true) (w3 : (Jvm.Cond.initialized y'.cls).before a0 Z = true) (w4 : (Jvm.Cond.code y' bytes' maxL' ret').before a0 Z = true)
    (hy : y'.cls ≠ "java/lang/invoke/MethodHandle" ∧ y'.cls ≠ "java/lang/invoke/VarHandle") (hsig : parseMethodDescriptor y'.desc = some sig) (hlen : argsL.length = sig.parameters.length) (has : argsL.toArray = as) (hst : St = argsL.reverse ++ rest) (hsz : Ls.size = maxL) (hd : decode bytes pc = .ok (.invokestatic i, 3)) (hp : pc + 3 = pc')
    (hf : rm.frames + 1 ≤ R.frames) {W : Nat} (hW : (rest.map fun v => v.category).sum = W) (hl : W + (maxL' + 11) + rm.locals ≤ R.locals) (hc : cells + rm.cells ≤ R.cells) (hs : slots + rm.slots ≤ R.slots) (hws : ∀ x ∈ ws', x ∈ ws ∨ h0.size ≤ x)
    (k : ∀ T' h' v, Here p l e R s m args below meth c y bytes maxL ret Z h0 ws J' T' (cells + rm.cells) (slots + rm.slots) h' → Keep h h' ws' → Q v h' → Runs p e below (T'.setTop (mkF m pc' Ls (v.toList ++ rest))) G) : Runs p e below (T.setTop (mkF m pc Ls St)) G := by
  subst hp hst
  obtain ⟨vm0, k0, ⟨j1, j2, j3, j4, j5⟩, ⟨x1, x2, x3, x4, x5, x6, x7, x8⟩, x9, x10, locs, S, N⟩ := X
  obtain ⟨v, vm₁, ⟨U, lo, ce, sl⟩, -, SU, sn, gr, ⟨Lc, hQ, z1, z2, z3⟩, st⟩ := Jvm.RoadKit.callSS S x1 (y := y') x5 (mvT x2 w1) (mvT x2 w2) (mvT x2 w3) (mvT x2 w4) hy (backCt x2 j3 hM w4 w3 hf hl) (g := mkF m pc Ls (argsL.reverse ++ rest)) rfl (hsz.trans x4.symm) (argsL := argsL) (rest := rest) (lenOf hsig hlen) rfl (by show 2 * 0 + _ ≤ _; rw [hW]; omega) (hb x3 hd) (fun _ _ => ⟨has, x9, hc, hs⟩)
  dsimp only [Pt.U, Pt.locs, Pt.cells, Pt.slots] at SU sn gr z1 z2 z3 st hQ
  subst z1 z2 z3
  exact (k U _ v (Here.back j1 (x9 ▸ j2) j5 ⟨x1, x2, x3, x4, x5, x6, x7, x8⟩ x10 N SU sn gr hQ.1.2 hM.1.2 hQ.2.1 hQ.2.2 hws) hQ.2.1 hQ.1.1).via st
theorem Here.special (X : Here p l e R s m args below meth c y bytes maxL ret Z h0 ws J T cells slots h) {pc pc' : Nat} {Ls : Array Slot} {St : List Value} {i : Nat} {sig : MethodDescriptor} {a : Addr} {argsL rest : List Value} (hM : Ct l Z y' bytes' maxL' none rm as h ws' J J' Q) (hin : y'.name = "<init>") (w1 : (Jvm.Cond.methodLink y.cls i y').before a0 Z = true) (w2 : (Jvm.Cond.instanceMethod y').before a0 Z = true) (w3 : (Jvm.Cond.initialized y'.cls).before a0 Z = true) (w4 : (Jvm.Cond.code y' bytes' maxL' none).before a0 Z = true)
    (hy : y'.cls ≠ "java/lang/invoke/MethodHandle" ∧ y'.cls ≠ "java/lang/invoke/VarHandle") (hsig : parseMethodDescriptor y'.desc = some sig) (hlen : argsL.length = sig.parameters.length) (has : (.ref a :: argsL).toArray = as) (hst : St = argsL.reverse ++ .ref a :: rest) (hsz : Ls.size = maxL) (hd : decode bytes pc = .ok (.invokespecial i, 3)) (hp : pc + 3 = pc')
    (hf : rm.frames + 1 ≤ R.frames) {W : Nat} (hW : (rest.map fun v => v.category).sum = W) (hl : W + (maxL' + 11) + rm.locals ≤ R.locals) (hc : cells + rm.cells ≤ R.cells) (hs : slots + rm.slots ≤ R.slots) (hws : ∀ x ∈ ws', x ∈ ws ∨ h0.size ≤ x)
    (k : ∀ T' h' v, Here p l e R s m args below meth c y bytes maxL ret Z h0 ws J' T' (cells + rm.cells) (slots + rm.slots) h' → Keep h h' ws' → Q v h' → Runs p e below (T'.setTop (mkF m pc' Ls (v.toList ++ rest))) G) : Runs p e below (T.setTop (mkF m pc Ls St)) G := by
  subst hp hst
  obtain ⟨vm0, k0, ⟨j1, j2, j3, j4, j5⟩, ⟨x1, x2, x3, x4, x5, x6, x7, x8⟩, x9, x10, locs, S, N⟩ := X
  obtain ⟨v, vm₁, ⟨U, lo, ce, sl⟩, -, SU, sn, gr, ⟨Lc, hQ, z1, z2, z3⟩, st⟩ := S.specialBackS x1 (y := y') hin x5 (mvT x2 w1) (mvT x2 w2) (mvT x2 w4) hy (backCt x2 j3 hM w4 w3 hf hl) (g := mkF m pc Ls (argsL.reverse ++ .ref a :: rest)) rfl (hsz.trans x4.symm) (Steps.refl _) (a := a) (argsL := argsL) (rest := rest) (lenOf hsig hlen) rfl (by show 2 * 0 + _ ≤ _; rw [hW]; omega) (hb x3 hd) (fun _ _ => ⟨has, x9, hc, hs⟩)
  dsimp only [Pt.U, Pt.locs, Pt.cells, Pt.slots] at SU sn gr z1 z2 z3 st hQ
  subst z1 z2 z3
  exact (k U _ v (Here.back j1 (x9 ▸ j2) j5 ⟨x1, x2, x3, x4, x5, x6, x7, x8⟩ x10 N SU sn gr hQ.1.2 hM.1.2 hQ.2.1 hQ.2.2 hws) hQ.2.1 hQ.1.1).via st
theorem Here.virtual (X : Here p l e R s m args below meth c y bytes maxL ret Z h0 ws J T cells slots h) {pc pc' : Nat} {Ls : Array Slot} {St : List Value} {i : Nat} {yr : MethodName} {C : String} {sig : MethodDescriptor} {a : Addr} {argsL rest : List Value} (hM : Ct l Z y' bytes' maxL' ret' rm as h ws' J J' Q) (w1 : (Jvm.Cond.methodLink y.cls i yr).before a0 Z = true) (w5 : (Jvm.Cond.declares yr).before a0 Z = true) (nf : ∀ {s' : State} args, (Jvm.Cond.selects C yr y').before args s' = true → NotFace s' yr) (w6 : (Jvm.Cond.selects C yr y').before a0 Z = true) (w2 : (Jvm.Cond.instanceMethod y').before a0 Z = true) (w3 : (Jvm.Cond.initialized y'.cls).before a0 Z = true) (w4 : (Jvm.Cond.code y' bytes' maxL' ret').before a0 Z = true)
    (hy : yr.cls ≠ "java/lang/invoke/MethodHandle" ∧ yr.cls ≠ "java/lang/invoke/VarHandle") (E : Exa Z h a C) (hsig : parseMethodDescriptor yr.desc = some sig) (hlen : argsL.length = sig.parameters.length) (has : (.ref a :: argsL).toArray = as) (hst : St = argsL.reverse ++ .ref a :: rest) (hsz : Ls.size = maxL) (hd : decode bytes pc = .ok (.invokevirtual i, 3)) (hp : pc + 3 = pc')
    (hf : rm.frames + 1 ≤ R.frames) {W : Nat} (hW : (rest.map fun v => v.category).sum = W) (hl : W + (maxL' + 11) + rm.locals ≤ R.locals) (hc : cells + rm.cells ≤ R.cells) (hs : slots + rm.slots ≤ R.slots) (hws : ∀ x ∈ ws', x ∈ ws ∨ h0.size ≤ x)
    (k : ∀ T' h' v, Here p l e R s m args below meth c y bytes maxL ret Z h0 ws J' T' (cells + rm.cells) (slots + rm.slots) h' → Keep h h' ws' → Q v h' → Runs p e below (T'.setTop (mkF m pc' Ls (v.toList ++ rest))) G) : Runs p e below (T.setTop (mkF m pc Ls St)) G := by
  subst hp hst
  obtain ⟨vm0, k0, ⟨j1, j2, j3, j4, j5⟩, ⟨x1, x2, x3, x4, x5, x6, x7, x8⟩, x9, x10, locs, S, N⟩ := X
  obtain ⟨cq, kq, q1, q2, q3⟩ := isOf (T := T) x2 x9 E
  obtain ⟨v, vm₁, ⟨U, lo, ce, sl⟩, -, SU, sn, gr, ⟨Lc, hQ, z1, z2, z3⟩, st⟩ := S.virtualBackS x1 (y := yr) (z := y') x5 (mvT x2 w1) (mvT x2 w5) (nf args (mvT x2 w6)) (mvT x2 w6) (mvT x2 w2) hy (backCt x2 j3 hM w4 w3 hf hl) q1 q3 (g := mkF m pc Ls (argsL.reverse ++ .ref a :: rest)) rfl (hsz.trans x4.symm) (Steps.refl _) (argsL := argsL) (rest := rest) (lenOf hsig hlen) rfl (by show 2 * 0 + _ ≤ _; rw [hW]; omega) (hb x3 hd) (fun _ _ => ⟨has, x9, hc, hs⟩)
  dsimp only [Pt.U, Pt.locs, Pt.cells, Pt.slots] at SU sn gr z1 z2 z3 st hQ
  subst z1 z2 z3
  exact (k U _ v (Here.back j1 (x9 ▸ j2) j5 ⟨x1, x2, x3, x4, x5, x6, x7, x8⟩ x10 N SU sn gr hQ.1.2 hM.1.2 hQ.2.1 hQ.2.2 hws) hQ.2.1 hQ.1.1).via st
theorem Here.priv (X : Here p l e R s m args below meth c y bytes maxL ret Z h0 ws J T cells slots h) {pc pc' : Nat} {Ls : Array Slot} {St : List Value} {i : Nat} {C : String} {sig : MethodDescriptor} {a : Addr} {argsL rest : List Value} (hM : Ct l Z y' bytes' maxL' ret' rm as h ws' J J' Q) (w1 : (Jvm.Cond.methodLink y.cls i y').before a0 Z = true) (w6 : (Jvm.Cond.selects y'.cls y' y').before a0 Z = true) (w7 : (Jvm.Cond.privateMethod y').before a0 Z = true) (w2 : (Jvm.Cond.instanceMethod y').before a0 Z = true) (w3 : (Jvm.Cond.initialized y'.cls).before a0 Z = true) (w4 : (Jvm.Cond.code y' bytes' maxL' ret').before a0 Z = true)
    (hy : y'.cls ≠ "java/lang/invoke/MethodHandle" ∧ y'.cls ≠ "java/lang/invoke/VarHandle") (E : Exa Z h a C) (hsig : parseMethodDescriptor y'.desc = some sig) (hlen : argsL.length = sig.parameters.length) (has : (.ref a :: argsL).toArray = as) (hst : St = argsL.reverse ++ .ref a :: rest) (hsz : Ls.size = maxL) (hd : decode bytes pc = .ok (.invokevirtual i, 3)) (hp : pc + 3 = pc')
    (hf : rm.frames + 1 ≤ R.frames) {W : Nat} (hW : (rest.map fun v => v.category).sum = W) (hl : W + (maxL' + 11) + rm.locals ≤ R.locals) (hc : cells + rm.cells ≤ R.cells) (hs : slots + rm.slots ≤ R.slots) (hws : ∀ x ∈ ws', x ∈ ws ∨ h0.size ≤ x)
    (k : ∀ T' h' v, Here p l e R s m args below meth c y bytes maxL ret Z h0 ws J' T' (cells + rm.cells) (slots + rm.slots) h' → Keep h h' ws' → Q v h' → Runs p e below (T'.setTop (mkF m pc' Ls (v.toList ++ rest))) G) : Runs p e below (T.setTop (mkF m pc Ls St)) G := by
  subst hp hst
  obtain ⟨vm0, k0, ⟨j1, j2, j3, j4, j5⟩, ⟨x1, x2, x3, x4, x5, x6, x7, x8⟩, x9, x10, locs, S, N⟩ := X
  obtain ⟨cq, q1, q2⟩ := E.cell
  obtain ⟨v, vm₁, ⟨U, lo, ce, sl⟩, -, SU, sn, gr, ⟨Lc, hQ, z1, z2, z3⟩, st⟩ := S.privateBackS x1 (y := y') x5 (mvT x2 w1) (mvT x2 w2) (mvT x2 w6) (Cond.privateMethod_at (mvP x2 w7 (args := #[]))) (mvT x2 w4) hy (backCt x2 j3 hM w4 w3 hf hl) (g := mkF m pc Ls (argsL.reverse ++ .ref a :: rest)) rfl (hsz.trans x4.symm) (Steps.refl _) (a := a) (by rw [x9]; exact q1) q2 (argsL := argsL) (rest := rest) (lenOf hsig hlen) rfl (by show 2 * 0 + _ ≤ _; rw [hW]; omega) (hb x3 hd) (fun _ _ => ⟨has, x9, hc, hs⟩)
  dsimp only [Pt.U, Pt.locs, Pt.cells, Pt.slots] at SU sn gr z1 z2 z3 st hQ
  subst z1 z2 z3
  exact (k U _ v (Here.back j1 (x9 ▸ j2) j5 ⟨x1, x2, x3, x4, x5, x6, x7, x8⟩ x10 N SU sn gr hQ.1.2 hM.1.2 hQ.2.1 hQ.2.2 hws) hQ.2.1 hQ.1.1).via st

/-! the returns -/
theorem Here.leave (X : Here p l e R s m args below meth c y bytes maxL ret Z h0 ws J T cells slots h) {Q : Option Value → Heap → Prop} {rm : Room} {g : JFrame} {v : Option Value} (hv : ret = none → v = none) (hc : cells ≤ rm.cells) (hs : slots ≤ rm.slots) (hq : Q v h)
    (st : ∀ {s' : State} locs fs, p.tables.exec = Jvm.exec → c.code = bytes → meth.sig.returnType = ret → Stand p l e R s' m args below meth c T locs cells slots → (∀ (f : JFrame) (acts : List Action), f.method = m → f.locked = none → f.entered = [] → (doReturn e (T.setTop f) acts v).1 = T.setFrames fs) → Steps p.tables e below (T.setTop g) (T.setFrames fs)) :
    Runs p e below (T.setTop g) (Out s h0 ws J rm Q) := by
  obtain ⟨vm0, k0, ⟨j1, j2, j3, j4, j5⟩, ⟨x1, x2, x3, x4, x5, x6, x7, x8⟩, x9, x10, locs, S, N⟩ := X
  obtain ⟨fs, hr, hrun, hended, hE⟩ := S.leaveW j1 (x9 ▸ j2) (v := v) (fun h => hv (x7 ▸ h)) x8
  refine ⟨_, _, st locs fs x1 x3 x7 S hr, hrun, hended, v, locs, rfl, ⟨⟨?_, j4 _ _ S.warmed j3⟩, ?_, N⟩, hE.1, hE.2.1, hE.2.2.1, hE.2.2.2.mono hc hs⟩
  · show Q v T.heap; rw [x9]; exact hq
  · show Keep h0 T.heap ws; rw [x9]; exact x10
/-- ldc of a String constant, cold or warm, nothing said of what it holds -/
theorem Here.ldcStr (X : Here p l e R s m args below meth c y bytes maxL ret Z h0 ws J T cells slots h) {pc pc' : Nat} {Ls : Array Slot} {St : List Value} {i : Nat} {text : String} (hJ : ∀ vm, J vm) (w : (Jvm.Cond.stringLink y.cls i text).before a0 Z = true) (wS : ∀ a ∈ Bundle.stringAtoms, a.before a0 Z = true) (hd : decode bytes pc = .ok (.ldc i, 2)) (hp : pc + 2 = pc') {n : Nat} (hn : 4 * text.toList.length ≤ n) (hbig : n ≤ 536870912) (hc : cells + 2 ≤ R.cells) (hl : slots + (n + 4) ≤ R.slots)
    (k : ∀ T' h' a, Here p l e R s m args below meth c y bytes maxL ret Z h0 ws J T' (cells + 2) (slots + (n + 4)) h' → Ext h h' → Runs p e below (T'.setTop (mkF m pc' Ls (.ref a :: St))) G) : Runs p e below (T.setTop (mkF m pc Ls St)) G := by
  subst hp
  obtain ⟨vm0, k0, ⟨j1, j2, j3, j4, j5⟩, ⟨x1, x2, x3, x4, x5, x6, x7, x8⟩, x9, x10, locs, S, N⟩ := X
  obtain ⟨a, T', h', k1, S', e', E, sn, hk, hZ', hown, st⟩ := ldcS S x1 x2 x5 w wS x9 j1 j2 (g := mkF m pc Ls St) rfl (hb x3 hd) hn hbig hc hl
  exact (k T' h' a ⟨T'.vm, k1, ⟨sn, hk, hJ _, j4, j5⟩, ⟨x1, hZ', x3, x4, hown, x6, x7, x8⟩, e', x10.ext E, _, S', N⟩ E).of st
/-- less is known of the tables -/
theorem Here.weak (X : Here p l e R s m args below meth c y bytes maxL ret Z h0 ws J T cells slots h) (q : ∀ vm, J vm → J' vm) (hs : Stb J') : Here p l e R s m args below meth c y bytes maxL ret Z h0 ws J' T cells slots h := by
  obtain ⟨vm0, k0, ⟨j1, j2, j3, j4, j5⟩, ⟨x1, x2, x3, x4, x5, x6, x7, x8⟩, x9, x10, locs, S, N⟩ := X
  exact ⟨vm0, k0, ⟨j1, j2, q _ j3, hs, j5⟩, ⟨x1, x2, x3, x4, x5, x6, x7, x8⟩, x9, x10, locs, S, N⟩
/-- more may be written -/
theorem Here.wsUp (X : Here p l e R s m args below meth c y bytes maxL ret Z h0 [] J T cells slots h) : Here p l e R s m args below meth c y bytes maxL ret Z h0 ws J T cells slots h := by
  obtain ⟨vm0, k0, ⟨j1, j2, j3, j4, j5⟩, ⟨x1, x2, x3, x4, x5, x6, x7, x8⟩, x9, x10, locs, S, N⟩ := X
  exact ⟨vm0, k0, ⟨j1, j2, j3, j4, j5⟩, ⟨x1, x2, x3, x4, x5, x6, x7, x8⟩, x9, ⟨x10.1, fun x c q _ => x10.2.1 x c q (fun z => nomatch z), x10.2.2⟩, locs, S, fun y q => (N y q).imp (fun z => nomatch z) id⟩
theorem Ct.of0 {rm : Room} {as : Array Value} {Q : Option Value → Heap → Prop} (hJ : Stb J) (hJ' : Stb J') (hp : plainFor y = true)
    (body : ∀ p e s m below meth c T, Here p l e rm s m as below meth c y bytes maxL ret Z h0 [] J T 0 0 h0 → Runs p e below (T.setTop (entryFrame m as maxL)) (Out s h0 ws J' rm Q)) :
    Ct l Z y bytes maxL ret rm as h0 ws J J' Q := ⟨⟨hJ, hJ'⟩, fun wz => by
  refine MetFree.of_bodySF hp hisR ?_
  intro p e s m args below meth c s₁ Bd hml0 hP hK
  obtain ⟨rfl, ⟨hZ, hj⟩, hh⟩ := hP
  have e0 : s₁.heap = h0 := by rw [← hh, Bd.state]; rfl
  exact body p e s m below meth c s₁ ⟨s.vm, 0, ⟨(State.WarmedH.refl s).since 0, Nat.zero_le _, hj, hJ, hh⟩, ⟨Bd.exec, hZ, Bd.bytes, hml0, findClass_of_methodNamed Bd.named, (name_of_methodNamed Bd.named Bd.method).1, Bd.returns, BodyLoose.notSynchronized Bd⟩, e0, Keep.refl _ _, [], Stand.of_body Bd, Wrote.nil⟩⟩
/-- nothing has been interned since the case's start -/
def jI (Z : State) : Vm → Prop := fun vm => IB Z vm []
theorem jI.stb : Stb (jI Z) := fun s vm w q => by
  obtain ⟨more, e, r⟩ := q
  exact ⟨more, by rw [w.interned_eq]; exact e, r⟩
/-- the entry is booked at a -/
def jL (Z : State) (own : String) (i : Nat) (a : Addr) : Vm → Prop := fun vm => Lit (Z.setVm vm) own i a
theorem jL.stb {own : String} {i : Nat} {a : Addr} : Stb (jL Z own i a) := fun s vm w q => Lit.stays (s := s) (vm0 := s.vm) q w.wide
/-- ldc of a String constant that nobody has loaded since the case's start: what it holds -/
theorem Here.ldcNew (X : Here p l e R s m args below meth c y bytes maxL ret Z h0 [] (jI Z) T cells slots h) {pc pc' : Nat} {Ls : Array Slot} {St : List Value} {i : Nat} {text : String} (w : (Jvm.Cond.stringLink y.cls i text).before a0 Z = true) (wS : ∀ a ∈ Bundle.stringAtoms, a.before a0 Z = true)
    (hkeep : Ext Z.heap h0) (hh : Jvm.Lit.constHeld Z y.cls i) (hcw : Jvm.Lit.compactW.before a0 Z = true) {vs : List Value} {z : Int32} (ht : (∀ c ∈ text.toList, c.toNat < 256) ∧ text.toList.map (fun c => Value.int (Jvm.Lit.byteI c.toNat.toUInt16)) = vs) (hz : ¬ z < 0) (hlz : z.toNatClampNeg = vs.length)
    (hd : decode bytes pc = .ok (.ldc i, 2)) (hp : pc + 2 = pc') {n : Nat} (hn : 4 * text.toList.length ≤ n) (hbig : n ≤ 536870912) (hc : cells + 2 ≤ R.cells) (hl : slots + (n + 4) ≤ R.slots)
    (k : ∀ T' h' a b kk, Here p l e R s m args below meth c y bytes maxL ret Z h0 [] (jL Z y.cls i a) T' (cells + 2) (slots + (n + 4)) h' → Ext h h' → Exa Z h' a "java/lang/String" → Fld Z h' a "java/lang/String" "coder" "B" (.int 0) → Fld Z h' a "java/lang/String" "value" "[B" (.ref b) → Arv Z h' b kk .byte z vs (.int 0) → Runs p e below (T'.setTop (mkF m pc' Ls (.ref a :: St))) G) : Runs p e below (T.setTop (mkF m pc Ls St)) G := by
  subst hp
  obtain ⟨vm0, k0, ⟨j1, j2, j3, j4, j5⟩, ⟨x1, x2, x3, x4, x5, x6, x7, x8⟩, x9, x10, locs, S, N⟩ := X
  obtain ⟨a, T', h', k1, b, kk, S', e', E, sn, hk, hZ', hown, f1, f2, f3, f4, -, -, -, L, st⟩ := ldcSVL S x1 x2 x5 w wS x9 j1 j2 (fun y q => (N y q).elim (fun z => nomatch z) (fun z => by rw [j5]; exact z)) (fun b cl q => by rw [j5]; exact hkeep.2 b cl q) (Ts := []) j3 (by simp) hh hcw ht hz hlz (g := mkF m pc Ls St) rfl (hb x3 hd) hn hbig hc hl
  exact (k T' h' a b kk ⟨T'.vm, k1, ⟨sn, hk, L, jL.stb, j5⟩, ⟨x1, hZ', x3, x4, hown, x6, x7, x8⟩, e', x10.ext E, _, S', N⟩ E f1 f2 f3 f4).of st
/-- a second load of the entry -/
theorem Here.ldcOld {a : Addr} {i : Nat} (X : Here p l e R s m args below meth c y bytes maxL ret Z h0 ws (jL Z y.cls i a) T cells slots h) {pc pc' : Nat} {Ls : Array Slot} {St : List Value} {text : String} (w : (Jvm.Cond.stringLink y.cls i text).before a0 Z = true) (hd : decode bytes pc = .ok (.ldc i, 2)) (hp : pc + 2 = pc')
    (k : Runs p e below (T.setTop (mkF m pc' Ls (.ref a :: St))) G) : Runs p e below (T.setTop (mkF m pc Ls St)) G := by
  subst hp
  obtain ⟨vm0, k0, ⟨j1, j2, j3, j4, j5⟩, ⟨x1, x2, x3, x4, x5, x6, x7, x8⟩, x9, x10, locs, S, N⟩ := X
  exact k.of (ldcAgain S x1 x2 x5 w j3 (g := mkF m pc Ls St) rfl (hb x3 hd))
theorem Here.ireturn (X : Here p l e R s m args below meth c y bytes maxL ret Z h0 ws J T cells slots h) {Q : Option Value → Heap → Prop} {rm : Room} {pc : Nat} {Ls : Array Slot} {St : List Value} {z : Int32} (hr : ret = some .int) (hd : decode bytes pc = .ok (.ireturn, 1)) (hc : cells ≤ rm.cells) (hs : slots ≤ rm.slots) (hq : Q (some (.int z)) h) : Runs p e below (T.setTop (mkF m pc Ls (.int z :: St))) (Out s h0 ws J rm Q) := by
  subst hr
  exact X.leave (fun h => nomatch h) hc hs hq fun _ _ hx hb' hret S hl => retOut S hx hret rfl (Or.inl ⟨rfl, Or.inl rfl, _, rfl⟩) (hb hb' hd) hl
theorem Here.zreturn (X : Here p l e R s m args below meth c y bytes maxL ret Z h0 ws J T cells slots h) {Q : Option Value → Heap → Prop} {rm : Room} {pc : Nat} {Ls : Array Slot} {St : List Value} {z z' : Int32} {t : FieldType} (hr : ret = some t) (ht : t = .boolean ∨ t = .byte ∨ t = .char ∨ t = .short) (hd : decode bytes pc = .ok (.ireturn, 1)) (hz : nar t z = z') (hc : cells ≤ rm.cells) (hs : slots ≤ rm.slots) (hq : Q (some (.int z')) h) : Runs p e below (T.setTop (mkF m pc Ls (.int z :: St))) (Out s h0 ws J rm Q) := by
  subst hr hz
  exact X.leave (fun h => nomatch h) hc hs hq fun _ _ hx hb' hret S hl => retN S hx hret ht (hb hb' hd) hl
theorem Here.lreturn (X : Here p l e R s m args below meth c y bytes maxL ret Z h0 ws J T cells slots h) {Q : Option Value → Heap → Prop} {rm : Room} {pc : Nat} {Ls : Array Slot} {St : List Value} {z : Int64} (hr : ret = some .long) (hd : decode bytes pc = .ok (.lreturn, 1)) (hc : cells ≤ rm.cells) (hs : slots ≤ rm.slots) (hq : Q (some (.long z)) h) : Runs p e below (T.setTop (mkF m pc Ls (.long z :: St))) (Out s h0 ws J rm Q) := by
  subst hr
  exact X.leave (fun h => nomatch h) hc hs hq fun _ _ hx hb' hret S hl => retOut S hx hret rfl (Or.inr (Or.inl ⟨rfl, rfl, _, rfl⟩)) (hb hb' hd) hl
theorem Here.areturn (X : Here p l e R s m args below meth c y bytes maxL ret Z h0 ws J T cells slots h) {Q : Option Value → Heap → Prop} {rm : Room} {pc : Nat} {Ls : Array Slot} {St : List Value} {v : Value} {t : FieldType} (hr : ret = some t) (ht : t.isReference = true) (hv : v.isRef = true) (hn : narrow t v = v) (hd : decode bytes pc = .ok (.areturn, 1)) (hc : cells ≤ rm.cells) (hs : slots ≤ rm.slots) (hq : Q (some v) h) : Runs p e below (T.setTop (mkF m pc Ls (v :: St))) (Out s h0 ws J rm Q) := by
  subst hr
  exact X.leave (fun h => nomatch h) hc hs hq fun _ _ hx hb' hret S hl => retOut S hx hret hn (Or.inr (Or.inr (Or.inr (Or.inr ⟨rfl, ht, hv⟩)))) (hb hb' hd) hl
theorem Here.vreturn (X : Here p l e R s m args below meth c y bytes maxL ret Z h0 ws J T cells slots h) {Q : Option Value → Heap → Prop} {rm : Room} {pc : Nat} {Ls : Array Slot} (hr : ret = none) (hd : decode bytes pc = .ok (.return_, 1)) (hc : cells ≤ rm.cells) (hs : slots ≤ rm.slots) (hq : Q none h) : Runs p e below (T.setTop (mkF m pc Ls [])) (Out s h0 ws J rm Q) := by
  subst hr
  exact X.leave (fun _ => rfl) hc hs hq fun _ _ hx hb' hret S hl => S.returnOut hx hret (hb hb' hd) hl
end B
end Jvm.Own
namespace Jvm.Own
open Jvm Jvm.ClassFile Sem Op Lib Jvm.Free Jvm.Stand Jvm.LawKit Jvm.RoadKit
section K
variable {Z : State} {h h' : Heap} {ws' : List Addr}
def Pln (h : Heap) (a : Addr) : Prop := ∃ c : Cell, h[a]? = some c ∧ c.vm.isStatics = false
theorem ext_trans {h1 h2 h3 : Heap} (a : Ext h1 h2) (b : Ext h2 h3) : Ext h1 h3 := ⟨Nat.le_trans a.1 b.1, fun x c q => b.2 x c (a.2 x c q)⟩
theorem ext_refl {h1 : Heap} : Ext h1 h1 := ⟨Nat.le_refl _, fun _ _ q => q⟩
theorem fld_inj {a : Addr} {C n d : String} {v w : Value} (F : Fld Z h a C n d v) (G : Fld Z h a C n d w) : v = w := by
  obtain ⟨c1, f1, k1, i1, g1, p1, p2, -, -, -, -, p7⟩ := F
  obtain ⟨c2, f2, k2, i2, g2, r1, r2, -, -, -, -, r7⟩ := G
  cases p1.symm.trans r1
  cases p2.symm.trans r2
  exact Option.some.inj (p7.symm.trans r7)
theorem exa0 : ∀ x ∈ ([] : List Addr), Pln h x := fun _ q => nomatch q
theorem exaS {a : Addr} {l : List Addr} {C : String} (E : Exa Z h a C) (t : ∀ x ∈ l, Pln h x) : ∀ x ∈ a :: l, Pln h x := fun x q => by
  rcases List.mem_cons.mp q with rfl | q
  · obtain ⟨c, k, h1, -, -, h4, -⟩ := E; exact ⟨c, h1, h4⟩
  · exact t x q
theorem lstS {a : Addr} {l : List Addr} {ty : FieldType} {vs : List Value} (E : Lst Z h a ty vs) (t : ∀ x ∈ l, Pln h x) : ∀ x ∈ a :: l, Pln h x := fun x q => by
  rcases List.mem_cons.mp q with rfl | q
  · obtain ⟨c, A, -⟩ := E; exact ⟨c, A.1, A.plain⟩
  · exact t x q
theorem sta_keepL {C n d : String} {v : Value} (F : Sta Z h C n d v) (K : Keep h h' ws') (q : ∀ x ∈ ws', Pln h x) : Sta Z h' C n d v := by
  obtain ⟨cf, i, k, f, st, cell, h1, h2, h3, h4, h5, h6, h7⟩ := F
  refine ⟨cf, i, k, f, st, cell, h1, h2, h3, h4, K.2.1 _ _ h5 fun z => ?_, h6, h7⟩
  obtain ⟨c, c1, c2⟩ := q st z
  cases c1.symm.trans h5
  rw [h6] at c2; cases c2
end K
end Jvm.Own
namespace Jvm.Pilot.@@N@@
open Jvm Jvm.ClassFile Sem Op Lib Jvm.Free Jvm.Stand Jvm.LawKit Jvm.RoadKit Bundle Jvm.Own Jvm.Pilot.@@N@@.Jvm.D
abbrev y1 : MethodName := ⟨"com/example/deferral_ledger/deferralledger/elections/DistributionElectionByDefaultPinLaw", "str", "(II)Ljava/lang/String;"⟩
abbrev y2 : MethodName := ⟨"java/lang/String", "<init>", "([C)V"⟩
abbrev y3 : MethodName := ⟨"java/lang/String", "<init>", "([CIILjava/lang/Void;)V"⟩
abbrev y4 : MethodName := ⟨"java/lang/Object", "<init>", "()V"⟩
abbrev y5 : MethodName := ⟨"java/lang/StringUTF16", "compress", "([CII)[B"⟩
abbrev y6 : MethodName := ⟨"java/lang/StringUTF16", "compress", "([CI[BII)I"⟩
abbrev y7 : MethodName := ⟨"java/lang/StringUTF16", "coderFromArrayLen", "([BI)B"⟩
abbrev y8 : MethodName := ⟨"com/example/deferral_ledger/deferralledger/elections/DistributionElection", "byDefault", "(Ljava/lang/String;II)Lcom/example/deferral_ledger/deferralledger/elections/DistributionElection;"⟩
abbrev y9 : MethodName := ⟨"com/example/deferral_ledger/deferralledger/elections/DistributionElection", "<init>", "(Ljava/lang/String;IILjava/time/LocalDate;Ljava/time/LocalDate;)V"⟩
abbrev y10 : MethodName := ⟨"com/example/deferral_ledger/deferralledger/elections/DistributionElection", "<init>", "(Ljava/lang/String;IILjava/time/LocalDate;JILjava/time/LocalDate;)V"⟩
abbrev y11 : MethodName := ⟨"com/example/deferral_ledger/deferralledger/elections/DistributionElection", "participant", "()Ljava/lang/String;"⟩
abbrev y12 : MethodName := ⟨"java/lang/String", "equals", "(Ljava/lang/Object;)Z"⟩
abbrev y13 : MethodName := ⟨"com/example/deferral_ledger/deferralledger/elections/DistributionElection", "planYear", "()I"⟩
abbrev y14 : MethodName := ⟨"com/example/deferral_ledger/deferralledger/elections/DistributionElection", "installments", "()I"⟩
abbrev y15 : MethodName := ⟨"com/example/deferral_ledger/deferralledger/elections/DistributionElection", "inServiceDate", "()Ljava/util/Optional;"⟩
abbrev y16 : MethodName := ⟨"java/util/Optional", "ofNullable", "(Ljava/lang/Object;)Ljava/util/Optional;"⟩
abbrev y17 : MethodName := ⟨"java/util/Optional", "isPresent", "()Z"⟩
abbrev y18 : MethodName := ⟨"com/example/deferral_ledger/deferralledger/elections/DistributionElection", "changes", "()J"⟩
abbrev y19 : MethodName := ⟨"com/example/deferral_ledger/deferralledger/elections/DistributionElection", "pushYears", "()I"⟩
abbrev y20 : MethodName := ⟨"com/example/deferral_ledger/deferralledger/elections/DistributionElection", "filed", "()Ljava/util/Optional;"⟩
theorem pd_0 : parseMethodDescriptor "([CI[BII)I" = some ⟨[(.array .char), .int, (.array .byte), .int, .int], some .int⟩ := by decide +kernel
theorem pd_1 : parseMethodDescriptor "([CII)[B" = some ⟨[(.array .char), .int, .int], some (.array .byte)⟩ := by decide +kernel
theorem pd_2 : parseMethodDescriptor "([BI)B" = some ⟨[(.array .byte), .int], some .byte⟩ := by decide +kernel
theorem pd_3 : parseMethodDescriptor "([CIILjava/lang/Void;)V" = some ⟨[(.array .char), .int, .int, (.object "java/lang/Void")], none⟩ := by decide +kernel
theorem pd_4 : parseMethodDescriptor "([C)V" = some ⟨[(.array .char)], none⟩ := by decide +kernel
theorem pd_5 : parseMethodDescriptor "(Ljava/lang/String;IILjava/time/LocalDate;JILjava/time/LocalDate;)V" = some ⟨[(.object "java/lang/String"), .int, .int, (.object "java/time/LocalDate"), .long, .int, (.object "java/time/LocalDate")], none⟩ := by decide +kernel
theorem pd_6 : parseMethodDescriptor "(Ljava/lang/String;IILjava/time/LocalDate;Ljava/time/LocalDate;)V" = some ⟨[(.object "java/lang/String"), .int, .int, (.object "java/time/LocalDate"), (.object "java/time/LocalDate")], none⟩ := by decide +kernel
theorem pd_7 : parseMethodDescriptor "(Ljava/lang/Object;)Ljava/util/Optional;" = some ⟨[(.object "java/lang/Object")], some (.object "java/util/Optional")⟩ := by decide +kernel
theorem pd_8 : parseMethodDescriptor "(II)Ljava/lang/String;" = some ⟨[.int, .int], some (.object "java/lang/String")⟩ := by decide +kernel
theorem pd_9 : parseMethodDescriptor "(Ljava/lang/String;II)Lcom/example/deferral_ledger/deferralledger/elections/DistributionElection;" = some ⟨[(.object "java/lang/String"), .int, .int], some (.object "com/example/deferral_ledger/deferralledger/elections/DistributionElection")⟩ := by decide +kernel
theorem pd_10 : parseMethodDescriptor "()Ljava/lang/String;" = some ⟨[], some (.object "java/lang/String")⟩ := by decide +kernel
theorem pd_11 : parseMethodDescriptor "(Ljava/lang/Object;)Z" = some ⟨[(.object "java/lang/Object")], some .boolean⟩ := by decide +kernel
theorem pd_12 : parseMethodDescriptor "()I" = some ⟨[], some .int⟩ := by decide +kernel
theorem pd_13 : parseMethodDescriptor "()Ljava/util/Optional;" = some ⟨[], some (.object "java/util/Optional")⟩ := by decide +kernel
theorem pd_14 : parseMethodDescriptor "()Z" = some ⟨[], some .boolean⟩ := by decide +kernel
theorem pd_15 : parseMethodDescriptor "()J" = some ⟨[], some .long⟩ := by decide +kernel
theorem wd_0 {a0 : Array Value} {Z : State} (hw : ∀ d ∈ tables_1, d.before a0 Z = true) : (Jvm.Cond.methodLink "com/example/deferral_ledger/deferralledger/elections/DistributionElectionByDefaultPinLaw" (12 : Nat) ({ cls := "com/example/deferral_ledger/deferralledger/elections/DistributionElectionByDefaultPinLaw", name := "str", desc := "(II)Ljava/lang/String;" } : Jvm.MethodName)).before a0 Z = true := hw _ (List.mem_of_getElem? (i := 0) rfl)
theorem wd_1 {a0 : Array Value} {Z : State} (hw : ∀ d ∈ tables_1, d.before a0 Z = true) : (Jvm.Cond.static ({ cls := "com/example/deferral_ledger/deferralledger/elections/DistributionElectionByDefaultPinLaw", name := "str", desc := "(II)Ljava/lang/String;" } : Jvm.MethodName)).before a0 Z = true := hw _ (List.mem_of_getElem? (i := 1) rfl)
theorem wd_2 {a0 : Array Value} {Z : State} (hw : ∀ d ∈ tables_1, d.before a0 Z = true) : (Jvm.Cond.initialized "com/example/deferral_ledger/deferralledger/elections/DistributionElectionByDefaultPinLaw").before a0 Z = true := hw _ (List.mem_of_getElem? (i := 2) rfl)
theorem wd_3 {a0 : Array Value} {Z : State} (hw : ∀ d ∈ tables_1, d.before a0 Z = true) : (Jvm.Cond.code ({ cls := "com/example/deferral_ledger/deferralledger/elections/DistributionElectionByDefaultPinLaw", name := "str", desc := "(II)Ljava/lang/String;" } : Jvm.MethodName) method_2_code (6 : Nat) (Option.some (Jvm.ClassFile.FieldType.object "java/lang/String"))).before a0 Z = true := hw _ (List.mem_of_getElem? (i := 3) rfl)
theorem wd_4 {a0 : Array Value} {Z : State} (hw : ∀ d ∈ tables_1, d.before a0 Z = true) : (Jvm.Cond.arrayClass Jvm.ClassFile.FieldType.char).before a0 Z = true := hw _ (List.mem_of_getElem? (i := 4) rfl)
theorem wd_5 {a0 : Array Value} {Z : State} (hw : ∀ d ∈ tables_1, d.before a0 Z = true) : (Jvm.Cond.classLink "com/example/deferral_ledger/deferralledger/elections/DistributionElectionByDefaultPinLaw" (7 : Nat) "java/lang/String").before a0 Z = true := hw _ (List.mem_of_getElem? (i := 5) rfl)
theorem wd_6 {a0 : Array Value} {Z : State} (hw : ∀ d ∈ tables_1, d.before a0 Z = true) : (Jvm.Cond.instantiable "java/lang/String" (4 : Nat)).before a0 Z = true := hw _ (List.mem_of_getElem? (i := 6) rfl)
theorem wd_7 {a0 : Array Value} {Z : State} (hw : ∀ d ∈ tables_1, d.before a0 Z = true) : (Jvm.Cond.initialized "java/lang/String").before a0 Z = true := hw _ (List.mem_of_getElem? (i := 7) rfl)
theorem wd_8 {a0 : Array Value} {Z : State} (hw : ∀ d ∈ tables_1, d.before a0 Z = true) : (Jvm.Cond.methodLink "com/example/deferral_ledger/deferralledger/elections/DistributionElectionByDefaultPinLaw" (9 : Nat) ({ cls := "java/lang/String", name := "<init>", desc := "([C)V" } : Jvm.MethodName)).before a0 Z = true := hw _ (List.mem_of_getElem? (i := 8) rfl)
theorem wd_9 {a0 : Array Value} {Z : State} (hw : ∀ d ∈ tables_1, d.before a0 Z = true) : (Jvm.Cond.instanceMethod ({ cls := "java/lang/String", name := "<init>", desc := "([C)V" } : Jvm.MethodName)).before a0 Z = true := hw _ (List.mem_of_getElem? (i := 9) rfl)
theorem wd_10 {a0 : Array Value} {Z : State} (hw : ∀ d ∈ tables_1, d.before a0 Z = true) : (Jvm.Cond.code ({ cls := "java/lang/String", name := "<init>", desc := "([C)V" } : Jvm.MethodName) jdk_42_method_3_code (2 : Nat) (Option.none : Option Jvm.ClassFile.FieldType)).before a0 Z = true := hw _ (List.mem_of_getElem? (i := 10) rfl)
theorem wd_11 {a0 : Array Value} {Z : State} (hw : ∀ d ∈ tables_1, d.before a0 Z = true) : (Jvm.Cond.methodLink "java/lang/String" (27 : Nat) ({ cls := "java/lang/String", name := "<init>", desc := "([CIILjava/lang/Void;)V" } : Jvm.MethodName)).before a0 Z = true := hw _ (List.mem_of_getElem? (i := 11) rfl)
theorem wd_12 {a0 : Array Value} {Z : State} (hw : ∀ d ∈ tables_1, d.before a0 Z = true) : (Jvm.Cond.instanceMethod ({ cls := "java/lang/String", name := "<init>", desc := "([CIILjava/lang/Void;)V" } : Jvm.MethodName)).before a0 Z = true := hw _ (List.mem_of_getElem? (i := 12) rfl)
theorem wd_14 {a0 : Array Value} {Z : State} (hw : ∀ d ∈ tables_1, d.before a0 Z = true) : (Jvm.Cond.code ({ cls := "java/lang/String", name := "<init>", desc := "([CIILjava/lang/Void;)V" } : Jvm.MethodName) jdk_42_method_149_code (6 : Nat) (Option.none : Option Jvm.ClassFile.FieldType)).before a0 Z = true := hw _ (List.mem_of_getElem? (i := 14) rfl)
theorem wd_15 {a0 : Array Value} {Z : State} (hw : ∀ d ∈ tables_1, d.before a0 Z = true) : (Jvm.Cond.methodLink "java/lang/String" (1 : Nat) ({ cls := "java/lang/Object", name := "<init>", desc := "()V" } : Jvm.MethodName)).before a0 Z = true := hw _ (List.mem_of_getElem? (i := 15) rfl)
theorem wd_16 {a0 : Array Value} {Z : State} (hw : ∀ d ∈ tables_1, d.before a0 Z = true) : (Jvm.Cond.instanceMethod ({ cls := "java/lang/Object", name := "<init>", desc := "()V" } : Jvm.MethodName)).before a0 Z = true := hw _ (List.mem_of_getElem? (i := 16) rfl)
theorem wd_17 {a0 : Array Value} {Z : State} (hw : ∀ d ∈ tables_1, d.before a0 Z = true) : (Jvm.Cond.code ({ cls := "java/lang/Object", name := "<init>", desc := "()V" } : Jvm.MethodName) object_method_1_code (1 : Nat) (Option.none : Option Jvm.ClassFile.FieldType)).before a0 Z = true := hw _ (List.mem_of_getElem? (i := 17) rfl)
theorem wd_18 {a0 : Array Value} {Z : State} (hw : ∀ d ∈ tables_1, d.before a0 Z = true) : (Jvm.Cond.fieldLink "java/lang/String" (38 : Nat) "java/lang/String" "COMPACT_STRINGS" "Z").before a0 Z = true := hw _ (List.mem_of_getElem? (i := 18) rfl)
theorem wd_19 {a0 : Array Value} {Z : State} (hw : ∀ d ∈ tables_1, d.before a0 Z = true) : (Jvm.Cond.methodLink "java/lang/String" (177 : Nat) ({ cls := "java/lang/StringUTF16", name := "compress", desc := "([CII)[B" } : Jvm.MethodName)).before a0 Z = true := hw _ (List.mem_of_getElem? (i := 19) rfl)
theorem wd_20 {a0 : Array Value} {Z : State} (hw : ∀ d ∈ tables_1, d.before a0 Z = true) : (Jvm.Cond.static ({ cls := "java/lang/StringUTF16", name := "compress", desc := "([CII)[B" } : Jvm.MethodName)).before a0 Z = true := hw _ (List.mem_of_getElem? (i := 20) rfl)
theorem wd_21 {a0 : Array Value} {Z : State} (hw : ∀ d ∈ tables_1, d.before a0 Z = true) : (Jvm.Cond.initialized "java/lang/StringUTF16").before a0 Z = true := hw _ (List.mem_of_getElem? (i := 21) rfl)
theorem wd_22 {a0 : Array Value} {Z : State} (hw : ∀ d ∈ tables_1, d.before a0 Z = true) : (Jvm.Cond.code ({ cls := "java/lang/StringUTF16", name := "compress", desc := "([CII)[B" } : Jvm.MethodName) jdk_52_method_16_code (6 : Nat) (Option.some (Jvm.ClassFile.FieldType.array Jvm.ClassFile.FieldType.byte))).before a0 Z = true := hw _ (List.mem_of_getElem? (i := 22) rfl)
theorem wd_23 {a0 : Array Value} {Z : State} (hw : ∀ d ∈ tables_1, d.before a0 Z = true) : (Jvm.Cond.arrayClass Jvm.ClassFile.FieldType.byte).before a0 Z = true := hw _ (List.mem_of_getElem? (i := 23) rfl)
theorem wd_24 {a0 : Array Value} {Z : State} (hw : ∀ d ∈ tables_1, d.before a0 Z = true) : (Jvm.Cond.methodLink "java/lang/StringUTF16" (115 : Nat) ({ cls := "java/lang/StringUTF16", name := "compress", desc := "([CI[BII)I" } : Jvm.MethodName)).before a0 Z = true := hw _ (List.mem_of_getElem? (i := 24) rfl)
theorem wd_25 {a0 : Array Value} {Z : State} (hw : ∀ d ∈ tables_1, d.before a0 Z = true) : (Jvm.Cond.static ({ cls := "java/lang/StringUTF16", name := "compress", desc := "([CI[BII)I" } : Jvm.MethodName)).before a0 Z = true := hw _ (List.mem_of_getElem? (i := 25) rfl)
theorem wd_26 {a0 : Array Value} {Z : State} (hw : ∀ d ∈ tables_1, d.before a0 Z = true) : (Jvm.Cond.code ({ cls := "java/lang/StringUTF16", name := "compress", desc := "([CI[BII)I" } : Jvm.MethodName) jdk_52_method_21_code (7 : Nat) (Option.some Jvm.ClassFile.FieldType.int)).before a0 Z = true := hw _ (List.mem_of_getElem? (i := 26) rfl)
theorem wd_27 {a0 : Array Value} {Z : State} (hw : ∀ d ∈ tables_1, d.before a0 Z = true) : (Jvm.Cond.methodLink "java/lang/String" (47 : Nat) ({ cls := "java/lang/StringUTF16", name := "coderFromArrayLen", desc := "([BI)B" } : Jvm.MethodName)).before a0 Z = true := hw _ (List.mem_of_getElem? (i := 27) rfl)
theorem wd_28 {a0 : Array Value} {Z : State} (hw : ∀ d ∈ tables_1, d.before a0 Z = true) : (Jvm.Cond.static ({ cls := "java/lang/StringUTF16", name := "coderFromArrayLen", desc := "([BI)B" } : Jvm.MethodName)).before a0 Z = true := hw _ (List.mem_of_getElem? (i := 28) rfl)
theorem wd_29 {a0 : Array Value} {Z : State} (hw : ∀ d ∈ tables_1, d.before a0 Z = true) : (Jvm.Cond.code ({ cls := "java/lang/StringUTF16", name := "coderFromArrayLen", desc := "([BI)B" } : Jvm.MethodName) jdk_52_method_15_code (2 : Nat) (Option.some Jvm.ClassFile.FieldType.byte)).before a0 Z = true := hw _ (List.mem_of_getElem? (i := 29) rfl)
theorem wd_30 {a0 : Array Value} {Z : State} (hw : ∀ d ∈ tables_1, d.before a0 Z = true) : (Jvm.Cond.fieldLink "java/lang/String" (15 : Nat) "java/lang/String" "coder" "B").before a0 Z = true := hw _ (List.mem_of_getElem? (i := 30) rfl)
theorem wd_31 {a0 : Array Value} {Z : State} (hw : ∀ d ∈ tables_1, d.before a0 Z = true) : (Jvm.Cond.laysFinal "java/lang/String" "java/lang/String" "coder" "B").before a0 Z = true := hw _ (List.mem_of_getElem? (i := 31) rfl)
theorem wd_32 {a0 : Array Value} {Z : State} (hw : ∀ d ∈ tables_1, d.before a0 Z = true) : (Jvm.Cond.fieldLink "java/lang/String" (9 : Nat) "java/lang/String" "value" "[B").before a0 Z = true := hw _ (List.mem_of_getElem? (i := 32) rfl)
theorem wd_33 {a0 : Array Value} {Z : State} (hw : ∀ d ∈ tables_1, d.before a0 Z = true) : (Jvm.Cond.laysFinal "java/lang/String" "java/lang/String" "value" "[B").before a0 Z = true := hw _ (List.mem_of_getElem? (i := 33) rfl)
theorem wd_34 {a0 : Array Value} {Z : State} (hw : ∀ d ∈ tables_1, d.before a0 Z = true) : (Jvm.Cond.methodLink "com/example/deferral_ledger/deferralledger/elections/DistributionElectionByDefaultPinLaw" (18 : Nat) ({ cls := "com/example/deferral_ledger/deferralledger/elections/DistributionElection", name := "byDefault", desc := "(Ljava/lang/String;II)Lcom/example/deferral_ledger/deferralledger/elections/DistributionElection;" } : Jvm.MethodName)).before a0 Z = true := hw _ (List.mem_of_getElem? (i := 34) rfl)
theorem wd_35 {a0 : Array Value} {Z : State} (hw : ∀ d ∈ tables_1, d.before a0 Z = true) : (Jvm.Cond.static ({ cls := "com/example/deferral_ledger/deferralledger/elections/DistributionElection", name := "byDefault", desc := "(Ljava/lang/String;II)Lcom/example/deferral_ledger/deferralledger/elections/DistributionElection;" } : Jvm.MethodName)).before a0 Z = true := hw _ (List.mem_of_getElem? (i := 35) rfl)
theorem wd_36 {a0 : Array Value} {Z : State} (hw : ∀ d ∈ tables_1, d.before a0 Z = true) : (Jvm.Cond.initialized "com/example/deferral_ledger/deferralledger/elections/DistributionElection").before a0 Z = true := hw _ (List.mem_of_getElem? (i := 36) rfl)
theorem wd_37 {a0 : Array Value} {Z : State} (hw : ∀ d ∈ tables_1, d.before a0 Z = true) : (Jvm.Cond.code ({ cls := "com/example/deferral_ledger/deferralledger/elections/DistributionElection", name := "byDefault", desc := "(Ljava/lang/String;II)Lcom/example/deferral_ledger/deferralledger/elections/DistributionElection;" } : Jvm.MethodName) prog_25_method_2_code (3 : Nat) (Option.some (Jvm.ClassFile.FieldType.object "com/example/deferral_ledger/deferralledger/elections/DistributionElection"))).before a0 Z = true := hw _ (List.mem_of_getElem? (i := 37) rfl)
theorem wd_38 {a0 : Array Value} {Z : State} (hw : ∀ d ∈ tables_1, d.before a0 Z = true) : (Jvm.Cond.classLink "com/example/deferral_ledger/deferralledger/elections/DistributionElection" (2 : Nat) "com/example/deferral_ledger/deferralledger/elections/DistributionElection").before a0 Z = true := hw _ (List.mem_of_getElem? (i := 38) rfl)
theorem wd_39 {a0 : Array Value} {Z : State} (hw : ∀ d ∈ tables_1, d.before a0 Z = true) : (Jvm.Cond.instantiable "com/example/deferral_ledger/deferralledger/elections/DistributionElection" (7 : Nat)).before a0 Z = true := hw _ (List.mem_of_getElem? (i := 39) rfl)
theorem wd_40 {a0 : Array Value} {Z : State} (hw : ∀ d ∈ tables_1, d.before a0 Z = true) : (Jvm.Cond.methodLink "com/example/deferral_ledger/deferralledger/elections/DistributionElection" (7 : Nat) ({ cls := "com/example/deferral_ledger/deferralledger/elections/DistributionElection", name := "<init>", desc := "(Ljava/lang/String;IILjava/time/LocalDate;Ljava/time/LocalDate;)V" } : Jvm.MethodName)).before a0 Z = true := hw _ (List.mem_of_getElem? (i := 40) rfl)
theorem wd_41 {a0 : Array Value} {Z : State} (hw : ∀ d ∈ tables_1, d.before a0 Z = true) : (Jvm.Cond.instanceMethod ({ cls := "com/example/deferral_ledger/deferralledger/elections/DistributionElection", name := "<init>", desc := "(Ljava/lang/String;IILjava/time/LocalDate;Ljava/time/LocalDate;)V" } : Jvm.MethodName)).before a0 Z = true := hw _ (List.mem_of_getElem? (i := 41) rfl)
theorem wd_42 {a0 : Array Value} {Z : State} (hw : ∀ d ∈ tables_1, d.before a0 Z = true) : (Jvm.Cond.code ({ cls := "com/example/deferral_ledger/deferralledger/elections/DistributionElection", name := "<init>", desc := "(Ljava/lang/String;IILjava/time/LocalDate;Ljava/time/LocalDate;)V" } : Jvm.MethodName) prog_25_method_1_code (6 : Nat) (Option.none : Option Jvm.ClassFile.FieldType)).before a0 Z = true := hw _ (List.mem_of_getElem? (i := 42) rfl)
theorem wd_43 {a0 : Array Value} {Z : State} (hw : ∀ d ∈ tables_1, d.before a0 Z = true) : (Jvm.Cond.methodLink "com/example/deferral_ledger/deferralledger/elections/DistributionElection" (1 : Nat) ({ cls := "com/example/deferral_ledger/deferralledger/elections/DistributionElection", name := "<init>", desc := "(Ljava/lang/String;IILjava/time/LocalDate;JILjava/time/LocalDate;)V" } : Jvm.MethodName)).before a0 Z = true := hw _ (List.mem_of_getElem? (i := 43) rfl)
theorem wd_44 {a0 : Array Value} {Z : State} (hw : ∀ d ∈ tables_1, d.before a0 Z = true) : (Jvm.Cond.instanceMethod ({ cls := "com/example/deferral_ledger/deferralledger/elections/DistributionElection", name := "<init>", desc := "(Ljava/lang/String;IILjava/time/LocalDate;JILjava/time/LocalDate;)V" } : Jvm.MethodName)).before a0 Z = true := hw _ (List.mem_of_getElem? (i := 44) rfl)
theorem wd_45 {a0 : Array Value} {Z : State} (hw : ∀ d ∈ tables_1, d.before a0 Z = true) : (Jvm.Cond.code ({ cls := "com/example/deferral_ledger/deferralledger/elections/DistributionElection", name := "<init>", desc := "(Ljava/lang/String;IILjava/time/LocalDate;JILjava/time/LocalDate;)V" } : Jvm.MethodName) prog_25_method_4_code (9 : Nat) (Option.none : Option Jvm.ClassFile.FieldType)).before a0 Z = true := hw _ (List.mem_of_getElem? (i := 45) rfl)
theorem wd_46 {a0 : Array Value} {Z : State} (hw : ∀ d ∈ tables_1, d.before a0 Z = true) : (Jvm.Cond.methodLink "com/example/deferral_ledger/deferralledger/elections/DistributionElection" (22 : Nat) ({ cls := "java/lang/Object", name := "<init>", desc := "()V" } : Jvm.MethodName)).before a0 Z = true := hw _ (List.mem_of_getElem? (i := 46) rfl)
theorem wd_47 {a0 : Array Value} {Z : State} (hw : ∀ d ∈ tables_1, d.before a0 Z = true) : (Jvm.Cond.fieldLink "com/example/deferral_ledger/deferralledger/elections/DistributionElection" (10 : Nat) "com/example/deferral_ledger/deferralledger/elections/DistributionElection" "participant" "Ljava/lang/String;").before a0 Z = true := hw _ (List.mem_of_getElem? (i := 47) rfl)
theorem wd_48 {a0 : Array Value} {Z : State} (hw : ∀ d ∈ tables_1, d.before a0 Z = true) : (Jvm.Cond.laysFinal "com/example/deferral_ledger/deferralledger/elections/DistributionElection" "com/example/deferral_ledger/deferralledger/elections/DistributionElection" "participant" "Ljava/lang/String;").before a0 Z = true := hw _ (List.mem_of_getElem? (i := 48) rfl)
theorem wd_49 {a0 : Array Value} {Z : State} (hw : ∀ d ∈ tables_1, d.before a0 Z = true) : (Jvm.Cond.fieldLink "com/example/deferral_ledger/deferralledger/elections/DistributionElection" (14 : Nat) "com/example/deferral_ledger/deferralledger/elections/DistributionElection" "planYear" "I").before a0 Z = true := hw _ (List.mem_of_getElem? (i := 49) rfl)
theorem wd_50 {a0 : Array Value} {Z : State} (hw : ∀ d ∈ tables_1, d.before a0 Z = true) : (Jvm.Cond.laysFinal "com/example/deferral_ledger/deferralledger/elections/DistributionElection" "com/example/deferral_ledger/deferralledger/elections/DistributionElection" "planYear" "I").before a0 Z = true := hw _ (List.mem_of_getElem? (i := 50) rfl)
theorem wd_51 {a0 : Array Value} {Z : State} (hw : ∀ d ∈ tables_1, d.before a0 Z = true) : (Jvm.Cond.fieldLink "com/example/deferral_ledger/deferralledger/elections/DistributionElection" (27 : Nat) "com/example/deferral_ledger/deferralledger/elections/DistributionElection" "installments" "I").before a0 Z = true := hw _ (List.mem_of_getElem? (i := 51) rfl)
theorem wd_52 {a0 : Array Value} {Z : State} (hw : ∀ d ∈ tables_1, d.before a0 Z = true) : (Jvm.Cond.laysFinal "com/example/deferral_ledger/deferralledger/elections/DistributionElection" "com/example/deferral_ledger/deferralledger/elections/DistributionElection" "installments" "I").before a0 Z = true := hw _ (List.mem_of_getElem? (i := 52) rfl)
theorem wd_53 {a0 : Array Value} {Z : State} (hw : ∀ d ∈ tables_1, d.before a0 Z = true) : (Jvm.Cond.fieldLink "com/example/deferral_ledger/deferralledger/elections/DistributionElection" (30 : Nat) "com/example/deferral_ledger/deferralledger/elections/DistributionElection" "inServiceDate" "Ljava/time/LocalDate;").before a0 Z = true := hw _ (List.mem_of_getElem? (i := 53) rfl)
theorem wd_54 {a0 : Array Value} {Z : State} (hw : ∀ d ∈ tables_1, d.before a0 Z = true) : (Jvm.Cond.laysFinal "com/example/deferral_ledger/deferralledger/elections/DistributionElection" "com/example/deferral_ledger/deferralledger/elections/DistributionElection" "inServiceDate" "Ljava/time/LocalDate;").before a0 Z = true := hw _ (List.mem_of_getElem? (i := 54) rfl)
theorem wd_55 {a0 : Array Value} {Z : State} (hw : ∀ d ∈ tables_1, d.before a0 Z = true) : (Jvm.Cond.fieldLink "com/example/deferral_ledger/deferralledger/elections/DistributionElection" (18 : Nat) "com/example/deferral_ledger/deferralledger/elections/DistributionElection" "changes" "J").before a0 Z = true := hw _ (List.mem_of_getElem? (i := 55) rfl)
theorem wd_56 {a0 : Array Value} {Z : State} (hw : ∀ d ∈ tables_1, d.before a0 Z = true) : (Jvm.Cond.laysFinal "com/example/deferral_ledger/deferralledger/elections/DistributionElection" "com/example/deferral_ledger/deferralledger/elections/DistributionElection" "changes" "J").before a0 Z = true := hw _ (List.mem_of_getElem? (i := 56) rfl)
theorem wd_57 {a0 : Array Value} {Z : State} (hw : ∀ d ∈ tables_1, d.before a0 Z = true) : (Jvm.Cond.fieldLink "com/example/deferral_ledger/deferralledger/elections/DistributionElection" (34 : Nat) "com/example/deferral_ledger/deferralledger/elections/DistributionElection" "pushYears" "I").before a0 Z = true := hw _ (List.mem_of_getElem? (i := 57) rfl)
theorem wd_58 {a0 : Array Value} {Z : State} (hw : ∀ d ∈ tables_1, d.before a0 Z = true) : (Jvm.Cond.laysFinal "com/example/deferral_ledger/deferralledger/elections/DistributionElection" "com/example/deferral_ledger/deferralledger/elections/DistributionElection" "pushYears" "I").before a0 Z = true := hw _ (List.mem_of_getElem? (i := 58) rfl)
theorem wd_59 {a0 : Array Value} {Z : State} (hw : ∀ d ∈ tables_1, d.before a0 Z = true) : (Jvm.Cond.fieldLink "com/example/deferral_ledger/deferralledger/elections/DistributionElection" (37 : Nat) "com/example/deferral_ledger/deferralledger/elections/DistributionElection" "filed" "Ljava/time/LocalDate;").before a0 Z = true := hw _ (List.mem_of_getElem? (i := 59) rfl)
theorem wd_60 {a0 : Array Value} {Z : State} (hw : ∀ d ∈ tables_1, d.before a0 Z = true) : (Jvm.Cond.laysFinal "com/example/deferral_ledger/deferralledger/elections/DistributionElection" "com/example/deferral_ledger/deferralledger/elections/DistributionElection" "filed" "Ljava/time/LocalDate;").before a0 Z = true := hw _ (List.mem_of_getElem? (i := 60) rfl)
theorem wd_61 {a0 : Array Value} {Z : State} (hw : ∀ d ∈ tables_1, d.before a0 Z = true) : (Jvm.Cond.methodLink "com/example/deferral_ledger/deferralledger/elections/DistributionElectionByDefaultPinLaw" (24 : Nat) ({ cls := "com/example/deferral_ledger/deferralledger/elections/DistributionElection", name := "participant", desc := "()Ljava/lang/String;" } : Jvm.MethodName)).before a0 Z = true := hw _ (List.mem_of_getElem? (i := 61) rfl)
theorem wd_62 {a0 : Array Value} {Z : State} (hw : ∀ d ∈ tables_1, d.before a0 Z = true) : (Jvm.Cond.declares ({ cls := "com/example/deferral_ledger/deferralledger/elections/DistributionElection", name := "participant", desc := "()Ljava/lang/String;" } : Jvm.MethodName)).before a0 Z = true := hw _ (List.mem_of_getElem? (i := 62) rfl)
theorem wd_63 {a0 : Array Value} {Z : State} (hw : ∀ d ∈ tables_1, d.before a0 Z = true) : (Jvm.Cond.instanceMethod ({ cls := "com/example/deferral_ledger/deferralledger/elections/DistributionElection", name := "participant", desc := "()Ljava/lang/String;" } : Jvm.MethodName)).before a0 Z = true := hw _ (List.mem_of_getElem? (i := 63) rfl)
theorem wd_64 {a0 : Array Value} {Z : State} (hw : ∀ d ∈ tables_1, d.before a0 Z = true) : (Jvm.Cond.selects "com/example/deferral_ledger/deferralledger/elections/DistributionElection" ({ cls := "com/example/deferral_ledger/deferralledger/elections/DistributionElection", name := "participant", desc := "()Ljava/lang/String;" } : Jvm.MethodName) ({ cls := "com/example/deferral_ledger/deferralledger/elections/DistributionElection", name := "participant", desc := "()Ljava/lang/String;" } : Jvm.MethodName)).before a0 Z = true := hw _ (List.mem_of_getElem? (i := 64) rfl)
theorem wd_65 {a0 : Array Value} {Z : State} (hw : ∀ d ∈ tables_1, d.before a0 Z = true) : (Jvm.Cond.code ({ cls := "com/example/deferral_ledger/deferralledger/elections/DistributionElection", name := "participant", desc := "()Ljava/lang/String;" } : Jvm.MethodName) prog_25_method_5_code (1 : Nat) (Option.some (Jvm.ClassFile.FieldType.object "java/lang/String"))).before a0 Z = true := hw _ (List.mem_of_getElem? (i := 65) rfl)
theorem wd_66 {a0 : Array Value} {Z : State} (hw : ∀ d ∈ tables_1, d.before a0 Z = true) : (Jvm.Cond.methodLink "com/example/deferral_ledger/deferralledger/elections/DistributionElectionByDefaultPinLaw" (28 : Nat) ({ cls := "java/lang/String", name := "equals", desc := "(Ljava/lang/Object;)Z" } : Jvm.MethodName)).before a0 Z = true := hw _ (List.mem_of_getElem? (i := 66) rfl)
theorem wd_67 {a0 : Array Value} {Z : State} (hw : ∀ d ∈ tables_1, d.before a0 Z = true) : (Jvm.Cond.declares ({ cls := "java/lang/String", name := "equals", desc := "(Ljava/lang/Object;)Z" } : Jvm.MethodName)).before a0 Z = true := hw _ (List.mem_of_getElem? (i := 67) rfl)
theorem wd_68 {a0 : Array Value} {Z : State} (hw : ∀ d ∈ tables_1, d.before a0 Z = true) : (Jvm.Cond.instanceMethod ({ cls := "java/lang/String", name := "equals", desc := "(Ljava/lang/Object;)Z" } : Jvm.MethodName)).before a0 Z = true := hw _ (List.mem_of_getElem? (i := 68) rfl)
theorem wd_69 {a0 : Array Value} {Z : State} (hw : ∀ d ∈ tables_1, d.before a0 Z = true) : (Jvm.Cond.selects "java/lang/String" ({ cls := "java/lang/String", name := "equals", desc := "(Ljava/lang/Object;)Z" } : Jvm.MethodName) ({ cls := "java/lang/String", name := "equals", desc := "(Ljava/lang/Object;)Z" } : Jvm.MethodName)).before a0 Z = true := hw _ (List.mem_of_getElem? (i := 69) rfl)
theorem wd_70 {a0 : Array Value} {Z : State} (hw : ∀ d ∈ tables_1, d.before a0 Z = true) : (Jvm.Cond.code ({ cls := "java/lang/String", name := "equals", desc := "(Ljava/lang/Object;)Z" } : Jvm.MethodName) jdk_42_method_66_code (3 : Nat) (Option.some Jvm.ClassFile.FieldType.boolean)).before a0 Z = true := hw _ (List.mem_of_getElem? (i := 70) rfl)
theorem wd_71 {a0 : Array Value} {Z : State} (hw : ∀ d ∈ tables_1, d.before a0 Z = true) : (Jvm.Cond.methodLink "com/example/deferral_ledger/deferralledger/elections/DistributionElectionByDefaultPinLaw" (32 : Nat) ({ cls := "com/example/deferral_ledger/deferralledger/elections/DistributionElection", name := "planYear", desc := "()I" } : Jvm.MethodName)).before a0 Z = true := hw _ (List.mem_of_getElem? (i := 71) rfl)
theorem wd_72 {a0 : Array Value} {Z : State} (hw : ∀ d ∈ tables_1, d.before a0 Z = true) : (Jvm.Cond.declares ({ cls := "com/example/deferral_ledger/deferralledger/elections/DistributionElection", name := "planYear", desc := "()I" } : Jvm.MethodName)).before a0 Z = true := hw _ (List.mem_of_getElem? (i := 72) rfl)
theorem wd_73 {a0 : Array Value} {Z : State} (hw : ∀ d ∈ tables_1, d.before a0 Z = true) : (Jvm.Cond.instanceMethod ({ cls := "com/example/deferral_ledger/deferralledger/elections/DistributionElection", name := "planYear", desc := "()I" } : Jvm.MethodName)).before a0 Z = true := hw _ (List.mem_of_getElem? (i := 73) rfl)
theorem wd_74 {a0 : Array Value} {Z : State} (hw : ∀ d ∈ tables_1, d.before a0 Z = true) : (Jvm.Cond.selects "com/example/deferral_ledger/deferralledger/elections/DistributionElection" ({ cls := "com/example/deferral_ledger/deferralledger/elections/DistributionElection", name := "planYear", desc := "()I" } : Jvm.MethodName) ({ cls := "com/example/deferral_ledger/deferralledger/elections/DistributionElection", name := "planYear", desc := "()I" } : Jvm.MethodName)).before a0 Z = true := hw _ (List.mem_of_getElem? (i := 74) rfl)
theorem wd_75 {a0 : Array Value} {Z : State} (hw : ∀ d ∈ tables_1, d.before a0 Z = true) : (Jvm.Cond.code ({ cls := "com/example/deferral_ledger/deferralledger/elections/DistributionElection", name := "planYear", desc := "()I" } : Jvm.MethodName) prog_25_method_6_code (1 : Nat) (Option.some Jvm.ClassFile.FieldType.int)).before a0 Z = true := hw _ (List.mem_of_getElem? (i := 75) rfl)
theorem wd_76 {a0 : Array Value} {Z : State} (hw : ∀ d ∈ tables_1, d.before a0 Z = true) : (Jvm.Cond.methodLink "com/example/deferral_ledger/deferralledger/elections/DistributionElectionByDefaultPinLaw" (36 : Nat) ({ cls := "com/example/deferral_ledger/deferralledger/elections/DistributionElection", name := "installments", desc := "()I" } : Jvm.MethodName)).before a0 Z = true := hw _ (List.mem_of_getElem? (i := 76) rfl)
theorem wd_77 {a0 : Array Value} {Z : State} (hw : ∀ d ∈ tables_1, d.before a0 Z = true) : (Jvm.Cond.declares ({ cls := "com/example/deferral_ledger/deferralledger/elections/DistributionElection", name := "installments", desc := "()I" } : Jvm.MethodName)).before a0 Z = true := hw _ (List.mem_of_getElem? (i := 77) rfl)
theorem wd_78 {a0 : Array Value} {Z : State} (hw : ∀ d ∈ tables_1, d.before a0 Z = true) : (Jvm.Cond.instanceMethod ({ cls := "com/example/deferral_ledger/deferralledger/elections/DistributionElection", name := "installments", desc := "()I" } : Jvm.MethodName)).before a0 Z = true := hw _ (List.mem_of_getElem? (i := 78) rfl)
theorem wd_79 {a0 : Array Value} {Z : State} (hw : ∀ d ∈ tables_1, d.before a0 Z = true) : (Jvm.Cond.selects "com/example/deferral_ledger/deferralledger/elections/DistributionElection" ({ cls := "com/example/deferral_ledger/deferralledger/elections/DistributionElection", name := "installments", desc := "()I" } : Jvm.MethodName) ({ cls := "com/example/deferral_ledger/deferralledger/elections/DistributionElection", name := "installments", desc := "()I" } : Jvm.MethodName)).before a0 Z = true := hw _ (List.mem_of_getElem? (i := 79) rfl)
theorem wd_80 {a0 : Array Value} {Z : State} (hw : ∀ d ∈ tables_1, d.before a0 Z = true) : (Jvm.Cond.code ({ cls := "com/example/deferral_ledger/deferralledger/elections/DistributionElection", name := "installments", desc := "()I" } : Jvm.MethodName) prog_25_method_7_code (1 : Nat) (Option.some Jvm.ClassFile.FieldType.int)).before a0 Z = true := hw _ (List.mem_of_getElem? (i := 80) rfl)
theorem wd_81 {a0 : Array Value} {Z : State} (hw : ∀ d ∈ tables_1, d.before a0 Z = true) : (Jvm.Cond.methodLink "com/example/deferral_ledger/deferralledger/elections/DistributionElectionByDefaultPinLaw" (39 : Nat) ({ cls := "com/example/deferral_ledger/deferralledger/elections/DistributionElection", name := "inServiceDate", desc := "()Ljava/util/Optional;" } : Jvm.MethodName)).before a0 Z = true := hw _ (List.mem_of_getElem? (i := 81) rfl)
theorem wd_82 {a0 : Array Value} {Z : State} (hw : ∀ d ∈ tables_1, d.before a0 Z = true) : (Jvm.Cond.declares ({ cls := "com/example/deferral_ledger/deferralledger/elections/DistributionElection", name := "inServiceDate", desc := "()Ljava/util/Optional;" } : Jvm.MethodName)).before a0 Z = true := hw _ (List.mem_of_getElem? (i := 82) rfl)
theorem wd_83 {a0 : Array Value} {Z : State} (hw : ∀ d ∈ tables_1, d.before a0 Z = true) : (Jvm.Cond.instanceMethod ({ cls := "com/example/deferral_ledger/deferralledger/elections/DistributionElection", name := "inServiceDate", desc := "()Ljava/util/Optional;" } : Jvm.MethodName)).before a0 Z = true := hw _ (List.mem_of_getElem? (i := 83) rfl)
theorem wd_84 {a0 : Array Value} {Z : State} (hw : ∀ d ∈ tables_1, d.before a0 Z = true) : (Jvm.Cond.selects "com/example/deferral_ledger/deferralledger/elections/DistributionElection" ({ cls := "com/example/deferral_ledger/deferralledger/elections/DistributionElection", name := "inServiceDate", desc := "()Ljava/util/Optional;" } : Jvm.MethodName) ({ cls := "com/example/deferral_ledger/deferralledger/elections/DistributionElection", name := "inServiceDate", desc := "()Ljava/util/Optional;" } : Jvm.MethodName)).before a0 Z = true := hw _ (List.mem_of_getElem? (i := 84) rfl)
theorem wd_85 {a0 : Array Value} {Z : State} (hw : ∀ d ∈ tables_1, d.before a0 Z = true) : (Jvm.Cond.code ({ cls := "com/example/deferral_ledger/deferralledger/elections/DistributionElection", name := "inServiceDate", desc := "()Ljava/util/Optional;" } : Jvm.MethodName) prog_25_method_8_code (1 : Nat) (Option.some (Jvm.ClassFile.FieldType.object "java/util/Optional"))).before a0 Z = true := hw _ (List.mem_of_getElem? (i := 85) rfl)
theorem wd_86 {a0 : Array Value} {Z : State} (hw : ∀ d ∈ tables_1, d.before a0 Z = true) : (Jvm.Cond.methodLink "com/example/deferral_ledger/deferralledger/elections/DistributionElection" (40 : Nat) ({ cls := "java/util/Optional", name := "ofNullable", desc := "(Ljava/lang/Object;)Ljava/util/Optional;" } : Jvm.MethodName)).before a0 Z = true := hw _ (List.mem_of_getElem? (i := 86) rfl)
theorem wd_87 {a0 : Array Value} {Z : State} (hw : ∀ d ∈ tables_1, d.before a0 Z = true) : (Jvm.Cond.static ({ cls := "java/util/Optional", name := "ofNullable", desc := "(Ljava/lang/Object;)Ljava/util/Optional;" } : Jvm.MethodName)).before a0 Z = true := hw _ (List.mem_of_getElem? (i := 87) rfl)
theorem wd_88 {a0 : Array Value} {Z : State} (hw : ∀ d ∈ tables_1, d.before a0 Z = true) : (Jvm.Cond.initialized "java/util/Optional").before a0 Z = true := hw _ (List.mem_of_getElem? (i := 88) rfl)
theorem wd_89 {a0 : Array Value} {Z : State} (hw : ∀ d ∈ tables_1, d.before a0 Z = true) : (Jvm.Cond.code ({ cls := "java/util/Optional", name := "ofNullable", desc := "(Ljava/lang/Object;)Ljava/util/Optional;" } : Jvm.MethodName) jdk_32_method_4_code (1 : Nat) (Option.some (Jvm.ClassFile.FieldType.object "java/util/Optional"))).before a0 Z = true := hw _ (List.mem_of_getElem? (i := 89) rfl)
theorem wd_90 {a0 : Array Value} {Z : State} (hw : ∀ d ∈ tables_1, d.before a0 Z = true) : (Jvm.Cond.fieldLink "java/util/Optional" (1 : Nat) "java/util/Optional" "EMPTY" "Ljava/util/Optional;").before a0 Z = true := hw _ (List.mem_of_getElem? (i := 90) rfl)
theorem wd_91 {a0 : Array Value} {Z : State} (hw : ∀ d ∈ tables_1, d.before a0 Z = true) : (Jvm.Cond.methodLink "com/example/deferral_ledger/deferralledger/elections/DistributionElectionByDefaultPinLaw" (43 : Nat) ({ cls := "java/util/Optional", name := "isPresent", desc := "()Z" } : Jvm.MethodName)).before a0 Z = true := hw _ (List.mem_of_getElem? (i := 91) rfl)
theorem wd_92 {a0 : Array Value} {Z : State} (hw : ∀ d ∈ tables_1, d.before a0 Z = true) : (Jvm.Cond.declares ({ cls := "java/util/Optional", name := "isPresent", desc := "()Z" } : Jvm.MethodName)).before a0 Z = true := hw _ (List.mem_of_getElem? (i := 92) rfl)
theorem wd_93 {a0 : Array Value} {Z : State} (hw : ∀ d ∈ tables_1, d.before a0 Z = true) : (Jvm.Cond.instanceMethod ({ cls := "java/util/Optional", name := "isPresent", desc := "()Z" } : Jvm.MethodName)).before a0 Z = true := hw _ (List.mem_of_getElem? (i := 93) rfl)
theorem wd_94 {a0 : Array Value} {Z : State} (hw : ∀ d ∈ tables_1, d.before a0 Z = true) : (Jvm.Cond.selects "java/util/Optional" ({ cls := "java/util/Optional", name := "isPresent", desc := "()Z" } : Jvm.MethodName) ({ cls := "java/util/Optional", name := "isPresent", desc := "()Z" } : Jvm.MethodName)).before a0 Z = true := hw _ (List.mem_of_getElem? (i := 94) rfl)
theorem wd_95 {a0 : Array Value} {Z : State} (hw : ∀ d ∈ tables_1, d.before a0 Z = true) : (Jvm.Cond.code ({ cls := "java/util/Optional", name := "isPresent", desc := "()Z" } : Jvm.MethodName) jdk_32_method_6_code (1 : Nat) (Option.some Jvm.ClassFile.FieldType.boolean)).before a0 Z = true := hw _ (List.mem_of_getElem? (i := 95) rfl)
theorem wd_96 {a0 : Array Value} {Z : State} (hw : ∀ d ∈ tables_1, d.before a0 Z = true) : (Jvm.Cond.fieldLink "java/util/Optional" (13 : Nat) "java/util/Optional" "value" "Ljava/lang/Object;").before a0 Z = true := hw _ (List.mem_of_getElem? (i := 96) rfl)
theorem wd_98 {a0 : Array Value} {Z : State} (hw : ∀ d ∈ tables_1, d.before a0 Z = true) : (Jvm.Cond.methodLink "com/example/deferral_ledger/deferralledger/elections/DistributionElectionByDefaultPinLaw" (49 : Nat) ({ cls := "com/example/deferral_ledger/deferralledger/elections/DistributionElection", name := "changes", desc := "()J" } : Jvm.MethodName)).before a0 Z = true := hw _ (List.mem_of_getElem? (i := 98) rfl)
theorem wd_99 {a0 : Array Value} {Z : State} (hw : ∀ d ∈ tables_1, d.before a0 Z = true) : (Jvm.Cond.declares ({ cls := "com/example/deferral_ledger/deferralledger/elections/DistributionElection", name := "changes", desc := "()J" } : Jvm.MethodName)).before a0 Z = true := hw _ (List.mem_of_getElem? (i := 99) rfl)
theorem wd_100 {a0 : Array Value} {Z : State} (hw : ∀ d ∈ tables_1, d.before a0 Z = true) : (Jvm.Cond.instanceMethod ({ cls := "com/example/deferral_ledger/deferralledger/elections/DistributionElection", name := "changes", desc := "()J" } : Jvm.MethodName)).before a0 Z = true := hw _ (List.mem_of_getElem? (i := 100) rfl)
theorem wd_101 {a0 : Array Value} {Z : State} (hw : ∀ d ∈ tables_1, d.before a0 Z = true) : (Jvm.Cond.selects "com/example/deferral_ledger/deferralledger/elections/DistributionElection" ({ cls := "com/example/deferral_ledger/deferralledger/elections/DistributionElection", name := "changes", desc := "()J" } : Jvm.MethodName) ({ cls := "com/example/deferral_ledger/deferralledger/elections/DistributionElection", name := "changes", desc := "()J" } : Jvm.MethodName)).before a0 Z = true := hw _ (List.mem_of_getElem? (i := 101) rfl)
theorem wd_102 {a0 : Array Value} {Z : State} (hw : ∀ d ∈ tables_1, d.before a0 Z = true) : (Jvm.Cond.code ({ cls := "com/example/deferral_ledger/deferralledger/elections/DistributionElection", name := "changes", desc := "()J" } : Jvm.MethodName) prog_25_method_9_code (1 : Nat) (Option.some Jvm.ClassFile.FieldType.long)).before a0 Z = true := hw _ (List.mem_of_getElem? (i := 102) rfl)
theorem wd_103 {a0 : Array Value} {Z : State} (hw : ∀ d ∈ tables_1, d.before a0 Z = true) : (Jvm.Cond.methodLink "com/example/deferral_ledger/deferralledger/elections/DistributionElectionByDefaultPinLaw" (53 : Nat) ({ cls := "com/example/deferral_ledger/deferralledger/elections/DistributionElection", name := "pushYears", desc := "()I" } : Jvm.MethodName)).before a0 Z = true := hw _ (List.mem_of_getElem? (i := 103) rfl)
theorem wd_104 {a0 : Array Value} {Z : State} (hw : ∀ d ∈ tables_1, d.before a0 Z = true) : (Jvm.Cond.declares ({ cls := "com/example/deferral_ledger/deferralledger/elections/DistributionElection", name := "pushYears", desc := "()I" } : Jvm.MethodName)).before a0 Z = true := hw _ (List.mem_of_getElem? (i := 104) rfl)
theorem wd_105 {a0 : Array Value} {Z : State} (hw : ∀ d ∈ tables_1, d.before a0 Z = true) : (Jvm.Cond.instanceMethod ({ cls := "com/example/deferral_ledger/deferralledger/elections/DistributionElection", name := "pushYears", desc := "()I" } : Jvm.MethodName)).before a0 Z = true := hw _ (List.mem_of_getElem? (i := 105) rfl)
theorem wd_106 {a0 : Array Value} {Z : State} (hw : ∀ d ∈ tables_1, d.before a0 Z = true) : (Jvm.Cond.selects "com/example/deferral_ledger/deferralledger/elections/DistributionElection" ({ cls := "com/example/deferral_ledger/deferralledger/elections/DistributionElection", name := "pushYears", desc := "()I" } : Jvm.MethodName) ({ cls := "com/example/deferral_ledger/deferralledger/elections/DistributionElection", name := "pushYears", desc := "()I" } : Jvm.MethodName)).before a0 Z = true := hw _ (List.mem_of_getElem? (i := 106) rfl)
theorem wd_107 {a0 : Array Value} {Z : State} (hw : ∀ d ∈ tables_1, d.before a0 Z = true) : (Jvm.Cond.code ({ cls := "com/example/deferral_ledger/deferralledger/elections/DistributionElection", name := "pushYears", desc := "()I" } : Jvm.MethodName) prog_25_method_10_code (1 : Nat) (Option.some Jvm.ClassFile.FieldType.int)).before a0 Z = true := hw _ (List.mem_of_getElem? (i := 107) rfl)
theorem wd_108 {a0 : Array Value} {Z : State} (hw : ∀ d ∈ tables_1, d.before a0 Z = true) : (Jvm.Cond.methodLink "com/example/deferral_ledger/deferralledger/elections/DistributionElectionByDefaultPinLaw" (56 : Nat) ({ cls := "com/example/deferral_ledger/deferralledger/elections/DistributionElection", name := "filed", desc := "()Ljava/util/Optional;" } : Jvm.MethodName)).before a0 Z = true := hw _ (List.mem_of_getElem? (i := 108) rfl)
theorem wd_109 {a0 : Array Value} {Z : State} (hw : ∀ d ∈ tables_1, d.before a0 Z = true) : (Jvm.Cond.declares ({ cls := "com/example/deferral_ledger/deferralledger/elections/DistributionElection", name := "filed", desc := "()Ljava/util/Optional;" } : Jvm.MethodName)).before a0 Z = true := hw _ (List.mem_of_getElem? (i := 109) rfl)
theorem wd_110 {a0 : Array Value} {Z : State} (hw : ∀ d ∈ tables_1, d.before a0 Z = true) : (Jvm.Cond.instanceMethod ({ cls := "com/example/deferral_ledger/deferralledger/elections/DistributionElection", name := "filed", desc := "()Ljava/util/Optional;" } : Jvm.MethodName)).before a0 Z = true := hw _ (List.mem_of_getElem? (i := 110) rfl)
theorem wd_111 {a0 : Array Value} {Z : State} (hw : ∀ d ∈ tables_1, d.before a0 Z = true) : (Jvm.Cond.selects "com/example/deferral_ledger/deferralledger/elections/DistributionElection" ({ cls := "com/example/deferral_ledger/deferralledger/elections/DistributionElection", name := "filed", desc := "()Ljava/util/Optional;" } : Jvm.MethodName) ({ cls := "com/example/deferral_ledger/deferralledger/elections/DistributionElection", name := "filed", desc := "()Ljava/util/Optional;" } : Jvm.MethodName)).before a0 Z = true := hw _ (List.mem_of_getElem? (i := 111) rfl)
theorem wd_112 {a0 : Array Value} {Z : State} (hw : ∀ d ∈ tables_1, d.before a0 Z = true) : (Jvm.Cond.code ({ cls := "com/example/deferral_ledger/deferralledger/elections/DistributionElection", name := "filed", desc := "()Ljava/util/Optional;" } : Jvm.MethodName) prog_25_method_11_code (1 : Nat) (Option.some (Jvm.ClassFile.FieldType.object "java/util/Optional"))).before a0 Z = true := hw _ (List.mem_of_getElem? (i := 112) rfl)
theorem wd_113 {a0 : Array Value} {Z : State} (hw : ∀ d ∈ tables_1, d.before a0 Z = true) : (Jvm.Cond.stringLink "java/lang/String" (7 : Nat) "").before a0 Z = true := hw _ (List.mem_of_getElem? (i := 113) rfl)
theorem wd_114 {a0 : Array Value} {Z : State} (hw : ∀ d ∈ tables_1, d.before a0 Z = true) : (Jvm.Cond.soleField "java/lang/String" "value").before a0 Z = true := hw _ (List.mem_of_getElem? (i := 114) rfl)
theorem wd_115 {a0 : Array Value} {Z : State} (hw : ∀ d ∈ tables_1, d.before a0 Z = true) : (Jvm.Cond.soleField "java/lang/String" "coder").before a0 Z = true := hw _ (List.mem_of_getElem? (i := 115) rfl)
theorem d1_0 : decode method_2_code 0 = .ok (.iload_n 1, 1) := by decide +kernel
theorem d1_1 : decode method_2_code 1 = .ok (.sipush 255, 3) := by decide +kernel
theorem d1_4 : decode method_2_code 4 = .ok (.iand, 1) := by decide +kernel
theorem d1_5 : decode method_2_code 5 = .ok (.i2c, 1) := by decide +kernel
theorem d1_6 : decode method_2_code 6 = .ok (.istore_n 2, 1) := by decide +kernel
theorem d1_7 : decode method_2_code 7 = .ok (.iload_n 1, 1) := by decide +kernel
theorem d1_8 : decode method_2_code 8 = .ok (.bipush 8, 2) := by decide +kernel
theorem d1_10 : decode method_2_code 10 = .ok (.iushr, 1) := by decide +kernel
theorem d1_11 : decode method_2_code 11 = .ok (.sipush 255, 3) := by decide +kernel
theorem d1_14 : decode method_2_code 14 = .ok (.iand, 1) := by decide +kernel
theorem d1_15 : decode method_2_code 15 = .ok (.i2c, 1) := by decide +kernel
theorem d1_16 : decode method_2_code 16 = .ok (.istore_n 3, 1) := by decide +kernel
theorem d1_17 : decode method_2_code 17 = .ok (.iload_n 1, 1) := by decide +kernel
theorem d1_18 : decode method_2_code 18 = .ok (.bipush 16, 2) := by decide +kernel
theorem d1_20 : decode method_2_code 20 = .ok (.iushr, 1) := by decide +kernel
theorem d1_21 : decode method_2_code 21 = .ok (.sipush 255, 3) := by decide +kernel
theorem d1_24 : decode method_2_code 24 = .ok (.iand, 1) := by decide +kernel
theorem d1_25 : decode method_2_code 25 = .ok (.i2c, 1) := by decide +kernel
theorem d1_26 : decode method_2_code 26 = .ok (.istore 4, 2) := by decide +kernel
theorem d1_28 : decode method_2_code 28 = .ok (.iload_n 0, 1) := by decide +kernel
theorem d1_29 : decode method_2_code 29 = .ok (.ifCond .ne 14, 3) := by decide +kernel
theorem d1_32 : decode method_2_code 32 = .ok (.new 7, 3) := by decide +kernel
theorem d1_35 : decode method_2_code 35 = .ok (.dup, 1) := by decide +kernel
theorem d1_36 : decode method_2_code 36 = .ok (.iconst 0, 1) := by decide +kernel
theorem d1_37 : decode method_2_code 37 = .ok (.newarray .char, 2) := by decide +kernel
theorem d1_39 : decode method_2_code 39 = .ok (.invokespecial 9, 3) := by decide +kernel
theorem d1_42 : decode method_2_code 42 = .ok (.areturn, 1) := by decide +kernel
theorem d1_43 : decode method_2_code 43 = .ok (.iload_n 0, 1) := by decide +kernel
theorem d1_44 : decode method_2_code 44 = .ok (.iconst 1, 1) := by decide +kernel
theorem d1_45 : decode method_2_code 45 = .ok (.if_icmp .ne 23, 3) := by decide +kernel
theorem d1_48 : decode method_2_code 48 = .ok (.iconst 1, 1) := by decide +kernel
theorem d1_49 : decode method_2_code 49 = .ok (.newarray .char, 2) := by decide +kernel
theorem d1_51 : decode method_2_code 51 = .ok (.astore 5, 2) := by decide +kernel
theorem d1_53 : decode method_2_code 53 = .ok (.aload 5, 2) := by decide +kernel
theorem d1_55 : decode method_2_code 55 = .ok (.iconst 0, 1) := by decide +kernel
theorem d1_56 : decode method_2_code 56 = .ok (.iload_n 2, 1) := by decide +kernel
theorem d1_57 : decode method_2_code 57 = .ok (.castore, 1) := by decide +kernel
theorem d1_58 : decode method_2_code 58 = .ok (.new 7, 3) := by decide +kernel
theorem d1_61 : decode method_2_code 61 = .ok (.dup, 1) := by decide +kernel
theorem d1_62 : decode method_2_code 62 = .ok (.aload 5, 2) := by decide +kernel
theorem d1_64 : decode method_2_code 64 = .ok (.invokespecial 9, 3) := by decide +kernel
theorem d1_67 : decode method_2_code 67 = .ok (.areturn, 1) := by decide +kernel
theorem d1_68 : decode method_2_code 68 = .ok (.iload_n 0, 1) := by decide +kernel
theorem d1_69 : decode method_2_code 69 = .ok (.iconst 2, 1) := by decide +kernel
theorem d1_70 : decode method_2_code 70 = .ok (.if_icmp .ne 28, 3) := by decide +kernel
theorem d1_73 : decode method_2_code 73 = .ok (.iconst 2, 1) := by decide +kernel
theorem d1_74 : decode method_2_code 74 = .ok (.newarray .char, 2) := by decide +kernel
theorem d1_76 : decode method_2_code 76 = .ok (.astore 5, 2) := by decide +kernel
theorem d1_78 : decode method_2_code 78 = .ok (.aload 5, 2) := by decide +kernel
theorem d1_80 : decode method_2_code 80 = .ok (.iconst 0, 1) := by decide +kernel
theorem d1_81 : decode method_2_code 81 = .ok (.iload_n 2, 1) := by decide +kernel
theorem d1_82 : decode method_2_code 82 = .ok (.castore, 1) := by decide +kernel
theorem d1_83 : decode method_2_code 83 = .ok (.aload 5, 2) := by decide +kernel
theorem d1_85 : decode method_2_code 85 = .ok (.iconst 1, 1) := by decide +kernel
theorem d1_86 : decode method_2_code 86 = .ok (.iload_n 3, 1) := by decide +kernel
theorem d1_87 : decode method_2_code 87 = .ok (.castore, 1) := by decide +kernel
theorem d1_88 : decode method_2_code 88 = .ok (.new 7, 3) := by decide +kernel
theorem d1_91 : decode method_2_code 91 = .ok (.dup, 1) := by decide +kernel
theorem d1_92 : decode method_2_code 92 = .ok (.aload 5, 2) := by decide +kernel
theorem d1_94 : decode method_2_code 94 = .ok (.invokespecial 9, 3) := by decide +kernel
theorem d1_97 : decode method_2_code 97 = .ok (.areturn, 1) := by decide +kernel
theorem d1_98 : decode method_2_code 98 = .ok (.iconst 3, 1) := by decide +kernel
theorem d1_99 : decode method_2_code 99 = .ok (.newarray .char, 2) := by decide +kernel
theorem d1_101 : decode method_2_code 101 = .ok (.astore 5, 2) := by decide +kernel
theorem d1_103 : decode method_2_code 103 = .ok (.aload 5, 2) := by decide +kernel
theorem d1_105 : decode method_2_code 105 = .ok (.iconst 0, 1) := by decide +kernel
theorem d1_106 : decode method_2_code 106 = .ok (.iload_n 2, 1) := by decide +kernel
theorem d1_107 : decode method_2_code 107 = .ok (.castore, 1) := by decide +kernel
theorem d1_108 : decode method_2_code 108 = .ok (.aload 5, 2) := by decide +kernel
theorem d1_110 : decode method_2_code 110 = .ok (.iconst 1, 1) := by decide +kernel
theorem d1_111 : decode method_2_code 111 = .ok (.iload_n 3, 1) := by decide +kernel
theorem d1_112 : decode method_2_code 112 = .ok (.castore, 1) := by decide +kernel
theorem d1_113 : decode method_2_code 113 = .ok (.aload 5, 2) := by decide +kernel
theorem d1_115 : decode method_2_code 115 = .ok (.iconst 2, 1) := by decide +kernel
theorem d1_116 : decode method_2_code 116 = .ok (.iload 4, 2) := by decide +kernel
theorem d1_118 : decode method_2_code 118 = .ok (.castore, 1) := by decide +kernel
theorem d1_119 : decode method_2_code 119 = .ok (.new 7, 3) := by decide +kernel
theorem d1_122 : decode method_2_code 122 = .ok (.dup, 1) := by decide +kernel
theorem d1_123 : decode method_2_code 123 = .ok (.aload 5, 2) := by decide +kernel
theorem d1_125 : decode method_2_code 125 = .ok (.invokespecial 9, 3) := by decide +kernel
theorem d1_128 : decode method_2_code 128 = .ok (.areturn, 1) := by decide +kernel
theorem d2_0 : decode jdk_42_method_3_code 0 = .ok (.aload_n 0, 1) := by decide +kernel
theorem d2_1 : decode jdk_42_method_3_code 1 = .ok (.aload_n 1, 1) := by decide +kernel
theorem d2_2 : decode jdk_42_method_3_code 2 = .ok (.iconst 0, 1) := by decide +kernel
theorem d2_3 : decode jdk_42_method_3_code 3 = .ok (.aload_n 1, 1) := by decide +kernel
theorem d2_4 : decode jdk_42_method_3_code 4 = .ok (.arraylength, 1) := by decide +kernel
theorem d2_5 : decode jdk_42_method_3_code 5 = .ok (.aconst_null, 1) := by decide +kernel
theorem d2_6 : decode jdk_42_method_3_code 6 = .ok (.invokespecial 27, 3) := by decide +kernel
theorem d2_9 : decode jdk_42_method_3_code 9 = .ok (.return_, 1) := by decide +kernel
theorem d3_0 : decode jdk_42_method_149_code 0 = .ok (.aload_n 0, 1) := by decide +kernel
theorem d3_1 : decode jdk_42_method_149_code 1 = .ok (.invokespecial 1, 3) := by decide +kernel
theorem d3_4 : decode jdk_42_method_149_code 4 = .ok (.iload_n 3, 1) := by decide +kernel
theorem d3_5 : decode jdk_42_method_149_code 5 = .ok (.ifCond .ne 22, 3) := by decide +kernel
theorem d3_8 : decode jdk_42_method_149_code 8 = .ok (.aload_n 0, 1) := by decide +kernel
theorem d3_9 : decode jdk_42_method_149_code 9 = .ok (.ldc 7, 2) := by decide +kernel
theorem d3_11 : decode jdk_42_method_149_code 11 = .ok (.getfield 9, 3) := by decide +kernel
theorem d3_14 : decode jdk_42_method_149_code 14 = .ok (.putfield 9, 3) := by decide +kernel
theorem d3_17 : decode jdk_42_method_149_code 17 = .ok (.aload_n 0, 1) := by decide +kernel
theorem d3_18 : decode jdk_42_method_149_code 18 = .ok (.ldc 7, 2) := by decide +kernel
theorem d3_20 : decode jdk_42_method_149_code 20 = .ok (.getfield 15, 3) := by decide +kernel
theorem d3_23 : decode jdk_42_method_149_code 23 = .ok (.putfield 15, 3) := by decide +kernel
theorem d3_26 : decode jdk_42_method_149_code 26 = .ok (.return_, 1) := by decide +kernel
theorem d3_27 : decode jdk_42_method_149_code 27 = .ok (.getstatic 38, 3) := by decide +kernel
theorem d3_30 : decode jdk_42_method_149_code 30 = .ok (.ifCond .eq 28, 3) := by decide +kernel
theorem d3_33 : decode jdk_42_method_149_code 33 = .ok (.aload_n 1, 1) := by decide +kernel
theorem d3_34 : decode jdk_42_method_149_code 34 = .ok (.iload_n 2, 1) := by decide +kernel
theorem d3_35 : decode jdk_42_method_149_code 35 = .ok (.iload_n 3, 1) := by decide +kernel
theorem d3_36 : decode jdk_42_method_149_code 36 = .ok (.invokestatic 177, 3) := by decide +kernel
theorem d3_39 : decode jdk_42_method_149_code 39 = .ok (.astore 5, 2) := by decide +kernel
theorem d3_41 : decode jdk_42_method_149_code 41 = .ok (.aload_n 0, 1) := by decide +kernel
theorem d3_42 : decode jdk_42_method_149_code 42 = .ok (.aload 5, 2) := by decide +kernel
theorem d3_44 : decode jdk_42_method_149_code 44 = .ok (.iload_n 3, 1) := by decide +kernel
theorem d3_45 : decode jdk_42_method_149_code 45 = .ok (.invokestatic 47, 3) := by decide +kernel
theorem d3_48 : decode jdk_42_method_149_code 48 = .ok (.putfield 15, 3) := by decide +kernel
theorem d3_51 : decode jdk_42_method_149_code 51 = .ok (.aload_n 0, 1) := by decide +kernel
theorem d3_52 : decode jdk_42_method_149_code 52 = .ok (.aload 5, 2) := by decide +kernel
theorem d3_54 : decode jdk_42_method_149_code 54 = .ok (.putfield 9, 3) := by decide +kernel
theorem d3_57 : decode jdk_42_method_149_code 57 = .ok (.return_, 1) := by decide +kernel
theorem d5_0 : decode jdk_52_method_16_code 0 = .ok (.iload_n 2, 1) := by decide +kernel
theorem d5_1 : decode jdk_52_method_16_code 1 = .ok (.newarray .byte, 2) := by decide +kernel
theorem d5_3 : decode jdk_52_method_16_code 3 = .ok (.astore_n 3, 1) := by decide +kernel
theorem d5_4 : decode jdk_52_method_16_code 4 = .ok (.aload_n 0, 1) := by decide +kernel
theorem d5_5 : decode jdk_52_method_16_code 5 = .ok (.iload_n 1, 1) := by decide +kernel
theorem d5_6 : decode jdk_52_method_16_code 6 = .ok (.aload_n 3, 1) := by decide +kernel
theorem d5_7 : decode jdk_52_method_16_code 7 = .ok (.iconst 0, 1) := by decide +kernel
theorem d5_8 : decode jdk_52_method_16_code 8 = .ok (.iload_n 2, 1) := by decide +kernel
theorem d5_9 : decode jdk_52_method_16_code 9 = .ok (.invokestatic 115, 3) := by decide +kernel
theorem d5_12 : decode jdk_52_method_16_code 12 = .ok (.istore 4, 2) := by decide +kernel
theorem d5_14 : decode jdk_52_method_16_code 14 = .ok (.iload 4, 2) := by decide +kernel
theorem d5_16 : decode jdk_52_method_16_code 16 = .ok (.iload_n 2, 1) := by decide +kernel
theorem d5_17 : decode jdk_52_method_16_code 17 = .ok (.if_icmp .eq 40, 3) := by decide +kernel
theorem d5_57 : decode jdk_52_method_16_code 57 = .ok (.aload_n 3, 1) := by decide +kernel
theorem d5_58 : decode jdk_52_method_16_code 58 = .ok (.areturn, 1) := by decide +kernel
theorem d6_0 : decode jdk_52_method_21_code 0 = .ok (.iconst 0, 1) := by decide +kernel
theorem d6_1 : decode jdk_52_method_21_code 1 = .ok (.istore 5, 2) := by decide +kernel
theorem d6_3 : decode jdk_52_method_21_code 3 = .ok (.iload 5, 2) := by decide +kernel
theorem d6_5 : decode jdk_52_method_21_code 5 = .ok (.iload 4, 2) := by decide +kernel
theorem d6_7 : decode jdk_52_method_21_code 7 = .ok (.if_icmp .ge 37, 3) := by decide +kernel
theorem d6_10 : decode jdk_52_method_21_code 10 = .ok (.aload_n 0, 1) := by decide +kernel
theorem d6_11 : decode jdk_52_method_21_code 11 = .ok (.iload_n 1, 1) := by decide +kernel
theorem d6_12 : decode jdk_52_method_21_code 12 = .ok (.caload, 1) := by decide +kernel
theorem d6_13 : decode jdk_52_method_21_code 13 = .ok (.istore 6, 2) := by decide +kernel
theorem d6_15 : decode jdk_52_method_21_code 15 = .ok (.iload 6, 2) := by decide +kernel
theorem d6_17 : decode jdk_52_method_21_code 17 = .ok (.sipush 255, 3) := by decide +kernel
theorem d6_20 : decode jdk_52_method_21_code 20 = .ok (.if_icmp .le 6, 3) := by decide +kernel
theorem d6_26 : decode jdk_52_method_21_code 26 = .ok (.aload_n 2, 1) := by decide +kernel
theorem d6_27 : decode jdk_52_method_21_code 27 = .ok (.iload_n 3, 1) := by decide +kernel
theorem d6_28 : decode jdk_52_method_21_code 28 = .ok (.iload 6, 2) := by decide +kernel
theorem d6_30 : decode jdk_52_method_21_code 30 = .ok (.i2b, 1) := by decide +kernel
theorem d6_31 : decode jdk_52_method_21_code 31 = .ok (.bastore, 1) := by decide +kernel
theorem d6_32 : decode jdk_52_method_21_code 32 = .ok (.iinc 1 1, 3) := by decide +kernel
theorem d6_35 : decode jdk_52_method_21_code 35 = .ok (.iinc 3 1, 3) := by decide +kernel
theorem d6_38 : decode jdk_52_method_21_code 38 = .ok (.iinc 5 1, 3) := by decide +kernel
theorem d6_41 : decode jdk_52_method_21_code 41 = .ok (.goto (-38), 3) := by decide +kernel
theorem d6_44 : decode jdk_52_method_21_code 44 = .ok (.iload 4, 2) := by decide +kernel
theorem d6_46 : decode jdk_52_method_21_code 46 = .ok (.ireturn, 1) := by decide +kernel
theorem d7_0 : decode jdk_52_method_15_code 0 = .ok (.iload_n 1, 1) := by decide +kernel
theorem d7_1 : decode jdk_52_method_15_code 1 = .ok (.aload_n 0, 1) := by decide +kernel
theorem d7_2 : decode jdk_52_method_15_code 2 = .ok (.arraylength, 1) := by decide +kernel
theorem d7_3 : decode jdk_52_method_15_code 3 = .ok (.isub, 1) := by decide +kernel
theorem d7_4 : decode jdk_52_method_15_code 4 = .ok (.bipush 31, 2) := by decide +kernel
theorem d7_6 : decode jdk_52_method_15_code 6 = .ok (.iushr, 1) := by decide +kernel
theorem d7_7 : decode jdk_52_method_15_code 7 = .ok (.i2b, 1) := by decide +kernel
theorem d7_8 : decode jdk_52_method_15_code 8 = .ok (.ireturn, 1) := by decide +kernel
theorem d8_0 : decode prog_25_method_2_code 0 = .ok (.new 2, 3) := by decide +kernel
theorem d8_3 : decode prog_25_method_2_code 3 = .ok (.dup, 1) := by decide +kernel
theorem d8_4 : decode prog_25_method_2_code 4 = .ok (.aload_n 0, 1) := by decide +kernel
theorem d8_5 : decode prog_25_method_2_code 5 = .ok (.iload_n 1, 1) := by decide +kernel
theorem d8_6 : decode prog_25_method_2_code 6 = .ok (.iload_n 2, 1) := by decide +kernel
theorem d8_7 : decode prog_25_method_2_code 7 = .ok (.aconst_null, 1) := by decide +kernel
theorem d8_8 : decode prog_25_method_2_code 8 = .ok (.aconst_null, 1) := by decide +kernel
theorem d8_9 : decode prog_25_method_2_code 9 = .ok (.invokespecial 7, 3) := by decide +kernel
theorem d8_12 : decode prog_25_method_2_code 12 = .ok (.areturn, 1) := by decide +kernel
theorem d9_0 : decode prog_25_method_1_code 0 = .ok (.aload_n 0, 1) := by decide +kernel
theorem d9_1 : decode prog_25_method_1_code 1 = .ok (.aload_n 1, 1) := by decide +kernel
theorem d9_2 : decode prog_25_method_1_code 2 = .ok (.iload_n 2, 1) := by decide +kernel
theorem d9_3 : decode prog_25_method_1_code 3 = .ok (.iload_n 3, 1) := by decide +kernel
theorem d9_4 : decode prog_25_method_1_code 4 = .ok (.aload 4, 2) := by decide +kernel
theorem d9_6 : decode prog_25_method_1_code 6 = .ok (.lconst 0, 1) := by decide +kernel
theorem d9_7 : decode prog_25_method_1_code 7 = .ok (.iconst 0, 1) := by decide +kernel
theorem d9_8 : decode prog_25_method_1_code 8 = .ok (.aload 5, 2) := by decide +kernel
theorem d9_10 : decode prog_25_method_1_code 10 = .ok (.invokespecial 1, 3) := by decide +kernel
theorem d9_13 : decode prog_25_method_1_code 13 = .ok (.return_, 1) := by decide +kernel
theorem d10_0 : decode prog_25_method_4_code 0 = .ok (.aload_n 0, 1) := by decide +kernel
theorem d10_1 : decode prog_25_method_4_code 1 = .ok (.invokespecial 22, 3) := by decide +kernel
theorem d10_4 : decode prog_25_method_4_code 4 = .ok (.aload_n 0, 1) := by decide +kernel
theorem d10_5 : decode prog_25_method_4_code 5 = .ok (.aload_n 1, 1) := by decide +kernel
theorem d10_6 : decode prog_25_method_4_code 6 = .ok (.putfield 10, 3) := by decide +kernel
theorem d10_9 : decode prog_25_method_4_code 9 = .ok (.aload_n 0, 1) := by decide +kernel
theorem d10_10 : decode prog_25_method_4_code 10 = .ok (.iload_n 2, 1) := by decide +kernel
theorem d10_11 : decode prog_25_method_4_code 11 = .ok (.putfield 14, 3) := by decide +kernel
theorem d10_14 : decode prog_25_method_4_code 14 = .ok (.aload_n 0, 1) := by decide +kernel
theorem d10_15 : decode prog_25_method_4_code 15 = .ok (.iload_n 3, 1) := by decide +kernel
theorem d10_16 : decode prog_25_method_4_code 16 = .ok (.putfield 27, 3) := by decide +kernel
theorem d10_19 : decode prog_25_method_4_code 19 = .ok (.aload_n 0, 1) := by decide +kernel
theorem d10_20 : decode prog_25_method_4_code 20 = .ok (.aload 4, 2) := by decide +kernel
theorem d10_22 : decode prog_25_method_4_code 22 = .ok (.putfield 30, 3) := by decide +kernel
theorem d10_25 : decode prog_25_method_4_code 25 = .ok (.aload_n 0, 1) := by decide +kernel
theorem d10_26 : decode prog_25_method_4_code 26 = .ok (.lload 5, 2) := by decide +kernel
theorem d10_28 : decode prog_25_method_4_code 28 = .ok (.putfield 18, 3) := by decide +kernel
theorem d10_31 : decode prog_25_method_4_code 31 = .ok (.aload_n 0, 1) := by decide +kernel
theorem d10_32 : decode prog_25_method_4_code 32 = .ok (.iload 7, 2) := by decide +kernel
theorem d10_34 : decode prog_25_method_4_code 34 = .ok (.putfield 34, 3) := by decide +kernel
theorem d10_37 : decode prog_25_method_4_code 37 = .ok (.aload_n 0, 1) := by decide +kernel
theorem d10_38 : decode prog_25_method_4_code 38 = .ok (.aload 8, 2) := by decide +kernel
theorem d10_40 : decode prog_25_method_4_code 40 = .ok (.putfield 37, 3) := by decide +kernel
theorem d10_43 : decode prog_25_method_4_code 43 = .ok (.return_, 1) := by decide +kernel
theorem d11_0 : decode prog_25_method_5_code 0 = .ok (.aload_n 0, 1) := by decide +kernel
theorem d11_1 : decode prog_25_method_5_code 1 = .ok (.getfield 10, 3) := by decide +kernel
theorem d11_4 : decode prog_25_method_5_code 4 = .ok (.areturn, 1) := by decide +kernel
theorem d12_0 : decode jdk_42_method_66_code 0 = .ok (.aload_n 0, 1) := by decide +kernel
theorem d12_1 : decode jdk_42_method_66_code 1 = .ok (.aload_n 1, 1) := by decide +kernel
theorem d12_2 : decode jdk_42_method_66_code 2 = .ok (.if_acmp .ne 5, 3) := by decide +kernel
theorem d12_5 : decode jdk_42_method_66_code 5 = .ok (.iconst 1, 1) := by decide +kernel
theorem d12_6 : decode jdk_42_method_66_code 6 = .ok (.ireturn, 1) := by decide +kernel
theorem d13_0 : decode prog_25_method_6_code 0 = .ok (.aload_n 0, 1) := by decide +kernel
theorem d13_1 : decode prog_25_method_6_code 1 = .ok (.getfield 14, 3) := by decide +kernel
theorem d13_4 : decode prog_25_method_6_code 4 = .ok (.ireturn, 1) := by decide +kernel
theorem d14_0 : decode prog_25_method_7_code 0 = .ok (.aload_n 0, 1) := by decide +kernel
theorem d14_1 : decode prog_25_method_7_code 1 = .ok (.getfield 27, 3) := by decide +kernel
theorem d14_4 : decode prog_25_method_7_code 4 = .ok (.ireturn, 1) := by decide +kernel
theorem d15_0 : decode prog_25_method_8_code 0 = .ok (.aload_n 0, 1) := by decide +kernel
theorem d15_1 : decode prog_25_method_8_code 1 = .ok (.getfield 30, 3) := by decide +kernel
theorem d15_4 : decode prog_25_method_8_code 4 = .ok (.invokestatic 40, 3) := by decide +kernel
theorem d15_7 : decode prog_25_method_8_code 7 = .ok (.areturn, 1) := by decide +kernel
theorem d16_0 : decode jdk_32_method_4_code 0 = .ok (.aload_n 0, 1) := by decide +kernel
theorem d16_1 : decode jdk_32_method_4_code 1 = .ok (.ifnonnull 9, 3) := by decide +kernel
theorem d16_4 : decode jdk_32_method_4_code 4 = .ok (.getstatic 1, 3) := by decide +kernel
theorem d16_7 : decode jdk_32_method_4_code 7 = .ok (.goto 11, 3) := by decide +kernel
theorem d16_18 : decode jdk_32_method_4_code 18 = .ok (.areturn, 1) := by decide +kernel
theorem d17_0 : decode jdk_32_method_6_code 0 = .ok (.aload_n 0, 1) := by decide +kernel
theorem d17_1 : decode jdk_32_method_6_code 1 = .ok (.getfield 13, 3) := by decide +kernel
theorem d17_4 : decode jdk_32_method_6_code 4 = .ok (.ifnull 7, 3) := by decide +kernel
theorem d17_11 : decode jdk_32_method_6_code 11 = .ok (.iconst 0, 1) := by decide +kernel
theorem d17_12 : decode jdk_32_method_6_code 12 = .ok (.ireturn, 1) := by decide +kernel
theorem d18_0 : decode prog_25_method_9_code 0 = .ok (.aload_n 0, 1) := by decide +kernel
theorem d18_1 : decode prog_25_method_9_code 1 = .ok (.getfield 18, 3) := by decide +kernel
theorem d18_4 : decode prog_25_method_9_code 4 = .ok (.lreturn, 1) := by decide +kernel
theorem d19_0 : decode prog_25_method_10_code 0 = .ok (.aload_n 0, 1) := by decide +kernel
theorem d19_1 : decode prog_25_method_10_code 1 = .ok (.getfield 34, 3) := by decide +kernel
theorem d19_4 : decode prog_25_method_10_code 4 = .ok (.ireturn, 1) := by decide +kernel
theorem d20_0 : decode prog_25_method_11_code 0 = .ok (.aload_n 0, 1) := by decide +kernel
theorem d20_1 : decode prog_25_method_11_code 1 = .ok (.getfield 37, 3) := by decide +kernel
theorem d20_4 : decode prog_25_method_11_code 4 = .ok (.invokestatic 40, 3) := by decide +kernel
theorem d20_7 : decode prog_25_method_11_code 7 = .ok (.areturn, 1) := by decide +kernel
theorem own_wS {Z : State} {a0 : Array Value} (hw : ∀ d ∈ tables_1, d.before a0 Z = true) : ∀ a ∈ Bundle.stringAtoms, a.before a0 Z = true := by
  intro a ha
  simp only [Bundle.stringAtoms, List.mem_cons, List.not_mem_nil, or_false] at ha
  rcases ha with rfl | rfl | rfl | rfl | rfl | rfl | rfl
  · exact (wd_7 hw)
  · exact (wd_6 hw)
  · exact (wd_23 hw)
  · exact (wd_33 hw)
  · exact (wd_31 hw)
  · exact (wd_114 hw)
  · exact (wd_115 hw)
/-- a Latin-1 char's byte -/
def own_b (x : Int32) : Int32 := x.toInt8.toInt32
theorem own_bb (x : Int32) : (x.toInt8.toInt32).toInt8.toInt32 = own_b x := by unfold own_b; simp
theorem own_le255 {x : Int32} (h : 0 ≤ x.toInt ∧ x.toInt ≤ 255) : ¬ (255 : Int32) < x := by
  rw [Int32.lt_iff_toInt_lt, show (255 : Int32).toInt = 255 from rfl]; omega
theorem own_nar {x : Int32} (h : 0 ≤ x.toInt ∧ x.toInt ≤ 255) : nar .char x = x := by
  rw [← Int32.toInt_inj]
  have k := c_i2c x
  show x.toUInt32.toUInt16.toUInt32.toInt32.toInt = x.toInt
  omega
def own_S (Z : State) (h : Heap) (a b : Addr) (vs : List Value) : Prop := Exa Z h a "java/lang/String" ∧ Fld Z h a "java/lang/String" "coder" "B" (.int 0) ∧ Fld Z h a "java/lang/String" "value" "[B" (.ref b) ∧ Lst Z h b .byte vs

set_option maxRecDepth 65536 in
set_option maxHeartbeats 40000000 in
theorem ctcoder_1 (l : Launch) (Z : State) (a0 : Array Value) (hw : ∀ d ∈ tables_1, d.before a0 Z = true) {J : Vm → Prop} (hJ : Stb J) (b : Addr) (x0 : Int32) (h0 : Heap) (Vb : Lst Z h0 b .byte [(.int (own_b x0))]) :
    Ct l Z y7 jdk_52_method_15_code 2 (some .byte) ({ frames := 0, cells := 0, slots := 0, locals := 0 } : Room) #[(.ref b), (.int (1 : Int32))] h0 [] J J (fun v h => v = some (.int (0 : Int32)) ∧ h0 = h) := by
  refine Ct.of hJ hJ (plainFor_of_name (by first | (simp [plainName, overriddenIn]; done) | decide +kernel)) ?_
  intro p e s m below meth c T0 X0
  refine Runs.top (g' := mkF m 0 #[.val (.ref b), .val (.int (1 : Int32))] []) (by first | (simp [entryFrame, mkF, argsToLocals, Value.category]; done) | rfl) ?_
  refine X0.iloadN (pc' := 1) d7_0 rfl rfl ?_
  refine X0.aloadN (pc' := 2) d7_1 rfl rfl rfl ?_
  refine X0.arraylength (pc' := 3) (n := (1 : Int32)) Vb rfl d7_2 rfl ?_
  refine X0.isub (pc' := 4) d7_3 rfl ?_
  show Runs p e below (T0.setTop (mkF m 4 #[.val (.ref b), .val (.int (1 : Int32))] [(.int (0 : Int32))])) _
  refine X0.bipush (pc' := 6) (z := 31) d7_4 rfl rfl ?_
  refine X0.iushr (pc' := 7) d7_6 rfl ?_
  refine X0.i2b (pc' := 8) d7_7 rfl ?_
  exact X0.zreturn rfl (by simp) d7_8 (by decide) (by decide) (by decide) ⟨rfl, rfl⟩
set_option maxRecDepth 65536 in
set_option maxHeartbeats 40000000 in
theorem ctcomp5_1 (l : Launch) (Z : State) (a0 : Array Value) (hw : ∀ d ∈ tables_1, d.before a0 Z = true) {J : Vm → Prop} (hJ : Stb J) (ca ba : Addr) (x0 : Int32) (h0 : Heap) (Vc : Lst Z h0 ca .char [(.int x0)]) (Vb : Lst Z h0 ba .byte [(.int (0 : Int32))]) (hne : ca ≠ ba) (gx0 : 0 ≤ x0.toInt ∧ x0.toInt ≤ 255) :
    Ct l Z y6 jdk_52_method_21_code 7 (some .int) ({ frames := 0, cells := 0, slots := 0, locals := 0 } : Room) #[(.ref ca), (.int (0 : Int32)), (.ref ba), (.int (0 : Int32)), (.int (1 : Int32))] h0 [ba] J J (fun v h => v = some (.int (1 : Int32)) ∧ Lst Z h ba .byte [(.int (own_b x0))]) := by
  refine Ct.of hJ hJ (plainFor_of_name (by first | (simp [plainName, overriddenIn]; done) | decide +kernel)) ?_
  intro p e s m below meth c T0 X0
  refine Runs.top (g' := mkF m 0 #[.val (.ref ca), .val (.int (0 : Int32)), .val (.ref ba), .val (.int (0 : Int32)), .val (.int (1 : Int32)), .unset, .unset] []) (by first | (simp [entryFrame, mkF, argsToLocals, Value.category]; done) | rfl) ?_
  refine X0.iconst (pc' := 1) (z := 0) d6_0 rfl rfl ?_
  refine X0.istore (pc' := 3) (l' := #[.val (.ref ca), .val (.int (0 : Int32)), .val (.ref ba), .val (.int (0 : Int32)), .val (.int (1 : Int32)), .val (.int (0 : Int32)), .unset]) d6_1 rfl rfl ?_
  refine X0.iload (pc' := 5) d6_3 rfl rfl ?_
  refine X0.iload (pc' := 7) d6_5 rfl rfl ?_
  refine X0.icmpNo (pc' := 10) d6_7 (by decide) rfl ?_
  refine X0.aloadN (pc' := 11) d6_10 rfl rfl rfl ?_
  refine X0.iloadN (pc' := 12) d6_11 rfl rfl ?_
  refine X0.caload (pc' := 13) (v := (.int x0)) Vc (show Inb (0 : Int32) 1 from ⟨by decide, by decide⟩) rfl d6_12 rfl ?_
  refine X0.istore (pc' := 15) (l' := #[.val (.ref ca), .val (.int (0 : Int32)), .val (.ref ba), .val (.int (0 : Int32)), .val (.int (1 : Int32)), .val (.int (0 : Int32)), .val (.int x0)]) d6_13 rfl rfl ?_
  refine X0.iload (pc' := 17) d6_15 rfl rfl ?_
  refine X0.sipush (pc' := 20) (z := 255) d6_17 rfl rfl ?_
  refine X0.icmpYes (pc' := 26) d6_20 (flt (own_le255 gx0)).2.2.2 (by decide) (by decide) ?_
  refine X0.aloadN (pc' := 27) d6_26 rfl rfl rfl ?_
  refine X0.iloadN (pc' := 28) d6_27 rfl rfl ?_
  refine X0.iload (pc' := 30) d6_28 rfl rfl ?_
  refine X0.i2b (pc' := 31) d6_30 rfl ?_
  refine X0.bastore (pc' := 32) Vb (show Inb (0 : Int32) 1 from ⟨by decide, by decide⟩) d6_31 rfl (Or.inl (by simp)) (fun T1 h1 X1 W1 => ?_)
  rw [own_bb] at W1
  have V1 : Lst Z h1 ba .byte [(.int (own_b x0))] := Vb.set W1
  have Vc_1 := Vc.other W1 hne
  refine X1.iinc (pc' := 35) (z := 1) (l' := #[.val (.ref ca), .val (.int (1 : Int32)), .val (.ref ba), .val (.int (0 : Int32)), .val (.int (1 : Int32)), .val (.int (0 : Int32)), .val (.int x0)]) d6_32 rfl rfl rfl rfl ?_
  refine X1.iinc (pc' := 38) (z := 1) (l' := #[.val (.ref ca), .val (.int (1 : Int32)), .val (.ref ba), .val (.int (1 : Int32)), .val (.int (1 : Int32)), .val (.int (0 : Int32)), .val (.int x0)]) d6_35 rfl rfl rfl rfl ?_
  refine X1.iinc (pc' := 41) (z := 1) (l' := #[.val (.ref ca), .val (.int (1 : Int32)), .val (.ref ba), .val (.int (1 : Int32)), .val (.int (1 : Int32)), .val (.int (1 : Int32)), .val (.int x0)]) d6_38 rfl rfl rfl rfl ?_
  refine X1.goto (pc' := 3) d6_41 (by decide) (by decide) ?_
  refine X1.iload (pc' := 5) d6_3 rfl rfl ?_
  refine X1.iload (pc' := 7) d6_5 rfl rfl ?_
  refine X1.icmpYes (pc' := 44) d6_7 (by decide) (by decide) (by decide) ?_
  refine X1.iload (pc' := 46) d6_44 rfl rfl ?_
  exact X1.ireturn rfl d6_46 (by decide) (by decide) ⟨rfl, V1⟩
set_option maxRecDepth 65536 in
set_option maxHeartbeats 40000000 in
theorem ctcomp3_1 (l : Launch) (Z : State) (a0 : Array Value) (hw : ∀ d ∈ tables_1, d.before a0 Z = true) {J : Vm → Prop} (hJ : Stb J) (ca : Addr) (x0 : Int32) (h0 : Heap) (Vc : Lst Z h0 ca .char [(.int x0)]) (gx0 : 0 ≤ x0.toInt ∧ x0.toInt ≤ 255) :
    Ct l Z y5 jdk_52_method_16_code 6 (some (.array .byte)) ({ frames := 1, cells := 1, slots := 1, locals := 18 } : Room) #[(.ref ca), (.int (0 : Int32)), (.int (1 : Int32))] h0 [] J J (fun v h => ∃ b, v = some (.ref b) ∧ h0.size ≤ b ∧ Lst Z h b .byte [(.int (own_b x0))]) := by
  refine Ct.of hJ hJ (plainFor_of_name (by first | (simp [plainName, overriddenIn]; done) | decide +kernel)) ?_
  intro p e s m below meth c T0 X0
  refine Runs.top (g' := mkF m 0 #[.val (.ref ca), .val (.int (0 : Int32)), .val (.int (1 : Int32)), .unset, .unset, .unset] []) (by first | (simp [entryFrame, mkF, argsToLocals, Value.category]; done) | rfl) ?_
  refine X0.iloadN (pc' := 1) d5_0 rfl rfl ?_
  refine X0.newarray (pc' := 3) (ty := .byte) rfl (wd_23 hw) d5_1 rfl (cap := 1) ⟨by decide, by decide⟩ (by decide) (by decide) (by decide) (fun T1 h1 b1 X1 g1 E1 V1 => ?_)
  have sz_b1 : h0.size ≤ b1 := g1 ▸ X0.size
  have ne_ca_b1 : ca ≠ b1 := Nat.ne_of_lt (g1 ▸ Vc.lt)
  have Vc_1 := Vc.ext E1
  have V1' : Lst Z h1 b1 .byte [(.int (0 : Int32))] := V1
  refine X1.astoreN (pc' := 4) (l' := #[.val (.ref ca), .val (.int (0 : Int32)), .val (.int (1 : Int32)), .val (.ref b1), .unset, .unset]) d5_3 rfl rfl rfl ?_
  refine X1.aloadN (pc' := 5) d5_4 rfl rfl rfl ?_
  refine X1.iloadN (pc' := 6) d5_5 rfl rfl ?_
  refine X1.aloadN (pc' := 7) d5_6 rfl rfl rfl ?_
  refine X1.iconst (pc' := 8) (z := 0) d5_7 rfl rfl ?_
  refine X1.iloadN (pc' := 9) d5_8 rfl rfl ?_
  refine X1.callS (pc' := 12) (W := 0) (argsL := [(.ref ca), (.int (0 : Int32)), (.ref b1), (.int (0 : Int32)), (.int (1 : Int32))]) (rest := []) (ctcomp5_1 l Z a0 hw hJ ca b1 x0 h1 Vc_1 V1' ne_ca_b1 gx0) (wd_24 hw) (wd_25 hw) (wd_21 hw) (wd_26 hw) (by decide) pd_0 rfl rfl rfl rfl d5_9 rfl (by decide) rfl (by decide) (by decide) (by decide) ((allS (Or.inr sz_b1) all0)) (fun T2 h2 v2 X2 K2 Q2 => ?_)
  have Vc_2 := Vc_1.keep K2 (ninS ne_ca_b1 nin0)
  obtain ⟨rfl, Vb2⟩ := Q2
  show Runs p e below (T2.setTop (mkF m 12 #[.val (.ref ca), .val (.int (0 : Int32)), .val (.int (1 : Int32)), .val (.ref b1), .unset, .unset] [(.int (1 : Int32))])) _
  refine X2.istore (pc' := 14) (l' := #[.val (.ref ca), .val (.int (0 : Int32)), .val (.int (1 : Int32)), .val (.ref b1), .val (.int (1 : Int32)), .unset]) d5_12 rfl rfl ?_
  refine X2.iload (pc' := 16) d5_14 rfl rfl ?_
  refine X2.iloadN (pc' := 17) d5_16 rfl rfl ?_
  refine X2.icmpYes (pc' := 57) d5_17 (by decide) (by decide) (by decide) ?_
  refine X2.aloadN (pc' := 58) d5_57 rfl rfl rfl ?_
  exact X2.areturn rfl rfl rfl rfl d5_58 (by decide) (by decide) ⟨_, rfl, sz_b1, Vb2⟩
set_option maxRecDepth 65536 in
set_option maxHeartbeats 40000000 in
theorem ctinit4_1 (l : Launch) (Z : State) (a0 : Array Value) (hw : ∀ d ∈ tables_1, d.before a0 Z = true) {J : Vm → Prop} (hJ : Stb J) (a ca : Addr) (cz : Int32) (x0 : Int32) (h0 : Heap) (E_a : Exa Z h0 a "java/lang/String") (Fvalue_a : Fld Z h0 a "java/lang/String" "value" "[B" .null) (Fcoder_a : Fld Z h0 a "java/lang/String" "coder" "B" (.int (0 : Int32))) (Vc : Lst Z h0 ca .char [(.int x0)]) (hne : ca ≠ a) (Sc : Sta Z h0 "java/lang/String" "COMPACT_STRINGS" "Z" (.int cz)) (hcz : cz ≠ (0 : Int32)) (gx0 : 0 ≤ x0.toInt ∧ x0.toInt ≤ 255) :
    Ct l Z y3 jdk_42_method_149_code 6 none ({ frames := 2, cells := 1, slots := 1, locals := 35 } : Room) #[(.ref a), (.ref ca), (.int (0 : Int32)), (.int (1 : Int32)), .null] h0 [a] J J (fun v h => v = none ∧ ∃ b, h0.size ≤ b ∧ own_S Z h a b [(.int (own_b x0))]) := by
  refine Ct.of hJ hJ (plainFor_of_name (by first | (simp [plainName, overriddenIn]; done) | decide +kernel)) ?_
  intro p e s m below meth c T0 X0
  refine Runs.top (g' := mkF m 0 #[.val (.ref a), .val (.ref ca), .val (.int (0 : Int32)), .val (.int (1 : Int32)), .val .null, .unset] []) (by first | (simp [entryFrame, mkF, argsToLocals, Value.category]; done) | rfl) ?_
  refine X0.aloadN (pc' := 1) d3_0 rfl rfl rfl ?_
  refine X0.initObj (pc' := 4) (W := 0) (wd_15 hw) (wd_16 hw) (wd_17 hw) rfl d3_1 rfl (by decide) rfl (by decide) (fun T1 X1 => ?_)
  refine X1.iloadN (pc' := 5) d3_4 rfl rfl ?_
  refine X1.ifYes (pc' := 27) d3_5 (by decide) (by decide) (by decide) ?_
  refine X1.getstatic (pc' := 30) (host := "") (Or.inl (wd_18 hw)) Via.refl Sc d3_27 rfl (fun T2 X2 => ?_)
  refine X2.ifNo (pc' := 33) d3_30 (feq hcz).1 rfl ?_
  refine X2.aloadN (pc' := 34) d3_33 rfl rfl rfl ?_
  refine X2.iloadN (pc' := 35) d3_34 rfl rfl ?_
  refine X2.iloadN (pc' := 36) d3_35 rfl rfl ?_
  refine X2.callS (pc' := 39) (W := 0) (argsL := [(.ref ca), (.int (0 : Int32)), (.int (1 : Int32))]) (rest := []) (ctcomp3_1 l Z a0 hw hJ ca x0 h0 Vc gx0) (wd_19 hw) (wd_20 hw) (wd_21 hw) (wd_22 hw) (by decide) pd_1 rfl rfl rfl rfl d3_36 rfl (by decide) rfl (by decide) (by decide) (by decide) allWs0 (fun T3 h3 v3 X3 K3 Q3 => ?_)
  have E_a_3 := E_a.keep K3
  have Fvalue_a_3 := Fvalue_a.keep K3 nin0
  have Fcoder_a_3 := Fcoder_a.keep K3 nin0
  have Vc_3 := Vc.keep K3 nin0
  have Sc_3 := sta_keep0 Sc K3
  obtain ⟨bb, rfl, szb, Vbb⟩ := Q3
  have sz_bb : h0.size ≤ bb := Nat.le_trans X2.size szb
  have ne_a_bb : a ≠ bb := Nat.ne_of_lt (Nat.lt_of_lt_of_le E_a.lt szb)
  have ne_ca_bb : ca ≠ bb := Nat.ne_of_lt (Nat.lt_of_lt_of_le Vc.lt szb)
  show Runs p e below (T3.setTop (mkF m 39 #[.val (.ref a), .val (.ref ca), .val (.int (0 : Int32)), .val (.int (1 : Int32)), .val .null, .unset] [(.ref bb)])) _
  refine X3.astore (pc' := 41) (l' := #[.val (.ref a), .val (.ref ca), .val (.int (0 : Int32)), .val (.int (1 : Int32)), .val .null, .val (.ref bb)]) d3_39 rfl rfl rfl ?_
  refine X3.aloadN (pc' := 42) d3_41 rfl rfl rfl ?_
  refine X3.aload (pc' := 44) d3_42 rfl rfl rfl ?_
  refine X3.iloadN (pc' := 45) d3_44 rfl rfl ?_
  refine X3.callS (pc' := 48) (W := 1) (argsL := [(.ref bb), (.int (1 : Int32))]) (rest := [(.ref a)]) (ctcoder_1 l Z a0 hw hJ bb x0 h3 Vbb) (wd_27 hw) (wd_28 hw) (wd_21 hw) (wd_29 hw) (by decide) pd_2 rfl rfl rfl rfl d3_45 rfl (by decide) rfl (by decide) (by decide) (by decide) allWs0 (fun T4 h4 v4 X4 K4 Q4 => ?_)
  obtain ⟨rfl, rfl⟩ := Q4
  show Runs p e below (T4.setTop (mkF m 48 #[.val (.ref a), .val (.ref ca), .val (.int (0 : Int32)), .val (.int (1 : Int32)), .val .null, .val (.ref bb)] [(.int (0 : Int32)), (.ref a)])) _
  refine X4.putfieldN (pc' := 51) (v' := (.int (0 : Int32))) (wd_30 hw) Via.refl Fcoder_a_3 E_a_3 (Or.inr ⟨(wd_31 hw), rfl, rfl⟩) (wd_6 hw) (ty := .byte) (by decide) rfl (by decide) d3_48 rfl (Or.inl (by simp)) (fun T5 h5 X5 W5 => ?_)
  have Fw5 := Fld.same W5 Fcoder_a_3
  have E_a_5 := Exa.wr W5 E_a_3
  have Fvalue_a_5 := Fld.other W5 Fvalue_a_3 (Or.inr (slot_ne (Or.inr (wd_33 hw)) (Or.inr (wd_31 hw)) (by decide) (t := (.array .byte)) (t' := .byte) (by decide) (by decide)))
  have Vc_5 := Vc_3.other W5 hne
  have Sc_5 := Sta.wr W5 Sc_3
  have Vbb_5 := Vbb.other W5 (Ne.symm ne_a_bb)
  refine X5.aloadN (pc' := 52) d3_51 rfl rfl rfl ?_
  refine X5.aload (pc' := 54) d3_52 rfl rfl rfl ?_
  refine X5.putfield (pc' := 57) (host := "") (Or.inl (wd_32 hw)) Via.refl Fvalue_a_5 E_a_5 (Or.inr ⟨(wd_33 hw), rfl, rfl⟩) (wd_6 hw) (ty := (.array .byte)) (by decide) rfl rfl d3_54 rfl (Or.inl (by simp)) (fun T6 h6 X6 W6 => ?_)
  have Fw6 := Fld.same W6 Fvalue_a_5
  have E_a_6 := Exa.wr W6 E_a_5
  have Fw5_6 := Fld.other W6 Fw5 (Or.inr (slot_ne (Or.inr (wd_31 hw)) (Or.inr (wd_33 hw)) (by decide) (t := .byte) (t' := (.array .byte)) (by decide) (by decide)))
  have Vc_6 := Vc_5.other W6 hne
  have Sc_6 := Sta.wr W6 Sc_5
  have Vbb_6 := Vbb_5.other W6 (Ne.symm ne_a_bb)
  exact X6.vreturn rfl d3_57 (by decide) (by decide) ⟨rfl, bb, szb, E_a_6, Fw5_6, Fw6, Vbb_6⟩
set_option maxRecDepth 65536 in
set_option maxHeartbeats 40000000 in
theorem ctinit1_1 (l : Launch) (Z : State) (a0 : Array Value) (hw : ∀ d ∈ tables_1, d.before a0 Z = true) {J : Vm → Prop} (hJ : Stb J) (a ca : Addr) (cz : Int32) (x0 : Int32) (h0 : Heap) (E_a : Exa Z h0 a "java/lang/String") (Fvalue_a : Fld Z h0 a "java/lang/String" "value" "[B" .null) (Fcoder_a : Fld Z h0 a "java/lang/String" "coder" "B" (.int (0 : Int32))) (Vc : Lst Z h0 ca .char [(.int x0)]) (hne : ca ≠ a) (Sc : Sta Z h0 "java/lang/String" "COMPACT_STRINGS" "Z" (.int cz)) (hcz : cz ≠ (0 : Int32)) (gx0 : 0 ≤ x0.toInt ∧ x0.toInt ≤ 255) :
    Ct l Z y2 jdk_42_method_3_code 2 none ({ frames := 3, cells := 1, slots := 1, locals := 52 } : Room) #[(.ref a), (.ref ca)] h0 [a] J J (fun v h => v = none ∧ ∃ b, h0.size ≤ b ∧ own_S Z h a b [(.int (own_b x0))]) := by
  refine Ct.of hJ hJ (plainFor_of_name (by first | (simp [plainName, overriddenIn]; done) | decide +kernel)) ?_
  intro p e s m below meth c T0 X0
  refine Runs.top (g' := mkF m 0 #[.val (.ref a), .val (.ref ca)] []) (by first | (simp [entryFrame, mkF, argsToLocals, Value.category]; done) | rfl) ?_
  refine X0.aloadN (pc' := 1) d2_0 rfl rfl rfl ?_
  refine X0.aloadN (pc' := 2) d2_1 rfl rfl rfl ?_
  refine X0.iconst (pc' := 3) (z := 0) d2_2 rfl rfl ?_
  refine X0.aloadN (pc' := 4) d2_3 rfl rfl rfl ?_
  refine X0.arraylength (pc' := 5) (n := (1 : Int32)) Vc rfl d2_4 rfl ?_
  refine X0.aconstNull (pc' := 6) d2_5 rfl ?_
  refine X0.special (pc' := 9) (W := 0) (a := a) (argsL := [(.ref ca), (.int (0 : Int32)), (.int (1 : Int32)), .null]) (rest := []) (ctinit4_1 l Z a0 hw hJ a ca cz x0 h0 E_a Fvalue_a Fcoder_a Vc hne Sc hcz gx0) rfl (wd_11 hw) (wd_12 hw) (wd_7 hw) (wd_14 hw) (by decide) pd_3 rfl rfl rfl rfl d2_6 rfl (by decide) rfl (by decide) (by decide) (by decide) ((allS (Or.inl (by simp)) all0)) (fun T1 h1 v1 X1 K1 Q1 => ?_)
  have E_a_1 := E_a.keep K1
  have Vc_1 := Vc.keep K1 (ninS hne nin0)
  have Sc_1 := sta_keepL Sc K1 (exaS E_a exa0)
  obtain ⟨rfl, bb, szb, Sa⟩ := Q1
  show Runs p e below (T1.setTop (mkF m 9 #[.val (.ref a), .val (.ref ca)] [])) _
  exact X1.vreturn rfl d2_9 (by decide) (by decide) ⟨rfl, bb, szb, Sa⟩
set_option maxRecDepth 65536 in
set_option maxHeartbeats 40000000 in
theorem ctcoder_2 (l : Launch) (Z : State) (a0 : Array Value) (hw : ∀ d ∈ tables_1, d.before a0 Z = true) {J : Vm → Prop} (hJ : Stb J) (b : Addr) (x0 x1 : Int32) (h0 : Heap) (Vb : Lst Z h0 b .byte [(.int (own_b x0)), (.int (own_b x1))]) :
    Ct l Z y7 jdk_52_method_15_code 2 (some .byte) ({ frames := 0, cells := 0, slots := 0, locals := 0 } : Room) #[(.ref b), (.int (2 : Int32))] h0 [] J J (fun v h => v = some (.int (0 : Int32)) ∧ h0 = h) := by
  refine Ct.of hJ hJ (plainFor_of_name (by first | (simp [plainName, overriddenIn]; done) | decide +kernel)) ?_
  intro p e s m below meth c T0 X0
  refine Runs.top (g' := mkF m 0 #[.val (.ref b), .val (.int (2 : Int32))] []) (by first | (simp [entryFrame, mkF, argsToLocals, Value.category]; done) | rfl) ?_
  refine X0.iloadN (pc' := 1) d7_0 rfl rfl ?_
  refine X0.aloadN (pc' := 2) d7_1 rfl rfl rfl ?_
  refine X0.arraylength (pc' := 3) (n := (2 : Int32)) Vb rfl d7_2 rfl ?_
  refine X0.isub (pc' := 4) d7_3 rfl ?_
  show Runs p e below (T0.setTop (mkF m 4 #[.val (.ref b), .val (.int (2 : Int32))] [(.int (0 : Int32))])) _
  refine X0.bipush (pc' := 6) (z := 31) d7_4 rfl rfl ?_
  refine X0.iushr (pc' := 7) d7_6 rfl ?_
  refine X0.i2b (pc' := 8) d7_7 rfl ?_
  exact X0.zreturn rfl (by simp) d7_8 (by decide) (by decide) (by decide) ⟨rfl, rfl⟩
set_option maxRecDepth 65536 in
set_option maxHeartbeats 40000000 in
theorem ctcomp5_2 (l : Launch) (Z : State) (a0 : Array Value) (hw : ∀ d ∈ tables_1, d.before a0 Z = true) {J : Vm → Prop} (hJ : Stb J) (ca ba : Addr) (x0 x1 : Int32) (h0 : Heap) (Vc : Lst Z h0 ca .char [(.int x0), (.int x1)]) (Vb : Lst Z h0 ba .byte [(.int (0 : Int32)), (.int (0 : Int32))]) (hne : ca ≠ ba) (gx0 : 0 ≤ x0.toInt ∧ x0.toInt ≤ 255) (gx1 : 0 ≤ x1.toInt ∧ x1.toInt ≤ 255) :
    Ct l Z y6 jdk_52_method_21_code 7 (some .int) ({ frames := 0, cells := 0, slots := 0, locals := 0 } : Room) #[(.ref ca), (.int (0 : Int32)), (.ref ba), (.int (0 : Int32)), (.int (2 : Int32))] h0 [ba] J J (fun v h => v = some (.int (2 : Int32)) ∧ Lst Z h ba .byte [(.int (own_b x0)), (.int (own_b x1))]) := by
  refine Ct.of hJ hJ (plainFor_of_name (by first | (simp [plainName, overriddenIn]; done) | decide +kernel)) ?_
  intro p e s m below meth c T0 X0
  refine Runs.top (g' := mkF m 0 #[.val (.ref ca), .val (.int (0 : Int32)), .val (.ref ba), .val (.int (0 : Int32)), .val (.int (2 : Int32)), .unset, .unset] []) (by first | (simp [entryFrame, mkF, argsToLocals, Value.category]; done) | rfl) ?_
  refine X0.iconst (pc' := 1) (z := 0) d6_0 rfl rfl ?_
  refine X0.istore (pc' := 3) (l' := #[.val (.ref ca), .val (.int (0 : Int32)), .val (.ref ba), .val (.int (0 : Int32)), .val (.int (2 : Int32)), .val (.int (0 : Int32)), .unset]) d6_1 rfl rfl ?_
  refine X0.iload (pc' := 5) d6_3 rfl rfl ?_
  refine X0.iload (pc' := 7) d6_5 rfl rfl ?_
  refine X0.icmpNo (pc' := 10) d6_7 (by decide) rfl ?_
  refine X0.aloadN (pc' := 11) d6_10 rfl rfl rfl ?_
  refine X0.iloadN (pc' := 12) d6_11 rfl rfl ?_
  refine X0.caload (pc' := 13) (v := (.int x0)) Vc (show Inb (0 : Int32) 2 from ⟨by decide, by decide⟩) rfl d6_12 rfl ?_
  refine X0.istore (pc' := 15) (l' := #[.val (.ref ca), .val (.int (0 : Int32)), .val (.ref ba), .val (.int (0 : Int32)), .val (.int (2 : Int32)), .val (.int (0 : Int32)), .val (.int x0)]) d6_13 rfl rfl ?_
  refine X0.iload (pc' := 17) d6_15 rfl rfl ?_
  refine X0.sipush (pc' := 20) (z := 255) d6_17 rfl rfl ?_
  refine X0.icmpYes (pc' := 26) d6_20 (flt (own_le255 gx0)).2.2.2 (by decide) (by decide) ?_
  refine X0.aloadN (pc' := 27) d6_26 rfl rfl rfl ?_
  refine X0.iloadN (pc' := 28) d6_27 rfl rfl ?_
  refine X0.iload (pc' := 30) d6_28 rfl rfl ?_
  refine X0.i2b (pc' := 31) d6_30 rfl ?_
  refine X0.bastore (pc' := 32) Vb (show Inb (0 : Int32) 2 from ⟨by decide, by decide⟩) d6_31 rfl (Or.inl (by simp)) (fun T1 h1 X1 W1 => ?_)
  rw [own_bb] at W1
  have V1 : Lst Z h1 ba .byte [(.int (own_b x0)), (.int (0 : Int32))] := Vb.set W1
  have Vc_1 := Vc.other W1 hne
  refine X1.iinc (pc' := 35) (z := 1) (l' := #[.val (.ref ca), .val (.int (1 : Int32)), .val (.ref ba), .val (.int (0 : Int32)), .val (.int (2 : Int32)), .val (.int (0 : Int32)), .val (.int x0)]) d6_32 rfl rfl rfl rfl ?_
  refine X1.iinc (pc' := 38) (z := 1) (l' := #[.val (.ref ca), .val (.int (1 : Int32)), .val (.ref ba), .val (.int (1 : Int32)), .val (.int (2 : Int32)), .val (.int (0 : Int32)), .val (.int x0)]) d6_35 rfl rfl rfl rfl ?_
  refine X1.iinc (pc' := 41) (z := 1) (l' := #[.val (.ref ca), .val (.int (1 : Int32)), .val (.ref ba), .val (.int (1 : Int32)), .val (.int (2 : Int32)), .val (.int (1 : Int32)), .val (.int x0)]) d6_38 rfl rfl rfl rfl ?_
  refine X1.goto (pc' := 3) d6_41 (by decide) (by decide) ?_
  refine X1.iload (pc' := 5) d6_3 rfl rfl ?_
  refine X1.iload (pc' := 7) d6_5 rfl rfl ?_
  refine X1.icmpNo (pc' := 10) d6_7 (by decide) rfl ?_
  refine X1.aloadN (pc' := 11) d6_10 rfl rfl rfl ?_
  refine X1.iloadN (pc' := 12) d6_11 rfl rfl ?_
  refine X1.caload (pc' := 13) (v := (.int x1)) Vc_1 (show Inb (1 : Int32) 2 from ⟨by decide, by decide⟩) rfl d6_12 rfl ?_
  refine X1.istore (pc' := 15) (l' := #[.val (.ref ca), .val (.int (1 : Int32)), .val (.ref ba), .val (.int (1 : Int32)), .val (.int (2 : Int32)), .val (.int (1 : Int32)), .val (.int x1)]) d6_13 rfl rfl ?_
  refine X1.iload (pc' := 17) d6_15 rfl rfl ?_
  refine X1.sipush (pc' := 20) (z := 255) d6_17 rfl rfl ?_
  refine X1.icmpYes (pc' := 26) d6_20 (flt (own_le255 gx1)).2.2.2 (by decide) (by decide) ?_
  refine X1.aloadN (pc' := 27) d6_26 rfl rfl rfl ?_
  refine X1.iloadN (pc' := 28) d6_27 rfl rfl ?_
  refine X1.iload (pc' := 30) d6_28 rfl rfl ?_
  refine X1.i2b (pc' := 31) d6_30 rfl ?_
  refine X1.bastore (pc' := 32) V1 (show Inb (1 : Int32) 2 from ⟨by decide, by decide⟩) d6_31 rfl (Or.inl (by simp)) (fun T2 h2 X2 W2 => ?_)
  rw [own_bb] at W2
  have V2 : Lst Z h2 ba .byte [(.int (own_b x0)), (.int (own_b x1))] := V1.set W2
  have Vc_2 := Vc_1.other W2 hne
  refine X2.iinc (pc' := 35) (z := 1) (l' := #[.val (.ref ca), .val (.int (2 : Int32)), .val (.ref ba), .val (.int (1 : Int32)), .val (.int (2 : Int32)), .val (.int (1 : Int32)), .val (.int x1)]) d6_32 rfl rfl rfl rfl ?_
  refine X2.iinc (pc' := 38) (z := 1) (l' := #[.val (.ref ca), .val (.int (2 : Int32)), .val (.ref ba), .val (.int (2 : Int32)), .val (.int (2 : Int32)), .val (.int (1 : Int32)), .val (.int x1)]) d6_35 rfl rfl rfl rfl ?_
  refine X2.iinc (pc' := 41) (z := 1) (l' := #[.val (.ref ca), .val (.int (2 : Int32)), .val (.ref ba), .val (.int (2 : Int32)), .val (.int (2 : Int32)), .val (.int (2 : Int32)), .val (.int x1)]) d6_38 rfl rfl rfl rfl ?_
  refine X2.goto (pc' := 3) d6_41 (by decide) (by decide) ?_
  refine X2.iload (pc' := 5) d6_3 rfl rfl ?_
  refine X2.iload (pc' := 7) d6_5 rfl rfl ?_
  refine X2.icmpYes (pc' := 44) d6_7 (by decide) (by decide) (by decide) ?_
  refine X2.iload (pc' := 46) d6_44 rfl rfl ?_
  exact X2.ireturn rfl d6_46 (by decide) (by decide) ⟨rfl, V2⟩
set_option maxRecDepth 65536 in
set_option maxHeartbeats 40000000 in
theorem ctcomp3_2 (l : Launch) (Z : State) (a0 : Array Value) (hw : ∀ d ∈ tables_1, d.before a0 Z = true) {J : Vm → Prop} (hJ : Stb J) (ca : Addr) (x0 x1 : Int32) (h0 : Heap) (Vc : Lst Z h0 ca .char [(.int x0), (.int x1)]) (gx0 : 0 ≤ x0.toInt ∧ x0.toInt ≤ 255) (gx1 : 0 ≤ x1.toInt ∧ x1.toInt ≤ 255) :
    Ct l Z y5 jdk_52_method_16_code 6 (some (.array .byte)) ({ frames := 1, cells := 1, slots := 2, locals := 18 } : Room) #[(.ref ca), (.int (0 : Int32)), (.int (2 : Int32))] h0 [] J J (fun v h => ∃ b, v = some (.ref b) ∧ h0.size ≤ b ∧ Lst Z h b .byte [(.int (own_b x0)), (.int (own_b x1))]) := by
  refine Ct.of hJ hJ (plainFor_of_name (by first | (simp [plainName, overriddenIn]; done) | decide +kernel)) ?_
  intro p e s m below meth c T0 X0
  refine Runs.top (g' := mkF m 0 #[.val (.ref ca), .val (.int (0 : Int32)), .val (.int (2 : Int32)), .unset, .unset, .unset] []) (by first | (simp [entryFrame, mkF, argsToLocals, Value.category]; done) | rfl) ?_
  refine X0.iloadN (pc' := 1) d5_0 rfl rfl ?_
  refine X0.newarray (pc' := 3) (ty := .byte) rfl (wd_23 hw) d5_1 rfl (cap := 2) ⟨by decide, by decide⟩ (by decide) (by decide) (by decide) (fun T1 h1 b1 X1 g1 E1 V1 => ?_)
  have sz_b1 : h0.size ≤ b1 := g1 ▸ X0.size
  have ne_ca_b1 : ca ≠ b1 := Nat.ne_of_lt (g1 ▸ Vc.lt)
  have Vc_1 := Vc.ext E1
  have V1' : Lst Z h1 b1 .byte [(.int (0 : Int32)), (.int (0 : Int32))] := V1
  refine X1.astoreN (pc' := 4) (l' := #[.val (.ref ca), .val (.int (0 : Int32)), .val (.int (2 : Int32)), .val (.ref b1), .unset, .unset]) d5_3 rfl rfl rfl ?_
  refine X1.aloadN (pc' := 5) d5_4 rfl rfl rfl ?_
  refine X1.iloadN (pc' := 6) d5_5 rfl rfl ?_
  refine X1.aloadN (pc' := 7) d5_6 rfl rfl rfl ?_
  refine X1.iconst (pc' := 8) (z := 0) d5_7 rfl rfl ?_
  refine X1.iloadN (pc' := 9) d5_8 rfl rfl ?_
  refine X1.callS (pc' := 12) (W := 0) (argsL := [(.ref ca), (.int (0 : Int32)), (.ref b1), (.int (0 : Int32)), (.int (2 : Int32))]) (rest := []) (ctcomp5_2 l Z a0 hw hJ ca b1 x0 x1 h1 Vc_1 V1' ne_ca_b1 gx0 gx1) (wd_24 hw) (wd_25 hw) (wd_21 hw) (wd_26 hw) (by decide) pd_0 rfl rfl rfl rfl d5_9 rfl (by decide) rfl (by decide) (by decide) (by decide) ((allS (Or.inr sz_b1) all0)) (fun T2 h2 v2 X2 K2 Q2 => ?_)
  have Vc_2 := Vc_1.keep K2 (ninS ne_ca_b1 nin0)
  obtain ⟨rfl, Vb2⟩ := Q2
  show Runs p e below (T2.setTop (mkF m 12 #[.val (.ref ca), .val (.int (0 : Int32)), .val (.int (2 : Int32)), .val (.ref b1), .unset, .unset] [(.int (2 : Int32))])) _
  refine X2.istore (pc' := 14) (l' := #[.val (.ref ca), .val (.int (0 : Int32)), .val (.int (2 : Int32)), .val (.ref b1), .val (.int (2 : Int32)), .unset]) d5_12 rfl rfl ?_
  refine X2.iload (pc' := 16) d5_14 rfl rfl ?_
  refine X2.iloadN (pc' := 17) d5_16 rfl rfl ?_
  refine X2.icmpYes (pc' := 57) d5_17 (by decide) (by decide) (by decide) ?_
  refine X2.aloadN (pc' := 58) d5_57 rfl rfl rfl ?_
  exact X2.areturn rfl rfl rfl rfl d5_58 (by decide) (by decide) ⟨_, rfl, sz_b1, Vb2⟩
set_option maxRecDepth 65536 in
set_option maxHeartbeats 40000000 in
theorem ctinit4_2 (l : Launch) (Z : State) (a0 : Array Value) (hw : ∀ d ∈ tables_1, d.before a0 Z = true) {J : Vm → Prop} (hJ : Stb J) (a ca : Addr) (cz : Int32) (x0 x1 : Int32) (h0 : Heap) (E_a : Exa Z h0 a "java/lang/String") (Fvalue_a : Fld Z h0 a "java/lang/String" "value" "[B" .null) (Fcoder_a : Fld Z h0 a "java/lang/String" "coder" "B" (.int (0 : Int32))) (Vc : Lst Z h0 ca .char [(.int x0), (.int x1)]) (hne : ca ≠ a) (Sc : Sta Z h0 "java/lang/String" "COMPACT_STRINGS" "Z" (.int cz)) (hcz : cz ≠ (0 : Int32)) (gx0 : 0 ≤ x0.toInt ∧ x0.toInt ≤ 255) (gx1 : 0 ≤ x1.toInt ∧ x1.toInt ≤ 255) :
    Ct l Z y3 jdk_42_method_149_code 6 none ({ frames := 2, cells := 1, slots := 2, locals := 35 } : Room) #[(.ref a), (.ref ca), (.int (0 : Int32)), (.int (2 : Int32)), .null] h0 [a] J J (fun v h => v = none ∧ ∃ b, h0.size ≤ b ∧ own_S Z h a b [(.int (own_b x0)), (.int (own_b x1))]) := by
  refine Ct.of hJ hJ (plainFor_of_name (by first | (simp [plainName, overriddenIn]; done) | decide +kernel)) ?_
  intro p e s m below meth c T0 X0
  refine Runs.top (g' := mkF m 0 #[.val (.ref a), .val (.ref ca), .val (.int (0 : Int32)), .val (.int (2 : Int32)), .val .null, .unset] []) (by first | (simp [entryFrame, mkF, argsToLocals, Value.category]; done) | rfl) ?_
  refine X0.aloadN (pc' := 1) d3_0 rfl rfl rfl ?_
  refine X0.initObj (pc' := 4) (W := 0) (wd_15 hw) (wd_16 hw) (wd_17 hw) rfl d3_1 rfl (by decide) rfl (by decide) (fun T1 X1 => ?_)
  refine X1.iloadN (pc' := 5) d3_4 rfl rfl ?_
  refine X1.ifYes (pc' := 27) d3_5 (by decide) (by decide) (by decide) ?_
  refine X1.getstatic (pc' := 30) (host := "") (Or.inl (wd_18 hw)) Via.refl Sc d3_27 rfl (fun T2 X2 => ?_)
  refine X2.ifNo (pc' := 33) d3_30 (feq hcz).1 rfl ?_
  refine X2.aloadN (pc' := 34) d3_33 rfl rfl rfl ?_
  refine X2.iloadN (pc' := 35) d3_34 rfl rfl ?_
  refine X2.iloadN (pc' := 36) d3_35 rfl rfl ?_
  refine X2.callS (pc' := 39) (W := 0) (argsL := [(.ref ca), (.int (0 : Int32)), (.int (2 : Int32))]) (rest := []) (ctcomp3_2 l Z a0 hw hJ ca x0 x1 h0 Vc gx0 gx1) (wd_19 hw) (wd_20 hw) (wd_21 hw) (wd_22 hw) (by decide) pd_1 rfl rfl rfl rfl d3_36 rfl (by decide) rfl (by decide) (by decide) (by decide) allWs0 (fun T3 h3 v3 X3 K3 Q3 => ?_)
  have E_a_3 := E_a.keep K3
  have Fvalue_a_3 := Fvalue_a.keep K3 nin0
  have Fcoder_a_3 := Fcoder_a.keep K3 nin0
  have Vc_3 := Vc.keep K3 nin0
  have Sc_3 := sta_keep0 Sc K3
  obtain ⟨bb, rfl, szb, Vbb⟩ := Q3
  have sz_bb : h0.size ≤ bb := Nat.le_trans X2.size szb
  have ne_a_bb : a ≠ bb := Nat.ne_of_lt (Nat.lt_of_lt_of_le E_a.lt szb)
  have ne_ca_bb : ca ≠ bb := Nat.ne_of_lt (Nat.lt_of_lt_of_le Vc.lt szb)
  show Runs p e below (T3.setTop (mkF m 39 #[.val (.ref a), .val (.ref ca), .val (.int (0 : Int32)), .val (.int (2 : Int32)), .val .null, .unset] [(.ref bb)])) _
  refine X3.astore (pc' := 41) (l' := #[.val (.ref a), .val (.ref ca), .val (.int (0 : Int32)), .val (.int (2 : Int32)), .val .null, .val (.ref bb)]) d3_39 rfl rfl rfl ?_
  refine X3.aloadN (pc' := 42) d3_41 rfl rfl rfl ?_
  refine X3.aload (pc' := 44) d3_42 rfl rfl rfl ?_
  refine X3.iloadN (pc' := 45) d3_44 rfl rfl ?_
  refine X3.callS (pc' := 48) (W := 1) (argsL := [(.ref bb), (.int (2 : Int32))]) (rest := [(.ref a)]) (ctcoder_2 l Z a0 hw hJ bb x0 x1 h3 Vbb) (wd_27 hw) (wd_28 hw) (wd_21 hw) (wd_29 hw) (by decide) pd_2 rfl rfl rfl rfl d3_45 rfl (by decide) rfl (by decide) (by decide) (by decide) allWs0 (fun T4 h4 v4 X4 K4 Q4 => ?_)
  obtain ⟨rfl, rfl⟩ := Q4
  show Runs p e below (T4.setTop (mkF m 48 #[.val (.ref a), .val (.ref ca), .val (.int (0 : Int32)), .val (.int (2 : Int32)), .val .null, .val (.ref bb)] [(.int (0 : Int32)), (.ref a)])) _
  refine X4.putfieldN (pc' := 51) (v' := (.int (0 : Int32))) (wd_30 hw) Via.refl Fcoder_a_3 E_a_3 (Or.inr ⟨(wd_31 hw), rfl, rfl⟩) (wd_6 hw) (ty := .byte) (by decide) rfl (by decide) d3_48 rfl (Or.inl (by simp)) (fun T5 h5 X5 W5 => ?_)
  have Fw5 := Fld.same W5 Fcoder_a_3
  have E_a_5 := Exa.wr W5 E_a_3
  have Fvalue_a_5 := Fld.other W5 Fvalue_a_3 (Or.inr (slot_ne (Or.inr (wd_33 hw)) (Or.inr (wd_31 hw)) (by decide) (t := (.array .byte)) (t' := .byte) (by decide) (by decide)))
  have Vc_5 := Vc_3.other W5 hne
  have Sc_5 := Sta.wr W5 Sc_3
  have Vbb_5 := Vbb.other W5 (Ne.symm ne_a_bb)
  refine X5.aloadN (pc' := 52) d3_51 rfl rfl rfl ?_
  refine X5.aload (pc' := 54) d3_52 rfl rfl rfl ?_
  refine X5.putfield (pc' := 57) (host := "") (Or.inl (wd_32 hw)) Via.refl Fvalue_a_5 E_a_5 (Or.inr ⟨(wd_33 hw), rfl, rfl⟩) (wd_6 hw) (ty := (.array .byte)) (by decide) rfl rfl d3_54 rfl (Or.inl (by simp)) (fun T6 h6 X6 W6 => ?_)
  have Fw6 := Fld.same W6 Fvalue_a_5
  have E_a_6 := Exa.wr W6 E_a_5
  have Fw5_6 := Fld.other W6 Fw5 (Or.inr (slot_ne (Or.inr (wd_31 hw)) (Or.inr (wd_33 hw)) (by decide) (t := .byte) (t' := (.array .byte)) (by decide) (by decide)))
  have Vc_6 := Vc_5.other W6 hne
  have Sc_6 := Sta.wr W6 Sc_5
  have Vbb_6 := Vbb_5.other W6 (Ne.symm ne_a_bb)
  exact X6.vreturn rfl d3_57 (by decide) (by decide) ⟨rfl, bb, szb, E_a_6, Fw5_6, Fw6, Vbb_6⟩
set_option maxRecDepth 65536 in
set_option maxHeartbeats 40000000 in
theorem ctinit1_2 (l : Launch) (Z : State) (a0 : Array Value) (hw : ∀ d ∈ tables_1, d.before a0 Z = true) {J : Vm → Prop} (hJ : Stb J) (a ca : Addr) (cz : Int32) (x0 x1 : Int32) (h0 : Heap) (E_a : Exa Z h0 a "java/lang/String") (Fvalue_a : Fld Z h0 a "java/lang/String" "value" "[B" .null) (Fcoder_a : Fld Z h0 a "java/lang/String" "coder" "B" (.int (0 : Int32))) (Vc : Lst Z h0 ca .char [(.int x0), (.int x1)]) (hne : ca ≠ a) (Sc : Sta Z h0 "java/lang/String" "COMPACT_STRINGS" "Z" (.int cz)) (hcz : cz ≠ (0 : Int32)) (gx0 : 0 ≤ x0.toInt ∧ x0.toInt ≤ 255) (gx1 : 0 ≤ x1.toInt ∧ x1.toInt ≤ 255) :
    Ct l Z y2 jdk_42_method_3_code 2 none ({ frames := 3, cells := 1, slots := 2, locals := 52 } : Room) #[(.ref a), (.ref ca)] h0 [a] J J (fun v h => v = none ∧ ∃ b, h0.size ≤ b ∧ own_S Z h a b [(.int (own_b x0)), (.int (own_b x1))]) := by
  refine Ct.of hJ hJ (plainFor_of_name (by first | (simp [plainName, overriddenIn]; done) | decide +kernel)) ?_
  intro p e s m below meth c T0 X0
  refine Runs.top (g' := mkF m 0 #[.val (.ref a), .val (.ref ca)] []) (by first | (simp [entryFrame, mkF, argsToLocals, Value.category]; done) | rfl) ?_
  refine X0.aloadN (pc' := 1) d2_0 rfl rfl rfl ?_
  refine X0.aloadN (pc' := 2) d2_1 rfl rfl rfl ?_
  refine X0.iconst (pc' := 3) (z := 0) d2_2 rfl rfl ?_
  refine X0.aloadN (pc' := 4) d2_3 rfl rfl rfl ?_
  refine X0.arraylength (pc' := 5) (n := (2 : Int32)) Vc rfl d2_4 rfl ?_
  refine X0.aconstNull (pc' := 6) d2_5 rfl ?_
  refine X0.special (pc' := 9) (W := 0) (a := a) (argsL := [(.ref ca), (.int (0 : Int32)), (.int (2 : Int32)), .null]) (rest := []) (ctinit4_2 l Z a0 hw hJ a ca cz x0 x1 h0 E_a Fvalue_a Fcoder_a Vc hne Sc hcz gx0 gx1) rfl (wd_11 hw) (wd_12 hw) (wd_7 hw) (wd_14 hw) (by decide) pd_3 rfl rfl rfl rfl d2_6 rfl (by decide) rfl (by decide) (by decide) (by decide) ((allS (Or.inl (by simp)) all0)) (fun T1 h1 v1 X1 K1 Q1 => ?_)
  have E_a_1 := E_a.keep K1
  have Vc_1 := Vc.keep K1 (ninS hne nin0)
  have Sc_1 := sta_keepL Sc K1 (exaS E_a exa0)
  obtain ⟨rfl, bb, szb, Sa⟩ := Q1
  show Runs p e below (T1.setTop (mkF m 9 #[.val (.ref a), .val (.ref ca)] [])) _
  exact X1.vreturn rfl d2_9 (by decide) (by decide) ⟨rfl, bb, szb, Sa⟩
set_option maxRecDepth 65536 in
set_option maxHeartbeats 40000000 in
theorem ctcoder_3 (l : Launch) (Z : State) (a0 : Array Value) (hw : ∀ d ∈ tables_1, d.before a0 Z = true) {J : Vm → Prop} (hJ : Stb J) (b : Addr) (x0 x1 x2 : Int32) (h0 : Heap) (Vb : Lst Z h0 b .byte [(.int (own_b x0)), (.int (own_b x1)), (.int (own_b x2))]) :
    Ct l Z y7 jdk_52_method_15_code 2 (some .byte) ({ frames := 0, cells := 0, slots := 0, locals := 0 } : Room) #[(.ref b), (.int (3 : Int32))] h0 [] J J (fun v h => v = some (.int (0 : Int32)) ∧ h0 = h) := by
  refine Ct.of hJ hJ (plainFor_of_name (by first | (simp [plainName, overriddenIn]; done) | decide +kernel)) ?_
  intro p e s m below meth c T0 X0
  refine Runs.top (g' := mkF m 0 #[.val (.ref b), .val (.int (3 : Int32))] []) (by first | (simp [entryFrame, mkF, argsToLocals, Value.category]; done) | rfl) ?_
  refine X0.iloadN (pc' := 1) d7_0 rfl rfl ?_
  refine X0.aloadN (pc' := 2) d7_1 rfl rfl rfl ?_
  refine X0.arraylength (pc' := 3) (n := (3 : Int32)) Vb rfl d7_2 rfl ?_
  refine X0.isub (pc' := 4) d7_3 rfl ?_
  show Runs p e below (T0.setTop (mkF m 4 #[.val (.ref b), .val (.int (3 : Int32))] [(.int (0 : Int32))])) _
  refine X0.bipush (pc' := 6) (z := 31) d7_4 rfl rfl ?_
  refine X0.iushr (pc' := 7) d7_6 rfl ?_
  refine X0.i2b (pc' := 8) d7_7 rfl ?_
  exact X0.zreturn rfl (by simp) d7_8 (by decide) (by decide) (by decide) ⟨rfl, rfl⟩
set_option maxRecDepth 65536 in
set_option maxHeartbeats 40000000 in
theorem ctcomp5_3 (l : Launch) (Z : State) (a0 : Array Value) (hw : ∀ d ∈ tables_1, d.before a0 Z = true) {J : Vm → Prop} (hJ : Stb J) (ca ba : Addr) (x0 x1 x2 : Int32) (h0 : Heap) (Vc : Lst Z h0 ca .char [(.int x0), (.int x1), (.int x2)]) (Vb : Lst Z h0 ba .byte [(.int (0 : Int32)), (.int (0 : Int32)), (.int (0 : Int32))]) (hne : ca ≠ ba) (gx0 : 0 ≤ x0.toInt ∧ x0.toInt ≤ 255) (gx1 : 0 ≤ x1.toInt ∧ x1.toInt ≤ 255) (gx2 : 0 ≤ x2.toInt ∧ x2.toInt ≤ 255) :
    Ct l Z y6 jdk_52_method_21_code 7 (some .int) ({ frames := 0, cells := 0, slots := 0, locals := 0 } : Room) #[(.ref ca), (.int (0 : Int32)), (.ref ba), (.int (0 : Int32)), (.int (3 : Int32))] h0 [ba] J J (fun v h => v = some (.int (3 : Int32)) ∧ Lst Z h ba .byte [(.int (own_b x0)), (.int (own_b x1)), (.int (own_b x2))]) := by
  refine Ct.of hJ hJ (plainFor_of_name (by first | (simp [plainName, overriddenIn]; done) | decide +kernel)) ?_
  intro p e s m below meth c T0 X0
  refine Runs.top (g' := mkF m 0 #[.val (.ref ca), .val (.int (0 : Int32)), .val (.ref ba), .val (.int (0 : Int32)), .val (.int (3 : Int32)), .unset, .unset] []) (by first | (simp [entryFrame, mkF, argsToLocals, Value.category]; done) | rfl) ?_
  refine X0.iconst (pc' := 1) (z := 0) d6_0 rfl rfl ?_
  refine X0.istore (pc' := 3) (l' := #[.val (.ref ca), .val (.int (0 : Int32)), .val (.ref ba), .val (.int (0 : Int32)), .val (.int (3 : Int32)), .val (.int (0 : Int32)), .unset]) d6_1 rfl rfl ?_
  refine X0.iload (pc' := 5) d6_3 rfl rfl ?_
  refine X0.iload (pc' := 7) d6_5 rfl rfl ?_
  refine X0.icmpNo (pc' := 10) d6_7 (by decide) rfl ?_
  refine X0.aloadN (pc' := 11) d6_10 rfl rfl rfl ?_
  refine X0.iloadN (pc' := 12) d6_11 rfl rfl ?_
  refine X0.caload (pc' := 13) (v := (.int x0)) Vc (show Inb (0 : Int32) 3 from ⟨by decide, by decide⟩) rfl d6_12 rfl ?_
  refine X0.istore (pc' := 15) (l' := #[.val (.ref ca), .val (.int (0 : Int32)), .val (.ref ba), .val (.int (0 : Int32)), .val (.int (3 : Int32)), .val (.int (0 : Int32)), .val (.int x0)]) d6_13 rfl rfl ?_
  refine X0.iload (pc' := 17) d6_15 rfl rfl ?_
  refine X0.sipush (pc' := 20) (z := 255) d6_17 rfl rfl ?_
  refine X0.icmpYes (pc' := 26) d6_20 (flt (own_le255 gx0)).2.2.2 (by decide) (by decide) ?_
  refine X0.aloadN (pc' := 27) d6_26 rfl rfl rfl ?_
  refine X0.iloadN (pc' := 28) d6_27 rfl rfl ?_
  refine X0.iload (pc' := 30) d6_28 rfl rfl ?_
  refine X0.i2b (pc' := 31) d6_30 rfl ?_
  refine X0.bastore (pc' := 32) Vb (show Inb (0 : Int32) 3 from ⟨by decide, by decide⟩) d6_31 rfl (Or.inl (by simp)) (fun T1 h1 X1 W1 => ?_)
  rw [own_bb] at W1
  have V1 : Lst Z h1 ba .byte [(.int (own_b x0)), (.int (0 : Int32)), (.int (0 : Int32))] := Vb.set W1
  have Vc_1 := Vc.other W1 hne
  refine X1.iinc (pc' := 35) (z := 1) (l' := #[.val (.ref ca), .val (.int (1 : Int32)), .val (.ref ba), .val (.int (0 : Int32)), .val (.int (3 : Int32)), .val (.int (0 : Int32)), .val (.int x0)]) d6_32 rfl rfl rfl rfl ?_
  refine X1.iinc (pc' := 38) (z := 1) (l' := #[.val (.ref ca), .val (.int (1 : Int32)), .val (.ref ba), .val (.int (1 : Int32)), .val (.int (3 : Int32)), .val (.int (0 : Int32)), .val (.int x0)]) d6_35 rfl rfl rfl rfl ?_
  refine X1.iinc (pc' := 41) (z := 1) (l' := #[.val (.ref ca), .val (.int (1 : Int32)), .val (.ref ba), .val (.int (1 : Int32)), .val (.int (3 : Int32)), .val (.int (1 : Int32)), .val (.int x0)]) d6_38 rfl rfl rfl rfl ?_
  refine X1.goto (pc' := 3) d6_41 (by decide) (by decide) ?_
  refine X1.iload (pc' := 5) d6_3 rfl rfl ?_
  refine X1.iload (pc' := 7) d6_5 rfl rfl ?_
  refine X1.icmpNo (pc' := 10) d6_7 (by decide) rfl ?_
  refine X1.aloadN (pc' := 11) d6_10 rfl rfl rfl ?_
  refine X1.iloadN (pc' := 12) d6_11 rfl rfl ?_
  refine X1.caload (pc' := 13) (v := (.int x1)) Vc_1 (show Inb (1 : Int32) 3 from ⟨by decide, by decide⟩) rfl d6_12 rfl ?_
  refine X1.istore (pc' := 15) (l' := #[.val (.ref ca), .val (.int (1 : Int32)), .val (.ref ba), .val (.int (1 : Int32)), .val (.int (3 : Int32)), .val (.int (1 : Int32)), .val (.int x1)]) d6_13 rfl rfl ?_
  refine X1.iload (pc' := 17) d6_15 rfl rfl ?_
  refine X1.sipush (pc' := 20) (z := 255) d6_17 rfl rfl ?_
  refine X1.icmpYes (pc' := 26) d6_20 (flt (own_le255 gx1)).2.2.2 (by decide) (by decide) ?_
  refine X1.aloadN (pc' := 27) d6_26 rfl rfl rfl ?_
  refine X1.iloadN (pc' := 28) d6_27 rfl rfl ?_
  refine X1.iload (pc' := 30) d6_28 rfl rfl ?_
  refine X1.i2b (pc' := 31) d6_30 rfl ?_
  refine X1.bastore (pc' := 32) V1 (show Inb (1 : Int32) 3 from ⟨by decide, by decide⟩) d6_31 rfl (Or.inl (by simp)) (fun T2 h2 X2 W2 => ?_)
  rw [own_bb] at W2
  have V2 : Lst Z h2 ba .byte [(.int (own_b x0)), (.int (own_b x1)), (.int (0 : Int32))] := V1.set W2
  have Vc_2 := Vc_1.other W2 hne
  refine X2.iinc (pc' := 35) (z := 1) (l' := #[.val (.ref ca), .val (.int (2 : Int32)), .val (.ref ba), .val (.int (1 : Int32)), .val (.int (3 : Int32)), .val (.int (1 : Int32)), .val (.int x1)]) d6_32 rfl rfl rfl rfl ?_
  refine X2.iinc (pc' := 38) (z := 1) (l' := #[.val (.ref ca), .val (.int (2 : Int32)), .val (.ref ba), .val (.int (2 : Int32)), .val (.int (3 : Int32)), .val (.int (1 : Int32)), .val (.int x1)]) d6_35 rfl rfl rfl rfl ?_
  refine X2.iinc (pc' := 41) (z := 1) (l' := #[.val (.ref ca), .val (.int (2 : Int32)), .val (.ref ba), .val (.int (2 : Int32)), .val (.int (3 : Int32)), .val (.int (2 : Int32)), .val (.int x1)]) d6_38 rfl rfl rfl rfl ?_
  refine X2.goto (pc' := 3) d6_41 (by decide) (by decide) ?_
  refine X2.iload (pc' := 5) d6_3 rfl rfl ?_
  refine X2.iload (pc' := 7) d6_5 rfl rfl ?_
  refine X2.icmpNo (pc' := 10) d6_7 (by decide) rfl ?_
  refine X2.aloadN (pc' := 11) d6_10 rfl rfl rfl ?_
  refine X2.iloadN (pc' := 12) d6_11 rfl rfl ?_
  refine X2.caload (pc' := 13) (v := (.int x2)) Vc_2 (show Inb (2 : Int32) 3 from ⟨by decide, by decide⟩) rfl d6_12 rfl ?_
  refine X2.istore (pc' := 15) (l' := #[.val (.ref ca), .val (.int (2 : Int32)), .val (.ref ba), .val (.int (2 : Int32)), .val (.int (3 : Int32)), .val (.int (2 : Int32)), .val (.int x2)]) d6_13 rfl rfl ?_
  refine X2.iload (pc' := 17) d6_15 rfl rfl ?_
  refine X2.sipush (pc' := 20) (z := 255) d6_17 rfl rfl ?_
  refine X2.icmpYes (pc' := 26) d6_20 (flt (own_le255 gx2)).2.2.2 (by decide) (by decide) ?_
  refine X2.aloadN (pc' := 27) d6_26 rfl rfl rfl ?_
  refine X2.iloadN (pc' := 28) d6_27 rfl rfl ?_
  refine X2.iload (pc' := 30) d6_28 rfl rfl ?_
  refine X2.i2b (pc' := 31) d6_30 rfl ?_
  refine X2.bastore (pc' := 32) V2 (show Inb (2 : Int32) 3 from ⟨by decide, by decide⟩) d6_31 rfl (Or.inl (by simp)) (fun T3 h3 X3 W3 => ?_)
  rw [own_bb] at W3
  have V3 : Lst Z h3 ba .byte [(.int (own_b x0)), (.int (own_b x1)), (.int (own_b x2))] := V2.set W3
  have Vc_3 := Vc_2.other W3 hne
  refine X3.iinc (pc' := 35) (z := 1) (l' := #[.val (.ref ca), .val (.int (3 : Int32)), .val (.ref ba), .val (.int (2 : Int32)), .val (.int (3 : Int32)), .val (.int (2 : Int32)), .val (.int x2)]) d6_32 rfl rfl rfl rfl ?_
  refine X3.iinc (pc' := 38) (z := 1) (l' := #[.val (.ref ca), .val (.int (3 : Int32)), .val (.ref ba), .val (.int (3 : Int32)), .val (.int (3 : Int32)), .val (.int (2 : Int32)), .val (.int x2)]) d6_35 rfl rfl rfl rfl ?_
  refine X3.iinc (pc' := 41) (z := 1) (l' := #[.val (.ref ca), .val (.int (3 : Int32)), .val (.ref ba), .val (.int (3 : Int32)), .val (.int (3 : Int32)), .val (.int (3 : Int32)), .val (.int x2)]) d6_38 rfl rfl rfl rfl ?_
  refine X3.goto (pc' := 3) d6_41 (by decide) (by decide) ?_
  refine X3.iload (pc' := 5) d6_3 rfl rfl ?_
  refine X3.iload (pc' := 7) d6_5 rfl rfl ?_
  refine X3.icmpYes (pc' := 44) d6_7 (by decide) (by decide) (by decide) ?_
  refine X3.iload (pc' := 46) d6_44 rfl rfl ?_
  exact X3.ireturn rfl d6_46 (by decide) (by decide) ⟨rfl, V3⟩
set_option maxRecDepth 65536 in
set_option maxHeartbeats 40000000 in
theorem ctcomp3_3 (l : Launch) (Z : State) (a0 : Array Value) (hw : ∀ d ∈ tables_1, d.before a0 Z = true) {J : Vm → Prop} (hJ : Stb J) (ca : Addr) (x0 x1 x2 : Int32) (h0 : Heap) (Vc : Lst Z h0 ca .char [(.int x0), (.int x1), (.int x2)]) (gx0 : 0 ≤ x0.toInt ∧ x0.toInt ≤ 255) (gx1 : 0 ≤ x1.toInt ∧ x1.toInt ≤ 255) (gx2 : 0 ≤ x2.toInt ∧ x2.toInt ≤ 255) :
    Ct l Z y5 jdk_52_method_16_code 6 (some (.array .byte)) ({ frames := 1, cells := 1, slots := 3, locals := 18 } : Room) #[(.ref ca), (.int (0 : Int32)), (.int (3 : Int32))] h0 [] J J (fun v h => ∃ b, v = some (.ref b) ∧ h0.size ≤ b ∧ Lst Z h b .byte [(.int (own_b x0)), (.int (own_b x1)), (.int (own_b x2))]) := by
  refine Ct.of hJ hJ (plainFor_of_name (by first | (simp [plainName, overriddenIn]; done) | decide +kernel)) ?_
  intro p e s m below meth c T0 X0
  refine Runs.top (g' := mkF m 0 #[.val (.ref ca), .val (.int (0 : Int32)), .val (.int (3 : Int32)), .unset, .unset, .unset] []) (by first | (simp [entryFrame, mkF, argsToLocals, Value.category]; done) | rfl) ?_
  refine X0.iloadN (pc' := 1) d5_0 rfl rfl ?_
  refine X0.newarray (pc' := 3) (ty := .byte) rfl (wd_23 hw) d5_1 rfl (cap := 3) ⟨by decide, by decide⟩ (by decide) (by decide) (by decide) (fun T1 h1 b1 X1 g1 E1 V1 => ?_)
  have sz_b1 : h0.size ≤ b1 := g1 ▸ X0.size
  have ne_ca_b1 : ca ≠ b1 := Nat.ne_of_lt (g1 ▸ Vc.lt)
  have Vc_1 := Vc.ext E1
  have V1' : Lst Z h1 b1 .byte [(.int (0 : Int32)), (.int (0 : Int32)), (.int (0 : Int32))] := V1
  refine X1.astoreN (pc' := 4) (l' := #[.val (.ref ca), .val (.int (0 : Int32)), .val (.int (3 : Int32)), .val (.ref b1), .unset, .unset]) d5_3 rfl rfl rfl ?_
  refine X1.aloadN (pc' := 5) d5_4 rfl rfl rfl ?_
  refine X1.iloadN (pc' := 6) d5_5 rfl rfl ?_
  refine X1.aloadN (pc' := 7) d5_6 rfl rfl rfl ?_
  refine X1.iconst (pc' := 8) (z := 0) d5_7 rfl rfl ?_
  refine X1.iloadN (pc' := 9) d5_8 rfl rfl ?_
  refine X1.callS (pc' := 12) (W := 0) (argsL := [(.ref ca), (.int (0 : Int32)), (.ref b1), (.int (0 : Int32)), (.int (3 : Int32))]) (rest := []) (ctcomp5_3 l Z a0 hw hJ ca b1 x0 x1 x2 h1 Vc_1 V1' ne_ca_b1 gx0 gx1 gx2) (wd_24 hw) (wd_25 hw) (wd_21 hw) (wd_26 hw) (by decide) pd_0 rfl rfl rfl rfl d5_9 rfl (by decide) rfl (by decide) (by decide) (by decide) ((allS (Or.inr sz_b1) all0)) (fun T2 h2 v2 X2 K2 Q2 => ?_)
  have Vc_2 := Vc_1.keep K2 (ninS ne_ca_b1 nin0)
  obtain ⟨rfl, Vb2⟩ := Q2
  show Runs p e below (T2.setTop (mkF m 12 #[.val (.ref ca), .val (.int (0 : Int32)), .val (.int (3 : Int32)), .val (.ref b1), .unset, .unset] [(.int (3 : Int32))])) _
  refine X2.istore (pc' := 14) (l' := #[.val (.ref ca), .val (.int (0 : Int32)), .val (.int (3 : Int32)), .val (.ref b1), .val (.int (3 : Int32)), .unset]) d5_12 rfl rfl ?_
  refine X2.iload (pc' := 16) d5_14 rfl rfl ?_
  refine X2.iloadN (pc' := 17) d5_16 rfl rfl ?_
  refine X2.icmpYes (pc' := 57) d5_17 (by decide) (by decide) (by decide) ?_
  refine X2.aloadN (pc' := 58) d5_57 rfl rfl rfl ?_
  exact X2.areturn rfl rfl rfl rfl d5_58 (by decide) (by decide) ⟨_, rfl, sz_b1, Vb2⟩
set_option maxRecDepth 65536 in
set_option maxHeartbeats 40000000 in
theorem ctinit4_3 (l : Launch) (Z : State) (a0 : Array Value) (hw : ∀ d ∈ tables_1, d.before a0 Z = true) {J : Vm → Prop} (hJ : Stb J) (a ca : Addr) (cz : Int32) (x0 x1 x2 : Int32) (h0 : Heap) (E_a : Exa Z h0 a "java/lang/String") (Fvalue_a : Fld Z h0 a "java/lang/String" "value" "[B" .null) (Fcoder_a : Fld Z h0 a "java/lang/String" "coder" "B" (.int (0 : Int32))) (Vc : Lst Z h0 ca .char [(.int x0), (.int x1), (.int x2)]) (hne : ca ≠ a) (Sc : Sta Z h0 "java/lang/String" "COMPACT_STRINGS" "Z" (.int cz)) (hcz : cz ≠ (0 : Int32)) (gx0 : 0 ≤ x0.toInt ∧ x0.toInt ≤ 255) (gx1 : 0 ≤ x1.toInt ∧ x1.toInt ≤ 255) (gx2 : 0 ≤ x2.toInt ∧ x2.toInt ≤ 255) :
    Ct l Z y3 jdk_42_method_149_code 6 none ({ frames := 2, cells := 1, slots := 3, locals := 35 } : Room) #[(.ref a), (.ref ca), (.int (0 : Int32)), (.int (3 : Int32)), .null] h0 [a] J J (fun v h => v = none ∧ ∃ b, h0.size ≤ b ∧ own_S Z h a b [(.int (own_b x0)), (.int (own_b x1)), (.int (own_b x2))]) := by
  refine Ct.of hJ hJ (plainFor_of_name (by first | (simp [plainName, overriddenIn]; done) | decide +kernel)) ?_
  intro p e s m below meth c T0 X0
  refine Runs.top (g' := mkF m 0 #[.val (.ref a), .val (.ref ca), .val (.int (0 : Int32)), .val (.int (3 : Int32)), .val .null, .unset] []) (by first | (simp [entryFrame, mkF, argsToLocals, Value.category]; done) | rfl) ?_
  refine X0.aloadN (pc' := 1) d3_0 rfl rfl rfl ?_
  refine X0.initObj (pc' := 4) (W := 0) (wd_15 hw) (wd_16 hw) (wd_17 hw) rfl d3_1 rfl (by decide) rfl (by decide) (fun T1 X1 => ?_)
  refine X1.iloadN (pc' := 5) d3_4 rfl rfl ?_
  refine X1.ifYes (pc' := 27) d3_5 (by decide) (by decide) (by decide) ?_
  refine X1.getstatic (pc' := 30) (host := "") (Or.inl (wd_18 hw)) Via.refl Sc d3_27 rfl (fun T2 X2 => ?_)
  refine X2.ifNo (pc' := 33) d3_30 (feq hcz).1 rfl ?_
  refine X2.aloadN (pc' := 34) d3_33 rfl rfl rfl ?_
  refine X2.iloadN (pc' := 35) d3_34 rfl rfl ?_
  refine X2.iloadN (pc' := 36) d3_35 rfl rfl ?_
  refine X2.callS (pc' := 39) (W := 0) (argsL := [(.ref ca), (.int (0 : Int32)), (.int (3 : Int32))]) (rest := []) (ctcomp3_3 l Z a0 hw hJ ca x0 x1 x2 h0 Vc gx0 gx1 gx2) (wd_19 hw) (wd_20 hw) (wd_21 hw) (wd_22 hw) (by decide) pd_1 rfl rfl rfl rfl d3_36 rfl (by decide) rfl (by decide) (by decide) (by decide) allWs0 (fun T3 h3 v3 X3 K3 Q3 => ?_)
  have E_a_3 := E_a.keep K3
  have Fvalue_a_3 := Fvalue_a.keep K3 nin0
  have Fcoder_a_3 := Fcoder_a.keep K3 nin0
  have Vc_3 := Vc.keep K3 nin0
  have Sc_3 := sta_keep0 Sc K3
  obtain ⟨bb, rfl, szb, Vbb⟩ := Q3
  have sz_bb : h0.size ≤ bb := Nat.le_trans X2.size szb
  have ne_a_bb : a ≠ bb := Nat.ne_of_lt (Nat.lt_of_lt_of_le E_a.lt szb)
  have ne_ca_bb : ca ≠ bb := Nat.ne_of_lt (Nat.lt_of_lt_of_le Vc.lt szb)
  show Runs p e below (T3.setTop (mkF m 39 #[.val (.ref a), .val (.ref ca), .val (.int (0 : Int32)), .val (.int (3 : Int32)), .val .null, .unset] [(.ref bb)])) _
  refine X3.astore (pc' := 41) (l' := #[.val (.ref a), .val (.ref ca), .val (.int (0 : Int32)), .val (.int (3 : Int32)), .val .null, .val (.ref bb)]) d3_39 rfl rfl rfl ?_
  refine X3.aloadN (pc' := 42) d3_41 rfl rfl rfl ?_
  refine X3.aload (pc' := 44) d3_42 rfl rfl rfl ?_
  refine X3.iloadN (pc' := 45) d3_44 rfl rfl ?_
  refine X3.callS (pc' := 48) (W := 1) (argsL := [(.ref bb), (.int (3 : Int32))]) (rest := [(.ref a)]) (ctcoder_3 l Z a0 hw hJ bb x0 x1 x2 h3 Vbb) (wd_27 hw) (wd_28 hw) (wd_21 hw) (wd_29 hw) (by decide) pd_2 rfl rfl rfl rfl d3_45 rfl (by decide) rfl (by decide) (by decide) (by decide) allWs0 (fun T4 h4 v4 X4 K4 Q4 => ?_)
  obtain ⟨rfl, rfl⟩ := Q4
  show Runs p e below (T4.setTop (mkF m 48 #[.val (.ref a), .val (.ref ca), .val (.int (0 : Int32)), .val (.int (3 : Int32)), .val .null, .val (.ref bb)] [(.int (0 : Int32)), (.ref a)])) _
  refine X4.putfieldN (pc' := 51) (v' := (.int (0 : Int32))) (wd_30 hw) Via.refl Fcoder_a_3 E_a_3 (Or.inr ⟨(wd_31 hw), rfl, rfl⟩) (wd_6 hw) (ty := .byte) (by decide) rfl (by decide) d3_48 rfl (Or.inl (by simp)) (fun T5 h5 X5 W5 => ?_)
  have Fw5 := Fld.same W5 Fcoder_a_3
  have E_a_5 := Exa.wr W5 E_a_3
  have Fvalue_a_5 := Fld.other W5 Fvalue_a_3 (Or.inr (slot_ne (Or.inr (wd_33 hw)) (Or.inr (wd_31 hw)) (by decide) (t := (.array .byte)) (t' := .byte) (by decide) (by decide)))
  have Vc_5 := Vc_3.other W5 hne
  have Sc_5 := Sta.wr W5 Sc_3
  have Vbb_5 := Vbb.other W5 (Ne.symm ne_a_bb)
  refine X5.aloadN (pc' := 52) d3_51 rfl rfl rfl ?_
  refine X5.aload (pc' := 54) d3_52 rfl rfl rfl ?_
  refine X5.putfield (pc' := 57) (host := "") (Or.inl (wd_32 hw)) Via.refl Fvalue_a_5 E_a_5 (Or.inr ⟨(wd_33 hw), rfl, rfl⟩) (wd_6 hw) (ty := (.array .byte)) (by decide) rfl rfl d3_54 rfl (Or.inl (by simp)) (fun T6 h6 X6 W6 => ?_)
  have Fw6 := Fld.same W6 Fvalue_a_5
  have E_a_6 := Exa.wr W6 E_a_5
  have Fw5_6 := Fld.other W6 Fw5 (Or.inr (slot_ne (Or.inr (wd_31 hw)) (Or.inr (wd_33 hw)) (by decide) (t := .byte) (t' := (.array .byte)) (by decide) (by decide)))
  have Vc_6 := Vc_5.other W6 hne
  have Sc_6 := Sta.wr W6 Sc_5
  have Vbb_6 := Vbb_5.other W6 (Ne.symm ne_a_bb)
  exact X6.vreturn rfl d3_57 (by decide) (by decide) ⟨rfl, bb, szb, E_a_6, Fw5_6, Fw6, Vbb_6⟩
set_option maxRecDepth 65536 in
set_option maxHeartbeats 40000000 in
theorem ctinit1_3 (l : Launch) (Z : State) (a0 : Array Value) (hw : ∀ d ∈ tables_1, d.before a0 Z = true) {J : Vm → Prop} (hJ : Stb J) (a ca : Addr) (cz : Int32) (x0 x1 x2 : Int32) (h0 : Heap) (E_a : Exa Z h0 a "java/lang/String") (Fvalue_a : Fld Z h0 a "java/lang/String" "value" "[B" .null) (Fcoder_a : Fld Z h0 a "java/lang/String" "coder" "B" (.int (0 : Int32))) (Vc : Lst Z h0 ca .char [(.int x0), (.int x1), (.int x2)]) (hne : ca ≠ a) (Sc : Sta Z h0 "java/lang/String" "COMPACT_STRINGS" "Z" (.int cz)) (hcz : cz ≠ (0 : Int32)) (gx0 : 0 ≤ x0.toInt ∧ x0.toInt ≤ 255) (gx1 : 0 ≤ x1.toInt ∧ x1.toInt ≤ 255) (gx2 : 0 ≤ x2.toInt ∧ x2.toInt ≤ 255) :
    Ct l Z y2 jdk_42_method_3_code 2 none ({ frames := 3, cells := 1, slots := 3, locals := 52 } : Room) #[(.ref a), (.ref ca)] h0 [a] J J (fun v h => v = none ∧ ∃ b, h0.size ≤ b ∧ own_S Z h a b [(.int (own_b x0)), (.int (own_b x1)), (.int (own_b x2))]) := by
  refine Ct.of hJ hJ (plainFor_of_name (by first | (simp [plainName, overriddenIn]; done) | decide +kernel)) ?_
  intro p e s m below meth c T0 X0
  refine Runs.top (g' := mkF m 0 #[.val (.ref a), .val (.ref ca)] []) (by first | (simp [entryFrame, mkF, argsToLocals, Value.category]; done) | rfl) ?_
  refine X0.aloadN (pc' := 1) d2_0 rfl rfl rfl ?_
  refine X0.aloadN (pc' := 2) d2_1 rfl rfl rfl ?_
  refine X0.iconst (pc' := 3) (z := 0) d2_2 rfl rfl ?_
  refine X0.aloadN (pc' := 4) d2_3 rfl rfl rfl ?_
  refine X0.arraylength (pc' := 5) (n := (3 : Int32)) Vc rfl d2_4 rfl ?_
  refine X0.aconstNull (pc' := 6) d2_5 rfl ?_
  refine X0.special (pc' := 9) (W := 0) (a := a) (argsL := [(.ref ca), (.int (0 : Int32)), (.int (3 : Int32)), .null]) (rest := []) (ctinit4_3 l Z a0 hw hJ a ca cz x0 x1 x2 h0 E_a Fvalue_a Fcoder_a Vc hne Sc hcz gx0 gx1 gx2) rfl (wd_11 hw) (wd_12 hw) (wd_7 hw) (wd_14 hw) (by decide) pd_3 rfl rfl rfl rfl d2_6 rfl (by decide) rfl (by decide) (by decide) (by decide) ((allS (Or.inl (by simp)) all0)) (fun T1 h1 v1 X1 K1 Q1 => ?_)
  have E_a_1 := E_a.keep K1
  have Vc_1 := Vc.keep K1 (ninS hne nin0)
  have Sc_1 := sta_keepL Sc K1 (exaS E_a exa0)
  obtain ⟨rfl, bb, szb, Sa⟩ := Q1
  show Runs p e below (T1.setTop (mkF m 9 #[.val (.ref a), .val (.ref ca)] [])) _
  exact X1.vreturn rfl d2_9 (by decide) (by decide) ⟨rfl, bb, szb, Sa⟩
set_option maxRecDepth 65536 in
set_option maxHeartbeats 40000000 in
theorem ctinit4_0 (l : Launch) (Z : State) (a0 : Array Value) (hw : ∀ d ∈ tables_1, d.before a0 Z = true) (a ca : Addr) (h0 : Heap) (E_a : Exa Z h0 a "java/lang/String") (Fvalue_a : Fld Z h0 a "java/lang/String" "value" "[B" .null) (Fcoder_a : Fld Z h0 a "java/lang/String" "coder" "B" (.int (0 : Int32))) (KZ : Ext Z.heap h0) (hh : Jvm.Lit.constHeld Z "java/lang/String" 7) (hcw : Jvm.Lit.compactW.before a0 Z = true) :
    Ct l Z y3 jdk_42_method_149_code 6 none ({ frames := 1, cells := 2, slots := 4, locals := 12 } : Room) #[(.ref a), (.ref ca), (.int (0 : Int32)), (.int (0 : Int32)), .null] h0 [a] (jI Z) anyVm (fun v h => v = none ∧ Exa Z h a "java/lang/String") := by
  refine Ct.of0 jI.stb anyVm.stb (plainFor_of_name (by first | (simp [plainName, overriddenIn]; done) | decide +kernel)) ?_
  intro p e s m below meth c T0 X0
  refine Runs.top (g' := mkF m 0 #[.val (.ref a), .val (.ref ca), .val (.int (0 : Int32)), .val (.int (0 : Int32)), .val .null, .unset] []) (by first | (simp [entryFrame, mkF, argsToLocals, Value.category]; done) | rfl) ?_
  refine X0.aloadN (pc' := 1) d3_0 rfl rfl rfl ?_
  refine X0.initObj (pc' := 4) (W := 0) (wd_15 hw) (wd_16 hw) (wd_17 hw) rfl d3_1 rfl (by decide) rfl (by decide) (fun T1 X1 => ?_)
  refine X1.iloadN (pc' := 5) d3_4 rfl rfl ?_
  refine X1.ifNo (pc' := 8) d3_5 (by decide) rfl ?_
  refine X1.aloadN (pc' := 9) d3_8 rfl rfl rfl ?_
  refine X1.ldcNew (pc' := 11) (wd_113 hw) (own_wS hw) KZ hh hcw (vs := []) (z := 0) ⟨by simp, rfl⟩ (by decide) rfl d3_9 rfl (n := 0) (by decide) (by decide) (by decide) (by decide) (fun T2 h2 a2 b2 k2 X2 E2 A2 C2 V2 B2 => ?_)
  have E_a_2 := Exa.ext E2 E_a
  have Fvalue_a_2 := Fld.ext E2 Fvalue_a
  have Fcoder_a_2 := Fld.ext E2 Fcoder_a
  have KZ_2 := ext_trans KZ E2
  have ne_a2_a : a2 ≠ a := fun q => absurd (fld_inj (w := .null) V2 (by rw [q]; exact Fvalue_a_2)) (fun z => nomatch z)
  refine X2.getfield (pc' := 14) (host := "") (Or.inl (wd_32 hw)) Via.refl V2 d3_11 rfl (fun T3 X3 => ?_)
  have Xw := X3.wsUp (ws := [a])
  refine Xw.putfield (pc' := 17) (host := "") (Or.inl (wd_32 hw)) Via.refl Fvalue_a_2 E_a_2 (Or.inr ⟨(wd_33 hw), rfl, rfl⟩) (wd_6 hw) (ty := (.array .byte)) (by decide) rfl rfl d3_14 rfl (Or.inl (by simp)) (fun T4 h4 X4 W4 => ?_)
  have Fw4 := Fld.same W4 Fvalue_a_2
  have E_a_4 := Exa.wr W4 E_a_2
  have Fcoder_a_4 := Fld.other W4 Fcoder_a_2 (Or.inr (slot_ne (Or.inr (wd_31 hw)) (Or.inr (wd_33 hw)) (by decide) (t := .byte) (t' := (.array .byte)) (by decide) (by decide)))
  have A2_4 := Exa.wr W4 A2
  have C2_4 := Fld.other W4 C2 (Or.inl ne_a2_a)
  have V2_4 := Fld.other W4 V2 (Or.inl ne_a2_a)
  refine X4.aloadN (pc' := 18) d3_17 rfl rfl rfl ?_
  refine X4.ldcOld (pc' := 20) (wd_113 hw) d3_18 rfl ?_
  refine X4.getfield (pc' := 23) (host := "") (Or.inl (wd_30 hw)) Via.refl C2_4 d3_20 rfl (fun T6 X6 => ?_)
  refine X6.putfieldN (pc' := 26) (v' := (.int (0 : Int32))) (wd_30 hw) Via.refl Fcoder_a_4 E_a_4 (Or.inr ⟨(wd_31 hw), rfl, rfl⟩) (wd_6 hw) (ty := .byte) (by decide) rfl (by decide) d3_23 rfl (Or.inl (by simp)) (fun T7 h7 X7 W7 => ?_)
  have Fw7 := Fld.same W7 Fcoder_a_4
  have E_a_7 := Exa.wr W7 E_a_4
  have Fw4_7 := Fld.other W7 Fw4 (Or.inr (slot_ne (Or.inr (wd_33 hw)) (Or.inr (wd_31 hw)) (by decide) (t := (.array .byte)) (t' := .byte) (by decide) (by decide)))
  have A2_7 := Exa.wr W7 A2_4
  have C2_7 := Fld.other W7 C2_4 (Or.inl ne_a2_a)
  have V2_7 := Fld.other W7 V2_4 (Or.inl ne_a2_a)
  have Xz := X7.weak (J' := anyVm) (fun _ _ => trivial) anyVm.stb
  exact Xz.vreturn rfl d3_26 (by decide) (by decide) ⟨rfl, E_a_7⟩
set_option maxRecDepth 65536 in
set_option maxHeartbeats 40000000 in
theorem ctinit1_0 (l : Launch) (Z : State) (a0 : Array Value) (hw : ∀ d ∈ tables_1, d.before a0 Z = true) (a ca : Addr) (h0 : Heap) (E_a : Exa Z h0 a "java/lang/String") (Fvalue_a : Fld Z h0 a "java/lang/String" "value" "[B" .null) (Fcoder_a : Fld Z h0 a "java/lang/String" "coder" "B" (.int (0 : Int32))) (Vc : Lst Z h0 ca .char []) (KZ : Ext Z.heap h0) (hh : Jvm.Lit.constHeld Z "java/lang/String" 7) (hcw : Jvm.Lit.compactW.before a0 Z = true) :
    Ct l Z y2 jdk_42_method_3_code 2 none ({ frames := 2, cells := 2, slots := 4, locals := 29 } : Room) #[(.ref a), (.ref ca)] h0 [a] (jI Z) anyVm (fun v h => v = none ∧ Exa Z h a "java/lang/String") := by
  refine Ct.of jI.stb anyVm.stb (plainFor_of_name (by first | (simp [plainName, overriddenIn]; done) | decide +kernel)) ?_
  intro p e s m below meth c T0 X0
  refine Runs.top (g' := mkF m 0 #[.val (.ref a), .val (.ref ca)] []) (by first | (simp [entryFrame, mkF, argsToLocals, Value.category]; done) | rfl) ?_
  refine X0.aloadN (pc' := 1) d2_0 rfl rfl rfl ?_
  refine X0.aloadN (pc' := 2) d2_1 rfl rfl rfl ?_
  refine X0.iconst (pc' := 3) (z := 0) d2_2 rfl rfl ?_
  refine X0.aloadN (pc' := 4) d2_3 rfl rfl rfl ?_
  refine X0.arraylength (pc' := 5) (n := (0 : Int32)) Vc rfl d2_4 rfl ?_
  refine X0.aconstNull (pc' := 6) d2_5 rfl ?_
  refine X0.special (pc' := 9) (W := 0) (a := a) (argsL := [(.ref ca), (.int (0 : Int32)), (.int (0 : Int32)), .null]) (rest := []) (ctinit4_0 l Z a0 hw a ca h0 E_a Fvalue_a Fcoder_a KZ hh hcw) rfl (wd_11 hw) (wd_12 hw) (wd_7 hw) (wd_14 hw) (by decide) pd_3 rfl rfl rfl rfl d2_6 rfl (by decide) rfl (by decide) (by decide) (by decide) ((allS (Or.inl (by simp)) all0)) (fun T1 h1 v1 X1 K1 Q1 => ?_)
  have E_a_1 := E_a.keep K1
  obtain ⟨rfl, Ea⟩ := Q1
  show Runs p e below (T1.setTop (mkF m 9 #[.val (.ref a), .val (.ref ca)] [])) _
  exact X1.vreturn rfl d2_9 (by decide) (by decide) ⟨rfl, Ea⟩
theorem own_c255 (y : Int32) : 0 ≤ ((y &&& (255 : Int32)).toUInt32.toUInt16.toUInt32.toInt32).toInt ∧ ((y &&& (255 : Int32)).toUInt32.toUInt16.toUInt32.toInt32).toInt ≤ 255 := by
  have h := c_and y (255 : Int32) (by decide)
  have k := c_i2c (y &&& (255 : Int32))
  have e : (255 : Int32).toInt = 255 := rfl
  omega
theorem own_m3 (x : Int32) : ∀ z, z = (x &&& (3 : Int32)) → z = (0 : Int32) ∨ z = (1 : Int32) ∨ z = (2 : Int32) ∨ z = (3 : Int32) := by
  intro z hz
  have h := c_mask x (3 : Int32) 2 (by decide) (by decide)
  rw [← hz] at h
  have : z.toInt = 0 ∨ z.toInt = 1 ∨ z.toInt = 2 ∨ z.toInt = 3 := by omega
  rcases this with h | h | h | h <;> simp [← Int32.toInt_inj, h]

set_option maxRecDepth 65536 in
set_option maxHeartbeats 40000000 in
theorem ctstr (l : Launch) (Z : State) (a0 : Array Value) (hw : ∀ d ∈ tables_1, d.before a0 Z = true) (z q cz : Int32) (h0 : Heap) (hn : z = (0 : Int32) ∨ z = (1 : Int32) ∨ z = (2 : Int32) ∨ z = (3 : Int32)) (Sc : Sta Z h0 "java/lang/String" "COMPACT_STRINGS" "Z" (.int cz)) (hcz : cz ≠ (0 : Int32)) (KZ : Ext Z.heap h0) (hh : Jvm.Lit.constHeld Z "java/lang/String" 7) (hcw : Jvm.Lit.compactW.before a0 Z = true) :
    Ct l Z y1 method_2_code 6 (some (.object "java/lang/String")) ({ frames := 4, cells := 4, slots := 10, locals := 66 } : Room) #[(.int z), (.int q)] h0 [] (jI Z) anyVm (fun v h => ∃ a, v = some (.ref a) ∧ h0.size ≤ a ∧ Exa Z h a "java/lang/String") := by
  refine Ct.of jI.stb anyVm.stb (plainFor_of_name (by first | (simp [plainName, overriddenIn]; done) | decide +kernel)) ?_
  intro p e s m below meth c T0 X0
  refine Runs.top (g' := mkF m 0 #[.val (.int z), .val (.int q), .unset, .unset, .unset, .unset] []) (by first | (simp [entryFrame, mkF, argsToLocals, Value.category]; done) | rfl) ?_
  refine X0.iloadN (pc' := 1) d1_0 rfl rfl ?_
  refine X0.sipush (pc' := 4) (z := 255) d1_1 rfl rfl ?_
  refine X0.iand (pc' := 5) d1_4 rfl ?_
  refine X0.i2c (pc' := 6) d1_5 rfl ?_
  refine X0.istoreN (pc' := 7) (l' := #[.val (.int z), .val (.int q), .val (.int ((q &&& (255 : Int32)).toUInt32.toUInt16.toUInt32.toInt32)), .unset, .unset, .unset]) d1_6 rfl rfl ?_
  refine X0.iloadN (pc' := 8) d1_7 rfl rfl ?_
  refine X0.bipush (pc' := 10) (z := 8) d1_8 rfl rfl ?_
  refine X0.iushr (pc' := 11) d1_10 rfl ?_
  refine X0.sipush (pc' := 14) (z := 255) d1_11 rfl rfl ?_
  refine X0.iand (pc' := 15) d1_14 rfl ?_
  refine X0.i2c (pc' := 16) d1_15 rfl ?_
  refine X0.istoreN (pc' := 17) (l' := #[.val (.int z), .val (.int q), .val (.int ((q &&& (255 : Int32)).toUInt32.toUInt16.toUInt32.toInt32)), .val (.int ((((q.toUInt32 >>> ((8 : Int32) &&& 31).toUInt32).toInt32) &&& (255 : Int32)).toUInt32.toUInt16.toUInt32.toInt32)), .unset, .unset]) d1_16 rfl rfl ?_
  refine X0.iloadN (pc' := 18) d1_17 rfl rfl ?_
  refine X0.bipush (pc' := 20) (z := 16) d1_18 rfl rfl ?_
  refine X0.iushr (pc' := 21) d1_20 rfl ?_
  refine X0.sipush (pc' := 24) (z := 255) d1_21 rfl rfl ?_
  refine X0.iand (pc' := 25) d1_24 rfl ?_
  refine X0.i2c (pc' := 26) d1_25 rfl ?_
  refine X0.istore (pc' := 28) (l' := #[.val (.int z), .val (.int q), .val (.int ((q &&& (255 : Int32)).toUInt32.toUInt16.toUInt32.toInt32)), .val (.int ((((q.toUInt32 >>> ((8 : Int32) &&& 31).toUInt32).toInt32) &&& (255 : Int32)).toUInt32.toUInt16.toUInt32.toInt32)), .val (.int ((((q.toUInt32 >>> ((16 : Int32) &&& 31).toUInt32).toInt32) &&& (255 : Int32)).toUInt32.toUInt16.toUInt32.toInt32)), .unset]) d1_26 rfl rfl ?_
  have gx0 := own_c255 (q)
  generalize ((q &&& (255 : Int32)).toUInt32.toUInt16.toUInt32.toInt32) = x0 at gx0 ⊢
  have gx1 := own_c255 (((q.toUInt32 >>> ((8 : Int32) &&& 31).toUInt32).toInt32))
  generalize ((((q.toUInt32 >>> ((8 : Int32) &&& 31).toUInt32).toInt32) &&& (255 : Int32)).toUInt32.toUInt16.toUInt32.toInt32) = x1 at gx1 ⊢
  have gx2 := own_c255 (((q.toUInt32 >>> ((16 : Int32) &&& 31).toUInt32).toInt32))
  generalize ((((q.toUInt32 >>> ((16 : Int32) &&& 31).toUInt32).toInt32) &&& (255 : Int32)).toUInt32.toUInt16.toUInt32.toInt32) = x2 at gx2 ⊢
  rcases hn with rfl | rfl | rfl | rfl
  · refine X0.iloadN (pc' := 29) d1_28 rfl rfl ?_
    refine X0.ifNo (pc' := 32) d1_29 (by decide) rfl ?_
    refine X0.new (pc' := 35) (wd_5 hw) (wd_6 hw) (wd_7 hw) d1_32 rfl (by decide) (by decide) (fun T1 h1 b1 X1 g1 E1 A1 D1 => ?_)
    have sz_b1 : h0.size ≤ b1 := g1 ▸ X0.size
    have Sc_1 := Sta.ext E1 Sc
    have KZ_1 := ext_trans KZ E1
    have Fcoder_b1 : Fld Z h1 b1 "java/lang/String" "coder" "B" (.int (0 : Int32)) := D1 (Or.inr (wd_31 hw)) (ty := .byte) (by decide)
    have Fvalue_b1 : Fld Z h1 b1 "java/lang/String" "value" "[B" .null := D1 (Or.inr (wd_33 hw)) (ty := (.array .byte)) (by decide)
    refine X1.dup (pc' := 36) d1_35 rfl rfl ?_
    refine X1.iconst (pc' := 37) (z := 0) d1_36 rfl rfl ?_
    refine X1.newarray (pc' := 39) (ty := .char) rfl (wd_4 hw) d1_37 rfl (cap := 0) ⟨by decide, by decide⟩ (by decide) (by decide) (by decide) (fun T2 h2 b2 X2 g2 E2 V2 => ?_)
    have sz_b2 : h0.size ≤ b2 := g2 ▸ X1.size
    have ne_b1_b2 : b1 ≠ b2 := Nat.ne_of_lt (g2 ▸ A1.lt)
    have Sc_2 := Sta.ext E2 Sc_1
    have KZ_2 := ext_trans KZ_1 E2
    have A1_2 := Exa.ext E2 A1
    have Fcoder_b1_2 := Fld.ext E2 Fcoder_b1
    have Fvalue_b1_2 := Fld.ext E2 Fvalue_b1
    have V2' : Lst Z h2 b2 .char [] := V2
    refine X2.special (pc' := 42) (W := 1) (a := b1) (argsL := [(.ref b2)]) (rest := [(.ref b1)]) (ctinit1_0 l Z a0 hw b1 b2 h2 A1_2 Fvalue_b1_2 Fcoder_b1_2 V2' KZ_2 hh hcw) rfl (wd_8 hw) (wd_9 hw) (wd_7 hw) (wd_10 hw) (by decide) pd_4 rfl rfl rfl rfl d1_39 rfl (by decide) rfl (by decide) (by decide) (by decide) ((allS (Or.inr sz_b1) all0)) (fun T3 h3 v3 X3 K3 Q3 => ?_)
    have Sc_3 := sta_keepL Sc_2 K3 (exaS A1_2 exa0)
    have A1_3 := A1_2.keep K3
    have V2'_3 := V2'.keep K3 (ninS (Ne.symm ne_b1_b2) nin0)
    obtain ⟨rfl, Ea3⟩ := Q3
    show Runs p e below (T3.setTop (mkF m 42 #[.val (.int (0 : Int32)), .val (.int q), .val (.int x0), .val (.int x1), .val (.int x2), .unset] [(.ref b1)])) _
    exact X3.areturn rfl rfl rfl rfl d1_42 (by decide) (by decide) ⟨_, rfl, sz_b1, Ea3⟩
  · refine X0.iloadN (pc' := 29) d1_28 rfl rfl ?_
    refine X0.ifYes (pc' := 43) d1_29 (by decide) (by decide) (by decide) ?_
    refine X0.iloadN (pc' := 44) d1_43 rfl rfl ?_
    refine X0.iconst (pc' := 45) (z := 1) d1_44 rfl rfl ?_
    refine X0.icmpNo (pc' := 48) d1_45 (by decide) rfl ?_
    refine X0.iconst (pc' := 49) (z := 1) d1_48 rfl rfl ?_
    refine X0.newarray (pc' := 51) (ty := .char) rfl (wd_4 hw) d1_49 rfl (cap := 1) ⟨by decide, by decide⟩ (by decide) (by decide) (by decide) (fun T4 h4 b4 X4 g4 E4 V4 => ?_)
    have sz_b4 : h0.size ≤ b4 := g4 ▸ X0.size
    have Sc_4 := Sta.ext E4 Sc
    have KZ_4 := ext_trans KZ E4
    have V4' : Lst Z h4 b4 .char [(.int (0 : Int32))] := V4
    refine X4.astore (pc' := 53) (l' := #[.val (.int (1 : Int32)), .val (.int q), .val (.int x0), .val (.int x1), .val (.int x2), .val (.ref b4)]) d1_51 rfl rfl rfl ?_
    refine X4.aload (pc' := 55) d1_53 rfl rfl rfl ?_
    refine X4.iconst (pc' := 56) (z := 0) d1_55 rfl rfl ?_
    refine X4.iloadN (pc' := 57) d1_56 rfl rfl ?_
    refine X4.castore (pc' := 58) V4' (show Inb (0 : Int32) 1 from ⟨by decide, by decide⟩) d1_57 rfl (Or.inr sz_b4) (fun T5 h5 X5 W5 => ?_)
    rw [own_nar gx0] at W5
    have V5 : Lst Z h5 b4 .char [(.int x0)] := V4'.set W5
    have Sc_5 := Sta.wr W5 Sc_4
    refine X5.new (pc' := 61) (wd_5 hw) (wd_6 hw) (wd_7 hw) d1_58 rfl (by decide) (by decide) (fun T6 h6 b6 X6 g6 E6 A6 D6 => ?_)
    have sz_b6 : h0.size ≤ b6 := g6 ▸ X5.size
    have ne_b4_b6 : b4 ≠ b6 := Nat.ne_of_lt (g6 ▸ V5.lt)
    have Sc_6 := Sta.ext E6 Sc_5
    have V5_6 := V5.ext E6
    have Fcoder_b6 : Fld Z h6 b6 "java/lang/String" "coder" "B" (.int (0 : Int32)) := D6 (Or.inr (wd_31 hw)) (ty := .byte) (by decide)
    have Fvalue_b6 : Fld Z h6 b6 "java/lang/String" "value" "[B" .null := D6 (Or.inr (wd_33 hw)) (ty := (.array .byte)) (by decide)
    refine X6.dup (pc' := 62) d1_61 rfl rfl ?_
    refine X6.aload (pc' := 64) d1_62 rfl rfl rfl ?_
    refine X6.special (pc' := 67) (W := 1) (a := b6) (argsL := [(.ref b4)]) (rest := [(.ref b6)]) (ctinit1_1 l Z a0 hw jI.stb b6 b4 cz x0 h6 A6 Fvalue_b6 Fcoder_b6 V5_6 ne_b4_b6 Sc_6 hcz gx0) rfl (wd_8 hw) (wd_9 hw) (wd_7 hw) (wd_10 hw) (by decide) pd_4 rfl rfl rfl rfl d1_64 rfl (by decide) rfl (by decide) (by decide) (by decide) ((allS (Or.inr sz_b6) all0)) (fun T7 h7 v7 X7 K7 Q7 => ?_)
    have Sc_7 := sta_keepL Sc_6 K7 (exaS A6 exa0)
    have V5_7 := V5_6.keep K7 (ninS ne_b4_b6 nin0)
    have A6_7 := A6.keep K7
    obtain ⟨rfl, bb, szb, Ea7, -⟩ := Q7
    have Xz := X7.weak (J' := anyVm) (fun _ _ => trivial) anyVm.stb
    show Runs p e below (T7.setTop (mkF m 67 #[.val (.int (1 : Int32)), .val (.int q), .val (.int x0), .val (.int x1), .val (.int x2), .val (.ref b4)] [(.ref b6)])) _
    exact Xz.areturn rfl rfl rfl rfl d1_67 (by decide) (by decide) ⟨_, rfl, sz_b6, Ea7⟩
  · refine X0.iloadN (pc' := 29) d1_28 rfl rfl ?_
    refine X0.ifYes (pc' := 43) d1_29 (by decide) (by decide) (by decide) ?_
    refine X0.iloadN (pc' := 44) d1_43 rfl rfl ?_
    refine X0.iconst (pc' := 45) (z := 1) d1_44 rfl rfl ?_
    refine X0.icmpYes (pc' := 68) d1_45 (by decide) (by decide) (by decide) ?_
    refine X0.iloadN (pc' := 69) d1_68 rfl rfl ?_
    refine X0.iconst (pc' := 70) (z := 2) d1_69 rfl rfl ?_
    refine X0.icmpNo (pc' := 73) d1_70 (by decide) rfl ?_
    refine X0.iconst (pc' := 74) (z := 2) d1_73 rfl rfl ?_
    refine X0.newarray (pc' := 76) (ty := .char) rfl (wd_4 hw) d1_74 rfl (cap := 2) ⟨by decide, by decide⟩ (by decide) (by decide) (by decide) (fun T8 h8 b8 X8 g8 E8 V8 => ?_)
    have sz_b8 : h0.size ≤ b8 := g8 ▸ X0.size
    have Sc_8 := Sta.ext E8 Sc
    have KZ_8 := ext_trans KZ E8
    have V8' : Lst Z h8 b8 .char [(.int (0 : Int32)), (.int (0 : Int32))] := V8
    refine X8.astore (pc' := 78) (l' := #[.val (.int (2 : Int32)), .val (.int q), .val (.int x0), .val (.int x1), .val (.int x2), .val (.ref b8)]) d1_76 rfl rfl rfl ?_
    refine X8.aload (pc' := 80) d1_78 rfl rfl rfl ?_
    refine X8.iconst (pc' := 81) (z := 0) d1_80 rfl rfl ?_
    refine X8.iloadN (pc' := 82) d1_81 rfl rfl ?_
    refine X8.castore (pc' := 83) V8' (show Inb (0 : Int32) 2 from ⟨by decide, by decide⟩) d1_82 rfl (Or.inr sz_b8) (fun T9 h9 X9 W9 => ?_)
    rw [own_nar gx0] at W9
    have V9 : Lst Z h9 b8 .char [(.int x0), (.int (0 : Int32))] := V8'.set W9
    have Sc_9 := Sta.wr W9 Sc_8
    refine X9.aload (pc' := 85) d1_83 rfl rfl rfl ?_
    refine X9.iconst (pc' := 86) (z := 1) d1_85 rfl rfl ?_
    refine X9.iloadN (pc' := 87) d1_86 rfl rfl ?_
    refine X9.castore (pc' := 88) V9 (show Inb (1 : Int32) 2 from ⟨by decide, by decide⟩) d1_87 rfl (Or.inr sz_b8) (fun T10 h10 X10 W10 => ?_)
    rw [own_nar gx1] at W10
    have V10 : Lst Z h10 b8 .char [(.int x0), (.int x1)] := V9.set W10
    have Sc_10 := Sta.wr W10 Sc_9
    refine X10.new (pc' := 91) (wd_5 hw) (wd_6 hw) (wd_7 hw) d1_88 rfl (by decide) (by decide) (fun T11 h11 b11 X11 g11 E11 A11 D11 => ?_)
    have sz_b11 : h0.size ≤ b11 := g11 ▸ X10.size
    have ne_b8_b11 : b8 ≠ b11 := Nat.ne_of_lt (g11 ▸ V10.lt)
    have Sc_11 := Sta.ext E11 Sc_10
    have V10_11 := V10.ext E11
    have Fcoder_b11 : Fld Z h11 b11 "java/lang/String" "coder" "B" (.int (0 : Int32)) := D11 (Or.inr (wd_31 hw)) (ty := .byte) (by decide)
    have Fvalue_b11 : Fld Z h11 b11 "java/lang/String" "value" "[B" .null := D11 (Or.inr (wd_33 hw)) (ty := (.array .byte)) (by decide)
    refine X11.dup (pc' := 92) d1_91 rfl rfl ?_
    refine X11.aload (pc' := 94) d1_92 rfl rfl rfl ?_
    refine X11.special (pc' := 97) (W := 1) (a := b11) (argsL := [(.ref b8)]) (rest := [(.ref b11)]) (ctinit1_2 l Z a0 hw jI.stb b11 b8 cz x0 x1 h11 A11 Fvalue_b11 Fcoder_b11 V10_11 ne_b8_b11 Sc_11 hcz gx0 gx1) rfl (wd_8 hw) (wd_9 hw) (wd_7 hw) (wd_10 hw) (by decide) pd_4 rfl rfl rfl rfl d1_94 rfl (by decide) rfl (by decide) (by decide) (by decide) ((allS (Or.inr sz_b11) all0)) (fun T12 h12 v12 X12 K12 Q12 => ?_)
    have Sc_12 := sta_keepL Sc_11 K12 (exaS A11 exa0)
    have V10_12 := V10_11.keep K12 (ninS ne_b8_b11 nin0)
    have A11_12 := A11.keep K12
    obtain ⟨rfl, bb, szb, Ea12, -⟩ := Q12
    have Xz := X12.weak (J' := anyVm) (fun _ _ => trivial) anyVm.stb
    show Runs p e below (T12.setTop (mkF m 97 #[.val (.int (2 : Int32)), .val (.int q), .val (.int x0), .val (.int x1), .val (.int x2), .val (.ref b8)] [(.ref b11)])) _
    exact Xz.areturn rfl rfl rfl rfl d1_97 (by decide) (by decide) ⟨_, rfl, sz_b11, Ea12⟩
  · refine X0.iloadN (pc' := 29) d1_28 rfl rfl ?_
    refine X0.ifYes (pc' := 43) d1_29 (by decide) (by decide) (by decide) ?_
    refine X0.iloadN (pc' := 44) d1_43 rfl rfl ?_
    refine X0.iconst (pc' := 45) (z := 1) d1_44 rfl rfl ?_
    refine X0.icmpYes (pc' := 68) d1_45 (by decide) (by decide) (by decide) ?_
    refine X0.iloadN (pc' := 69) d1_68 rfl rfl ?_
    refine X0.iconst (pc' := 70) (z := 2) d1_69 rfl rfl ?_
    refine X0.icmpYes (pc' := 98) d1_70 (by decide) (by decide) (by decide) ?_
    refine X0.iconst (pc' := 99) (z := 3) d1_98 rfl rfl ?_
    refine X0.newarray (pc' := 101) (ty := .char) rfl (wd_4 hw) d1_99 rfl (cap := 3) ⟨by decide, by decide⟩ (by decide) (by decide) (by decide) (fun T13 h13 b13 X13 g13 E13 V13 => ?_)
    have sz_b13 : h0.size ≤ b13 := g13 ▸ X0.size
    have Sc_13 := Sta.ext E13 Sc
    have KZ_13 := ext_trans KZ E13
    have V13' : Lst Z h13 b13 .char [(.int (0 : Int32)), (.int (0 : Int32)), (.int (0 : Int32))] := V13
    refine X13.astore (pc' := 103) (l' := #[.val (.int (3 : Int32)), .val (.int q), .val (.int x0), .val (.int x1), .val (.int x2), .val (.ref b13)]) d1_101 rfl rfl rfl ?_
    refine X13.aload (pc' := 105) d1_103 rfl rfl rfl ?_
    refine X13.iconst (pc' := 106) (z := 0) d1_105 rfl rfl ?_
    refine X13.iloadN (pc' := 107) d1_106 rfl rfl ?_
    refine X13.castore (pc' := 108) V13' (show Inb (0 : Int32) 3 from ⟨by decide, by decide⟩) d1_107 rfl (Or.inr sz_b13) (fun T14 h14 X14 W14 => ?_)
    rw [own_nar gx0] at W14
    have V14 : Lst Z h14 b13 .char [(.int x0), (.int (0 : Int32)), (.int (0 : Int32))] := V13'.set W14
    have Sc_14 := Sta.wr W14 Sc_13
    refine X14.aload (pc' := 110) d1_108 rfl rfl rfl ?_
    refine X14.iconst (pc' := 111) (z := 1) d1_110 rfl rfl ?_
    refine X14.iloadN (pc' := 112) d1_111 rfl rfl ?_
    refine X14.castore (pc' := 113) V14 (show Inb (1 : Int32) 3 from ⟨by decide, by decide⟩) d1_112 rfl (Or.inr sz_b13) (fun T15 h15 X15 W15 => ?_)
    rw [own_nar gx1] at W15
    have V15 : Lst Z h15 b13 .char [(.int x0), (.int x1), (.int (0 : Int32))] := V14.set W15
    have Sc_15 := Sta.wr W15 Sc_14
    refine X15.aload (pc' := 115) d1_113 rfl rfl rfl ?_
    refine X15.iconst (pc' := 116) (z := 2) d1_115 rfl rfl ?_
    refine X15.iload (pc' := 118) d1_116 rfl rfl ?_
    refine X15.castore (pc' := 119) V15 (show Inb (2 : Int32) 3 from ⟨by decide, by decide⟩) d1_118 rfl (Or.inr sz_b13) (fun T16 h16 X16 W16 => ?_)
    rw [own_nar gx2] at W16
    have V16 : Lst Z h16 b13 .char [(.int x0), (.int x1), (.int x2)] := V15.set W16
    have Sc_16 := Sta.wr W16 Sc_15
    refine X16.new (pc' := 122) (wd_5 hw) (wd_6 hw) (wd_7 hw) d1_119 rfl (by decide) (by decide) (fun T17 h17 b17 X17 g17 E17 A17 D17 => ?_)
    have sz_b17 : h0.size ≤ b17 := g17 ▸ X16.size
    have ne_b13_b17 : b13 ≠ b17 := Nat.ne_of_lt (g17 ▸ V16.lt)
    have Sc_17 := Sta.ext E17 Sc_16
    have V16_17 := V16.ext E17
    have Fcoder_b17 : Fld Z h17 b17 "java/lang/String" "coder" "B" (.int (0 : Int32)) := D17 (Or.inr (wd_31 hw)) (ty := .byte) (by decide)
    have Fvalue_b17 : Fld Z h17 b17 "java/lang/String" "value" "[B" .null := D17 (Or.inr (wd_33 hw)) (ty := (.array .byte)) (by decide)
    refine X17.dup (pc' := 123) d1_122 rfl rfl ?_
    refine X17.aload (pc' := 125) d1_123 rfl rfl rfl ?_
    refine X17.special (pc' := 128) (W := 1) (a := b17) (argsL := [(.ref b13)]) (rest := [(.ref b17)]) (ctinit1_3 l Z a0 hw jI.stb b17 b13 cz x0 x1 x2 h17 A17 Fvalue_b17 Fcoder_b17 V16_17 ne_b13_b17 Sc_17 hcz gx0 gx1 gx2) rfl (wd_8 hw) (wd_9 hw) (wd_7 hw) (wd_10 hw) (by decide) pd_4 rfl rfl rfl rfl d1_125 rfl (by decide) rfl (by decide) (by decide) (by decide) ((allS (Or.inr sz_b17) all0)) (fun T18 h18 v18 X18 K18 Q18 => ?_)
    have Sc_18 := sta_keepL Sc_17 K18 (exaS A17 exa0)
    have V16_18 := V16_17.keep K18 (ninS ne_b13_b17 nin0)
    have A17_18 := A17.keep K18
    obtain ⟨rfl, bb, szb, Ea18, -⟩ := Q18
    have Xz := X18.weak (J' := anyVm) (fun _ _ => trivial) anyVm.stb
    show Runs p e below (T18.setTop (mkF m 128 #[.val (.int (3 : Int32)), .val (.int q), .val (.int x0), .val (.int x1), .val (.int x2), .val (.ref b13)] [(.ref b17)])) _
    exact Xz.areturn rfl rfl rfl rfl d1_128 (by decide) (by decide) ⟨_, rfl, sz_b17, Ea18⟩
def own_E (Z : State) (h : Heap) (a p1 : Addr) (i1 i2 : Int32) : Prop := Exa Z h a "com/example/deferral_ledger/deferralledger/elections/DistributionElection" ∧ Fld Z h a "com/example/deferral_ledger/deferralledger/elections/DistributionElection" "participant" "Ljava/lang/String;" (.ref p1) ∧ Fld Z h a "com/example/deferral_ledger/deferralledger/elections/DistributionElection" "planYear" "I" (.int i1) ∧ Fld Z h a "com/example/deferral_ledger/deferralledger/elections/DistributionElection" "installments" "I" (.int i2) ∧ Fld Z h a "com/example/deferral_ledger/deferralledger/elections/DistributionElection" "inServiceDate" "Ljava/time/LocalDate;" .null ∧ Fld Z h a "com/example/deferral_ledger/deferralledger/elections/DistributionElection" "changes" "J" (.long (0 : Int64)) ∧ Fld Z h a "com/example/deferral_ledger/deferralledger/elections/DistributionElection" "pushYears" "I" (.int (0 : Int32)) ∧ Fld Z h a "com/example/deferral_ledger/deferralledger/elections/DistributionElection" "filed" "Ljava/time/LocalDate;" .null

set_option maxRecDepth 65536 in
set_option maxHeartbeats 40000000 in
theorem ctA (l : Launch) (Z : State) (a0 : Array Value) (hw : ∀ d ∈ tables_1, d.before a0 Z = true) {J : Vm → Prop} (hJ : Stb J) (a p1 : Addr) (i1 i2 : Int32) (h0 : Heap) (E_a : Exa Z h0 a "com/example/deferral_ledger/deferralledger/elections/DistributionElection") (Fparticipant_a : Fld Z h0 a "com/example/deferral_ledger/deferralledger/elections/DistributionElection" "participant" "Ljava/lang/String;" .null) (FplanYear_a : Fld Z h0 a "com/example/deferral_ledger/deferralledger/elections/DistributionElection" "planYear" "I" (.int (0 : Int32))) (Finstallments_a : Fld Z h0 a "com/example/deferral_ledger/deferralledger/elections/DistributionElection" "installments" "I" (.int (0 : Int32))) (FinServiceDate_a : Fld Z h0 a "com/example/deferral_ledger/deferralledger/elections/DistributionElection" "inServiceDate" "Ljava/time/LocalDate;" .null) (Fchanges_a : Fld Z h0 a "com/example/deferral_ledger/deferralledger/elections/DistributionElection" "changes" "J" (.long (0 : Int64))) (FpushYears_a : Fld Z h0 a "com/example/deferral_ledger/deferralledger/elections/DistributionElection" "pushYears" "I" (.int (0 : Int32))) (Ffiled_a : Fld Z h0 a "com/example/deferral_ledger/deferralledger/elections/DistributionElection" "filed" "Ljava/time/LocalDate;" .null) :
    Ct l Z y10 prog_25_method_4_code 9 none ({ frames := 1, cells := 0, slots := 0, locals := 12 } : Room) #[(.ref a), (.ref p1), (.int i1), (.int i2), .null, (.long (0 : Int64)), (.int (0 : Int32)), .null] h0 [a] J J (fun v h => v = none ∧ own_E Z h a p1 i1 i2) := by
  refine Ct.of hJ hJ (plainFor_of_name (by first | (simp [plainName, overriddenIn]; done) | decide +kernel)) ?_
  intro p e s m below meth c T0 X0
  refine Runs.top (g' := mkF m 0 #[.val (.ref a), .val (.ref p1), .val (.int i1), .val (.int i2), .val .null, .val (.long (0 : Int64)), .second, .val (.int (0 : Int32)), .val .null] []) (by first | (simp [entryFrame, mkF, argsToLocals, Value.category]; done) | rfl) ?_
  refine X0.aloadN (pc' := 1) d10_0 rfl rfl rfl ?_
  refine X0.initObj (pc' := 4) (W := 0) (wd_46 hw) (wd_16 hw) (wd_17 hw) rfl d10_1 rfl (by decide) rfl (by decide) (fun T1 X1 => ?_)
  refine X1.aloadN (pc' := 5) d10_4 rfl rfl rfl ?_
  refine X1.aloadN (pc' := 6) d10_5 rfl rfl rfl ?_
  refine X1.putfield (pc' := 9) (host := "") (Or.inl (wd_47 hw)) Via.refl Fparticipant_a E_a (Or.inr ⟨(wd_48 hw), rfl, rfl⟩) (wd_39 hw) (ty := (.object "java/lang/String")) (by decide) rfl rfl d10_6 rfl (Or.inl (by simp)) (fun T2 h2 X2 W2 => ?_)
  have Fw2 := Fld.same W2 Fparticipant_a
  have E_a_2 := Exa.wr W2 E_a
  have FplanYear_a_2 := Fld.other W2 FplanYear_a (Or.inr (slot_ne (Or.inr (wd_50 hw)) (Or.inr (wd_48 hw)) (by decide) (t := .int) (t' := (.object "java/lang/String")) (by decide) (by decide)))
  have Finstallments_a_2 := Fld.other W2 Finstallments_a (Or.inr (slot_ne (Or.inr (wd_52 hw)) (Or.inr (wd_48 hw)) (by decide) (t := .int) (t' := (.object "java/lang/String")) (by decide) (by decide)))
  have FinServiceDate_a_2 := Fld.other W2 FinServiceDate_a (Or.inr (slot_ne (Or.inr (wd_54 hw)) (Or.inr (wd_48 hw)) (by decide) (t := (.object "java/time/LocalDate")) (t' := (.object "java/lang/String")) (by decide) (by decide)))
  have Fchanges_a_2 := Fld.other W2 Fchanges_a (Or.inr (slot_ne (Or.inr (wd_56 hw)) (Or.inr (wd_48 hw)) (by decide) (t := .long) (t' := (.object "java/lang/String")) (by decide) (by decide)))
  have FpushYears_a_2 := Fld.other W2 FpushYears_a (Or.inr (slot_ne (Or.inr (wd_58 hw)) (Or.inr (wd_48 hw)) (by decide) (t := .int) (t' := (.object "java/lang/String")) (by decide) (by decide)))
  have Ffiled_a_2 := Fld.other W2 Ffiled_a (Or.inr (slot_ne (Or.inr (wd_60 hw)) (Or.inr (wd_48 hw)) (by decide) (t := (.object "java/time/LocalDate")) (t' := (.object "java/lang/String")) (by decide) (by decide)))
  refine X2.aloadN (pc' := 10) d10_9 rfl rfl rfl ?_
  refine X2.iloadN (pc' := 11) d10_10 rfl rfl ?_
  refine X2.putfield (pc' := 14) (host := "") (Or.inl (wd_49 hw)) Via.refl FplanYear_a_2 E_a_2 (Or.inr ⟨(wd_50 hw), rfl, rfl⟩) (wd_39 hw) (ty := .int) (by decide) rfl rfl d10_11 rfl (Or.inl (by simp)) (fun T3 h3 X3 W3 => ?_)
  have Fw3 := Fld.same W3 FplanYear_a_2
  have E_a_3 := Exa.wr W3 E_a_2
  have Fw2_3 := Fld.other W3 Fw2 (Or.inr (slot_ne (Or.inr (wd_48 hw)) (Or.inr (wd_50 hw)) (by decide) (t := (.object "java/lang/String")) (t' := .int) (by decide) (by decide)))
  have Finstallments_a_3 := Fld.other W3 Finstallments_a_2 (Or.inr (slot_ne (Or.inr (wd_52 hw)) (Or.inr (wd_50 hw)) (by decide) (t := .int) (t' := .int) (by decide) (by decide)))
  have FinServiceDate_a_3 := Fld.other W3 FinServiceDate_a_2 (Or.inr (slot_ne (Or.inr (wd_54 hw)) (Or.inr (wd_50 hw)) (by decide) (t := (.object "java/time/LocalDate")) (t' := .int) (by decide) (by decide)))
  have Fchanges_a_3 := Fld.other W3 Fchanges_a_2 (Or.inr (slot_ne (Or.inr (wd_56 hw)) (Or.inr (wd_50 hw)) (by decide) (t := .long) (t' := .int) (by decide) (by decide)))
  have FpushYears_a_3 := Fld.other W3 FpushYears_a_2 (Or.inr (slot_ne (Or.inr (wd_58 hw)) (Or.inr (wd_50 hw)) (by decide) (t := .int) (t' := .int) (by decide) (by decide)))
  have Ffiled_a_3 := Fld.other W3 Ffiled_a_2 (Or.inr (slot_ne (Or.inr (wd_60 hw)) (Or.inr (wd_50 hw)) (by decide) (t := (.object "java/time/LocalDate")) (t' := .int) (by decide) (by decide)))
  refine X3.aloadN (pc' := 15) d10_14 rfl rfl rfl ?_
  refine X3.iloadN (pc' := 16) d10_15 rfl rfl ?_
  refine X3.putfield (pc' := 19) (host := "") (Or.inl (wd_51 hw)) Via.refl Finstallments_a_3 E_a_3 (Or.inr ⟨(wd_52 hw), rfl, rfl⟩) (wd_39 hw) (ty := .int) (by decide) rfl rfl d10_16 rfl (Or.inl (by simp)) (fun T4 h4 X4 W4 => ?_)
  have Fw4 := Fld.same W4 Finstallments_a_3
  have E_a_4 := Exa.wr W4 E_a_3
  have Fw2_4 := Fld.other W4 Fw2_3 (Or.inr (slot_ne (Or.inr (wd_48 hw)) (Or.inr (wd_52 hw)) (by decide) (t := (.object "java/lang/String")) (t' := .int) (by decide) (by decide)))
  have Fw3_4 := Fld.other W4 Fw3 (Or.inr (slot_ne (Or.inr (wd_50 hw)) (Or.inr (wd_52 hw)) (by decide) (t := .int) (t' := .int) (by decide) (by decide)))
  have FinServiceDate_a_4 := Fld.other W4 FinServiceDate_a_3 (Or.inr (slot_ne (Or.inr (wd_54 hw)) (Or.inr (wd_52 hw)) (by decide) (t := (.object "java/time/LocalDate")) (t' := .int) (by decide) (by decide)))
  have Fchanges_a_4 := Fld.other W4 Fchanges_a_3 (Or.inr (slot_ne (Or.inr (wd_56 hw)) (Or.inr (wd_52 hw)) (by decide) (t := .long) (t' := .int) (by decide) (by decide)))
  have FpushYears_a_4 := Fld.other W4 FpushYears_a_3 (Or.inr (slot_ne (Or.inr (wd_58 hw)) (Or.inr (wd_52 hw)) (by decide) (t := .int) (t' := .int) (by decide) (by decide)))
  have Ffiled_a_4 := Fld.other W4 Ffiled_a_3 (Or.inr (slot_ne (Or.inr (wd_60 hw)) (Or.inr (wd_52 hw)) (by decide) (t := (.object "java/time/LocalDate")) (t' := .int) (by decide) (by decide)))
  refine X4.aloadN (pc' := 20) d10_19 rfl rfl rfl ?_
  refine X4.aload (pc' := 22) d10_20 rfl rfl rfl ?_
  refine X4.putfield (pc' := 25) (host := "") (Or.inl (wd_53 hw)) Via.refl FinServiceDate_a_4 E_a_4 (Or.inr ⟨(wd_54 hw), rfl, rfl⟩) (wd_39 hw) (ty := (.object "java/time/LocalDate")) (by decide) rfl rfl d10_22 rfl (Or.inl (by simp)) (fun T5 h5 X5 W5 => ?_)
  have Fw5 := Fld.same W5 FinServiceDate_a_4
  have E_a_5 := Exa.wr W5 E_a_4
  have Fw2_5 := Fld.other W5 Fw2_4 (Or.inr (slot_ne (Or.inr (wd_48 hw)) (Or.inr (wd_54 hw)) (by decide) (t := (.object "java/lang/String")) (t' := (.object "java/time/LocalDate")) (by decide) (by decide)))
  have Fw3_5 := Fld.other W5 Fw3_4 (Or.inr (slot_ne (Or.inr (wd_50 hw)) (Or.inr (wd_54 hw)) (by decide) (t := .int) (t' := (.object "java/time/LocalDate")) (by decide) (by decide)))
  have Fw4_5 := Fld.other W5 Fw4 (Or.inr (slot_ne (Or.inr (wd_52 hw)) (Or.inr (wd_54 hw)) (by decide) (t := .int) (t' := (.object "java/time/LocalDate")) (by decide) (by decide)))
  have Fchanges_a_5 := Fld.other W5 Fchanges_a_4 (Or.inr (slot_ne (Or.inr (wd_56 hw)) (Or.inr (wd_54 hw)) (by decide) (t := .long) (t' := (.object "java/time/LocalDate")) (by decide) (by decide)))
  have FpushYears_a_5 := Fld.other W5 FpushYears_a_4 (Or.inr (slot_ne (Or.inr (wd_58 hw)) (Or.inr (wd_54 hw)) (by decide) (t := .int) (t' := (.object "java/time/LocalDate")) (by decide) (by decide)))
  have Ffiled_a_5 := Fld.other W5 Ffiled_a_4 (Or.inr (slot_ne (Or.inr (wd_60 hw)) (Or.inr (wd_54 hw)) (by decide) (t := (.object "java/time/LocalDate")) (t' := (.object "java/time/LocalDate")) (by decide) (by decide)))
  refine X5.aloadN (pc' := 26) d10_25 rfl rfl rfl ?_
  refine X5.lload (pc' := 28) d10_26 rfl rfl ?_
  refine X5.putfield (pc' := 31) (host := "") (Or.inl (wd_55 hw)) Via.refl Fchanges_a_5 E_a_5 (Or.inr ⟨(wd_56 hw), rfl, rfl⟩) (wd_39 hw) (ty := .long) (by decide) rfl rfl d10_28 rfl (Or.inl (by simp)) (fun T6 h6 X6 W6 => ?_)
  have Fw6 := Fld.same W6 Fchanges_a_5
  have E_a_6 := Exa.wr W6 E_a_5
  have Fw2_6 := Fld.other W6 Fw2_5 (Or.inr (slot_ne (Or.inr (wd_48 hw)) (Or.inr (wd_56 hw)) (by decide) (t := (.object "java/lang/String")) (t' := .long) (by decide) (by decide)))
  have Fw3_6 := Fld.other W6 Fw3_5 (Or.inr (slot_ne (Or.inr (wd_50 hw)) (Or.inr (wd_56 hw)) (by decide) (t := .int) (t' := .long) (by decide) (by decide)))
  have Fw4_6 := Fld.other W6 Fw4_5 (Or.inr (slot_ne (Or.inr (wd_52 hw)) (Or.inr (wd_56 hw)) (by decide) (t := .int) (t' := .long) (by decide) (by decide)))
  have Fw5_6 := Fld.other W6 Fw5 (Or.inr (slot_ne (Or.inr (wd_54 hw)) (Or.inr (wd_56 hw)) (by decide) (t := (.object "java/time/LocalDate")) (t' := .long) (by decide) (by decide)))
  have FpushYears_a_6 := Fld.other W6 FpushYears_a_5 (Or.inr (slot_ne (Or.inr (wd_58 hw)) (Or.inr (wd_56 hw)) (by decide) (t := .int) (t' := .long) (by decide) (by decide)))
  have Ffiled_a_6 := Fld.other W6 Ffiled_a_5 (Or.inr (slot_ne (Or.inr (wd_60 hw)) (Or.inr (wd_56 hw)) (by decide) (t := (.object "java/time/LocalDate")) (t' := .long) (by decide) (by decide)))
  refine X6.aloadN (pc' := 32) d10_31 rfl rfl rfl ?_
  refine X6.iload (pc' := 34) d10_32 rfl rfl ?_
  refine X6.putfield (pc' := 37) (host := "") (Or.inl (wd_57 hw)) Via.refl FpushYears_a_6 E_a_6 (Or.inr ⟨(wd_58 hw), rfl, rfl⟩) (wd_39 hw) (ty := .int) (by decide) rfl rfl d10_34 rfl (Or.inl (by simp)) (fun T7 h7 X7 W7 => ?_)
  have Fw7 := Fld.same W7 FpushYears_a_6
  have E_a_7 := Exa.wr W7 E_a_6
  have Fw2_7 := Fld.other W7 Fw2_6 (Or.inr (slot_ne (Or.inr (wd_48 hw)) (Or.inr (wd_58 hw)) (by decide) (t := (.object "java/lang/String")) (t' := .int) (by decide) (by decide)))
  have Fw3_7 := Fld.other W7 Fw3_6 (Or.inr (slot_ne (Or.inr (wd_50 hw)) (Or.inr (wd_58 hw)) (by decide) (t := .int) (t' := .int) (by decide) (by decide)))
  have Fw4_7 := Fld.other W7 Fw4_6 (Or.inr (slot_ne (Or.inr (wd_52 hw)) (Or.inr (wd_58 hw)) (by decide) (t := .int) (t' := .int) (by decide) (by decide)))
  have Fw5_7 := Fld.other W7 Fw5_6 (Or.inr (slot_ne (Or.inr (wd_54 hw)) (Or.inr (wd_58 hw)) (by decide) (t := (.object "java/time/LocalDate")) (t' := .int) (by decide) (by decide)))
  have Fw6_7 := Fld.other W7 Fw6 (Or.inr (slot_ne (Or.inr (wd_56 hw)) (Or.inr (wd_58 hw)) (by decide) (t := .long) (t' := .int) (by decide) (by decide)))
  have Ffiled_a_7 := Fld.other W7 Ffiled_a_6 (Or.inr (slot_ne (Or.inr (wd_60 hw)) (Or.inr (wd_58 hw)) (by decide) (t := (.object "java/time/LocalDate")) (t' := .int) (by decide) (by decide)))
  refine X7.aloadN (pc' := 38) d10_37 rfl rfl rfl ?_
  refine X7.aload (pc' := 40) d10_38 rfl rfl rfl ?_
  refine X7.putfield (pc' := 43) (host := "") (Or.inl (wd_59 hw)) Via.refl Ffiled_a_7 E_a_7 (Or.inr ⟨(wd_60 hw), rfl, rfl⟩) (wd_39 hw) (ty := (.object "java/time/LocalDate")) (by decide) rfl rfl d10_40 rfl (Or.inl (by simp)) (fun T8 h8 X8 W8 => ?_)
  have Fw8 := Fld.same W8 Ffiled_a_7
  have E_a_8 := Exa.wr W8 E_a_7
  have Fw2_8 := Fld.other W8 Fw2_7 (Or.inr (slot_ne (Or.inr (wd_48 hw)) (Or.inr (wd_60 hw)) (by decide) (t := (.object "java/lang/String")) (t' := (.object "java/time/LocalDate")) (by decide) (by decide)))
  have Fw3_8 := Fld.other W8 Fw3_7 (Or.inr (slot_ne (Or.inr (wd_50 hw)) (Or.inr (wd_60 hw)) (by decide) (t := .int) (t' := (.object "java/time/LocalDate")) (by decide) (by decide)))
  have Fw4_8 := Fld.other W8 Fw4_7 (Or.inr (slot_ne (Or.inr (wd_52 hw)) (Or.inr (wd_60 hw)) (by decide) (t := .int) (t' := (.object "java/time/LocalDate")) (by decide) (by decide)))
  have Fw5_8 := Fld.other W8 Fw5_7 (Or.inr (slot_ne (Or.inr (wd_54 hw)) (Or.inr (wd_60 hw)) (by decide) (t := (.object "java/time/LocalDate")) (t' := (.object "java/time/LocalDate")) (by decide) (by decide)))
  have Fw6_8 := Fld.other W8 Fw6_7 (Or.inr (slot_ne (Or.inr (wd_56 hw)) (Or.inr (wd_60 hw)) (by decide) (t := .long) (t' := (.object "java/time/LocalDate")) (by decide) (by decide)))
  have Fw7_8 := Fld.other W8 Fw7 (Or.inr (slot_ne (Or.inr (wd_58 hw)) (Or.inr (wd_60 hw)) (by decide) (t := .int) (t' := (.object "java/time/LocalDate")) (by decide) (by decide)))
  exact X8.vreturn rfl d10_43 (by decide) (by decide) ⟨rfl, ⟨E_a_8, Fw2_8, Fw3_8, Fw4_8, Fw5_8, Fw6_8, Fw7_8, Fw8⟩⟩
set_option maxRecDepth 65536 in
set_option maxHeartbeats 40000000 in
theorem ctB (l : Launch) (Z : State) (a0 : Array Value) (hw : ∀ d ∈ tables_1, d.before a0 Z = true) {J : Vm → Prop} (hJ : Stb J) (a p1 : Addr) (i1 i2 : Int32) (h0 : Heap) (E_a : Exa Z h0 a "com/example/deferral_ledger/deferralledger/elections/DistributionElection") (Fparticipant_a : Fld Z h0 a "com/example/deferral_ledger/deferralledger/elections/DistributionElection" "participant" "Ljava/lang/String;" .null) (FplanYear_a : Fld Z h0 a "com/example/deferral_ledger/deferralledger/elections/DistributionElection" "planYear" "I" (.int (0 : Int32))) (Finstallments_a : Fld Z h0 a "com/example/deferral_ledger/deferralledger/elections/DistributionElection" "installments" "I" (.int (0 : Int32))) (FinServiceDate_a : Fld Z h0 a "com/example/deferral_ledger/deferralledger/elections/DistributionElection" "inServiceDate" "Ljava/time/LocalDate;" .null) (Fchanges_a : Fld Z h0 a "com/example/deferral_ledger/deferralledger/elections/DistributionElection" "changes" "J" (.long (0 : Int64))) (FpushYears_a : Fld Z h0 a "com/example/deferral_ledger/deferralledger/elections/DistributionElection" "pushYears" "I" (.int (0 : Int32))) (Ffiled_a : Fld Z h0 a "com/example/deferral_ledger/deferralledger/elections/DistributionElection" "filed" "Ljava/time/LocalDate;" .null) :
    Ct l Z y9 prog_25_method_1_code 6 none ({ frames := 2, cells := 0, slots := 0, locals := 32 } : Room) #[(.ref a), (.ref p1), (.int i1), (.int i2), .null, .null] h0 [a] J J (fun v h => v = none ∧ own_E Z h a p1 i1 i2) := by
  refine Ct.of hJ hJ (plainFor_of_name (by first | (simp [plainName, overriddenIn]; done) | decide +kernel)) ?_
  intro p e s m below meth c T0 X0
  refine Runs.top (g' := mkF m 0 #[.val (.ref a), .val (.ref p1), .val (.int i1), .val (.int i2), .val .null, .val .null] []) (by first | (simp [entryFrame, mkF, argsToLocals, Value.category]; done) | rfl) ?_
  refine X0.aloadN (pc' := 1) d9_0 rfl rfl rfl ?_
  refine X0.aloadN (pc' := 2) d9_1 rfl rfl rfl ?_
  refine X0.iloadN (pc' := 3) d9_2 rfl rfl ?_
  refine X0.iloadN (pc' := 4) d9_3 rfl rfl ?_
  refine X0.aload (pc' := 6) d9_4 rfl rfl rfl ?_
  refine X0.lconst0 (pc' := 7) d9_6 rfl ?_
  refine X0.iconst (pc' := 8) (z := 0) d9_7 rfl rfl ?_
  refine X0.aload (pc' := 10) d9_8 rfl rfl rfl ?_
  refine X0.special (pc' := 13) (W := 0) (a := a) (argsL := [(.ref p1), (.int i1), (.int i2), .null, (.long (0 : Int64)), (.int (0 : Int32)), .null]) (rest := []) (ctA l Z a0 hw hJ a p1 i1 i2 h0 E_a Fparticipant_a FplanYear_a Finstallments_a FinServiceDate_a Fchanges_a FpushYears_a Ffiled_a) rfl (wd_43 hw) (wd_44 hw) (wd_36 hw) (wd_45 hw) (by decide) pd_5 rfl rfl rfl rfl d9_10 rfl (by decide) rfl (by decide) (by decide) (by decide) ((allS (Or.inl (by simp)) all0)) (fun T1 h1 v1 X1 K1 Q1 => ?_)
  have E_a_1 := E_a.keep K1
  obtain ⟨rfl, EE1⟩ := Q1
  show Runs p e below (T1.setTop (mkF m 13 #[.val (.ref a), .val (.ref p1), .val (.int i1), .val (.int i2), .val .null, .val .null] [])) _
  exact X1.vreturn rfl d9_13 (by decide) (by decide) ⟨rfl, EE1⟩
set_option maxRecDepth 65536 in
set_option maxHeartbeats 40000000 in
theorem ctD (l : Launch) (Z : State) (a0 : Array Value) (hw : ∀ d ∈ tables_1, d.before a0 Z = true) {J : Vm → Prop} (hJ : Stb J) (p1 : Addr) (i1 i2 : Int32) (h0 : Heap)  :
    Ct l Z y8 prog_25_method_2_code 3 (some (.object "com/example/deferral_ledger/deferralledger/elections/DistributionElection")) ({ frames := 3, cells := 1, slots := 7, locals := 50 } : Room) #[(.ref p1), (.int i1), (.int i2)] h0 [] J J (fun v h => ∃ a, v = some (.ref a) ∧ h0.size ≤ a ∧ own_E Z h a p1 i1 i2) := by
  refine Ct.of hJ hJ (plainFor_of_name (by first | (simp [plainName, overriddenIn]; done) | decide +kernel)) ?_
  intro p e s m below meth c T0 X0
  refine Runs.top (g' := mkF m 0 #[.val (.ref p1), .val (.int i1), .val (.int i2)] []) (by first | (simp [entryFrame, mkF, argsToLocals, Value.category]; done) | rfl) ?_
  refine X0.new (pc' := 3) (wd_38 hw) (wd_39 hw) (wd_36 hw) d8_0 rfl (by decide) (by decide) (fun T1 h1 b1 X1 g1 E1 A1 D1 => ?_)
  have sz_b1 : h0.size ≤ b1 := g1 ▸ X0.size
  have Fparticipant_b1 : Fld Z h1 b1 "com/example/deferral_ledger/deferralledger/elections/DistributionElection" "participant" "Ljava/lang/String;" .null := D1 (Or.inr (wd_48 hw)) (ty := (.object "java/lang/String")) (by decide)
  have FplanYear_b1 : Fld Z h1 b1 "com/example/deferral_ledger/deferralledger/elections/DistributionElection" "planYear" "I" (.int (0 : Int32)) := D1 (Or.inr (wd_50 hw)) (ty := .int) (by decide)
  have Finstallments_b1 : Fld Z h1 b1 "com/example/deferral_ledger/deferralledger/elections/DistributionElection" "installments" "I" (.int (0 : Int32)) := D1 (Or.inr (wd_52 hw)) (ty := .int) (by decide)
  have FinServiceDate_b1 : Fld Z h1 b1 "com/example/deferral_ledger/deferralledger/elections/DistributionElection" "inServiceDate" "Ljava/time/LocalDate;" .null := D1 (Or.inr (wd_54 hw)) (ty := (.object "java/time/LocalDate")) (by decide)
  have Fchanges_b1 : Fld Z h1 b1 "com/example/deferral_ledger/deferralledger/elections/DistributionElection" "changes" "J" (.long (0 : Int64)) := D1 (Or.inr (wd_56 hw)) (ty := .long) (by decide)
  have FpushYears_b1 : Fld Z h1 b1 "com/example/deferral_ledger/deferralledger/elections/DistributionElection" "pushYears" "I" (.int (0 : Int32)) := D1 (Or.inr (wd_58 hw)) (ty := .int) (by decide)
  have Ffiled_b1 : Fld Z h1 b1 "com/example/deferral_ledger/deferralledger/elections/DistributionElection" "filed" "Ljava/time/LocalDate;" .null := D1 (Or.inr (wd_60 hw)) (ty := (.object "java/time/LocalDate")) (by decide)
  refine X1.dup (pc' := 4) d8_3 rfl rfl ?_
  refine X1.aloadN (pc' := 5) d8_4 rfl rfl rfl ?_
  refine X1.iloadN (pc' := 6) d8_5 rfl rfl ?_
  refine X1.iloadN (pc' := 7) d8_6 rfl rfl ?_
  refine X1.aconstNull (pc' := 8) d8_7 rfl ?_
  refine X1.aconstNull (pc' := 9) d8_8 rfl ?_
  refine X1.special (pc' := 12) (W := 1) (a := b1) (argsL := [(.ref p1), (.int i1), (.int i2), .null, .null]) (rest := [(.ref b1)]) (ctB l Z a0 hw hJ b1 p1 i1 i2 h1 A1 Fparticipant_b1 FplanYear_b1 Finstallments_b1 FinServiceDate_b1 Fchanges_b1 FpushYears_b1 Ffiled_b1) rfl (wd_40 hw) (wd_41 hw) (wd_36 hw) (wd_42 hw) (by decide) pd_6 rfl rfl rfl rfl d8_9 rfl (by decide) rfl (by decide) (by decide) (by decide) ((allS (Or.inr sz_b1) all0)) (fun T2 h2 v2 X2 K2 Q2 => ?_)
  have A1_2 := A1.keep K2
  obtain ⟨rfl, EE2⟩ := Q2
  show Runs p e below (T2.setTop (mkF m 12 #[.val (.ref p1), .val (.int i1), .val (.int i2)] [(.ref b1)])) _
  exact X2.areturn rfl rfl rfl rfl d8_12 (by decide) (by decide) ⟨_, rfl, sz_b1, EE2⟩
set_option maxRecDepth 65536 in
set_option maxHeartbeats 40000000 in
theorem ctg_participant (l : Launch) (Z : State) (a0 : Array Value) (hw : ∀ d ∈ tables_1, d.before a0 Z = true) {J : Vm → Prop} (hJ : Stb J) (a p1 : Addr) (i1 i2 : Int32) (h0 : Heap) (F : Fld Z h0 a "com/example/deferral_ledger/deferralledger/elections/DistributionElection" "participant" "Ljava/lang/String;" (.ref p1)) :
    Ct l Z y11 prog_25_method_5_code 1 (some (.object "java/lang/String")) ({ frames := 0, cells := 0, slots := 0, locals := 0 } : Room) #[(.ref a)] h0 [] J J (fun v h => v = some (.ref p1) ∧ h0 = h) := by
  refine Ct.of hJ hJ (plainFor_of_name (by first | (simp [plainName, overriddenIn]; done) | decide +kernel)) ?_
  intro p e s m below meth c T0 X0
  refine Runs.top (g' := mkF m 0 #[.val (.ref a)] []) (by first | (simp [entryFrame, mkF, argsToLocals, Value.category]; done) | rfl) ?_
  refine X0.aloadN (pc' := 1) d11_0 rfl rfl rfl ?_
  refine X0.getfield (pc' := 4) (host := "") (Or.inl (wd_47 hw)) Via.refl F d11_1 rfl (fun T1 X1 => ?_)
  exact X1.areturn rfl rfl rfl rfl d11_4 (by decide) (by decide) ⟨rfl, rfl⟩
set_option maxRecDepth 65536 in
set_option maxHeartbeats 40000000 in
theorem ctg_planYear (l : Launch) (Z : State) (a0 : Array Value) (hw : ∀ d ∈ tables_1, d.before a0 Z = true) {J : Vm → Prop} (hJ : Stb J) (a p1 : Addr) (i1 i2 : Int32) (h0 : Heap) (F : Fld Z h0 a "com/example/deferral_ledger/deferralledger/elections/DistributionElection" "planYear" "I" (.int i1)) :
    Ct l Z y13 prog_25_method_6_code 1 (some .int) ({ frames := 0, cells := 0, slots := 0, locals := 0 } : Room) #[(.ref a)] h0 [] J J (fun v h => v = some (.int i1) ∧ h0 = h) := by
  refine Ct.of hJ hJ (plainFor_of_name (by first | (simp [plainName, overriddenIn]; done) | decide +kernel)) ?_
  intro p e s m below meth c T0 X0
  refine Runs.top (g' := mkF m 0 #[.val (.ref a)] []) (by first | (simp [entryFrame, mkF, argsToLocals, Value.category]; done) | rfl) ?_
  refine X0.aloadN (pc' := 1) d13_0 rfl rfl rfl ?_
  refine X0.getfield (pc' := 4) (host := "") (Or.inl (wd_49 hw)) Via.refl F d13_1 rfl (fun T1 X1 => ?_)
  exact X1.ireturn rfl d13_4 (by decide) (by decide) ⟨rfl, rfl⟩
set_option maxRecDepth 65536 in
set_option maxHeartbeats 40000000 in
theorem ctg_installments (l : Launch) (Z : State) (a0 : Array Value) (hw : ∀ d ∈ tables_1, d.before a0 Z = true) {J : Vm → Prop} (hJ : Stb J) (a p1 : Addr) (i1 i2 : Int32) (h0 : Heap) (F : Fld Z h0 a "com/example/deferral_ledger/deferralledger/elections/DistributionElection" "installments" "I" (.int i2)) :
    Ct l Z y14 prog_25_method_7_code 1 (some .int) ({ frames := 0, cells := 0, slots := 0, locals := 0 } : Room) #[(.ref a)] h0 [] J J (fun v h => v = some (.int i2) ∧ h0 = h) := by
  refine Ct.of hJ hJ (plainFor_of_name (by first | (simp [plainName, overriddenIn]; done) | decide +kernel)) ?_
  intro p e s m below meth c T0 X0
  refine Runs.top (g' := mkF m 0 #[.val (.ref a)] []) (by first | (simp [entryFrame, mkF, argsToLocals, Value.category]; done) | rfl) ?_
  refine X0.aloadN (pc' := 1) d14_0 rfl rfl rfl ?_
  refine X0.getfield (pc' := 4) (host := "") (Or.inl (wd_51 hw)) Via.refl F d14_1 rfl (fun T1 X1 => ?_)
  exact X1.ireturn rfl d14_4 (by decide) (by decide) ⟨rfl, rfl⟩
set_option maxRecDepth 65536 in
set_option maxHeartbeats 40000000 in
theorem ctg_changes (l : Launch) (Z : State) (a0 : Array Value) (hw : ∀ d ∈ tables_1, d.before a0 Z = true) {J : Vm → Prop} (hJ : Stb J) (a p1 : Addr) (i1 i2 : Int32) (h0 : Heap) (F : Fld Z h0 a "com/example/deferral_ledger/deferralledger/elections/DistributionElection" "changes" "J" (.long (0 : Int64))) :
    Ct l Z y18 prog_25_method_9_code 1 (some .long) ({ frames := 0, cells := 0, slots := 0, locals := 0 } : Room) #[(.ref a)] h0 [] J J (fun v h => v = some (.long (0 : Int64)) ∧ h0 = h) := by
  refine Ct.of hJ hJ (plainFor_of_name (by first | (simp [plainName, overriddenIn]; done) | decide +kernel)) ?_
  intro p e s m below meth c T0 X0
  refine Runs.top (g' := mkF m 0 #[.val (.ref a)] []) (by first | (simp [entryFrame, mkF, argsToLocals, Value.category]; done) | rfl) ?_
  refine X0.aloadN (pc' := 1) d18_0 rfl rfl rfl ?_
  refine X0.getfield (pc' := 4) (host := "") (Or.inl (wd_55 hw)) Via.refl F d18_1 rfl (fun T1 X1 => ?_)
  exact X1.lreturn rfl d18_4 (by decide) (by decide) ⟨rfl, rfl⟩
set_option maxRecDepth 65536 in
set_option maxHeartbeats 40000000 in
theorem ctg_pushYears (l : Launch) (Z : State) (a0 : Array Value) (hw : ∀ d ∈ tables_1, d.before a0 Z = true) {J : Vm → Prop} (hJ : Stb J) (a p1 : Addr) (i1 i2 : Int32) (h0 : Heap) (F : Fld Z h0 a "com/example/deferral_ledger/deferralledger/elections/DistributionElection" "pushYears" "I" (.int (0 : Int32))) :
    Ct l Z y19 prog_25_method_10_code 1 (some .int) ({ frames := 0, cells := 0, slots := 0, locals := 0 } : Room) #[(.ref a)] h0 [] J J (fun v h => v = some (.int (0 : Int32)) ∧ h0 = h) := by
  refine Ct.of hJ hJ (plainFor_of_name (by first | (simp [plainName, overriddenIn]; done) | decide +kernel)) ?_
  intro p e s m below meth c T0 X0
  refine Runs.top (g' := mkF m 0 #[.val (.ref a)] []) (by first | (simp [entryFrame, mkF, argsToLocals, Value.category]; done) | rfl) ?_
  refine X0.aloadN (pc' := 1) d19_0 rfl rfl rfl ?_
  refine X0.getfield (pc' := 4) (host := "") (Or.inl (wd_57 hw)) Via.refl F d19_1 rfl (fun T1 X1 => ?_)
  exact X1.ireturn rfl d19_4 (by decide) (by decide) ⟨rfl, rfl⟩
set_option maxRecDepth 65536 in
set_option maxHeartbeats 40000000 in
theorem ctO (l : Launch) (Z : State) (a0 : Array Value) (hw : ∀ d ∈ tables_1, d.before a0 Z = true) {J : Vm → Prop} (hJ : Stb J) (oe : Addr) (h0 : Heap) (Se : Sta Z h0 "java/util/Optional" "EMPTY" "Ljava/util/Optional;" (.ref oe)) :
    Ct l Z y16 jdk_32_method_4_code 1 (some (.object "java/util/Optional")) ({ frames := 0, cells := 0, slots := 0, locals := 0 } : Room) #[.null] h0 [] J J (fun v h => v = some (.ref oe) ∧ h0 = h) := by
  refine Ct.of hJ hJ (plainFor_of_name (by first | (simp [plainName, overriddenIn]; done) | decide +kernel)) ?_
  intro p e s m below meth c T0 X0
  refine Runs.top (g' := mkF m 0 #[.val .null] []) (by first | (simp [entryFrame, mkF, argsToLocals, Value.category]; done) | rfl) ?_
  refine X0.aloadN (pc' := 1) d16_0 rfl rfl rfl ?_
  refine X0.ifnonnullNo (pc' := 4) d16_1 rfl ?_
  refine X0.getstatic (pc' := 7) (host := "") (Or.inl (wd_90 hw)) Via.refl Se d16_4 rfl (fun T1 X1 => ?_)
  refine X1.goto (pc' := 18) d16_7 (by decide) (by decide) ?_
  exact X1.areturn rfl rfl rfl rfl d16_18 (by decide) (by decide) ⟨rfl, rfl⟩
set_option maxRecDepth 65536 in
set_option maxHeartbeats 40000000 in
theorem ctP (l : Launch) (Z : State) (a0 : Array Value) (hw : ∀ d ∈ tables_1, d.before a0 Z = true) {J : Vm → Prop} (hJ : Stb J) (oe : Addr) (h0 : Heap) (F : Fld Z h0 oe "java/util/Optional" "value" "Ljava/lang/Object;" .null) :
    Ct l Z y17 jdk_32_method_6_code 1 (some .boolean) ({ frames := 0, cells := 0, slots := 0, locals := 0 } : Room) #[(.ref oe)] h0 [] J J (fun v h => v = some (.int (0 : Int32)) ∧ h0 = h) := by
  refine Ct.of hJ hJ (plainFor_of_name (by first | (simp [plainName, overriddenIn]; done) | decide +kernel)) ?_
  intro p e s m below meth c T0 X0
  refine Runs.top (g' := mkF m 0 #[.val (.ref oe)] []) (by first | (simp [entryFrame, mkF, argsToLocals, Value.category]; done) | rfl) ?_
  refine X0.aloadN (pc' := 1) d17_0 rfl rfl rfl ?_
  refine X0.getfield (pc' := 4) (host := "") (Or.inl (wd_96 hw)) Via.refl F d17_1 rfl (fun T1 X1 => ?_)
  refine X1.ifnullYes (pc' := 11) d17_4 (by decide) (by decide) ?_
  refine X1.iconst (pc' := 12) (z := 0) d17_11 rfl rfl ?_
  exact X1.zreturn (z' := (0 : Int32)) rfl (by simp) d17_12 rfl (by decide) (by decide) ⟨rfl, rfl⟩
set_option maxRecDepth 65536 in
set_option maxHeartbeats 40000000 in
theorem ctg_inServiceDate (l : Launch) (Z : State) (a0 : Array Value) (hw : ∀ d ∈ tables_1, d.before a0 Z = true) {J : Vm → Prop} (hJ : Stb J) (a oe : Addr) (h0 : Heap) (F : Fld Z h0 a "com/example/deferral_ledger/deferralledger/elections/DistributionElection" "inServiceDate" "Ljava/time/LocalDate;" .null) (Se : Sta Z h0 "java/util/Optional" "EMPTY" "Ljava/util/Optional;" (.ref oe)) :
    Ct l Z y15 prog_25_method_8_code 1 (some (.object "java/util/Optional")) ({ frames := 1, cells := 0, slots := 0, locals := 12 } : Room) #[(.ref a)] h0 [] J J (fun v h => v = some (.ref oe) ∧ h0 = h) := by
  refine Ct.of hJ hJ (plainFor_of_name (by first | (simp [plainName, overriddenIn]; done) | decide +kernel)) ?_
  intro p e s m below meth c T0 X0
  refine Runs.top (g' := mkF m 0 #[.val (.ref a)] []) (by first | (simp [entryFrame, mkF, argsToLocals, Value.category]; done) | rfl) ?_
  refine X0.aloadN (pc' := 1) d15_0 rfl rfl rfl ?_
  refine X0.getfield (pc' := 4) (host := "") (Or.inl (wd_53 hw)) Via.refl F d15_1 rfl (fun T1 X1 => ?_)
  refine X1.callS (pc' := 7) (W := 0) (argsL := [.null]) (rest := []) (ctO l Z a0 hw hJ oe h0 Se) (wd_86 hw) (wd_87 hw) (wd_88 hw) (wd_89 hw) (by decide) pd_7 rfl rfl rfl rfl d15_4 rfl (by decide) rfl (by decide) (by decide) (by decide) allWs0 (fun T2 h2 v2 X2 K2 Q2 => ?_)
  obtain ⟨rfl, rfl⟩ := Q2
  show Runs p e below (T2.setTop (mkF m 7 #[.val (.ref a)] [(.ref oe)])) _
  exact X2.areturn rfl rfl rfl rfl d15_7 (by decide) (by decide) ⟨rfl, rfl⟩
set_option maxRecDepth 65536 in
set_option maxHeartbeats 40000000 in
theorem ctg_filed (l : Launch) (Z : State) (a0 : Array Value) (hw : ∀ d ∈ tables_1, d.before a0 Z = true) {J : Vm → Prop} (hJ : Stb J) (a oe : Addr) (h0 : Heap) (F : Fld Z h0 a "com/example/deferral_ledger/deferralledger/elections/DistributionElection" "filed" "Ljava/time/LocalDate;" .null) (Se : Sta Z h0 "java/util/Optional" "EMPTY" "Ljava/util/Optional;" (.ref oe)) :
    Ct l Z y20 prog_25_method_11_code 1 (some (.object "java/util/Optional")) ({ frames := 1, cells := 0, slots := 0, locals := 12 } : Room) #[(.ref a)] h0 [] J J (fun v h => v = some (.ref oe) ∧ h0 = h) := by
  refine Ct.of hJ hJ (plainFor_of_name (by first | (simp [plainName, overriddenIn]; done) | decide +kernel)) ?_
  intro p e s m below meth c T0 X0
  refine Runs.top (g' := mkF m 0 #[.val (.ref a)] []) (by first | (simp [entryFrame, mkF, argsToLocals, Value.category]; done) | rfl) ?_
  refine X0.aloadN (pc' := 1) d20_0 rfl rfl rfl ?_
  refine X0.getfield (pc' := 4) (host := "") (Or.inl (wd_59 hw)) Via.refl F d20_1 rfl (fun T1 X1 => ?_)
  refine X1.callS (pc' := 7) (W := 0) (argsL := [.null]) (rest := []) (ctO l Z a0 hw hJ oe h0 Se) (wd_86 hw) (wd_87 hw) (wd_88 hw) (wd_89 hw) (by decide) pd_7 rfl rfl rfl rfl d20_4 rfl (by decide) rfl (by decide) (by decide) (by decide) allWs0 (fun T2 h2 v2 X2 K2 Q2 => ?_)
  obtain ⟨rfl, rfl⟩ := Q2
  show Runs p e below (T2.setTop (mkF m 7 #[.val (.ref a)] [(.ref oe)])) _
  exact X2.areturn rfl rfl rfl rfl d20_7 (by decide) (by decide) ⟨rfl, rfl⟩
set_option maxRecDepth 65536 in
set_option maxHeartbeats 40000000 in
theorem ctEq (l : Launch) (Z : State) (a0 : Array Value) (hw : ∀ d ∈ tables_1, d.before a0 Z = true) {J : Vm → Prop} (hJ : Stb J) (a : Addr) (h0 : Heap)  :
    Ct l Z y12 jdk_42_method_66_code 3 (some .boolean) ({ frames := 0, cells := 0, slots := 0, locals := 0 } : Room) #[(.ref a), (.ref a)] h0 [] J J (fun v h => v = some (.int (1 : Int32)) ∧ h0 = h) := by
  refine Ct.of hJ hJ (plainFor_of_name (by first | (simp [plainName, overriddenIn]; done) | decide +kernel)) ?_
  intro p e s m below meth c T0 X0
  refine Runs.top (g' := mkF m 0 #[.val (.ref a), .val (.ref a), .unset] []) (by first | (simp [entryFrame, mkF, argsToLocals, Value.category]; done) | rfl) ?_
  refine X0.aloadN (pc' := 1) d12_0 rfl rfl rfl ?_
  refine X0.aloadN (pc' := 2) d12_1 rfl rfl rfl ?_
  refine X0.acmp (pc' := 5) (u := (.ref a)) (v := (.ref a)) (same := true) d12_2 rfl rfl (decide_eq_true rfl) (by decide) (by decide) ?_
  refine X0.iconst (pc' := 6) (z := 1) d12_5 rfl rfl ?_
  exact X0.zreturn (z' := (1 : Int32)) rfl (by simp) d12_6 rfl (by decide) (by decide) ⟨rfl, rfl⟩
set_option maxRecDepth 65536 in
set_option maxHeartbeats 40000000 in
theorem ct0 (l : Launch) (Z : State) (a0 : Array Value) (hw : ∀ d ∈ tables_1, d.before a0 Z = true) (q1 q2 q3 q4 cz : Int32) (oe : Addr) (h0 : Heap) (Sc : Sta Z h0 "java/lang/String" "COMPACT_STRINGS" "Z" (.int cz)) (hcz : cz ≠ (0 : Int32)) (KZ : Ext Z.heap h0) (hh : Jvm.Lit.constHeld Z "java/lang/String" 7) (hcw : Jvm.Lit.compactW.before a0 Z = true) (Se : Sta Z h0 "java/util/Optional" "EMPTY" "Ljava/util/Optional;" (.ref oe)) (Eo : Exa Z h0 oe "java/util/Optional") (Fo : Fld Z h0 oe "java/util/Optional" "value" "Ljava/lang/Object;" .null) :
    Ct l Z x code maxLocals ret room_1 #[(.int q1), (.int q2), (.int q3), (.int q4)] h0 [] (jI Z) anyVm (fun v h => v = some (.int 1)) := by
  refine Ct.of jI.stb anyVm.stb (plainFor_of_name (by first | (simp [plainName, overriddenIn]; done) | decide +kernel)) ?_
  intro p e s m below meth c T0 X0
  refine Runs.top (g' := mkF m 0 #[.val (.int q1), .val (.int q2), .val (.int q3), .val (.int q4), .unset, .unset] []) (by first | (simp [entryFrame, mkF, argsToLocals, Value.category, maxLocals]; done) | rfl) ?_
  refine X0.iloadN (pc' := 1) at_0 rfl rfl ?_
  refine X0.iconst (pc' := 2) (z := 3) at_1 rfl rfl ?_
  refine X0.iand (pc' := 3) at_2 rfl ?_
  refine X0.iloadN (pc' := 4) at_3 rfl rfl ?_
  refine X0.callS (pc' := 7) (W := 0) (argsL := [(.int (q3 &&& (3 : Int32))), (.int q4)]) (rest := []) (ctstr l Z a0 hw (q3 &&& (3 : Int32)) q4 cz h0 (own_m3 q3 _ rfl) Sc hcz KZ hh hcw) (wd_0 hw) (wd_1 hw) (wd_2 hw) (wd_3 hw) (by decide) pd_8 rfl rfl rfl rfl at_4 rfl (by decide) rfl (by decide) (by decide) (by decide) allWs0 (fun T1 h1 v1 X1 K1 Q1 => ?_)
  have Sc_1 := sta_keep0 Sc K1
  have Se_1 := sta_keep0 Se K1
  have Eo_1 := Eo.keep K1
  have Fo_1 := Fo.keep K1 nin0
  obtain ⟨s1, rfl, sz1, Es⟩ := Q1
  have sz_s1 : h0.size ≤ s1 := Nat.le_trans X0.size sz1
  have ne_oe_s1 : oe ≠ s1 := Nat.ne_of_lt (Nat.lt_of_lt_of_le Eo.lt sz1)
  show Runs p e below (T1.setTop (mkF m 7 #[.val (.int q1), .val (.int q2), .val (.int q3), .val (.int q4), .unset, .unset] [(.ref s1)])) _
  refine X1.astore (pc' := 9) (l' := #[.val (.int q1), .val (.int q2), .val (.int q3), .val (.int q4), .val (.ref s1), .unset]) at_7 rfl rfl rfl ?_
  refine X1.aload (pc' := 11) at_9 rfl rfl rfl ?_
  refine X1.iloadN (pc' := 12) at_11 rfl rfl ?_
  refine X1.iloadN (pc' := 13) at_12 rfl rfl ?_
  refine X1.callS (pc' := 16) (W := 0) (argsL := [(.ref s1), (.int q1), (.int q2)]) (rest := []) (ctD l Z a0 hw anyVm.stb s1 q1 q2 h1) (wd_34 hw) (wd_35 hw) (wd_36 hw) (wd_37 hw) (by decide) pd_9 rfl rfl rfl rfl at_13 rfl (by decide) rfl (by decide) (by decide) (by decide) allWs0 (fun T2 h2 v2 X2 K2 Q2 => ?_)
  have Sc_2 := sta_keep0 Sc_1 K2
  have Se_2 := sta_keep0 Se_1 K2
  have Eo_2 := Eo_1.keep K2
  have Fo_2 := Fo_1.keep K2 nin0
  have Es_2 := Es.keep K2
  obtain ⟨d1, rfl, szd, Ed, Fparticipant_d, FplanYear_d, Finstallments_d, FinServiceDate_d, Fchanges_d, FpushYears_d, Ffiled_d⟩ := Q2
  have sz_d1 : h0.size ≤ d1 := Nat.le_trans X1.size szd
  have ne_oe_d1 : oe ≠ d1 := Nat.ne_of_lt (Nat.lt_of_lt_of_le Eo_1.lt szd)
  have ne_s1_d1 : s1 ≠ d1 := Nat.ne_of_lt (Nat.lt_of_lt_of_le Es.lt szd)
  show Runs p e below (T2.setTop (mkF m 16 #[.val (.int q1), .val (.int q2), .val (.int q3), .val (.int q4), .val (.ref s1), .unset] [(.ref d1)])) _
  refine X2.astore (pc' := 18) (l' := #[.val (.int q1), .val (.int q2), .val (.int q3), .val (.int q4), .val (.ref s1), .val (.ref d1)]) at_16 rfl rfl rfl ?_
  refine X2.aload (pc' := 20) at_18 rfl rfl rfl ?_
  refine X2.virtual (pc' := 23) (W := 0) (a := d1) (argsL := []) (rest := []) (ctg_participant l Z a0 hw anyVm.stb d1 s1 q1 q2 h2 Fparticipant_d) (wd_61 hw) (wd_62 hw) (fun _ q => notFace_of_selects q) (wd_64 hw) (wd_63 hw) (wd_36 hw) (wd_65 hw) (by decide) Ed pd_10 rfl rfl rfl rfl at_20 rfl (by decide) rfl (by decide) (by decide) (by decide) allWs0 (fun T3 h3 v3 X3 K3 Q3 => ?_)
  obtain ⟨rfl, rfl⟩ := Q3
  show Runs p e below (T3.setTop (mkF m 23 #[.val (.int q1), .val (.int q2), .val (.int q3), .val (.int q4), .val (.ref s1), .val (.ref d1)] [(.ref s1)])) _
  refine X3.aload (pc' := 25) at_23 rfl rfl rfl ?_
  refine X3.virtual (pc' := 28) (W := 0) (a := s1) (argsL := [(.ref s1)]) (rest := []) (ctEq l Z a0 hw anyVm.stb s1 h2) (wd_66 hw) (wd_67 hw) (fun _ q => notFace_of_selects q) (wd_69 hw) (wd_68 hw) (wd_7 hw) (wd_70 hw) (by decide) Es_2 pd_11 rfl rfl rfl rfl at_25 rfl (by decide) rfl (by decide) (by decide) (by decide) allWs0 (fun T4 h4 v4 X4 K4 Q4 => ?_)
  obtain ⟨rfl, rfl⟩ := Q4
  show Runs p e below (T4.setTop (mkF m 28 #[.val (.int q1), .val (.int q2), .val (.int q3), .val (.int q4), .val (.ref s1), .val (.ref d1)] [(.int (1 : Int32))])) _
  refine X4.ifNo (pc' := 31) at_28 (by decide) rfl ?_
  refine X4.aload (pc' := 33) at_31 rfl rfl rfl ?_
  refine X4.virtual (pc' := 36) (W := 0) (a := d1) (argsL := []) (rest := []) (ctg_planYear l Z a0 hw anyVm.stb d1 s1 q1 q2 h2 FplanYear_d) (wd_71 hw) (wd_72 hw) (fun _ q => notFace_of_selects q) (wd_74 hw) (wd_73 hw) (wd_36 hw) (wd_75 hw) (by decide) Ed pd_12 rfl rfl rfl rfl at_33 rfl (by decide) rfl (by decide) (by decide) (by decide) allWs0 (fun T5 h5 v5 X5 K5 Q5 => ?_)
  obtain ⟨rfl, rfl⟩ := Q5
  show Runs p e below (T5.setTop (mkF m 36 #[.val (.int q1), .val (.int q2), .val (.int q3), .val (.int q4), .val (.ref s1), .val (.ref d1)] [(.int q1)])) _
  refine X5.iloadN (pc' := 37) at_36 rfl rfl ?_
  refine X5.icmpNo (pc' := 40) at_37 (teq rfl).2 rfl ?_
  refine X5.aload (pc' := 42) at_40 rfl rfl rfl ?_
  refine X5.virtual (pc' := 45) (W := 0) (a := d1) (argsL := []) (rest := []) (ctg_installments l Z a0 hw anyVm.stb d1 s1 q1 q2 h2 Finstallments_d) (wd_76 hw) (wd_77 hw) (fun _ q => notFace_of_selects q) (wd_79 hw) (wd_78 hw) (wd_36 hw) (wd_80 hw) (by decide) Ed pd_12 rfl rfl rfl rfl at_42 rfl (by decide) rfl (by decide) (by decide) (by decide) allWs0 (fun T6 h6 v6 X6 K6 Q6 => ?_)
  obtain ⟨rfl, rfl⟩ := Q6
  show Runs p e below (T6.setTop (mkF m 45 #[.val (.int q1), .val (.int q2), .val (.int q3), .val (.int q4), .val (.ref s1), .val (.ref d1)] [(.int q2)])) _
  refine X6.iloadN (pc' := 46) at_45 rfl rfl ?_
  refine X6.icmpNo (pc' := 49) at_46 (teq rfl).2 rfl ?_
  refine X6.aload (pc' := 51) at_49 rfl rfl rfl ?_
  refine X6.virtual (pc' := 54) (W := 0) (a := d1) (argsL := []) (rest := []) (ctg_inServiceDate l Z a0 hw anyVm.stb d1 oe h2 FinServiceDate_d Se_2) (wd_81 hw) (wd_82 hw) (fun _ q => notFace_of_selects q) (wd_84 hw) (wd_83 hw) (wd_36 hw) (wd_85 hw) (by decide) Ed pd_13 rfl rfl rfl rfl at_51 rfl (by decide) rfl (by decide) (by decide) (by decide) allWs0 (fun T7 h7 v7 X7 K7 Q7 => ?_)
  obtain ⟨rfl, rfl⟩ := Q7
  show Runs p e below (T7.setTop (mkF m 54 #[.val (.int q1), .val (.int q2), .val (.int q3), .val (.int q4), .val (.ref s1), .val (.ref d1)] [(.ref oe)])) _
  refine X7.virtual (pc' := 57) (W := 0) (a := oe) (argsL := []) (rest := []) (ctP l Z a0 hw anyVm.stb oe h2 Fo_2) (wd_91 hw) (wd_92 hw) (fun _ q => notFace_of_selects q) (wd_94 hw) (wd_93 hw) (wd_88 hw) (wd_95 hw) (by decide) Eo_2 pd_14 rfl rfl rfl rfl at_54 rfl (by decide) rfl (by decide) (by decide) (by decide) allWs0 (fun T8 h8 v8 X8 K8 Q8 => ?_)
  obtain ⟨rfl, rfl⟩ := Q8
  show Runs p e below (T8.setTop (mkF m 57 #[.val (.int q1), .val (.int q2), .val (.int q3), .val (.int q4), .val (.ref s1), .val (.ref d1)] [(.int (0 : Int32))])) _
  refine X8.ifNo (pc' := 60) at_57 (by decide) rfl ?_
  refine X8.aload (pc' := 62) at_60 rfl rfl rfl ?_
  refine X8.virtual (pc' := 65) (W := 0) (a := d1) (argsL := []) (rest := []) (ctg_changes l Z a0 hw anyVm.stb d1 s1 q1 q2 h2 Fchanges_d) (wd_98 hw) (wd_99 hw) (fun _ q => notFace_of_selects q) (wd_101 hw) (wd_100 hw) (wd_36 hw) (wd_102 hw) (by decide) Ed pd_15 rfl rfl rfl rfl at_62 rfl (by decide) rfl (by decide) (by decide) (by decide) allWs0 (fun T9 h9 v9 X9 K9 Q9 => ?_)
  obtain ⟨rfl, rfl⟩ := Q9
  show Runs p e below (T9.setTop (mkF m 65 #[.val (.int q1), .val (.int q2), .val (.int q3), .val (.int q4), .val (.ref s1), .val (.ref d1)] [(.long (0 : Int64))])) _
  refine X9.lconst0 (pc' := 66) at_65 rfl ?_
  refine X9.lcmp (pc' := 67) at_66 rfl ?_
  refine X9.ifNo (pc' := 70) at_67 (teq ((lw_eq _ _).mpr rfl)).2 rfl ?_
  refine X9.aload (pc' := 72) at_70 rfl rfl rfl ?_
  refine X9.virtual (pc' := 75) (W := 0) (a := d1) (argsL := []) (rest := []) (ctg_pushYears l Z a0 hw anyVm.stb d1 s1 q1 q2 h2 FpushYears_d) (wd_103 hw) (wd_104 hw) (fun _ q => notFace_of_selects q) (wd_106 hw) (wd_105 hw) (wd_36 hw) (wd_107 hw) (by decide) Ed pd_12 rfl rfl rfl rfl at_72 rfl (by decide) rfl (by decide) (by decide) (by decide) allWs0 (fun T10 h10 v10 X10 K10 Q10 => ?_)
  obtain ⟨rfl, rfl⟩ := Q10
  show Runs p e below (T10.setTop (mkF m 75 #[.val (.int q1), .val (.int q2), .val (.int q3), .val (.int q4), .val (.ref s1), .val (.ref d1)] [(.int (0 : Int32))])) _
  refine X10.ifNo (pc' := 78) at_75 (by decide) rfl ?_
  refine X10.aload (pc' := 80) at_78 rfl rfl rfl ?_
  refine X10.virtual (pc' := 83) (W := 0) (a := d1) (argsL := []) (rest := []) (ctg_filed l Z a0 hw anyVm.stb d1 oe h2 Ffiled_d Se_2) (wd_108 hw) (wd_109 hw) (fun _ q => notFace_of_selects q) (wd_111 hw) (wd_110 hw) (wd_36 hw) (wd_112 hw) (by decide) Ed pd_13 rfl rfl rfl rfl at_80 rfl (by decide) rfl (by decide) (by decide) (by decide) allWs0 (fun T11 h11 v11 X11 K11 Q11 => ?_)
  obtain ⟨rfl, rfl⟩ := Q11
  show Runs p e below (T11.setTop (mkF m 83 #[.val (.int q1), .val (.int q2), .val (.int q3), .val (.int q4), .val (.ref s1), .val (.ref d1)] [(.ref oe)])) _
  refine X11.virtual (pc' := 86) (W := 0) (a := oe) (argsL := []) (rest := []) (ctP l Z a0 hw anyVm.stb oe h2 Fo_2) (wd_91 hw) (wd_92 hw) (fun _ q => notFace_of_selects q) (wd_94 hw) (wd_93 hw) (wd_88 hw) (wd_95 hw) (by decide) Eo_2 pd_14 rfl rfl rfl rfl at_83 rfl (by decide) rfl (by decide) (by decide) (by decide) allWs0 (fun T12 h12 v12 X12 K12 Q12 => ?_)
  obtain ⟨rfl, rfl⟩ := Q12
  show Runs p e below (T12.setTop (mkF m 86 #[.val (.int q1), .val (.int q2), .val (.int q3), .val (.int q4), .val (.ref s1), .val (.ref d1)] [(.int (0 : Int32))])) _
  refine X12.ifNo (pc' := 89) at_86 (by decide) rfl ?_
  refine X12.iconst (pc' := 90) (z := 1) at_89 rfl rfl ?_
  refine X12.goto (pc' := 94) at_90 (by decide) (by decide) ?_
  exact X12.zreturn (z' := (1 : Int32)) rfl (by simp) at_94 rfl (by decide) (by decide) rfl
set_option maxRecDepth 65536 in
set_option maxHeartbeats 40000000 in
theorem comes_1 {Post : Tables → Env → Array Value → State → Outcome → State → Prop} (hpost : ∀ tb e args s v u, (limb_1_1.after args s (.returned v) u = true ∧ limb_1_2.after args s (.returned v) u = true ∧ True) → ReturnedEndW s (.returned v) u (Jvm.fieldLocs frame_1_writes args s ++ Jvm.arrayLocs frame_1_arrays args s ++ Jvm.staticLocs frame_1_statics s) 24 1152 → Post tb e args s (.returned v) u) :
    ArmFor flags0 classFile x code maxLocals ret World_1 tables_1 room_1 Calls_1 rest_1 Pre_1 Post := by
  intro l hfl _ _ p e ha hc hk s m args below hf hA hF happ hP
  obtain ⟨hcalls, hrest, hpre⟩ := hP
  obtain ⟨-, -, -, hnamed, -, -, -, hat⟩ := (Spec.applies_iff hf).mp happ
  obtain ⟨hg, hn⟩ := and_e (Cond.before_iff.mp (show (Jvm.Cond.and given_1 narrow_1).before args s = true from hpre))
  obtain ⟨g1, g2⟩ := and_e hg
  obtain ⟨g3, g4⟩ := and_e g2
  obtain ⟨g5, g6⟩ := and_e g4
  obtain ⟨g7, g8⟩ := and_e g6
  obtain ⟨w0, w1, w2, w3, rfl⟩ : ∃ w0 w1 w2 w3 : Value, args = #[w0, w1, w2, w3] := by
    have hs : args.size = 4 := by simpa [Cond.value, given_1] using g1
    obtain ⟨L⟩ := args
    match L, hs with
    | [w0, w1, w2, w3], _ => exact ⟨w0, w1, w2, w3, rfl⟩
  have hw := fun d (hd : d ∈ tables_1) => atoms_spec (ws := Jvm.Cond.code x code maxLocals ret :: tables_1) hat d (List.mem_cons_of_mem _ hd)
  obtain ⟨hsets, hown0⟩ := atoms_of _ (rest_1_c_eq ▸ (show rest_1_c.before _ s = true from hrest))
  obtain ⟨cz, ecz⟩ := is_v (Cond.before_iff.mp (hsets _ (List.mem_of_getElem? (i := 1) rfl)))
  have Sc := Sta.start ecz (Or.inl (hsets _ (List.mem_of_getElem? (i := 0) rfl)))
  have hcw := hsets _ (List.mem_of_getElem? (i := 2) rfl)
  have hcz : cz ≠ (0 : Int32) := by
    rintro rfl
    have q := Cond.before_iff.mp hcw
    simp [Cond.value, ecz, Term.int_eval] at q
  obtain ⟨oe, eoe⟩ := exa_v (Cond.before_iff.mp (hsets _ (List.mem_of_getElem? (i := 11) rfl)))
  have Se := Sta.start eoe (Or.inl (hsets _ (List.mem_of_getElem? (i := 10) rfl)))
  have Eo := exa_at eoe (Cond.before_iff.mp (hsets _ (List.mem_of_getElem? (i := 11) rfl)))
  have Fo : Fld s s.heap oe "java/util/Optional" "value" "Ljava/lang/Object;" .null := by
    have q := Cond.before_iff.mp (hsets _ (List.mem_of_getElem? (i := 12) rfl))
    obtain ⟨x, y, hx, hy, -⟩ := cmp_v (Or.inl q)
    have hy' : y = .null := (Option.some.inj hy).symm
    subst hy'
    have hxn : x = .null := by
      simp only [Cond.value, hx, hy] at q
      cases x <;> first | rfl | (simp at q)
    rw [fld_at eoe] at hx
    exact Fld.start (hxn ▸ hx)
  have hh : Jvm.Lit.constHeld s "java/lang/String" 7 := hcalls.1 ("java/lang/String", 7) (by simp [consts_1])
  obtain ⟨i0, ei0⟩ := is_v g3
  obtain rfl : w0 = (.int i0) := Option.some.inj ei0
  obtain ⟨i1, ei1⟩ := is_v g5
  obtain rfl : w1 = (.int i1) := Option.some.inj ei1
  obtain ⟨i2, ei2⟩ := is_v g7
  obtain rfl : w2 = (.int i2) := Option.some.inj ei2
  obtain ⟨i3, ei3⟩ := is_v g8
  obtain rfl : w3 = (.int i3) := Option.some.inj ei3
  obtain ⟨n, o, h1, h2, h3, _, L, rfl, ⟨⟨rfl, -⟩, -, N⟩, hq⟩ := (ct0 l s _ hw i0 i1 i2 i3 cz oe s.heap Sc hcz ext_refl hh hcw Se Eo Fo).2 tables_1 p e ha hc hk s m _ below hf ((Spec.applies_iff_loose hf).mp happ).1 ⟨rfl, ⟨State.Warmed39.refl s, IB.start⟩, rfl⟩ trivial
  refine ⟨n, _, h1, h2, h3, hpost _ _ _ _ _ _ ⟨Cond.after_iff.mpr rfl, Cond.after_iff.mpr (eq_i res_at (Term.int_eval (1)) rfl), trivial⟩ ⟨hq.1, hq.2.1, hq.2.2.1, (hq.2.2.2.sift fun y hy => Or.inr ((N y hy).elim (fun z => nomatch z) id)).mono (by decide) (by decide)⟩⟩
theorem main_1_1 : Claimed_1_1 := comes_1 fun _ _ _ _ _ _ h hF => ⟨h.1, hF⟩
theorem main_1_2 : Claimed_1_2 := comes_1 fun _ _ _ _ _ _ h hF => ⟨h.2.1, hF⟩
end Jvm.Pilot.@@N@@
namespace Jvm.Pilot.@@N@@
open Jvm Jvm.ClassFile Sem Op Lib Jvm.Free Jvm.Stand Jvm.Pilot.@@N@@.Jvm.D
/-! MADE BY PROGRAM (witnessworld.py) out of the Statement's table words and the real class files: 21 classes; the members and pool entries that the words name. The judged class is class 1, her method 2. -/
namespace start1
open Jvm.ClassFile
def u (s : String) : CpInfo := .utf8 (stringToUtf16 s)
/-- a pool by its gaps: so many unusable entries, then the entry; so many at the end -/
def gap : Nat → List CpInfo → List CpInfo
  | 0, r => r
  | n + 1, r => .unusable :: gap n r
def poolList (es : List (Nat × CpInfo)) (last : Nat) : List CpInfo := es.foldr (fun e r => gap e.1 (e.2 :: r)) (gap last [])
def pool (es : List (Nat × CpInfo)) (last : Nat) : Array CpInfo := ⟨poolList es last⟩
def fileOf (pool : Array CpInfo) (this : Nat) (attrs : Array Attribute := #[]) (ms : Array MethodInfo := #[]) (fl : Nat := 33) (sup : Nat := 0) (ifs : Array Nat := #[]) (fds : Array FieldInfo := #[]) : ClassFile where
  minorVersion := 0
  majorVersion := 65
  constantPool := pool
  accessFlags := fl
  thisClass := this
  superClass := sup
  interfaces := ifs
  fields := fds
  methods := ms
  attributes := attrs
def plain (name : String) (sup : Option ClassId) : Class where
  name := name
  kind := .ordinary
  loader := none
  accessFlags := 33
  super := sup
  interfaces := #[]
  cf := none
  fields := #[]
  methods := #[]
  instanceTypes := #[]
  staticTypes := #[]
  resolved := #[]
  callSites := []
  init := .initialized
  statics := none
  mirror := none

def pool0 : Array CpInfo := pool [(5, u "<init>"), (0, u "()V"), (1, .class_ 10), (1, u "java/lang/Object")] 113

def k0c0 : Code := { maxStack := 0, maxLocals := 1, code := object_method_1_code, exceptionTable := #[], attributes := #[] }
def k0m0 : Method := { name := "<init>", desc := "()V", sig := { parameters := [], returnType := none }, accessFlags := 1, code := some k0c0 }
/-- java/lang/Object -/
def k0 : Class := { plain "java/lang/Object" none with
  accessFlags := 33
  interfaces := #[]
  cf := some (fileOf pool0 8 #[] #[{ accessFlags := 1, nameIndex := 5, descriptorIndex := 6, attributes := #[] }] 33 0 #[] #[])
  fields := #[]
  methods := #[k0m0]
  instanceTypes := #[]
  staticTypes := #[]
  resolved := Array.replicate 124 none
  statics := none }

def pool1 : Array CpInfo := pool [(2, .class_ 4), (1, u "java/lang/Object"), (0, u "<init>"), (0, u "()V"), (0, .class_ 8), (0, u "java/lang/String"), (0, .methodref 7 10), (0, .nameAndType 5 11), (0, u "([C)V"), (0, .methodref 13 14), (0, .class_ 15), (0, .nameAndType 16 17), (0, u "com/example/deferral_ledger/deferralledger/elections/DistributionElectionByDefaultPinLaw"), (0, u "str"), (0, u "(II)Ljava/lang/String;"), (0, .methodref 19 20), (0, .class_ 21), (0, .nameAndType 22 23), (0, u "com/example/deferral_ledger/deferralledger/elections/DistributionElection"), (0, u "byDefault"), (0, u "(Ljava/lang/String;II)Lcom/example/deferral_ledger/deferralledger/elections/DistributionElection;"), (0, .methodref 19 25), (0, .nameAndType 26 27), (0, u "participant"), (0, u "()Ljava/lang/String;"), (0, .methodref 7 29), (0, .nameAndType 30 31), (0, u "equals"), (0, u "(Ljava/lang/Object;)Z"), (0, .methodref 19 33), (0, .nameAndType 34 35), (0, u "planYear"), (0, u "()I"), (0, .methodref 19 37), (0, .nameAndType 38 35), (0, u "installments"), (0, .methodref 19 40), (0, .nameAndType 41 42), (0, u "inServiceDate"), (0, u "()Ljava/util/Optional;"), (0, .methodref 44 45), (0, .class_ 46), (0, .nameAndType 47 48), (0, u "java/util/Optional"), (0, u "isPresent"), (0, u "()Z"), (0, .methodref 19 50), (0, .nameAndType 51 52), (0, u "changes"), (0, u "()J"), (0, .methodref 19 54), (0, .nameAndType 55 35), (0, u "pushYears"), (0, .methodref 19 57), (0, .nameAndType 58 42), (0, u "filed"), (3, u "law"), (0, u "(IIII)Z")] 2

def k1m0 : Method := { name := "<init>", desc := "()V", sig := { parameters := [], returnType := none }, accessFlags := 2, code := none }
def k1c1 : Code := { maxStack := 3, maxLocals := 6, code := method_2_code, exceptionTable := #[], attributes := #[] }
def k1m1 : Method := { name := "str", desc := "(II)Ljava/lang/String;", sig := { parameters := [.int, .int], returnType := some (.object "java/lang/String") }, accessFlags := 10, code := some k1c1 }
def k1c2 : Code := { maxStack := 4, maxLocals := 6, code := code, exceptionTable := #[], attributes := #[] }
def k1m2 : Method := { name := "law", desc := "(IIII)Z", sig := { parameters := [.int, .int, .int, .int], returnType := some .boolean }, accessFlags := 9, code := some k1c2 }
/-- com/example/deferral_ledger/deferralledger/elections/DistributionElectionByDefaultPinLaw -/
def k1 : Class := { plain "com/example/deferral_ledger/deferralledger/elections/DistributionElectionByDefaultPinLaw" (some 0) with
  accessFlags := 49
  interfaces := #[]
  cf := some (fileOf pool1 13 #[] #[{ accessFlags := 2, nameIndex := 5, descriptorIndex := 6, attributes := #[] }, { accessFlags := 10, nameIndex := 16, descriptorIndex := 17, attributes := #[] }, { accessFlags := 9, nameIndex := 62, descriptorIndex := 63, attributes := #[] }] 49 2 #[] #[])
  fields := #[]
  methods := #[k1m0, k1m1, k1m2]
  instanceTypes := #[]
  staticTypes := #[]
  resolved := Array.replicate 66 none
  statics := none }

def pool2 : Array CpInfo := pool [(1, .class_ 2), (0, u "java/io/Serializable"), (0, .class_ 4), (0, u "java/lang/Object")] 2

/-- java/io/Serializable -/
def k2 : Class := { plain "java/io/Serializable" (some 0) with
  accessFlags := 1537
  interfaces := #[]
  cf := some (fileOf pool2 1 #[] #[] 1537 3 #[] #[])
  fields := #[]
  methods := #[]
  instanceTypes := #[]
  staticTypes := #[]
  resolved := Array.replicate 7 none
  statics := none }

def pool3 : Array CpInfo := pool [(1, .class_ 2), (0, u "java/lang/Comparable"), (0, .class_ 4), (0, u "java/lang/Object")] 7

/-- java/lang/Comparable -/
def k3 : Class := { plain "java/lang/Comparable" (some 0) with
  accessFlags := 1537
  interfaces := #[]
  cf := some (fileOf pool3 1 #[] #[] 1537 3 #[] #[])
  fields := #[]
  methods := #[]
  instanceTypes := #[]
  staticTypes := #[]
  resolved := Array.replicate 12 none
  statics := none }

def pool4 : Array CpInfo := pool [(2, .class_ 4), (1, u "java/lang/CharSequence"), (42, .class_ 48), (0, u "java/lang/CharSequence$1CodePointIterator"), (10, .class_ 60), (0, u "java/lang/CharSequence$1CharIterator"), (5, .class_ 67), (0, u "java/lang/Object")] 63

/-- java/lang/CharSequence -/
def k4 : Class := { plain "java/lang/CharSequence" (some 0) with
  accessFlags := 1537
  interfaces := #[]
  cf := some (fileOf pool4 2 #[.nestMembers #[47, 59]] #[] 1537 66 #[] #[])
  fields := #[]
  methods := #[]
  instanceTypes := #[]
  staticTypes := #[]
  resolved := Array.replicate 131 none
  statics := none }

def pool5 : Array CpInfo := pool [(1, .class_ 2), (0, u "java/lang/constant/Constable"), (0, .class_ 4), (0, u "java/lang/Object")] 6

/-- java/lang/constant/Constable -/
def k5 : Class := { plain "java/lang/constant/Constable" (some 0) with
  accessFlags := 1537
  interfaces := #[]
  cf := some (fileOf pool5 1 #[] #[] 1537 3 #[] #[])
  fields := #[]
  methods := #[]
  instanceTypes := #[]
  staticTypes := #[]
  resolved := Array.replicate 11 none
  statics := none }

def pool6 : Array CpInfo := pool [(1, .class_ 2), (0, u "java/lang/constant/ConstantDesc"), (0, .class_ 4), (0, u "java/lang/Object")] 32

/-- java/lang/constant/ConstantDesc -/
def k6 : Class := { plain "java/lang/constant/ConstantDesc" (some 0) with
  accessFlags := 1537
  interfaces := #[]
  cf := some (fileOf pool6 1 #[] #[] 1537 3 #[] #[])
  fields := #[]
  methods := #[]
  instanceTypes := #[]
  staticTypes := #[]
  resolved := Array.replicate 37 none
  statics := none }

def pool7 : Array CpInfo := pool [(1, .methodref 2 3), (0, .class_ 4), (0, .nameAndType 5 6), (0, u "java/lang/Object"), (0, u "<init>"), (0, u "()V"), (0, .string 8), (0, u ""), (0, .fieldref 10 11), (0, .class_ 12), (0, .nameAndType 13 14), (0, u "java/lang/String"), (0, u "value"), (0, u "[B"), (0, .fieldref 10 16), (0, .nameAndType 17 18), (0, u "coder"), (0, u "B"), (2, u "hash"), (0, u "I"), (2, u "hashIsZero"), (0, u "Z"), (0, .methodref 10 28), (0, .nameAndType 5 29), (0, u "([CIILjava/lang/Void;)V"), (8, .fieldref 10 39), (0, .nameAndType 40 26), (0, u "COMPACT_STRINGS"), (1, .class_ 44), (1, u "java/lang/StringUTF16"), (0, u "compress"), (1, .methodref 42 48), (0, .nameAndType 49 50), (0, u "coderFromArrayLen"), (0, u "([BI)B"), (126, .methodref 42 178), (0, .nameAndType 45 179), (0, u "([CII)[B"), (363, u "equals"), (29, u "(Ljava/lang/Object;)Z"), (1, .class_ 576), (0, u "java/lang/CharSequence"), (22, u "CASE_INSENSITIVE_ORDER"), (0, u "Ljava/util/Comparator;"), (409, u "([C)V"), (90, u "serialPersistentFields"), (0, u "[Ljava/io/ObjectStreamField;"), (0, .class_ 1104), (0, u "java/lang/String$CaseInsensitiveComparator"), (1, .class_ 1107), (0, u "java/io/Serializable"), (0, .class_ 1109), (0, u "java/lang/Comparable"), (0, .class_ 1111), (0, u "java/lang/constant/Constable"), (0, .class_ 1113), (0, u "java/lang/constant/ConstantDesc"), (2, u "serialVersionUID"), (0, u "J"), (3, u "REPL"), (0, u "C"), (2, u "LATIN1"), (1, u "UTF16")] 323

def k7m0 : Method := { name := "<init>", desc := "()V", sig := { parameters := [], returnType := none }, accessFlags := 1, code := none }
def k7c1 : Code := { maxStack := 5, maxLocals := 2, code := jdk_42_method_3_code, exceptionTable := #[], attributes := #[] }
def k7m1 : Method := { name := "<init>", desc := "([C)V", sig := { parameters := [(.array .char)], returnType := none }, accessFlags := 1, code := some k7c1 }
def k7c2 : Code := { maxStack := 2, maxLocals := 3, code := jdk_42_method_66_code, exceptionTable := #[], attributes := #[] }
def k7m2 : Method := { name := "equals", desc := "(Ljava/lang/Object;)Z", sig := { parameters := [(.object "java/lang/Object")], returnType := some .boolean }, accessFlags := 1, code := some k7c2 }
def k7c3 : Code := { maxStack := 4, maxLocals := 6, code := jdk_42_method_149_code, exceptionTable := #[], attributes := #[] }
def k7m3 : Method := { name := "<init>", desc := "([CIILjava/lang/Void;)V", sig := { parameters := [(.array .char), .int, .int, (.object "java/lang/Void")], returnType := none }, accessFlags := 2, code := some k7c3 }
/-- java/lang/String -/
def k7 : Class := { plain "java/lang/String" (some 0) with
  accessFlags := 49
  interfaces := #[2, 3, 4, 5, 6]
  cf := some (fileOf pool7 10 #[.nestMembers #[1103]] #[{ accessFlags := 1, nameIndex := 5, descriptorIndex := 6, attributes := #[] }, { accessFlags := 1, nameIndex := 5, descriptorIndex := 1010, attributes := #[] }, { accessFlags := 1, nameIndex := 543, descriptorIndex := 573, attributes := #[] }, { accessFlags := 2, nameIndex := 5, descriptorIndex := 29, attributes := #[] }] 49 2 #[1106, 1108, 575, 1110, 1112] #[{ accessFlags := 18, nameIndex := 13, descriptorIndex := 14, attributes := #[] }, { accessFlags := 18, nameIndex := 17, descriptorIndex := 18, attributes := #[] }, { accessFlags := 2, nameIndex := 21, descriptorIndex := 22, attributes := #[] }, { accessFlags := 2, nameIndex := 25, descriptorIndex := 26, attributes := #[] }, { accessFlags := 26, nameIndex := 1116, descriptorIndex := 1117, attributes := #[] }, { accessFlags := 24, nameIndex := 40, descriptorIndex := 26, attributes := #[] }, { accessFlags := 26, nameIndex := 1101, descriptorIndex := 1102, attributes := #[] }, { accessFlags := 26, nameIndex := 1121, descriptorIndex := 1122, attributes := #[] }, { accessFlags := 25, nameIndex := 599, descriptorIndex := 600, attributes := #[] }, { accessFlags := 24, nameIndex := 1125, descriptorIndex := 18, attributes := #[] }, { accessFlags := 24, nameIndex := 1127, descriptorIndex := 18, attributes := #[] }])
  fields := #[{ name := "value", type := (.array .byte), accessFlags := 18, slot := 0, constantValue := 0 }, { name := "coder", type := .byte, accessFlags := 18, slot := 1, constantValue := 0 }, { name := "hash", type := .int, accessFlags := 2, slot := 2, constantValue := 0 }, { name := "hashIsZero", type := .boolean, accessFlags := 2, slot := 3, constantValue := 0 }, { name := "serialVersionUID", type := .long, accessFlags := 26, slot := 0, constantValue := 0 }, { name := "COMPACT_STRINGS", type := .boolean, accessFlags := 24, slot := 1, constantValue := 0 }, { name := "serialPersistentFields", type := (.array (.object "java/io/ObjectStreamField")), accessFlags := 26, slot := 2, constantValue := 0 }, { name := "REPL", type := .char, accessFlags := 26, slot := 3, constantValue := 0 }, { name := "CASE_INSENSITIVE_ORDER", type := (.object "java/util/Comparator"), accessFlags := 25, slot := 4, constantValue := 0 }, { name := "LATIN1", type := .byte, accessFlags := 24, slot := 5, constantValue := 0 }, { name := "UTF16", type := .byte, accessFlags := 24, slot := 6, constantValue := 0 }]
  methods := #[k7m0, k7m1, k7m2, k7m3]
  instanceTypes := #[(.array .byte), .byte, .int, .boolean]
  staticTypes := #[.long, .boolean, (.array (.object "java/io/ObjectStreamField")), .char, (.object "java/util/Comparator"), .byte, .byte]
  resolved := Array.replicate 1451 none
  statics := some 0 }

def pool8 : Array CpInfo := pool [(6, .class_ 8), (1, u "java/lang/Object"), (0, u "<init>"), (0, u "()V"), (1, .class_ 14), (1, u "java/lang/StringUTF16"), (31, u "$assertionsDisabled"), (0, u "Z"), (13, u "HI_BYTE_SHIFT"), (0, u "I"), (2, u "LO_BYTE_SHIFT"), (49, .methodref 12 116), (0, .nameAndType 117 118), (0, u "compress"), (0, u "([CI[BII)I"), (3, u "([CII)[B"), (138, u "coderFromArrayLen"), (0, u "([BI)B"), (106, .class_ 371), (1, u "java/lang/StringUTF16$LinesSpliterator"), (58, u "MAX_LENGTH"), (196, .class_ 628), (0, u "java/lang/StringUTF16$CodePointsSpliterator"), (0, .class_ 630), (0, u "java/lang/StringUTF16$CharsSpliterator")] 4

def k8m0 : Method := { name := "<init>", desc := "()V", sig := { parameters := [], returnType := none }, accessFlags := 0, code := none }
def k8c1 : Code := { maxStack := 2, maxLocals := 2, code := jdk_52_method_15_code, exceptionTable := #[], attributes := #[] }
def k8m1 : Method := { name := "coderFromArrayLen", desc := "([BI)B", sig := { parameters := [(.array .byte), .int], returnType := some .byte }, accessFlags := 8, code := some k8c1 }
def k8c2 : Code := { maxStack := 5, maxLocals := 6, code := jdk_52_method_16_code, exceptionTable := #[], attributes := #[] }
def k8m2 : Method := { name := "compress", desc := "([CII)[B", sig := { parameters := [(.array .char), .int, .int], returnType := some (.array .byte) }, accessFlags := 9, code := some k8c2 }
def k8c3 : Code := { maxStack := 3, maxLocals := 7, code := jdk_52_method_21_code, exceptionTable := #[], attributes := #[] }
def k8m3 : Method := { name := "compress", desc := "([CI[BII)I", sig := { parameters := [(.array .char), .int, (.array .byte), .int, .int], returnType := some .int }, accessFlags := 9, code := some k8c3 }
/-- java/lang/StringUTF16 -/
def k8 : Class := { plain "java/lang/StringUTF16" (some 0) with
  accessFlags := 48
  interfaces := #[]
  cf := some (fileOf pool8 12 #[.nestMembers #[627, 629, 369]] #[{ accessFlags := 0, nameIndex := 9, descriptorIndex := 10, attributes := #[] }, { accessFlags := 8, nameIndex := 261, descriptorIndex := 262, attributes := #[] }, { accessFlags := 9, nameIndex := 117, descriptorIndex := 122, attributes := #[] }, { accessFlags := 9, nameIndex := 117, descriptorIndex := 118, attributes := #[] }] 48 6 #[] #[{ accessFlags := 26, nameIndex := 61, descriptorIndex := 62, attributes := #[] }, { accessFlags := 26, nameIndex := 65, descriptorIndex := 62, attributes := #[] }, { accessFlags := 24, nameIndex := 430, descriptorIndex := 62, attributes := #[] }, { accessFlags := 4120, nameIndex := 46, descriptorIndex := 47, attributes := #[] }])
  fields := #[{ name := "HI_BYTE_SHIFT", type := .int, accessFlags := 26, slot := 0, constantValue := 0 }, { name := "LO_BYTE_SHIFT", type := .int, accessFlags := 26, slot := 1, constantValue := 0 }, { name := "MAX_LENGTH", type := .int, accessFlags := 24, slot := 2, constantValue := 0 }, { name := "$assertionsDisabled", type := .boolean, accessFlags := 4120, slot := 3, constantValue := 0 }]
  methods := #[k8m0, k8m1, k8m2, k8m3]
  instanceTypes := #[]
  staticTypes := #[.int, .int, .int, .boolean]
  resolved := Array.replicate 635 none
  statics := none }

def pool9 : Array CpInfo := pool [(1, .methodref 2 3), (0, .class_ 4), (0, .nameAndType 5 6), (0, u "com/example/deferral_ledger/deferralledger/elections/DistributionElection"), (0, u "<init>"), (0, u "(Ljava/lang/String;IILjava/time/LocalDate;JILjava/time/LocalDate;)V"), (0, .methodref 2 8), (0, .nameAndType 5 9), (0, u "(Ljava/lang/String;IILjava/time/LocalDate;Ljava/time/LocalDate;)V"), (0, .fieldref 2 11), (0, .nameAndType 12 13), (0, u "participant"), (0, u "Ljava/lang/String;"), (0, .fieldref 2 15), (0, .nameAndType 16 17), (0, u "planYear"), (0, u "I"), (0, .fieldref 2 19), (0, .nameAndType 20 21), (0, u "changes"), (0, u "J"), (0, .methodref 23 24), (0, .class_ 25), (0, .nameAndType 5 26), (0, u "java/lang/Object"), (0, u "()V"), (0, .fieldref 2 28), (0, .nameAndType 29 17), (0, u "installments"), (0, .fieldref 2 31), (0, .nameAndType 32 33), (0, u "inServiceDate"), (0, u "Ljava/time/LocalDate;"), (0, .fieldref 2 35), (0, .nameAndType 36 17), (0, u "pushYears"), (0, .fieldref 2 38), (0, .nameAndType 39 33), (0, u "filed"), (0, .methodref 41 42), (0, .class_ 43), (0, .nameAndType 44 45), (0, u "java/util/Optional"), (0, u "ofNullable"), (0, u "(Ljava/lang/Object;)Ljava/util/Optional;"), (22, u "()Ljava/util/Optional;"), (51, u "YEARS_TO_EFFECT"), (4, u "byDefault"), (0, u "(Ljava/lang/String;II)Lcom/example/deferral_ledger/deferralledger/elections/DistributionElection;"), (1, u "()Ljava/lang/String;"), (0, u "()I"), (2, u "()J")] 29

def k9c0 : Code := { maxStack := 9, maxLocals := 6, code := prog_25_method_1_code, exceptionTable := #[], attributes := #[] }
def k9m0 : Method := { name := "<init>", desc := "(Ljava/lang/String;IILjava/time/LocalDate;Ljava/time/LocalDate;)V", sig := { parameters := [(.object "java/lang/String"), .int, .int, (.object "java/time/LocalDate"), (.object "java/time/LocalDate")], returnType := none }, accessFlags := 0, code := some k9c0 }
def k9c1 : Code := { maxStack := 7, maxLocals := 3, code := prog_25_method_2_code, exceptionTable := #[], attributes := #[] }
def k9m1 : Method := { name := "byDefault", desc := "(Ljava/lang/String;II)Lcom/example/deferral_ledger/deferralledger/elections/DistributionElection;", sig := { parameters := [(.object "java/lang/String"), .int, .int], returnType := some (.object "com/example/deferral_ledger/deferralledger/elections/DistributionElection") }, accessFlags := 8, code := some k9c1 }
def k9c2 : Code := { maxStack := 3, maxLocals := 9, code := prog_25_method_4_code, exceptionTable := #[], attributes := #[] }
def k9m2 : Method := { name := "<init>", desc := "(Ljava/lang/String;IILjava/time/LocalDate;JILjava/time/LocalDate;)V", sig := { parameters := [(.object "java/lang/String"), .int, .int, (.object "java/time/LocalDate"), .long, .int, (.object "java/time/LocalDate")], returnType := none }, accessFlags := 0, code := some k9c2 }
def k9c3 : Code := { maxStack := 1, maxLocals := 1, code := prog_25_method_5_code, exceptionTable := #[], attributes := #[] }
def k9m3 : Method := { name := "participant", desc := "()Ljava/lang/String;", sig := { parameters := [], returnType := some (.object "java/lang/String") }, accessFlags := 1, code := some k9c3 }
def k9c4 : Code := { maxStack := 1, maxLocals := 1, code := prog_25_method_6_code, exceptionTable := #[], attributes := #[] }
def k9m4 : Method := { name := "planYear", desc := "()I", sig := { parameters := [], returnType := some .int }, accessFlags := 1, code := some k9c4 }
def k9c5 : Code := { maxStack := 1, maxLocals := 1, code := prog_25_method_7_code, exceptionTable := #[], attributes := #[] }
def k9m5 : Method := { name := "installments", desc := "()I", sig := { parameters := [], returnType := some .int }, accessFlags := 1, code := some k9c5 }
def k9c6 : Code := { maxStack := 1, maxLocals := 1, code := prog_25_method_8_code, exceptionTable := #[], attributes := #[] }
def k9m6 : Method := { name := "inServiceDate", desc := "()Ljava/util/Optional;", sig := { parameters := [], returnType := some (.object "java/util/Optional") }, accessFlags := 1, code := some k9c6 }
def k9c7 : Code := { maxStack := 2, maxLocals := 1, code := prog_25_method_9_code, exceptionTable := #[], attributes := #[] }
def k9m7 : Method := { name := "changes", desc := "()J", sig := { parameters := [], returnType := some .long }, accessFlags := 1, code := some k9c7 }
def k9c8 : Code := { maxStack := 1, maxLocals := 1, code := prog_25_method_10_code, exceptionTable := #[], attributes := #[] }
def k9m8 : Method := { name := "pushYears", desc := "()I", sig := { parameters := [], returnType := some .int }, accessFlags := 1, code := some k9c8 }
def k9c9 : Code := { maxStack := 1, maxLocals := 1, code := prog_25_method_11_code, exceptionTable := #[], attributes := #[] }
def k9m9 : Method := { name := "filed", desc := "()Ljava/util/Optional;", sig := { parameters := [], returnType := some (.object "java/util/Optional") }, accessFlags := 1, code := some k9c9 }
/-- com/example/deferral_ledger/deferralledger/elections/DistributionElection -/
def k9 : Class := { plain "com/example/deferral_ledger/deferralledger/elections/DistributionElection" (some 0) with
  accessFlags := 33
  interfaces := #[]
  cf := some (fileOf pool9 2 #[] #[{ accessFlags := 0, nameIndex := 5, descriptorIndex := 9, attributes := #[] }, { accessFlags := 8, nameIndex := 125, descriptorIndex := 126, attributes := #[] }, { accessFlags := 0, nameIndex := 5, descriptorIndex := 6, attributes := #[] }, { accessFlags := 1, nameIndex := 12, descriptorIndex := 128, attributes := #[] }, { accessFlags := 1, nameIndex := 16, descriptorIndex := 129, attributes := #[] }, { accessFlags := 1, nameIndex := 29, descriptorIndex := 129, attributes := #[] }, { accessFlags := 1, nameIndex := 32, descriptorIndex := 68, attributes := #[] }, { accessFlags := 1, nameIndex := 20, descriptorIndex := 132, attributes := #[] }, { accessFlags := 1, nameIndex := 36, descriptorIndex := 129, attributes := #[] }, { accessFlags := 1, nameIndex := 39, descriptorIndex := 68, attributes := #[] }] 33 23 #[] #[{ accessFlags := 26, nameIndex := 120, descriptorIndex := 17, attributes := #[] }, { accessFlags := 18, nameIndex := 12, descriptorIndex := 13, attributes := #[] }, { accessFlags := 18, nameIndex := 16, descriptorIndex := 17, attributes := #[] }, { accessFlags := 18, nameIndex := 29, descriptorIndex := 17, attributes := #[] }, { accessFlags := 18, nameIndex := 32, descriptorIndex := 33, attributes := #[] }, { accessFlags := 18, nameIndex := 20, descriptorIndex := 21, attributes := #[] }, { accessFlags := 18, nameIndex := 36, descriptorIndex := 17, attributes := #[] }, { accessFlags := 18, nameIndex := 39, descriptorIndex := 33, attributes := #[] }])
  fields := #[{ name := "YEARS_TO_EFFECT", type := .int, accessFlags := 26, slot := 0, constantValue := 0 }, { name := "participant", type := (.object "java/lang/String"), accessFlags := 18, slot := 0, constantValue := 0 }, { name := "planYear", type := .int, accessFlags := 18, slot := 1, constantValue := 0 }, { name := "installments", type := .int, accessFlags := 18, slot := 2, constantValue := 0 }, { name := "inServiceDate", type := (.object "java/time/LocalDate"), accessFlags := 18, slot := 3, constantValue := 0 }, { name := "changes", type := .long, accessFlags := 18, slot := 4, constantValue := 0 }, { name := "pushYears", type := .int, accessFlags := 18, slot := 5, constantValue := 0 }, { name := "filed", type := (.object "java/time/LocalDate"), accessFlags := 18, slot := 6, constantValue := 0 }]
  methods := #[k9m0, k9m1, k9m2, k9m3, k9m4, k9m5, k9m6, k9m7, k9m8, k9m9]
  instanceTypes := #[(.object "java/lang/String"), .int, .int, (.object "java/time/LocalDate"), .long, .int, (.object "java/time/LocalDate")]
  staticTypes := #[.int]
  resolved := Array.replicate 162 none
  statics := none }

def pool10 : Array CpInfo := pool [(1, .fieldref 2 3), (0, .class_ 4), (0, .nameAndType 5 6), (0, u "java/util/Optional"), (0, u "EMPTY"), (0, u "Ljava/util/Optional;"), (1, .class_ 10), (1, u "java/lang/Object"), (2, .fieldref 2 14), (0, .nameAndType 15 16), (0, u "value"), (0, u "Ljava/lang/Object;"), (29, u "()Z"), (17, u "ofNullable"), (0, u "(Ljava/lang/Object;)Ljava/util/Optional;"), (2, u "isPresent")] 118

def k10c0 : Code := { maxStack := 3, maxLocals := 1, code := jdk_32_method_4_code, exceptionTable := #[], attributes := #[] }
def k10m0 : Method := { name := "ofNullable", desc := "(Ljava/lang/Object;)Ljava/util/Optional;", sig := { parameters := [(.object "java/lang/Object")], returnType := some (.object "java/util/Optional") }, accessFlags := 9, code := some k10c0 }
def k10c1 : Code := { maxStack := 1, maxLocals := 1, code := jdk_32_method_6_code, exceptionTable := #[], attributes := #[] }
def k10m1 : Method := { name := "isPresent", desc := "()Z", sig := { parameters := [], returnType := some .boolean }, accessFlags := 1, code := some k10c1 }
/-- java/util/Optional -/
def k10 : Class := { plain "java/util/Optional" (some 0) with
  accessFlags := 49
  interfaces := #[]
  cf := some (fileOf pool10 2 #[] #[{ accessFlags := 9, nameIndex := 64, descriptorIndex := 65, attributes := #[] }, { accessFlags := 1, nameIndex := 68, descriptorIndex := 46, attributes := #[] }] 49 8 #[] #[{ accessFlags := 26, nameIndex := 5, descriptorIndex := 6, attributes := #[] }, { accessFlags := 18, nameIndex := 15, descriptorIndex := 16, attributes := #[] }])
  fields := #[{ name := "EMPTY", type := (.object "java/util/Optional"), accessFlags := 26, slot := 0, constantValue := 0 }, { name := "value", type := (.object "java/lang/Object"), accessFlags := 18, slot := 0, constantValue := 0 }]
  methods := #[k10m0, k10m1]
  instanceTypes := #[(.object "java/lang/Object")]
  staticTypes := #[(.object "java/util/Optional")]
  resolved := Array.replicate 187 none
  statics := some 1 }

def pool11 : Array CpInfo := pool [(4, .class_ 6), (1, u "java/lang/Object"), (0, u "<init>"), (0, u "()V"), (5, .class_ 16), (1, u "java/lang/StringLatin1"), (104, u "$assertionsDisabled"), (0, u "Z"), (98, .class_ 223), (1, u "java/lang/StringLatin1$LinesSpliterator"), (166, .class_ 391), (0, u "java/lang/StringLatin1$CharsSpliterator")] 3

def k11m0 : Method := { name := "<init>", desc := "()V", sig := { parameters := [], returnType := none }, accessFlags := 0, code := none }
/-- java/lang/StringLatin1 -/
def k11 : Class := { plain "java/lang/StringLatin1" (some 0) with
  accessFlags := 48
  interfaces := #[]
  cf := some (fileOf pool11 14 #[.nestMembers #[390, 221]] #[{ accessFlags := 0, nameIndex := 7, descriptorIndex := 8, attributes := #[] }] 48 4 #[] #[{ accessFlags := 4120, nameIndex := 121, descriptorIndex := 122, attributes := #[] }])
  fields := #[{ name := "$assertionsDisabled", type := .boolean, accessFlags := 4120, slot := 0, constantValue := 0 }]
  methods := #[k11m0]
  instanceTypes := #[]
  staticTypes := #[.boolean]
  resolved := Array.replicate 395 none
  statics := none }

def pool12 : Array CpInfo := pool [(2, .class_ 4), (1, u "java/lang/Object"), (0, u "<init>"), (0, u "()V"), (17, .class_ 26), (1, u "jdk/internal/util/Preconditions"), (28, .class_ 56), (0, u "jdk/internal/util/Preconditions$4"), (57, .class_ 115), (0, u "jdk/internal/util/Preconditions$1"), (7, u "SIOOBE_FORMATTER"), (0, u "Ljava/util/function/BiFunction;"), (0, .class_ 126), (0, u "jdk/internal/util/Preconditions$2"), (3, u "AIOOBE_FORMATTER"), (0, .class_ 132), (0, u "jdk/internal/util/Preconditions$3"), (3, u "IOOBE_FORMATTER")] 57

def k12m0 : Method := { name := "<init>", desc := "()V", sig := { parameters := [], returnType := none }, accessFlags := 1, code := none }
/-- jdk/internal/util/Preconditions -/
def k12 : Class := { plain "jdk/internal/util/Preconditions" (some 0) with
  accessFlags := 33
  interfaces := #[]
  cf := some (fileOf pool12 24 #[.nestMembers #[55, 131, 125, 114]] #[{ accessFlags := 1, nameIndex := 5, descriptorIndex := 6, attributes := #[] }] 33 2 #[] #[{ accessFlags := 25, nameIndex := 123, descriptorIndex := 124, attributes := #[] }, { accessFlags := 25, nameIndex := 130, descriptorIndex := 124, attributes := #[] }, { accessFlags := 25, nameIndex := 136, descriptorIndex := 124, attributes := #[] }])
  fields := #[{ name := "SIOOBE_FORMATTER", type := (.object "java/util/function/BiFunction"), accessFlags := 25, slot := 0, constantValue := 0 }, { name := "AIOOBE_FORMATTER", type := (.object "java/util/function/BiFunction"), accessFlags := 25, slot := 1, constantValue := 0 }, { name := "IOOBE_FORMATTER", type := (.object "java/util/function/BiFunction"), accessFlags := 25, slot := 2, constantValue := 0 }]
  methods := #[k12m0]
  instanceTypes := #[]
  staticTypes := #[(.object "java/util/function/BiFunction"), (.object "java/util/function/BiFunction"), (.object "java/util/function/BiFunction")]
  resolved := Array.replicate 194 none
  statics := some 2 }

def pool13 : Array CpInfo := pool [(9, u "<init>"), (6, .class_ 18), (1, u "java/lang/Object"), (0, u "()V"), (1, .class_ 23), (1, u "jdk/internal/util/ArraysSupport"), (0, u "LOG2_ARRAY_LONG_INDEX_SCALE"), (0, u "I"), (2, u "U"), (0, u "Ljdk/internal/misc/Unsafe;"), (8, u "BIG_ENDIAN"), (0, u "Z"), (8, u "LOG2_BYTE_BIT_SIZE"), (4, u "LOG2_ARRAY_INT_INDEX_SCALE"), (54, u "JLA"), (0, u "Ljdk/internal/access/JavaLangAccess;"), (11, u "LOG2_ARRAY_BOOLEAN_INDEX_SCALE"), (9, u "LOG2_ARRAY_BYTE_INDEX_SCALE"), (5, u "LOG2_ARRAY_CHAR_INDEX_SCALE"), (5, u "LOG2_ARRAY_SHORT_INDEX_SCALE"), (18, u "LOG2_ARRAY_FLOAT_INDEX_SCALE"), (24, u "LOG2_ARRAY_DOUBLE_INDEX_SCALE"), (89, u "T_BOOLEAN"), (2, u "T_CHAR"), (1, u "T_FLOAT"), (1, u "T_DOUBLE"), (1, u "T_BYTE"), (1, u "T_SHORT"), (1, u "T_INT"), (1, u "T_LONG"), (1, u "SOFT_MAX_ARRAY_LENGTH")] 83

def k13m0 : Method := { name := "<init>", desc := "()V", sig := { parameters := [], returnType := none }, accessFlags := 2, code := none }
/-- jdk/internal/util/ArraysSupport -/
def k13 : Class := { plain "jdk/internal/util/ArraysSupport" (some 0) with
  accessFlags := 33
  interfaces := #[]
  cf := some (fileOf pool13 21 #[] #[{ accessFlags := 2, nameIndex := 9, descriptorIndex := 19, attributes := #[] }] 33 16 #[] #[{ accessFlags := 24, nameIndex := 28, descriptorIndex := 29, attributes := #[] }, { accessFlags := 26, nameIndex := 38, descriptorIndex := 39, attributes := #[] }, { accessFlags := 25, nameIndex := 121, descriptorIndex := 25, attributes := #[] }, { accessFlags := 25, nameIndex := 131, descriptorIndex := 25, attributes := #[] }, { accessFlags := 25, nameIndex := 137, descriptorIndex := 25, attributes := #[] }, { accessFlags := 25, nameIndex := 143, descriptorIndex := 25, attributes := #[] }, { accessFlags := 25, nameIndex := 53, descriptorIndex := 25, attributes := #[] }, { accessFlags := 25, nameIndex := 24, descriptorIndex := 25, attributes := #[] }, { accessFlags := 25, nameIndex := 162, descriptorIndex := 25, attributes := #[] }, { accessFlags := 25, nameIndex := 187, descriptorIndex := 25, attributes := #[] }, { accessFlags := 26, nameIndex := 48, descriptorIndex := 25, attributes := #[] }, { accessFlags := 25, nameIndex := 277, descriptorIndex := 25, attributes := #[] }, { accessFlags := 25, nameIndex := 280, descriptorIndex := 25, attributes := #[] }, { accessFlags := 25, nameIndex := 282, descriptorIndex := 25, attributes := #[] }, { accessFlags := 25, nameIndex := 284, descriptorIndex := 25, attributes := #[] }, { accessFlags := 25, nameIndex := 286, descriptorIndex := 25, attributes := #[] }, { accessFlags := 25, nameIndex := 288, descriptorIndex := 25, attributes := #[] }, { accessFlags := 25, nameIndex := 290, descriptorIndex := 25, attributes := #[] }, { accessFlags := 25, nameIndex := 292, descriptorIndex := 25, attributes := #[] }, { accessFlags := 26, nameIndex := 108, descriptorIndex := 109, attributes := #[] }, { accessFlags := 25, nameIndex := 294, descriptorIndex := 25, attributes := #[] }])
  fields := #[{ name := "U", type := (.object "jdk/internal/misc/Unsafe"), accessFlags := 24, slot := 0, constantValue := 0 }, { name := "BIG_ENDIAN", type := .boolean, accessFlags := 26, slot := 1, constantValue := 0 }, { name := "LOG2_ARRAY_BOOLEAN_INDEX_SCALE", type := .int, accessFlags := 25, slot := 2, constantValue := 0 }, { name := "LOG2_ARRAY_BYTE_INDEX_SCALE", type := .int, accessFlags := 25, slot := 3, constantValue := 0 }, { name := "LOG2_ARRAY_CHAR_INDEX_SCALE", type := .int, accessFlags := 25, slot := 4, constantValue := 0 }, { name := "LOG2_ARRAY_SHORT_INDEX_SCALE", type := .int, accessFlags := 25, slot := 5, constantValue := 0 }, { name := "LOG2_ARRAY_INT_INDEX_SCALE", type := .int, accessFlags := 25, slot := 6, constantValue := 0 }, { name := "LOG2_ARRAY_LONG_INDEX_SCALE", type := .int, accessFlags := 25, slot := 7, constantValue := 0 }, { name := "LOG2_ARRAY_FLOAT_INDEX_SCALE", type := .int, accessFlags := 25, slot := 8, constantValue := 0 }, { name := "LOG2_ARRAY_DOUBLE_INDEX_SCALE", type := .int, accessFlags := 25, slot := 9, constantValue := 0 }, { name := "LOG2_BYTE_BIT_SIZE", type := .int, accessFlags := 26, slot := 10, constantValue := 0 }, { name := "T_BOOLEAN", type := .int, accessFlags := 25, slot := 11, constantValue := 0 }, { name := "T_CHAR", type := .int, accessFlags := 25, slot := 12, constantValue := 0 }, { name := "T_FLOAT", type := .int, accessFlags := 25, slot := 13, constantValue := 0 }, { name := "T_DOUBLE", type := .int, accessFlags := 25, slot := 14, constantValue := 0 }, { name := "T_BYTE", type := .int, accessFlags := 25, slot := 15, constantValue := 0 }, { name := "T_SHORT", type := .int, accessFlags := 25, slot := 16, constantValue := 0 }, { name := "T_INT", type := .int, accessFlags := 25, slot := 17, constantValue := 0 }, { name := "T_LONG", type := .int, accessFlags := 25, slot := 18, constantValue := 0 }, { name := "JLA", type := (.object "jdk/internal/access/JavaLangAccess"), accessFlags := 26, slot := 19, constantValue := 0 }, { name := "SOFT_MAX_ARRAY_LENGTH", type := .int, accessFlags := 25, slot := 20, constantValue := 0 }]
  methods := #[k13m0]
  instanceTypes := #[]
  staticTypes := #[(.object "jdk/internal/misc/Unsafe"), .boolean, .int, .int, .int, .int, .int, .int, .int, .int, .int, .int, .int, .int, .int, .int, .int, .int, .int, (.object "jdk/internal/access/JavaLangAccess"), .int]
  resolved := Array.replicate 378 none
  statics := none }

def pool14 : Array CpInfo := pool [(1, u "java/lang/Cloneable"), (0, .class_ 1), (0, u "java/lang/Object"), (0, .class_ 3)] 3

/-- java/lang/Cloneable -/
def k14 : Class := { plain "java/lang/Cloneable" (some 0) with
  accessFlags := 1537
  interfaces := #[]
  cf := some (fileOf pool14 2 #[] #[] 1537 4 #[] #[])
  fields := #[]
  methods := #[]
  instanceTypes := #[]
  staticTypes := #[]
  resolved := Array.replicate 8 none
  statics := none }

/-- the primitive byte -/
def k15 : Class := { plain "byte" none with kind := .primitive 'B', accessFlags := 0x411 }
/-- [B -/
def k16 : Class := { plain "[B" (some 0) with kind := .array 15 .byte, interfaces := #[14, 2], accessFlags := 1041 }

/-- the primitive char -/
def k17 : Class := { plain "char" none with kind := .primitive 'C', accessFlags := 0x411 }
/-- [C -/
def k18 : Class := { plain "[C" (some 0) with kind := .array 17 .char, interfaces := #[14, 2], accessFlags := 1041 }

/-- the primitive int -/
def k19 : Class := { plain "int" none with kind := .primitive 'I', accessFlags := 0x411 }
/-- [I -/
def k20 : Class := { plain "[I" (some 0) with kind := .array 19 .int, interfaces := #[14, 2], accessFlags := 1041 }

def heap : Heap := #[{ cls := 7, slots := #[.long 0, .int 1, .null, .int 0, .null, .int 0, .int 0], vm := .statics 7 },
  { cls := 10, slots := #[.ref 3], vm := .statics 10 },
  { cls := 12, slots := #[.null, .null, .null], vm := .statics 12 },
  { cls := 10, slots := #[.null], vm := .none }]
def classes : Array Class := #[k0, k1, k2, k3, k4, k5, k6, k7, k8, k9, k10, k11, k12, k13, k14, k15, k16, k17, k18, k19, k20]
def interned : List (Array UInt16 × Addr) := []
def slotsUsed : Nat := 12
def theMethod : MethodId := ⟨1, 2⟩
def args0 : Array Value := #[.int 2, .int 3, .int 4, .int 5]
def aboutOver (below : List Frame) : State where
  vm := { classes := classes, interned := interned.toArray }
  heap := heap
  slotsUsed := slotsUsed
  threads := #[{ frames := .invoking theMethod args0 :: below }]
def below0 : List Frame := [.native { method := ⟨0, 0⟩, args := #[] }]
def about1 : State := aboutOver below0
def p0 : Program := .bare "" "" ""
def e0 : Env := launch0.env 0 0 0
theorem w_frames : about1.frames = Frame.invoking theMethod args0 :: below0 := rfl
set_option maxRecDepth 65536 in
theorem w_args : argsFit about1.vm theMethod args0 = true := by decide +kernel
set_option maxRecDepth 65536 in
theorem w_heap : heapFits about1 = true := by decide +kernel
set_option maxRecDepth 65536 in
theorem w_runnable : about1.curStatus? = some .runnable := by decide +kernel
set_option maxRecDepth 65536 in
theorem w_alone : about1.alone = true := by decide +kernel
set_option maxRecDepth 65536 in
theorem w_named : about1.methodNamed? x = some theMethod := by decide +kernel
set_option maxRecDepth 65536 in
theorem w_hears : about1.hears theMethod below0 = true := by decide +kernel
set_option maxRecDepth 65536 in
theorem w_ripe : about1.ripe theMethod args0 below0 = true := by decide +kernel
theorem w_running : about1.status = .running := rfl
set_option maxRecDepth 65536 in
theorem w_room : about1.hasRoom e0.platform room_1 = true :=
  launch0.hasRoom_least _ room_1 (by decide +kernel) (by decide +kernel) (by decide +kernel) (by decide +kernel) (by decide +kernel) (by decide +kernel)
theorem allAtoms_all (ts : List Jvm.Cond) (a : Array Jvm.Value) (st : Jvm.State) : (allAtoms ts).before a st = ts.all (fun c => c.before a st) := by
  induction ts with
  | nil => rfl
  | cons c t ih =>
    show (Jvm.Cond.and c (allAtoms t)).before a st = _
    rw [Jvm.Cond.before_and, ih, List.all_cons]
def words1 : List Jvm.Cond := Jvm.Cond.code x code maxLocals ret :: tables_1
/-- a 'code' word, met by the world's own term for the bytes: nothing is compared byte by byte -/
theorem code_word {y : MethodName} {bytes : ByteArray} {mx : Nat} {rt : Option FieldType} {a : Array Value} {s : State} {m : MethodId} {meth : Method} {c : Code} (h1 : s.methodNamed? y = some m) (h2 : s.vm.method? m = some meth) (h3 : meth.code = some c) (h4 : c.code = bytes)
    (h5 : (c.maxLocals == mx && c.exceptionTable.isEmpty && decide (c.maxStack ≤ mostOperands) && decide (meth.sig.returnType = rt) && !meth.locks && decide (parseMethodDescriptor y.desc = some meth.sig)) = true) : (Jvm.Cond.code y bytes mx rt).before a s = true := by
  simp only [Bool.and_eq_true, beq_iff_eq, Bool.not_eq_true', decide_eq_true_eq] at h5
  obtain ⟨⟨⟨⟨⟨g1, g2⟩, g3⟩, g4⟩, g5⟩, g6⟩ := h5
  simp [Cond.before, Cond.holds, Cond.value, h1, h2, h3, h4, g1, g2, g3, g4, g5, g6]
def isCode : Jvm.Cond → Bool
  | .code _ _ _ _ => true
  | _ => false
theorem all_split {L : List Jvm.Cond} {P : Jvm.Cond → Bool} (h1 : L.all (fun c => isCode c || P c) = true) (h2 : ∀ c ∈ L.filter isCode, P c = true) : L.all P = true := by
  refine List.all_eq_true.mpr fun c hc => ?_
  have h := List.all_eq_true.mp h1 c hc
  rcases Bool.eq_false_or_eq_true (isCode c) with hi | hi
  · exact h2 c (List.mem_filter.mpr ⟨hc, hi⟩)
  · simpa [hi] using h
set_option maxRecDepth 65536 in
theorem w_c0 : (Jvm.Cond.code x code maxLocals ret).before args0 about1 = true := code_word (m := ⟨1, 2⟩) (meth := k1m2) (c := k1c2) (by decide +kernel) rfl rfl rfl (by decide +kernel)
set_option maxRecDepth 65536 in
theorem w_c1 : (Jvm.Cond.code ({ cls := "com/example/deferral_ledger/deferralledger/elections/DistributionElectionByDefaultPinLaw", name := "str", desc := "(II)Ljava/lang/String;" } : Jvm.MethodName) method_2_code (6 : Nat) (Option.some (Jvm.ClassFile.FieldType.object "java/lang/String"))).before args0 about1 = true := code_word (m := ⟨1, 1⟩) (meth := k1m1) (c := k1c1) (by decide +kernel) rfl rfl rfl (by decide +kernel)
set_option maxRecDepth 65536 in
theorem w_c2 : (Jvm.Cond.code ({ cls := "java/lang/String", name := "<init>", desc := "([C)V" } : Jvm.MethodName) jdk_42_method_3_code (2 : Nat) (Option.none : Option Jvm.ClassFile.FieldType)).before args0 about1 = true := code_word (m := ⟨7, 1⟩) (meth := k7m1) (c := k7c1) (by decide +kernel) rfl rfl rfl (by decide +kernel)
set_option maxRecDepth 65536 in
theorem w_c3 : (Jvm.Cond.code ({ cls := "java/lang/String", name := "<init>", desc := "([CIILjava/lang/Void;)V" } : Jvm.MethodName) jdk_42_method_149_code (6 : Nat) (Option.none : Option Jvm.ClassFile.FieldType)).before args0 about1 = true := code_word (m := ⟨7, 3⟩) (meth := k7m3) (c := k7c3) (by decide +kernel) rfl rfl rfl (by decide +kernel)
set_option maxRecDepth 65536 in
theorem w_c4 : (Jvm.Cond.code ({ cls := "java/lang/Object", name := "<init>", desc := "()V" } : Jvm.MethodName) object_method_1_code (1 : Nat) (Option.none : Option Jvm.ClassFile.FieldType)).before args0 about1 = true := code_word (m := ⟨0, 0⟩) (meth := k0m0) (c := k0c0) (by decide +kernel) rfl rfl rfl (by decide +kernel)
set_option maxRecDepth 65536 in
theorem w_c5 : (Jvm.Cond.code ({ cls := "java/lang/StringUTF16", name := "compress", desc := "([CII)[B" } : Jvm.MethodName) jdk_52_method_16_code (6 : Nat) (Option.some (Jvm.ClassFile.FieldType.array Jvm.ClassFile.FieldType.byte))).before args0 about1 = true := code_word (m := ⟨8, 2⟩) (meth := k8m2) (c := k8c2) (by decide +kernel) rfl rfl rfl (by decide +kernel)
set_option maxRecDepth 65536 in
theorem w_c6 : (Jvm.Cond.code ({ cls := "java/lang/StringUTF16", name := "compress", desc := "([CI[BII)I" } : Jvm.MethodName) jdk_52_method_21_code (7 : Nat) (Option.some Jvm.ClassFile.FieldType.int)).before args0 about1 = true := code_word (m := ⟨8, 3⟩) (meth := k8m3) (c := k8c3) (by decide +kernel) rfl rfl rfl (by decide +kernel)
set_option maxRecDepth 65536 in
theorem w_c7 : (Jvm.Cond.code ({ cls := "java/lang/StringUTF16", name := "coderFromArrayLen", desc := "([BI)B" } : Jvm.MethodName) jdk_52_method_15_code (2 : Nat) (Option.some Jvm.ClassFile.FieldType.byte)).before args0 about1 = true := code_word (m := ⟨8, 1⟩) (meth := k8m1) (c := k8c1) (by decide +kernel) rfl rfl rfl (by decide +kernel)
set_option maxRecDepth 65536 in
theorem w_c8 : (Jvm.Cond.code ({ cls := "com/example/deferral_ledger/deferralledger/elections/DistributionElection", name := "byDefault", desc := "(Ljava/lang/String;II)Lcom/example/deferral_ledger/deferralledger/elections/DistributionElection;" } : Jvm.MethodName) prog_25_method_2_code (3 : Nat) (Option.some (Jvm.ClassFile.FieldType.object "com/example/deferral_ledger/deferralledger/elections/DistributionElection"))).before args0 about1 = true := code_word (m := ⟨9, 1⟩) (meth := k9m1) (c := k9c1) (by decide +kernel) rfl rfl rfl (by decide +kernel)
set_option maxRecDepth 65536 in
theorem w_c9 : (Jvm.Cond.code ({ cls := "com/example/deferral_ledger/deferralledger/elections/DistributionElection", name := "<init>", desc := "(Ljava/lang/String;IILjava/time/LocalDate;Ljava/time/LocalDate;)V" } : Jvm.MethodName) prog_25_method_1_code (6 : Nat) (Option.none : Option Jvm.ClassFile.FieldType)).before args0 about1 = true := code_word (m := ⟨9, 0⟩) (meth := k9m0) (c := k9c0) (by decide +kernel) rfl rfl rfl (by decide +kernel)
set_option maxRecDepth 65536 in
theorem w_c10 : (Jvm.Cond.code ({ cls := "com/example/deferral_ledger/deferralledger/elections/DistributionElection", name := "<init>", desc := "(Ljava/lang/String;IILjava/time/LocalDate;JILjava/time/LocalDate;)V" } : Jvm.MethodName) prog_25_method_4_code (9 : Nat) (Option.none : Option Jvm.ClassFile.FieldType)).before args0 about1 = true := code_word (m := ⟨9, 2⟩) (meth := k9m2) (c := k9c2) (by decide +kernel) rfl rfl rfl (by decide +kernel)
set_option maxRecDepth 65536 in
theorem w_c11 : (Jvm.Cond.code ({ cls := "com/example/deferral_ledger/deferralledger/elections/DistributionElection", name := "participant", desc := "()Ljava/lang/String;" } : Jvm.MethodName) prog_25_method_5_code (1 : Nat) (Option.some (Jvm.ClassFile.FieldType.object "java/lang/String"))).before args0 about1 = true := code_word (m := ⟨9, 3⟩) (meth := k9m3) (c := k9c3) (by decide +kernel) rfl rfl rfl (by decide +kernel)
set_option maxRecDepth 65536 in
theorem w_c12 : (Jvm.Cond.code ({ cls := "java/lang/String", name := "equals", desc := "(Ljava/lang/Object;)Z" } : Jvm.MethodName) jdk_42_method_66_code (3 : Nat) (Option.some Jvm.ClassFile.FieldType.boolean)).before args0 about1 = true := code_word (m := ⟨7, 2⟩) (meth := k7m2) (c := k7c2) (by decide +kernel) rfl rfl rfl (by decide +kernel)
set_option maxRecDepth 65536 in
theorem w_c13 : (Jvm.Cond.code ({ cls := "com/example/deferral_ledger/deferralledger/elections/DistributionElection", name := "planYear", desc := "()I" } : Jvm.MethodName) prog_25_method_6_code (1 : Nat) (Option.some Jvm.ClassFile.FieldType.int)).before args0 about1 = true := code_word (m := ⟨9, 4⟩) (meth := k9m4) (c := k9c4) (by decide +kernel) rfl rfl rfl (by decide +kernel)
set_option maxRecDepth 65536 in
theorem w_c14 : (Jvm.Cond.code ({ cls := "com/example/deferral_ledger/deferralledger/elections/DistributionElection", name := "installments", desc := "()I" } : Jvm.MethodName) prog_25_method_7_code (1 : Nat) (Option.some Jvm.ClassFile.FieldType.int)).before args0 about1 = true := code_word (m := ⟨9, 5⟩) (meth := k9m5) (c := k9c5) (by decide +kernel) rfl rfl rfl (by decide +kernel)
set_option maxRecDepth 65536 in
theorem w_c15 : (Jvm.Cond.code ({ cls := "com/example/deferral_ledger/deferralledger/elections/DistributionElection", name := "inServiceDate", desc := "()Ljava/util/Optional;" } : Jvm.MethodName) prog_25_method_8_code (1 : Nat) (Option.some (Jvm.ClassFile.FieldType.object "java/util/Optional"))).before args0 about1 = true := code_word (m := ⟨9, 6⟩) (meth := k9m6) (c := k9c6) (by decide +kernel) rfl rfl rfl (by decide +kernel)
set_option maxRecDepth 65536 in
theorem w_c16 : (Jvm.Cond.code ({ cls := "java/util/Optional", name := "ofNullable", desc := "(Ljava/lang/Object;)Ljava/util/Optional;" } : Jvm.MethodName) jdk_32_method_4_code (1 : Nat) (Option.some (Jvm.ClassFile.FieldType.object "java/util/Optional"))).before args0 about1 = true := code_word (m := ⟨10, 0⟩) (meth := k10m0) (c := k10c0) (by decide +kernel) rfl rfl rfl (by decide +kernel)
set_option maxRecDepth 65536 in
theorem w_c17 : (Jvm.Cond.code ({ cls := "java/util/Optional", name := "isPresent", desc := "()Z" } : Jvm.MethodName) jdk_32_method_6_code (1 : Nat) (Option.some Jvm.ClassFile.FieldType.boolean)).before args0 about1 = true := code_word (m := ⟨10, 1⟩) (meth := k10m1) (c := k10c1) (by decide +kernel) rfl rfl rfl (by decide +kernel)
set_option maxRecDepth 65536 in
theorem w_c18 : (Jvm.Cond.code ({ cls := "com/example/deferral_ledger/deferralledger/elections/DistributionElection", name := "changes", desc := "()J" } : Jvm.MethodName) prog_25_method_9_code (1 : Nat) (Option.some Jvm.ClassFile.FieldType.long)).before args0 about1 = true := code_word (m := ⟨9, 7⟩) (meth := k9m7) (c := k9c7) (by decide +kernel) rfl rfl rfl (by decide +kernel)
set_option maxRecDepth 65536 in
theorem w_c19 : (Jvm.Cond.code ({ cls := "com/example/deferral_ledger/deferralledger/elections/DistributionElection", name := "pushYears", desc := "()I" } : Jvm.MethodName) prog_25_method_10_code (1 : Nat) (Option.some Jvm.ClassFile.FieldType.int)).before args0 about1 = true := code_word (m := ⟨9, 8⟩) (meth := k9m8) (c := k9c8) (by decide +kernel) rfl rfl rfl (by decide +kernel)
set_option maxRecDepth 65536 in
theorem w_c20 : (Jvm.Cond.code ({ cls := "com/example/deferral_ledger/deferralledger/elections/DistributionElection", name := "filed", desc := "()Ljava/util/Optional;" } : Jvm.MethodName) prog_25_method_11_code (1 : Nat) (Option.some (Jvm.ClassFile.FieldType.object "java/util/Optional"))).before args0 about1 = true := code_word (m := ⟨9, 9⟩) (meth := k9m9) (c := k9c9) (by decide +kernel) rfl rfl rfl (by decide +kernel)
def codes1 : List Jvm.Cond := [Jvm.Cond.code x code maxLocals ret, Jvm.Cond.code ({ cls := "com/example/deferral_ledger/deferralledger/elections/DistributionElectionByDefaultPinLaw", name := "str", desc := "(II)Ljava/lang/String;" } : Jvm.MethodName) method_2_code (6 : Nat) (Option.some (Jvm.ClassFile.FieldType.object "java/lang/String")), Jvm.Cond.code ({ cls := "java/lang/String", name := "<init>", desc := "([C)V" } : Jvm.MethodName) jdk_42_method_3_code (2 : Nat) (Option.none : Option Jvm.ClassFile.FieldType), Jvm.Cond.code ({ cls := "java/lang/String", name := "<init>", desc := "([CIILjava/lang/Void;)V" } : Jvm.MethodName) jdk_42_method_149_code (6 : Nat) (Option.none : Option Jvm.ClassFile.FieldType), Jvm.Cond.code ({ cls := "java/lang/Object", name := "<init>", desc := "()V" } : Jvm.MethodName) object_method_1_code (1 : Nat) (Option.none : Option Jvm.ClassFile.FieldType), Jvm.Cond.code ({ cls := "java/lang/StringUTF16", name := "compress", desc := "([CII)[B" } : Jvm.MethodName) jdk_52_method_16_code (6 : Nat) (Option.some (Jvm.ClassFile.FieldType.array Jvm.ClassFile.FieldType.byte)), Jvm.Cond.code ({ cls := "java/lang/StringUTF16", name := "compress", desc := "([CI[BII)I" } : Jvm.MethodName) jdk_52_method_21_code (7 : Nat) (Option.some Jvm.ClassFile.FieldType.int), Jvm.Cond.code ({ cls := "java/lang/StringUTF16", name := "coderFromArrayLen", desc := "([BI)B" } : Jvm.MethodName) jdk_52_method_15_code (2 : Nat) (Option.some Jvm.ClassFile.FieldType.byte), Jvm.Cond.code ({ cls := "com/example/deferral_ledger/deferralledger/elections/DistributionElection", name := "byDefault", desc := "(Ljava/lang/String;II)Lcom/example/deferral_ledger/deferralledger/elections/DistributionElection;" } : Jvm.MethodName) prog_25_method_2_code (3 : Nat) (Option.some (Jvm.ClassFile.FieldType.object "com/example/deferral_ledger/deferralledger/elections/DistributionElection")), Jvm.Cond.code ({ cls := "com/example/deferral_ledger/deferralledger/elections/DistributionElection", name := "<init>", desc := "(Ljava/lang/String;IILjava/time/LocalDate;Ljava/time/LocalDate;)V" } : Jvm.MethodName) prog_25_method_1_code (6 : Nat) (Option.none : Option Jvm.ClassFile.FieldType), Jvm.Cond.code ({ cls := "com/example/deferral_ledger/deferralledger/elections/DistributionElection", name := "<init>", desc := "(Ljava/lang/String;IILjava/time/LocalDate;JILjava/time/LocalDate;)V" } : Jvm.MethodName) prog_25_method_4_code (9 : Nat) (Option.none : Option Jvm.ClassFile.FieldType), Jvm.Cond.code ({ cls := "com/example/deferral_ledger/deferralledger/elections/DistributionElection", name := "participant", desc := "()Ljava/lang/String;" } : Jvm.MethodName) prog_25_method_5_code (1 : Nat) (Option.some (Jvm.ClassFile.FieldType.object "java/lang/String")), Jvm.Cond.code ({ cls := "java/lang/String", name := "equals", desc := "(Ljava/lang/Object;)Z" } : Jvm.MethodName) jdk_42_method_66_code (3 : Nat) (Option.some Jvm.ClassFile.FieldType.boolean), Jvm.Cond.code ({ cls := "com/example/deferral_ledger/deferralledger/elections/DistributionElection", name := "planYear", desc := "()I" } : Jvm.MethodName) prog_25_method_6_code (1 : Nat) (Option.some Jvm.ClassFile.FieldType.int), Jvm.Cond.code ({ cls := "com/example/deferral_ledger/deferralledger/elections/DistributionElection", name := "installments", desc := "()I" } : Jvm.MethodName) prog_25_method_7_code (1 : Nat) (Option.some Jvm.ClassFile.FieldType.int), Jvm.Cond.code ({ cls := "com/example/deferral_ledger/deferralledger/elections/DistributionElection", name := "inServiceDate", desc := "()Ljava/util/Optional;" } : Jvm.MethodName) prog_25_method_8_code (1 : Nat) (Option.some (Jvm.ClassFile.FieldType.object "java/util/Optional")), Jvm.Cond.code ({ cls := "java/util/Optional", name := "ofNullable", desc := "(Ljava/lang/Object;)Ljava/util/Optional;" } : Jvm.MethodName) jdk_32_method_4_code (1 : Nat) (Option.some (Jvm.ClassFile.FieldType.object "java/util/Optional")), Jvm.Cond.code ({ cls := "java/util/Optional", name := "isPresent", desc := "()Z" } : Jvm.MethodName) jdk_32_method_6_code (1 : Nat) (Option.some Jvm.ClassFile.FieldType.boolean), Jvm.Cond.code ({ cls := "com/example/deferral_ledger/deferralledger/elections/DistributionElection", name := "changes", desc := "()J" } : Jvm.MethodName) prog_25_method_9_code (1 : Nat) (Option.some Jvm.ClassFile.FieldType.long), Jvm.Cond.code ({ cls := "com/example/deferral_ledger/deferralledger/elections/DistributionElection", name := "pushYears", desc := "()I" } : Jvm.MethodName) prog_25_method_10_code (1 : Nat) (Option.some Jvm.ClassFile.FieldType.int), Jvm.Cond.code ({ cls := "com/example/deferral_ledger/deferralledger/elections/DistributionElection", name := "filed", desc := "()Ljava/util/Optional;" } : Jvm.MethodName) prog_25_method_11_code (1 : Nat) (Option.some (Jvm.ClassFile.FieldType.object "java/util/Optional"))]
set_option maxRecDepth 65536 in
theorem codes_eq : words1.filter isCode = codes1 := rfl
theorem w_codes : ∀ c ∈ words1.filter isCode, c.before args0 about1 = true := by
  rw [codes_eq]
  intro c hc
  simp only [codes1, List.mem_cons, List.not_mem_nil, or_false] at hc
  rcases hc with rfl | rfl | rfl | rfl | rfl | rfl | rfl | rfl | rfl | rfl | rfl | rfl | rfl | rfl | rfl | rfl | rfl | rfl | rfl | rfl | rfl
  · exact w_c0
  · exact w_c1
  · exact w_c2
  · exact w_c3
  · exact w_c4
  · exact w_c5
  · exact w_c6
  · exact w_c7
  · exact w_c8
  · exact w_c9
  · exact w_c10
  · exact w_c11
  · exact w_c12
  · exact w_c13
  · exact w_c14
  · exact w_c15
  · exact w_c16
  · exact w_c17
  · exact w_c18
  · exact w_c19
  · exact w_c20
set_option maxRecDepth 65536 in
theorem w_t1 : (words1.take 24).all (fun c => isCode c || c.before args0 about1) = true := by decide +kernel
set_option maxRecDepth 65536 in
theorem w_t2 : ((words1.drop 24).take 24).all (fun c => isCode c || c.before args0 about1) = true := by decide +kernel
set_option maxRecDepth 65536 in
theorem w_t3 : (((words1.drop 24).drop 24).take 24).all (fun c => isCode c || c.before args0 about1) = true := by decide +kernel
set_option maxRecDepth 65536 in
theorem w_t4 : ((((words1.drop 24).drop 24).drop 24).take 24).all (fun c => isCode c || c.before args0 about1) = true := by decide +kernel
set_option maxRecDepth 65536 in
theorem w_t5 : ((((words1.drop 24).drop 24).drop 24).drop 24).all (fun c => isCode c || c.before args0 about1) = true := by decide +kernel
theorem w_tables : (allAtoms (Jvm.Cond.code x code maxLocals ret :: tables_1)).before args0 about1 = true := by
  rw [allAtoms_all]
  show words1.all (fun c => c.before args0 about1) = true
  refine all_split ?_ w_codes
  rw [← List.take_append_drop 24 words1, List.all_append, w_t1, ← List.take_append_drop 24 (words1.drop 24), List.all_append, w_t2, ← List.take_append_drop 24 ((words1.drop 24).drop 24), List.all_append, w_t3, ← List.take_append_drop 24 (((words1.drop 24).drop 24).drop 24), List.all_append, w_t4, w_t5]
  rfl
set_option maxRecDepth 65536 in
theorem w_rest : rest_1_c.before args0 about1 = true := by decide +kernel
set_option maxRecDepth 65536 in
theorem w_case : (Jvm.Cond.and given_1 narrow_1).before args0 about1 = true := by decide +kernel
set_option maxRecDepth 65536 in
theorem w_consts : constsHeld consts_1 about1 := Jvm.Lit.constsHeldB_iff.mp (by decide +kernel)
theorem w_applies : (headSpec (Jvm.Cond.code x code maxLocals ret :: tables_1) room_1).applies x e0.platform about1 = true :=
  (Spec.applies_iff w_frames).mpr ⟨w_running, w_runnable, w_alone, w_named, w_hears, w_ripe, w_room, w_tables⟩
theorem atStart : AtStart classFile x code maxLocals ret World_1 tables_1 room_1 Calls_1 rest_1 Pre_1 launch0 p0 e0 about1 theMethod args0 below0 :=
  ⟨lists_1, trivial, launch0.admits_env _ _ _, launch0.least_env, fairChoices_fair.cas, fairChoices_fair.clock, w_frames, w_args, w_heap, w_applies, ⟨w_consts, trivial⟩, w_rest, w_case⟩
end start1
theorem witness_1 : WitnessClaimed_1 := ⟨start1.p0, start1.e0, start1.about1, start1.theMethod, start1.args0, start1.below0, start1.atStart⟩
end Jvm.Pilot.@@N@@
