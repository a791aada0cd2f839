import JvmDerived
import JvmDerived.Pilot.@@N@@Statement
import JvmDerived.Pilot.@@N@@Code
set_option linter.unusedVariables false
set_option linter.unusedSimpArgs false
namespace Jvm.RoadKit
open Sem ClassFile Op Lib Jvm.Stand Jvm.Free Jvm.LawKit
/-- a step taken in front of a run that ends well -/
theorem own_go {tb : Tables} {e : Env} {below : List Frame} {a b : State} {P : State → Outcome → Prop} (h : ∀ target, Steps tb e below b target → Steps tb e below a target) (k : ∃ t o, Steps tb e below b t ∧ P t o) : ∃ t o, Steps tb e below a t ∧ P t o := by
  obtain ⟨t, o, h1, h2⟩ := k
  exact ⟨t, o, h _ h1, h2⟩
/-- several roads meet -/
theorem own_join {A : Type} {C : A → Prop} {tb : Tables} {e : Env} {below : List Frame} {P : State → Outcome → Prop} {f : A → State} {a : State} (body : ∀ x, C x → ∃ t o, Steps tb e below (f x) t ∧ P t o)
    (use : (∀ x, C x → ∃ t o, Steps tb e below (f x) t ∧ P t o) → ∃ t o, Steps tb e below a t ∧ P t o) : ∃ t o, Steps tb e below a t ∧ P t o := use body
/-- a field of an object of the start that the case fixes as an int -/
theorem own_fint {args : Array Value} {s : State} {t : Term} {C n d : String} {k : Int32} {x : Addr} (h : (Jvm.Cond.eq (Term.field t C n d) (Term.int k)).value args s none s [] = some true) (ht : t.eval args s none [] s = some (.ref x)) : Fld s s.heap x C n d (.int k) := by
  obtain ⟨u, v, h1, h2, h3, h4⟩ := cmp_v (Or.inl h)
  have e2 : v = .int k := by rw [Term.int_eval] at h2; exact (Option.some.inj h2).symm
  subst e2
  obtain ⟨z, rfl⟩ : ∃ z, u = .int z := h4
  have q := gotT (Cond.eq_ints h1 h2) h
  subst q
  exact Fld.start (by rw [← fld_at (C := C) (n := n) (dd := d) ht]; exact h1)
end Jvm.RoadKit
namespace Jvm.Pilot.@@N@@
open Jvm Jvm.ClassFile Sem Op Lib Jvm.Free Jvm.Stand Jvm.LawKit Jvm.RoadKit Bundle Jvm.Pilot.@@N@@.Jvm.D
theorem d3_0 : decode prog_11_method_1_code 0 = .ok (.aload_n 0, 1) := by decide +kernel
theorem d3_1 : decode prog_11_method_1_code 1 = .ok (.invokespecial 3, 3) := by decide +kernel
theorem d3_4 : decode prog_11_method_1_code 4 = .ok (.aload_n 0, 1) := by decide +kernel
theorem d3_5 : decode prog_11_method_1_code 5 = .ok (.iconst (-1), 1) := by decide +kernel
theorem d3_6 : decode prog_11_method_1_code 6 = .ok (.putfield 9, 3) := by decide +kernel
theorem d3_9 : decode prog_11_method_1_code 9 = .ok (.return_, 1) := by decide +kernel
theorem pn_3 : plainName "com/example/rowshape/rowshape/shape/ByKey" = true := by first | (simp [plainName, overriddenIn]; done) | decide +kernel
theorem ef_rm3 (m : MethodId) (x0 : Addr) : entryFrame m #[(.ref x0)] 1 = mkF m 0 #[.val (.ref x0)] [] := by first | (simp [entryFrame, mkF, argsToLocals, Value.category]; done) | rfl
def Qrm3 (Z : State) (a1 : Addr) (u1 : Value) (h0 : Heap) (n0 : Nat) (v : Option Value) (h : Heap) (L : List Loc) : Prop := v = none ∧ Fr n0 L ∧ Keep h0 h [a1] ∧ (Exa Z h a1 "com/example/rowshape/rowshape/shape/ByKey")
set_option maxRecDepth 65536 in
set_option maxHeartbeats 40000000 in
theorem rm3 (l : Launch) (Z : State) (a0 : Array Value) (hw : ∀ d ∈ tables_1, d.before a0 Z = true) (ws : List Jvm.Cond) (a1 : Addr) (u1 : Value) (h0 : Heap) (n0 : Nat) (Z0 : n0 ≤ h0.size) (E_a1 : Exa Z h0 a1 "com/example/rowshape/rowshape/shape/ByKey") (Fld_a1_last : Fld Z h0 a1 "com/example/rowshape/rowshape/shape/ByKey" "last" "I" u1) (g_a1 : n0 ≤ a1) :
    MetFree l (⟨"com/example/rowshape/rowshape/shape/ByKey", "<init>", "()V"⟩ : MethodName) (head1 (Jvm.Cond.code (⟨"com/example/rowshape/rowshape/shape/ByKey", "<init>", "()V"⟩ : MethodName) prog_11_method_1_code 1 none :: ws) ({ frames := 1, cells := 0, slots := 0, locals := 12 } : Room)) (fun a U => a = #[(.ref a1)] ∧ Z.Warmed39 U.vm ∧ U.heap = h0) (fun _ _ _ _ _ => True) (fun _ U o U' => ∃ v L, o = .returned v ∧ Qrm3 Z a1 u1 h0 n0 v U'.heap L ∧ FrameEnd U o U' L ({ frames := 1, cells := 0, slots := 0, locals := 12 } : Room).cells ({ frames := 1, cells := 0, slots := 0, locals := 12 } : Room).slots) := by
  refine MetFree.of_bodySF (plainFor_of_name pn_3) hisR ?_
  intro p e s m args below meth c s₁ Bd hml0 hP hK
  obtain ⟨rfl, hZ, hh⟩ := hP
  have hx := Bd.exec
  have hby := Bd.bytes
  have hml : c.maxLocals = 1 := hml0
  have hown : s.vm.findClass "com/example/rowshape/rowshape/shape/ByKey" = some m.cls := findClass_of_methodNamed Bd.named
  have hnm := (name_of_methodNamed Bd.named Bd.method).1
  have X0 : Stand p l e ({ frames := 1, cells := 0, slots := 0, locals := 12 } : Room) s m #[(.ref a1)] below meth c s₁ [] 0 0 := Stand.of_body Bd
  have e0 : s₁.heap = h0 := by rw [← hh, Bd.state]; rfl
  have N0 := Fr.nil n0
  refine own_go (b := (s₁.setTop (mkF m 0 #[.val (.ref a1)] []))) (fun _ k => castTop (ef_rm3 m a1) k) ?_
  refine own_go (b := (s₁.setTop (mkF m 1 #[.val (.ref a1)] [(.ref a1)]))) (fun _ k => XS.aloadN X0.here hx rfl (hb hby d3_0) rfl rfl k) ?_
  obtain ⟨T1, X1, e1, st1⟩ := initO X0 hx hZ hown (hw _ (List.mem_of_getElem? (i := 16) rfl)) (hw _ (List.mem_of_getElem? (i := 8) rfl)) (hw _ (List.mem_of_getElem? (i := 9) rfl)) e0 (g := (mkF m 1 #[.val (.ref a1)] [(.ref a1)])) rfl (by rw [hml]; rfl) rfl (hb hby d3_1) (by decide) (W := 0) (by show 2 * 0 + _ ≤ _; exact Nat.le_of_eq rfl) (by decide)
  refine own_go (b := (T1.setTop (mkF m 6 #[.val (.ref a1)] [(.int (-1 : Int32)), (.ref a1)]))) (fun _ k => st1 _ (XS.aloadN X1.here hx rfl (hb hby d3_4) rfl rfl (XS.iconst X1.here hx rfl (hb hby d3_5) k))) ?_
  obtain ⟨T2, h2, X2, e2, W2, st2⟩ := putF X1 hx hZ hown (host := "") (Or.inl (hw _ (List.mem_of_getElem? (i := 17) rfl))) Via.refl e1 Fld_a1_last E_a1 (Or.inl (hw _ (List.mem_of_getElem? (i := 18) rfl))) (hw _ (List.mem_of_getElem? (i := 11) rfl)) (ty := .int) (by decide) rfl rfl (g := (mkF m 6 #[.val (.ref a1)] [(.int (-1 : Int32)), (.ref a1)])) rfl rfl (hb hby d3_6)
  have N2 := Fr.snoc X2 N0 g_a1
  have Zs3 : n0 ≤ h2.size := Nat.le_trans Z0 (Keep.of_wr W2).1
  have F2 : Fld Z h2 a1 "com/example/rowshape/rowshape/shape/ByKey" "last" "I" (.int (-1 : Int32)) := Fld_a1_last.same W2
  refine own_go (b := (T2.setTop (mkF m 9 #[.val (.ref a1)] []))) (fun _ k => st2 _ k) ?_
  have K4 : Keep h0 h2 [a1] := (Keep.refl h0 [a1]).wr W2 (Or.inl (List.mem_of_getElem? (i := 0) rfl))
  have F5 : Exa Z h2 a1 "com/example/rowshape/rowshape/shape/ByKey" := E_a1.wr W2
  obtain ⟨fs, hr, hrun, hended, hW, hsame⟩ := X2.leave (v := none) (fun _ => rfl)
  exact ⟨_, _, X2.returnOut hx Bd.returns (hb hby d3_9) hr, hrun, hended, _, _, rfl, (show Qrm3 Z a1 u1 h0 n0 _ T2.heap _ from (by rw [e2]; exact ⟨rfl, N2, K4, F5⟩)), ⟨_, rfl⟩, hW, hsame.mono (by decide) (by decide)⟩
theorem d1_0 : decode prog_21_method_1_code 0 = .ok (.aload_n 0, 1) := by decide +kernel
theorem d1_1 : decode prog_21_method_1_code 1 = .ok (.invokespecial 1, 3) := by decide +kernel
theorem d1_4 : decode prog_21_method_1_code 4 = .ok (.aload_n 0, 1) := by decide +kernel
theorem d1_5 : decode prog_21_method_1_code 5 = .ok (.new 7, 3) := by decide +kernel
theorem d1_8 : decode prog_21_method_1_code 8 = .ok (.dup, 1) := by decide +kernel
theorem d1_9 : decode prog_21_method_1_code 9 = .ok (.invokespecial 9, 3) := by decide +kernel
theorem d1_12 : decode prog_21_method_1_code 12 = .ok (.putfield 10, 3) := by decide +kernel
theorem d1_15 : decode prog_21_method_1_code 15 = .ok (.aload_n 0, 1) := by decide +kernel
theorem d1_16 : decode prog_21_method_1_code 16 = .ok (.iload_n 1, 1) := by decide +kernel
theorem d1_17 : decode prog_21_method_1_code 17 = .ok (.putfield 16, 3) := by decide +kernel
theorem d1_20 : decode prog_21_method_1_code 20 = .ok (.return_, 1) := by decide +kernel
theorem pd___V : parseMethodDescriptor "()V" = some ⟨[], none⟩ := by decide +kernel
theorem pn_1 : plainName "com/example/rowshape/rowshape/shape/SeenRows" = true := by first | (simp [plainName, overriddenIn]; done) | decide +kernel
theorem ef_rm1 (m : MethodId) (x0 : Addr) (x1 : Int32) : entryFrame m #[(.ref x0), (.int x1)] 2 = mkF m 0 #[.val (.ref x0), .val (.int x1)] [] := by first | (simp [entryFrame, mkF, argsToLocals, Value.category]; done) | rfl
def Qrm1 (Z : State) (a1 : Addr) (p2 : Int32) (u1 : Value) (u2 : Value) (h0 : Heap) (n0 : Nat) (v : Option Value) (h : Heap) (L : List Loc) : Prop := v = none ∧ Fr n0 L ∧ Keep h0 h [a1] ∧ (Exa Z h a1 "com/example/rowshape/rowshape/shape/SeenRows") ∧ (Fld Z h a1 "com/example/rowshape/rowshape/shape/SeenRows" "width" "I" (.int p2))
set_option maxRecDepth 65536 in
set_option maxHeartbeats 40000000 in
theorem rm1 (l : Launch) (Z : State) (a0 : Array Value) (hw : ∀ d ∈ tables_1, d.before a0 Z = true) (ws : List Jvm.Cond) (a1 : Addr) (p2 : Int32) (u1 : Value) (u2 : Value) (h0 : Heap) (n0 : Nat) (Z0 : n0 ≤ h0.size) (E_a1 : Exa Z h0 a1 "com/example/rowshape/rowshape/shape/SeenRows") (Fld_a1_seen : Fld Z h0 a1 "com/example/rowshape/rowshape/shape/SeenRows" "seen" "Lcom/example/rowshape/rowshape/shape/ByKey;" u1) (Fld_a1_width : Fld Z h0 a1 "com/example/rowshape/rowshape/shape/SeenRows" "width" "I" u2) (g_a1 : n0 ≤ a1) :
    MetFree l (⟨"com/example/rowshape/rowshape/shape/SeenRows", "<init>", "(I)V"⟩ : MethodName) (head1 (Jvm.Cond.code (⟨"com/example/rowshape/rowshape/shape/SeenRows", "<init>", "(I)V"⟩ : MethodName) prog_21_method_1_code 2 none :: ws) ({ frames := 2, cells := 1, slots := 6, locals := 26 } : Room)) (fun a U => a = #[(.ref a1), (.int p2)] ∧ Z.Warmed39 U.vm ∧ U.heap = h0) (fun _ _ _ _ _ => True) (fun _ U o U' => ∃ v L, o = .returned v ∧ Qrm1 Z a1 p2 u1 u2 h0 n0 v U'.heap L ∧ FrameEnd U o U' L ({ frames := 2, cells := 1, slots := 6, locals := 26 } : Room).cells ({ frames := 2, cells := 1, slots := 6, locals := 26 } : Room).slots) := by
  refine MetFree.of_bodySF (plainFor_of_name pn_1) hisR ?_
  intro p e s m args below meth c s₁ Bd hml0 hP hK
  obtain ⟨rfl, hZ, hh⟩ := hP
  have hx := Bd.exec
  have hby := Bd.bytes
  have hml : c.maxLocals = 2 := hml0
  have hown : s.vm.findClass "com/example/rowshape/rowshape/shape/SeenRows" = some m.cls := findClass_of_methodNamed Bd.named
  have hnm := (name_of_methodNamed Bd.named Bd.method).1
  have X0 : Stand p l e ({ frames := 2, cells := 1, slots := 6, locals := 26 } : Room) s m #[(.ref a1), (.int p2)] below meth c s₁ [] 0 0 := Stand.of_body Bd
  have e0 : s₁.heap = h0 := by rw [← hh, Bd.state]; rfl
  have N0 := Fr.nil n0
  refine own_go (b := (s₁.setTop (mkF m 0 #[.val (.ref a1), .val (.int p2)] []))) (fun _ k => castTop (ef_rm1 m a1 p2) k) ?_
  refine own_go (b := (s₁.setTop (mkF m 1 #[.val (.ref a1), .val (.int p2)] [(.ref a1)]))) (fun _ k => XS.aloadN X0.here hx rfl (hb hby d1_0) rfl rfl k) ?_
  obtain ⟨T1, X1, e1, st1⟩ := initO X0 hx hZ hown (hw _ (List.mem_of_getElem? (i := 7) rfl)) (hw _ (List.mem_of_getElem? (i := 8) rfl)) (hw _ (List.mem_of_getElem? (i := 9) rfl)) e0 (g := (mkF m 1 #[.val (.ref a1), .val (.int p2)] [(.ref a1)])) rfl (by rw [hml]; rfl) rfl (hb hby d1_1) (by decide) (W := 0) (by show 2 * 0 + _ ≤ _; exact Nat.le_of_eq rfl) (by decide)
  refine own_go (b := (T1.setTop (mkF m 5 #[.val (.ref a1), .val (.int p2)] [(.ref a1)]))) (fun _ k => st1 _ (XS.aloadN X1.here hx rfl (hb hby d1_4) rfl rfl k)) ?_
  obtain ⟨T2, h2, X2, e2, E2, A2, D2, -, st2⟩ := newO X1 hx hZ hown (hw _ (List.mem_of_getElem? (i := 10) rfl)) (hw _ (List.mem_of_getElem? (i := 11) rfl)) (hw _ (List.mem_of_getElem? (i := 12) rfl)) e1 (g := (mkF m 5 #[.val (.ref a1), .val (.int p2)] [(.ref a1)])) rfl (hb hby d1_5) (by decide) (by decide)
  obtain ⟨b2, g2⟩ : ∃ z, z = h0.size := ⟨_, rfl⟩
  rw [← g2] at A2 D2 st2
  have Zs3 : n0 ≤ h2.size := Nat.le_trans Z0 E2.1
  have F2_last : Fld Z h2 b2 "com/example/rowshape/rowshape/shape/ByKey" "last" "I" (.int (0 : Int32)) := D2 (Or.inl (hw _ (List.mem_of_getElem? (i := 18) rfl))) (ty := .int) (by decide)
  refine own_go (b := (T2.setTop (mkF m 9 #[.val (.ref a1), .val (.int p2)] [(.ref b2), (.ref b2), (.ref a1)]))) (fun _ k => st2 _ (XS.dup X2.here hx rfl (hb hby d1_8) rfl rfl k)) ?_
  obtain ⟨_, _, ⟨T4, L4, k4, n4⟩, -, X4, ⟨Lc4, hQ4, l4, y4, z4⟩, st4⟩ := X2.specialBack hx (y := (⟨"com/example/rowshape/rowshape/shape/ByKey", "<init>", "()V"⟩ : MethodName)) rfl hown (mvT hZ (hw _ (List.mem_of_getElem? (i := 13) rfl))) (mvT hZ (hw _ (List.mem_of_getElem? (i := 14) rfl))) (mvT hZ (hw _ (List.mem_of_getElem? (i := 15) rfl))) (by decide) (backOf (W := 2) (rm3 l Z a0 hw [] b2 (.int (0 : Int32)) h2 n0 Zs3 A2 F2_last (Nat.le_trans Z0 (Nat.le_of_eq g2.symm))) hZ (hw _ (List.mem_of_getElem? (i := 15) rfl)) (hw _ (List.mem_of_getElem? (i := 12) rfl)) (by decide) (by decide)) (g := (mkF m 9 #[.val (.ref a1), .val (.int p2)] [(.ref b2), (.ref b2), (.ref a1)])) rfl (by rw [hml]; rfl) (Steps.refl _) (a := b2) (argsL := []) (rest := [(.ref b2), (.ref a1)]) (lenOf pd___V rfl) rfl (by show 2 * 0 + _ ≤ _; exact Nat.le_of_eq rfl) (hb hby d1_9) (fun _ _ => ⟨rfl, e2, (by decide : 1 + 0 ≤ _), (by decide : 6 + 0 ≤ _)⟩)
  dsimp only [Pt.U, Pt.locs, Pt.cells, Pt.slots] at X4 l4 y4 z4 st4 hQ4
  subst l4 y4 z4
  obtain ⟨rfl, N4q, K4, P4_0⟩ := hQ4
  have N4 := Fr.app N0 N4q
  have Zs5 : n0 ≤ T4.heap.size := Nat.le_trans Zs3 K4.1
  refine own_go (b := (T4.setTop (mkF m 12 #[.val (.ref a1), .val (.int p2)] [(.ref b2), (.ref a1)]))) (fun _ k => st4.trans k) ?_
  have F6 : Exa Z h2 a1 "com/example/rowshape/rowshape/shape/SeenRows" := E_a1.ext E2
  have F7 : Exa Z T4.heap a1 "com/example/rowshape/rowshape/shape/SeenRows" := F6.keep K4
  have F8 : Fld Z h2 a1 "com/example/rowshape/rowshape/shape/SeenRows" "seen" "Lcom/example/rowshape/rowshape/shape/ByKey;" u1 := Fld_a1_seen.ext E2
  have F9 : Fld Z T4.heap a1 "com/example/rowshape/rowshape/shape/SeenRows" "seen" "Lcom/example/rowshape/rowshape/shape/ByKey;" u1 := F8.keep K4 (ninS (Nat.ne_of_lt (Nat.lt_of_lt_of_le E_a1.lt (Nat.le_trans (Nat.le_refl _) (Nat.le_of_eq g2.symm)))) nin0)
  obtain ⟨T10, h10, X10, e10, W10, st10⟩ := putF X4 hx hZ hown (host := "") (Or.inl (hw _ (List.mem_of_getElem? (i := 19) rfl))) Via.refl rfl F9 F7 (Or.inr ⟨(hw _ (List.mem_of_getElem? (i := 20) rfl)), rfl, hnm⟩) (hw _ (List.mem_of_getElem? (i := 2) rfl)) (ty := (.object "com/example/rowshape/rowshape/shape/ByKey")) (by decide) rfl rfl (g := (mkF m 12 #[.val (.ref a1), .val (.int p2)] [(.ref b2), (.ref a1)])) rfl rfl (hb hby d1_12)
  have N10 := Fr.snoc X10 N4 g_a1
  have Zs11 : n0 ≤ h10.size := Nat.le_trans Zs5 (Keep.of_wr W10).1
  have F10 : Fld Z h10 a1 "com/example/rowshape/rowshape/shape/SeenRows" "seen" "Lcom/example/rowshape/rowshape/shape/ByKey;" (.ref b2) := F9.same W10
  refine own_go (b := (T10.setTop (mkF m 17 #[.val (.ref a1), .val (.int p2)] [(.int p2), (.ref a1)]))) (fun _ k => st10 _ (XS.aloadN X10.here hx rfl (hb hby d1_15) rfl rfl (XS.iloadN X10.here hx rfl (hb hby d1_16) rfl k))) ?_
  have F12 : Exa Z h10 a1 "com/example/rowshape/rowshape/shape/SeenRows" := F7.wr W10
  have F13 : Fld Z h2 a1 "com/example/rowshape/rowshape/shape/SeenRows" "width" "I" u2 := Fld_a1_width.ext E2
  have F14 : Fld Z T4.heap a1 "com/example/rowshape/rowshape/shape/SeenRows" "width" "I" u2 := F13.keep K4 (ninS (Nat.ne_of_lt (Nat.lt_of_lt_of_le E_a1.lt (Nat.le_trans (Nat.le_refl _) (Nat.le_of_eq g2.symm)))) nin0)
  have F15 : Fld Z h10 a1 "com/example/rowshape/rowshape/shape/SeenRows" "width" "I" u2 := F14.other W10 (Or.inr (slot_ne (Or.inl (hw _ (List.mem_of_getElem? (i := 22) rfl))) (Or.inr (hw _ (List.mem_of_getElem? (i := 20) rfl))) (by decide) (t := .int) (t' := (.object "com/example/rowshape/rowshape/shape/ByKey")) (by decide) (by decide)))
  obtain ⟨T16, h16, X16, e16, W16, st16⟩ := putF X10 hx hZ hown (host := "") (Or.inl (hw _ (List.mem_of_getElem? (i := 21) rfl))) Via.refl e10 F15 F12 (Or.inl (hw _ (List.mem_of_getElem? (i := 22) rfl))) (hw _ (List.mem_of_getElem? (i := 2) rfl)) (ty := .int) (by decide) rfl rfl (g := (mkF m 17 #[.val (.ref a1), .val (.int p2)] [(.int p2), (.ref a1)])) rfl rfl (hb hby d1_17)
  have N16 := Fr.snoc X16 N10 g_a1
  have Zs17 : n0 ≤ h16.size := Nat.le_trans Zs11 (Keep.of_wr W16).1
  have F16 : Fld Z h16 a1 "com/example/rowshape/rowshape/shape/SeenRows" "width" "I" (.int p2) := F15.same W16
  refine own_go (b := (T16.setTop (mkF m 20 #[.val (.ref a1), .val (.int p2)] []))) (fun _ k => st16 _ k) ?_
  have K18 : Keep h0 h2 [a1] := (Keep.refl h0 [a1]).ext E2
  have K19 : Keep h0 T4.heap [a1] := K18.trans K4 (allS (Or.inr (Nat.le_trans (Nat.le_refl _) (Nat.le_of_eq g2.symm))) all0)
  have K20 : Keep h0 h10 [a1] := K19.wr W10 (Or.inl (List.mem_of_getElem? (i := 0) rfl))
  have K21 : Keep h0 h16 [a1] := K20.wr W16 (Or.inl (List.mem_of_getElem? (i := 0) rfl))
  have F22 : Exa Z h16 a1 "com/example/rowshape/rowshape/shape/SeenRows" := F12.wr W16
  obtain ⟨fs, hr, hrun, hended, hW, hsame⟩ := X16.leave (v := none) (fun _ => rfl)
  exact ⟨_, _, X16.returnOut hx Bd.returns (hb hby d1_20) hr, hrun, hended, _, _, rfl, (show Qrm1 Z a1 p2 u1 u2 h0 n0 _ T16.heap _ from (by rw [e16]; exact ⟨rfl, N16, K21, F22, F16⟩)), ⟨_, rfl⟩, hW, hsame.mono (by decide) (by decide)⟩
theorem d4_0 : decode prog_21_method_2_code 0 = .ok (.aload_n 0, 1) := by decide +kernel
theorem d4_1 : decode prog_21_method_2_code 1 = .ok (.getfield 16, 3) := by decide +kernel
theorem d4_4 : decode prog_21_method_2_code 4 = .ok (.istore_n 2, 1) := by decide +kernel
theorem d4_5 : decode prog_21_method_2_code 5 = .ok (.aload_n 0, 1) := by decide +kernel
theorem d4_6 : decode prog_21_method_2_code 6 = .ok (.dup, 1) := by decide +kernel
theorem d4_7 : decode prog_21_method_2_code 7 = .ok (.getfield 16, 3) := by decide +kernel
theorem d4_10 : decode prog_21_method_2_code 10 = .ok (.iload_n 1, 1) := by decide +kernel
theorem d4_11 : decode prog_21_method_2_code 11 = .ok (.iadd, 1) := by decide +kernel
theorem d4_12 : decode prog_21_method_2_code 12 = .ok (.putfield 16, 3) := by decide +kernel
theorem d4_15 : decode prog_21_method_2_code 15 = .ok (.iload_n 2, 1) := by decide +kernel
theorem d4_16 : decode prog_21_method_2_code 16 = .ok (.ireturn, 1) := by decide +kernel
theorem pn_4 : plainName "com/example/rowshape/rowshape/shape/SeenRows" = true := by first | (simp [plainName, overriddenIn]; done) | decide +kernel
theorem ef_rm4 (m : MethodId) (x0 : Addr) (x1 : Int32) : entryFrame m #[(.ref x0), (.int x1)] 3 = mkF m 0 #[.val (.ref x0), .val (.int x1), .unset] [] := by first | (simp [entryFrame, mkF, argsToLocals, Value.category]; done) | rfl
def Qrm4 (Z : State) (a1 : Addr) (p2 : Int32) (x3 : Int32) (h0 : Heap) (n0 : Nat) (v : Option Value) (h : Heap) (L : List Loc) : Prop := v = some (.int x3) ∧ Fr n0 L ∧ Keep h0 h [a1] ∧ (Exa Z h a1 "com/example/rowshape/rowshape/shape/SeenRows") ∧ (Fld Z h a1 "com/example/rowshape/rowshape/shape/SeenRows" "width" "I" (.int (x3 + p2)))
set_option maxRecDepth 65536 in
set_option maxHeartbeats 40000000 in
theorem rm4 (l : Launch) (Z : State) (a0 : Array Value) (hw : ∀ d ∈ tables_1, d.before a0 Z = true) (ws : List Jvm.Cond) (a1 : Addr) (p2 : Int32) (x3 : Int32) (h0 : Heap) (n0 : Nat) (Z0 : n0 ≤ h0.size) (E_a1 : Exa Z h0 a1 "com/example/rowshape/rowshape/shape/SeenRows") (Fld_a1_width : Fld Z h0 a1 "com/example/rowshape/rowshape/shape/SeenRows" "width" "I" (.int x3)) (g_a1 : n0 ≤ a1) :
    MetFree l (⟨"com/example/rowshape/rowshape/shape/SeenRows", "slot", "(I)I"⟩ : MethodName) (head1 (Jvm.Cond.code (⟨"com/example/rowshape/rowshape/shape/SeenRows", "slot", "(I)I"⟩ : MethodName) prog_21_method_2_code 3 (some .int) :: ws) ({ frames := 0, cells := 0, slots := 0, locals := 0 } : Room)) (fun a U => a = #[(.ref a1), (.int p2)] ∧ Z.Warmed39 U.vm ∧ U.heap = h0) (fun _ _ _ _ _ => True) (fun _ U o U' => ∃ v L, o = .returned v ∧ Qrm4 Z a1 p2 x3 h0 n0 v U'.heap L ∧ FrameEnd U o U' L ({ frames := 0, cells := 0, slots := 0, locals := 0 } : Room).cells ({ frames := 0, cells := 0, slots := 0, locals := 0 } : Room).slots) := by
  refine MetFree.of_bodySF (plainFor_of_name pn_4) hisR ?_
  intro p e s m args below meth c s₁ Bd hml0 hP hK
  obtain ⟨rfl, hZ, hh⟩ := hP
  have hx := Bd.exec
  have hby := Bd.bytes
  have hml : c.maxLocals = 3 := hml0
  have hown : s.vm.findClass "com/example/rowshape/rowshape/shape/SeenRows" = some m.cls := findClass_of_methodNamed Bd.named
  have hnm := (name_of_methodNamed Bd.named Bd.method).1
  have X0 : Stand p l e ({ frames := 0, cells := 0, slots := 0, locals := 0 } : Room) s m #[(.ref a1), (.int p2)] below meth c s₁ [] 0 0 := Stand.of_body Bd
  have e0 : s₁.heap = h0 := by rw [← hh, Bd.state]; rfl
  have N0 := Fr.nil n0
  refine own_go (b := (s₁.setTop (mkF m 0 #[.val (.ref a1), .val (.int p2), .unset] []))) (fun _ k => castTop (ef_rm4 m a1 p2) k) ?_
  refine own_go (b := (s₁.setTop (mkF m 1 #[.val (.ref a1), .val (.int p2), .unset] [(.ref a1)]))) (fun _ k => XS.aloadN X0.here hx rfl (hb hby d4_0) rfl rfl k) ?_
  obtain ⟨T1, X1, e1, st1⟩ := getF X0 hx hZ hown (host := "") (Or.inl (hw _ (List.mem_of_getElem? (i := 21) rfl))) Via.refl e0 Fld_a1_width (g := (mkF m 1 #[.val (.ref a1), .val (.int p2), .unset] [(.ref a1)])) rfl rfl (hb hby d4_1)
  refine own_go (b := (T1.setTop (mkF m 7 #[.val (.ref a1), .val (.int p2), .val (.int x3)] [(.ref a1), (.ref a1)]))) (fun _ k => st1 _ (XS.istoreN X1.here hx rfl (hb hby d4_4) rfl (l' := #[.val (.ref a1), .val (.int p2), .val (.int x3)]) rfl (XS.aloadN X1.here hx rfl (hb hby d4_5) rfl rfl (XS.dup X1.here hx rfl (hb hby d4_6) rfl rfl k)))) ?_
  obtain ⟨T2, X2, e2, st2⟩ := getF X1 hx hZ hown (host := "") (Or.inl (hw _ (List.mem_of_getElem? (i := 21) rfl))) Via.refl e1 Fld_a1_width (g := (mkF m 7 #[.val (.ref a1), .val (.int p2), .val (.int x3)] [(.ref a1), (.ref a1)])) rfl rfl (hb hby d4_7)
  refine own_go (b := (T2.setTop (mkF m 12 #[.val (.ref a1), .val (.int p2), .val (.int x3)] [(.int (x3 + p2)), (.ref a1)]))) (fun _ k => st2 _ (XS.iloadN X2.here hx rfl (hb hby d4_10) rfl (XS.iadd X2.here hx rfl (hb hby d4_11) rfl k))) ?_
  obtain ⟨T3, h3, X3, e3, W3, st3⟩ := putF X2 hx hZ hown (host := "") (Or.inl (hw _ (List.mem_of_getElem? (i := 21) rfl))) Via.refl e2 Fld_a1_width E_a1 (Or.inl (hw _ (List.mem_of_getElem? (i := 22) rfl))) (hw _ (List.mem_of_getElem? (i := 2) rfl)) (ty := .int) (by decide) rfl rfl (g := (mkF m 12 #[.val (.ref a1), .val (.int p2), .val (.int x3)] [(.int (x3 + p2)), (.ref a1)])) rfl rfl (hb hby d4_12)
  have N3 := Fr.snoc X3 N0 g_a1
  have Zs4 : n0 ≤ h3.size := Nat.le_trans Z0 (Keep.of_wr W3).1
  have F3 : Fld Z h3 a1 "com/example/rowshape/rowshape/shape/SeenRows" "width" "I" (.int (x3 + p2)) := Fld_a1_width.same W3
  refine own_go (b := (T3.setTop (mkF m 16 #[.val (.ref a1), .val (.int p2), .val (.int x3)] [(.int x3)]))) (fun _ k => st3 _ (XS.iloadN X3.here hx rfl (hb hby d4_15) rfl k)) ?_
  have K5 : Keep h0 h3 [a1] := (Keep.refl h0 [a1]).wr W3 (Or.inl (List.mem_of_getElem? (i := 0) rfl))
  have F6 : Exa Z h3 a1 "com/example/rowshape/rowshape/shape/SeenRows" := E_a1.wr W3
  obtain ⟨fs, hr, hrun, hended, hW, hsame⟩ := X3.leave (v := some (.int x3)) (fun h => by rw [Bd.returns] at h; cases h)
  exact ⟨_, _, retOut X3 hx Bd.returns rfl (Or.inl ⟨rfl, Or.inl rfl, _, rfl⟩) (hb hby d4_16) hr, hrun, hended, _, _, rfl, (show Qrm4 Z a1 p2 x3 h0 n0 _ T3.heap _ from (by rw [e3]; exact ⟨rfl, N3, K5, F6, F3⟩)), ⟨_, rfl⟩, hW, hsame.mono (by decide) (by decide)⟩
theorem pd__I_V : parseMethodDescriptor "(I)V" = some ⟨[.int], none⟩ := by decide +kernel
theorem pd__I_I : parseMethodDescriptor "(I)I" = some ⟨[.int], some .int⟩ := by decide +kernel
theorem pn_0 : plainName "com/example/rowshape/rowshape/shape/SeenRowsSlotPinLaw" = true := by first | (simp [plainName, overriddenIn]; done) | decide +kernel
theorem ef_rm0 (m : MethodId) (x0 : Int32) (x1 : Int32) (x2 : Int32) (x3 : Int32) : entryFrame m #[(.int x0), (.int x1), (.int x2), (.int x3)] maxLocals = mkF m 0 #[.val (.int x0), .val (.int x1), .val (.int x2), .val (.int x3), .unset, .unset, .unset, .unset, .unset, .unset, .unset, .unset] [] := by first | (simp [entryFrame, mkF, argsToLocals, Value.category, maxLocals]; done) | rfl
def Qrm0 (Z : State) (p0 : Int32) (p1 : Int32) (p2 : Int32) (p3 : Int32) (h0 : Heap) (n0 : Nat) (v : Option Value) (h : Heap) (L : List Loc) : Prop := v = some (.int (1 : Int32)) ∧ Fr n0 L
set_option maxRecDepth 65536 in
set_option maxHeartbeats 40000000 in
theorem rm0 (l : Launch) (Z : State) (a0 : Array Value) (hw : ∀ d ∈ tables_1, d.before a0 Z = true) (ws : List Jvm.Cond) (p0 : Int32) (p1 : Int32) (p2 : Int32) (p3 : Int32) (h0 : Heap) (n0 : Nat) (Z0 : n0 ≤ h0.size) :
    MetFree l x (head1 (Jvm.Cond.code x code maxLocals ret :: ws) room_1) (fun a U => a = #[(.int p0), (.int p1), (.int p2), (.int p3)] ∧ Z.Warmed39 U.vm ∧ U.heap = h0) (fun _ _ _ _ _ => True) (fun _ U o U' => ∃ v L, o = .returned v ∧ Qrm0 Z p0 p1 p2 p3 h0 n0 v U'.heap L ∧ FrameEnd U o U' L room_1.cells room_1.slots) := by
  refine MetFree.of_bodySF (plainFor_of_name pn_0) hisR ?_
  intro p e s m args below meth c s₁ Bd hml0 hP hK
  obtain ⟨rfl, hZ, hh⟩ := hP
  have hx := Bd.exec
  have hby := Bd.bytes
  have hml : c.maxLocals = 12 := hml0
  have hown : s.vm.findClass "com/example/rowshape/rowshape/shape/SeenRowsSlotPinLaw" = some m.cls := findClass_of_methodNamed Bd.named
  have hnm := (name_of_methodNamed Bd.named Bd.method).1
  have X0 : Stand p l e room_1 s m #[(.int p0), (.int p1), (.int p2), (.int p3)] below meth c s₁ [] 0 0 := Stand.of_body Bd
  have e0 : s₁.heap = h0 := by rw [← hh, Bd.state]; rfl
  have N0 := Fr.nil n0
  refine own_go (b := (s₁.setTop (mkF m 0 #[.val (.int p0), .val (.int p1), .val (.int p2), .val (.int p3), .unset, .unset, .unset, .unset, .unset, .unset, .unset, .unset] []))) (fun _ k => castTop (ef_rm0 m p0 p1 p2 p3) k) ?_
  refine own_go (b := (s₁.setTop (mkF m 15 #[.val (.int p0), .val (.int p1), .val (.int p2), .val (.int p3), .val (.int (p0 &&& (536870911 : Int32))), .val (.int (p1 &&& (536870911 : Int32))), .unset, .unset, .unset, .unset, .unset, .unset] [(.int (536870911 : Int32)), (.int p2)]))) (fun _ k => XS.iloadN X0.here hx rfl (hb hby at_0) rfl (X0.ldcInt hx hown (mvT hZ (hw _ (List.mem_of_getElem? (i := 0) rfl))) (g := (mkF m 1 #[.val (.int p0), .val (.int p1), .val (.int p2), .val (.int p3), .unset, .unset, .unset, .unset, .unset, .unset, .unset, .unset] [(.int p0)])) rfl (hb hby at_1) _ (XS.iand X0.here hx rfl (hb hby at_3) rfl (XS.istore X0.here hx rfl (hb hby at_4) rfl (l' := #[.val (.int p0), .val (.int p1), .val (.int p2), .val (.int p3), .val (.int (p0 &&& (536870911 : Int32))), .unset, .unset, .unset, .unset, .unset, .unset, .unset]) rfl (XS.iloadN X0.here hx rfl (hb hby at_6) rfl (X0.ldcInt hx hown (mvT hZ (hw _ (List.mem_of_getElem? (i := 0) rfl))) (g := (mkF m 7 #[.val (.int p0), .val (.int p1), .val (.int p2), .val (.int p3), .val (.int (p0 &&& (536870911 : Int32))), .unset, .unset, .unset, .unset, .unset, .unset, .unset] [(.int p1)])) rfl (hb hby at_7) _ (XS.iand X0.here hx rfl (hb hby at_9) rfl (XS.istore X0.here hx rfl (hb hby at_10) rfl (l' := #[.val (.int p0), .val (.int p1), .val (.int p2), .val (.int p3), .val (.int (p0 &&& (536870911 : Int32))), .val (.int (p1 &&& (536870911 : Int32))), .unset, .unset, .unset, .unset, .unset, .unset]) rfl (XS.iloadN X0.here hx rfl (hb hby at_12) rfl (X0.ldcInt hx hown (mvT hZ (hw _ (List.mem_of_getElem? (i := 0) rfl))) (g := (mkF m 13 #[.val (.int p0), .val (.int p1), .val (.int p2), .val (.int p3), .val (.int (p0 &&& (536870911 : Int32))), .val (.int (p1 &&& (536870911 : Int32))), .unset, .unset, .unset, .unset, .unset, .unset] [(.int p2)])) rfl (hb hby at_13) _ k)))))))))) ?_
  refine own_go (b := (s₁.setTop (mkF m 24 #[.val (.int p0), .val (.int p1), .val (.int p2), .val (.int p3), .val (.int (p0 &&& (536870911 : Int32))), .val (.int (p1 &&& (536870911 : Int32))), .val (.int (p2 &&& (536870911 : Int32))), .val (.int (p3 &&& (536870911 : Int32))), .unset, .unset, .unset, .unset] []))) (fun _ k => XS.iand X0.here hx rfl (hb hby at_15) rfl (XS.istore X0.here hx rfl (hb hby at_16) rfl (l' := #[.val (.int p0), .val (.int p1), .val (.int p2), .val (.int p3), .val (.int (p0 &&& (536870911 : Int32))), .val (.int (p1 &&& (536870911 : Int32))), .val (.int (p2 &&& (536870911 : Int32))), .unset, .unset, .unset, .unset, .unset]) rfl (XS.iloadN X0.here hx rfl (hb hby at_18) rfl (X0.ldcInt hx hown (mvT hZ (hw _ (List.mem_of_getElem? (i := 0) rfl))) (g := (mkF m 19 #[.val (.int p0), .val (.int p1), .val (.int p2), .val (.int p3), .val (.int (p0 &&& (536870911 : Int32))), .val (.int (p1 &&& (536870911 : Int32))), .val (.int (p2 &&& (536870911 : Int32))), .unset, .unset, .unset, .unset, .unset] [(.int p3)])) rfl (hb hby at_19) _ (XS.iand X0.here hx rfl (hb hby at_21) rfl (XS.istore X0.here hx rfl (hb hby at_22) rfl (l' := #[.val (.int p0), .val (.int p1), .val (.int p2), .val (.int p3), .val (.int (p0 &&& (536870911 : Int32))), .val (.int (p1 &&& (536870911 : Int32))), .val (.int (p2 &&& (536870911 : Int32))), .val (.int (p3 &&& (536870911 : Int32))), .unset, .unset, .unset, .unset]) rfl k)))))) ?_
  obtain ⟨T1, h1, X1, e1, E1, A1, D1, -, st1⟩ := newO X0 hx hZ hown (hw _ (List.mem_of_getElem? (i := 1) rfl)) (hw _ (List.mem_of_getElem? (i := 2) rfl)) (hw _ (List.mem_of_getElem? (i := 3) rfl)) e0 (g := (mkF m 24 #[.val (.int p0), .val (.int p1), .val (.int p2), .val (.int p3), .val (.int (p0 &&& (536870911 : Int32))), .val (.int (p1 &&& (536870911 : Int32))), .val (.int (p2 &&& (536870911 : Int32))), .val (.int (p3 &&& (536870911 : Int32))), .unset, .unset, .unset, .unset] [])) rfl (hb hby at_24) (by decide) (by decide)
  obtain ⟨b1, g1⟩ : ∃ z, z = h0.size := ⟨_, rfl⟩
  rw [← g1] at A1 D1 st1
  have Zs2 : n0 ≤ h1.size := Nat.le_trans Z0 E1.1
  have F1_seen : Fld Z h1 b1 "com/example/rowshape/rowshape/shape/SeenRows" "seen" "Lcom/example/rowshape/rowshape/shape/ByKey;" .null := D1 (Or.inr (hw _ (List.mem_of_getElem? (i := 20) rfl))) (ty := (.object "com/example/rowshape/rowshape/shape/ByKey")) (by decide)
  have F1_width : Fld Z h1 b1 "com/example/rowshape/rowshape/shape/SeenRows" "width" "I" (.int (0 : Int32)) := D1 (Or.inl (hw _ (List.mem_of_getElem? (i := 22) rfl))) (ty := .int) (by decide)
  refine own_go (b := (T1.setTop (mkF m 30 #[.val (.int p0), .val (.int p1), .val (.int p2), .val (.int p3), .val (.int (p0 &&& (536870911 : Int32))), .val (.int (p1 &&& (536870911 : Int32))), .val (.int (p2 &&& (536870911 : Int32))), .val (.int (p3 &&& (536870911 : Int32))), .unset, .unset, .unset, .unset] [(.int (p0 &&& (536870911 : Int32))), (.ref b1), (.ref b1)]))) (fun _ k => st1 _ (XS.dup X1.here hx rfl (hb hby at_27) rfl rfl (XS.iload X1.here hx rfl (hb hby at_28) rfl k))) ?_
  obtain ⟨_, _, ⟨T3, L3, k3, n3⟩, -, X3, ⟨Lc3, hQ3, l3, y3, z3⟩, st3⟩ := X1.specialBack hx (y := (⟨"com/example/rowshape/rowshape/shape/SeenRows", "<init>", "(I)V"⟩ : MethodName)) rfl hown (mvT hZ (hw _ (List.mem_of_getElem? (i := 4) rfl))) (mvT hZ (hw _ (List.mem_of_getElem? (i := 5) rfl))) (mvT hZ (hw _ (List.mem_of_getElem? (i := 6) rfl))) (by decide) (backOf (W := 1) (rm1 l Z a0 hw [] b1 (p0 &&& (536870911 : Int32)) .null (.int (0 : Int32)) h1 n0 Zs2 A1 F1_seen F1_width (Nat.le_trans Z0 (Nat.le_of_eq g1.symm))) hZ (hw _ (List.mem_of_getElem? (i := 6) rfl)) (hw _ (List.mem_of_getElem? (i := 3) rfl)) (by decide) (by decide)) (g := (mkF m 30 #[.val (.int p0), .val (.int p1), .val (.int p2), .val (.int p3), .val (.int (p0 &&& (536870911 : Int32))), .val (.int (p1 &&& (536870911 : Int32))), .val (.int (p2 &&& (536870911 : Int32))), .val (.int (p3 &&& (536870911 : Int32))), .unset, .unset, .unset, .unset] [(.int (p0 &&& (536870911 : Int32))), (.ref b1), (.ref b1)])) rfl (by rw [hml]; rfl) (Steps.refl _) (a := b1) (argsL := [(.int (p0 &&& (536870911 : Int32)))]) (rest := [(.ref b1)]) (lenOf pd__I_V rfl) rfl (by show 2 * 0 + _ ≤ _; exact Nat.le_of_eq rfl) (hb hby at_30) (fun _ _ => ⟨rfl, e1, (by decide : 1 + 1 ≤ _), (by decide : 5 + 6 ≤ _)⟩)
  dsimp only [Pt.U, Pt.locs, Pt.cells, Pt.slots] at X3 l3 y3 z3 st3 hQ3
  subst l3 y3 z3
  obtain ⟨rfl, N3q, K3, P3_0, P3_1⟩ := hQ3
  have N3 := Fr.app N0 N3q
  have Zs4 : n0 ≤ T3.heap.size := Nat.le_trans Zs2 K3.1
  refine own_go (b := (T3.setTop (mkF m 39 #[.val (.int p0), .val (.int p1), .val (.int p2), .val (.int p3), .val (.int (p0 &&& (536870911 : Int32))), .val (.int (p1 &&& (536870911 : Int32))), .val (.int (p2 &&& (536870911 : Int32))), .val (.int (p3 &&& (536870911 : Int32))), .val (.ref b1), .unset, .unset, .unset] [(.int (p1 &&& (536870911 : Int32))), (.ref b1)]))) (fun _ k => st3.trans (XS.astore X3.here hx rfl (hb hby at_33) rfl rfl (l' := #[.val (.int p0), .val (.int p1), .val (.int p2), .val (.int p3), .val (.int (p0 &&& (536870911 : Int32))), .val (.int (p1 &&& (536870911 : Int32))), .val (.int (p2 &&& (536870911 : Int32))), .val (.int (p3 &&& (536870911 : Int32))), .val (.ref b1), .unset, .unset, .unset]) rfl (XS.aload X3.here hx rfl (hb hby at_35) rfl rfl (XS.iload X3.here hx rfl (hb hby at_37) rfl k)))) ?_
  obtain ⟨cq5, kq5, q5a, q5b, q5c⟩ := isOf hZ rfl P3_0
  obtain ⟨_, _, ⟨T5, L5, k5, n5⟩, -, X5, ⟨Lc5, hQ5, l5, y5, z5⟩, st5⟩ := X3.virtualBack hx (y := (⟨"com/example/rowshape/rowshape/shape/SeenRows", "slot", "(I)I"⟩ : MethodName)) (z := (⟨"com/example/rowshape/rowshape/shape/SeenRows", "slot", "(I)I"⟩ : MethodName)) hown (mvT hZ (hw _ (List.mem_of_getElem? (i := 23) rfl))) (mvT hZ (hw _ (List.mem_of_getElem? (i := 24) rfl))) (notFace_of_selects (args := #[]) (mvT hZ (hw _ (List.mem_of_getElem? (i := 26) rfl)))) (mvT hZ (hw _ (List.mem_of_getElem? (i := 26) rfl))) (mvT hZ (hw _ (List.mem_of_getElem? (i := 25) rfl))) (by decide) (backOf (W := 0) (rm4 l Z a0 hw [] b1 (p1 &&& (536870911 : Int32)) (p0 &&& (536870911 : Int32)) T3.heap n0 Zs4 P3_0 P3_1 (Nat.le_trans Z0 (Nat.le_of_eq g1.symm))) hZ (hw _ (List.mem_of_getElem? (i := 27) rfl)) (hw _ (List.mem_of_getElem? (i := 3) rfl)) (by decide) (by decide)) q5a q5c (g := (mkF m 39 #[.val (.int p0), .val (.int p1), .val (.int p2), .val (.int p3), .val (.int (p0 &&& (536870911 : Int32))), .val (.int (p1 &&& (536870911 : Int32))), .val (.int (p2 &&& (536870911 : Int32))), .val (.int (p3 &&& (536870911 : Int32))), .val (.ref b1), .unset, .unset, .unset] [(.int (p1 &&& (536870911 : Int32))), (.ref b1)])) rfl (by rw [hml]; rfl) (Steps.refl _) (argsL := [(.int (p1 &&& (536870911 : Int32)))]) (rest := []) (lenOf pd__I_I rfl) rfl (by show 2 * 0 + _ ≤ _; exact Nat.le_of_eq rfl) (hb hby at_39) (fun _ _ => ⟨rfl, rfl, (by decide : 2 + 0 ≤ _), (by decide : 11 + 0 ≤ _)⟩)
  dsimp only [Pt.U, Pt.locs, Pt.cells, Pt.slots] at X5 l5 y5 z5 st5 hQ5
  subst l5 y5 z5
  obtain ⟨rfl, N5q, K5, P5_0, P5_1⟩ := hQ5
  have N5 := Fr.app N3 N5q
  have Zs6 : n0 ≤ T5.heap.size := Nat.le_trans Zs4 K5.1
  refine own_go (b := (T5.setTop (mkF m 48 #[.val (.int p0), .val (.int p1), .val (.int p2), .val (.int p3), .val (.int (p0 &&& (536870911 : Int32))), .val (.int (p1 &&& (536870911 : Int32))), .val (.int (p2 &&& (536870911 : Int32))), .val (.int (p3 &&& (536870911 : Int32))), .val (.ref b1), .val (.int (p0 &&& (536870911 : Int32))), .unset, .unset] [(.int (p2 &&& (536870911 : Int32))), (.ref b1)]))) (fun _ k => st5.trans (XS.istore X5.here hx rfl (hb hby at_42) rfl (l' := #[.val (.int p0), .val (.int p1), .val (.int p2), .val (.int p3), .val (.int (p0 &&& (536870911 : Int32))), .val (.int (p1 &&& (536870911 : Int32))), .val (.int (p2 &&& (536870911 : Int32))), .val (.int (p3 &&& (536870911 : Int32))), .val (.ref b1), .val (.int (p0 &&& (536870911 : Int32))), .unset, .unset]) rfl (XS.aload X5.here hx rfl (hb hby at_44) rfl rfl (XS.iload X5.here hx rfl (hb hby at_46) rfl k)))) ?_
  obtain ⟨cq7, kq7, q7a, q7b, q7c⟩ := isOf hZ rfl P5_0
  obtain ⟨_, _, ⟨T7, L7, k7, n7⟩, -, X7, ⟨Lc7, hQ7, l7, y7, z7⟩, st7⟩ := X5.virtualBack hx (y := (⟨"com/example/rowshape/rowshape/shape/SeenRows", "slot", "(I)I"⟩ : MethodName)) (z := (⟨"com/example/rowshape/rowshape/shape/SeenRows", "slot", "(I)I"⟩ : MethodName)) hown (mvT hZ (hw _ (List.mem_of_getElem? (i := 23) rfl))) (mvT hZ (hw _ (List.mem_of_getElem? (i := 24) rfl))) (notFace_of_selects (args := #[]) (mvT hZ (hw _ (List.mem_of_getElem? (i := 26) rfl)))) (mvT hZ (hw _ (List.mem_of_getElem? (i := 26) rfl))) (mvT hZ (hw _ (List.mem_of_getElem? (i := 25) rfl))) (by decide) (backOf (W := 0) (rm4 l Z a0 hw [] b1 (p2 &&& (536870911 : Int32)) ((p0 &&& (536870911 : Int32)) + (p1 &&& (536870911 : Int32))) T5.heap n0 Zs6 P5_0 P5_1 (Nat.le_trans Z0 (Nat.le_of_eq g1.symm))) hZ (hw _ (List.mem_of_getElem? (i := 27) rfl)) (hw _ (List.mem_of_getElem? (i := 3) rfl)) (by decide) (by decide)) q7a q7c (g := (mkF m 48 #[.val (.int p0), .val (.int p1), .val (.int p2), .val (.int p3), .val (.int (p0 &&& (536870911 : Int32))), .val (.int (p1 &&& (536870911 : Int32))), .val (.int (p2 &&& (536870911 : Int32))), .val (.int (p3 &&& (536870911 : Int32))), .val (.ref b1), .val (.int (p0 &&& (536870911 : Int32))), .unset, .unset] [(.int (p2 &&& (536870911 : Int32))), (.ref b1)])) rfl (by rw [hml]; rfl) (Steps.refl _) (argsL := [(.int (p2 &&& (536870911 : Int32)))]) (rest := []) (lenOf pd__I_I rfl) rfl (by show 2 * 0 + _ ≤ _; exact Nat.le_of_eq rfl) (hb hby at_48) (fun _ _ => ⟨rfl, rfl, (by decide : 2 + 0 ≤ _), (by decide : 11 + 0 ≤ _)⟩)
  dsimp only [Pt.U, Pt.locs, Pt.cells, Pt.slots] at X7 l7 y7 z7 st7 hQ7
  subst l7 y7 z7
  obtain ⟨rfl, N7q, K7, P7_0, P7_1⟩ := hQ7
  have N7 := Fr.app N5 N7q
  have Zs8 : n0 ≤ T7.heap.size := Nat.le_trans Zs6 K7.1
  refine own_go (b := (T7.setTop (mkF m 57 #[.val (.int p0), .val (.int p1), .val (.int p2), .val (.int p3), .val (.int (p0 &&& (536870911 : Int32))), .val (.int (p1 &&& (536870911 : Int32))), .val (.int (p2 &&& (536870911 : Int32))), .val (.int (p3 &&& (536870911 : Int32))), .val (.ref b1), .val (.int (p0 &&& (536870911 : Int32))), .val (.int ((p0 &&& (536870911 : Int32)) + (p1 &&& (536870911 : Int32)))), .unset] [(.int (p3 &&& (536870911 : Int32))), (.ref b1)]))) (fun _ k => st7.trans (XS.istore X7.here hx rfl (hb hby at_51) rfl (l' := #[.val (.int p0), .val (.int p1), .val (.int p2), .val (.int p3), .val (.int (p0 &&& (536870911 : Int32))), .val (.int (p1 &&& (536870911 : Int32))), .val (.int (p2 &&& (536870911 : Int32))), .val (.int (p3 &&& (536870911 : Int32))), .val (.ref b1), .val (.int (p0 &&& (536870911 : Int32))), .val (.int ((p0 &&& (536870911 : Int32)) + (p1 &&& (536870911 : Int32)))), .unset]) rfl (XS.aload X7.here hx rfl (hb hby at_53) rfl rfl (XS.iload X7.here hx rfl (hb hby at_55) rfl k)))) ?_
  obtain ⟨cq9, kq9, q9a, q9b, q9c⟩ := isOf hZ rfl P7_0
  obtain ⟨_, _, ⟨T9, L9, k9, n9⟩, -, X9, ⟨Lc9, hQ9, l9, y9, z9⟩, st9⟩ := X7.virtualBack hx (y := (⟨"com/example/rowshape/rowshape/shape/SeenRows", "slot", "(I)I"⟩ : MethodName)) (z := (⟨"com/example/rowshape/rowshape/shape/SeenRows", "slot", "(I)I"⟩ : MethodName)) hown (mvT hZ (hw _ (List.mem_of_getElem? (i := 23) rfl))) (mvT hZ (hw _ (List.mem_of_getElem? (i := 24) rfl))) (notFace_of_selects (args := #[]) (mvT hZ (hw _ (List.mem_of_getElem? (i := 26) rfl)))) (mvT hZ (hw _ (List.mem_of_getElem? (i := 26) rfl))) (mvT hZ (hw _ (List.mem_of_getElem? (i := 25) rfl))) (by decide) (backOf (W := 0) (rm4 l Z a0 hw [] b1 (p3 &&& (536870911 : Int32)) (((p0 &&& (536870911 : Int32)) + (p1 &&& (536870911 : Int32))) + (p2 &&& (536870911 : Int32))) T7.heap n0 Zs8 P7_0 P7_1 (Nat.le_trans Z0 (Nat.le_of_eq g1.symm))) hZ (hw _ (List.mem_of_getElem? (i := 27) rfl)) (hw _ (List.mem_of_getElem? (i := 3) rfl)) (by decide) (by decide)) q9a q9c (g := (mkF m 57 #[.val (.int p0), .val (.int p1), .val (.int p2), .val (.int p3), .val (.int (p0 &&& (536870911 : Int32))), .val (.int (p1 &&& (536870911 : Int32))), .val (.int (p2 &&& (536870911 : Int32))), .val (.int (p3 &&& (536870911 : Int32))), .val (.ref b1), .val (.int (p0 &&& (536870911 : Int32))), .val (.int ((p0 &&& (536870911 : Int32)) + (p1 &&& (536870911 : Int32)))), .unset] [(.int (p3 &&& (536870911 : Int32))), (.ref b1)])) rfl (by rw [hml]; rfl) (Steps.refl _) (argsL := [(.int (p3 &&& (536870911 : Int32)))]) (rest := []) (lenOf pd__I_I rfl) rfl (by show 2 * 0 + _ ≤ _; exact Nat.le_of_eq rfl) (hb hby at_57) (fun _ _ => ⟨rfl, rfl, (by decide : 2 + 0 ≤ _), (by decide : 11 + 0 ≤ _)⟩)
  dsimp only [Pt.U, Pt.locs, Pt.cells, Pt.slots] at X9 l9 y9 z9 st9 hQ9
  subst l9 y9 z9
  obtain ⟨rfl, N9q, K9, P9_0, P9_1⟩ := hQ9
  have N9 := Fr.app N7 N9q
  have Zs10 : n0 ≤ T9.heap.size := Nat.le_trans Zs8 K9.1
  refine own_go (b := (T9.setTop (mkF m 79 #[.val (.int p0), .val (.int p1), .val (.int p2), .val (.int p3), .val (.int (p0 &&& (536870911 : Int32))), .val (.int (p1 &&& (536870911 : Int32))), .val (.int (p2 &&& (536870911 : Int32))), .val (.int (p3 &&& (536870911 : Int32))), .val (.ref b1), .val (.int (p0 &&& (536870911 : Int32))), .val (.int ((p0 &&& (536870911 : Int32)) + (p1 &&& (536870911 : Int32)))), .val (.int (((p0 &&& (536870911 : Int32)) + (p1 &&& (536870911 : Int32))) + (p2 &&& (536870911 : Int32))))] []))) (fun _ k => st9.trans (XS.istore X9.here hx rfl (hb hby at_60) rfl (l' := #[.val (.int p0), .val (.int p1), .val (.int p2), .val (.int p3), .val (.int (p0 &&& (536870911 : Int32))), .val (.int (p1 &&& (536870911 : Int32))), .val (.int (p2 &&& (536870911 : Int32))), .val (.int (p3 &&& (536870911 : Int32))), .val (.ref b1), .val (.int (p0 &&& (536870911 : Int32))), .val (.int ((p0 &&& (536870911 : Int32)) + (p1 &&& (536870911 : Int32)))), .val (.int (((p0 &&& (536870911 : Int32)) + (p1 &&& (536870911 : Int32))) + (p2 &&& (536870911 : Int32))))]) rfl (XS.iload X9.here hx rfl (hb hby at_62) rfl (XS.iload X9.here hx rfl (hb hby at_64) rfl (XS.icmpNo X9.here hx rfl (hb hby at_66) rfl (teq (rfl : (p0 &&& (536870911 : Int32)) = (p0 &&& (536870911 : Int32)))).2 (XS.iload X9.here hx rfl (hb hby at_69) rfl (XS.iload X9.here hx rfl (hb hby at_71) rfl (XS.iload X9.here hx rfl (hb hby at_73) rfl (XS.iadd X9.here hx rfl (hb hby at_75) rfl (XS.icmpNo X9.here hx rfl (hb hby at_76) rfl (teq (rfl : ((p0 &&& (536870911 : Int32)) + (p1 &&& (536870911 : Int32))) = ((p0 &&& (536870911 : Int32)) + (p1 &&& (536870911 : Int32))))).2 k)))))))))) ?_
  refine own_go (b := (T9.setTop (mkF m 97 #[.val (.int p0), .val (.int p1), .val (.int p2), .val (.int p3), .val (.int (p0 &&& (536870911 : Int32))), .val (.int (p1 &&& (536870911 : Int32))), .val (.int (p2 &&& (536870911 : Int32))), .val (.int (p3 &&& (536870911 : Int32))), .val (.ref b1), .val (.int (p0 &&& (536870911 : Int32))), .val (.int ((p0 &&& (536870911 : Int32)) + (p1 &&& (536870911 : Int32)))), .val (.int (((p0 &&& (536870911 : Int32)) + (p1 &&& (536870911 : Int32))) + (p2 &&& (536870911 : Int32))))] [(.int (1 : Int32))]))) (fun _ k => XS.iload X9.here hx rfl (hb hby at_79) rfl (XS.iload X9.here hx rfl (hb hby at_81) rfl (XS.iload X9.here hx rfl (hb hby at_83) rfl (XS.iadd X9.here hx rfl (hb hby at_85) rfl (XS.iload X9.here hx rfl (hb hby at_86) rfl (XS.iadd X9.here hx rfl (hb hby at_88) rfl (XS.icmpNo X9.here hx rfl (hb hby at_89) rfl (teq (rfl : (((p0 &&& (536870911 : Int32)) + (p1 &&& (536870911 : Int32))) + (p2 &&& (536870911 : Int32))) = (((p0 &&& (536870911 : Int32)) + (p1 &&& (536870911 : Int32))) + (p2 &&& (536870911 : Int32))))).2 (XS.iconst X9.here hx rfl (hb hby at_92) (XS.goto X9.here hx rfl (pc0 := 93) (pc' := 97) rfl (hb hby at_93) (by decide) (by decide) k))))))))) ?_
  obtain ⟨fs, hr, hrun, hended, hW, hsame⟩ := X9.leave (v := some (.int (1 : Int32))) (fun h => by rw [Bd.returns] at h; cases h)
  exact ⟨_, _, retN X9 hx (t := .boolean) Bd.returns (by simp) (hb hby at_97) hr, hrun, hended, _, _, rfl, (show Qrm0 Z p0 p1 p2 p3 h0 n0 _ T9.heap _ from (by exact ⟨rfl, N9⟩)), ⟨_, rfl⟩, hW, hsame.mono (by decide) (by decide)⟩
set_option maxRecDepth 65536 in
set_option maxHeartbeats 40000000 in
theorem comes_1 {Post : Tables → Env → Array Value → State → Outcome → State → Prop} (hpost : ∀ tb e args s v u, (limb_1_1.after args s (.returned v) u = true ∧ limb_1_2.after args s (.returned v) u = true ∧ True) → FrameEnd s (.returned v) u (Jvm.fieldLocs frame_1_writes args s ++ Jvm.arrayLocs frame_1_arrays args s ++ Jvm.staticLocs frame_1_statics s) 16 128 → Post tb e args s (.returned v) u) :
    ArmFor flags0 classFile x code maxLocals ret World_1 tables_1 room_1 Calls_1 rest_1 Pre_1 Post := by
  intro l hfl _ _ p e ha hc hk s m args below hf hA hF happ hP
  obtain ⟨hcalls, hrest, hpre⟩ := hP
  obtain ⟨-, -, -, hnamed, -, -, -, hat⟩ := (Spec.applies_iff hf).mp happ
  obtain ⟨hg, hn⟩ := and_e (Cond.before_iff.mp (show (Jvm.Cond.and given_1 narrow_1).before args s = true from hpre))
  obtain ⟨gc0, gr0⟩ := and_e hg
  obtain ⟨gc1, gr1⟩ := and_e gr0
  obtain ⟨gc2, gr2⟩ := and_e gr1
  obtain ⟨gc3, gr3⟩ := and_e gr2
  obtain ⟨w0, w1, w2, w3, rfl⟩ : ∃ w0 w1 w2 w3 : Value, args = #[w0, w1, w2, w3] := by
    have hs : args.size = 4 := by simpa [Cond.value, given_1] using gc0
    obtain ⟨L⟩ := args
    match L, hs with
    | [w0, w1, w2, w3], _ => exact ⟨w0, w1, w2, w3, rfl⟩
  have hw := fun d (hd : d ∈ tables_1) => atoms_spec (ws := Jvm.Cond.code x code maxLocals ret :: tables_1) hat d (List.mem_cons_of_mem _ hd)
  have hfit : Fit s := fun {y c} hc i hi => by
    obtain ⟨ha, rfl⟩ := Array.getElem?_eq_some_iff.mp hc
    have q := List.all_eq_true.mp ((Array.all_eq_true_iff_forall_mem.mp hF) _ (Array.getElem_mem ha)) i (List.mem_range.mpr hi)
    simpa [Array.getElem?_eq_getElem hi] using q
  obtain ⟨i0, ei0⟩ := is_v gc1
  obtain rfl : w0 = (.int i0) := Option.some.inj ei0
  obtain ⟨i1, ei1⟩ := is_v gc2
  obtain rfl : w1 = (.int i1) := Option.some.inj ei1
  obtain ⟨i2, ei2⟩ := is_v gc3
  obtain rfl : w2 = (.int i2) := Option.some.inj ei2
  obtain ⟨i3, ei3⟩ := is_v gr3
  obtain rfl : w3 = (.int i3) := Option.some.inj ei3
  obtain ⟨n, o, h1, h2, h3, _, L, rfl, ⟨rfl, N⟩, hq⟩ := rm0 l s _ hw tables_1 i0 i1 i2 i3 s.heap s.heap.size (Nat.le_refl _) p e ha hc hk s m _ below hf ((Spec.applies_iff_loose hf).mp happ).1 ⟨rfl, State.Warmed39.refl s, rfl⟩ trivial
  refine ⟨n, _, h1, h2, h3, hpost _ _ _ _ _ _ ⟨Cond.after_iff.mpr rfl, Cond.after_iff.mpr (eq_i res_at (Term.int_eval (1)) rfl), trivial⟩ ⟨hq.1, hq.2.1, (hq.2.2.sift fun y hy => Or.inr (N y hy)).mono (by decide) (by decide)⟩⟩
theorem main_1_1 : Claimed_1_1 := comes_1 fun _ _ _ _ _ _ h hF => ⟨h.1, hF⟩
theorem main_1_2 : Claimed_1_2 := comes_1 fun _ _ _ _ _ _ h hF => ⟨h.2.1, hF⟩
end Jvm.Pilot.@@N@@
namespace Jvm.Pilot.@@N@@
open Jvm Jvm.ClassFile Sem Op Lib Jvm.Free Jvm.Stand Jvm.Pilot.@@N@@.Jvm.D
/-! MADE BY PROGRAM (witnessworld.py) out of the Statement's table words and the real class files: 10 classes; the members and pool entries that the words name. The judged class is class 1, her method 1. -/
namespace start1
open Jvm.ClassFile
def u (s : String) : CpInfo := .utf8 (stringToUtf16 s)
/-- a pool by its gaps: so many unusable entries, then the entry; so many at the end -/
def gap : Nat → List CpInfo → List CpInfo
  | 0, r => r
  | n + 1, r => .unusable :: gap n r
def poolList (es : List (Nat × CpInfo)) (last : Nat) : List CpInfo := es.foldr (fun e r => gap e.1 (e.2 :: r)) (gap last [])
def pool (es : List (Nat × CpInfo)) (last : Nat) : Array CpInfo := ⟨poolList es last⟩
def fileOf (pool : Array CpInfo) (this : Nat) (attrs : Array Attribute := #[]) (ms : Array MethodInfo := #[]) (fl : Nat := 33) (sup : Nat := 0) (ifs : Array Nat := #[]) (fds : Array FieldInfo := #[]) : ClassFile where
  minorVersion := 0
  majorVersion := 65
  constantPool := pool
  accessFlags := fl
  thisClass := this
  superClass := sup
  interfaces := ifs
  fields := fds
  methods := ms
  attributes := attrs
def plain (name : String) (sup : Option ClassId) : Class where
  name := name
  kind := .ordinary
  loader := none
  accessFlags := 33
  super := sup
  interfaces := #[]
  cf := none
  fields := #[]
  methods := #[]
  instanceTypes := #[]
  staticTypes := #[]
  resolved := #[]
  callSites := []
  init := .initialized
  statics := none
  mirror := none

def pool0 : Array CpInfo := pool [(5, u "<init>"), (0, u "()V"), (1, .class_ 10), (1, u "java/lang/Object")] 113

def k0c0 : Code := { maxStack := 0, maxLocals := 1, code := object_method_1_code, exceptionTable := #[], attributes := #[] }
def k0m0 : Method := { name := "<init>", desc := "()V", sig := { parameters := [], returnType := none }, accessFlags := 1, code := some k0c0 }
/-- java/lang/Object -/
def k0 : Class := { plain "java/lang/Object" none with
  accessFlags := 33
  interfaces := #[]
  cf := some (fileOf pool0 8 #[] #[{ accessFlags := 1, nameIndex := 5, descriptorIndex := 6, attributes := #[] }] 33 0 #[] #[])
  fields := #[]
  methods := #[k0m0]
  instanceTypes := #[]
  staticTypes := #[]
  resolved := Array.replicate 124 none
  statics := none }

def pool1 : Array CpInfo := pool [(2, .class_ 4), (1, u "java/lang/Object"), (0, u "<init>"), (0, u "()V"), (0, .integer 536870911), (0, .class_ 9), (0, u "com/example/rowshape/rowshape/shape/SeenRows"), (0, .methodref 8 11), (0, .nameAndType 5 12), (0, u "(I)V"), (0, .methodref 8 14), (0, .nameAndType 15 16), (0, u "slot"), (0, u "(I)I"), (0, .class_ 18), (0, u "com/example/rowshape/rowshape/shape/SeenRowsSlotPinLaw"), (2, u "law"), (0, u "(IIII)Z")] 3

def k1m0 : Method := { name := "<init>", desc := "()V", sig := { parameters := [], returnType := none }, accessFlags := 1, code := none }
def k1c1 : Code := { maxStack := 3, maxLocals := 12, code := code, exceptionTable := #[], attributes := #[] }
def k1m1 : Method := { name := "law", desc := "(IIII)Z", sig := { parameters := [.int, .int, .int, .int], returnType := some .boolean }, accessFlags := 9, code := some k1c1 }
/-- com/example/rowshape/rowshape/shape/SeenRowsSlotPinLaw -/
def k1 : Class := { plain "com/example/rowshape/rowshape/shape/SeenRowsSlotPinLaw" (some 0) with
  accessFlags := 49
  interfaces := #[]
  cf := some (fileOf pool1 17 #[] #[{ accessFlags := 1, nameIndex := 5, descriptorIndex := 6, attributes := #[] }, { accessFlags := 9, nameIndex := 21, descriptorIndex := 22, attributes := #[] }] 49 2 #[] #[])
  fields := #[]
  methods := #[k1m0, k1m1]
  instanceTypes := #[]
  staticTypes := #[]
  resolved := Array.replicate 26 none
  statics := none }

def pool2 : Array CpInfo := pool [(1, .methodref 2 3), (0, .class_ 4), (0, .nameAndType 5 6), (0, u "java/lang/Object"), (0, u "<init>"), (0, u "()V"), (0, .class_ 8), (0, u "com/example/rowshape/rowshape/shape/ByKey"), (0, .methodref 7 3), (0, .fieldref 11 12), (0, .class_ 13), (0, .nameAndType 14 15), (0, u "com/example/rowshape/rowshape/shape/SeenRows"), (0, u "seen"), (0, u "Lcom/example/rowshape/rowshape/shape/ByKey;"), (0, .fieldref 11 17), (0, .nameAndType 18 19), (0, u "width"), (0, u "I"), (2, u "keys"), (0, u "[Ljava/lang/Object;"), (8, u "valuesOnly"), (0, u "Ljava/lang/String;"), (2, u "rows"), (27, u "(I)V"), (2, u "slot"), (0, u "(I)I")] 6

def k2c0 : Code := { maxStack := 3, maxLocals := 2, code := prog_21_method_1_code, exceptionTable := #[], attributes := #[] }
def k2m0 : Method := { name := "<init>", desc := "(I)V", sig := { parameters := [.int], returnType := none }, accessFlags := 0, code := some k2c0 }
def k2c1 : Code := { maxStack := 3, maxLocals := 3, code := prog_21_method_2_code, exceptionTable := #[], attributes := #[] }
def k2m1 : Method := { name := "slot", desc := "(I)I", sig := { parameters := [.int], returnType := some .int }, accessFlags := 0, code := some k2c1 }
/-- com/example/rowshape/rowshape/shape/SeenRows -/
def k2 : Class := { plain "com/example/rowshape/rowshape/shape/SeenRows" (some 0) with
  accessFlags := 48
  interfaces := #[]
  cf := some (fileOf pool2 11 #[] #[{ accessFlags := 0, nameIndex := 5, descriptorIndex := 64, attributes := #[] }, { accessFlags := 0, nameIndex := 67, descriptorIndex := 68, attributes := #[] }] 48 2 #[] #[{ accessFlags := 18, nameIndex := 14, descriptorIndex := 15, attributes := #[] }, { accessFlags := 2, nameIndex := 18, descriptorIndex := 19, attributes := #[] }, { accessFlags := 2, nameIndex := 22, descriptorIndex := 23, attributes := #[] }, { accessFlags := 2, nameIndex := 32, descriptorIndex := 33, attributes := #[] }, { accessFlags := 2, nameIndex := 36, descriptorIndex := 19, attributes := #[] }])
  fields := #[{ name := "seen", type := (.object "com/example/rowshape/rowshape/shape/ByKey"), accessFlags := 18, slot := 0, constantValue := 0 }, { name := "width", type := .int, accessFlags := 2, slot := 1, constantValue := 0 }, { name := "keys", type := (.array (.object "java/lang/Object")), accessFlags := 2, slot := 2, constantValue := 0 }, { name := "valuesOnly", type := (.object "java/lang/String"), accessFlags := 2, slot := 3, constantValue := 0 }, { name := "rows", type := .int, accessFlags := 2, slot := 4, constantValue := 0 }]
  methods := #[k2m0, k2m1]
  instanceTypes := #[(.object "com/example/rowshape/rowshape/shape/ByKey"), .int, (.array (.object "java/lang/Object")), (.object "java/lang/String"), .int]
  staticTypes := #[]
  resolved := Array.replicate 75 none
  statics := none }

def pool3 : Array CpInfo := pool [(3, .methodref 4 5), (0, .class_ 6), (0, .nameAndType 7 8), (0, u "java/lang/Object"), (0, u "<init>"), (0, u "()V"), (0, .fieldref 10 11), (0, .class_ 12), (0, .nameAndType 13 14), (0, u "com/example/rowshape/rowshape/shape/ByKey"), (0, u "last"), (0, u "I"), (2, u "keys"), (0, u "[[Ljava/lang/Object;"), (6, u "members"), (0, u "[Ljava/lang/Object;"), (2, u "size"), (2, u "hashes"), (0, u "[I"), (36, u "slots"), (47, u "FIRST_ROOM"), (2, u "UNORDERED"), (0, u "GOLDEN")] 14

def k3c0 : Code := { maxStack := 2, maxLocals := 1, code := prog_11_method_1_code, exceptionTable := #[], attributes := #[] }
def k3m0 : Method := { name := "<init>", desc := "()V", sig := { parameters := [], returnType := none }, accessFlags := 0, code := some k3c0 }
/-- com/example/rowshape/rowshape/shape/ByKey -/
def k3 : Class := { plain "com/example/rowshape/rowshape/shape/ByKey" (some 0) with
  accessFlags := 48
  interfaces := #[]
  cf := some (fileOf pool3 10 #[] #[{ accessFlags := 0, nameIndex := 7, descriptorIndex := 8, attributes := #[] }] 48 4 #[] #[{ accessFlags := 26, nameIndex := 118, descriptorIndex := 14, attributes := #[] }, { accessFlags := 26, nameIndex := 121, descriptorIndex := 14, attributes := #[] }, { accessFlags := 26, nameIndex := 122, descriptorIndex := 14, attributes := #[] }, { accessFlags := 2, nameIndex := 17, descriptorIndex := 18, attributes := #[] }, { accessFlags := 2, nameIndex := 25, descriptorIndex := 26, attributes := #[] }, { accessFlags := 2, nameIndex := 29, descriptorIndex := 14, attributes := #[] }, { accessFlags := 2, nameIndex := 13, descriptorIndex := 14, attributes := #[] }, { accessFlags := 2, nameIndex := 32, descriptorIndex := 33, attributes := #[] }, { accessFlags := 2, nameIndex := 70, descriptorIndex := 33, attributes := #[] }])
  fields := #[{ name := "FIRST_ROOM", type := .int, accessFlags := 26, slot := 0, constantValue := 0 }, { name := "UNORDERED", type := .int, accessFlags := 26, slot := 1, constantValue := 0 }, { name := "GOLDEN", type := .int, accessFlags := 26, slot := 2, constantValue := 0 }, { name := "keys", type := (.array (.array (.object "java/lang/Object"))), accessFlags := 2, slot := 0, constantValue := 0 }, { name := "members", type := (.array (.object "java/lang/Object")), accessFlags := 2, slot := 1, constantValue := 0 }, { name := "size", type := .int, accessFlags := 2, slot := 2, constantValue := 0 }, { name := "last", type := .int, accessFlags := 2, slot := 3, constantValue := 0 }, { name := "hashes", type := (.array .int), accessFlags := 2, slot := 4, constantValue := 0 }, { name := "slots", type := (.array .int), accessFlags := 2, slot := 5, constantValue := 0 }]
  methods := #[k3m0]
  instanceTypes := #[(.array (.array (.object "java/lang/Object"))), (.array (.object "java/lang/Object")), .int, .int, (.array .int), (.array .int)]
  staticTypes := #[.int, .int, .int]
  resolved := Array.replicate 137 none
  statics := none }

def pool4 : Array CpInfo := pool [(1, u "java/lang/Cloneable"), (0, .class_ 1), (0, u "java/lang/Object"), (0, .class_ 3)] 3

/-- java/lang/Cloneable -/
def k4 : Class := { plain "java/lang/Cloneable" (some 0) with
  accessFlags := 1537
  interfaces := #[]
  cf := some (fileOf pool4 2 #[] #[] 1537 4 #[] #[])
  fields := #[]
  methods := #[]
  instanceTypes := #[]
  staticTypes := #[]
  resolved := Array.replicate 8 none
  statics := none }

def pool5 : Array CpInfo := pool [(1, u "java/io/Serializable"), (0, .class_ 1), (0, u "java/lang/Object"), (0, .class_ 3)] 3

/-- java/io/Serializable -/
def k5 : Class := { plain "java/io/Serializable" (some 0) with
  accessFlags := 1537
  interfaces := #[]
  cf := some (fileOf pool5 2 #[] #[] 1537 4 #[] #[])
  fields := #[]
  methods := #[]
  instanceTypes := #[]
  staticTypes := #[]
  resolved := Array.replicate 8 none
  statics := none }

/-- the primitive byte -/
def k6 : Class := { plain "byte" none with kind := .primitive 'B', accessFlags := 0x411 }
/-- [B -/
def k7 : Class := { plain "[B" (some 0) with kind := .array 6 .byte, interfaces := #[4, 5], accessFlags := 1041 }

/-- the primitive int -/
def k8 : Class := { plain "int" none with kind := .primitive 'I', accessFlags := 0x411 }
/-- [I -/
def k9 : Class := { plain "[I" (some 0) with kind := .array 8 .int, interfaces := #[4, 5], accessFlags := 1041 }

def heap : Heap := #[]
def classes : Array Class := #[k0, k1, k2, k3, k4, k5, k6, k7, k8, k9]
def interned : List (Array UInt16 × Addr) := []
def slotsUsed : Nat := 0
def theMethod : MethodId := ⟨1, 1⟩
def args0 : Array Value := #[.int 5, .int 6, .int 7, .int 8]
def aboutOver (below : List Frame) : State where
  vm := { classes := classes, interned := interned.toArray }
  heap := heap
  slotsUsed := slotsUsed
  threads := #[{ frames := .invoking theMethod args0 :: below }]
def below0 : List Frame := [.native { method := ⟨0, 0⟩, args := #[] }]
def about1 : State := aboutOver below0
def p0 : Program := .bare "" "" ""
def e0 : Env := launch0.env 0 0 0
theorem w_frames : about1.frames = Frame.invoking theMethod args0 :: below0 := rfl
set_option maxRecDepth 65536 in
theorem w_args : argsFit about1.vm theMethod args0 = true := by decide +kernel
set_option maxRecDepth 65536 in
theorem w_heap : heapFits about1 = true := by decide +kernel
set_option maxRecDepth 65536 in
theorem w_runnable : about1.curStatus? = some .runnable := by decide +kernel
set_option maxRecDepth 65536 in
theorem w_alone : about1.alone = true := by decide +kernel
set_option maxRecDepth 65536 in
theorem w_named : about1.methodNamed? x = some theMethod := by decide +kernel
set_option maxRecDepth 65536 in
theorem w_hears : about1.hears theMethod below0 = true := by decide +kernel
set_option maxRecDepth 65536 in
theorem w_ripe : about1.ripe theMethod args0 below0 = true := by decide +kernel
theorem w_running : about1.status = .running := rfl
set_option maxRecDepth 65536 in
theorem w_room : about1.hasRoom e0.platform room_1 = true :=
  launch0.hasRoom_least _ room_1 (by decide +kernel) (by decide +kernel) (by decide +kernel) (by decide +kernel) (by decide +kernel) (by decide +kernel)
theorem allAtoms_all (ts : List Jvm.Cond) (a : Array Jvm.Value) (st : Jvm.State) : (allAtoms ts).before a st = ts.all (fun c => c.before a st) := by
  induction ts with
  | nil => rfl
  | cons c t ih =>
    show (Jvm.Cond.and c (allAtoms t)).before a st = _
    rw [Jvm.Cond.before_and, ih, List.all_cons]
def words1 : List Jvm.Cond := Jvm.Cond.code x code maxLocals ret :: tables_1
/-- a 'code' word, met by the world's own term for the bytes: nothing is compared byte by byte -/
theorem code_word {y : MethodName} {bytes : ByteArray} {mx : Nat} {rt : Option FieldType} {a : Array Value} {s : State} {m : MethodId} {meth : Method} {c : Code} (h1 : s.methodNamed? y = some m) (h2 : s.vm.method? m = some meth) (h3 : meth.code = some c) (h4 : c.code = bytes)
    (h5 : (c.maxLocals == mx && c.exceptionTable.isEmpty && decide (c.maxStack ≤ mostOperands) && decide (meth.sig.returnType = rt) && !meth.locks && decide (parseMethodDescriptor y.desc = some meth.sig)) = true) : (Jvm.Cond.code y bytes mx rt).before a s = true := by
  simp only [Bool.and_eq_true, beq_iff_eq, Bool.not_eq_true', decide_eq_true_eq] at h5
  obtain ⟨⟨⟨⟨⟨g1, g2⟩, g3⟩, g4⟩, g5⟩, g6⟩ := h5
  simp [Cond.before, Cond.holds, Cond.value, h1, h2, h3, h4, g1, g2, g3, g4, g5, g6]
def isCode : Jvm.Cond → Bool
  | .code _ _ _ _ => true
  | _ => false
theorem all_split {L : List Jvm.Cond} {P : Jvm.Cond → Bool} (h1 : L.all (fun c => isCode c || P c) = true) (h2 : ∀ c ∈ L.filter isCode, P c = true) : L.all P = true := by
  refine List.all_eq_true.mpr fun c hc => ?_
  have h := List.all_eq_true.mp h1 c hc
  rcases Bool.eq_false_or_eq_true (isCode c) with hi | hi
  · exact h2 c (List.mem_filter.mpr ⟨hc, hi⟩)
  · simpa [hi] using h
set_option maxRecDepth 65536 in
theorem w_c0 : (Jvm.Cond.code x code maxLocals ret).before args0 about1 = true := code_word (m := ⟨1, 1⟩) (meth := k1m1) (c := k1c1) (by decide +kernel) rfl rfl rfl (by decide +kernel)
set_option maxRecDepth 65536 in
theorem w_c1 : (Jvm.Cond.code ({ cls := "com/example/rowshape/rowshape/shape/SeenRows", name := "<init>", desc := "(I)V" } : Jvm.MethodName) prog_21_method_1_code (2 : Nat) (Option.none : Option Jvm.ClassFile.FieldType)).before args0 about1 = true := code_word (m := ⟨2, 0⟩) (meth := k2m0) (c := k2c0) (by decide +kernel) rfl rfl rfl (by decide +kernel)
set_option maxRecDepth 65536 in
theorem w_c2 : (Jvm.Cond.code ({ cls := "java/lang/Object", name := "<init>", desc := "()V" } : Jvm.MethodName) object_method_1_code (1 : Nat) (Option.none : Option Jvm.ClassFile.FieldType)).before args0 about1 = true := code_word (m := ⟨0, 0⟩) (meth := k0m0) (c := k0c0) (by decide +kernel) rfl rfl rfl (by decide +kernel)
set_option maxRecDepth 65536 in
theorem w_c3 : (Jvm.Cond.code ({ cls := "com/example/rowshape/rowshape/shape/ByKey", name := "<init>", desc := "()V" } : Jvm.MethodName) prog_11_method_1_code (1 : Nat) (Option.none : Option Jvm.ClassFile.FieldType)).before args0 about1 = true := code_word (m := ⟨3, 0⟩) (meth := k3m0) (c := k3c0) (by decide +kernel) rfl rfl rfl (by decide +kernel)
set_option maxRecDepth 65536 in
theorem w_c4 : (Jvm.Cond.code ({ cls := "com/example/rowshape/rowshape/shape/SeenRows", name := "slot", desc := "(I)I" } : Jvm.MethodName) prog_21_method_2_code (3 : Nat) (Option.some Jvm.ClassFile.FieldType.int)).before args0 about1 = true := code_word (m := ⟨2, 1⟩) (meth := k2m1) (c := k2c1) (by decide +kernel) rfl rfl rfl (by decide +kernel)
def codes1 : List Jvm.Cond := [Jvm.Cond.code x code maxLocals ret, Jvm.Cond.code ({ cls := "com/example/rowshape/rowshape/shape/SeenRows", name := "<init>", desc := "(I)V" } : Jvm.MethodName) prog_21_method_1_code (2 : Nat) (Option.none : Option Jvm.ClassFile.FieldType), Jvm.Cond.code ({ cls := "java/lang/Object", name := "<init>", desc := "()V" } : Jvm.MethodName) object_method_1_code (1 : Nat) (Option.none : Option Jvm.ClassFile.FieldType), Jvm.Cond.code ({ cls := "com/example/rowshape/rowshape/shape/ByKey", name := "<init>", desc := "()V" } : Jvm.MethodName) prog_11_method_1_code (1 : Nat) (Option.none : Option Jvm.ClassFile.FieldType), Jvm.Cond.code ({ cls := "com/example/rowshape/rowshape/shape/SeenRows", name := "slot", desc := "(I)I" } : Jvm.MethodName) prog_21_method_2_code (3 : Nat) (Option.some Jvm.ClassFile.FieldType.int)]
set_option maxRecDepth 65536 in
theorem codes_eq : words1.filter isCode = codes1 := rfl
theorem w_codes : ∀ c ∈ words1.filter isCode, c.before args0 about1 = true := by
  rw [codes_eq]
  intro c hc
  simp only [codes1, List.mem_cons, List.not_mem_nil, or_false] at hc
  rcases hc with rfl | rfl | rfl | rfl | rfl
  · exact w_c0
  · exact w_c1
  · exact w_c2
  · exact w_c3
  · exact w_c4
set_option maxRecDepth 65536 in
theorem w_t1 : (words1.take 24).all (fun c => isCode c || c.before args0 about1) = true := by decide +kernel
set_option maxRecDepth 65536 in
theorem w_t2 : (words1.drop 24).all (fun c => isCode c || c.before args0 about1) = true := by decide +kernel
theorem w_tables : (allAtoms (Jvm.Cond.code x code maxLocals ret :: tables_1)).before args0 about1 = true := by
  rw [allAtoms_all]
  show words1.all (fun c => c.before args0 about1) = true
  refine all_split ?_ w_codes
  rw [← List.take_append_drop 24 words1, List.all_append, w_t1, w_t2]
  rfl
set_option maxRecDepth 65536 in
theorem w_case : (Jvm.Cond.and given_1 narrow_1).before args0 about1 = true := by decide +kernel
theorem w_applies : (headSpec (Jvm.Cond.code x code maxLocals ret :: tables_1) room_1).applies x e0.platform about1 = true :=
  (Spec.applies_iff w_frames).mpr ⟨w_running, w_runnable, w_alone, w_named, w_hears, w_ripe, w_room, w_tables⟩
theorem atStart : AtStart classFile x code maxLocals ret World_1 tables_1 room_1 Calls_1 rest_1 Pre_1 launch0 p0 e0 about1 theMethod args0 below0 :=
  ⟨lists_1, trivial, launch0.admits_env _ _ _, launch0.least_env, fairChoices_fair.cas, fairChoices_fair.clock, w_frames, w_args, w_heap, w_applies, trivial, trivial, w_case⟩
end start1
theorem witness_1 : WitnessClaimed_1 := ⟨start1.p0, start1.e0, start1.about1, start1.theMethod, start1.args0, start1.below0, start1.atStart⟩
end Jvm.Pilot.@@N@@
