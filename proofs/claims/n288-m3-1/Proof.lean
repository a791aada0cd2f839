import JvmDerived
import JvmDerived.Pilot.@@N@@Statement
import JvmDerived.Pilot.@@N@@Code
set_option linter.unusedVariables false
set_option linter.unusedSimpArgs false
@@BLOCK:NumsL.lean.txt@@
namespace Jvm.RoadKit
open Sem ClassFile Op Lib Jvm.Stand Jvm.Free Jvm.LawKit
/-- a step taken in front of a run that ends well -/
theorem own_go {tb : Tables} {e : Env} {below : List Frame} {a b : State} {P : State → Outcome → Prop} (h : ∀ target, Steps tb e below b target → Steps tb e below a target) (k : ∃ t o, Steps tb e below b t ∧ P t o) : ∃ t o, Steps tb e below a t ∧ P t o := by
  obtain ⟨t, o, h1, h2⟩ := k
  exact ⟨t, o, h _ h1, h2⟩
/-- several roads meet -/
theorem own_join {A : Type} {C : A → Prop} {tb : Tables} {e : Env} {below : List Frame} {P : State → Outcome → Prop} {f : A → State} {a : State} (body : ∀ x, C x → ∃ t o, Steps tb e below (f x) t ∧ P t o)
    (use : (∀ x, C x → ∃ t o, Steps tb e below (f x) t ∧ P t o) → ∃ t o, Steps tb e below a t ∧ P t o) : ∃ t o, Steps tb e below a t ∧ P t o := use body
/-- a field of an object of the start that the case fixes as an int -/
theorem own_fint {args : Array Value} {s : State} {t : Term} {C n d : String} {k : Int32} {x : Addr} (h : (Jvm.Cond.eq (Term.field t C n d) (Term.int k)).value args s none s [] = some true) (ht : t.eval args s none [] s = some (.ref x)) : Fld s s.heap x C n d (.int k) := by
  obtain ⟨u, v, h1, h2, h3, h4⟩ := cmp_v (Or.inl h)
  have e2 : v = .int k := by rw [Term.int_eval] at h2; exact (Option.some.inj h2).symm
  subst e2
  obtain ⟨z, rfl⟩ : ∃ z, u = .int z := h4
  have q := gotT (Cond.eq_ints h1 h2) h
  subst q
  exact Fld.start (by rw [← fld_at (C := C) (n := n) (dd := d) ht]; exact h1)
end Jvm.RoadKit
namespace Jvm.Pilot.@@N@@
open Jvm Jvm.ClassFile Sem Op Lib Jvm.Free Jvm.Stand Jvm.LawKit Jvm.RoadKit Bundle Jvm.Pilot.@@N@@.Jvm.D
def own_h0 (o : Int32) : Int32 := if o = 0 then 1 else 0
def own_h1 (o : Int32) : Int32 := if o = 0 then 0 else 1
def own_h2 (o : Int32) : Int32 := if o < 0 then 1 else 0
def own_h3 (o : Int32) : Int32 := if 0 < o then 0 else 1
def own_h4 (o : Int32) : Int32 := if 0 < o then 1 else 0
def own_h5 (o : Int32) : Int32 := if o < 0 then 0 else 1
theorem own_mod6 (x : Int32) : (x &&& 2147483647) % 6 = 0 ∨ (x &&& 2147483647) % 6 = 1 ∨ (x &&& 2147483647) % 6 = 2 ∨ (x &&& 2147483647) % 6 = 3 ∨ (x &&& 2147483647) % 6 = 4 ∨ (x &&& 2147483647) % 6 = 5 := by
  have e1 : (x &&& 2147483647).toInt = x.toInt % 2 ^ 31 := Jvm.Kit.i32_mask x 2147483647 (k := 31) (by decide) (by decide)
  have e2 : ((x &&& 2147483647) % 6).toInt = (x &&& 2147483647).toInt % (6 : Int32).toInt := Jvm.Kit.i32_rem_nonneg (by omega)
  have e3 : (6 : Int32).toInt = 6 := by decide
  rw [e3] at e2
  have e0 : (0 : Int32).toInt = 0 := by decide
  have e4 : (1 : Int32).toInt = 1 := by decide
  have e5 : (2 : Int32).toInt = 2 := by decide
  have e6 : (3 : Int32).toInt = 3 := by decide
  have e7 : (4 : Int32).toInt = 4 := by decide
  have e8 : (5 : Int32).toInt = 5 := by decide
  simp only [← Int32.toInt_inj]
  omega
def own_sign (x y : Int32) : Int32 := if x < y then -1 else if x = y then 0 else 1
theorem own_tri (a y : Int32) : (own_sign y a = -1 ∧ own_sign a y = 1) ∨ (own_sign y a = 0 ∧ own_sign a y = 0) ∨ (own_sign y a = 1 ∧ own_sign a y = -1) := by
  unfold own_sign
  have e : ∀ u v : Int32, (u = v) = (u.toInt = v.toInt) := fun u v => propext Int32.toInt_inj.symm
  simp only [Int32.lt_iff_toInt_lt, e y a, e a y]
  rcases Int.lt_trichotomy a.toInt y.toInt with h | h | h
  · right; right
    have h1 : ¬ y.toInt < a.toInt := by omega
    have h2 : ¬ y.toInt = a.toInt := by omega
    simp [h, h1, h2]
  · right; left
    simp [h]
  · left
    have h1 : ¬ a.toInt < y.toInt := by omega
    have h2 : ¬ a.toInt = y.toInt := by omega
    simp [h, h1, h2]
theorem own_rv0 (a y : Int32) : own_h0 (own_sign y a) = own_h0 (own_sign a y) := by
  rcases own_tri a y with ⟨h1, h2⟩ | ⟨h1, h2⟩ | ⟨h1, h2⟩ <;> rw [h1, h2] <;> decide
theorem own_rv1 (a y : Int32) : own_h1 (own_sign y a) = own_h1 (own_sign a y) := by
  rcases own_tri a y with ⟨h1, h2⟩ | ⟨h1, h2⟩ | ⟨h1, h2⟩ <;> rw [h1, h2] <;> decide
theorem own_rv2 (a y : Int32) : own_h4 (own_sign y a) = own_h2 (own_sign a y) := by
  rcases own_tri a y with ⟨h1, h2⟩ | ⟨h1, h2⟩ | ⟨h1, h2⟩ <;> rw [h1, h2] <;> decide
theorem own_rv3 (a y : Int32) : own_h5 (own_sign y a) = own_h3 (own_sign a y) := by
  rcases own_tri a y with ⟨h1, h2⟩ | ⟨h1, h2⟩ | ⟨h1, h2⟩ <;> rw [h1, h2] <;> decide
theorem own_rv4 (a y : Int32) : own_h2 (own_sign y a) = own_h4 (own_sign a y) := by
  rcases own_tri a y with ⟨h1, h2⟩ | ⟨h1, h2⟩ | ⟨h1, h2⟩ <;> rw [h1, h2] <;> decide
theorem own_rv5 (a y : Int32) : own_h3 (own_sign y a) = own_h5 (own_sign a y) := by
  rcases own_tri a y with ⟨h1, h2⟩ | ⟨h1, h2⟩ | ⟨h1, h2⟩ <;> rw [h1, h2] <;> decide
theorem d3_0 : decode jdk_37_method_2_code 0 = .ok (.aload_n 0, 1) := by decide +kernel
theorem d3_1 : decode jdk_37_method_2_code 1 = .ok (.getfield 7, 3) := by decide +kernel
theorem d3_4 : decode jdk_37_method_2_code 4 = .ok (.ireturn, 1) := by decide +kernel
theorem pn_3 : plainName "java/lang/Enum" = true := by first | (simp [plainName, overriddenIn]; done) | decide +kernel
theorem ef_rmord (m : MethodId) (x0 : Addr) : entryFrame m #[(.ref x0)] 1 = mkF m 0 #[.val (.ref x0)] [] := by first | (simp [entryFrame, mkF, argsToLocals, Value.category]; done) | rfl
def Qrmord (Z : State) (a1 : Addr) (kk : Int32) (h0 : Heap) (n0 : Nat) (v : Option Value) (h : Heap) (L : List Loc) : Prop := v = some (.int kk) ∧ Fr n0 L ∧ h = h0
set_option maxRecDepth 65536 in
set_option maxHeartbeats 40000000 in
theorem rmord (l : Launch) (Z : State) (a0 : Array Value) (hw : ∀ d ∈ tables_1, d.before a0 Z = true) (ws : List Jvm.Cond) (a1 : Addr) (kk : Int32) (h0 : Heap) (n0 : Nat) (Z0 : n0 ≤ h0.size) (O0 : Old Z n0 h0) (Fld0_a1_ordinal : Fld Z Z.heap a1 "java/lang/Enum" "ordinal" "I" (.int kk)) :
    MetFree l (⟨"java/lang/Enum", "ordinal", "()I"⟩ : MethodName) (head1 (Jvm.Cond.code (⟨"java/lang/Enum", "ordinal", "()I"⟩ : MethodName) jdk_37_method_2_code 1 (some .int) :: ws) ({ frames := 0, cells := 0, slots := 0, locals := 0 } : Room)) (fun a U => a = #[(.ref a1)] ∧ Z.Warmed39 U.vm ∧ U.heap = h0) (fun _ _ _ _ _ => True) (fun _ U o U' => ∃ v L, o = .returned v ∧ Qrmord Z a1 kk h0 n0 v U'.heap L ∧ FrameEnd U o U' L ({ frames := 0, cells := 0, slots := 0, locals := 0 } : Room).cells ({ frames := 0, cells := 0, slots := 0, locals := 0 } : Room).slots) := by
  refine MetFree.of_bodySF (plainFor_of_name pn_3) hisR ?_
  intro p e s m args below meth c s₁ Bd hml0 hP hK
  obtain ⟨rfl, hZ, hh⟩ := hP
  have hx := Bd.exec
  have hby := Bd.bytes
  have hml : c.maxLocals = 1 := hml0
  have hown : s.vm.findClass "java/lang/Enum" = some m.cls := findClass_of_methodNamed Bd.named
  have hnm := (name_of_methodNamed Bd.named Bd.method).1
  have X0 : Stand p l e ({ frames := 0, cells := 0, slots := 0, locals := 0 } : Room) s m #[(.ref a1)] below meth c s₁ [] 0 0 := Stand.of_body Bd
  have e0 : s₁.heap = h0 := by rw [← hh, Bd.state]; rfl
  have N0 := Fr.nil n0
  refine own_go (b := (s₁.setTop (mkF m 0 #[.val (.ref a1)] []))) (fun _ k => castTop (ef_rmord m a1) k) ?_
  refine own_go (b := (s₁.setTop (mkF m 1 #[.val (.ref a1)] [(.ref a1)]))) (fun _ k => XS.aloadN X0.here hx rfl (hb hby d3_0) rfl rfl k) ?_
  obtain ⟨T1, X1, e1, st1⟩ := getF X0 hx hZ hown (host := "") (Or.inl (hw _ (List.mem_of_getElem? (i := 20) rfl))) Via.refl e0 (Fld0_a1_ordinal.ext O0.2) (g := (mkF m 1 #[.val (.ref a1)] [(.ref a1)])) rfl rfl (hb hby d3_1)
  refine own_go (b := (T1.setTop (mkF m 4 #[.val (.ref a1)] [(.int kk)]))) (fun _ k => st1 _ k) ?_
  obtain ⟨fs, hr, hrun, hended, hW, hsame⟩ := X1.leave (v := some (.int kk)) (fun h => by rw [Bd.returns] at h; cases h)
  exact ⟨_, _, retOut X1 hx Bd.returns rfl (Or.inl ⟨rfl, Or.inl rfl, _, rfl⟩) (hb hby d3_4) hr, hrun, hended, _, _, rfl, (show Qrmord Z a1 kk h0 n0 _ T1.heap _ from (by rw [e1]; exact ⟨rfl, N0, rfl⟩)), ⟨_, rfl⟩, hW, hsame.mono (by decide) (by decide)⟩
theorem d5_0 : decode prog_24_method_7_code 0 = .ok (.aload_n 0, 1) := by decide +kernel
theorem d5_1 : decode prog_24_method_7_code 1 = .ok (.invokevirtual 48, 3) := by decide +kernel
theorem d5_4 : decode prog_24_method_7_code 4 = .ok (.tableswitch 86 0 4 #[36, 46, 56, 66, 76], 36) := by decide +kernel
theorem d5_40 : decode prog_24_method_7_code 40 = .ok (.iload_n 1, 1) := by decide +kernel
theorem d5_41 : decode prog_24_method_7_code 41 = .ok (.ifCond .ne 7, 3) := by decide +kernel
theorem d5_44 : decode prog_24_method_7_code 44 = .ok (.iconst 1, 1) := by decide +kernel
theorem d5_45 : decode prog_24_method_7_code 45 = .ok (.goto 4, 3) := by decide +kernel
theorem d5_48 : decode prog_24_method_7_code 48 = .ok (.iconst 0, 1) := by decide +kernel
theorem d5_49 : decode prog_24_method_7_code 49 = .ok (.ireturn, 1) := by decide +kernel
theorem d5_50 : decode prog_24_method_7_code 50 = .ok (.iload_n 1, 1) := by decide +kernel
theorem d5_51 : decode prog_24_method_7_code 51 = .ok (.ifCond .eq 7, 3) := by decide +kernel
theorem d5_54 : decode prog_24_method_7_code 54 = .ok (.iconst 1, 1) := by decide +kernel
theorem d5_55 : decode prog_24_method_7_code 55 = .ok (.goto 4, 3) := by decide +kernel
theorem d5_58 : decode prog_24_method_7_code 58 = .ok (.iconst 0, 1) := by decide +kernel
theorem d5_59 : decode prog_24_method_7_code 59 = .ok (.ireturn, 1) := by decide +kernel
theorem d5_60 : decode prog_24_method_7_code 60 = .ok (.iload_n 1, 1) := by decide +kernel
theorem d5_61 : decode prog_24_method_7_code 61 = .ok (.ifCond .ge 7, 3) := by decide +kernel
theorem d5_64 : decode prog_24_method_7_code 64 = .ok (.iconst 1, 1) := by decide +kernel
theorem d5_65 : decode prog_24_method_7_code 65 = .ok (.goto 4, 3) := by decide +kernel
theorem d5_68 : decode prog_24_method_7_code 68 = .ok (.iconst 0, 1) := by decide +kernel
theorem d5_69 : decode prog_24_method_7_code 69 = .ok (.ireturn, 1) := by decide +kernel
theorem d5_70 : decode prog_24_method_7_code 70 = .ok (.iload_n 1, 1) := by decide +kernel
theorem d5_71 : decode prog_24_method_7_code 71 = .ok (.ifCond .gt 7, 3) := by decide +kernel
theorem d5_74 : decode prog_24_method_7_code 74 = .ok (.iconst 1, 1) := by decide +kernel
theorem d5_75 : decode prog_24_method_7_code 75 = .ok (.goto 4, 3) := by decide +kernel
theorem d5_78 : decode prog_24_method_7_code 78 = .ok (.iconst 0, 1) := by decide +kernel
theorem d5_79 : decode prog_24_method_7_code 79 = .ok (.ireturn, 1) := by decide +kernel
theorem d5_80 : decode prog_24_method_7_code 80 = .ok (.iload_n 1, 1) := by decide +kernel
theorem d5_81 : decode prog_24_method_7_code 81 = .ok (.ifCond .le 7, 3) := by decide +kernel
theorem d5_84 : decode prog_24_method_7_code 84 = .ok (.iconst 1, 1) := by decide +kernel
theorem d5_85 : decode prog_24_method_7_code 85 = .ok (.goto 4, 3) := by decide +kernel
theorem d5_88 : decode prog_24_method_7_code 88 = .ok (.iconst 0, 1) := by decide +kernel
theorem d5_89 : decode prog_24_method_7_code 89 = .ok (.ireturn, 1) := by decide +kernel
theorem d5_90 : decode prog_24_method_7_code 90 = .ok (.iload_n 1, 1) := by decide +kernel
theorem d5_91 : decode prog_24_method_7_code 91 = .ok (.ifCond .lt 7, 3) := by decide +kernel
theorem d5_94 : decode prog_24_method_7_code 94 = .ok (.iconst 1, 1) := by decide +kernel
theorem d5_95 : decode prog_24_method_7_code 95 = .ok (.goto 4, 3) := by decide +kernel
theorem d5_98 : decode prog_24_method_7_code 98 = .ok (.iconst 0, 1) := by decide +kernel
theorem d5_99 : decode prog_24_method_7_code 99 = .ok (.ireturn, 1) := by decide +kernel
theorem pd___I : parseMethodDescriptor "()I" = some ⟨[], some .int⟩ := by decide +kernel
theorem pn_5 : plainName "com/example/urd/urd/functions/ComparisonOperator" = true := by first | (simp [plainName, overriddenIn]; done) | decide +kernel
theorem ef_rmh0 (m : MethodId) (x0 : Addr) (x1 : Int32) : entryFrame m #[(.ref x0), (.int x1)] 2 = mkF m 0 #[.val (.ref x0), .val (.int x1)] [] := by first | (simp [entryFrame, mkF, argsToLocals, Value.category]; done) | rfl
def Qrmh0 (Z : State) (a1 : Addr) (p2 : Int32) (h0 : Heap) (n0 : Nat) (v : Option Value) (h : Heap) (L : List Loc) : Prop := v = some (.int (own_h0 p2)) ∧ Fr n0 L ∧ h = h0
set_option maxRecDepth 65536 in
set_option maxHeartbeats 40000000 in
theorem rmh0 (l : Launch) (Z : State) (a0 : Array Value) (hw : ∀ d ∈ tables_1, d.before a0 Z = true) (ws : List Jvm.Cond) (a1 : Addr) (p2 : Int32) (h0 : Heap) (n0 : Nat) (Z0 : n0 ≤ h0.size) (O0 : Old Z n0 h0) (EZ_a1 : Exa Z Z.heap a1 "com/example/urd/urd/functions/ComparisonOperator") (Fld0_a1_ordinal : Fld Z Z.heap a1 "java/lang/Enum" "ordinal" "I" (.int (0 : Int32))) :
    MetFree l (⟨"com/example/urd/urd/functions/ComparisonOperator", "holds", "(I)Z"⟩ : MethodName) (head1 (Jvm.Cond.code (⟨"com/example/urd/urd/functions/ComparisonOperator", "holds", "(I)Z"⟩ : MethodName) prog_24_method_7_code 2 (some .boolean) :: ws) ({ frames := 1, cells := 0, slots := 0, locals := 12 } : Room)) (fun a U => a = #[(.ref a1), (.int p2)] ∧ Z.Warmed39 U.vm ∧ U.heap = h0) (fun _ _ _ _ _ => True) (fun _ U o U' => ∃ v L, o = .returned v ∧ Qrmh0 Z a1 p2 h0 n0 v U'.heap L ∧ FrameEnd U o U' L ({ frames := 1, cells := 0, slots := 0, locals := 12 } : Room).cells ({ frames := 1, cells := 0, slots := 0, locals := 12 } : Room).slots) := by
  refine MetFree.of_bodySF (plainFor_of_name pn_5) hisR ?_
  intro p e s m args below meth c s₁ Bd hml0 hP hK
  obtain ⟨rfl, hZ, hh⟩ := hP
  have hx := Bd.exec
  have hby := Bd.bytes
  have hml : c.maxLocals = 2 := hml0
  have hown : s.vm.findClass "com/example/urd/urd/functions/ComparisonOperator" = some m.cls := findClass_of_methodNamed Bd.named
  have hnm := (name_of_methodNamed Bd.named Bd.method).1
  have X0 : Stand p l e ({ frames := 1, cells := 0, slots := 0, locals := 12 } : Room) s m #[(.ref a1), (.int p2)] below meth c s₁ [] 0 0 := Stand.of_body Bd
  have e0 : s₁.heap = h0 := by rw [← hh, Bd.state]; rfl
  have N0 := Fr.nil n0
  refine own_go (b := (s₁.setTop (mkF m 0 #[.val (.ref a1), .val (.int p2)] []))) (fun _ k => castTop (ef_rmh0 m a1 p2) k) ?_
  refine own_go (b := (s₁.setTop (mkF m 1 #[.val (.ref a1), .val (.int p2)] [(.ref a1)]))) (fun _ k => XS.aloadN X0.here hx rfl (hb hby d5_0) rfl rfl k) ?_
  obtain ⟨cq1, kq1, q1a, q1b, q1c⟩ := isOf hZ e0 (EZ_a1.ext O0.2)
  obtain ⟨_, _, ⟨T1, L1, k1, n1⟩, -, X1, ⟨Lc1, hQ1, l1, y1, z1⟩, st1⟩ := X0.virtualBackUp hx (owner := "java/lang/Enum") (x := (⟨"com/example/urd/urd/functions/ComparisonOperator", "ordinal", "()I"⟩ : MethodName)) (y := (⟨"java/lang/Enum", "ordinal", "()I"⟩ : MethodName)) hown (mvT hZ (hw _ (List.mem_of_getElem? (i := 13) rfl))) (mvT hZ (hw _ (List.mem_of_getElem? (i := 14) rfl))) (mvT hZ (hw _ (List.mem_of_getElem? (i := 15) rfl))) (by decide) (mvT hZ (hw _ (List.mem_of_getElem? (i := 17) rfl))) (mvT hZ (hw _ (List.mem_of_getElem? (i := 16) rfl))) (backOf (W := 0) (rmord l Z a0 hw [] a1 (0 : Int32) h0 n0 Z0 O0 Fld0_a1_ordinal) hZ (hw _ (List.mem_of_getElem? (i := 19) rfl)) (hw _ (List.mem_of_getElem? (i := 18) rfl)) (by decide) (by decide)) q1a q1c (g := (mkF m 1 #[.val (.ref a1), .val (.int p2)] [(.ref a1)])) rfl (by rw [hml]; rfl) (Steps.refl _) (argsL := []) (rest := []) (lenOf pd___I rfl) rfl (by show 2 * 0 + _ ≤ _; exact Nat.le_of_eq rfl) (hb hby d5_1) (fun _ _ => ⟨rfl, e0, (by decide : 0 + 0 ≤ _), (by decide : 0 + 0 ≤ _)⟩)
  dsimp only [Pt.U, Pt.locs, Pt.cells, Pt.slots] at X1 l1 y1 z1 st1 hQ1
  subst l1 y1 z1
  obtain ⟨rfl, N1q, eh1⟩ := hQ1
  have N1 := Fr.app N0 N1q
  refine own_go (b := (T1.setTop (mkF m 41 #[.val (.ref a1), .val (.int p2)] [(.int p2)]))) (fun _ k => st1.trans (XS.tswIn X1.here hx rfl (pc0 := 4) (pc' := 40) rfl (hb hby d5_4) (i := (0 : Int32)) rfl (by decide) (o := 36) (by decide) (by decide) (by decide) (XS.iloadN X1.here hx rfl (hb hby d5_40) rfl k))) ?_
  by_cases hc41_2 : p2 = (0 : Int32)
  · skip
    refine own_go (b := (T1.setTop (mkF m 49 #[.val (.ref a1), .val (.int p2)] [(.int (1 : Int32))]))) (fun _ k => XS.ifNo X1.here hx rfl (hb hby d5_41) rfl ((if0 _ _).trans (teq hc41_2).2) (XS.iconst X1.here hx rfl (hb hby d5_44) (XS.goto X1.here hx rfl (pc0 := 45) (pc' := 49) rfl (hb hby d5_45) (by decide) (by decide) k))) ?_
    obtain ⟨fs, hr, hrun, hended, hW, hsame⟩ := X1.leave (v := some (.int (1 : Int32))) (fun h => by rw [Bd.returns] at h; cases h)
    exact ⟨_, _, retN X1 hx (t := .boolean) Bd.returns (by simp) (hb hby d5_49) hr, hrun, hended, _, _, rfl, (show Qrmh0 Z a1 p2 h0 n0 _ T1.heap _ from (by rw [eh1]; exact ⟨(by simp [own_h0, hc41_2]), N1, rfl⟩)), ⟨_, rfl⟩, hW, hsame.mono (by decide) (by decide)⟩
  · skip
    refine own_go (b := (T1.setTop (mkF m 49 #[.val (.ref a1), .val (.int p2)] [(.int (0 : Int32))]))) (fun _ k => XS.ifYes X1.here hx rfl (pc0 := 41) (pc' := 48) rfl (hb hby d5_41) rfl ((if0 _ _).trans (feq hc41_2).2) (by decide) (by decide) (XS.iconst X1.here hx rfl (hb hby d5_48) k)) ?_
    obtain ⟨fs, hr, hrun, hended, hW, hsame⟩ := X1.leave (v := some (.int (0 : Int32))) (fun h => by rw [Bd.returns] at h; cases h)
    exact ⟨_, _, retN X1 hx (t := .boolean) Bd.returns (by simp) (hb hby d5_49) hr, hrun, hended, _, _, rfl, (show Qrmh0 Z a1 p2 h0 n0 _ T1.heap _ from (by rw [eh1]; exact ⟨(by simp [own_h0, hc41_2]), N1, rfl⟩)), ⟨_, rfl⟩, hW, hsame.mono (by decide) (by decide)⟩
theorem ef_rmh1 (m : MethodId) (x0 : Addr) (x1 : Int32) : entryFrame m #[(.ref x0), (.int x1)] 2 = mkF m 0 #[.val (.ref x0), .val (.int x1)] [] := by first | (simp [entryFrame, mkF, argsToLocals, Value.category]; done) | rfl
def Qrmh1 (Z : State) (a1 : Addr) (p2 : Int32) (h0 : Heap) (n0 : Nat) (v : Option Value) (h : Heap) (L : List Loc) : Prop := v = some (.int (own_h1 p2)) ∧ Fr n0 L ∧ h = h0
set_option maxRecDepth 65536 in
set_option maxHeartbeats 40000000 in
theorem rmh1 (l : Launch) (Z : State) (a0 : Array Value) (hw : ∀ d ∈ tables_1, d.before a0 Z = true) (ws : List Jvm.Cond) (a1 : Addr) (p2 : Int32) (h0 : Heap) (n0 : Nat) (Z0 : n0 ≤ h0.size) (O0 : Old Z n0 h0) (EZ_a1 : Exa Z Z.heap a1 "com/example/urd/urd/functions/ComparisonOperator") (Fld0_a1_ordinal : Fld Z Z.heap a1 "java/lang/Enum" "ordinal" "I" (.int (1 : Int32))) :
    MetFree l (⟨"com/example/urd/urd/functions/ComparisonOperator", "holds", "(I)Z"⟩ : MethodName) (head1 (Jvm.Cond.code (⟨"com/example/urd/urd/functions/ComparisonOperator", "holds", "(I)Z"⟩ : MethodName) prog_24_method_7_code 2 (some .boolean) :: ws) ({ frames := 1, cells := 0, slots := 0, locals := 12 } : Room)) (fun a U => a = #[(.ref a1), (.int p2)] ∧ Z.Warmed39 U.vm ∧ U.heap = h0) (fun _ _ _ _ _ => True) (fun _ U o U' => ∃ v L, o = .returned v ∧ Qrmh1 Z a1 p2 h0 n0 v U'.heap L ∧ FrameEnd U o U' L ({ frames := 1, cells := 0, slots := 0, locals := 12 } : Room).cells ({ frames := 1, cells := 0, slots := 0, locals := 12 } : Room).slots) := by
  refine MetFree.of_bodySF (plainFor_of_name pn_5) hisR ?_
  intro p e s m args below meth c s₁ Bd hml0 hP hK
  obtain ⟨rfl, hZ, hh⟩ := hP
  have hx := Bd.exec
  have hby := Bd.bytes
  have hml : c.maxLocals = 2 := hml0
  have hown : s.vm.findClass "com/example/urd/urd/functions/ComparisonOperator" = some m.cls := findClass_of_methodNamed Bd.named
  have hnm := (name_of_methodNamed Bd.named Bd.method).1
  have X0 : Stand p l e ({ frames := 1, cells := 0, slots := 0, locals := 12 } : Room) s m #[(.ref a1), (.int p2)] below meth c s₁ [] 0 0 := Stand.of_body Bd
  have e0 : s₁.heap = h0 := by rw [← hh, Bd.state]; rfl
  have N0 := Fr.nil n0
  refine own_go (b := (s₁.setTop (mkF m 0 #[.val (.ref a1), .val (.int p2)] []))) (fun _ k => castTop (ef_rmh1 m a1 p2) k) ?_
  refine own_go (b := (s₁.setTop (mkF m 1 #[.val (.ref a1), .val (.int p2)] [(.ref a1)]))) (fun _ k => XS.aloadN X0.here hx rfl (hb hby d5_0) rfl rfl k) ?_
  obtain ⟨cq1, kq1, q1a, q1b, q1c⟩ := isOf hZ e0 (EZ_a1.ext O0.2)
  obtain ⟨_, _, ⟨T1, L1, k1, n1⟩, -, X1, ⟨Lc1, hQ1, l1, y1, z1⟩, st1⟩ := X0.virtualBackUp hx (owner := "java/lang/Enum") (x := (⟨"com/example/urd/urd/functions/ComparisonOperator", "ordinal", "()I"⟩ : MethodName)) (y := (⟨"java/lang/Enum", "ordinal", "()I"⟩ : MethodName)) hown (mvT hZ (hw _ (List.mem_of_getElem? (i := 13) rfl))) (mvT hZ (hw _ (List.mem_of_getElem? (i := 14) rfl))) (mvT hZ (hw _ (List.mem_of_getElem? (i := 15) rfl))) (by decide) (mvT hZ (hw _ (List.mem_of_getElem? (i := 17) rfl))) (mvT hZ (hw _ (List.mem_of_getElem? (i := 16) rfl))) (backOf (W := 0) (rmord l Z a0 hw [] a1 (1 : Int32) h0 n0 Z0 O0 Fld0_a1_ordinal) hZ (hw _ (List.mem_of_getElem? (i := 19) rfl)) (hw _ (List.mem_of_getElem? (i := 18) rfl)) (by decide) (by decide)) q1a q1c (g := (mkF m 1 #[.val (.ref a1), .val (.int p2)] [(.ref a1)])) rfl (by rw [hml]; rfl) (Steps.refl _) (argsL := []) (rest := []) (lenOf pd___I rfl) rfl (by show 2 * 0 + _ ≤ _; exact Nat.le_of_eq rfl) (hb hby d5_1) (fun _ _ => ⟨rfl, e0, (by decide : 0 + 0 ≤ _), (by decide : 0 + 0 ≤ _)⟩)
  dsimp only [Pt.U, Pt.locs, Pt.cells, Pt.slots] at X1 l1 y1 z1 st1 hQ1
  subst l1 y1 z1
  obtain ⟨rfl, N1q, eh1⟩ := hQ1
  have N1 := Fr.app N0 N1q
  refine own_go (b := (T1.setTop (mkF m 51 #[.val (.ref a1), .val (.int p2)] [(.int p2)]))) (fun _ k => st1.trans (XS.tswIn X1.here hx rfl (pc0 := 4) (pc' := 50) rfl (hb hby d5_4) (i := (1 : Int32)) rfl (by decide) (o := 46) (by decide) (by decide) (by decide) (XS.iloadN X1.here hx rfl (hb hby d5_50) rfl k))) ?_
  by_cases hc51_2 : p2 = (0 : Int32)
  · skip
    refine own_go (b := (T1.setTop (mkF m 59 #[.val (.ref a1), .val (.int p2)] [(.int (0 : Int32))]))) (fun _ k => XS.ifYes X1.here hx rfl (pc0 := 51) (pc' := 58) rfl (hb hby d5_51) rfl ((if0 _ _).trans (teq hc51_2).1) (by decide) (by decide) (XS.iconst X1.here hx rfl (hb hby d5_58) k)) ?_
    obtain ⟨fs, hr, hrun, hended, hW, hsame⟩ := X1.leave (v := some (.int (0 : Int32))) (fun h => by rw [Bd.returns] at h; cases h)
    exact ⟨_, _, retN X1 hx (t := .boolean) Bd.returns (by simp) (hb hby d5_59) hr, hrun, hended, _, _, rfl, (show Qrmh1 Z a1 p2 h0 n0 _ T1.heap _ from (by rw [eh1]; exact ⟨(by simp [own_h1, hc51_2]), N1, rfl⟩)), ⟨_, rfl⟩, hW, hsame.mono (by decide) (by decide)⟩
  · skip
    refine own_go (b := (T1.setTop (mkF m 59 #[.val (.ref a1), .val (.int p2)] [(.int (1 : Int32))]))) (fun _ k => XS.ifNo X1.here hx rfl (hb hby d5_51) rfl ((if0 _ _).trans (feq hc51_2).1) (XS.iconst X1.here hx rfl (hb hby d5_54) (XS.goto X1.here hx rfl (pc0 := 55) (pc' := 59) rfl (hb hby d5_55) (by decide) (by decide) k))) ?_
    obtain ⟨fs, hr, hrun, hended, hW, hsame⟩ := X1.leave (v := some (.int (1 : Int32))) (fun h => by rw [Bd.returns] at h; cases h)
    exact ⟨_, _, retN X1 hx (t := .boolean) Bd.returns (by simp) (hb hby d5_59) hr, hrun, hended, _, _, rfl, (show Qrmh1 Z a1 p2 h0 n0 _ T1.heap _ from (by rw [eh1]; exact ⟨(by simp [own_h1, hc51_2]), N1, rfl⟩)), ⟨_, rfl⟩, hW, hsame.mono (by decide) (by decide)⟩
theorem ef_rmh2 (m : MethodId) (x0 : Addr) (x1 : Int32) : entryFrame m #[(.ref x0), (.int x1)] 2 = mkF m 0 #[.val (.ref x0), .val (.int x1)] [] := by first | (simp [entryFrame, mkF, argsToLocals, Value.category]; done) | rfl
def Qrmh2 (Z : State) (a1 : Addr) (p2 : Int32) (h0 : Heap) (n0 : Nat) (v : Option Value) (h : Heap) (L : List Loc) : Prop := v = some (.int (own_h2 p2)) ∧ Fr n0 L ∧ h = h0
set_option maxRecDepth 65536 in
set_option maxHeartbeats 40000000 in
theorem rmh2 (l : Launch) (Z : State) (a0 : Array Value) (hw : ∀ d ∈ tables_1, d.before a0 Z = true) (ws : List Jvm.Cond) (a1 : Addr) (p2 : Int32) (h0 : Heap) (n0 : Nat) (Z0 : n0 ≤ h0.size) (O0 : Old Z n0 h0) (EZ_a1 : Exa Z Z.heap a1 "com/example/urd/urd/functions/ComparisonOperator") (Fld0_a1_ordinal : Fld Z Z.heap a1 "java/lang/Enum" "ordinal" "I" (.int (2 : Int32))) :
    MetFree l (⟨"com/example/urd/urd/functions/ComparisonOperator", "holds", "(I)Z"⟩ : MethodName) (head1 (Jvm.Cond.code (⟨"com/example/urd/urd/functions/ComparisonOperator", "holds", "(I)Z"⟩ : MethodName) prog_24_method_7_code 2 (some .boolean) :: ws) ({ frames := 1, cells := 0, slots := 0, locals := 12 } : Room)) (fun a U => a = #[(.ref a1), (.int p2)] ∧ Z.Warmed39 U.vm ∧ U.heap = h0) (fun _ _ _ _ _ => True) (fun _ U o U' => ∃ v L, o = .returned v ∧ Qrmh2 Z a1 p2 h0 n0 v U'.heap L ∧ FrameEnd U o U' L ({ frames := 1, cells := 0, slots := 0, locals := 12 } : Room).cells ({ frames := 1, cells := 0, slots := 0, locals := 12 } : Room).slots) := by
  refine MetFree.of_bodySF (plainFor_of_name pn_5) hisR ?_
  intro p e s m args below meth c s₁ Bd hml0 hP hK
  obtain ⟨rfl, hZ, hh⟩ := hP
  have hx := Bd.exec
  have hby := Bd.bytes
  have hml : c.maxLocals = 2 := hml0
  have hown : s.vm.findClass "com/example/urd/urd/functions/ComparisonOperator" = some m.cls := findClass_of_methodNamed Bd.named
  have hnm := (name_of_methodNamed Bd.named Bd.method).1
  have X0 : Stand p l e ({ frames := 1, cells := 0, slots := 0, locals := 12 } : Room) s m #[(.ref a1), (.int p2)] below meth c s₁ [] 0 0 := Stand.of_body Bd
  have e0 : s₁.heap = h0 := by rw [← hh, Bd.state]; rfl
  have N0 := Fr.nil n0
  refine own_go (b := (s₁.setTop (mkF m 0 #[.val (.ref a1), .val (.int p2)] []))) (fun _ k => castTop (ef_rmh2 m a1 p2) k) ?_
  refine own_go (b := (s₁.setTop (mkF m 1 #[.val (.ref a1), .val (.int p2)] [(.ref a1)]))) (fun _ k => XS.aloadN X0.here hx rfl (hb hby d5_0) rfl rfl k) ?_
  obtain ⟨cq1, kq1, q1a, q1b, q1c⟩ := isOf hZ e0 (EZ_a1.ext O0.2)
  obtain ⟨_, _, ⟨T1, L1, k1, n1⟩, -, X1, ⟨Lc1, hQ1, l1, y1, z1⟩, st1⟩ := X0.virtualBackUp hx (owner := "java/lang/Enum") (x := (⟨"com/example/urd/urd/functions/ComparisonOperator", "ordinal", "()I"⟩ : MethodName)) (y := (⟨"java/lang/Enum", "ordinal", "()I"⟩ : MethodName)) hown (mvT hZ (hw _ (List.mem_of_getElem? (i := 13) rfl))) (mvT hZ (hw _ (List.mem_of_getElem? (i := 14) rfl))) (mvT hZ (hw _ (List.mem_of_getElem? (i := 15) rfl))) (by decide) (mvT hZ (hw _ (List.mem_of_getElem? (i := 17) rfl))) (mvT hZ (hw _ (List.mem_of_getElem? (i := 16) rfl))) (backOf (W := 0) (rmord l Z a0 hw [] a1 (2 : Int32) h0 n0 Z0 O0 Fld0_a1_ordinal) hZ (hw _ (List.mem_of_getElem? (i := 19) rfl)) (hw _ (List.mem_of_getElem? (i := 18) rfl)) (by decide) (by decide)) q1a q1c (g := (mkF m 1 #[.val (.ref a1), .val (.int p2)] [(.ref a1)])) rfl (by rw [hml]; rfl) (Steps.refl _) (argsL := []) (rest := []) (lenOf pd___I rfl) rfl (by show 2 * 0 + _ ≤ _; exact Nat.le_of_eq rfl) (hb hby d5_1) (fun _ _ => ⟨rfl, e0, (by decide : 0 + 0 ≤ _), (by decide : 0 + 0 ≤ _)⟩)
  dsimp only [Pt.U, Pt.locs, Pt.cells, Pt.slots] at X1 l1 y1 z1 st1 hQ1
  subst l1 y1 z1
  obtain ⟨rfl, N1q, eh1⟩ := hQ1
  have N1 := Fr.app N0 N1q
  refine own_go (b := (T1.setTop (mkF m 61 #[.val (.ref a1), .val (.int p2)] [(.int p2)]))) (fun _ k => st1.trans (XS.tswIn X1.here hx rfl (pc0 := 4) (pc' := 60) rfl (hb hby d5_4) (i := (2 : Int32)) rfl (by decide) (o := 56) (by decide) (by decide) (by decide) (XS.iloadN X1.here hx rfl (hb hby d5_60) rfl k))) ?_
  by_cases hc61_2 : p2 < (0 : Int32)
  · skip
    refine own_go (b := (T1.setTop (mkF m 69 #[.val (.ref a1), .val (.int p2)] [(.int (1 : Int32))]))) (fun _ k => XS.ifNo X1.here hx rfl (hb hby d5_61) rfl ((if0 _ _).trans (tlt hc61_2).2.1) (XS.iconst X1.here hx rfl (hb hby d5_64) (XS.goto X1.here hx rfl (pc0 := 65) (pc' := 69) rfl (hb hby d5_65) (by decide) (by decide) k))) ?_
    obtain ⟨fs, hr, hrun, hended, hW, hsame⟩ := X1.leave (v := some (.int (1 : Int32))) (fun h => by rw [Bd.returns] at h; cases h)
    exact ⟨_, _, retN X1 hx (t := .boolean) Bd.returns (by simp) (hb hby d5_69) hr, hrun, hended, _, _, rfl, (show Qrmh2 Z a1 p2 h0 n0 _ T1.heap _ from (by rw [eh1]; exact ⟨(by simp [own_h2, hc61_2]), N1, rfl⟩)), ⟨_, rfl⟩, hW, hsame.mono (by decide) (by decide)⟩
  · skip
    refine own_go (b := (T1.setTop (mkF m 69 #[.val (.ref a1), .val (.int p2)] [(.int (0 : Int32))]))) (fun _ k => XS.ifYes X1.here hx rfl (pc0 := 61) (pc' := 68) rfl (hb hby d5_61) rfl ((if0 _ _).trans (flt hc61_2).2.1) (by decide) (by decide) (XS.iconst X1.here hx rfl (hb hby d5_68) k)) ?_
    obtain ⟨fs, hr, hrun, hended, hW, hsame⟩ := X1.leave (v := some (.int (0 : Int32))) (fun h => by rw [Bd.returns] at h; cases h)
    exact ⟨_, _, retN X1 hx (t := .boolean) Bd.returns (by simp) (hb hby d5_69) hr, hrun, hended, _, _, rfl, (show Qrmh2 Z a1 p2 h0 n0 _ T1.heap _ from (by rw [eh1]; exact ⟨(by simp [own_h2, hc61_2]), N1, rfl⟩)), ⟨_, rfl⟩, hW, hsame.mono (by decide) (by decide)⟩
theorem ef_rmh3 (m : MethodId) (x0 : Addr) (x1 : Int32) : entryFrame m #[(.ref x0), (.int x1)] 2 = mkF m 0 #[.val (.ref x0), .val (.int x1)] [] := by first | (simp [entryFrame, mkF, argsToLocals, Value.category]; done) | rfl
def Qrmh3 (Z : State) (a1 : Addr) (p2 : Int32) (h0 : Heap) (n0 : Nat) (v : Option Value) (h : Heap) (L : List Loc) : Prop := v = some (.int (own_h3 p2)) ∧ Fr n0 L ∧ h = h0
set_option maxRecDepth 65536 in
set_option maxHeartbeats 40000000 in
theorem rmh3 (l : Launch) (Z : State) (a0 : Array Value) (hw : ∀ d ∈ tables_1, d.before a0 Z = true) (ws : List Jvm.Cond) (a1 : Addr) (p2 : Int32) (h0 : Heap) (n0 : Nat) (Z0 : n0 ≤ h0.size) (O0 : Old Z n0 h0) (EZ_a1 : Exa Z Z.heap a1 "com/example/urd/urd/functions/ComparisonOperator") (Fld0_a1_ordinal : Fld Z Z.heap a1 "java/lang/Enum" "ordinal" "I" (.int (3 : Int32))) :
    MetFree l (⟨"com/example/urd/urd/functions/ComparisonOperator", "holds", "(I)Z"⟩ : MethodName) (head1 (Jvm.Cond.code (⟨"com/example/urd/urd/functions/ComparisonOperator", "holds", "(I)Z"⟩ : MethodName) prog_24_method_7_code 2 (some .boolean) :: ws) ({ frames := 1, cells := 0, slots := 0, locals := 12 } : Room)) (fun a U => a = #[(.ref a1), (.int p2)] ∧ Z.Warmed39 U.vm ∧ U.heap = h0) (fun _ _ _ _ _ => True) (fun _ U o U' => ∃ v L, o = .returned v ∧ Qrmh3 Z a1 p2 h0 n0 v U'.heap L ∧ FrameEnd U o U' L ({ frames := 1, cells := 0, slots := 0, locals := 12 } : Room).cells ({ frames := 1, cells := 0, slots := 0, locals := 12 } : Room).slots) := by
  refine MetFree.of_bodySF (plainFor_of_name pn_5) hisR ?_
  intro p e s m args below meth c s₁ Bd hml0 hP hK
  obtain ⟨rfl, hZ, hh⟩ := hP
  have hx := Bd.exec
  have hby := Bd.bytes
  have hml : c.maxLocals = 2 := hml0
  have hown : s.vm.findClass "com/example/urd/urd/functions/ComparisonOperator" = some m.cls := findClass_of_methodNamed Bd.named
  have hnm := (name_of_methodNamed Bd.named Bd.method).1
  have X0 : Stand p l e ({ frames := 1, cells := 0, slots := 0, locals := 12 } : Room) s m #[(.ref a1), (.int p2)] below meth c s₁ [] 0 0 := Stand.of_body Bd
  have e0 : s₁.heap = h0 := by rw [← hh, Bd.state]; rfl
  have N0 := Fr.nil n0
  refine own_go (b := (s₁.setTop (mkF m 0 #[.val (.ref a1), .val (.int p2)] []))) (fun _ k => castTop (ef_rmh3 m a1 p2) k) ?_
  refine own_go (b := (s₁.setTop (mkF m 1 #[.val (.ref a1), .val (.int p2)] [(.ref a1)]))) (fun _ k => XS.aloadN X0.here hx rfl (hb hby d5_0) rfl rfl k) ?_
  obtain ⟨cq1, kq1, q1a, q1b, q1c⟩ := isOf hZ e0 (EZ_a1.ext O0.2)
  obtain ⟨_, _, ⟨T1, L1, k1, n1⟩, -, X1, ⟨Lc1, hQ1, l1, y1, z1⟩, st1⟩ := X0.virtualBackUp hx (owner := "java/lang/Enum") (x := (⟨"com/example/urd/urd/functions/ComparisonOperator", "ordinal", "()I"⟩ : MethodName)) (y := (⟨"java/lang/Enum", "ordinal", "()I"⟩ : MethodName)) hown (mvT hZ (hw _ (List.mem_of_getElem? (i := 13) rfl))) (mvT hZ (hw _ (List.mem_of_getElem? (i := 14) rfl))) (mvT hZ (hw _ (List.mem_of_getElem? (i := 15) rfl))) (by decide) (mvT hZ (hw _ (List.mem_of_getElem? (i := 17) rfl))) (mvT hZ (hw _ (List.mem_of_getElem? (i := 16) rfl))) (backOf (W := 0) (rmord l Z a0 hw [] a1 (3 : Int32) h0 n0 Z0 O0 Fld0_a1_ordinal) hZ (hw _ (List.mem_of_getElem? (i := 19) rfl)) (hw _ (List.mem_of_getElem? (i := 18) rfl)) (by decide) (by decide)) q1a q1c (g := (mkF m 1 #[.val (.ref a1), .val (.int p2)] [(.ref a1)])) rfl (by rw [hml]; rfl) (Steps.refl _) (argsL := []) (rest := []) (lenOf pd___I rfl) rfl (by show 2 * 0 + _ ≤ _; exact Nat.le_of_eq rfl) (hb hby d5_1) (fun _ _ => ⟨rfl, e0, (by decide : 0 + 0 ≤ _), (by decide : 0 + 0 ≤ _)⟩)
  dsimp only [Pt.U, Pt.locs, Pt.cells, Pt.slots] at X1 l1 y1 z1 st1 hQ1
  subst l1 y1 z1
  obtain ⟨rfl, N1q, eh1⟩ := hQ1
  have N1 := Fr.app N0 N1q
  refine own_go (b := (T1.setTop (mkF m 71 #[.val (.ref a1), .val (.int p2)] [(.int p2)]))) (fun _ k => st1.trans (XS.tswIn X1.here hx rfl (pc0 := 4) (pc' := 70) rfl (hb hby d5_4) (i := (3 : Int32)) rfl (by decide) (o := 66) (by decide) (by decide) (by decide) (XS.iloadN X1.here hx rfl (hb hby d5_70) rfl k))) ?_
  by_cases hc71_2 : (0 : Int32) < p2
  · skip
    refine own_go (b := (T1.setTop (mkF m 79 #[.val (.ref a1), .val (.int p2)] [(.int (0 : Int32))]))) (fun _ k => XS.ifYes X1.here hx rfl (pc0 := 71) (pc' := 78) rfl (hb hby d5_71) rfl ((if0 _ _).trans (tlt hc71_2).2.2.1) (by decide) (by decide) (XS.iconst X1.here hx rfl (hb hby d5_78) k)) ?_
    obtain ⟨fs, hr, hrun, hended, hW, hsame⟩ := X1.leave (v := some (.int (0 : Int32))) (fun h => by rw [Bd.returns] at h; cases h)
    exact ⟨_, _, retN X1 hx (t := .boolean) Bd.returns (by simp) (hb hby d5_79) hr, hrun, hended, _, _, rfl, (show Qrmh3 Z a1 p2 h0 n0 _ T1.heap _ from (by rw [eh1]; exact ⟨(by simp [own_h3, hc71_2]), N1, rfl⟩)), ⟨_, rfl⟩, hW, hsame.mono (by decide) (by decide)⟩
  · skip
    refine own_go (b := (T1.setTop (mkF m 79 #[.val (.ref a1), .val (.int p2)] [(.int (1 : Int32))]))) (fun _ k => XS.ifNo X1.here hx rfl (hb hby d5_71) rfl ((if0 _ _).trans (flt hc71_2).2.2.1) (XS.iconst X1.here hx rfl (hb hby d5_74) (XS.goto X1.here hx rfl (pc0 := 75) (pc' := 79) rfl (hb hby d5_75) (by decide) (by decide) k))) ?_
    obtain ⟨fs, hr, hrun, hended, hW, hsame⟩ := X1.leave (v := some (.int (1 : Int32))) (fun h => by rw [Bd.returns] at h; cases h)
    exact ⟨_, _, retN X1 hx (t := .boolean) Bd.returns (by simp) (hb hby d5_79) hr, hrun, hended, _, _, rfl, (show Qrmh3 Z a1 p2 h0 n0 _ T1.heap _ from (by rw [eh1]; exact ⟨(by simp [own_h3, hc71_2]), N1, rfl⟩)), ⟨_, rfl⟩, hW, hsame.mono (by decide) (by decide)⟩
theorem ef_rmh4 (m : MethodId) (x0 : Addr) (x1 : Int32) : entryFrame m #[(.ref x0), (.int x1)] 2 = mkF m 0 #[.val (.ref x0), .val (.int x1)] [] := by first | (simp [entryFrame, mkF, argsToLocals, Value.category]; done) | rfl
def Qrmh4 (Z : State) (a1 : Addr) (p2 : Int32) (h0 : Heap) (n0 : Nat) (v : Option Value) (h : Heap) (L : List Loc) : Prop := v = some (.int (own_h4 p2)) ∧ Fr n0 L ∧ h = h0
set_option maxRecDepth 65536 in
set_option maxHeartbeats 40000000 in
theorem rmh4 (l : Launch) (Z : State) (a0 : Array Value) (hw : ∀ d ∈ tables_1, d.before a0 Z = true) (ws : List Jvm.Cond) (a1 : Addr) (p2 : Int32) (h0 : Heap) (n0 : Nat) (Z0 : n0 ≤ h0.size) (O0 : Old Z n0 h0) (EZ_a1 : Exa Z Z.heap a1 "com/example/urd/urd/functions/ComparisonOperator") (Fld0_a1_ordinal : Fld Z Z.heap a1 "java/lang/Enum" "ordinal" "I" (.int (4 : Int32))) :
    MetFree l (⟨"com/example/urd/urd/functions/ComparisonOperator", "holds", "(I)Z"⟩ : MethodName) (head1 (Jvm.Cond.code (⟨"com/example/urd/urd/functions/ComparisonOperator", "holds", "(I)Z"⟩ : MethodName) prog_24_method_7_code 2 (some .boolean) :: ws) ({ frames := 1, cells := 0, slots := 0, locals := 12 } : Room)) (fun a U => a = #[(.ref a1), (.int p2)] ∧ Z.Warmed39 U.vm ∧ U.heap = h0) (fun _ _ _ _ _ => True) (fun _ U o U' => ∃ v L, o = .returned v ∧ Qrmh4 Z a1 p2 h0 n0 v U'.heap L ∧ FrameEnd U o U' L ({ frames := 1, cells := 0, slots := 0, locals := 12 } : Room).cells ({ frames := 1, cells := 0, slots := 0, locals := 12 } : Room).slots) := by
  refine MetFree.of_bodySF (plainFor_of_name pn_5) hisR ?_
  intro p e s m args below meth c s₁ Bd hml0 hP hK
  obtain ⟨rfl, hZ, hh⟩ := hP
  have hx := Bd.exec
  have hby := Bd.bytes
  have hml : c.maxLocals = 2 := hml0
  have hown : s.vm.findClass "com/example/urd/urd/functions/ComparisonOperator" = some m.cls := findClass_of_methodNamed Bd.named
  have hnm := (name_of_methodNamed Bd.named Bd.method).1
  have X0 : Stand p l e ({ frames := 1, cells := 0, slots := 0, locals := 12 } : Room) s m #[(.ref a1), (.int p2)] below meth c s₁ [] 0 0 := Stand.of_body Bd
  have e0 : s₁.heap = h0 := by rw [← hh, Bd.state]; rfl
  have N0 := Fr.nil n0
  refine own_go (b := (s₁.setTop (mkF m 0 #[.val (.ref a1), .val (.int p2)] []))) (fun _ k => castTop (ef_rmh4 m a1 p2) k) ?_
  refine own_go (b := (s₁.setTop (mkF m 1 #[.val (.ref a1), .val (.int p2)] [(.ref a1)]))) (fun _ k => XS.aloadN X0.here hx rfl (hb hby d5_0) rfl rfl k) ?_
  obtain ⟨cq1, kq1, q1a, q1b, q1c⟩ := isOf hZ e0 (EZ_a1.ext O0.2)
  obtain ⟨_, _, ⟨T1, L1, k1, n1⟩, -, X1, ⟨Lc1, hQ1, l1, y1, z1⟩, st1⟩ := X0.virtualBackUp hx (owner := "java/lang/Enum") (x := (⟨"com/example/urd/urd/functions/ComparisonOperator", "ordinal", "()I"⟩ : MethodName)) (y := (⟨"java/lang/Enum", "ordinal", "()I"⟩ : MethodName)) hown (mvT hZ (hw _ (List.mem_of_getElem? (i := 13) rfl))) (mvT hZ (hw _ (List.mem_of_getElem? (i := 14) rfl))) (mvT hZ (hw _ (List.mem_of_getElem? (i := 15) rfl))) (by decide) (mvT hZ (hw _ (List.mem_of_getElem? (i := 17) rfl))) (mvT hZ (hw _ (List.mem_of_getElem? (i := 16) rfl))) (backOf (W := 0) (rmord l Z a0 hw [] a1 (4 : Int32) h0 n0 Z0 O0 Fld0_a1_ordinal) hZ (hw _ (List.mem_of_getElem? (i := 19) rfl)) (hw _ (List.mem_of_getElem? (i := 18) rfl)) (by decide) (by decide)) q1a q1c (g := (mkF m 1 #[.val (.ref a1), .val (.int p2)] [(.ref a1)])) rfl (by rw [hml]; rfl) (Steps.refl _) (argsL := []) (rest := []) (lenOf pd___I rfl) rfl (by show 2 * 0 + _ ≤ _; exact Nat.le_of_eq rfl) (hb hby d5_1) (fun _ _ => ⟨rfl, e0, (by decide : 0 + 0 ≤ _), (by decide : 0 + 0 ≤ _)⟩)
  dsimp only [Pt.U, Pt.locs, Pt.cells, Pt.slots] at X1 l1 y1 z1 st1 hQ1
  subst l1 y1 z1
  obtain ⟨rfl, N1q, eh1⟩ := hQ1
  have N1 := Fr.app N0 N1q
  refine own_go (b := (T1.setTop (mkF m 81 #[.val (.ref a1), .val (.int p2)] [(.int p2)]))) (fun _ k => st1.trans (XS.tswIn X1.here hx rfl (pc0 := 4) (pc' := 80) rfl (hb hby d5_4) (i := (4 : Int32)) rfl (by decide) (o := 76) (by decide) (by decide) (by decide) (XS.iloadN X1.here hx rfl (hb hby d5_80) rfl k))) ?_
  by_cases hc81_2 : (0 : Int32) < p2
  · skip
    refine own_go (b := (T1.setTop (mkF m 89 #[.val (.ref a1), .val (.int p2)] [(.int (1 : Int32))]))) (fun _ k => XS.ifNo X1.here hx rfl (hb hby d5_81) rfl ((if0 _ _).trans (tlt hc81_2).2.2.2) (XS.iconst X1.here hx rfl (hb hby d5_84) (XS.goto X1.here hx rfl (pc0 := 85) (pc' := 89) rfl (hb hby d5_85) (by decide) (by decide) k))) ?_
    obtain ⟨fs, hr, hrun, hended, hW, hsame⟩ := X1.leave (v := some (.int (1 : Int32))) (fun h => by rw [Bd.returns] at h; cases h)
    exact ⟨_, _, retN X1 hx (t := .boolean) Bd.returns (by simp) (hb hby d5_89) hr, hrun, hended, _, _, rfl, (show Qrmh4 Z a1 p2 h0 n0 _ T1.heap _ from (by rw [eh1]; exact ⟨(by simp [own_h4, hc81_2]), N1, rfl⟩)), ⟨_, rfl⟩, hW, hsame.mono (by decide) (by decide)⟩
  · skip
    refine own_go (b := (T1.setTop (mkF m 89 #[.val (.ref a1), .val (.int p2)] [(.int (0 : Int32))]))) (fun _ k => XS.ifYes X1.here hx rfl (pc0 := 81) (pc' := 88) rfl (hb hby d5_81) rfl ((if0 _ _).trans (flt hc81_2).2.2.2) (by decide) (by decide) (XS.iconst X1.here hx rfl (hb hby d5_88) k)) ?_
    obtain ⟨fs, hr, hrun, hended, hW, hsame⟩ := X1.leave (v := some (.int (0 : Int32))) (fun h => by rw [Bd.returns] at h; cases h)
    exact ⟨_, _, retN X1 hx (t := .boolean) Bd.returns (by simp) (hb hby d5_89) hr, hrun, hended, _, _, rfl, (show Qrmh4 Z a1 p2 h0 n0 _ T1.heap _ from (by rw [eh1]; exact ⟨(by simp [own_h4, hc81_2]), N1, rfl⟩)), ⟨_, rfl⟩, hW, hsame.mono (by decide) (by decide)⟩
theorem ef_rmh5 (m : MethodId) (x0 : Addr) (x1 : Int32) : entryFrame m #[(.ref x0), (.int x1)] 2 = mkF m 0 #[.val (.ref x0), .val (.int x1)] [] := by first | (simp [entryFrame, mkF, argsToLocals, Value.category]; done) | rfl
def Qrmh5 (Z : State) (a1 : Addr) (p2 : Int32) (h0 : Heap) (n0 : Nat) (v : Option Value) (h : Heap) (L : List Loc) : Prop := v = some (.int (own_h5 p2)) ∧ Fr n0 L ∧ h = h0
set_option maxRecDepth 65536 in
set_option maxHeartbeats 40000000 in
theorem rmh5 (l : Launch) (Z : State) (a0 : Array Value) (hw : ∀ d ∈ tables_1, d.before a0 Z = true) (ws : List Jvm.Cond) (a1 : Addr) (p2 : Int32) (h0 : Heap) (n0 : Nat) (Z0 : n0 ≤ h0.size) (O0 : Old Z n0 h0) (EZ_a1 : Exa Z Z.heap a1 "com/example/urd/urd/functions/ComparisonOperator") (Fld0_a1_ordinal : Fld Z Z.heap a1 "java/lang/Enum" "ordinal" "I" (.int (5 : Int32))) :
    MetFree l (⟨"com/example/urd/urd/functions/ComparisonOperator", "holds", "(I)Z"⟩ : MethodName) (head1 (Jvm.Cond.code (⟨"com/example/urd/urd/functions/ComparisonOperator", "holds", "(I)Z"⟩ : MethodName) prog_24_method_7_code 2 (some .boolean) :: ws) ({ frames := 1, cells := 0, slots := 0, locals := 12 } : Room)) (fun a U => a = #[(.ref a1), (.int p2)] ∧ Z.Warmed39 U.vm ∧ U.heap = h0) (fun _ _ _ _ _ => True) (fun _ U o U' => ∃ v L, o = .returned v ∧ Qrmh5 Z a1 p2 h0 n0 v U'.heap L ∧ FrameEnd U o U' L ({ frames := 1, cells := 0, slots := 0, locals := 12 } : Room).cells ({ frames := 1, cells := 0, slots := 0, locals := 12 } : Room).slots) := by
  refine MetFree.of_bodySF (plainFor_of_name pn_5) hisR ?_
  intro p e s m args below meth c s₁ Bd hml0 hP hK
  obtain ⟨rfl, hZ, hh⟩ := hP
  have hx := Bd.exec
  have hby := Bd.bytes
  have hml : c.maxLocals = 2 := hml0
  have hown : s.vm.findClass "com/example/urd/urd/functions/ComparisonOperator" = some m.cls := findClass_of_methodNamed Bd.named
  have hnm := (name_of_methodNamed Bd.named Bd.method).1
  have X0 : Stand p l e ({ frames := 1, cells := 0, slots := 0, locals := 12 } : Room) s m #[(.ref a1), (.int p2)] below meth c s₁ [] 0 0 := Stand.of_body Bd
  have e0 : s₁.heap = h0 := by rw [← hh, Bd.state]; rfl
  have N0 := Fr.nil n0
  refine own_go (b := (s₁.setTop (mkF m 0 #[.val (.ref a1), .val (.int p2)] []))) (fun _ k => castTop (ef_rmh5 m a1 p2) k) ?_
  refine own_go (b := (s₁.setTop (mkF m 1 #[.val (.ref a1), .val (.int p2)] [(.ref a1)]))) (fun _ k => XS.aloadN X0.here hx rfl (hb hby d5_0) rfl rfl k) ?_
  obtain ⟨cq1, kq1, q1a, q1b, q1c⟩ := isOf hZ e0 (EZ_a1.ext O0.2)
  obtain ⟨_, _, ⟨T1, L1, k1, n1⟩, -, X1, ⟨Lc1, hQ1, l1, y1, z1⟩, st1⟩ := X0.virtualBackUp hx (owner := "java/lang/Enum") (x := (⟨"com/example/urd/urd/functions/ComparisonOperator", "ordinal", "()I"⟩ : MethodName)) (y := (⟨"java/lang/Enum", "ordinal", "()I"⟩ : MethodName)) hown (mvT hZ (hw _ (List.mem_of_getElem? (i := 13) rfl))) (mvT hZ (hw _ (List.mem_of_getElem? (i := 14) rfl))) (mvT hZ (hw _ (List.mem_of_getElem? (i := 15) rfl))) (by decide) (mvT hZ (hw _ (List.mem_of_getElem? (i := 17) rfl))) (mvT hZ (hw _ (List.mem_of_getElem? (i := 16) rfl))) (backOf (W := 0) (rmord l Z a0 hw [] a1 (5 : Int32) h0 n0 Z0 O0 Fld0_a1_ordinal) hZ (hw _ (List.mem_of_getElem? (i := 19) rfl)) (hw _ (List.mem_of_getElem? (i := 18) rfl)) (by decide) (by decide)) q1a q1c (g := (mkF m 1 #[.val (.ref a1), .val (.int p2)] [(.ref a1)])) rfl (by rw [hml]; rfl) (Steps.refl _) (argsL := []) (rest := []) (lenOf pd___I rfl) rfl (by show 2 * 0 + _ ≤ _; exact Nat.le_of_eq rfl) (hb hby d5_1) (fun _ _ => ⟨rfl, e0, (by decide : 0 + 0 ≤ _), (by decide : 0 + 0 ≤ _)⟩)
  dsimp only [Pt.U, Pt.locs, Pt.cells, Pt.slots] at X1 l1 y1 z1 st1 hQ1
  subst l1 y1 z1
  obtain ⟨rfl, N1q, eh1⟩ := hQ1
  have N1 := Fr.app N0 N1q
  refine own_go (b := (T1.setTop (mkF m 91 #[.val (.ref a1), .val (.int p2)] [(.int p2)]))) (fun _ k => st1.trans (XS.tswOut X1.here hx rfl (pc0 := 4) (pc' := 90) rfl (hb hby d5_4) (i := (5 : Int32)) rfl (by decide) (by decide) (by decide) (XS.iloadN X1.here hx rfl (hb hby d5_90) rfl k))) ?_
  by_cases hc91_2 : p2 < (0 : Int32)
  · skip
    refine own_go (b := (T1.setTop (mkF m 99 #[.val (.ref a1), .val (.int p2)] [(.int (0 : Int32))]))) (fun _ k => XS.ifYes X1.here hx rfl (pc0 := 91) (pc' := 98) rfl (hb hby d5_91) rfl ((if0 _ _).trans (tlt hc91_2).1) (by decide) (by decide) (XS.iconst X1.here hx rfl (hb hby d5_98) k)) ?_
    obtain ⟨fs, hr, hrun, hended, hW, hsame⟩ := X1.leave (v := some (.int (0 : Int32))) (fun h => by rw [Bd.returns] at h; cases h)
    exact ⟨_, _, retN X1 hx (t := .boolean) Bd.returns (by simp) (hb hby d5_99) hr, hrun, hended, _, _, rfl, (show Qrmh5 Z a1 p2 h0 n0 _ T1.heap _ from (by rw [eh1]; exact ⟨(by simp [own_h5, hc91_2]), N1, rfl⟩)), ⟨_, rfl⟩, hW, hsame.mono (by decide) (by decide)⟩
  · skip
    refine own_go (b := (T1.setTop (mkF m 99 #[.val (.ref a1), .val (.int p2)] [(.int (1 : Int32))]))) (fun _ k => XS.ifNo X1.here hx rfl (hb hby d5_91) rfl ((if0 _ _).trans (flt hc91_2).1) (XS.iconst X1.here hx rfl (hb hby d5_94) (XS.goto X1.here hx rfl (pc0 := 95) (pc' := 99) rfl (hb hby d5_95) (by decide) (by decide) k))) ?_
    obtain ⟨fs, hr, hrun, hended, hW, hsame⟩ := X1.leave (v := some (.int (1 : Int32))) (fun h => by rw [Bd.returns] at h; cases h)
    exact ⟨_, _, retN X1 hx (t := .boolean) Bd.returns (by simp) (hb hby d5_99) hr, hrun, hended, _, _, rfl, (show Qrmh5 Z a1 p2 h0 n0 _ T1.heap _ from (by rw [eh1]; exact ⟨(by simp [own_h5, hc91_2]), N1, rfl⟩)), ⟨_, rfl⟩, hW, hsame.mono (by decide) (by decide)⟩
theorem d2_0 : decode prog_24_method_6_code 0 = .ok (.aload_n 0, 1) := by decide +kernel
theorem d2_1 : decode prog_24_method_6_code 1 = .ok (.invokevirtual 48, 3) := by decide +kernel
theorem d2_4 : decode prog_24_method_6_code 4 = .ok (.tableswitch 48 2 5 #[32, 36, 40, 44], 32) := by decide +kernel
theorem d2_36 : decode prog_24_method_6_code 36 = .ok (.getstatic 16, 3) := by decide +kernel
theorem d2_39 : decode prog_24_method_6_code 39 = .ok (.areturn, 1) := by decide +kernel
theorem d2_40 : decode prog_24_method_6_code 40 = .ok (.getstatic 19, 3) := by decide +kernel
theorem d2_43 : decode prog_24_method_6_code 43 = .ok (.areturn, 1) := by decide +kernel
theorem d2_44 : decode prog_24_method_6_code 44 = .ok (.getstatic 10, 3) := by decide +kernel
theorem d2_47 : decode prog_24_method_6_code 47 = .ok (.areturn, 1) := by decide +kernel
theorem d2_48 : decode prog_24_method_6_code 48 = .ok (.getstatic 13, 3) := by decide +kernel
theorem d2_51 : decode prog_24_method_6_code 51 = .ok (.areturn, 1) := by decide +kernel
theorem d2_52 : decode prog_24_method_6_code 52 = .ok (.aload_n 0, 1) := by decide +kernel
theorem d2_53 : decode prog_24_method_6_code 53 = .ok (.areturn, 1) := by decide +kernel
theorem pn_2 : plainName "com/example/urd/urd/functions/ComparisonOperator" = true := by first | (simp [plainName, overriddenIn]; done) | decide +kernel
theorem ef_rmr0 (m : MethodId) (x0 : Addr) : entryFrame m #[(.ref x0)] 1 = mkF m 0 #[.val (.ref x0)] [] := by first | (simp [entryFrame, mkF, argsToLocals, Value.category]; done) | rfl
def Qrmr0 (Z : State) (a1 : Addr) (h0 : Heap) (n0 : Nat) (v : Option Value) (h : Heap) (L : List Loc) : Prop := v = some (.ref a1) ∧ Fr n0 L ∧ h = h0
set_option maxRecDepth 65536 in
set_option maxHeartbeats 40000000 in
theorem rmr0 (l : Launch) (Z : State) (a0 : Array Value) (hw : ∀ d ∈ tables_1, d.before a0 Z = true) (ws : List Jvm.Cond) (a1 : Addr) (h0 : Heap) (n0 : Nat) (Z0 : n0 ≤ h0.size) (O0 : Old Z n0 h0) (EZ_a1 : Exa Z Z.heap a1 "com/example/urd/urd/functions/ComparisonOperator") (Fld0_a1_ordinal : Fld Z Z.heap a1 "java/lang/Enum" "ordinal" "I" (.int (0 : Int32))) :
    MetFree l (⟨"com/example/urd/urd/functions/ComparisonOperator", "reversed", "()Lcom/example/urd/urd/functions/ComparisonOperator;"⟩ : MethodName) (head1 (Jvm.Cond.code (⟨"com/example/urd/urd/functions/ComparisonOperator", "reversed", "()Lcom/example/urd/urd/functions/ComparisonOperator;"⟩ : MethodName) prog_24_method_6_code 1 (some (.object "com/example/urd/urd/functions/ComparisonOperator")) :: ws) ({ frames := 1, cells := 0, slots := 0, locals := 12 } : Room)) (fun a U => a = #[(.ref a1)] ∧ Z.Warmed39 U.vm ∧ U.heap = h0) (fun _ _ _ _ _ => True) (fun _ U o U' => ∃ v L, o = .returned v ∧ Qrmr0 Z a1 h0 n0 v U'.heap L ∧ FrameEnd U o U' L ({ frames := 1, cells := 0, slots := 0, locals := 12 } : Room).cells ({ frames := 1, cells := 0, slots := 0, locals := 12 } : Room).slots) := by
  refine MetFree.of_bodySF (plainFor_of_name pn_2) hisR ?_
  intro p e s m args below meth c s₁ Bd hml0 hP hK
  obtain ⟨rfl, hZ, hh⟩ := hP
  have hx := Bd.exec
  have hby := Bd.bytes
  have hml : c.maxLocals = 1 := hml0
  have hown : s.vm.findClass "com/example/urd/urd/functions/ComparisonOperator" = some m.cls := findClass_of_methodNamed Bd.named
  have hnm := (name_of_methodNamed Bd.named Bd.method).1
  have X0 : Stand p l e ({ frames := 1, cells := 0, slots := 0, locals := 12 } : Room) s m #[(.ref a1)] below meth c s₁ [] 0 0 := Stand.of_body Bd
  have e0 : s₁.heap = h0 := by rw [← hh, Bd.state]; rfl
  have N0 := Fr.nil n0
  refine own_go (b := (s₁.setTop (mkF m 0 #[.val (.ref a1)] []))) (fun _ k => castTop (ef_rmr0 m a1) k) ?_
  refine own_go (b := (s₁.setTop (mkF m 1 #[.val (.ref a1)] [(.ref a1)]))) (fun _ k => XS.aloadN X0.here hx rfl (hb hby d2_0) rfl rfl k) ?_
  obtain ⟨cq1, kq1, q1a, q1b, q1c⟩ := isOf hZ e0 (EZ_a1.ext O0.2)
  obtain ⟨_, _, ⟨T1, L1, k1, n1⟩, -, X1, ⟨Lc1, hQ1, l1, y1, z1⟩, st1⟩ := X0.virtualBackUp hx (owner := "java/lang/Enum") (x := (⟨"com/example/urd/urd/functions/ComparisonOperator", "ordinal", "()I"⟩ : MethodName)) (y := (⟨"java/lang/Enum", "ordinal", "()I"⟩ : MethodName)) hown (mvT hZ (hw _ (List.mem_of_getElem? (i := 13) rfl))) (mvT hZ (hw _ (List.mem_of_getElem? (i := 14) rfl))) (mvT hZ (hw _ (List.mem_of_getElem? (i := 15) rfl))) (by decide) (mvT hZ (hw _ (List.mem_of_getElem? (i := 17) rfl))) (mvT hZ (hw _ (List.mem_of_getElem? (i := 16) rfl))) (backOf (W := 0) (rmord l Z a0 hw [] a1 (0 : Int32) h0 n0 Z0 O0 Fld0_a1_ordinal) hZ (hw _ (List.mem_of_getElem? (i := 19) rfl)) (hw _ (List.mem_of_getElem? (i := 18) rfl)) (by decide) (by decide)) q1a q1c (g := (mkF m 1 #[.val (.ref a1)] [(.ref a1)])) rfl (by rw [hml]; rfl) (Steps.refl _) (argsL := []) (rest := []) (lenOf pd___I rfl) rfl (by show 2 * 0 + _ ≤ _; exact Nat.le_of_eq rfl) (hb hby d2_1) (fun _ _ => ⟨rfl, e0, (by decide : 0 + 0 ≤ _), (by decide : 0 + 0 ≤ _)⟩)
  dsimp only [Pt.U, Pt.locs, Pt.cells, Pt.slots] at X1 l1 y1 z1 st1 hQ1
  subst l1 y1 z1
  obtain ⟨rfl, N1q, eh1⟩ := hQ1
  have N1 := Fr.app N0 N1q
  refine own_go (b := (T1.setTop (mkF m 53 #[.val (.ref a1)] [(.ref a1)]))) (fun _ k => st1.trans (XS.tswOut X1.here hx rfl (pc0 := 4) (pc' := 52) rfl (hb hby d2_4) (i := (0 : Int32)) rfl (by decide) (by decide) (by decide) (XS.aloadN X1.here hx rfl (hb hby d2_52) rfl rfl k))) ?_
  obtain ⟨fs, hr, hrun, hended, hW, hsame⟩ := X1.leave (v := some (.ref a1)) (fun h => by rw [Bd.returns] at h; cases h)
  exact ⟨_, _, retOut X1 hx Bd.returns rfl (Or.inr (Or.inr (Or.inr (Or.inr ⟨rfl, rfl, rfl⟩)))) (hb hby d2_53) hr, hrun, hended, _, _, rfl, (show Qrmr0 Z a1 h0 n0 _ T1.heap _ from (by rw [eh1]; exact ⟨rfl, N1, rfl⟩)), ⟨_, rfl⟩, hW, hsame.mono (by decide) (by decide)⟩
theorem ef_rmr1 (m : MethodId) (x0 : Addr) : entryFrame m #[(.ref x0)] 1 = mkF m 0 #[.val (.ref x0)] [] := by first | (simp [entryFrame, mkF, argsToLocals, Value.category]; done) | rfl
def Qrmr1 (Z : State) (a1 : Addr) (h0 : Heap) (n0 : Nat) (v : Option Value) (h : Heap) (L : List Loc) : Prop := v = some (.ref a1) ∧ Fr n0 L ∧ h = h0
set_option maxRecDepth 65536 in
set_option maxHeartbeats 40000000 in
theorem rmr1 (l : Launch) (Z : State) (a0 : Array Value) (hw : ∀ d ∈ tables_1, d.before a0 Z = true) (ws : List Jvm.Cond) (a1 : Addr) (h0 : Heap) (n0 : Nat) (Z0 : n0 ≤ h0.size) (O0 : Old Z n0 h0) (EZ_a1 : Exa Z Z.heap a1 "com/example/urd/urd/functions/ComparisonOperator") (Fld0_a1_ordinal : Fld Z Z.heap a1 "java/lang/Enum" "ordinal" "I" (.int (1 : Int32))) :
    MetFree l (⟨"com/example/urd/urd/functions/ComparisonOperator", "reversed", "()Lcom/example/urd/urd/functions/ComparisonOperator;"⟩ : MethodName) (head1 (Jvm.Cond.code (⟨"com/example/urd/urd/functions/ComparisonOperator", "reversed", "()Lcom/example/urd/urd/functions/ComparisonOperator;"⟩ : MethodName) prog_24_method_6_code 1 (some (.object "com/example/urd/urd/functions/ComparisonOperator")) :: ws) ({ frames := 1, cells := 0, slots := 0, locals := 12 } : Room)) (fun a U => a = #[(.ref a1)] ∧ Z.Warmed39 U.vm ∧ U.heap = h0) (fun _ _ _ _ _ => True) (fun _ U o U' => ∃ v L, o = .returned v ∧ Qrmr1 Z a1 h0 n0 v U'.heap L ∧ FrameEnd U o U' L ({ frames := 1, cells := 0, slots := 0, locals := 12 } : Room).cells ({ frames := 1, cells := 0, slots := 0, locals := 12 } : Room).slots) := by
  refine MetFree.of_bodySF (plainFor_of_name pn_2) hisR ?_
  intro p e s m args below meth c s₁ Bd hml0 hP hK
  obtain ⟨rfl, hZ, hh⟩ := hP
  have hx := Bd.exec
  have hby := Bd.bytes
  have hml : c.maxLocals = 1 := hml0
  have hown : s.vm.findClass "com/example/urd/urd/functions/ComparisonOperator" = some m.cls := findClass_of_methodNamed Bd.named
  have hnm := (name_of_methodNamed Bd.named Bd.method).1
  have X0 : Stand p l e ({ frames := 1, cells := 0, slots := 0, locals := 12 } : Room) s m #[(.ref a1)] below meth c s₁ [] 0 0 := Stand.of_body Bd
  have e0 : s₁.heap = h0 := by rw [← hh, Bd.state]; rfl
  have N0 := Fr.nil n0
  refine own_go (b := (s₁.setTop (mkF m 0 #[.val (.ref a1)] []))) (fun _ k => castTop (ef_rmr1 m a1) k) ?_
  refine own_go (b := (s₁.setTop (mkF m 1 #[.val (.ref a1)] [(.ref a1)]))) (fun _ k => XS.aloadN X0.here hx rfl (hb hby d2_0) rfl rfl k) ?_
  obtain ⟨cq1, kq1, q1a, q1b, q1c⟩ := isOf hZ e0 (EZ_a1.ext O0.2)
  obtain ⟨_, _, ⟨T1, L1, k1, n1⟩, -, X1, ⟨Lc1, hQ1, l1, y1, z1⟩, st1⟩ := X0.virtualBackUp hx (owner := "java/lang/Enum") (x := (⟨"com/example/urd/urd/functions/ComparisonOperator", "ordinal", "()I"⟩ : MethodName)) (y := (⟨"java/lang/Enum", "ordinal", "()I"⟩ : MethodName)) hown (mvT hZ (hw _ (List.mem_of_getElem? (i := 13) rfl))) (mvT hZ (hw _ (List.mem_of_getElem? (i := 14) rfl))) (mvT hZ (hw _ (List.mem_of_getElem? (i := 15) rfl))) (by decide) (mvT hZ (hw _ (List.mem_of_getElem? (i := 17) rfl))) (mvT hZ (hw _ (List.mem_of_getElem? (i := 16) rfl))) (backOf (W := 0) (rmord l Z a0 hw [] a1 (1 : Int32) h0 n0 Z0 O0 Fld0_a1_ordinal) hZ (hw _ (List.mem_of_getElem? (i := 19) rfl)) (hw _ (List.mem_of_getElem? (i := 18) rfl)) (by decide) (by decide)) q1a q1c (g := (mkF m 1 #[.val (.ref a1)] [(.ref a1)])) rfl (by rw [hml]; rfl) (Steps.refl _) (argsL := []) (rest := []) (lenOf pd___I rfl) rfl (by show 2 * 0 + _ ≤ _; exact Nat.le_of_eq rfl) (hb hby d2_1) (fun _ _ => ⟨rfl, e0, (by decide : 0 + 0 ≤ _), (by decide : 0 + 0 ≤ _)⟩)
  dsimp only [Pt.U, Pt.locs, Pt.cells, Pt.slots] at X1 l1 y1 z1 st1 hQ1
  subst l1 y1 z1
  obtain ⟨rfl, N1q, eh1⟩ := hQ1
  have N1 := Fr.app N0 N1q
  refine own_go (b := (T1.setTop (mkF m 53 #[.val (.ref a1)] [(.ref a1)]))) (fun _ k => st1.trans (XS.tswOut X1.here hx rfl (pc0 := 4) (pc' := 52) rfl (hb hby d2_4) (i := (1 : Int32)) rfl (by decide) (by decide) (by decide) (XS.aloadN X1.here hx rfl (hb hby d2_52) rfl rfl k))) ?_
  obtain ⟨fs, hr, hrun, hended, hW, hsame⟩ := X1.leave (v := some (.ref a1)) (fun h => by rw [Bd.returns] at h; cases h)
  exact ⟨_, _, retOut X1 hx Bd.returns rfl (Or.inr (Or.inr (Or.inr (Or.inr ⟨rfl, rfl, rfl⟩)))) (hb hby d2_53) hr, hrun, hended, _, _, rfl, (show Qrmr1 Z a1 h0 n0 _ T1.heap _ from (by rw [eh1]; exact ⟨rfl, N1, rfl⟩)), ⟨_, rfl⟩, hW, hsame.mono (by decide) (by decide)⟩
theorem ef_rmr2 (m : MethodId) (x0 : Addr) : entryFrame m #[(.ref x0)] 1 = mkF m 0 #[.val (.ref x0)] [] := by first | (simp [entryFrame, mkF, argsToLocals, Value.category]; done) | rfl
def Qrmr2 (Z : State) (a1 : Addr) (x_GT : Addr) (h0 : Heap) (n0 : Nat) (v : Option Value) (h : Heap) (L : List Loc) : Prop := v = some (.ref x_GT) ∧ Fr n0 L ∧ h = h0
set_option maxRecDepth 65536 in
set_option maxHeartbeats 40000000 in
theorem rmr2 (l : Launch) (Z : State) (a0 : Array Value) (hw : ∀ d ∈ tables_1, d.before a0 Z = true) (ws : List Jvm.Cond) (a1 : Addr) (x_GT : Addr) (h0 : Heap) (n0 : Nat) (Z0 : n0 ≤ h0.size) (O0 : Old Z n0 h0) (EZ_a1 : Exa Z Z.heap a1 "com/example/urd/urd/functions/ComparisonOperator") (Fld0_a1_ordinal : Fld Z Z.heap a1 "java/lang/Enum" "ordinal" "I" (.int (2 : Int32))) (S_GT : Sta Z Z.heap "com/example/urd/urd/functions/ComparisonOperator" "GT" "Lcom/example/urd/urd/functions/ComparisonOperator;" (.ref x_GT)) :
    MetFree l (⟨"com/example/urd/urd/functions/ComparisonOperator", "reversed", "()Lcom/example/urd/urd/functions/ComparisonOperator;"⟩ : MethodName) (head1 (Jvm.Cond.code (⟨"com/example/urd/urd/functions/ComparisonOperator", "reversed", "()Lcom/example/urd/urd/functions/ComparisonOperator;"⟩ : MethodName) prog_24_method_6_code 1 (some (.object "com/example/urd/urd/functions/ComparisonOperator")) :: ws) ({ frames := 1, cells := 0, slots := 0, locals := 12 } : Room)) (fun a U => a = #[(.ref a1)] ∧ Z.Warmed39 U.vm ∧ U.heap = h0) (fun _ _ _ _ _ => True) (fun _ U o U' => ∃ v L, o = .returned v ∧ Qrmr2 Z a1 x_GT h0 n0 v U'.heap L ∧ FrameEnd U o U' L ({ frames := 1, cells := 0, slots := 0, locals := 12 } : Room).cells ({ frames := 1, cells := 0, slots := 0, locals := 12 } : Room).slots) := by
  refine MetFree.of_bodySF (plainFor_of_name pn_2) hisR ?_
  intro p e s m args below meth c s₁ Bd hml0 hP hK
  obtain ⟨rfl, hZ, hh⟩ := hP
  have hx := Bd.exec
  have hby := Bd.bytes
  have hml : c.maxLocals = 1 := hml0
  have hown : s.vm.findClass "com/example/urd/urd/functions/ComparisonOperator" = some m.cls := findClass_of_methodNamed Bd.named
  have hnm := (name_of_methodNamed Bd.named Bd.method).1
  have X0 : Stand p l e ({ frames := 1, cells := 0, slots := 0, locals := 12 } : Room) s m #[(.ref a1)] below meth c s₁ [] 0 0 := Stand.of_body Bd
  have e0 : s₁.heap = h0 := by rw [← hh, Bd.state]; rfl
  have N0 := Fr.nil n0
  refine own_go (b := (s₁.setTop (mkF m 0 #[.val (.ref a1)] []))) (fun _ k => castTop (ef_rmr2 m a1) k) ?_
  refine own_go (b := (s₁.setTop (mkF m 1 #[.val (.ref a1)] [(.ref a1)]))) (fun _ k => XS.aloadN X0.here hx rfl (hb hby d2_0) rfl rfl k) ?_
  obtain ⟨cq1, kq1, q1a, q1b, q1c⟩ := isOf hZ e0 (EZ_a1.ext O0.2)
  obtain ⟨_, _, ⟨T1, L1, k1, n1⟩, -, X1, ⟨Lc1, hQ1, l1, y1, z1⟩, st1⟩ := X0.virtualBackUp hx (owner := "java/lang/Enum") (x := (⟨"com/example/urd/urd/functions/ComparisonOperator", "ordinal", "()I"⟩ : MethodName)) (y := (⟨"java/lang/Enum", "ordinal", "()I"⟩ : MethodName)) hown (mvT hZ (hw _ (List.mem_of_getElem? (i := 13) rfl))) (mvT hZ (hw _ (List.mem_of_getElem? (i := 14) rfl))) (mvT hZ (hw _ (List.mem_of_getElem? (i := 15) rfl))) (by decide) (mvT hZ (hw _ (List.mem_of_getElem? (i := 17) rfl))) (mvT hZ (hw _ (List.mem_of_getElem? (i := 16) rfl))) (backOf (W := 0) (rmord l Z a0 hw [] a1 (2 : Int32) h0 n0 Z0 O0 Fld0_a1_ordinal) hZ (hw _ (List.mem_of_getElem? (i := 19) rfl)) (hw _ (List.mem_of_getElem? (i := 18) rfl)) (by decide) (by decide)) q1a q1c (g := (mkF m 1 #[.val (.ref a1)] [(.ref a1)])) rfl (by rw [hml]; rfl) (Steps.refl _) (argsL := []) (rest := []) (lenOf pd___I rfl) rfl (by show 2 * 0 + _ ≤ _; exact Nat.le_of_eq rfl) (hb hby d2_1) (fun _ _ => ⟨rfl, e0, (by decide : 0 + 0 ≤ _), (by decide : 0 + 0 ≤ _)⟩)
  dsimp only [Pt.U, Pt.locs, Pt.cells, Pt.slots] at X1 l1 y1 z1 st1 hQ1
  subst l1 y1 z1
  obtain ⟨rfl, N1q, eh1⟩ := hQ1
  have N1 := Fr.app N0 N1q
  refine own_go (b := (T1.setTop (mkF m 36 #[.val (.ref a1)] []))) (fun _ k => st1.trans (XS.tswIn X1.here hx rfl (pc0 := 4) (pc' := 36) rfl (hb hby d2_4) (i := (2 : Int32)) rfl (by decide) (o := 32) (by decide) (by decide) (by decide) k)) ?_
  obtain ⟨T2, X2, e2, st2⟩ := getS2 X1 hx hZ hown (host := "") (Or.inl (hw _ (List.mem_of_getElem? (i := 36) rfl))) Via.refl eh1 (S_GT.ext O0.2) (g := (mkF m 36 #[.val (.ref a1)] [])) rfl (hb hby d2_36)
  refine own_go (b := (T2.setTop (mkF m 39 #[.val (.ref a1)] [(.ref x_GT)]))) (fun _ k => st2 _ k) ?_
  obtain ⟨fs, hr, hrun, hended, hW, hsame⟩ := X2.leave (v := some (.ref x_GT)) (fun h => by rw [Bd.returns] at h; cases h)
  exact ⟨_, _, retOut X2 hx Bd.returns rfl (Or.inr (Or.inr (Or.inr (Or.inr ⟨rfl, rfl, rfl⟩)))) (hb hby d2_39) hr, hrun, hended, _, _, rfl, (show Qrmr2 Z a1 x_GT h0 n0 _ T2.heap _ from (by rw [e2]; exact ⟨rfl, N1, rfl⟩)), ⟨_, rfl⟩, hW, hsame.mono (by decide) (by decide)⟩
theorem ef_rmr3 (m : MethodId) (x0 : Addr) : entryFrame m #[(.ref x0)] 1 = mkF m 0 #[.val (.ref x0)] [] := by first | (simp [entryFrame, mkF, argsToLocals, Value.category]; done) | rfl
def Qrmr3 (Z : State) (a1 : Addr) (x_GE : Addr) (h0 : Heap) (n0 : Nat) (v : Option Value) (h : Heap) (L : List Loc) : Prop := v = some (.ref x_GE) ∧ Fr n0 L ∧ h = h0
set_option maxRecDepth 65536 in
set_option maxHeartbeats 40000000 in
theorem rmr3 (l : Launch) (Z : State) (a0 : Array Value) (hw : ∀ d ∈ tables_1, d.before a0 Z = true) (ws : List Jvm.Cond) (a1 : Addr) (x_GE : Addr) (h0 : Heap) (n0 : Nat) (Z0 : n0 ≤ h0.size) (O0 : Old Z n0 h0) (EZ_a1 : Exa Z Z.heap a1 "com/example/urd/urd/functions/ComparisonOperator") (Fld0_a1_ordinal : Fld Z Z.heap a1 "java/lang/Enum" "ordinal" "I" (.int (3 : Int32))) (S_GE : Sta Z Z.heap "com/example/urd/urd/functions/ComparisonOperator" "GE" "Lcom/example/urd/urd/functions/ComparisonOperator;" (.ref x_GE)) :
    MetFree l (⟨"com/example/urd/urd/functions/ComparisonOperator", "reversed", "()Lcom/example/urd/urd/functions/ComparisonOperator;"⟩ : MethodName) (head1 (Jvm.Cond.code (⟨"com/example/urd/urd/functions/ComparisonOperator", "reversed", "()Lcom/example/urd/urd/functions/ComparisonOperator;"⟩ : MethodName) prog_24_method_6_code 1 (some (.object "com/example/urd/urd/functions/ComparisonOperator")) :: ws) ({ frames := 1, cells := 0, slots := 0, locals := 12 } : Room)) (fun a U => a = #[(.ref a1)] ∧ Z.Warmed39 U.vm ∧ U.heap = h0) (fun _ _ _ _ _ => True) (fun _ U o U' => ∃ v L, o = .returned v ∧ Qrmr3 Z a1 x_GE h0 n0 v U'.heap L ∧ FrameEnd U o U' L ({ frames := 1, cells := 0, slots := 0, locals := 12 } : Room).cells ({ frames := 1, cells := 0, slots := 0, locals := 12 } : Room).slots) := by
  refine MetFree.of_bodySF (plainFor_of_name pn_2) hisR ?_
  intro p e s m args below meth c s₁ Bd hml0 hP hK
  obtain ⟨rfl, hZ, hh⟩ := hP
  have hx := Bd.exec
  have hby := Bd.bytes
  have hml : c.maxLocals = 1 := hml0
  have hown : s.vm.findClass "com/example/urd/urd/functions/ComparisonOperator" = some m.cls := findClass_of_methodNamed Bd.named
  have hnm := (name_of_methodNamed Bd.named Bd.method).1
  have X0 : Stand p l e ({ frames := 1, cells := 0, slots := 0, locals := 12 } : Room) s m #[(.ref a1)] below meth c s₁ [] 0 0 := Stand.of_body Bd
  have e0 : s₁.heap = h0 := by rw [← hh, Bd.state]; rfl
  have N0 := Fr.nil n0
  refine own_go (b := (s₁.setTop (mkF m 0 #[.val (.ref a1)] []))) (fun _ k => castTop (ef_rmr3 m a1) k) ?_
  refine own_go (b := (s₁.setTop (mkF m 1 #[.val (.ref a1)] [(.ref a1)]))) (fun _ k => XS.aloadN X0.here hx rfl (hb hby d2_0) rfl rfl k) ?_
  obtain ⟨cq1, kq1, q1a, q1b, q1c⟩ := isOf hZ e0 (EZ_a1.ext O0.2)
  obtain ⟨_, _, ⟨T1, L1, k1, n1⟩, -, X1, ⟨Lc1, hQ1, l1, y1, z1⟩, st1⟩ := X0.virtualBackUp hx (owner := "java/lang/Enum") (x := (⟨"com/example/urd/urd/functions/ComparisonOperator", "ordinal", "()I"⟩ : MethodName)) (y := (⟨"java/lang/Enum", "ordinal", "()I"⟩ : MethodName)) hown (mvT hZ (hw _ (List.mem_of_getElem? (i := 13) rfl))) (mvT hZ (hw _ (List.mem_of_getElem? (i := 14) rfl))) (mvT hZ (hw _ (List.mem_of_getElem? (i := 15) rfl))) (by decide) (mvT hZ (hw _ (List.mem_of_getElem? (i := 17) rfl))) (mvT hZ (hw _ (List.mem_of_getElem? (i := 16) rfl))) (backOf (W := 0) (rmord l Z a0 hw [] a1 (3 : Int32) h0 n0 Z0 O0 Fld0_a1_ordinal) hZ (hw _ (List.mem_of_getElem? (i := 19) rfl)) (hw _ (List.mem_of_getElem? (i := 18) rfl)) (by decide) (by decide)) q1a q1c (g := (mkF m 1 #[.val (.ref a1)] [(.ref a1)])) rfl (by rw [hml]; rfl) (Steps.refl _) (argsL := []) (rest := []) (lenOf pd___I rfl) rfl (by show 2 * 0 + _ ≤ _; exact Nat.le_of_eq rfl) (hb hby d2_1) (fun _ _ => ⟨rfl, e0, (by decide : 0 + 0 ≤ _), (by decide : 0 + 0 ≤ _)⟩)
  dsimp only [Pt.U, Pt.locs, Pt.cells, Pt.slots] at X1 l1 y1 z1 st1 hQ1
  subst l1 y1 z1
  obtain ⟨rfl, N1q, eh1⟩ := hQ1
  have N1 := Fr.app N0 N1q
  refine own_go (b := (T1.setTop (mkF m 40 #[.val (.ref a1)] []))) (fun _ k => st1.trans (XS.tswIn X1.here hx rfl (pc0 := 4) (pc' := 40) rfl (hb hby d2_4) (i := (3 : Int32)) rfl (by decide) (o := 36) (by decide) (by decide) (by decide) k)) ?_
  obtain ⟨T2, X2, e2, st2⟩ := getS2 X1 hx hZ hown (host := "") (Or.inl (hw _ (List.mem_of_getElem? (i := 39) rfl))) Via.refl eh1 (S_GE.ext O0.2) (g := (mkF m 40 #[.val (.ref a1)] [])) rfl (hb hby d2_40)
  refine own_go (b := (T2.setTop (mkF m 43 #[.val (.ref a1)] [(.ref x_GE)]))) (fun _ k => st2 _ k) ?_
  obtain ⟨fs, hr, hrun, hended, hW, hsame⟩ := X2.leave (v := some (.ref x_GE)) (fun h => by rw [Bd.returns] at h; cases h)
  exact ⟨_, _, retOut X2 hx Bd.returns rfl (Or.inr (Or.inr (Or.inr (Or.inr ⟨rfl, rfl, rfl⟩)))) (hb hby d2_43) hr, hrun, hended, _, _, rfl, (show Qrmr3 Z a1 x_GE h0 n0 _ T2.heap _ from (by rw [e2]; exact ⟨rfl, N1, rfl⟩)), ⟨_, rfl⟩, hW, hsame.mono (by decide) (by decide)⟩
theorem ef_rmr4 (m : MethodId) (x0 : Addr) : entryFrame m #[(.ref x0)] 1 = mkF m 0 #[.val (.ref x0)] [] := by first | (simp [entryFrame, mkF, argsToLocals, Value.category]; done) | rfl
def Qrmr4 (Z : State) (a1 : Addr) (x_LT : Addr) (h0 : Heap) (n0 : Nat) (v : Option Value) (h : Heap) (L : List Loc) : Prop := v = some (.ref x_LT) ∧ Fr n0 L ∧ h = h0
set_option maxRecDepth 65536 in
set_option maxHeartbeats 40000000 in
theorem rmr4 (l : Launch) (Z : State) (a0 : Array Value) (hw : ∀ d ∈ tables_1, d.before a0 Z = true) (ws : List Jvm.Cond) (a1 : Addr) (x_LT : Addr) (h0 : Heap) (n0 : Nat) (Z0 : n0 ≤ h0.size) (O0 : Old Z n0 h0) (EZ_a1 : Exa Z Z.heap a1 "com/example/urd/urd/functions/ComparisonOperator") (Fld0_a1_ordinal : Fld Z Z.heap a1 "java/lang/Enum" "ordinal" "I" (.int (4 : Int32))) (S_LT : Sta Z Z.heap "com/example/urd/urd/functions/ComparisonOperator" "LT" "Lcom/example/urd/urd/functions/ComparisonOperator;" (.ref x_LT)) :
    MetFree l (⟨"com/example/urd/urd/functions/ComparisonOperator", "reversed", "()Lcom/example/urd/urd/functions/ComparisonOperator;"⟩ : MethodName) (head1 (Jvm.Cond.code (⟨"com/example/urd/urd/functions/ComparisonOperator", "reversed", "()Lcom/example/urd/urd/functions/ComparisonOperator;"⟩ : MethodName) prog_24_method_6_code 1 (some (.object "com/example/urd/urd/functions/ComparisonOperator")) :: ws) ({ frames := 1, cells := 0, slots := 0, locals := 12 } : Room)) (fun a U => a = #[(.ref a1)] ∧ Z.Warmed39 U.vm ∧ U.heap = h0) (fun _ _ _ _ _ => True) (fun _ U o U' => ∃ v L, o = .returned v ∧ Qrmr4 Z a1 x_LT h0 n0 v U'.heap L ∧ FrameEnd U o U' L ({ frames := 1, cells := 0, slots := 0, locals := 12 } : Room).cells ({ frames := 1, cells := 0, slots := 0, locals := 12 } : Room).slots) := by
  refine MetFree.of_bodySF (plainFor_of_name pn_2) hisR ?_
  intro p e s m args below meth c s₁ Bd hml0 hP hK
  obtain ⟨rfl, hZ, hh⟩ := hP
  have hx := Bd.exec
  have hby := Bd.bytes
  have hml : c.maxLocals = 1 := hml0
  have hown : s.vm.findClass "com/example/urd/urd/functions/ComparisonOperator" = some m.cls := findClass_of_methodNamed Bd.named
  have hnm := (name_of_methodNamed Bd.named Bd.method).1
  have X0 : Stand p l e ({ frames := 1, cells := 0, slots := 0, locals := 12 } : Room) s m #[(.ref a1)] below meth c s₁ [] 0 0 := Stand.of_body Bd
  have e0 : s₁.heap = h0 := by rw [← hh, Bd.state]; rfl
  have N0 := Fr.nil n0
  refine own_go (b := (s₁.setTop (mkF m 0 #[.val (.ref a1)] []))) (fun _ k => castTop (ef_rmr4 m a1) k) ?_
  refine own_go (b := (s₁.setTop (mkF m 1 #[.val (.ref a1)] [(.ref a1)]))) (fun _ k => XS.aloadN X0.here hx rfl (hb hby d2_0) rfl rfl k) ?_
  obtain ⟨cq1, kq1, q1a, q1b, q1c⟩ := isOf hZ e0 (EZ_a1.ext O0.2)
  obtain ⟨_, _, ⟨T1, L1, k1, n1⟩, -, X1, ⟨Lc1, hQ1, l1, y1, z1⟩, st1⟩ := X0.virtualBackUp hx (owner := "java/lang/Enum") (x := (⟨"com/example/urd/urd/functions/ComparisonOperator", "ordinal", "()I"⟩ : MethodName)) (y := (⟨"java/lang/Enum", "ordinal", "()I"⟩ : MethodName)) hown (mvT hZ (hw _ (List.mem_of_getElem? (i := 13) rfl))) (mvT hZ (hw _ (List.mem_of_getElem? (i := 14) rfl))) (mvT hZ (hw _ (List.mem_of_getElem? (i := 15) rfl))) (by decide) (mvT hZ (hw _ (List.mem_of_getElem? (i := 17) rfl))) (mvT hZ (hw _ (List.mem_of_getElem? (i := 16) rfl))) (backOf (W := 0) (rmord l Z a0 hw [] a1 (4 : Int32) h0 n0 Z0 O0 Fld0_a1_ordinal) hZ (hw _ (List.mem_of_getElem? (i := 19) rfl)) (hw _ (List.mem_of_getElem? (i := 18) rfl)) (by decide) (by decide)) q1a q1c (g := (mkF m 1 #[.val (.ref a1)] [(.ref a1)])) rfl (by rw [hml]; rfl) (Steps.refl _) (argsL := []) (rest := []) (lenOf pd___I rfl) rfl (by show 2 * 0 + _ ≤ _; exact Nat.le_of_eq rfl) (hb hby d2_1) (fun _ _ => ⟨rfl, e0, (by decide : 0 + 0 ≤ _), (by decide : 0 + 0 ≤ _)⟩)
  dsimp only [Pt.U, Pt.locs, Pt.cells, Pt.slots] at X1 l1 y1 z1 st1 hQ1
  subst l1 y1 z1
  obtain ⟨rfl, N1q, eh1⟩ := hQ1
  have N1 := Fr.app N0 N1q
  refine own_go (b := (T1.setTop (mkF m 44 #[.val (.ref a1)] []))) (fun _ k => st1.trans (XS.tswIn X1.here hx rfl (pc0 := 4) (pc' := 44) rfl (hb hby d2_4) (i := (4 : Int32)) rfl (by decide) (o := 40) (by decide) (by decide) (by decide) k)) ?_
  obtain ⟨T2, X2, e2, st2⟩ := getS2 X1 hx hZ hown (host := "") (Or.inl (hw _ (List.mem_of_getElem? (i := 34) rfl))) Via.refl eh1 (S_LT.ext O0.2) (g := (mkF m 44 #[.val (.ref a1)] [])) rfl (hb hby d2_44)
  refine own_go (b := (T2.setTop (mkF m 47 #[.val (.ref a1)] [(.ref x_LT)]))) (fun _ k => st2 _ k) ?_
  obtain ⟨fs, hr, hrun, hended, hW, hsame⟩ := X2.leave (v := some (.ref x_LT)) (fun h => by rw [Bd.returns] at h; cases h)
  exact ⟨_, _, retOut X2 hx Bd.returns rfl (Or.inr (Or.inr (Or.inr (Or.inr ⟨rfl, rfl, rfl⟩)))) (hb hby d2_47) hr, hrun, hended, _, _, rfl, (show Qrmr4 Z a1 x_LT h0 n0 _ T2.heap _ from (by rw [e2]; exact ⟨rfl, N1, rfl⟩)), ⟨_, rfl⟩, hW, hsame.mono (by decide) (by decide)⟩
theorem ef_rmr5 (m : MethodId) (x0 : Addr) : entryFrame m #[(.ref x0)] 1 = mkF m 0 #[.val (.ref x0)] [] := by first | (simp [entryFrame, mkF, argsToLocals, Value.category]; done) | rfl
def Qrmr5 (Z : State) (a1 : Addr) (x_LE : Addr) (h0 : Heap) (n0 : Nat) (v : Option Value) (h : Heap) (L : List Loc) : Prop := v = some (.ref x_LE) ∧ Fr n0 L ∧ h = h0
set_option maxRecDepth 65536 in
set_option maxHeartbeats 40000000 in
theorem rmr5 (l : Launch) (Z : State) (a0 : Array Value) (hw : ∀ d ∈ tables_1, d.before a0 Z = true) (ws : List Jvm.Cond) (a1 : Addr) (x_LE : Addr) (h0 : Heap) (n0 : Nat) (Z0 : n0 ≤ h0.size) (O0 : Old Z n0 h0) (EZ_a1 : Exa Z Z.heap a1 "com/example/urd/urd/functions/ComparisonOperator") (Fld0_a1_ordinal : Fld Z Z.heap a1 "java/lang/Enum" "ordinal" "I" (.int (5 : Int32))) (S_LE : Sta Z Z.heap "com/example/urd/urd/functions/ComparisonOperator" "LE" "Lcom/example/urd/urd/functions/ComparisonOperator;" (.ref x_LE)) :
    MetFree l (⟨"com/example/urd/urd/functions/ComparisonOperator", "reversed", "()Lcom/example/urd/urd/functions/ComparisonOperator;"⟩ : MethodName) (head1 (Jvm.Cond.code (⟨"com/example/urd/urd/functions/ComparisonOperator", "reversed", "()Lcom/example/urd/urd/functions/ComparisonOperator;"⟩ : MethodName) prog_24_method_6_code 1 (some (.object "com/example/urd/urd/functions/ComparisonOperator")) :: ws) ({ frames := 1, cells := 0, slots := 0, locals := 12 } : Room)) (fun a U => a = #[(.ref a1)] ∧ Z.Warmed39 U.vm ∧ U.heap = h0) (fun _ _ _ _ _ => True) (fun _ U o U' => ∃ v L, o = .returned v ∧ Qrmr5 Z a1 x_LE h0 n0 v U'.heap L ∧ FrameEnd U o U' L ({ frames := 1, cells := 0, slots := 0, locals := 12 } : Room).cells ({ frames := 1, cells := 0, slots := 0, locals := 12 } : Room).slots) := by
  refine MetFree.of_bodySF (plainFor_of_name pn_2) hisR ?_
  intro p e s m args below meth c s₁ Bd hml0 hP hK
  obtain ⟨rfl, hZ, hh⟩ := hP
  have hx := Bd.exec
  have hby := Bd.bytes
  have hml : c.maxLocals = 1 := hml0
  have hown : s.vm.findClass "com/example/urd/urd/functions/ComparisonOperator" = some m.cls := findClass_of_methodNamed Bd.named
  have hnm := (name_of_methodNamed Bd.named Bd.method).1
  have X0 : Stand p l e ({ frames := 1, cells := 0, slots := 0, locals := 12 } : Room) s m #[(.ref a1)] below meth c s₁ [] 0 0 := Stand.of_body Bd
  have e0 : s₁.heap = h0 := by rw [← hh, Bd.state]; rfl
  have N0 := Fr.nil n0
  refine own_go (b := (s₁.setTop (mkF m 0 #[.val (.ref a1)] []))) (fun _ k => castTop (ef_rmr5 m a1) k) ?_
  refine own_go (b := (s₁.setTop (mkF m 1 #[.val (.ref a1)] [(.ref a1)]))) (fun _ k => XS.aloadN X0.here hx rfl (hb hby d2_0) rfl rfl k) ?_
  obtain ⟨cq1, kq1, q1a, q1b, q1c⟩ := isOf hZ e0 (EZ_a1.ext O0.2)
  obtain ⟨_, _, ⟨T1, L1, k1, n1⟩, -, X1, ⟨Lc1, hQ1, l1, y1, z1⟩, st1⟩ := X0.virtualBackUp hx (owner := "java/lang/Enum") (x := (⟨"com/example/urd/urd/functions/ComparisonOperator", "ordinal", "()I"⟩ : MethodName)) (y := (⟨"java/lang/Enum", "ordinal", "()I"⟩ : MethodName)) hown (mvT hZ (hw _ (List.mem_of_getElem? (i := 13) rfl))) (mvT hZ (hw _ (List.mem_of_getElem? (i := 14) rfl))) (mvT hZ (hw _ (List.mem_of_getElem? (i := 15) rfl))) (by decide) (mvT hZ (hw _ (List.mem_of_getElem? (i := 17) rfl))) (mvT hZ (hw _ (List.mem_of_getElem? (i := 16) rfl))) (backOf (W := 0) (rmord l Z a0 hw [] a1 (5 : Int32) h0 n0 Z0 O0 Fld0_a1_ordinal) hZ (hw _ (List.mem_of_getElem? (i := 19) rfl)) (hw _ (List.mem_of_getElem? (i := 18) rfl)) (by decide) (by decide)) q1a q1c (g := (mkF m 1 #[.val (.ref a1)] [(.ref a1)])) rfl (by rw [hml]; rfl) (Steps.refl _) (argsL := []) (rest := []) (lenOf pd___I rfl) rfl (by show 2 * 0 + _ ≤ _; exact Nat.le_of_eq rfl) (hb hby d2_1) (fun _ _ => ⟨rfl, e0, (by decide : 0 + 0 ≤ _), (by decide : 0 + 0 ≤ _)⟩)
  dsimp only [Pt.U, Pt.locs, Pt.cells, Pt.slots] at X1 l1 y1 z1 st1 hQ1
  subst l1 y1 z1
  obtain ⟨rfl, N1q, eh1⟩ := hQ1
  have N1 := Fr.app N0 N1q
  refine own_go (b := (T1.setTop (mkF m 48 #[.val (.ref a1)] []))) (fun _ k => st1.trans (XS.tswIn X1.here hx rfl (pc0 := 4) (pc' := 48) rfl (hb hby d2_4) (i := (5 : Int32)) rfl (by decide) (o := 44) (by decide) (by decide) (by decide) k)) ?_
  obtain ⟨T2, X2, e2, st2⟩ := getS2 X1 hx hZ hown (host := "") (Or.inl (hw _ (List.mem_of_getElem? (i := 41) rfl))) Via.refl eh1 (S_LE.ext O0.2) (g := (mkF m 48 #[.val (.ref a1)] [])) rfl (hb hby d2_48)
  refine own_go (b := (T2.setTop (mkF m 51 #[.val (.ref a1)] [(.ref x_LE)]))) (fun _ k => st2 _ k) ?_
  obtain ⟨fs, hr, hrun, hended, hW, hsame⟩ := X2.leave (v := some (.ref x_LE)) (fun h => by rw [Bd.returns] at h; cases h)
  exact ⟨_, _, retOut X2 hx Bd.returns rfl (Or.inr (Or.inr (Or.inr (Or.inr ⟨rfl, rfl, rfl⟩)))) (hb hby d2_51) hr, hrun, hended, _, _, rfl, (show Qrmr5 Z a1 x_LE h0 n0 _ T2.heap _ from (by rw [e2]; exact ⟨rfl, N1, rfl⟩)), ⟨_, rfl⟩, hW, hsame.mono (by decide) (by decide)⟩
theorem d1_0 : decode method_2_code 0 = .ok (.iload_n 0, 1) := by decide +kernel
theorem d1_1 : decode method_2_code 1 = .ok (.ifCond .ne 7, 3) := by decide +kernel
theorem d1_4 : decode method_2_code 4 = .ok (.getstatic 7, 3) := by decide +kernel
theorem d1_7 : decode method_2_code 7 = .ok (.areturn, 1) := by decide +kernel
theorem d1_8 : decode method_2_code 8 = .ok (.iload_n 0, 1) := by decide +kernel
theorem d1_9 : decode method_2_code 9 = .ok (.iconst 1, 1) := by decide +kernel
theorem d1_10 : decode method_2_code 10 = .ok (.if_icmp .ne 7, 3) := by decide +kernel
theorem d1_13 : decode method_2_code 13 = .ok (.getstatic 13, 3) := by decide +kernel
theorem d1_16 : decode method_2_code 16 = .ok (.areturn, 1) := by decide +kernel
theorem d1_17 : decode method_2_code 17 = .ok (.iload_n 0, 1) := by decide +kernel
theorem d1_18 : decode method_2_code 18 = .ok (.iconst 2, 1) := by decide +kernel
theorem d1_19 : decode method_2_code 19 = .ok (.if_icmp .ne 7, 3) := by decide +kernel
theorem d1_22 : decode method_2_code 22 = .ok (.getstatic 16, 3) := by decide +kernel
theorem d1_25 : decode method_2_code 25 = .ok (.areturn, 1) := by decide +kernel
theorem d1_26 : decode method_2_code 26 = .ok (.iload_n 0, 1) := by decide +kernel
theorem d1_27 : decode method_2_code 27 = .ok (.iconst 3, 1) := by decide +kernel
theorem d1_28 : decode method_2_code 28 = .ok (.if_icmp .ne 7, 3) := by decide +kernel
theorem d1_31 : decode method_2_code 31 = .ok (.getstatic 19, 3) := by decide +kernel
theorem d1_34 : decode method_2_code 34 = .ok (.areturn, 1) := by decide +kernel
theorem d1_35 : decode method_2_code 35 = .ok (.iload_n 0, 1) := by decide +kernel
theorem d1_36 : decode method_2_code 36 = .ok (.iconst 4, 1) := by decide +kernel
theorem d1_37 : decode method_2_code 37 = .ok (.if_icmp .ne 7, 3) := by decide +kernel
theorem d1_40 : decode method_2_code 40 = .ok (.getstatic 22, 3) := by decide +kernel
theorem d1_43 : decode method_2_code 43 = .ok (.areturn, 1) := by decide +kernel
theorem d1_44 : decode method_2_code 44 = .ok (.getstatic 25, 3) := by decide +kernel
theorem d1_47 : decode method_2_code 47 = .ok (.areturn, 1) := by decide +kernel
theorem pn_1 : plainName "com/example/urd/urd/functions/ComparisonOperatorReversedPinLaw" = true := by first | (simp [plainName, overriddenIn]; done) | decide +kernel
theorem ef_rmp0 (m : MethodId) (x0 : Int32) : entryFrame m #[(.int x0)] 1 = mkF m 0 #[.val (.int x0)] [] := by first | (simp [entryFrame, mkF, argsToLocals, Value.category]; done) | rfl
def Qrmp0 (Z : State) (x_EQ : Addr) (h0 : Heap) (n0 : Nat) (v : Option Value) (h : Heap) (L : List Loc) : Prop := v = some (.ref x_EQ) ∧ Fr n0 L ∧ h = h0
set_option maxRecDepth 65536 in
set_option maxHeartbeats 40000000 in
theorem rmp0 (l : Launch) (Z : State) (a0 : Array Value) (hw : ∀ d ∈ tables_1, d.before a0 Z = true) (ws : List Jvm.Cond) (x_EQ : Addr) (h0 : Heap) (n0 : Nat) (Z0 : n0 ≤ h0.size) (O0 : Old Z n0 h0) (S_EQ : Sta Z Z.heap "com/example/urd/urd/functions/ComparisonOperator" "EQ" "Lcom/example/urd/urd/functions/ComparisonOperator;" (.ref x_EQ)) :
    MetFree l (⟨"com/example/urd/urd/functions/ComparisonOperatorReversedPinLaw", "pick", "(I)Lcom/example/urd/urd/functions/ComparisonOperator;"⟩ : MethodName) (head1 (Jvm.Cond.code (⟨"com/example/urd/urd/functions/ComparisonOperatorReversedPinLaw", "pick", "(I)Lcom/example/urd/urd/functions/ComparisonOperator;"⟩ : MethodName) method_2_code 1 (some (.object "com/example/urd/urd/functions/ComparisonOperator")) :: ws) ({ frames := 0, cells := 0, slots := 0, locals := 0 } : Room)) (fun a U => a = #[(.int (0 : Int32))] ∧ Z.Warmed39 U.vm ∧ U.heap = h0) (fun _ _ _ _ _ => True) (fun _ U o U' => ∃ v L, o = .returned v ∧ Qrmp0 Z x_EQ h0 n0 v U'.heap L ∧ FrameEnd U o U' L ({ frames := 0, cells := 0, slots := 0, locals := 0 } : Room).cells ({ frames := 0, cells := 0, slots := 0, locals := 0 } : Room).slots) := by
  refine MetFree.of_bodySF (plainFor_of_name pn_1) hisR ?_
  intro p e s m args below meth c s₁ Bd hml0 hP hK
  obtain ⟨rfl, hZ, hh⟩ := hP
  have hx := Bd.exec
  have hby := Bd.bytes
  have hml : c.maxLocals = 1 := hml0
  have hown : s.vm.findClass "com/example/urd/urd/functions/ComparisonOperatorReversedPinLaw" = some m.cls := findClass_of_methodNamed Bd.named
  have hnm := (name_of_methodNamed Bd.named Bd.method).1
  have X0 : Stand p l e ({ frames := 0, cells := 0, slots := 0, locals := 0 } : Room) s m #[(.int (0 : Int32))] below meth c s₁ [] 0 0 := Stand.of_body Bd
  have e0 : s₁.heap = h0 := by rw [← hh, Bd.state]; rfl
  have N0 := Fr.nil n0
  refine own_go (b := (s₁.setTop (mkF m 0 #[.val (.int (0 : Int32))] []))) (fun _ k => castTop (ef_rmp0 m (0 : Int32)) k) ?_
  refine own_go (b := (s₁.setTop (mkF m 4 #[.val (.int (0 : Int32))] []))) (fun _ k => XS.iloadN X0.here hx rfl (hb hby d1_0) rfl (XS.ifNo X0.here hx rfl (hb hby d1_1) rfl ((if0 _ _).trans (teq (rfl : (0 : Int32) = (0 : Int32))).2) k)) ?_
  obtain ⟨T1, X1, e1, st1⟩ := getS2 X0 hx hZ hown (host := "") (Or.inl (hw _ (List.mem_of_getElem? (i := 5) rfl))) Via.refl e0 (S_EQ.ext O0.2) (g := (mkF m 4 #[.val (.int (0 : Int32))] [])) rfl (hb hby d1_4)
  refine own_go (b := (T1.setTop (mkF m 7 #[.val (.int (0 : Int32))] [(.ref x_EQ)]))) (fun _ k => st1 _ k) ?_
  obtain ⟨fs, hr, hrun, hended, hW, hsame⟩ := X1.leave (v := some (.ref x_EQ)) (fun h => by rw [Bd.returns] at h; cases h)
  exact ⟨_, _, retOut X1 hx Bd.returns rfl (Or.inr (Or.inr (Or.inr (Or.inr ⟨rfl, rfl, rfl⟩)))) (hb hby d1_7) hr, hrun, hended, _, _, rfl, (show Qrmp0 Z x_EQ h0 n0 _ T1.heap _ from (by rw [e1]; exact ⟨rfl, N0, rfl⟩)), ⟨_, rfl⟩, hW, hsame.mono (by decide) (by decide)⟩
theorem ef_rmp1 (m : MethodId) (x0 : Int32) : entryFrame m #[(.int x0)] 1 = mkF m 0 #[.val (.int x0)] [] := by first | (simp [entryFrame, mkF, argsToLocals, Value.category]; done) | rfl
def Qrmp1 (Z : State) (x_NE : Addr) (h0 : Heap) (n0 : Nat) (v : Option Value) (h : Heap) (L : List Loc) : Prop := v = some (.ref x_NE) ∧ Fr n0 L ∧ h = h0
set_option maxRecDepth 65536 in
set_option maxHeartbeats 40000000 in
theorem rmp1 (l : Launch) (Z : State) (a0 : Array Value) (hw : ∀ d ∈ tables_1, d.before a0 Z = true) (ws : List Jvm.Cond) (x_NE : Addr) (h0 : Heap) (n0 : Nat) (Z0 : n0 ≤ h0.size) (O0 : Old Z n0 h0) (S_NE : Sta Z Z.heap "com/example/urd/urd/functions/ComparisonOperator" "NE" "Lcom/example/urd/urd/functions/ComparisonOperator;" (.ref x_NE)) :
    MetFree l (⟨"com/example/urd/urd/functions/ComparisonOperatorReversedPinLaw", "pick", "(I)Lcom/example/urd/urd/functions/ComparisonOperator;"⟩ : MethodName) (head1 (Jvm.Cond.code (⟨"com/example/urd/urd/functions/ComparisonOperatorReversedPinLaw", "pick", "(I)Lcom/example/urd/urd/functions/ComparisonOperator;"⟩ : MethodName) method_2_code 1 (some (.object "com/example/urd/urd/functions/ComparisonOperator")) :: ws) ({ frames := 0, cells := 0, slots := 0, locals := 0 } : Room)) (fun a U => a = #[(.int (1 : Int32))] ∧ Z.Warmed39 U.vm ∧ U.heap = h0) (fun _ _ _ _ _ => True) (fun _ U o U' => ∃ v L, o = .returned v ∧ Qrmp1 Z x_NE h0 n0 v U'.heap L ∧ FrameEnd U o U' L ({ frames := 0, cells := 0, slots := 0, locals := 0 } : Room).cells ({ frames := 0, cells := 0, slots := 0, locals := 0 } : Room).slots) := by
  refine MetFree.of_bodySF (plainFor_of_name pn_1) hisR ?_
  intro p e s m args below meth c s₁ Bd hml0 hP hK
  obtain ⟨rfl, hZ, hh⟩ := hP
  have hx := Bd.exec
  have hby := Bd.bytes
  have hml : c.maxLocals = 1 := hml0
  have hown : s.vm.findClass "com/example/urd/urd/functions/ComparisonOperatorReversedPinLaw" = some m.cls := findClass_of_methodNamed Bd.named
  have hnm := (name_of_methodNamed Bd.named Bd.method).1
  have X0 : Stand p l e ({ frames := 0, cells := 0, slots := 0, locals := 0 } : Room) s m #[(.int (1 : Int32))] below meth c s₁ [] 0 0 := Stand.of_body Bd
  have e0 : s₁.heap = h0 := by rw [← hh, Bd.state]; rfl
  have N0 := Fr.nil n0
  refine own_go (b := (s₁.setTop (mkF m 0 #[.val (.int (1 : Int32))] []))) (fun _ k => castTop (ef_rmp1 m (1 : Int32)) k) ?_
  refine own_go (b := (s₁.setTop (mkF m 13 #[.val (.int (1 : Int32))] []))) (fun _ k => XS.iloadN X0.here hx rfl (hb hby d1_0) rfl (XS.ifYes X0.here hx rfl (pc0 := 1) (pc' := 8) rfl (hb hby d1_1) rfl ((if0 _ _).trans (feq (by decide : ¬ ((1 : Int32) = (0 : Int32)))).2) (by decide) (by decide) (XS.iloadN X0.here hx rfl (hb hby d1_8) rfl (XS.iconst X0.here hx rfl (hb hby d1_9) (XS.icmpNo X0.here hx rfl (hb hby d1_10) rfl (teq (rfl : (1 : Int32) = (1 : Int32))).2 k))))) ?_
  obtain ⟨T1, X1, e1, st1⟩ := getS2 X0 hx hZ hown (host := "") (Or.inl (hw _ (List.mem_of_getElem? (i := 30) rfl))) Via.refl e0 (S_NE.ext O0.2) (g := (mkF m 13 #[.val (.int (1 : Int32))] [])) rfl (hb hby d1_13)
  refine own_go (b := (T1.setTop (mkF m 16 #[.val (.int (1 : Int32))] [(.ref x_NE)]))) (fun _ k => st1 _ k) ?_
  obtain ⟨fs, hr, hrun, hended, hW, hsame⟩ := X1.leave (v := some (.ref x_NE)) (fun h => by rw [Bd.returns] at h; cases h)
  exact ⟨_, _, retOut X1 hx Bd.returns rfl (Or.inr (Or.inr (Or.inr (Or.inr ⟨rfl, rfl, rfl⟩)))) (hb hby d1_16) hr, hrun, hended, _, _, rfl, (show Qrmp1 Z x_NE h0 n0 _ T1.heap _ from (by rw [e1]; exact ⟨rfl, N0, rfl⟩)), ⟨_, rfl⟩, hW, hsame.mono (by decide) (by decide)⟩
theorem ef_rmp2 (m : MethodId) (x0 : Int32) : entryFrame m #[(.int x0)] 1 = mkF m 0 #[.val (.int x0)] [] := by first | (simp [entryFrame, mkF, argsToLocals, Value.category]; done) | rfl
def Qrmp2 (Z : State) (x_LT : Addr) (h0 : Heap) (n0 : Nat) (v : Option Value) (h : Heap) (L : List Loc) : Prop := v = some (.ref x_LT) ∧ Fr n0 L ∧ h = h0
set_option maxRecDepth 65536 in
set_option maxHeartbeats 40000000 in
theorem rmp2 (l : Launch) (Z : State) (a0 : Array Value) (hw : ∀ d ∈ tables_1, d.before a0 Z = true) (ws : List Jvm.Cond) (x_LT : Addr) (h0 : Heap) (n0 : Nat) (Z0 : n0 ≤ h0.size) (O0 : Old Z n0 h0) (S_LT : Sta Z Z.heap "com/example/urd/urd/functions/ComparisonOperator" "LT" "Lcom/example/urd/urd/functions/ComparisonOperator;" (.ref x_LT)) :
    MetFree l (⟨"com/example/urd/urd/functions/ComparisonOperatorReversedPinLaw", "pick", "(I)Lcom/example/urd/urd/functions/ComparisonOperator;"⟩ : MethodName) (head1 (Jvm.Cond.code (⟨"com/example/urd/urd/functions/ComparisonOperatorReversedPinLaw", "pick", "(I)Lcom/example/urd/urd/functions/ComparisonOperator;"⟩ : MethodName) method_2_code 1 (some (.object "com/example/urd/urd/functions/ComparisonOperator")) :: ws) ({ frames := 0, cells := 0, slots := 0, locals := 0 } : Room)) (fun a U => a = #[(.int (2 : Int32))] ∧ Z.Warmed39 U.vm ∧ U.heap = h0) (fun _ _ _ _ _ => True) (fun _ U o U' => ∃ v L, o = .returned v ∧ Qrmp2 Z x_LT h0 n0 v U'.heap L ∧ FrameEnd U o U' L ({ frames := 0, cells := 0, slots := 0, locals := 0 } : Room).cells ({ frames := 0, cells := 0, slots := 0, locals := 0 } : Room).slots) := by
  refine MetFree.of_bodySF (plainFor_of_name pn_1) hisR ?_
  intro p e s m args below meth c s₁ Bd hml0 hP hK
  obtain ⟨rfl, hZ, hh⟩ := hP
  have hx := Bd.exec
  have hby := Bd.bytes
  have hml : c.maxLocals = 1 := hml0
  have hown : s.vm.findClass "com/example/urd/urd/functions/ComparisonOperatorReversedPinLaw" = some m.cls := findClass_of_methodNamed Bd.named
  have hnm := (name_of_methodNamed Bd.named Bd.method).1
  have X0 : Stand p l e ({ frames := 0, cells := 0, slots := 0, locals := 0 } : Room) s m #[(.int (2 : Int32))] below meth c s₁ [] 0 0 := Stand.of_body Bd
  have e0 : s₁.heap = h0 := by rw [← hh, Bd.state]; rfl
  have N0 := Fr.nil n0
  refine own_go (b := (s₁.setTop (mkF m 0 #[.val (.int (2 : Int32))] []))) (fun _ k => castTop (ef_rmp2 m (2 : Int32)) k) ?_
  refine own_go (b := (s₁.setTop (mkF m 22 #[.val (.int (2 : Int32))] []))) (fun _ k => XS.iloadN X0.here hx rfl (hb hby d1_0) rfl (XS.ifYes X0.here hx rfl (pc0 := 1) (pc' := 8) rfl (hb hby d1_1) rfl ((if0 _ _).trans (feq (by decide : ¬ ((2 : Int32) = (0 : Int32)))).2) (by decide) (by decide) (XS.iloadN X0.here hx rfl (hb hby d1_8) rfl (XS.iconst X0.here hx rfl (hb hby d1_9) (XS.icmpYes X0.here hx rfl (pc0 := 10) (pc' := 17) rfl (hb hby d1_10) rfl (feq (by decide : ¬ ((2 : Int32) = (1 : Int32)))).2 (by decide) (by decide) (XS.iloadN X0.here hx rfl (hb hby d1_17) rfl (XS.iconst X0.here hx rfl (hb hby d1_18) (XS.icmpNo X0.here hx rfl (hb hby d1_19) rfl (teq (rfl : (2 : Int32) = (2 : Int32))).2 k)))))))) ?_
  obtain ⟨T1, X1, e1, st1⟩ := getS2 X0 hx hZ hown (host := "") (Or.inl (hw _ (List.mem_of_getElem? (i := 43) rfl))) Via.refl e0 (S_LT.ext O0.2) (g := (mkF m 22 #[.val (.int (2 : Int32))] [])) rfl (hb hby d1_22)
  refine own_go (b := (T1.setTop (mkF m 25 #[.val (.int (2 : Int32))] [(.ref x_LT)]))) (fun _ k => st1 _ k) ?_
  obtain ⟨fs, hr, hrun, hended, hW, hsame⟩ := X1.leave (v := some (.ref x_LT)) (fun h => by rw [Bd.returns] at h; cases h)
  exact ⟨_, _, retOut X1 hx Bd.returns rfl (Or.inr (Or.inr (Or.inr (Or.inr ⟨rfl, rfl, rfl⟩)))) (hb hby d1_25) hr, hrun, hended, _, _, rfl, (show Qrmp2 Z x_LT h0 n0 _ T1.heap _ from (by rw [e1]; exact ⟨rfl, N0, rfl⟩)), ⟨_, rfl⟩, hW, hsame.mono (by decide) (by decide)⟩
theorem ef_rmp3 (m : MethodId) (x0 : Int32) : entryFrame m #[(.int x0)] 1 = mkF m 0 #[.val (.int x0)] [] := by first | (simp [entryFrame, mkF, argsToLocals, Value.category]; done) | rfl
def Qrmp3 (Z : State) (x_LE : Addr) (h0 : Heap) (n0 : Nat) (v : Option Value) (h : Heap) (L : List Loc) : Prop := v = some (.ref x_LE) ∧ Fr n0 L ∧ h = h0
set_option maxRecDepth 65536 in
set_option maxHeartbeats 40000000 in
theorem rmp3 (l : Launch) (Z : State) (a0 : Array Value) (hw : ∀ d ∈ tables_1, d.before a0 Z = true) (ws : List Jvm.Cond) (x_LE : Addr) (h0 : Heap) (n0 : Nat) (Z0 : n0 ≤ h0.size) (O0 : Old Z n0 h0) (S_LE : Sta Z Z.heap "com/example/urd/urd/functions/ComparisonOperator" "LE" "Lcom/example/urd/urd/functions/ComparisonOperator;" (.ref x_LE)) :
    MetFree l (⟨"com/example/urd/urd/functions/ComparisonOperatorReversedPinLaw", "pick", "(I)Lcom/example/urd/urd/functions/ComparisonOperator;"⟩ : MethodName) (head1 (Jvm.Cond.code (⟨"com/example/urd/urd/functions/ComparisonOperatorReversedPinLaw", "pick", "(I)Lcom/example/urd/urd/functions/ComparisonOperator;"⟩ : MethodName) method_2_code 1 (some (.object "com/example/urd/urd/functions/ComparisonOperator")) :: ws) ({ frames := 0, cells := 0, slots := 0, locals := 0 } : Room)) (fun a U => a = #[(.int (3 : Int32))] ∧ Z.Warmed39 U.vm ∧ U.heap = h0) (fun _ _ _ _ _ => True) (fun _ U o U' => ∃ v L, o = .returned v ∧ Qrmp3 Z x_LE h0 n0 v U'.heap L ∧ FrameEnd U o U' L ({ frames := 0, cells := 0, slots := 0, locals := 0 } : Room).cells ({ frames := 0, cells := 0, slots := 0, locals := 0 } : Room).slots) := by
  refine MetFree.of_bodySF (plainFor_of_name pn_1) hisR ?_
  intro p e s m args below meth c s₁ Bd hml0 hP hK
  obtain ⟨rfl, hZ, hh⟩ := hP
  have hx := Bd.exec
  have hby := Bd.bytes
  have hml : c.maxLocals = 1 := hml0
  have hown : s.vm.findClass "com/example/urd/urd/functions/ComparisonOperatorReversedPinLaw" = some m.cls := findClass_of_methodNamed Bd.named
  have hnm := (name_of_methodNamed Bd.named Bd.method).1
  have X0 : Stand p l e ({ frames := 0, cells := 0, slots := 0, locals := 0 } : Room) s m #[(.int (3 : Int32))] below meth c s₁ [] 0 0 := Stand.of_body Bd
  have e0 : s₁.heap = h0 := by rw [← hh, Bd.state]; rfl
  have N0 := Fr.nil n0
  refine own_go (b := (s₁.setTop (mkF m 0 #[.val (.int (3 : Int32))] []))) (fun _ k => castTop (ef_rmp3 m (3 : Int32)) k) ?_
  refine own_go (b := (s₁.setTop (mkF m 28 #[.val (.int (3 : Int32))] [(.int (3 : Int32)), (.int (3 : Int32))]))) (fun _ k => XS.iloadN X0.here hx rfl (hb hby d1_0) rfl (XS.ifYes X0.here hx rfl (pc0 := 1) (pc' := 8) rfl (hb hby d1_1) rfl ((if0 _ _).trans (feq (by decide : ¬ ((3 : Int32) = (0 : Int32)))).2) (by decide) (by decide) (XS.iloadN X0.here hx rfl (hb hby d1_8) rfl (XS.iconst X0.here hx rfl (hb hby d1_9) (XS.icmpYes X0.here hx rfl (pc0 := 10) (pc' := 17) rfl (hb hby d1_10) rfl (feq (by decide : ¬ ((3 : Int32) = (1 : Int32)))).2 (by decide) (by decide) (XS.iloadN X0.here hx rfl (hb hby d1_17) rfl (XS.iconst X0.here hx rfl (hb hby d1_18) (XS.icmpYes X0.here hx rfl (pc0 := 19) (pc' := 26) rfl (hb hby d1_19) rfl (feq (by decide : ¬ ((3 : Int32) = (2 : Int32)))).2 (by decide) (by decide) (XS.iloadN X0.here hx rfl (hb hby d1_26) rfl (XS.iconst X0.here hx rfl (hb hby d1_27) k)))))))))) ?_
  refine own_go (b := (s₁.setTop (mkF m 31 #[.val (.int (3 : Int32))] []))) (fun _ k => XS.icmpNo X0.here hx rfl (hb hby d1_28) rfl (teq (rfl : (3 : Int32) = (3 : Int32))).2 k) ?_
  obtain ⟨T1, X1, e1, st1⟩ := getS2 X0 hx hZ hown (host := "") (Or.inl (hw _ (List.mem_of_getElem? (i := 37) rfl))) Via.refl e0 (S_LE.ext O0.2) (g := (mkF m 31 #[.val (.int (3 : Int32))] [])) rfl (hb hby d1_31)
  refine own_go (b := (T1.setTop (mkF m 34 #[.val (.int (3 : Int32))] [(.ref x_LE)]))) (fun _ k => st1 _ k) ?_
  obtain ⟨fs, hr, hrun, hended, hW, hsame⟩ := X1.leave (v := some (.ref x_LE)) (fun h => by rw [Bd.returns] at h; cases h)
  exact ⟨_, _, retOut X1 hx Bd.returns rfl (Or.inr (Or.inr (Or.inr (Or.inr ⟨rfl, rfl, rfl⟩)))) (hb hby d1_34) hr, hrun, hended, _, _, rfl, (show Qrmp3 Z x_LE h0 n0 _ T1.heap _ from (by rw [e1]; exact ⟨rfl, N0, rfl⟩)), ⟨_, rfl⟩, hW, hsame.mono (by decide) (by decide)⟩
theorem ef_rmp4 (m : MethodId) (x0 : Int32) : entryFrame m #[(.int x0)] 1 = mkF m 0 #[.val (.int x0)] [] := by first | (simp [entryFrame, mkF, argsToLocals, Value.category]; done) | rfl
def Qrmp4 (Z : State) (x_GT : Addr) (h0 : Heap) (n0 : Nat) (v : Option Value) (h : Heap) (L : List Loc) : Prop := v = some (.ref x_GT) ∧ Fr n0 L ∧ h = h0
set_option maxRecDepth 65536 in
set_option maxHeartbeats 40000000 in
theorem rmp4 (l : Launch) (Z : State) (a0 : Array Value) (hw : ∀ d ∈ tables_1, d.before a0 Z = true) (ws : List Jvm.Cond) (x_GT : Addr) (h0 : Heap) (n0 : Nat) (Z0 : n0 ≤ h0.size) (O0 : Old Z n0 h0) (S_GT : Sta Z Z.heap "com/example/urd/urd/functions/ComparisonOperator" "GT" "Lcom/example/urd/urd/functions/ComparisonOperator;" (.ref x_GT)) :
    MetFree l (⟨"com/example/urd/urd/functions/ComparisonOperatorReversedPinLaw", "pick", "(I)Lcom/example/urd/urd/functions/ComparisonOperator;"⟩ : MethodName) (head1 (Jvm.Cond.code (⟨"com/example/urd/urd/functions/ComparisonOperatorReversedPinLaw", "pick", "(I)Lcom/example/urd/urd/functions/ComparisonOperator;"⟩ : MethodName) method_2_code 1 (some (.object "com/example/urd/urd/functions/ComparisonOperator")) :: ws) ({ frames := 0, cells := 0, slots := 0, locals := 0 } : Room)) (fun a U => a = #[(.int (4 : Int32))] ∧ Z.Warmed39 U.vm ∧ U.heap = h0) (fun _ _ _ _ _ => True) (fun _ U o U' => ∃ v L, o = .returned v ∧ Qrmp4 Z x_GT h0 n0 v U'.heap L ∧ FrameEnd U o U' L ({ frames := 0, cells := 0, slots := 0, locals := 0 } : Room).cells ({ frames := 0, cells := 0, slots := 0, locals := 0 } : Room).slots) := by
  refine MetFree.of_bodySF (plainFor_of_name pn_1) hisR ?_
  intro p e s m args below meth c s₁ Bd hml0 hP hK
  obtain ⟨rfl, hZ, hh⟩ := hP
  have hx := Bd.exec
  have hby := Bd.bytes
  have hml : c.maxLocals = 1 := hml0
  have hown : s.vm.findClass "com/example/urd/urd/functions/ComparisonOperatorReversedPinLaw" = some m.cls := findClass_of_methodNamed Bd.named
  have hnm := (name_of_methodNamed Bd.named Bd.method).1
  have X0 : Stand p l e ({ frames := 0, cells := 0, slots := 0, locals := 0 } : Room) s m #[(.int (4 : Int32))] below meth c s₁ [] 0 0 := Stand.of_body Bd
  have e0 : s₁.heap = h0 := by rw [← hh, Bd.state]; rfl
  have N0 := Fr.nil n0
  refine own_go (b := (s₁.setTop (mkF m 0 #[.val (.int (4 : Int32))] []))) (fun _ k => castTop (ef_rmp4 m (4 : Int32)) k) ?_
  refine own_go (b := (s₁.setTop (mkF m 28 #[.val (.int (4 : Int32))] [(.int (3 : Int32)), (.int (4 : Int32))]))) (fun _ k => XS.iloadN X0.here hx rfl (hb hby d1_0) rfl (XS.ifYes X0.here hx rfl (pc0 := 1) (pc' := 8) rfl (hb hby d1_1) rfl ((if0 _ _).trans (feq (by decide : ¬ ((4 : Int32) = (0 : Int32)))).2) (by decide) (by decide) (XS.iloadN X0.here hx rfl (hb hby d1_8) rfl (XS.iconst X0.here hx rfl (hb hby d1_9) (XS.icmpYes X0.here hx rfl (pc0 := 10) (pc' := 17) rfl (hb hby d1_10) rfl (feq (by decide : ¬ ((4 : Int32) = (1 : Int32)))).2 (by decide) (by decide) (XS.iloadN X0.here hx rfl (hb hby d1_17) rfl (XS.iconst X0.here hx rfl (hb hby d1_18) (XS.icmpYes X0.here hx rfl (pc0 := 19) (pc' := 26) rfl (hb hby d1_19) rfl (feq (by decide : ¬ ((4 : Int32) = (2 : Int32)))).2 (by decide) (by decide) (XS.iloadN X0.here hx rfl (hb hby d1_26) rfl (XS.iconst X0.here hx rfl (hb hby d1_27) k)))))))))) ?_
  refine own_go (b := (s₁.setTop (mkF m 40 #[.val (.int (4 : Int32))] []))) (fun _ k => XS.icmpYes X0.here hx rfl (pc0 := 28) (pc' := 35) rfl (hb hby d1_28) rfl (feq (by decide : ¬ ((4 : Int32) = (3 : Int32)))).2 (by decide) (by decide) (XS.iloadN X0.here hx rfl (hb hby d1_35) rfl (XS.iconst X0.here hx rfl (hb hby d1_36) (XS.icmpNo X0.here hx rfl (hb hby d1_37) rfl (teq (rfl : (4 : Int32) = (4 : Int32))).2 k)))) ?_
  obtain ⟨T1, X1, e1, st1⟩ := getS2 X0 hx hZ hown (host := "") (Or.inl (hw _ (List.mem_of_getElem? (i := 32) rfl))) Via.refl e0 (S_GT.ext O0.2) (g := (mkF m 40 #[.val (.int (4 : Int32))] [])) rfl (hb hby d1_40)
  refine own_go (b := (T1.setTop (mkF m 43 #[.val (.int (4 : Int32))] [(.ref x_GT)]))) (fun _ k => st1 _ k) ?_
  obtain ⟨fs, hr, hrun, hended, hW, hsame⟩ := X1.leave (v := some (.ref x_GT)) (fun h => by rw [Bd.returns] at h; cases h)
  exact ⟨_, _, retOut X1 hx Bd.returns rfl (Or.inr (Or.inr (Or.inr (Or.inr ⟨rfl, rfl, rfl⟩)))) (hb hby d1_43) hr, hrun, hended, _, _, rfl, (show Qrmp4 Z x_GT h0 n0 _ T1.heap _ from (by rw [e1]; exact ⟨rfl, N0, rfl⟩)), ⟨_, rfl⟩, hW, hsame.mono (by decide) (by decide)⟩
theorem ef_rmp5 (m : MethodId) (x0 : Int32) : entryFrame m #[(.int x0)] 1 = mkF m 0 #[.val (.int x0)] [] := by first | (simp [entryFrame, mkF, argsToLocals, Value.category]; done) | rfl
def Qrmp5 (Z : State) (x_GE : Addr) (h0 : Heap) (n0 : Nat) (v : Option Value) (h : Heap) (L : List Loc) : Prop := v = some (.ref x_GE) ∧ Fr n0 L ∧ h = h0
set_option maxRecDepth 65536 in
set_option maxHeartbeats 40000000 in
theorem rmp5 (l : Launch) (Z : State) (a0 : Array Value) (hw : ∀ d ∈ tables_1, d.before a0 Z = true) (ws : List Jvm.Cond) (x_GE : Addr) (h0 : Heap) (n0 : Nat) (Z0 : n0 ≤ h0.size) (O0 : Old Z n0 h0) (S_GE : Sta Z Z.heap "com/example/urd/urd/functions/ComparisonOperator" "GE" "Lcom/example/urd/urd/functions/ComparisonOperator;" (.ref x_GE)) :
    MetFree l (⟨"com/example/urd/urd/functions/ComparisonOperatorReversedPinLaw", "pick", "(I)Lcom/example/urd/urd/functions/ComparisonOperator;"⟩ : MethodName) (head1 (Jvm.Cond.code (⟨"com/example/urd/urd/functions/ComparisonOperatorReversedPinLaw", "pick", "(I)Lcom/example/urd/urd/functions/ComparisonOperator;"⟩ : MethodName) method_2_code 1 (some (.object "com/example/urd/urd/functions/ComparisonOperator")) :: ws) ({ frames := 0, cells := 0, slots := 0, locals := 0 } : Room)) (fun a U => a = #[(.int (5 : Int32))] ∧ Z.Warmed39 U.vm ∧ U.heap = h0) (fun _ _ _ _ _ => True) (fun _ U o U' => ∃ v L, o = .returned v ∧ Qrmp5 Z x_GE h0 n0 v U'.heap L ∧ FrameEnd U o U' L ({ frames := 0, cells := 0, slots := 0, locals := 0 } : Room).cells ({ frames := 0, cells := 0, slots := 0, locals := 0 } : Room).slots) := by
  refine MetFree.of_bodySF (plainFor_of_name pn_1) hisR ?_
  intro p e s m args below meth c s₁ Bd hml0 hP hK
  obtain ⟨rfl, hZ, hh⟩ := hP
  have hx := Bd.exec
  have hby := Bd.bytes
  have hml : c.maxLocals = 1 := hml0
  have hown : s.vm.findClass "com/example/urd/urd/functions/ComparisonOperatorReversedPinLaw" = some m.cls := findClass_of_methodNamed Bd.named
  have hnm := (name_of_methodNamed Bd.named Bd.method).1
  have X0 : Stand p l e ({ frames := 0, cells := 0, slots := 0, locals := 0 } : Room) s m #[(.int (5 : Int32))] below meth c s₁ [] 0 0 := Stand.of_body Bd
  have e0 : s₁.heap = h0 := by rw [← hh, Bd.state]; rfl
  have N0 := Fr.nil n0
  refine own_go (b := (s₁.setTop (mkF m 0 #[.val (.int (5 : Int32))] []))) (fun _ k => castTop (ef_rmp5 m (5 : Int32)) k) ?_
  refine own_go (b := (s₁.setTop (mkF m 28 #[.val (.int (5 : Int32))] [(.int (3 : Int32)), (.int (5 : Int32))]))) (fun _ k => XS.iloadN X0.here hx rfl (hb hby d1_0) rfl (XS.ifYes X0.here hx rfl (pc0 := 1) (pc' := 8) rfl (hb hby d1_1) rfl ((if0 _ _).trans (feq (by decide : ¬ ((5 : Int32) = (0 : Int32)))).2) (by decide) (by decide) (XS.iloadN X0.here hx rfl (hb hby d1_8) rfl (XS.iconst X0.here hx rfl (hb hby d1_9) (XS.icmpYes X0.here hx rfl (pc0 := 10) (pc' := 17) rfl (hb hby d1_10) rfl (feq (by decide : ¬ ((5 : Int32) = (1 : Int32)))).2 (by decide) (by decide) (XS.iloadN X0.here hx rfl (hb hby d1_17) rfl (XS.iconst X0.here hx rfl (hb hby d1_18) (XS.icmpYes X0.here hx rfl (pc0 := 19) (pc' := 26) rfl (hb hby d1_19) rfl (feq (by decide : ¬ ((5 : Int32) = (2 : Int32)))).2 (by decide) (by decide) (XS.iloadN X0.here hx rfl (hb hby d1_26) rfl (XS.iconst X0.here hx rfl (hb hby d1_27) k)))))))))) ?_
  refine own_go (b := (s₁.setTop (mkF m 44 #[.val (.int (5 : Int32))] []))) (fun _ k => XS.icmpYes X0.here hx rfl (pc0 := 28) (pc' := 35) rfl (hb hby d1_28) rfl (feq (by decide : ¬ ((5 : Int32) = (3 : Int32)))).2 (by decide) (by decide) (XS.iloadN X0.here hx rfl (hb hby d1_35) rfl (XS.iconst X0.here hx rfl (hb hby d1_36) (XS.icmpYes X0.here hx rfl (pc0 := 37) (pc' := 44) rfl (hb hby d1_37) rfl (feq (by decide : ¬ ((5 : Int32) = (4 : Int32)))).2 (by decide) (by decide) k)))) ?_
  obtain ⟨T1, X1, e1, st1⟩ := getS2 X0 hx hZ hown (host := "") (Or.inl (hw _ (List.mem_of_getElem? (i := 42) rfl))) Via.refl e0 (S_GE.ext O0.2) (g := (mkF m 44 #[.val (.int (5 : Int32))] [])) rfl (hb hby d1_44)
  refine own_go (b := (T1.setTop (mkF m 47 #[.val (.int (5 : Int32))] [(.ref x_GE)]))) (fun _ k => st1 _ k) ?_
  obtain ⟨fs, hr, hrun, hended, hW, hsame⟩ := X1.leave (v := some (.ref x_GE)) (fun h => by rw [Bd.returns] at h; cases h)
  exact ⟨_, _, retOut X1 hx Bd.returns rfl (Or.inr (Or.inr (Or.inr (Or.inr ⟨rfl, rfl, rfl⟩)))) (hb hby d1_47) hr, hrun, hended, _, _, rfl, (show Qrmp5 Z x_GE h0 n0 _ T1.heap _ from (by rw [e1]; exact ⟨rfl, N0, rfl⟩)), ⟨_, rfl⟩, hW, hsame.mono (by decide) (by decide)⟩
theorem d4_0 : decode method_3_code 0 = .ok (.iload_n 0, 1) := by decide +kernel
theorem d4_1 : decode method_3_code 1 = .ok (.iload_n 1, 1) := by decide +kernel
theorem d4_2 : decode method_3_code 2 = .ok (.if_icmp .ge 5, 3) := by decide +kernel
theorem d4_5 : decode method_3_code 5 = .ok (.iconst (-1), 1) := by decide +kernel
theorem d4_6 : decode method_3_code 6 = .ok (.ireturn, 1) := by decide +kernel
theorem d4_7 : decode method_3_code 7 = .ok (.iload_n 0, 1) := by decide +kernel
theorem d4_8 : decode method_3_code 8 = .ok (.iload_n 1, 1) := by decide +kernel
theorem d4_9 : decode method_3_code 9 = .ok (.if_icmp .ne 5, 3) := by decide +kernel
theorem d4_12 : decode method_3_code 12 = .ok (.iconst 0, 1) := by decide +kernel
theorem d4_13 : decode method_3_code 13 = .ok (.ireturn, 1) := by decide +kernel
theorem d4_14 : decode method_3_code 14 = .ok (.iconst 1, 1) := by decide +kernel
theorem d4_15 : decode method_3_code 15 = .ok (.ireturn, 1) := by decide +kernel
theorem pn_4 : plainName "com/example/urd/urd/functions/ComparisonOperatorReversedPinLaw" = true := by first | (simp [plainName, overriddenIn]; done) | decide +kernel
theorem ef_rms (m : MethodId) (x0 : Int32) (x1 : Int32) : entryFrame m #[(.int x0), (.int x1)] 2 = mkF m 0 #[.val (.int x0), .val (.int x1)] [] := by first | (simp [entryFrame, mkF, argsToLocals, Value.category]; done) | rfl
def Qrms (Z : State) (p1 : Int32) (p2 : Int32) (h0 : Heap) (n0 : Nat) (v : Option Value) (h : Heap) (L : List Loc) : Prop := v = some (.int (own_sign p1 p2)) ∧ Fr n0 L ∧ h = h0
set_option maxRecDepth 65536 in
set_option maxHeartbeats 40000000 in
theorem rms (l : Launch) (Z : State) (a0 : Array Value) (hw : ∀ d ∈ tables_1, d.before a0 Z = true) (ws : List Jvm.Cond) (p1 : Int32) (p2 : Int32) (h0 : Heap) (n0 : Nat) (Z0 : n0 ≤ h0.size) :
    MetFree l (⟨"com/example/urd/urd/functions/ComparisonOperatorReversedPinLaw", "sign", "(II)I"⟩ : MethodName) (head1 (Jvm.Cond.code (⟨"com/example/urd/urd/functions/ComparisonOperatorReversedPinLaw", "sign", "(II)I"⟩ : MethodName) method_3_code 2 (some .int) :: ws) ({ frames := 0, cells := 0, slots := 0, locals := 0 } : Room)) (fun a U => a = #[(.int p1), (.int p2)] ∧ Z.Warmed39 U.vm ∧ U.heap = h0) (fun _ _ _ _ _ => True) (fun _ U o U' => ∃ v L, o = .returned v ∧ Qrms Z p1 p2 h0 n0 v U'.heap L ∧ FrameEnd U o U' L ({ frames := 0, cells := 0, slots := 0, locals := 0 } : Room).cells ({ frames := 0, cells := 0, slots := 0, locals := 0 } : Room).slots) := by
  refine MetFree.of_bodySF (plainFor_of_name pn_4) hisR ?_
  intro p e s m args below meth c s₁ Bd hml0 hP hK
  obtain ⟨rfl, hZ, hh⟩ := hP
  have hx := Bd.exec
  have hby := Bd.bytes
  have hml : c.maxLocals = 2 := hml0
  have hown : s.vm.findClass "com/example/urd/urd/functions/ComparisonOperatorReversedPinLaw" = some m.cls := findClass_of_methodNamed Bd.named
  have hnm := (name_of_methodNamed Bd.named Bd.method).1
  have X0 : Stand p l e ({ frames := 0, cells := 0, slots := 0, locals := 0 } : Room) s m #[(.int p1), (.int p2)] below meth c s₁ [] 0 0 := Stand.of_body Bd
  have e0 : s₁.heap = h0 := by rw [← hh, Bd.state]; rfl
  have N0 := Fr.nil n0
  refine own_go (b := (s₁.setTop (mkF m 0 #[.val (.int p1), .val (.int p2)] []))) (fun _ k => castTop (ef_rms m p1 p2) k) ?_
  refine own_go (b := (s₁.setTop (mkF m 2 #[.val (.int p1), .val (.int p2)] [(.int p2), (.int p1)]))) (fun _ k => XS.iloadN X0.here hx rfl (hb hby d4_0) rfl (XS.iloadN X0.here hx rfl (hb hby d4_1) rfl k)) ?_
  by_cases hc2_1 : p1 < p2
  · skip
    refine own_go (b := (s₁.setTop (mkF m 6 #[.val (.int p1), .val (.int p2)] [(.int (-1 : Int32))]))) (fun _ k => XS.icmpNo X0.here hx rfl (hb hby d4_2) rfl (tlt hc2_1).2.1 (XS.iconst X0.here hx rfl (hb hby d4_5) k)) ?_
    obtain ⟨fs, hr, hrun, hended, hW, hsame⟩ := X0.leave (v := some (.int (-1 : Int32))) (fun h => by rw [Bd.returns] at h; cases h)
    exact ⟨_, _, retOut X0 hx Bd.returns rfl (Or.inl ⟨rfl, Or.inl rfl, _, rfl⟩) (hb hby d4_6) hr, hrun, hended, _, _, rfl, (show Qrms Z p1 p2 h0 n0 _ s₁.heap _ from (by rw [e0]; exact ⟨(by simp [own_sign, hc2_1]), N0, rfl⟩)), ⟨_, rfl⟩, hW, hsame.mono (by decide) (by decide)⟩
  · skip
    refine own_go (b := (s₁.setTop (mkF m 9 #[.val (.int p1), .val (.int p2)] [(.int p2), (.int p1)]))) (fun _ k => XS.icmpYes X0.here hx rfl (pc0 := 2) (pc' := 7) rfl (hb hby d4_2) rfl (flt hc2_1).2.1 (by decide) (by decide) (XS.iloadN X0.here hx rfl (hb hby d4_7) rfl (XS.iloadN X0.here hx rfl (hb hby d4_8) rfl k))) ?_
    by_cases hc9_2 : p1 = p2
    · skip
      refine own_go (b := (s₁.setTop (mkF m 13 #[.val (.int p1), .val (.int p2)] [(.int (0 : Int32))]))) (fun _ k => XS.icmpNo X0.here hx rfl (hb hby d4_9) rfl (teq hc9_2).2 (XS.iconst X0.here hx rfl (hb hby d4_12) k)) ?_
      obtain ⟨fs, hr, hrun, hended, hW, hsame⟩ := X0.leave (v := some (.int (0 : Int32))) (fun h => by rw [Bd.returns] at h; cases h)
      exact ⟨_, _, retOut X0 hx Bd.returns rfl (Or.inl ⟨rfl, Or.inl rfl, _, rfl⟩) (hb hby d4_13) hr, hrun, hended, _, _, rfl, (show Qrms Z p1 p2 h0 n0 _ s₁.heap _ from (by rw [e0]; exact ⟨(by simp [own_sign, hc2_1, hc9_2]), N0, rfl⟩)), ⟨_, rfl⟩, hW, hsame.mono (by decide) (by decide)⟩
    · skip
      refine own_go (b := (s₁.setTop (mkF m 15 #[.val (.int p1), .val (.int p2)] [(.int (1 : Int32))]))) (fun _ k => XS.icmpYes X0.here hx rfl (pc0 := 9) (pc' := 14) rfl (hb hby d4_9) rfl (feq hc9_2).2 (by decide) (by decide) (XS.iconst X0.here hx rfl (hb hby d4_14) k)) ?_
      obtain ⟨fs, hr, hrun, hended, hW, hsame⟩ := X0.leave (v := some (.int (1 : Int32))) (fun h => by rw [Bd.returns] at h; cases h)
      exact ⟨_, _, retOut X0 hx Bd.returns rfl (Or.inl ⟨rfl, Or.inl rfl, _, rfl⟩) (hb hby d4_15) hr, hrun, hended, _, _, rfl, (show Qrms Z p1 p2 h0 n0 _ s₁.heap _ from (by rw [e0]; exact ⟨(by simp [own_sign, hc2_1, hc9_2]), N0, rfl⟩)), ⟨_, rfl⟩, hW, hsame.mono (by decide) (by decide)⟩
theorem pd__I_Lcom_example_urd_urd_functions_ComparisonOperator_ : parseMethodDescriptor "(I)Lcom/example/urd/urd/functions/ComparisonOperator;" = some ⟨[.int], some (.object "com/example/urd/urd/functions/ComparisonOperator")⟩ := by decide +kernel
theorem pd___Lcom_example_urd_urd_functions_ComparisonOperator_ : parseMethodDescriptor "()Lcom/example/urd/urd/functions/ComparisonOperator;" = some ⟨[], some (.object "com/example/urd/urd/functions/ComparisonOperator")⟩ := by decide +kernel
theorem pd__II_I : parseMethodDescriptor "(II)I" = some ⟨[.int, .int], some .int⟩ := by decide +kernel
theorem pd__I_Z : parseMethodDescriptor "(I)Z" = some ⟨[.int], some .boolean⟩ := by decide +kernel
theorem pn_0 : plainName "com/example/urd/urd/functions/ComparisonOperatorReversedPinLaw" = true := by first | (simp [plainName, overriddenIn]; done) | decide +kernel
theorem ef_rm0 (m : MethodId) (x0 : Int32) (x1 : Int32) (x2 : Int32) (x3 : Int32) : entryFrame m #[(.int x0), (.int x1), (.int x2), (.int x3)] maxLocals = mkF m 0 #[.val (.int x0), .val (.int x1), .val (.int x2), .val (.int x3), .unset, .unset, .unset, .unset, .unset] [] := by first | (simp [entryFrame, mkF, argsToLocals, Value.category, maxLocals]; done) | rfl
def Qrm0 (Z : State) (p0 : Int32) (p1 : Int32) (p2 : Int32) (p3 : Int32) (x_EQ : Addr) (x_NE : Addr) (x_LT : Addr) (x_LE : Addr) (x_GT : Addr) (x_GE : Addr) (h0 : Heap) (n0 : Nat) (v : Option Value) (h : Heap) (L : List Loc) : Prop := v = some (.int (1 : Int32)) ∧ Fr n0 L
set_option maxRecDepth 65536 in
set_option maxHeartbeats 40000000 in
theorem rm0 (l : Launch) (Z : State) (a0 : Array Value) (hw : ∀ d ∈ tables_1, d.before a0 Z = true) (ws : List Jvm.Cond) (p0 : Int32) (p1 : Int32) (p2 : Int32) (p3 : Int32) (x_EQ : Addr) (x_NE : Addr) (x_LT : Addr) (x_LE : Addr) (x_GT : Addr) (x_GE : Addr) (h0 : Heap) (n0 : Nat) (Z0 : n0 ≤ h0.size) (O0 : Old Z n0 h0) (S_EQ : Sta Z Z.heap "com/example/urd/urd/functions/ComparisonOperator" "EQ" "Lcom/example/urd/urd/functions/ComparisonOperator;" (.ref x_EQ)) (S_NE : Sta Z Z.heap "com/example/urd/urd/functions/ComparisonOperator" "NE" "Lcom/example/urd/urd/functions/ComparisonOperator;" (.ref x_NE)) (S_LT : Sta Z Z.heap "com/example/urd/urd/functions/ComparisonOperator" "LT" "Lcom/example/urd/urd/functions/ComparisonOperator;" (.ref x_LT)) (S_LE : Sta Z Z.heap "com/example/urd/urd/functions/ComparisonOperator" "LE" "Lcom/example/urd/urd/functions/ComparisonOperator;" (.ref x_LE)) (S_GT : Sta Z Z.heap "com/example/urd/urd/functions/ComparisonOperator" "GT" "Lcom/example/urd/urd/functions/ComparisonOperator;" (.ref x_GT)) (S_GE : Sta Z Z.heap "com/example/urd/urd/functions/ComparisonOperator" "GE" "Lcom/example/urd/urd/functions/ComparisonOperator;" (.ref x_GE)) (EZ_x_EQ : Exa Z Z.heap x_EQ "com/example/urd/urd/functions/ComparisonOperator") (EZ_x_NE : Exa Z Z.heap x_NE "com/example/urd/urd/functions/ComparisonOperator") (EZ_x_LT : Exa Z Z.heap x_LT "com/example/urd/urd/functions/ComparisonOperator") (EZ_x_LE : Exa Z Z.heap x_LE "com/example/urd/urd/functions/ComparisonOperator") (EZ_x_GT : Exa Z Z.heap x_GT "com/example/urd/urd/functions/ComparisonOperator") (EZ_x_GE : Exa Z Z.heap x_GE "com/example/urd/urd/functions/ComparisonOperator") (Fld0_x_EQ_ordinal : Fld Z Z.heap x_EQ "java/lang/Enum" "ordinal" "I" (.int (0 : Int32))) (Fld0_x_NE_ordinal : Fld Z Z.heap x_NE "java/lang/Enum" "ordinal" "I" (.int (1 : Int32))) (Fld0_x_LT_ordinal : Fld Z Z.heap x_LT "java/lang/Enum" "ordinal" "I" (.int (2 : Int32))) (Fld0_x_LE_ordinal : Fld Z Z.heap x_LE "java/lang/Enum" "ordinal" "I" (.int (3 : Int32))) (Fld0_x_GT_ordinal : Fld Z Z.heap x_GT "java/lang/Enum" "ordinal" "I" (.int (4 : Int32))) (Fld0_x_GE_ordinal : Fld Z Z.heap x_GE "java/lang/Enum" "ordinal" "I" (.int (5 : Int32))) :
    MetFree l x (head1 (Jvm.Cond.code x code maxLocals ret :: ws) room_1) (fun a U => a = #[(.int p0), (.int p1), (.int p2), (.int p3)] ∧ Z.Warmed39 U.vm ∧ U.heap = h0) (fun _ _ _ _ _ => True) (fun _ U o U' => ∃ v L, o = .returned v ∧ Qrm0 Z p0 p1 p2 p3 x_EQ x_NE x_LT x_LE x_GT x_GE h0 n0 v U'.heap L ∧ FrameEnd U o U' L room_1.cells room_1.slots) := by
  refine MetFree.of_bodySF (plainFor_of_name pn_0) hisR ?_
  intro p e s m args below meth c s₁ Bd hml0 hP hK
  obtain ⟨rfl, hZ, hh⟩ := hP
  have hx := Bd.exec
  have hby := Bd.bytes
  have hml : c.maxLocals = 9 := hml0
  have hown : s.vm.findClass "com/example/urd/urd/functions/ComparisonOperatorReversedPinLaw" = some m.cls := findClass_of_methodNamed Bd.named
  have hnm := (name_of_methodNamed Bd.named Bd.method).1
  have X0 : Stand p l e room_1 s m #[(.int p0), (.int p1), (.int p2), (.int p3)] below meth c s₁ [] 0 0 := Stand.of_body Bd
  have e0 : s₁.heap = h0 := by rw [← hh, Bd.state]; rfl
  have N0 := Fr.nil n0
  refine own_go (b := (s₁.setTop (mkF m 0 #[.val (.int p0), .val (.int p1), .val (.int p2), .val (.int p3), .unset, .unset, .unset, .unset, .unset] []))) (fun _ k => castTop (ef_rm0 m p0 p1 p2 p3) k) ?_
  refine own_go (b := (s₁.setTop (mkF m 7 #[.val (.int p0), .val (.int p1), .val (.int p2), .val (.int p3), .unset, .unset, .unset, .unset, .unset] [(.int ((p0 &&& (2147483647 : Int32)) % (6 : Int32)))]))) (fun _ k => XS.iloadN X0.here hx rfl (hb hby at_0) rfl (X0.ldcInt hx hown (mvT hZ (hw _ (List.mem_of_getElem? (i := 0) rfl))) (g := (mkF m 1 #[.val (.int p0), .val (.int p1), .val (.int p2), .val (.int p3), .unset, .unset, .unset, .unset, .unset] [(.int p0)])) rfl (hb hby at_1) _ (XS.iand X0.here hx rfl (hb hby at_3) rfl (XS.bipush X0.here hx rfl (hb hby at_4) (iremM (g := (mkF m 6 #[.val (.int p0), .val (.int p1), .val (.int p2), .val (.int p3), .unset, .unset, .unset, .unset, .unset] [(.int (6 : Int32)), (.int (p0 &&& (2147483647 : Int32)))])) X0 hx rfl (hb hby at_6) rfl (by decide) k))))) ?_
  rcases own_mod6 p0 with hk | hk | hk | hk | hk | hk
  · rw [hk]
    obtain ⟨_, _, ⟨T1, L1, k1, n1⟩, -, X1, ⟨Lc1, hQ1, l1, y1, z1⟩, st1⟩ := Jvm.LawKit.callS X0 hx (y := (⟨"com/example/urd/urd/functions/ComparisonOperatorReversedPinLaw", "pick", "(I)Lcom/example/urd/urd/functions/ComparisonOperator;"⟩ : MethodName)) hown (mvT hZ (hw _ (List.mem_of_getElem? (i := 1) rfl))) (mvT hZ (hw _ (List.mem_of_getElem? (i := 2) rfl))) (mvT hZ (hw _ (List.mem_of_getElem? (i := 3) rfl))) (mvT hZ (hw _ (List.mem_of_getElem? (i := 4) rfl))) (by decide) (backOf (W := 0) (rmp0 l Z a0 hw [] x_EQ h0 n0 Z0 O0 S_EQ) hZ (hw _ (List.mem_of_getElem? (i := 4) rfl)) (hw _ (List.mem_of_getElem? (i := 3) rfl)) (by decide) (by decide)) (g := (mkF m 7 #[.val (.int p0), .val (.int p1), .val (.int p2), .val (.int p3), .unset, .unset, .unset, .unset, .unset] [(.int (0 : Int32))])) rfl (by rw [hml]; rfl) (argsL := [(.int (0 : Int32))]) (rest := []) (lenOf pd__I_Lcom_example_urd_urd_functions_ComparisonOperator_ rfl) rfl (by show 2 * 0 + _ ≤ _; exact Nat.le_of_eq rfl) (hb hby at_7) (fun _ _ => ⟨rfl, e0, (by decide : 0 + 0 ≤ _), (by decide : 0 + 0 ≤ _)⟩)
    dsimp only [Pt.U, Pt.locs, Pt.cells, Pt.slots] at X1 l1 y1 z1 st1 hQ1
    subst l1 y1 z1
    obtain ⟨rfl, N1q, eh1⟩ := hQ1
    have N1 := Fr.app N0 N1q
    refine own_go (b := (T1.setTop (mkF m 15 #[.val (.int p0), .val (.int p1), .val (.int p2), .val (.int p3), .val (.ref x_EQ), .unset, .unset, .unset, .unset] [(.int (p3 &&& (1 : Int32)))]))) (fun _ k => st1 _ (XS.astore X1.here hx rfl (hb hby at_10) rfl rfl (l' := #[.val (.int p0), .val (.int p1), .val (.int p2), .val (.int p3), .val (.ref x_EQ), .unset, .unset, .unset, .unset]) rfl (XS.iloadN X1.here hx rfl (hb hby at_12) rfl (XS.iconst X1.here hx rfl (hb hby at_13) (XS.iand X1.here hx rfl (hb hby at_14) rfl k))))) ?_
    refine own_join (A := Int32) (C := fun yy => True) (f := fun yy => (T1.setTop (mkF m 23 #[.val (.int p0), .val (.int p1), .val (.int p2), .val (.int p3), .val (.ref x_EQ), .unset, .unset, .unset, .unset] [(.int yy)]))) ?_ ?_
    · intro yy hj2
      refine own_go (b := (T1.setTop (mkF m 27 #[.val (.int p0), .val (.int p1), .val (.int p2), .val (.int p3), .val (.ref x_EQ), .val (.int yy), .unset, .unset, .unset] [(.ref x_EQ)]))) (fun _ k => XS.istore X1.here hx rfl (hb hby at_23) rfl (l' := #[.val (.int p0), .val (.int p1), .val (.int p2), .val (.int p3), .val (.ref x_EQ), .val (.int yy), .unset, .unset, .unset]) rfl (XS.aload X1.here hx rfl (hb hby at_25) rfl rfl k)) ?_
      obtain ⟨cq3, kq3, q3a, q3b, q3c⟩ := isOf hZ eh1 (EZ_x_EQ.ext O0.2)
      obtain ⟨_, _, ⟨T3, L3, k3, n3⟩, -, X3, ⟨Lc3, hQ3, l3, y3, z3⟩, st3⟩ := X1.virtualBack hx (y := (⟨"com/example/urd/urd/functions/ComparisonOperator", "reversed", "()Lcom/example/urd/urd/functions/ComparisonOperator;"⟩ : MethodName)) (z := (⟨"com/example/urd/urd/functions/ComparisonOperator", "reversed", "()Lcom/example/urd/urd/functions/ComparisonOperator;"⟩ : MethodName)) hown (mvT hZ (hw _ (List.mem_of_getElem? (i := 8) rfl))) (mvT hZ (hw _ (List.mem_of_getElem? (i := 9) rfl))) (notFace_of_selects (args := #[]) (mvT hZ (hw _ (List.mem_of_getElem? (i := 11) rfl)))) (mvT hZ (hw _ (List.mem_of_getElem? (i := 11) rfl))) (mvT hZ (hw _ (List.mem_of_getElem? (i := 10) rfl))) (by decide) (backOf (W := 0) (rmr0 l Z a0 hw [] x_EQ h0 n0 Z0 O0 EZ_x_EQ Fld0_x_EQ_ordinal) hZ (hw _ (List.mem_of_getElem? (i := 12) rfl)) (hw _ (List.mem_of_getElem? (i := 6) rfl)) (by decide) (by decide)) q3a q3c (g := (mkF m 27 #[.val (.int p0), .val (.int p1), .val (.int p2), .val (.int p3), .val (.ref x_EQ), .val (.int yy), .unset, .unset, .unset] [(.ref x_EQ)])) rfl (by rw [hml]; rfl) (Steps.refl _) (argsL := []) (rest := []) (lenOf pd___Lcom_example_urd_urd_functions_ComparisonOperator_ rfl) rfl (by show 2 * 0 + _ ≤ _; exact Nat.le_of_eq rfl) (hb hby at_27) (fun _ _ => ⟨rfl, eh1, (by decide : 0 + 0 ≤ _), (by decide : 0 + 0 ≤ _)⟩)
      dsimp only [Pt.U, Pt.locs, Pt.cells, Pt.slots] at X3 l3 y3 z3 st3 hQ3
      subst l3 y3 z3
      obtain ⟨rfl, N3q, eh3⟩ := hQ3
      have N3 := Fr.app N1 N3q
      refine own_go (b := (T3.setTop (mkF m 44 #[.val (.int p0), .val (.int p1), .val (.int p2), .val (.int p3), .val (.ref x_EQ), .val (.int yy), .val (.ref x_EQ), .unset, .unset] [(.int p1), (.int yy), (.ref x_EQ)]))) (fun _ k => st3.trans (XS.astore X3.here hx rfl (hb hby at_30) rfl rfl (l' := #[.val (.int p0), .val (.int p1), .val (.int p2), .val (.int p3), .val (.ref x_EQ), .val (.int yy), .val (.ref x_EQ), .unset, .unset]) rfl (XS.aload X3.here hx rfl (hb hby at_32) rfl rfl (XS.ifnonnullYes X3.here hx rfl (pc0 := 34) (pc' := 39) rfl (hb hby at_34) rfl (by decide) (by decide) (XS.aload X3.here hx rfl (hb hby at_39) rfl rfl (XS.iload X3.here hx rfl (hb hby at_41) rfl (XS.iloadN X3.here hx rfl (hb hby at_43) rfl k))))))) ?_
      obtain ⟨_, _, ⟨T4, L4, k4, n4⟩, -, X4, ⟨Lc4, hQ4, l4, y4, z4⟩, st4⟩ := Jvm.LawKit.callS X3 hx (y := (⟨"com/example/urd/urd/functions/ComparisonOperatorReversedPinLaw", "sign", "(II)I"⟩ : MethodName)) hown (mvT hZ (hw _ (List.mem_of_getElem? (i := 22) rfl))) (mvT hZ (hw _ (List.mem_of_getElem? (i := 23) rfl))) (mvT hZ (hw _ (List.mem_of_getElem? (i := 3) rfl))) (mvT hZ (hw _ (List.mem_of_getElem? (i := 24) rfl))) (by decide) (backOf (W := 1) (rms l Z a0 hw [] yy p1 h0 n0 Z0) hZ (hw _ (List.mem_of_getElem? (i := 24) rfl)) (hw _ (List.mem_of_getElem? (i := 3) rfl)) (by decide) (by decide)) (g := (mkF m 44 #[.val (.int p0), .val (.int p1), .val (.int p2), .val (.int p3), .val (.ref x_EQ), .val (.int yy), .val (.ref x_EQ), .unset, .unset] [(.int p1), (.int yy), (.ref x_EQ)])) rfl (by rw [hml]; rfl) (argsL := [(.int yy), (.int p1)]) (rest := [(.ref x_EQ)]) (lenOf pd__II_I rfl) rfl (by show 2 * 0 + _ ≤ _; exact Nat.le_of_eq rfl) (hb hby at_44) (fun _ _ => ⟨rfl, eh3, (by decide : 0 + 0 ≤ _), (by decide : 0 + 0 ≤ _)⟩)
      dsimp only [Pt.U, Pt.locs, Pt.cells, Pt.slots] at X4 l4 y4 z4 st4 hQ4
      subst l4 y4 z4
      obtain ⟨rfl, N4q, eh4⟩ := hQ4
      have N4 := Fr.app N3 N4q
      refine own_go (b := (T4.setTop (mkF m 47 #[.val (.int p0), .val (.int p1), .val (.int p2), .val (.int p3), .val (.ref x_EQ), .val (.int yy), .val (.ref x_EQ), .unset, .unset] [(.int (own_sign yy p1)), (.ref x_EQ)]))) (fun _ k => st4 _ k) ?_
      obtain ⟨cq5, kq5, q5a, q5b, q5c⟩ := isOf hZ eh4 (EZ_x_EQ.ext O0.2)
      obtain ⟨_, _, ⟨T5, L5, k5, n5⟩, -, X5, ⟨Lc5, hQ5, l5, y5, z5⟩, st5⟩ := X4.virtualBack hx (y := (⟨"com/example/urd/urd/functions/ComparisonOperator", "holds", "(I)Z"⟩ : MethodName)) (z := (⟨"com/example/urd/urd/functions/ComparisonOperator", "holds", "(I)Z"⟩ : MethodName)) hown (mvT hZ (hw _ (List.mem_of_getElem? (i := 25) rfl))) (mvT hZ (hw _ (List.mem_of_getElem? (i := 26) rfl))) (notFace_of_selects (args := #[]) (mvT hZ (hw _ (List.mem_of_getElem? (i := 28) rfl)))) (mvT hZ (hw _ (List.mem_of_getElem? (i := 28) rfl))) (mvT hZ (hw _ (List.mem_of_getElem? (i := 27) rfl))) (by decide) (backOf (W := 0) (rmh0 l Z a0 hw [] x_EQ (own_sign yy p1) h0 n0 Z0 O0 EZ_x_EQ Fld0_x_EQ_ordinal) hZ (hw _ (List.mem_of_getElem? (i := 29) rfl)) (hw _ (List.mem_of_getElem? (i := 6) rfl)) (by decide) (by decide)) q5a q5c (g := (mkF m 47 #[.val (.int p0), .val (.int p1), .val (.int p2), .val (.int p3), .val (.ref x_EQ), .val (.int yy), .val (.ref x_EQ), .unset, .unset] [(.int (own_sign yy p1)), (.ref x_EQ)])) rfl (by rw [hml]; rfl) (Steps.refl _) (argsL := [(.int (own_sign yy p1))]) (rest := []) (lenOf pd__I_Z rfl) rfl (by show 2 * 0 + _ ≤ _; exact Nat.le_of_eq rfl) (hb hby at_47) (fun _ _ => ⟨rfl, eh4, (by decide : 0 + 0 ≤ _), (by decide : 0 + 0 ≤ _)⟩)
      dsimp only [Pt.U, Pt.locs, Pt.cells, Pt.slots] at X5 l5 y5 z5 st5 hQ5
      subst l5 y5 z5
      obtain ⟨rfl, N5q, eh5⟩ := hQ5
      have N5 := Fr.app N4 N5q
      refine own_go (b := (T5.setTop (mkF m 57 #[.val (.int p0), .val (.int p1), .val (.int p2), .val (.int p3), .val (.ref x_EQ), .val (.int yy), .val (.ref x_EQ), .val (.int (own_h0 (own_sign yy p1))), .unset] [(.int yy), (.int p1), (.ref x_EQ)]))) (fun _ k => st5.trans (XS.istore X5.here hx rfl (hb hby at_50) rfl (l' := #[.val (.int p0), .val (.int p1), .val (.int p2), .val (.int p3), .val (.ref x_EQ), .val (.int yy), .val (.ref x_EQ), .val (.int (own_h0 (own_sign yy p1))), .unset]) rfl (XS.aload X5.here hx rfl (hb hby at_52) rfl rfl (XS.iloadN X5.here hx rfl (hb hby at_54) rfl (XS.iload X5.here hx rfl (hb hby at_55) rfl k))))) ?_
      obtain ⟨_, _, ⟨T6, L6, k6, n6⟩, -, X6, ⟨Lc6, hQ6, l6, y6, z6⟩, st6⟩ := Jvm.LawKit.callS X5 hx (y := (⟨"com/example/urd/urd/functions/ComparisonOperatorReversedPinLaw", "sign", "(II)I"⟩ : MethodName)) hown (mvT hZ (hw _ (List.mem_of_getElem? (i := 22) rfl))) (mvT hZ (hw _ (List.mem_of_getElem? (i := 23) rfl))) (mvT hZ (hw _ (List.mem_of_getElem? (i := 3) rfl))) (mvT hZ (hw _ (List.mem_of_getElem? (i := 24) rfl))) (by decide) (backOf (W := 1) (rms l Z a0 hw [] p1 yy h0 n0 Z0) hZ (hw _ (List.mem_of_getElem? (i := 24) rfl)) (hw _ (List.mem_of_getElem? (i := 3) rfl)) (by decide) (by decide)) (g := (mkF m 57 #[.val (.int p0), .val (.int p1), .val (.int p2), .val (.int p3), .val (.ref x_EQ), .val (.int yy), .val (.ref x_EQ), .val (.int (own_h0 (own_sign yy p1))), .unset] [(.int yy), (.int p1), (.ref x_EQ)])) rfl (by rw [hml]; rfl) (argsL := [(.int p1), (.int yy)]) (rest := [(.ref x_EQ)]) (lenOf pd__II_I rfl) rfl (by show 2 * 0 + _ ≤ _; exact Nat.le_of_eq rfl) (hb hby at_57) (fun _ _ => ⟨rfl, eh5, (by decide : 0 + 0 ≤ _), (by decide : 0 + 0 ≤ _)⟩)
      dsimp only [Pt.U, Pt.locs, Pt.cells, Pt.slots] at X6 l6 y6 z6 st6 hQ6
      subst l6 y6 z6
      obtain ⟨rfl, N6q, eh6⟩ := hQ6
      have N6 := Fr.app N5 N6q
      refine own_go (b := (T6.setTop (mkF m 60 #[.val (.int p0), .val (.int p1), .val (.int p2), .val (.int p3), .val (.ref x_EQ), .val (.int yy), .val (.ref x_EQ), .val (.int (own_h0 (own_sign yy p1))), .unset] [(.int (own_sign p1 yy)), (.ref x_EQ)]))) (fun _ k => st6 _ k) ?_
      obtain ⟨cq7, kq7, q7a, q7b, q7c⟩ := isOf hZ eh6 (EZ_x_EQ.ext O0.2)
      obtain ⟨_, _, ⟨T7, L7, k7, n7⟩, -, X7, ⟨Lc7, hQ7, l7, y7, z7⟩, st7⟩ := X6.virtualBack hx (y := (⟨"com/example/urd/urd/functions/ComparisonOperator", "holds", "(I)Z"⟩ : MethodName)) (z := (⟨"com/example/urd/urd/functions/ComparisonOperator", "holds", "(I)Z"⟩ : MethodName)) hown (mvT hZ (hw _ (List.mem_of_getElem? (i := 25) rfl))) (mvT hZ (hw _ (List.mem_of_getElem? (i := 26) rfl))) (notFace_of_selects (args := #[]) (mvT hZ (hw _ (List.mem_of_getElem? (i := 28) rfl)))) (mvT hZ (hw _ (List.mem_of_getElem? (i := 28) rfl))) (mvT hZ (hw _ (List.mem_of_getElem? (i := 27) rfl))) (by decide) (backOf (W := 0) (rmh0 l Z a0 hw [] x_EQ (own_sign p1 yy) h0 n0 Z0 O0 EZ_x_EQ Fld0_x_EQ_ordinal) hZ (hw _ (List.mem_of_getElem? (i := 29) rfl)) (hw _ (List.mem_of_getElem? (i := 6) rfl)) (by decide) (by decide)) q7a q7c (g := (mkF m 60 #[.val (.int p0), .val (.int p1), .val (.int p2), .val (.int p3), .val (.ref x_EQ), .val (.int yy), .val (.ref x_EQ), .val (.int (own_h0 (own_sign yy p1))), .unset] [(.int (own_sign p1 yy)), (.ref x_EQ)])) rfl (by rw [hml]; rfl) (Steps.refl _) (argsL := [(.int (own_sign p1 yy))]) (rest := []) (lenOf pd__I_Z rfl) rfl (by show 2 * 0 + _ ≤ _; exact Nat.le_of_eq rfl) (hb hby at_60) (fun _ _ => ⟨rfl, eh6, (by decide : 0 + 0 ≤ _), (by decide : 0 + 0 ≤ _)⟩)
      dsimp only [Pt.U, Pt.locs, Pt.cells, Pt.slots] at X7 l7 y7 z7 st7 hQ7
      subst l7 y7 z7
      obtain ⟨rfl, N7q, eh7⟩ := hQ7
      have N7 := Fr.app N6 N7q
      refine own_go (b := (T7.setTop (mkF m 74 #[.val (.int p0), .val (.int p1), .val (.int p2), .val (.int p3), .val (.ref x_EQ), .val (.int yy), .val (.ref x_EQ), .val (.int (own_h0 (own_sign yy p1))), .val (.int (own_h0 (own_sign p1 yy)))] [(.ref x_EQ)]))) (fun _ k => st7.trans (XS.istore X7.here hx rfl (hb hby at_63) rfl (l' := #[.val (.int p0), .val (.int p1), .val (.int p2), .val (.int p3), .val (.ref x_EQ), .val (.int yy), .val (.ref x_EQ), .val (.int (own_h0 (own_sign yy p1))), .val (.int (own_h0 (own_sign p1 yy)))]) rfl (XS.iload X7.here hx rfl (hb hby at_65) rfl (XS.iload X7.here hx rfl (hb hby at_67) rfl (XS.icmpNo X7.here hx rfl (hb hby at_69) rfl (teq (own_rv0 p1 yy)).2 (XS.aload X7.here hx rfl (hb hby at_72) rfl rfl k)))))) ?_
      obtain ⟨cq8, kq8, q8a, q8b, q8c⟩ := isOf hZ eh7 (EZ_x_EQ.ext O0.2)
      obtain ⟨_, _, ⟨T8, L8, k8, n8⟩, -, X8, ⟨Lc8, hQ8, l8, y8, z8⟩, st8⟩ := X7.virtualBack hx (y := (⟨"com/example/urd/urd/functions/ComparisonOperator", "reversed", "()Lcom/example/urd/urd/functions/ComparisonOperator;"⟩ : MethodName)) (z := (⟨"com/example/urd/urd/functions/ComparisonOperator", "reversed", "()Lcom/example/urd/urd/functions/ComparisonOperator;"⟩ : MethodName)) hown (mvT hZ (hw _ (List.mem_of_getElem? (i := 8) rfl))) (mvT hZ (hw _ (List.mem_of_getElem? (i := 9) rfl))) (notFace_of_selects (args := #[]) (mvT hZ (hw _ (List.mem_of_getElem? (i := 11) rfl)))) (mvT hZ (hw _ (List.mem_of_getElem? (i := 11) rfl))) (mvT hZ (hw _ (List.mem_of_getElem? (i := 10) rfl))) (by decide) (backOf (W := 0) (rmr0 l Z a0 hw [] x_EQ h0 n0 Z0 O0 EZ_x_EQ Fld0_x_EQ_ordinal) hZ (hw _ (List.mem_of_getElem? (i := 12) rfl)) (hw _ (List.mem_of_getElem? (i := 6) rfl)) (by decide) (by decide)) q8a q8c (g := (mkF m 74 #[.val (.int p0), .val (.int p1), .val (.int p2), .val (.int p3), .val (.ref x_EQ), .val (.int yy), .val (.ref x_EQ), .val (.int (own_h0 (own_sign yy p1))), .val (.int (own_h0 (own_sign p1 yy)))] [(.ref x_EQ)])) rfl (by rw [hml]; rfl) (Steps.refl _) (argsL := []) (rest := []) (lenOf pd___Lcom_example_urd_urd_functions_ComparisonOperator_ rfl) rfl (by show 2 * 0 + _ ≤ _; exact Nat.le_of_eq rfl) (hb hby at_74) (fun _ _ => ⟨rfl, eh7, (by decide : 0 + 0 ≤ _), (by decide : 0 + 0 ≤ _)⟩)
      dsimp only [Pt.U, Pt.locs, Pt.cells, Pt.slots] at X8 l8 y8 z8 st8 hQ8
      subst l8 y8 z8
      obtain ⟨rfl, N8q, eh8⟩ := hQ8
      have N8 := Fr.app N7 N8q
      refine own_go (b := (T8.setTop (mkF m 87 #[.val (.int p0), .val (.int p1), .val (.int p2), .val (.int p3), .val (.ref x_EQ), .val (.int yy), .val (.ref x_EQ), .val (.int (own_h0 (own_sign yy p1))), .val (.int (own_h0 (own_sign p1 yy)))] [(.int (1 : Int32))]))) (fun _ k => st8.trans (XS.aload X8.here hx rfl (hb hby at_77) rfl rfl (Jvm.RoadKit.acmp (g := (mkF m 79 #[.val (.int p0), .val (.int p1), .val (.int p2), .val (.int p3), .val (.ref x_EQ), .val (.int yy), .val (.ref x_EQ), .val (.int (own_h0 (own_sign yy p1))), .val (.int (own_h0 (own_sign p1 yy)))] [(.ref x_EQ), (.ref x_EQ)])) X8 hx rfl rfl rfl (pc0 := 79) (pc' := 82) (same := true) rfl (hb hby at_79) rfl (decide_eq_true rfl) (by decide) (by decide) (XS.iconst X8.here hx rfl (hb hby at_82) (XS.goto X8.here hx rfl (pc0 := 83) (pc' := 87) rfl (hb hby at_83) (by decide) (by decide) k))))) ?_
      obtain ⟨fs, hr, hrun, hended, hW, hsame⟩ := X8.leave (v := some (.int (1 : Int32))) (fun h => by rw [Bd.returns] at h; cases h)
      exact ⟨_, _, retN X8 hx (t := .boolean) Bd.returns (by simp) (hb hby at_87) hr, hrun, hended, _, _, rfl, (show Qrm0 Z p0 p1 p2 p3 x_EQ x_NE x_LT x_LE x_GT x_GE h0 n0 _ T8.heap _ from (by rw [eh8]; exact ⟨rfl, N8⟩)), ⟨_, rfl⟩, hW, hsame.mono (by decide) (by decide)⟩
    · intro J2
      by_cases hc15_9 : (p3 &&& (1 : Int32)) = (0 : Int32)
      · skip
        refine own_go (b := (T1.setTop (mkF m 23 #[.val (.int p0), .val (.int p1), .val (.int p2), .val (.int p3), .val (.ref x_EQ), .unset, .unset, .unset, .unset] [(.int p2)]))) (fun _ k => XS.ifYes X1.here hx rfl (pc0 := 15) (pc' := 22) rfl (hb hby at_15) rfl ((if0 _ _).trans (teq hc15_9).1) (by decide) (by decide) (XS.iloadN X1.here hx rfl (hb hby at_22) rfl k)) ?_
        exact J2 p2 trivial
      · skip
        refine own_go (b := (T1.setTop (mkF m 23 #[.val (.int p0), .val (.int p1), .val (.int p2), .val (.int p3), .val (.ref x_EQ), .unset, .unset, .unset, .unset] [(.int p1)]))) (fun _ k => XS.ifNo X1.here hx rfl (hb hby at_15) rfl ((if0 _ _).trans (feq hc15_9).1) (XS.iloadN X1.here hx rfl (hb hby at_18) rfl (XS.goto X1.here hx rfl (pc0 := 19) (pc' := 23) rfl (hb hby at_19) (by decide) (by decide) k))) ?_
        exact J2 p1 trivial
  · rw [hk]
    obtain ⟨_, _, ⟨T10, L10, k10, n10⟩, -, X10, ⟨Lc10, hQ10, l10, y10, z10⟩, st10⟩ := Jvm.LawKit.callS X0 hx (y := (⟨"com/example/urd/urd/functions/ComparisonOperatorReversedPinLaw", "pick", "(I)Lcom/example/urd/urd/functions/ComparisonOperator;"⟩ : MethodName)) hown (mvT hZ (hw _ (List.mem_of_getElem? (i := 1) rfl))) (mvT hZ (hw _ (List.mem_of_getElem? (i := 2) rfl))) (mvT hZ (hw _ (List.mem_of_getElem? (i := 3) rfl))) (mvT hZ (hw _ (List.mem_of_getElem? (i := 4) rfl))) (by decide) (backOf (W := 0) (rmp1 l Z a0 hw [] x_NE h0 n0 Z0 O0 S_NE) hZ (hw _ (List.mem_of_getElem? (i := 4) rfl)) (hw _ (List.mem_of_getElem? (i := 3) rfl)) (by decide) (by decide)) (g := (mkF m 7 #[.val (.int p0), .val (.int p1), .val (.int p2), .val (.int p3), .unset, .unset, .unset, .unset, .unset] [(.int (1 : Int32))])) rfl (by rw [hml]; rfl) (argsL := [(.int (1 : Int32))]) (rest := []) (lenOf pd__I_Lcom_example_urd_urd_functions_ComparisonOperator_ rfl) rfl (by show 2 * 0 + _ ≤ _; exact Nat.le_of_eq rfl) (hb hby at_7) (fun _ _ => ⟨rfl, e0, (by decide : 0 + 0 ≤ _), (by decide : 0 + 0 ≤ _)⟩)
    dsimp only [Pt.U, Pt.locs, Pt.cells, Pt.slots] at X10 l10 y10 z10 st10 hQ10
    subst l10 y10 z10
    obtain ⟨rfl, N10q, eh10⟩ := hQ10
    have N10 := Fr.app N0 N10q
    refine own_go (b := (T10.setTop (mkF m 15 #[.val (.int p0), .val (.int p1), .val (.int p2), .val (.int p3), .val (.ref x_NE), .unset, .unset, .unset, .unset] [(.int (p3 &&& (1 : Int32)))]))) (fun _ k => st10 _ (XS.astore X10.here hx rfl (hb hby at_10) rfl rfl (l' := #[.val (.int p0), .val (.int p1), .val (.int p2), .val (.int p3), .val (.ref x_NE), .unset, .unset, .unset, .unset]) rfl (XS.iloadN X10.here hx rfl (hb hby at_12) rfl (XS.iconst X10.here hx rfl (hb hby at_13) (XS.iand X10.here hx rfl (hb hby at_14) rfl k))))) ?_
    refine own_join (A := Int32) (C := fun yy => True) (f := fun yy => (T10.setTop (mkF m 23 #[.val (.int p0), .val (.int p1), .val (.int p2), .val (.int p3), .val (.ref x_NE), .unset, .unset, .unset, .unset] [(.int yy)]))) ?_ ?_
    · intro yy hj11
      refine own_go (b := (T10.setTop (mkF m 27 #[.val (.int p0), .val (.int p1), .val (.int p2), .val (.int p3), .val (.ref x_NE), .val (.int yy), .unset, .unset, .unset] [(.ref x_NE)]))) (fun _ k => XS.istore X10.here hx rfl (hb hby at_23) rfl (l' := #[.val (.int p0), .val (.int p1), .val (.int p2), .val (.int p3), .val (.ref x_NE), .val (.int yy), .unset, .unset, .unset]) rfl (XS.aload X10.here hx rfl (hb hby at_25) rfl rfl k)) ?_
      obtain ⟨cq12, kq12, q12a, q12b, q12c⟩ := isOf hZ eh10 (EZ_x_NE.ext O0.2)
      obtain ⟨_, _, ⟨T12, L12, k12, n12⟩, -, X12, ⟨Lc12, hQ12, l12, y12, z12⟩, st12⟩ := X10.virtualBack hx (y := (⟨"com/example/urd/urd/functions/ComparisonOperator", "reversed", "()Lcom/example/urd/urd/functions/ComparisonOperator;"⟩ : MethodName)) (z := (⟨"com/example/urd/urd/functions/ComparisonOperator", "reversed", "()Lcom/example/urd/urd/functions/ComparisonOperator;"⟩ : MethodName)) hown (mvT hZ (hw _ (List.mem_of_getElem? (i := 8) rfl))) (mvT hZ (hw _ (List.mem_of_getElem? (i := 9) rfl))) (notFace_of_selects (args := #[]) (mvT hZ (hw _ (List.mem_of_getElem? (i := 11) rfl)))) (mvT hZ (hw _ (List.mem_of_getElem? (i := 11) rfl))) (mvT hZ (hw _ (List.mem_of_getElem? (i := 10) rfl))) (by decide) (backOf (W := 0) (rmr1 l Z a0 hw [] x_NE h0 n0 Z0 O0 EZ_x_NE Fld0_x_NE_ordinal) hZ (hw _ (List.mem_of_getElem? (i := 12) rfl)) (hw _ (List.mem_of_getElem? (i := 6) rfl)) (by decide) (by decide)) q12a q12c (g := (mkF m 27 #[.val (.int p0), .val (.int p1), .val (.int p2), .val (.int p3), .val (.ref x_NE), .val (.int yy), .unset, .unset, .unset] [(.ref x_NE)])) rfl (by rw [hml]; rfl) (Steps.refl _) (argsL := []) (rest := []) (lenOf pd___Lcom_example_urd_urd_functions_ComparisonOperator_ rfl) rfl (by show 2 * 0 + _ ≤ _; exact Nat.le_of_eq rfl) (hb hby at_27) (fun _ _ => ⟨rfl, eh10, (by decide : 0 + 0 ≤ _), (by decide : 0 + 0 ≤ _)⟩)
      dsimp only [Pt.U, Pt.locs, Pt.cells, Pt.slots] at X12 l12 y12 z12 st12 hQ12
      subst l12 y12 z12
      obtain ⟨rfl, N12q, eh12⟩ := hQ12
      have N12 := Fr.app N10 N12q
      refine own_go (b := (T12.setTop (mkF m 44 #[.val (.int p0), .val (.int p1), .val (.int p2), .val (.int p3), .val (.ref x_NE), .val (.int yy), .val (.ref x_NE), .unset, .unset] [(.int p1), (.int yy), (.ref x_NE)]))) (fun _ k => st12.trans (XS.astore X12.here hx rfl (hb hby at_30) rfl rfl (l' := #[.val (.int p0), .val (.int p1), .val (.int p2), .val (.int p3), .val (.ref x_NE), .val (.int yy), .val (.ref x_NE), .unset, .unset]) rfl (XS.aload X12.here hx rfl (hb hby at_32) rfl rfl (XS.ifnonnullYes X12.here hx rfl (pc0 := 34) (pc' := 39) rfl (hb hby at_34) rfl (by decide) (by decide) (XS.aload X12.here hx rfl (hb hby at_39) rfl rfl (XS.iload X12.here hx rfl (hb hby at_41) rfl (XS.iloadN X12.here hx rfl (hb hby at_43) rfl k))))))) ?_
      obtain ⟨_, _, ⟨T13, L13, k13, n13⟩, -, X13, ⟨Lc13, hQ13, l13, y13, z13⟩, st13⟩ := Jvm.LawKit.callS X12 hx (y := (⟨"com/example/urd/urd/functions/ComparisonOperatorReversedPinLaw", "sign", "(II)I"⟩ : MethodName)) hown (mvT hZ (hw _ (List.mem_of_getElem? (i := 22) rfl))) (mvT hZ (hw _ (List.mem_of_getElem? (i := 23) rfl))) (mvT hZ (hw _ (List.mem_of_getElem? (i := 3) rfl))) (mvT hZ (hw _ (List.mem_of_getElem? (i := 24) rfl))) (by decide) (backOf (W := 1) (rms l Z a0 hw [] yy p1 h0 n0 Z0) hZ (hw _ (List.mem_of_getElem? (i := 24) rfl)) (hw _ (List.mem_of_getElem? (i := 3) rfl)) (by decide) (by decide)) (g := (mkF m 44 #[.val (.int p0), .val (.int p1), .val (.int p2), .val (.int p3), .val (.ref x_NE), .val (.int yy), .val (.ref x_NE), .unset, .unset] [(.int p1), (.int yy), (.ref x_NE)])) rfl (by rw [hml]; rfl) (argsL := [(.int yy), (.int p1)]) (rest := [(.ref x_NE)]) (lenOf pd__II_I rfl) rfl (by show 2 * 0 + _ ≤ _; exact Nat.le_of_eq rfl) (hb hby at_44) (fun _ _ => ⟨rfl, eh12, (by decide : 0 + 0 ≤ _), (by decide : 0 + 0 ≤ _)⟩)
      dsimp only [Pt.U, Pt.locs, Pt.cells, Pt.slots] at X13 l13 y13 z13 st13 hQ13
      subst l13 y13 z13
      obtain ⟨rfl, N13q, eh13⟩ := hQ13
      have N13 := Fr.app N12 N13q
      refine own_go (b := (T13.setTop (mkF m 47 #[.val (.int p0), .val (.int p1), .val (.int p2), .val (.int p3), .val (.ref x_NE), .val (.int yy), .val (.ref x_NE), .unset, .unset] [(.int (own_sign yy p1)), (.ref x_NE)]))) (fun _ k => st13 _ k) ?_
      obtain ⟨cq14, kq14, q14a, q14b, q14c⟩ := isOf hZ eh13 (EZ_x_NE.ext O0.2)
      obtain ⟨_, _, ⟨T14, L14, k14, n14⟩, -, X14, ⟨Lc14, hQ14, l14, y14, z14⟩, st14⟩ := X13.virtualBack hx (y := (⟨"com/example/urd/urd/functions/ComparisonOperator", "holds", "(I)Z"⟩ : MethodName)) (z := (⟨"com/example/urd/urd/functions/ComparisonOperator", "holds", "(I)Z"⟩ : MethodName)) hown (mvT hZ (hw _ (List.mem_of_getElem? (i := 25) rfl))) (mvT hZ (hw _ (List.mem_of_getElem? (i := 26) rfl))) (notFace_of_selects (args := #[]) (mvT hZ (hw _ (List.mem_of_getElem? (i := 28) rfl)))) (mvT hZ (hw _ (List.mem_of_getElem? (i := 28) rfl))) (mvT hZ (hw _ (List.mem_of_getElem? (i := 27) rfl))) (by decide) (backOf (W := 0) (rmh1 l Z a0 hw [] x_NE (own_sign yy p1) h0 n0 Z0 O0 EZ_x_NE Fld0_x_NE_ordinal) hZ (hw _ (List.mem_of_getElem? (i := 29) rfl)) (hw _ (List.mem_of_getElem? (i := 6) rfl)) (by decide) (by decide)) q14a q14c (g := (mkF m 47 #[.val (.int p0), .val (.int p1), .val (.int p2), .val (.int p3), .val (.ref x_NE), .val (.int yy), .val (.ref x_NE), .unset, .unset] [(.int (own_sign yy p1)), (.ref x_NE)])) rfl (by rw [hml]; rfl) (Steps.refl _) (argsL := [(.int (own_sign yy p1))]) (rest := []) (lenOf pd__I_Z rfl) rfl (by show 2 * 0 + _ ≤ _; exact Nat.le_of_eq rfl) (hb hby at_47) (fun _ _ => ⟨rfl, eh13, (by decide : 0 + 0 ≤ _), (by decide : 0 + 0 ≤ _)⟩)
      dsimp only [Pt.U, Pt.locs, Pt.cells, Pt.slots] at X14 l14 y14 z14 st14 hQ14
      subst l14 y14 z14
      obtain ⟨rfl, N14q, eh14⟩ := hQ14
      have N14 := Fr.app N13 N14q
      refine own_go (b := (T14.setTop (mkF m 57 #[.val (.int p0), .val (.int p1), .val (.int p2), .val (.int p3), .val (.ref x_NE), .val (.int yy), .val (.ref x_NE), .val (.int (own_h1 (own_sign yy p1))), .unset] [(.int yy), (.int p1), (.ref x_NE)]))) (fun _ k => st14.trans (XS.istore X14.here hx rfl (hb hby at_50) rfl (l' := #[.val (.int p0), .val (.int p1), .val (.int p2), .val (.int p3), .val (.ref x_NE), .val (.int yy), .val (.ref x_NE), .val (.int (own_h1 (own_sign yy p1))), .unset]) rfl (XS.aload X14.here hx rfl (hb hby at_52) rfl rfl (XS.iloadN X14.here hx rfl (hb hby at_54) rfl (XS.iload X14.here hx rfl (hb hby at_55) rfl k))))) ?_
      obtain ⟨_, _, ⟨T15, L15, k15, n15⟩, -, X15, ⟨Lc15, hQ15, l15, y15, z15⟩, st15⟩ := Jvm.LawKit.callS X14 hx (y := (⟨"com/example/urd/urd/functions/ComparisonOperatorReversedPinLaw", "sign", "(II)I"⟩ : MethodName)) hown (mvT hZ (hw _ (List.mem_of_getElem? (i := 22) rfl))) (mvT hZ (hw _ (List.mem_of_getElem? (i := 23) rfl))) (mvT hZ (hw _ (List.mem_of_getElem? (i := 3) rfl))) (mvT hZ (hw _ (List.mem_of_getElem? (i := 24) rfl))) (by decide) (backOf (W := 1) (rms l Z a0 hw [] p1 yy h0 n0 Z0) hZ (hw _ (List.mem_of_getElem? (i := 24) rfl)) (hw _ (List.mem_of_getElem? (i := 3) rfl)) (by decide) (by decide)) (g := (mkF m 57 #[.val (.int p0), .val (.int p1), .val (.int p2), .val (.int p3), .val (.ref x_NE), .val (.int yy), .val (.ref x_NE), .val (.int (own_h1 (own_sign yy p1))), .unset] [(.int yy), (.int p1), (.ref x_NE)])) rfl (by rw [hml]; rfl) (argsL := [(.int p1), (.int yy)]) (rest := [(.ref x_NE)]) (lenOf pd__II_I rfl) rfl (by show 2 * 0 + _ ≤ _; exact Nat.le_of_eq rfl) (hb hby at_57) (fun _ _ => ⟨rfl, eh14, (by decide : 0 + 0 ≤ _), (by decide : 0 + 0 ≤ _)⟩)
      dsimp only [Pt.U, Pt.locs, Pt.cells, Pt.slots] at X15 l15 y15 z15 st15 hQ15
      subst l15 y15 z15
      obtain ⟨rfl, N15q, eh15⟩ := hQ15
      have N15 := Fr.app N14 N15q
      refine own_go (b := (T15.setTop (mkF m 60 #[.val (.int p0), .val (.int p1), .val (.int p2), .val (.int p3), .val (.ref x_NE), .val (.int yy), .val (.ref x_NE), .val (.int (own_h1 (own_sign yy p1))), .unset] [(.int (own_sign p1 yy)), (.ref x_NE)]))) (fun _ k => st15 _ k) ?_
      obtain ⟨cq16, kq16, q16a, q16b, q16c⟩ := isOf hZ eh15 (EZ_x_NE.ext O0.2)
      obtain ⟨_, _, ⟨T16, L16, k16, n16⟩, -, X16, ⟨Lc16, hQ16, l16, y16, z16⟩, st16⟩ := X15.virtualBack hx (y := (⟨"com/example/urd/urd/functions/ComparisonOperator", "holds", "(I)Z"⟩ : MethodName)) (z := (⟨"com/example/urd/urd/functions/ComparisonOperator", "holds", "(I)Z"⟩ : MethodName)) hown (mvT hZ (hw _ (List.mem_of_getElem? (i := 25) rfl))) (mvT hZ (hw _ (List.mem_of_getElem? (i := 26) rfl))) (notFace_of_selects (args := #[]) (mvT hZ (hw _ (List.mem_of_getElem? (i := 28) rfl)))) (mvT hZ (hw _ (List.mem_of_getElem? (i := 28) rfl))) (mvT hZ (hw _ (List.mem_of_getElem? (i := 27) rfl))) (by decide) (backOf (W := 0) (rmh1 l Z a0 hw [] x_NE (own_sign p1 yy) h0 n0 Z0 O0 EZ_x_NE Fld0_x_NE_ordinal) hZ (hw _ (List.mem_of_getElem? (i := 29) rfl)) (hw _ (List.mem_of_getElem? (i := 6) rfl)) (by decide) (by decide)) q16a q16c (g := (mkF m 60 #[.val (.int p0), .val (.int p1), .val (.int p2), .val (.int p3), .val (.ref x_NE), .val (.int yy), .val (.ref x_NE), .val (.int (own_h1 (own_sign yy p1))), .unset] [(.int (own_sign p1 yy)), (.ref x_NE)])) rfl (by rw [hml]; rfl) (Steps.refl _) (argsL := [(.int (own_sign p1 yy))]) (rest := []) (lenOf pd__I_Z rfl) rfl (by show 2 * 0 + _ ≤ _; exact Nat.le_of_eq rfl) (hb hby at_60) (fun _ _ => ⟨rfl, eh15, (by decide : 0 + 0 ≤ _), (by decide : 0 + 0 ≤ _)⟩)
      dsimp only [Pt.U, Pt.locs, Pt.cells, Pt.slots] at X16 l16 y16 z16 st16 hQ16
      subst l16 y16 z16
      obtain ⟨rfl, N16q, eh16⟩ := hQ16
      have N16 := Fr.app N15 N16q
      refine own_go (b := (T16.setTop (mkF m 74 #[.val (.int p0), .val (.int p1), .val (.int p2), .val (.int p3), .val (.ref x_NE), .val (.int yy), .val (.ref x_NE), .val (.int (own_h1 (own_sign yy p1))), .val (.int (own_h1 (own_sign p1 yy)))] [(.ref x_NE)]))) (fun _ k => st16.trans (XS.istore X16.here hx rfl (hb hby at_63) rfl (l' := #[.val (.int p0), .val (.int p1), .val (.int p2), .val (.int p3), .val (.ref x_NE), .val (.int yy), .val (.ref x_NE), .val (.int (own_h1 (own_sign yy p1))), .val (.int (own_h1 (own_sign p1 yy)))]) rfl (XS.iload X16.here hx rfl (hb hby at_65) rfl (XS.iload X16.here hx rfl (hb hby at_67) rfl (XS.icmpNo X16.here hx rfl (hb hby at_69) rfl (teq (own_rv1 p1 yy)).2 (XS.aload X16.here hx rfl (hb hby at_72) rfl rfl k)))))) ?_
      obtain ⟨cq17, kq17, q17a, q17b, q17c⟩ := isOf hZ eh16 (EZ_x_NE.ext O0.2)
      obtain ⟨_, _, ⟨T17, L17, k17, n17⟩, -, X17, ⟨Lc17, hQ17, l17, y17, z17⟩, st17⟩ := X16.virtualBack hx (y := (⟨"com/example/urd/urd/functions/ComparisonOperator", "reversed", "()Lcom/example/urd/urd/functions/ComparisonOperator;"⟩ : MethodName)) (z := (⟨"com/example/urd/urd/functions/ComparisonOperator", "reversed", "()Lcom/example/urd/urd/functions/ComparisonOperator;"⟩ : MethodName)) hown (mvT hZ (hw _ (List.mem_of_getElem? (i := 8) rfl))) (mvT hZ (hw _ (List.mem_of_getElem? (i := 9) rfl))) (notFace_of_selects (args := #[]) (mvT hZ (hw _ (List.mem_of_getElem? (i := 11) rfl)))) (mvT hZ (hw _ (List.mem_of_getElem? (i := 11) rfl))) (mvT hZ (hw _ (List.mem_of_getElem? (i := 10) rfl))) (by decide) (backOf (W := 0) (rmr1 l Z a0 hw [] x_NE h0 n0 Z0 O0 EZ_x_NE Fld0_x_NE_ordinal) hZ (hw _ (List.mem_of_getElem? (i := 12) rfl)) (hw _ (List.mem_of_getElem? (i := 6) rfl)) (by decide) (by decide)) q17a q17c (g := (mkF m 74 #[.val (.int p0), .val (.int p1), .val (.int p2), .val (.int p3), .val (.ref x_NE), .val (.int yy), .val (.ref x_NE), .val (.int (own_h1 (own_sign yy p1))), .val (.int (own_h1 (own_sign p1 yy)))] [(.ref x_NE)])) rfl (by rw [hml]; rfl) (Steps.refl _) (argsL := []) (rest := []) (lenOf pd___Lcom_example_urd_urd_functions_ComparisonOperator_ rfl) rfl (by show 2 * 0 + _ ≤ _; exact Nat.le_of_eq rfl) (hb hby at_74) (fun _ _ => ⟨rfl, eh16, (by decide : 0 + 0 ≤ _), (by decide : 0 + 0 ≤ _)⟩)
      dsimp only [Pt.U, Pt.locs, Pt.cells, Pt.slots] at X17 l17 y17 z17 st17 hQ17
      subst l17 y17 z17
      obtain ⟨rfl, N17q, eh17⟩ := hQ17
      have N17 := Fr.app N16 N17q
      refine own_go (b := (T17.setTop (mkF m 87 #[.val (.int p0), .val (.int p1), .val (.int p2), .val (.int p3), .val (.ref x_NE), .val (.int yy), .val (.ref x_NE), .val (.int (own_h1 (own_sign yy p1))), .val (.int (own_h1 (own_sign p1 yy)))] [(.int (1 : Int32))]))) (fun _ k => st17.trans (XS.aload X17.here hx rfl (hb hby at_77) rfl rfl (Jvm.RoadKit.acmp (g := (mkF m 79 #[.val (.int p0), .val (.int p1), .val (.int p2), .val (.int p3), .val (.ref x_NE), .val (.int yy), .val (.ref x_NE), .val (.int (own_h1 (own_sign yy p1))), .val (.int (own_h1 (own_sign p1 yy)))] [(.ref x_NE), (.ref x_NE)])) X17 hx rfl rfl rfl (pc0 := 79) (pc' := 82) (same := true) rfl (hb hby at_79) rfl (decide_eq_true rfl) (by decide) (by decide) (XS.iconst X17.here hx rfl (hb hby at_82) (XS.goto X17.here hx rfl (pc0 := 83) (pc' := 87) rfl (hb hby at_83) (by decide) (by decide) k))))) ?_
      obtain ⟨fs, hr, hrun, hended, hW, hsame⟩ := X17.leave (v := some (.int (1 : Int32))) (fun h => by rw [Bd.returns] at h; cases h)
      exact ⟨_, _, retN X17 hx (t := .boolean) Bd.returns (by simp) (hb hby at_87) hr, hrun, hended, _, _, rfl, (show Qrm0 Z p0 p1 p2 p3 x_EQ x_NE x_LT x_LE x_GT x_GE h0 n0 _ T17.heap _ from (by rw [eh17]; exact ⟨rfl, N17⟩)), ⟨_, rfl⟩, hW, hsame.mono (by decide) (by decide)⟩
    · intro J11
      by_cases hc15_18 : (p3 &&& (1 : Int32)) = (0 : Int32)
      · skip
        refine own_go (b := (T10.setTop (mkF m 23 #[.val (.int p0), .val (.int p1), .val (.int p2), .val (.int p3), .val (.ref x_NE), .unset, .unset, .unset, .unset] [(.int p2)]))) (fun _ k => XS.ifYes X10.here hx rfl (pc0 := 15) (pc' := 22) rfl (hb hby at_15) rfl ((if0 _ _).trans (teq hc15_18).1) (by decide) (by decide) (XS.iloadN X10.here hx rfl (hb hby at_22) rfl k)) ?_
        exact J11 p2 trivial
      · skip
        refine own_go (b := (T10.setTop (mkF m 23 #[.val (.int p0), .val (.int p1), .val (.int p2), .val (.int p3), .val (.ref x_NE), .unset, .unset, .unset, .unset] [(.int p1)]))) (fun _ k => XS.ifNo X10.here hx rfl (hb hby at_15) rfl ((if0 _ _).trans (feq hc15_18).1) (XS.iloadN X10.here hx rfl (hb hby at_18) rfl (XS.goto X10.here hx rfl (pc0 := 19) (pc' := 23) rfl (hb hby at_19) (by decide) (by decide) k))) ?_
        exact J11 p1 trivial
  · rw [hk]
    obtain ⟨_, _, ⟨T19, L19, k19, n19⟩, -, X19, ⟨Lc19, hQ19, l19, y19, z19⟩, st19⟩ := Jvm.LawKit.callS X0 hx (y := (⟨"com/example/urd/urd/functions/ComparisonOperatorReversedPinLaw", "pick", "(I)Lcom/example/urd/urd/functions/ComparisonOperator;"⟩ : MethodName)) hown (mvT hZ (hw _ (List.mem_of_getElem? (i := 1) rfl))) (mvT hZ (hw _ (List.mem_of_getElem? (i := 2) rfl))) (mvT hZ (hw _ (List.mem_of_getElem? (i := 3) rfl))) (mvT hZ (hw _ (List.mem_of_getElem? (i := 4) rfl))) (by decide) (backOf (W := 0) (rmp2 l Z a0 hw [] x_LT h0 n0 Z0 O0 S_LT) hZ (hw _ (List.mem_of_getElem? (i := 4) rfl)) (hw _ (List.mem_of_getElem? (i := 3) rfl)) (by decide) (by decide)) (g := (mkF m 7 #[.val (.int p0), .val (.int p1), .val (.int p2), .val (.int p3), .unset, .unset, .unset, .unset, .unset] [(.int (2 : Int32))])) rfl (by rw [hml]; rfl) (argsL := [(.int (2 : Int32))]) (rest := []) (lenOf pd__I_Lcom_example_urd_urd_functions_ComparisonOperator_ rfl) rfl (by show 2 * 0 + _ ≤ _; exact Nat.le_of_eq rfl) (hb hby at_7) (fun _ _ => ⟨rfl, e0, (by decide : 0 + 0 ≤ _), (by decide : 0 + 0 ≤ _)⟩)
    dsimp only [Pt.U, Pt.locs, Pt.cells, Pt.slots] at X19 l19 y19 z19 st19 hQ19
    subst l19 y19 z19
    obtain ⟨rfl, N19q, eh19⟩ := hQ19
    have N19 := Fr.app N0 N19q
    refine own_go (b := (T19.setTop (mkF m 15 #[.val (.int p0), .val (.int p1), .val (.int p2), .val (.int p3), .val (.ref x_LT), .unset, .unset, .unset, .unset] [(.int (p3 &&& (1 : Int32)))]))) (fun _ k => st19 _ (XS.astore X19.here hx rfl (hb hby at_10) rfl rfl (l' := #[.val (.int p0), .val (.int p1), .val (.int p2), .val (.int p3), .val (.ref x_LT), .unset, .unset, .unset, .unset]) rfl (XS.iloadN X19.here hx rfl (hb hby at_12) rfl (XS.iconst X19.here hx rfl (hb hby at_13) (XS.iand X19.here hx rfl (hb hby at_14) rfl k))))) ?_
    refine own_join (A := Int32) (C := fun yy => True) (f := fun yy => (T19.setTop (mkF m 23 #[.val (.int p0), .val (.int p1), .val (.int p2), .val (.int p3), .val (.ref x_LT), .unset, .unset, .unset, .unset] [(.int yy)]))) ?_ ?_
    · intro yy hj20
      refine own_go (b := (T19.setTop (mkF m 27 #[.val (.int p0), .val (.int p1), .val (.int p2), .val (.int p3), .val (.ref x_LT), .val (.int yy), .unset, .unset, .unset] [(.ref x_LT)]))) (fun _ k => XS.istore X19.here hx rfl (hb hby at_23) rfl (l' := #[.val (.int p0), .val (.int p1), .val (.int p2), .val (.int p3), .val (.ref x_LT), .val (.int yy), .unset, .unset, .unset]) rfl (XS.aload X19.here hx rfl (hb hby at_25) rfl rfl k)) ?_
      obtain ⟨cq21, kq21, q21a, q21b, q21c⟩ := isOf hZ eh19 (EZ_x_LT.ext O0.2)
      obtain ⟨_, _, ⟨T21, L21, k21, n21⟩, -, X21, ⟨Lc21, hQ21, l21, y21, z21⟩, st21⟩ := X19.virtualBack hx (y := (⟨"com/example/urd/urd/functions/ComparisonOperator", "reversed", "()Lcom/example/urd/urd/functions/ComparisonOperator;"⟩ : MethodName)) (z := (⟨"com/example/urd/urd/functions/ComparisonOperator", "reversed", "()Lcom/example/urd/urd/functions/ComparisonOperator;"⟩ : MethodName)) hown (mvT hZ (hw _ (List.mem_of_getElem? (i := 8) rfl))) (mvT hZ (hw _ (List.mem_of_getElem? (i := 9) rfl))) (notFace_of_selects (args := #[]) (mvT hZ (hw _ (List.mem_of_getElem? (i := 11) rfl)))) (mvT hZ (hw _ (List.mem_of_getElem? (i := 11) rfl))) (mvT hZ (hw _ (List.mem_of_getElem? (i := 10) rfl))) (by decide) (backOf (W := 0) (rmr2 l Z a0 hw [] x_LT x_GT h0 n0 Z0 O0 EZ_x_LT Fld0_x_LT_ordinal S_GT) hZ (hw _ (List.mem_of_getElem? (i := 12) rfl)) (hw _ (List.mem_of_getElem? (i := 6) rfl)) (by decide) (by decide)) q21a q21c (g := (mkF m 27 #[.val (.int p0), .val (.int p1), .val (.int p2), .val (.int p3), .val (.ref x_LT), .val (.int yy), .unset, .unset, .unset] [(.ref x_LT)])) rfl (by rw [hml]; rfl) (Steps.refl _) (argsL := []) (rest := []) (lenOf pd___Lcom_example_urd_urd_functions_ComparisonOperator_ rfl) rfl (by show 2 * 0 + _ ≤ _; exact Nat.le_of_eq rfl) (hb hby at_27) (fun _ _ => ⟨rfl, eh19, (by decide : 0 + 0 ≤ _), (by decide : 0 + 0 ≤ _)⟩)
      dsimp only [Pt.U, Pt.locs, Pt.cells, Pt.slots] at X21 l21 y21 z21 st21 hQ21
      subst l21 y21 z21
      obtain ⟨rfl, N21q, eh21⟩ := hQ21
      have N21 := Fr.app N19 N21q
      refine own_go (b := (T21.setTop (mkF m 44 #[.val (.int p0), .val (.int p1), .val (.int p2), .val (.int p3), .val (.ref x_LT), .val (.int yy), .val (.ref x_GT), .unset, .unset] [(.int p1), (.int yy), (.ref x_GT)]))) (fun _ k => st21.trans (XS.astore X21.here hx rfl (hb hby at_30) rfl rfl (l' := #[.val (.int p0), .val (.int p1), .val (.int p2), .val (.int p3), .val (.ref x_LT), .val (.int yy), .val (.ref x_GT), .unset, .unset]) rfl (XS.aload X21.here hx rfl (hb hby at_32) rfl rfl (XS.ifnonnullYes X21.here hx rfl (pc0 := 34) (pc' := 39) rfl (hb hby at_34) rfl (by decide) (by decide) (XS.aload X21.here hx rfl (hb hby at_39) rfl rfl (XS.iload X21.here hx rfl (hb hby at_41) rfl (XS.iloadN X21.here hx rfl (hb hby at_43) rfl k))))))) ?_
      obtain ⟨_, _, ⟨T22, L22, k22, n22⟩, -, X22, ⟨Lc22, hQ22, l22, y22, z22⟩, st22⟩ := Jvm.LawKit.callS X21 hx (y := (⟨"com/example/urd/urd/functions/ComparisonOperatorReversedPinLaw", "sign", "(II)I"⟩ : MethodName)) hown (mvT hZ (hw _ (List.mem_of_getElem? (i := 22) rfl))) (mvT hZ (hw _ (List.mem_of_getElem? (i := 23) rfl))) (mvT hZ (hw _ (List.mem_of_getElem? (i := 3) rfl))) (mvT hZ (hw _ (List.mem_of_getElem? (i := 24) rfl))) (by decide) (backOf (W := 1) (rms l Z a0 hw [] yy p1 h0 n0 Z0) hZ (hw _ (List.mem_of_getElem? (i := 24) rfl)) (hw _ (List.mem_of_getElem? (i := 3) rfl)) (by decide) (by decide)) (g := (mkF m 44 #[.val (.int p0), .val (.int p1), .val (.int p2), .val (.int p3), .val (.ref x_LT), .val (.int yy), .val (.ref x_GT), .unset, .unset] [(.int p1), (.int yy), (.ref x_GT)])) rfl (by rw [hml]; rfl) (argsL := [(.int yy), (.int p1)]) (rest := [(.ref x_GT)]) (lenOf pd__II_I rfl) rfl (by show 2 * 0 + _ ≤ _; exact Nat.le_of_eq rfl) (hb hby at_44) (fun _ _ => ⟨rfl, eh21, (by decide : 0 + 0 ≤ _), (by decide : 0 + 0 ≤ _)⟩)
      dsimp only [Pt.U, Pt.locs, Pt.cells, Pt.slots] at X22 l22 y22 z22 st22 hQ22
      subst l22 y22 z22
      obtain ⟨rfl, N22q, eh22⟩ := hQ22
      have N22 := Fr.app N21 N22q
      refine own_go (b := (T22.setTop (mkF m 47 #[.val (.int p0), .val (.int p1), .val (.int p2), .val (.int p3), .val (.ref x_LT), .val (.int yy), .val (.ref x_GT), .unset, .unset] [(.int (own_sign yy p1)), (.ref x_GT)]))) (fun _ k => st22 _ k) ?_
      obtain ⟨cq23, kq23, q23a, q23b, q23c⟩ := isOf hZ eh22 (EZ_x_GT.ext O0.2)
      obtain ⟨_, _, ⟨T23, L23, k23, n23⟩, -, X23, ⟨Lc23, hQ23, l23, y23, z23⟩, st23⟩ := X22.virtualBack hx (y := (⟨"com/example/urd/urd/functions/ComparisonOperator", "holds", "(I)Z"⟩ : MethodName)) (z := (⟨"com/example/urd/urd/functions/ComparisonOperator", "holds", "(I)Z"⟩ : MethodName)) hown (mvT hZ (hw _ (List.mem_of_getElem? (i := 25) rfl))) (mvT hZ (hw _ (List.mem_of_getElem? (i := 26) rfl))) (notFace_of_selects (args := #[]) (mvT hZ (hw _ (List.mem_of_getElem? (i := 28) rfl)))) (mvT hZ (hw _ (List.mem_of_getElem? (i := 28) rfl))) (mvT hZ (hw _ (List.mem_of_getElem? (i := 27) rfl))) (by decide) (backOf (W := 0) (rmh4 l Z a0 hw [] x_GT (own_sign yy p1) h0 n0 Z0 O0 EZ_x_GT Fld0_x_GT_ordinal) hZ (hw _ (List.mem_of_getElem? (i := 29) rfl)) (hw _ (List.mem_of_getElem? (i := 6) rfl)) (by decide) (by decide)) q23a q23c (g := (mkF m 47 #[.val (.int p0), .val (.int p1), .val (.int p2), .val (.int p3), .val (.ref x_LT), .val (.int yy), .val (.ref x_GT), .unset, .unset] [(.int (own_sign yy p1)), (.ref x_GT)])) rfl (by rw [hml]; rfl) (Steps.refl _) (argsL := [(.int (own_sign yy p1))]) (rest := []) (lenOf pd__I_Z rfl) rfl (by show 2 * 0 + _ ≤ _; exact Nat.le_of_eq rfl) (hb hby at_47) (fun _ _ => ⟨rfl, eh22, (by decide : 0 + 0 ≤ _), (by decide : 0 + 0 ≤ _)⟩)
      dsimp only [Pt.U, Pt.locs, Pt.cells, Pt.slots] at X23 l23 y23 z23 st23 hQ23
      subst l23 y23 z23
      obtain ⟨rfl, N23q, eh23⟩ := hQ23
      have N23 := Fr.app N22 N23q
      refine own_go (b := (T23.setTop (mkF m 57 #[.val (.int p0), .val (.int p1), .val (.int p2), .val (.int p3), .val (.ref x_LT), .val (.int yy), .val (.ref x_GT), .val (.int (own_h4 (own_sign yy p1))), .unset] [(.int yy), (.int p1), (.ref x_LT)]))) (fun _ k => st23.trans (XS.istore X23.here hx rfl (hb hby at_50) rfl (l' := #[.val (.int p0), .val (.int p1), .val (.int p2), .val (.int p3), .val (.ref x_LT), .val (.int yy), .val (.ref x_GT), .val (.int (own_h4 (own_sign yy p1))), .unset]) rfl (XS.aload X23.here hx rfl (hb hby at_52) rfl rfl (XS.iloadN X23.here hx rfl (hb hby at_54) rfl (XS.iload X23.here hx rfl (hb hby at_55) rfl k))))) ?_
      obtain ⟨_, _, ⟨T24, L24, k24, n24⟩, -, X24, ⟨Lc24, hQ24, l24, y24, z24⟩, st24⟩ := Jvm.LawKit.callS X23 hx (y := (⟨"com/example/urd/urd/functions/ComparisonOperatorReversedPinLaw", "sign", "(II)I"⟩ : MethodName)) hown (mvT hZ (hw _ (List.mem_of_getElem? (i := 22) rfl))) (mvT hZ (hw _ (List.mem_of_getElem? (i := 23) rfl))) (mvT hZ (hw _ (List.mem_of_getElem? (i := 3) rfl))) (mvT hZ (hw _ (List.mem_of_getElem? (i := 24) rfl))) (by decide) (backOf (W := 1) (rms l Z a0 hw [] p1 yy h0 n0 Z0) hZ (hw _ (List.mem_of_getElem? (i := 24) rfl)) (hw _ (List.mem_of_getElem? (i := 3) rfl)) (by decide) (by decide)) (g := (mkF m 57 #[.val (.int p0), .val (.int p1), .val (.int p2), .val (.int p3), .val (.ref x_LT), .val (.int yy), .val (.ref x_GT), .val (.int (own_h4 (own_sign yy p1))), .unset] [(.int yy), (.int p1), (.ref x_LT)])) rfl (by rw [hml]; rfl) (argsL := [(.int p1), (.int yy)]) (rest := [(.ref x_LT)]) (lenOf pd__II_I rfl) rfl (by show 2 * 0 + _ ≤ _; exact Nat.le_of_eq rfl) (hb hby at_57) (fun _ _ => ⟨rfl, eh23, (by decide : 0 + 0 ≤ _), (by decide : 0 + 0 ≤ _)⟩)
      dsimp only [Pt.U, Pt.locs, Pt.cells, Pt.slots] at X24 l24 y24 z24 st24 hQ24
      subst l24 y24 z24
      obtain ⟨rfl, N24q, eh24⟩ := hQ24
      have N24 := Fr.app N23 N24q
      refine own_go (b := (T24.setTop (mkF m 60 #[.val (.int p0), .val (.int p1), .val (.int p2), .val (.int p3), .val (.ref x_LT), .val (.int yy), .val (.ref x_GT), .val (.int (own_h4 (own_sign yy p1))), .unset] [(.int (own_sign p1 yy)), (.ref x_LT)]))) (fun _ k => st24 _ k) ?_
      obtain ⟨cq25, kq25, q25a, q25b, q25c⟩ := isOf hZ eh24 (EZ_x_LT.ext O0.2)
      obtain ⟨_, _, ⟨T25, L25, k25, n25⟩, -, X25, ⟨Lc25, hQ25, l25, y25, z25⟩, st25⟩ := X24.virtualBack hx (y := (⟨"com/example/urd/urd/functions/ComparisonOperator", "holds", "(I)Z"⟩ : MethodName)) (z := (⟨"com/example/urd/urd/functions/ComparisonOperator", "holds", "(I)Z"⟩ : MethodName)) hown (mvT hZ (hw _ (List.mem_of_getElem? (i := 25) rfl))) (mvT hZ (hw _ (List.mem_of_getElem? (i := 26) rfl))) (notFace_of_selects (args := #[]) (mvT hZ (hw _ (List.mem_of_getElem? (i := 28) rfl)))) (mvT hZ (hw _ (List.mem_of_getElem? (i := 28) rfl))) (mvT hZ (hw _ (List.mem_of_getElem? (i := 27) rfl))) (by decide) (backOf (W := 0) (rmh2 l Z a0 hw [] x_LT (own_sign p1 yy) h0 n0 Z0 O0 EZ_x_LT Fld0_x_LT_ordinal) hZ (hw _ (List.mem_of_getElem? (i := 29) rfl)) (hw _ (List.mem_of_getElem? (i := 6) rfl)) (by decide) (by decide)) q25a q25c (g := (mkF m 60 #[.val (.int p0), .val (.int p1), .val (.int p2), .val (.int p3), .val (.ref x_LT), .val (.int yy), .val (.ref x_GT), .val (.int (own_h4 (own_sign yy p1))), .unset] [(.int (own_sign p1 yy)), (.ref x_LT)])) rfl (by rw [hml]; rfl) (Steps.refl _) (argsL := [(.int (own_sign p1 yy))]) (rest := []) (lenOf pd__I_Z rfl) rfl (by show 2 * 0 + _ ≤ _; exact Nat.le_of_eq rfl) (hb hby at_60) (fun _ _ => ⟨rfl, eh24, (by decide : 0 + 0 ≤ _), (by decide : 0 + 0 ≤ _)⟩)
      dsimp only [Pt.U, Pt.locs, Pt.cells, Pt.slots] at X25 l25 y25 z25 st25 hQ25
      subst l25 y25 z25
      obtain ⟨rfl, N25q, eh25⟩ := hQ25
      have N25 := Fr.app N24 N25q
      refine own_go (b := (T25.setTop (mkF m 74 #[.val (.int p0), .val (.int p1), .val (.int p2), .val (.int p3), .val (.ref x_LT), .val (.int yy), .val (.ref x_GT), .val (.int (own_h4 (own_sign yy p1))), .val (.int (own_h2 (own_sign p1 yy)))] [(.ref x_GT)]))) (fun _ k => st25.trans (XS.istore X25.here hx rfl (hb hby at_63) rfl (l' := #[.val (.int p0), .val (.int p1), .val (.int p2), .val (.int p3), .val (.ref x_LT), .val (.int yy), .val (.ref x_GT), .val (.int (own_h4 (own_sign yy p1))), .val (.int (own_h2 (own_sign p1 yy)))]) rfl (XS.iload X25.here hx rfl (hb hby at_65) rfl (XS.iload X25.here hx rfl (hb hby at_67) rfl (XS.icmpNo X25.here hx rfl (hb hby at_69) rfl (teq (own_rv2 p1 yy)).2 (XS.aload X25.here hx rfl (hb hby at_72) rfl rfl k)))))) ?_
      obtain ⟨cq26, kq26, q26a, q26b, q26c⟩ := isOf hZ eh25 (EZ_x_GT.ext O0.2)
      obtain ⟨_, _, ⟨T26, L26, k26, n26⟩, -, X26, ⟨Lc26, hQ26, l26, y26, z26⟩, st26⟩ := X25.virtualBack hx (y := (⟨"com/example/urd/urd/functions/ComparisonOperator", "reversed", "()Lcom/example/urd/urd/functions/ComparisonOperator;"⟩ : MethodName)) (z := (⟨"com/example/urd/urd/functions/ComparisonOperator", "reversed", "()Lcom/example/urd/urd/functions/ComparisonOperator;"⟩ : MethodName)) hown (mvT hZ (hw _ (List.mem_of_getElem? (i := 8) rfl))) (mvT hZ (hw _ (List.mem_of_getElem? (i := 9) rfl))) (notFace_of_selects (args := #[]) (mvT hZ (hw _ (List.mem_of_getElem? (i := 11) rfl)))) (mvT hZ (hw _ (List.mem_of_getElem? (i := 11) rfl))) (mvT hZ (hw _ (List.mem_of_getElem? (i := 10) rfl))) (by decide) (backOf (W := 0) (rmr4 l Z a0 hw [] x_GT x_LT h0 n0 Z0 O0 EZ_x_GT Fld0_x_GT_ordinal S_LT) hZ (hw _ (List.mem_of_getElem? (i := 12) rfl)) (hw _ (List.mem_of_getElem? (i := 6) rfl)) (by decide) (by decide)) q26a q26c (g := (mkF m 74 #[.val (.int p0), .val (.int p1), .val (.int p2), .val (.int p3), .val (.ref x_LT), .val (.int yy), .val (.ref x_GT), .val (.int (own_h4 (own_sign yy p1))), .val (.int (own_h2 (own_sign p1 yy)))] [(.ref x_GT)])) rfl (by rw [hml]; rfl) (Steps.refl _) (argsL := []) (rest := []) (lenOf pd___Lcom_example_urd_urd_functions_ComparisonOperator_ rfl) rfl (by show 2 * 0 + _ ≤ _; exact Nat.le_of_eq rfl) (hb hby at_74) (fun _ _ => ⟨rfl, eh25, (by decide : 0 + 0 ≤ _), (by decide : 0 + 0 ≤ _)⟩)
      dsimp only [Pt.U, Pt.locs, Pt.cells, Pt.slots] at X26 l26 y26 z26 st26 hQ26
      subst l26 y26 z26
      obtain ⟨rfl, N26q, eh26⟩ := hQ26
      have N26 := Fr.app N25 N26q
      refine own_go (b := (T26.setTop (mkF m 87 #[.val (.int p0), .val (.int p1), .val (.int p2), .val (.int p3), .val (.ref x_LT), .val (.int yy), .val (.ref x_GT), .val (.int (own_h4 (own_sign yy p1))), .val (.int (own_h2 (own_sign p1 yy)))] [(.int (1 : Int32))]))) (fun _ k => st26.trans (XS.aload X26.here hx rfl (hb hby at_77) rfl rfl (Jvm.RoadKit.acmp (g := (mkF m 79 #[.val (.int p0), .val (.int p1), .val (.int p2), .val (.int p3), .val (.ref x_LT), .val (.int yy), .val (.ref x_GT), .val (.int (own_h4 (own_sign yy p1))), .val (.int (own_h2 (own_sign p1 yy)))] [(.ref x_LT), (.ref x_LT)])) X26 hx rfl rfl rfl (pc0 := 79) (pc' := 82) (same := true) rfl (hb hby at_79) rfl (decide_eq_true rfl) (by decide) (by decide) (XS.iconst X26.here hx rfl (hb hby at_82) (XS.goto X26.here hx rfl (pc0 := 83) (pc' := 87) rfl (hb hby at_83) (by decide) (by decide) k))))) ?_
      obtain ⟨fs, hr, hrun, hended, hW, hsame⟩ := X26.leave (v := some (.int (1 : Int32))) (fun h => by rw [Bd.returns] at h; cases h)
      exact ⟨_, _, retN X26 hx (t := .boolean) Bd.returns (by simp) (hb hby at_87) hr, hrun, hended, _, _, rfl, (show Qrm0 Z p0 p1 p2 p3 x_EQ x_NE x_LT x_LE x_GT x_GE h0 n0 _ T26.heap _ from (by rw [eh26]; exact ⟨rfl, N26⟩)), ⟨_, rfl⟩, hW, hsame.mono (by decide) (by decide)⟩
    · intro J20
      by_cases hc15_27 : (p3 &&& (1 : Int32)) = (0 : Int32)
      · skip
        refine own_go (b := (T19.setTop (mkF m 23 #[.val (.int p0), .val (.int p1), .val (.int p2), .val (.int p3), .val (.ref x_LT), .unset, .unset, .unset, .unset] [(.int p2)]))) (fun _ k => XS.ifYes X19.here hx rfl (pc0 := 15) (pc' := 22) rfl (hb hby at_15) rfl ((if0 _ _).trans (teq hc15_27).1) (by decide) (by decide) (XS.iloadN X19.here hx rfl (hb hby at_22) rfl k)) ?_
        exact J20 p2 trivial
      · skip
        refine own_go (b := (T19.setTop (mkF m 23 #[.val (.int p0), .val (.int p1), .val (.int p2), .val (.int p3), .val (.ref x_LT), .unset, .unset, .unset, .unset] [(.int p1)]))) (fun _ k => XS.ifNo X19.here hx rfl (hb hby at_15) rfl ((if0 _ _).trans (feq hc15_27).1) (XS.iloadN X19.here hx rfl (hb hby at_18) rfl (XS.goto X19.here hx rfl (pc0 := 19) (pc' := 23) rfl (hb hby at_19) (by decide) (by decide) k))) ?_
        exact J20 p1 trivial
  · rw [hk]
    obtain ⟨_, _, ⟨T28, L28, k28, n28⟩, -, X28, ⟨Lc28, hQ28, l28, y28, z28⟩, st28⟩ := Jvm.LawKit.callS X0 hx (y := (⟨"com/example/urd/urd/functions/ComparisonOperatorReversedPinLaw", "pick", "(I)Lcom/example/urd/urd/functions/ComparisonOperator;"⟩ : MethodName)) hown (mvT hZ (hw _ (List.mem_of_getElem? (i := 1) rfl))) (mvT hZ (hw _ (List.mem_of_getElem? (i := 2) rfl))) (mvT hZ (hw _ (List.mem_of_getElem? (i := 3) rfl))) (mvT hZ (hw _ (List.mem_of_getElem? (i := 4) rfl))) (by decide) (backOf (W := 0) (rmp3 l Z a0 hw [] x_LE h0 n0 Z0 O0 S_LE) hZ (hw _ (List.mem_of_getElem? (i := 4) rfl)) (hw _ (List.mem_of_getElem? (i := 3) rfl)) (by decide) (by decide)) (g := (mkF m 7 #[.val (.int p0), .val (.int p1), .val (.int p2), .val (.int p3), .unset, .unset, .unset, .unset, .unset] [(.int (3 : Int32))])) rfl (by rw [hml]; rfl) (argsL := [(.int (3 : Int32))]) (rest := []) (lenOf pd__I_Lcom_example_urd_urd_functions_ComparisonOperator_ rfl) rfl (by show 2 * 0 + _ ≤ _; exact Nat.le_of_eq rfl) (hb hby at_7) (fun _ _ => ⟨rfl, e0, (by decide : 0 + 0 ≤ _), (by decide : 0 + 0 ≤ _)⟩)
    dsimp only [Pt.U, Pt.locs, Pt.cells, Pt.slots] at X28 l28 y28 z28 st28 hQ28
    subst l28 y28 z28
    obtain ⟨rfl, N28q, eh28⟩ := hQ28
    have N28 := Fr.app N0 N28q
    refine own_go (b := (T28.setTop (mkF m 15 #[.val (.int p0), .val (.int p1), .val (.int p2), .val (.int p3), .val (.ref x_LE), .unset, .unset, .unset, .unset] [(.int (p3 &&& (1 : Int32)))]))) (fun _ k => st28 _ (XS.astore X28.here hx rfl (hb hby at_10) rfl rfl (l' := #[.val (.int p0), .val (.int p1), .val (.int p2), .val (.int p3), .val (.ref x_LE), .unset, .unset, .unset, .unset]) rfl (XS.iloadN X28.here hx rfl (hb hby at_12) rfl (XS.iconst X28.here hx rfl (hb hby at_13) (XS.iand X28.here hx rfl (hb hby at_14) rfl k))))) ?_
    refine own_join (A := Int32) (C := fun yy => True) (f := fun yy => (T28.setTop (mkF m 23 #[.val (.int p0), .val (.int p1), .val (.int p2), .val (.int p3), .val (.ref x_LE), .unset, .unset, .unset, .unset] [(.int yy)]))) ?_ ?_
    · intro yy hj29
      refine own_go (b := (T28.setTop (mkF m 27 #[.val (.int p0), .val (.int p1), .val (.int p2), .val (.int p3), .val (.ref x_LE), .val (.int yy), .unset, .unset, .unset] [(.ref x_LE)]))) (fun _ k => XS.istore X28.here hx rfl (hb hby at_23) rfl (l' := #[.val (.int p0), .val (.int p1), .val (.int p2), .val (.int p3), .val (.ref x_LE), .val (.int yy), .unset, .unset, .unset]) rfl (XS.aload X28.here hx rfl (hb hby at_25) rfl rfl k)) ?_
      obtain ⟨cq30, kq30, q30a, q30b, q30c⟩ := isOf hZ eh28 (EZ_x_LE.ext O0.2)
      obtain ⟨_, _, ⟨T30, L30, k30, n30⟩, -, X30, ⟨Lc30, hQ30, l30, y30, z30⟩, st30⟩ := X28.virtualBack hx (y := (⟨"com/example/urd/urd/functions/ComparisonOperator", "reversed", "()Lcom/example/urd/urd/functions/ComparisonOperator;"⟩ : MethodName)) (z := (⟨"com/example/urd/urd/functions/ComparisonOperator", "reversed", "()Lcom/example/urd/urd/functions/ComparisonOperator;"⟩ : MethodName)) hown (mvT hZ (hw _ (List.mem_of_getElem? (i := 8) rfl))) (mvT hZ (hw _ (List.mem_of_getElem? (i := 9) rfl))) (notFace_of_selects (args := #[]) (mvT hZ (hw _ (List.mem_of_getElem? (i := 11) rfl)))) (mvT hZ (hw _ (List.mem_of_getElem? (i := 11) rfl))) (mvT hZ (hw _ (List.mem_of_getElem? (i := 10) rfl))) (by decide) (backOf (W := 0) (rmr3 l Z a0 hw [] x_LE x_GE h0 n0 Z0 O0 EZ_x_LE Fld0_x_LE_ordinal S_GE) hZ (hw _ (List.mem_of_getElem? (i := 12) rfl)) (hw _ (List.mem_of_getElem? (i := 6) rfl)) (by decide) (by decide)) q30a q30c (g := (mkF m 27 #[.val (.int p0), .val (.int p1), .val (.int p2), .val (.int p3), .val (.ref x_LE), .val (.int yy), .unset, .unset, .unset] [(.ref x_LE)])) rfl (by rw [hml]; rfl) (Steps.refl _) (argsL := []) (rest := []) (lenOf pd___Lcom_example_urd_urd_functions_ComparisonOperator_ rfl) rfl (by show 2 * 0 + _ ≤ _; exact Nat.le_of_eq rfl) (hb hby at_27) (fun _ _ => ⟨rfl, eh28, (by decide : 0 + 0 ≤ _), (by decide : 0 + 0 ≤ _)⟩)
      dsimp only [Pt.U, Pt.locs, Pt.cells, Pt.slots] at X30 l30 y30 z30 st30 hQ30
      subst l30 y30 z30
      obtain ⟨rfl, N30q, eh30⟩ := hQ30
      have N30 := Fr.app N28 N30q
      refine own_go (b := (T30.setTop (mkF m 44 #[.val (.int p0), .val (.int p1), .val (.int p2), .val (.int p3), .val (.ref x_LE), .val (.int yy), .val (.ref x_GE), .unset, .unset] [(.int p1), (.int yy), (.ref x_GE)]))) (fun _ k => st30.trans (XS.astore X30.here hx rfl (hb hby at_30) rfl rfl (l' := #[.val (.int p0), .val (.int p1), .val (.int p2), .val (.int p3), .val (.ref x_LE), .val (.int yy), .val (.ref x_GE), .unset, .unset]) rfl (XS.aload X30.here hx rfl (hb hby at_32) rfl rfl (XS.ifnonnullYes X30.here hx rfl (pc0 := 34) (pc' := 39) rfl (hb hby at_34) rfl (by decide) (by decide) (XS.aload X30.here hx rfl (hb hby at_39) rfl rfl (XS.iload X30.here hx rfl (hb hby at_41) rfl (XS.iloadN X30.here hx rfl (hb hby at_43) rfl k))))))) ?_
      obtain ⟨_, _, ⟨T31, L31, k31, n31⟩, -, X31, ⟨Lc31, hQ31, l31, y31, z31⟩, st31⟩ := Jvm.LawKit.callS X30 hx (y := (⟨"com/example/urd/urd/functions/ComparisonOperatorReversedPinLaw", "sign", "(II)I"⟩ : MethodName)) hown (mvT hZ (hw _ (List.mem_of_getElem? (i := 22) rfl))) (mvT hZ (hw _ (List.mem_of_getElem? (i := 23) rfl))) (mvT hZ (hw _ (List.mem_of_getElem? (i := 3) rfl))) (mvT hZ (hw _ (List.mem_of_getElem? (i := 24) rfl))) (by decide) (backOf (W := 1) (rms l Z a0 hw [] yy p1 h0 n0 Z0) hZ (hw _ (List.mem_of_getElem? (i := 24) rfl)) (hw _ (List.mem_of_getElem? (i := 3) rfl)) (by decide) (by decide)) (g := (mkF m 44 #[.val (.int p0), .val (.int p1), .val (.int p2), .val (.int p3), .val (.ref x_LE), .val (.int yy), .val (.ref x_GE), .unset, .unset] [(.int p1), (.int yy), (.ref x_GE)])) rfl (by rw [hml]; rfl) (argsL := [(.int yy), (.int p1)]) (rest := [(.ref x_GE)]) (lenOf pd__II_I rfl) rfl (by show 2 * 0 + _ ≤ _; exact Nat.le_of_eq rfl) (hb hby at_44) (fun _ _ => ⟨rfl, eh30, (by decide : 0 + 0 ≤ _), (by decide : 0 + 0 ≤ _)⟩)
      dsimp only [Pt.U, Pt.locs, Pt.cells, Pt.slots] at X31 l31 y31 z31 st31 hQ31
      subst l31 y31 z31
      obtain ⟨rfl, N31q, eh31⟩ := hQ31
      have N31 := Fr.app N30 N31q
      refine own_go (b := (T31.setTop (mkF m 47 #[.val (.int p0), .val (.int p1), .val (.int p2), .val (.int p3), .val (.ref x_LE), .val (.int yy), .val (.ref x_GE), .unset, .unset] [(.int (own_sign yy p1)), (.ref x_GE)]))) (fun _ k => st31 _ k) ?_
      obtain ⟨cq32, kq32, q32a, q32b, q32c⟩ := isOf hZ eh31 (EZ_x_GE.ext O0.2)
      obtain ⟨_, _, ⟨T32, L32, k32, n32⟩, -, X32, ⟨Lc32, hQ32, l32, y32, z32⟩, st32⟩ := X31.virtualBack hx (y := (⟨"com/example/urd/urd/functions/ComparisonOperator", "holds", "(I)Z"⟩ : MethodName)) (z := (⟨"com/example/urd/urd/functions/ComparisonOperator", "holds", "(I)Z"⟩ : MethodName)) hown (mvT hZ (hw _ (List.mem_of_getElem? (i := 25) rfl))) (mvT hZ (hw _ (List.mem_of_getElem? (i := 26) rfl))) (notFace_of_selects (args := #[]) (mvT hZ (hw _ (List.mem_of_getElem? (i := 28) rfl)))) (mvT hZ (hw _ (List.mem_of_getElem? (i := 28) rfl))) (mvT hZ (hw _ (List.mem_of_getElem? (i := 27) rfl))) (by decide) (backOf (W := 0) (rmh5 l Z a0 hw [] x_GE (own_sign yy p1) h0 n0 Z0 O0 EZ_x_GE Fld0_x_GE_ordinal) hZ (hw _ (List.mem_of_getElem? (i := 29) rfl)) (hw _ (List.mem_of_getElem? (i := 6) rfl)) (by decide) (by decide)) q32a q32c (g := (mkF m 47 #[.val (.int p0), .val (.int p1), .val (.int p2), .val (.int p3), .val (.ref x_LE), .val (.int yy), .val (.ref x_GE), .unset, .unset] [(.int (own_sign yy p1)), (.ref x_GE)])) rfl (by rw [hml]; rfl) (Steps.refl _) (argsL := [(.int (own_sign yy p1))]) (rest := []) (lenOf pd__I_Z rfl) rfl (by show 2 * 0 + _ ≤ _; exact Nat.le_of_eq rfl) (hb hby at_47) (fun _ _ => ⟨rfl, eh31, (by decide : 0 + 0 ≤ _), (by decide : 0 + 0 ≤ _)⟩)
      dsimp only [Pt.U, Pt.locs, Pt.cells, Pt.slots] at X32 l32 y32 z32 st32 hQ32
      subst l32 y32 z32
      obtain ⟨rfl, N32q, eh32⟩ := hQ32
      have N32 := Fr.app N31 N32q
      refine own_go (b := (T32.setTop (mkF m 57 #[.val (.int p0), .val (.int p1), .val (.int p2), .val (.int p3), .val (.ref x_LE), .val (.int yy), .val (.ref x_GE), .val (.int (own_h5 (own_sign yy p1))), .unset] [(.int yy), (.int p1), (.ref x_LE)]))) (fun _ k => st32.trans (XS.istore X32.here hx rfl (hb hby at_50) rfl (l' := #[.val (.int p0), .val (.int p1), .val (.int p2), .val (.int p3), .val (.ref x_LE), .val (.int yy), .val (.ref x_GE), .val (.int (own_h5 (own_sign yy p1))), .unset]) rfl (XS.aload X32.here hx rfl (hb hby at_52) rfl rfl (XS.iloadN X32.here hx rfl (hb hby at_54) rfl (XS.iload X32.here hx rfl (hb hby at_55) rfl k))))) ?_
      obtain ⟨_, _, ⟨T33, L33, k33, n33⟩, -, X33, ⟨Lc33, hQ33, l33, y33, z33⟩, st33⟩ := Jvm.LawKit.callS X32 hx (y := (⟨"com/example/urd/urd/functions/ComparisonOperatorReversedPinLaw", "sign", "(II)I"⟩ : MethodName)) hown (mvT hZ (hw _ (List.mem_of_getElem? (i := 22) rfl))) (mvT hZ (hw _ (List.mem_of_getElem? (i := 23) rfl))) (mvT hZ (hw _ (List.mem_of_getElem? (i := 3) rfl))) (mvT hZ (hw _ (List.mem_of_getElem? (i := 24) rfl))) (by decide) (backOf (W := 1) (rms l Z a0 hw [] p1 yy h0 n0 Z0) hZ (hw _ (List.mem_of_getElem? (i := 24) rfl)) (hw _ (List.mem_of_getElem? (i := 3) rfl)) (by decide) (by decide)) (g := (mkF m 57 #[.val (.int p0), .val (.int p1), .val (.int p2), .val (.int p3), .val (.ref x_LE), .val (.int yy), .val (.ref x_GE), .val (.int (own_h5 (own_sign yy p1))), .unset] [(.int yy), (.int p1), (.ref x_LE)])) rfl (by rw [hml]; rfl) (argsL := [(.int p1), (.int yy)]) (rest := [(.ref x_LE)]) (lenOf pd__II_I rfl) rfl (by show 2 * 0 + _ ≤ _; exact Nat.le_of_eq rfl) (hb hby at_57) (fun _ _ => ⟨rfl, eh32, (by decide : 0 + 0 ≤ _), (by decide : 0 + 0 ≤ _)⟩)
      dsimp only [Pt.U, Pt.locs, Pt.cells, Pt.slots] at X33 l33 y33 z33 st33 hQ33
      subst l33 y33 z33
      obtain ⟨rfl, N33q, eh33⟩ := hQ33
      have N33 := Fr.app N32 N33q
      refine own_go (b := (T33.setTop (mkF m 60 #[.val (.int p0), .val (.int p1), .val (.int p2), .val (.int p3), .val (.ref x_LE), .val (.int yy), .val (.ref x_GE), .val (.int (own_h5 (own_sign yy p1))), .unset] [(.int (own_sign p1 yy)), (.ref x_LE)]))) (fun _ k => st33 _ k) ?_
      obtain ⟨cq34, kq34, q34a, q34b, q34c⟩ := isOf hZ eh33 (EZ_x_LE.ext O0.2)
      obtain ⟨_, _, ⟨T34, L34, k34, n34⟩, -, X34, ⟨Lc34, hQ34, l34, y34, z34⟩, st34⟩ := X33.virtualBack hx (y := (⟨"com/example/urd/urd/functions/ComparisonOperator", "holds", "(I)Z"⟩ : MethodName)) (z := (⟨"com/example/urd/urd/functions/ComparisonOperator", "holds", "(I)Z"⟩ : MethodName)) hown (mvT hZ (hw _ (List.mem_of_getElem? (i := 25) rfl))) (mvT hZ (hw _ (List.mem_of_getElem? (i := 26) rfl))) (notFace_of_selects (args := #[]) (mvT hZ (hw _ (List.mem_of_getElem? (i := 28) rfl)))) (mvT hZ (hw _ (List.mem_of_getElem? (i := 28) rfl))) (mvT hZ (hw _ (List.mem_of_getElem? (i := 27) rfl))) (by decide) (backOf (W := 0) (rmh3 l Z a0 hw [] x_LE (own_sign p1 yy) h0 n0 Z0 O0 EZ_x_LE Fld0_x_LE_ordinal) hZ (hw _ (List.mem_of_getElem? (i := 29) rfl)) (hw _ (List.mem_of_getElem? (i := 6) rfl)) (by decide) (by decide)) q34a q34c (g := (mkF m 60 #[.val (.int p0), .val (.int p1), .val (.int p2), .val (.int p3), .val (.ref x_LE), .val (.int yy), .val (.ref x_GE), .val (.int (own_h5 (own_sign yy p1))), .unset] [(.int (own_sign p1 yy)), (.ref x_LE)])) rfl (by rw [hml]; rfl) (Steps.refl _) (argsL := [(.int (own_sign p1 yy))]) (rest := []) (lenOf pd__I_Z rfl) rfl (by show 2 * 0 + _ ≤ _; exact Nat.le_of_eq rfl) (hb hby at_60) (fun _ _ => ⟨rfl, eh33, (by decide : 0 + 0 ≤ _), (by decide : 0 + 0 ≤ _)⟩)
      dsimp only [Pt.U, Pt.locs, Pt.cells, Pt.slots] at X34 l34 y34 z34 st34 hQ34
      subst l34 y34 z34
      obtain ⟨rfl, N34q, eh34⟩ := hQ34
      have N34 := Fr.app N33 N34q
      refine own_go (b := (T34.setTop (mkF m 74 #[.val (.int p0), .val (.int p1), .val (.int p2), .val (.int p3), .val (.ref x_LE), .val (.int yy), .val (.ref x_GE), .val (.int (own_h5 (own_sign yy p1))), .val (.int (own_h3 (own_sign p1 yy)))] [(.ref x_GE)]))) (fun _ k => st34.trans (XS.istore X34.here hx rfl (hb hby at_63) rfl (l' := #[.val (.int p0), .val (.int p1), .val (.int p2), .val (.int p3), .val (.ref x_LE), .val (.int yy), .val (.ref x_GE), .val (.int (own_h5 (own_sign yy p1))), .val (.int (own_h3 (own_sign p1 yy)))]) rfl (XS.iload X34.here hx rfl (hb hby at_65) rfl (XS.iload X34.here hx rfl (hb hby at_67) rfl (XS.icmpNo X34.here hx rfl (hb hby at_69) rfl (teq (own_rv3 p1 yy)).2 (XS.aload X34.here hx rfl (hb hby at_72) rfl rfl k)))))) ?_
      obtain ⟨cq35, kq35, q35a, q35b, q35c⟩ := isOf hZ eh34 (EZ_x_GE.ext O0.2)
      obtain ⟨_, _, ⟨T35, L35, k35, n35⟩, -, X35, ⟨Lc35, hQ35, l35, y35, z35⟩, st35⟩ := X34.virtualBack hx (y := (⟨"com/example/urd/urd/functions/ComparisonOperator", "reversed", "()Lcom/example/urd/urd/functions/ComparisonOperator;"⟩ : MethodName)) (z := (⟨"com/example/urd/urd/functions/ComparisonOperator", "reversed", "()Lcom/example/urd/urd/functions/ComparisonOperator;"⟩ : MethodName)) hown (mvT hZ (hw _ (List.mem_of_getElem? (i := 8) rfl))) (mvT hZ (hw _ (List.mem_of_getElem? (i := 9) rfl))) (notFace_of_selects (args := #[]) (mvT hZ (hw _ (List.mem_of_getElem? (i := 11) rfl)))) (mvT hZ (hw _ (List.mem_of_getElem? (i := 11) rfl))) (mvT hZ (hw _ (List.mem_of_getElem? (i := 10) rfl))) (by decide) (backOf (W := 0) (rmr5 l Z a0 hw [] x_GE x_LE h0 n0 Z0 O0 EZ_x_GE Fld0_x_GE_ordinal S_LE) hZ (hw _ (List.mem_of_getElem? (i := 12) rfl)) (hw _ (List.mem_of_getElem? (i := 6) rfl)) (by decide) (by decide)) q35a q35c (g := (mkF m 74 #[.val (.int p0), .val (.int p1), .val (.int p2), .val (.int p3), .val (.ref x_LE), .val (.int yy), .val (.ref x_GE), .val (.int (own_h5 (own_sign yy p1))), .val (.int (own_h3 (own_sign p1 yy)))] [(.ref x_GE)])) rfl (by rw [hml]; rfl) (Steps.refl _) (argsL := []) (rest := []) (lenOf pd___Lcom_example_urd_urd_functions_ComparisonOperator_ rfl) rfl (by show 2 * 0 + _ ≤ _; exact Nat.le_of_eq rfl) (hb hby at_74) (fun _ _ => ⟨rfl, eh34, (by decide : 0 + 0 ≤ _), (by decide : 0 + 0 ≤ _)⟩)
      dsimp only [Pt.U, Pt.locs, Pt.cells, Pt.slots] at X35 l35 y35 z35 st35 hQ35
      subst l35 y35 z35
      obtain ⟨rfl, N35q, eh35⟩ := hQ35
      have N35 := Fr.app N34 N35q
      refine own_go (b := (T35.setTop (mkF m 87 #[.val (.int p0), .val (.int p1), .val (.int p2), .val (.int p3), .val (.ref x_LE), .val (.int yy), .val (.ref x_GE), .val (.int (own_h5 (own_sign yy p1))), .val (.int (own_h3 (own_sign p1 yy)))] [(.int (1 : Int32))]))) (fun _ k => st35.trans (XS.aload X35.here hx rfl (hb hby at_77) rfl rfl (Jvm.RoadKit.acmp (g := (mkF m 79 #[.val (.int p0), .val (.int p1), .val (.int p2), .val (.int p3), .val (.ref x_LE), .val (.int yy), .val (.ref x_GE), .val (.int (own_h5 (own_sign yy p1))), .val (.int (own_h3 (own_sign p1 yy)))] [(.ref x_LE), (.ref x_LE)])) X35 hx rfl rfl rfl (pc0 := 79) (pc' := 82) (same := true) rfl (hb hby at_79) rfl (decide_eq_true rfl) (by decide) (by decide) (XS.iconst X35.here hx rfl (hb hby at_82) (XS.goto X35.here hx rfl (pc0 := 83) (pc' := 87) rfl (hb hby at_83) (by decide) (by decide) k))))) ?_
      obtain ⟨fs, hr, hrun, hended, hW, hsame⟩ := X35.leave (v := some (.int (1 : Int32))) (fun h => by rw [Bd.returns] at h; cases h)
      exact ⟨_, _, retN X35 hx (t := .boolean) Bd.returns (by simp) (hb hby at_87) hr, hrun, hended, _, _, rfl, (show Qrm0 Z p0 p1 p2 p3 x_EQ x_NE x_LT x_LE x_GT x_GE h0 n0 _ T35.heap _ from (by rw [eh35]; exact ⟨rfl, N35⟩)), ⟨_, rfl⟩, hW, hsame.mono (by decide) (by decide)⟩
    · intro J29
      by_cases hc15_36 : (p3 &&& (1 : Int32)) = (0 : Int32)
      · skip
        refine own_go (b := (T28.setTop (mkF m 23 #[.val (.int p0), .val (.int p1), .val (.int p2), .val (.int p3), .val (.ref x_LE), .unset, .unset, .unset, .unset] [(.int p2)]))) (fun _ k => XS.ifYes X28.here hx rfl (pc0 := 15) (pc' := 22) rfl (hb hby at_15) rfl ((if0 _ _).trans (teq hc15_36).1) (by decide) (by decide) (XS.iloadN X28.here hx rfl (hb hby at_22) rfl k)) ?_
        exact J29 p2 trivial
      · skip
        refine own_go (b := (T28.setTop (mkF m 23 #[.val (.int p0), .val (.int p1), .val (.int p2), .val (.int p3), .val (.ref x_LE), .unset, .unset, .unset, .unset] [(.int p1)]))) (fun _ k => XS.ifNo X28.here hx rfl (hb hby at_15) rfl ((if0 _ _).trans (feq hc15_36).1) (XS.iloadN X28.here hx rfl (hb hby at_18) rfl (XS.goto X28.here hx rfl (pc0 := 19) (pc' := 23) rfl (hb hby at_19) (by decide) (by decide) k))) ?_
        exact J29 p1 trivial
  · rw [hk]
    obtain ⟨_, _, ⟨T37, L37, k37, n37⟩, -, X37, ⟨Lc37, hQ37, l37, y37, z37⟩, st37⟩ := Jvm.LawKit.callS X0 hx (y := (⟨"com/example/urd/urd/functions/ComparisonOperatorReversedPinLaw", "pick", "(I)Lcom/example/urd/urd/functions/ComparisonOperator;"⟩ : MethodName)) hown (mvT hZ (hw _ (List.mem_of_getElem? (i := 1) rfl))) (mvT hZ (hw _ (List.mem_of_getElem? (i := 2) rfl))) (mvT hZ (hw _ (List.mem_of_getElem? (i := 3) rfl))) (mvT hZ (hw _ (List.mem_of_getElem? (i := 4) rfl))) (by decide) (backOf (W := 0) (rmp4 l Z a0 hw [] x_GT h0 n0 Z0 O0 S_GT) hZ (hw _ (List.mem_of_getElem? (i := 4) rfl)) (hw _ (List.mem_of_getElem? (i := 3) rfl)) (by decide) (by decide)) (g := (mkF m 7 #[.val (.int p0), .val (.int p1), .val (.int p2), .val (.int p3), .unset, .unset, .unset, .unset, .unset] [(.int (4 : Int32))])) rfl (by rw [hml]; rfl) (argsL := [(.int (4 : Int32))]) (rest := []) (lenOf pd__I_Lcom_example_urd_urd_functions_ComparisonOperator_ rfl) rfl (by show 2 * 0 + _ ≤ _; exact Nat.le_of_eq rfl) (hb hby at_7) (fun _ _ => ⟨rfl, e0, (by decide : 0 + 0 ≤ _), (by decide : 0 + 0 ≤ _)⟩)
    dsimp only [Pt.U, Pt.locs, Pt.cells, Pt.slots] at X37 l37 y37 z37 st37 hQ37
    subst l37 y37 z37
    obtain ⟨rfl, N37q, eh37⟩ := hQ37
    have N37 := Fr.app N0 N37q
    refine own_go (b := (T37.setTop (mkF m 15 #[.val (.int p0), .val (.int p1), .val (.int p2), .val (.int p3), .val (.ref x_GT), .unset, .unset, .unset, .unset] [(.int (p3 &&& (1 : Int32)))]))) (fun _ k => st37 _ (XS.astore X37.here hx rfl (hb hby at_10) rfl rfl (l' := #[.val (.int p0), .val (.int p1), .val (.int p2), .val (.int p3), .val (.ref x_GT), .unset, .unset, .unset, .unset]) rfl (XS.iloadN X37.here hx rfl (hb hby at_12) rfl (XS.iconst X37.here hx rfl (hb hby at_13) (XS.iand X37.here hx rfl (hb hby at_14) rfl k))))) ?_
    refine own_join (A := Int32) (C := fun yy => True) (f := fun yy => (T37.setTop (mkF m 23 #[.val (.int p0), .val (.int p1), .val (.int p2), .val (.int p3), .val (.ref x_GT), .unset, .unset, .unset, .unset] [(.int yy)]))) ?_ ?_
    · intro yy hj38
      refine own_go (b := (T37.setTop (mkF m 27 #[.val (.int p0), .val (.int p1), .val (.int p2), .val (.int p3), .val (.ref x_GT), .val (.int yy), .unset, .unset, .unset] [(.ref x_GT)]))) (fun _ k => XS.istore X37.here hx rfl (hb hby at_23) rfl (l' := #[.val (.int p0), .val (.int p1), .val (.int p2), .val (.int p3), .val (.ref x_GT), .val (.int yy), .unset, .unset, .unset]) rfl (XS.aload X37.here hx rfl (hb hby at_25) rfl rfl k)) ?_
      obtain ⟨cq39, kq39, q39a, q39b, q39c⟩ := isOf hZ eh37 (EZ_x_GT.ext O0.2)
      obtain ⟨_, _, ⟨T39, L39, k39, n39⟩, -, X39, ⟨Lc39, hQ39, l39, y39, z39⟩, st39⟩ := X37.virtualBack hx (y := (⟨"com/example/urd/urd/functions/ComparisonOperator", "reversed", "()Lcom/example/urd/urd/functions/ComparisonOperator;"⟩ : MethodName)) (z := (⟨"com/example/urd/urd/functions/ComparisonOperator", "reversed", "()Lcom/example/urd/urd/functions/ComparisonOperator;"⟩ : MethodName)) hown (mvT hZ (hw _ (List.mem_of_getElem? (i := 8) rfl))) (mvT hZ (hw _ (List.mem_of_getElem? (i := 9) rfl))) (notFace_of_selects (args := #[]) (mvT hZ (hw _ (List.mem_of_getElem? (i := 11) rfl)))) (mvT hZ (hw _ (List.mem_of_getElem? (i := 11) rfl))) (mvT hZ (hw _ (List.mem_of_getElem? (i := 10) rfl))) (by decide) (backOf (W := 0) (rmr4 l Z a0 hw [] x_GT x_LT h0 n0 Z0 O0 EZ_x_GT Fld0_x_GT_ordinal S_LT) hZ (hw _ (List.mem_of_getElem? (i := 12) rfl)) (hw _ (List.mem_of_getElem? (i := 6) rfl)) (by decide) (by decide)) q39a q39c (g := (mkF m 27 #[.val (.int p0), .val (.int p1), .val (.int p2), .val (.int p3), .val (.ref x_GT), .val (.int yy), .unset, .unset, .unset] [(.ref x_GT)])) rfl (by rw [hml]; rfl) (Steps.refl _) (argsL := []) (rest := []) (lenOf pd___Lcom_example_urd_urd_functions_ComparisonOperator_ rfl) rfl (by show 2 * 0 + _ ≤ _; exact Nat.le_of_eq rfl) (hb hby at_27) (fun _ _ => ⟨rfl, eh37, (by decide : 0 + 0 ≤ _), (by decide : 0 + 0 ≤ _)⟩)
      dsimp only [Pt.U, Pt.locs, Pt.cells, Pt.slots] at X39 l39 y39 z39 st39 hQ39
      subst l39 y39 z39
      obtain ⟨rfl, N39q, eh39⟩ := hQ39
      have N39 := Fr.app N37 N39q
      refine own_go (b := (T39.setTop (mkF m 44 #[.val (.int p0), .val (.int p1), .val (.int p2), .val (.int p3), .val (.ref x_GT), .val (.int yy), .val (.ref x_LT), .unset, .unset] [(.int p1), (.int yy), (.ref x_LT)]))) (fun _ k => st39.trans (XS.astore X39.here hx rfl (hb hby at_30) rfl rfl (l' := #[.val (.int p0), .val (.int p1), .val (.int p2), .val (.int p3), .val (.ref x_GT), .val (.int yy), .val (.ref x_LT), .unset, .unset]) rfl (XS.aload X39.here hx rfl (hb hby at_32) rfl rfl (XS.ifnonnullYes X39.here hx rfl (pc0 := 34) (pc' := 39) rfl (hb hby at_34) rfl (by decide) (by decide) (XS.aload X39.here hx rfl (hb hby at_39) rfl rfl (XS.iload X39.here hx rfl (hb hby at_41) rfl (XS.iloadN X39.here hx rfl (hb hby at_43) rfl k))))))) ?_
      obtain ⟨_, _, ⟨T40, L40, k40, n40⟩, -, X40, ⟨Lc40, hQ40, l40, y40, z40⟩, st40⟩ := Jvm.LawKit.callS X39 hx (y := (⟨"com/example/urd/urd/functions/ComparisonOperatorReversedPinLaw", "sign", "(II)I"⟩ : MethodName)) hown (mvT hZ (hw _ (List.mem_of_getElem? (i := 22) rfl))) (mvT hZ (hw _ (List.mem_of_getElem? (i := 23) rfl))) (mvT hZ (hw _ (List.mem_of_getElem? (i := 3) rfl))) (mvT hZ (hw _ (List.mem_of_getElem? (i := 24) rfl))) (by decide) (backOf (W := 1) (rms l Z a0 hw [] yy p1 h0 n0 Z0) hZ (hw _ (List.mem_of_getElem? (i := 24) rfl)) (hw _ (List.mem_of_getElem? (i := 3) rfl)) (by decide) (by decide)) (g := (mkF m 44 #[.val (.int p0), .val (.int p1), .val (.int p2), .val (.int p3), .val (.ref x_GT), .val (.int yy), .val (.ref x_LT), .unset, .unset] [(.int p1), (.int yy), (.ref x_LT)])) rfl (by rw [hml]; rfl) (argsL := [(.int yy), (.int p1)]) (rest := [(.ref x_LT)]) (lenOf pd__II_I rfl) rfl (by show 2 * 0 + _ ≤ _; exact Nat.le_of_eq rfl) (hb hby at_44) (fun _ _ => ⟨rfl, eh39, (by decide : 0 + 0 ≤ _), (by decide : 0 + 0 ≤ _)⟩)
      dsimp only [Pt.U, Pt.locs, Pt.cells, Pt.slots] at X40 l40 y40 z40 st40 hQ40
      subst l40 y40 z40
      obtain ⟨rfl, N40q, eh40⟩ := hQ40
      have N40 := Fr.app N39 N40q
      refine own_go (b := (T40.setTop (mkF m 47 #[.val (.int p0), .val (.int p1), .val (.int p2), .val (.int p3), .val (.ref x_GT), .val (.int yy), .val (.ref x_LT), .unset, .unset] [(.int (own_sign yy p1)), (.ref x_LT)]))) (fun _ k => st40 _ k) ?_
      obtain ⟨cq41, kq41, q41a, q41b, q41c⟩ := isOf hZ eh40 (EZ_x_LT.ext O0.2)
      obtain ⟨_, _, ⟨T41, L41, k41, n41⟩, -, X41, ⟨Lc41, hQ41, l41, y41, z41⟩, st41⟩ := X40.virtualBack hx (y := (⟨"com/example/urd/urd/functions/ComparisonOperator", "holds", "(I)Z"⟩ : MethodName)) (z := (⟨"com/example/urd/urd/functions/ComparisonOperator", "holds", "(I)Z"⟩ : MethodName)) hown (mvT hZ (hw _ (List.mem_of_getElem? (i := 25) rfl))) (mvT hZ (hw _ (List.mem_of_getElem? (i := 26) rfl))) (notFace_of_selects (args := #[]) (mvT hZ (hw _ (List.mem_of_getElem? (i := 28) rfl)))) (mvT hZ (hw _ (List.mem_of_getElem? (i := 28) rfl))) (mvT hZ (hw _ (List.mem_of_getElem? (i := 27) rfl))) (by decide) (backOf (W := 0) (rmh2 l Z a0 hw [] x_LT (own_sign yy p1) h0 n0 Z0 O0 EZ_x_LT Fld0_x_LT_ordinal) hZ (hw _ (List.mem_of_getElem? (i := 29) rfl)) (hw _ (List.mem_of_getElem? (i := 6) rfl)) (by decide) (by decide)) q41a q41c (g := (mkF m 47 #[.val (.int p0), .val (.int p1), .val (.int p2), .val (.int p3), .val (.ref x_GT), .val (.int yy), .val (.ref x_LT), .unset, .unset] [(.int (own_sign yy p1)), (.ref x_LT)])) rfl (by rw [hml]; rfl) (Steps.refl _) (argsL := [(.int (own_sign yy p1))]) (rest := []) (lenOf pd__I_Z rfl) rfl (by show 2 * 0 + _ ≤ _; exact Nat.le_of_eq rfl) (hb hby at_47) (fun _ _ => ⟨rfl, eh40, (by decide : 0 + 0 ≤ _), (by decide : 0 + 0 ≤ _)⟩)
      dsimp only [Pt.U, Pt.locs, Pt.cells, Pt.slots] at X41 l41 y41 z41 st41 hQ41
      subst l41 y41 z41
      obtain ⟨rfl, N41q, eh41⟩ := hQ41
      have N41 := Fr.app N40 N41q
      refine own_go (b := (T41.setTop (mkF m 57 #[.val (.int p0), .val (.int p1), .val (.int p2), .val (.int p3), .val (.ref x_GT), .val (.int yy), .val (.ref x_LT), .val (.int (own_h2 (own_sign yy p1))), .unset] [(.int yy), (.int p1), (.ref x_GT)]))) (fun _ k => st41.trans (XS.istore X41.here hx rfl (hb hby at_50) rfl (l' := #[.val (.int p0), .val (.int p1), .val (.int p2), .val (.int p3), .val (.ref x_GT), .val (.int yy), .val (.ref x_LT), .val (.int (own_h2 (own_sign yy p1))), .unset]) rfl (XS.aload X41.here hx rfl (hb hby at_52) rfl rfl (XS.iloadN X41.here hx rfl (hb hby at_54) rfl (XS.iload X41.here hx rfl (hb hby at_55) rfl k))))) ?_
      obtain ⟨_, _, ⟨T42, L42, k42, n42⟩, -, X42, ⟨Lc42, hQ42, l42, y42, z42⟩, st42⟩ := Jvm.LawKit.callS X41 hx (y := (⟨"com/example/urd/urd/functions/ComparisonOperatorReversedPinLaw", "sign", "(II)I"⟩ : MethodName)) hown (mvT hZ (hw _ (List.mem_of_getElem? (i := 22) rfl))) (mvT hZ (hw _ (List.mem_of_getElem? (i := 23) rfl))) (mvT hZ (hw _ (List.mem_of_getElem? (i := 3) rfl))) (mvT hZ (hw _ (List.mem_of_getElem? (i := 24) rfl))) (by decide) (backOf (W := 1) (rms l Z a0 hw [] p1 yy h0 n0 Z0) hZ (hw _ (List.mem_of_getElem? (i := 24) rfl)) (hw _ (List.mem_of_getElem? (i := 3) rfl)) (by decide) (by decide)) (g := (mkF m 57 #[.val (.int p0), .val (.int p1), .val (.int p2), .val (.int p3), .val (.ref x_GT), .val (.int yy), .val (.ref x_LT), .val (.int (own_h2 (own_sign yy p1))), .unset] [(.int yy), (.int p1), (.ref x_GT)])) rfl (by rw [hml]; rfl) (argsL := [(.int p1), (.int yy)]) (rest := [(.ref x_GT)]) (lenOf pd__II_I rfl) rfl (by show 2 * 0 + _ ≤ _; exact Nat.le_of_eq rfl) (hb hby at_57) (fun _ _ => ⟨rfl, eh41, (by decide : 0 + 0 ≤ _), (by decide : 0 + 0 ≤ _)⟩)
      dsimp only [Pt.U, Pt.locs, Pt.cells, Pt.slots] at X42 l42 y42 z42 st42 hQ42
      subst l42 y42 z42
      obtain ⟨rfl, N42q, eh42⟩ := hQ42
      have N42 := Fr.app N41 N42q
      refine own_go (b := (T42.setTop (mkF m 60 #[.val (.int p0), .val (.int p1), .val (.int p2), .val (.int p3), .val (.ref x_GT), .val (.int yy), .val (.ref x_LT), .val (.int (own_h2 (own_sign yy p1))), .unset] [(.int (own_sign p1 yy)), (.ref x_GT)]))) (fun _ k => st42 _ k) ?_
      obtain ⟨cq43, kq43, q43a, q43b, q43c⟩ := isOf hZ eh42 (EZ_x_GT.ext O0.2)
      obtain ⟨_, _, ⟨T43, L43, k43, n43⟩, -, X43, ⟨Lc43, hQ43, l43, y43, z43⟩, st43⟩ := X42.virtualBack hx (y := (⟨"com/example/urd/urd/functions/ComparisonOperator", "holds", "(I)Z"⟩ : MethodName)) (z := (⟨"com/example/urd/urd/functions/ComparisonOperator", "holds", "(I)Z"⟩ : MethodName)) hown (mvT hZ (hw _ (List.mem_of_getElem? (i := 25) rfl))) (mvT hZ (hw _ (List.mem_of_getElem? (i := 26) rfl))) (notFace_of_selects (args := #[]) (mvT hZ (hw _ (List.mem_of_getElem? (i := 28) rfl)))) (mvT hZ (hw _ (List.mem_of_getElem? (i := 28) rfl))) (mvT hZ (hw _ (List.mem_of_getElem? (i := 27) rfl))) (by decide) (backOf (W := 0) (rmh4 l Z a0 hw [] x_GT (own_sign p1 yy) h0 n0 Z0 O0 EZ_x_GT Fld0_x_GT_ordinal) hZ (hw _ (List.mem_of_getElem? (i := 29) rfl)) (hw _ (List.mem_of_getElem? (i := 6) rfl)) (by decide) (by decide)) q43a q43c (g := (mkF m 60 #[.val (.int p0), .val (.int p1), .val (.int p2), .val (.int p3), .val (.ref x_GT), .val (.int yy), .val (.ref x_LT), .val (.int (own_h2 (own_sign yy p1))), .unset] [(.int (own_sign p1 yy)), (.ref x_GT)])) rfl (by rw [hml]; rfl) (Steps.refl _) (argsL := [(.int (own_sign p1 yy))]) (rest := []) (lenOf pd__I_Z rfl) rfl (by show 2 * 0 + _ ≤ _; exact Nat.le_of_eq rfl) (hb hby at_60) (fun _ _ => ⟨rfl, eh42, (by decide : 0 + 0 ≤ _), (by decide : 0 + 0 ≤ _)⟩)
      dsimp only [Pt.U, Pt.locs, Pt.cells, Pt.slots] at X43 l43 y43 z43 st43 hQ43
      subst l43 y43 z43
      obtain ⟨rfl, N43q, eh43⟩ := hQ43
      have N43 := Fr.app N42 N43q
      refine own_go (b := (T43.setTop (mkF m 74 #[.val (.int p0), .val (.int p1), .val (.int p2), .val (.int p3), .val (.ref x_GT), .val (.int yy), .val (.ref x_LT), .val (.int (own_h2 (own_sign yy p1))), .val (.int (own_h4 (own_sign p1 yy)))] [(.ref x_LT)]))) (fun _ k => st43.trans (XS.istore X43.here hx rfl (hb hby at_63) rfl (l' := #[.val (.int p0), .val (.int p1), .val (.int p2), .val (.int p3), .val (.ref x_GT), .val (.int yy), .val (.ref x_LT), .val (.int (own_h2 (own_sign yy p1))), .val (.int (own_h4 (own_sign p1 yy)))]) rfl (XS.iload X43.here hx rfl (hb hby at_65) rfl (XS.iload X43.here hx rfl (hb hby at_67) rfl (XS.icmpNo X43.here hx rfl (hb hby at_69) rfl (teq (own_rv4 p1 yy)).2 (XS.aload X43.here hx rfl (hb hby at_72) rfl rfl k)))))) ?_
      obtain ⟨cq44, kq44, q44a, q44b, q44c⟩ := isOf hZ eh43 (EZ_x_LT.ext O0.2)
      obtain ⟨_, _, ⟨T44, L44, k44, n44⟩, -, X44, ⟨Lc44, hQ44, l44, y44, z44⟩, st44⟩ := X43.virtualBack hx (y := (⟨"com/example/urd/urd/functions/ComparisonOperator", "reversed", "()Lcom/example/urd/urd/functions/ComparisonOperator;"⟩ : MethodName)) (z := (⟨"com/example/urd/urd/functions/ComparisonOperator", "reversed", "()Lcom/example/urd/urd/functions/ComparisonOperator;"⟩ : MethodName)) hown (mvT hZ (hw _ (List.mem_of_getElem? (i := 8) rfl))) (mvT hZ (hw _ (List.mem_of_getElem? (i := 9) rfl))) (notFace_of_selects (args := #[]) (mvT hZ (hw _ (List.mem_of_getElem? (i := 11) rfl)))) (mvT hZ (hw _ (List.mem_of_getElem? (i := 11) rfl))) (mvT hZ (hw _ (List.mem_of_getElem? (i := 10) rfl))) (by decide) (backOf (W := 0) (rmr2 l Z a0 hw [] x_LT x_GT h0 n0 Z0 O0 EZ_x_LT Fld0_x_LT_ordinal S_GT) hZ (hw _ (List.mem_of_getElem? (i := 12) rfl)) (hw _ (List.mem_of_getElem? (i := 6) rfl)) (by decide) (by decide)) q44a q44c (g := (mkF m 74 #[.val (.int p0), .val (.int p1), .val (.int p2), .val (.int p3), .val (.ref x_GT), .val (.int yy), .val (.ref x_LT), .val (.int (own_h2 (own_sign yy p1))), .val (.int (own_h4 (own_sign p1 yy)))] [(.ref x_LT)])) rfl (by rw [hml]; rfl) (Steps.refl _) (argsL := []) (rest := []) (lenOf pd___Lcom_example_urd_urd_functions_ComparisonOperator_ rfl) rfl (by show 2 * 0 + _ ≤ _; exact Nat.le_of_eq rfl) (hb hby at_74) (fun _ _ => ⟨rfl, eh43, (by decide : 0 + 0 ≤ _), (by decide : 0 + 0 ≤ _)⟩)
      dsimp only [Pt.U, Pt.locs, Pt.cells, Pt.slots] at X44 l44 y44 z44 st44 hQ44
      subst l44 y44 z44
      obtain ⟨rfl, N44q, eh44⟩ := hQ44
      have N44 := Fr.app N43 N44q
      refine own_go (b := (T44.setTop (mkF m 87 #[.val (.int p0), .val (.int p1), .val (.int p2), .val (.int p3), .val (.ref x_GT), .val (.int yy), .val (.ref x_LT), .val (.int (own_h2 (own_sign yy p1))), .val (.int (own_h4 (own_sign p1 yy)))] [(.int (1 : Int32))]))) (fun _ k => st44.trans (XS.aload X44.here hx rfl (hb hby at_77) rfl rfl (Jvm.RoadKit.acmp (g := (mkF m 79 #[.val (.int p0), .val (.int p1), .val (.int p2), .val (.int p3), .val (.ref x_GT), .val (.int yy), .val (.ref x_LT), .val (.int (own_h2 (own_sign yy p1))), .val (.int (own_h4 (own_sign p1 yy)))] [(.ref x_GT), (.ref x_GT)])) X44 hx rfl rfl rfl (pc0 := 79) (pc' := 82) (same := true) rfl (hb hby at_79) rfl (decide_eq_true rfl) (by decide) (by decide) (XS.iconst X44.here hx rfl (hb hby at_82) (XS.goto X44.here hx rfl (pc0 := 83) (pc' := 87) rfl (hb hby at_83) (by decide) (by decide) k))))) ?_
      obtain ⟨fs, hr, hrun, hended, hW, hsame⟩ := X44.leave (v := some (.int (1 : Int32))) (fun h => by rw [Bd.returns] at h; cases h)
      exact ⟨_, _, retN X44 hx (t := .boolean) Bd.returns (by simp) (hb hby at_87) hr, hrun, hended, _, _, rfl, (show Qrm0 Z p0 p1 p2 p3 x_EQ x_NE x_LT x_LE x_GT x_GE h0 n0 _ T44.heap _ from (by rw [eh44]; exact ⟨rfl, N44⟩)), ⟨_, rfl⟩, hW, hsame.mono (by decide) (by decide)⟩
    · intro J38
      by_cases hc15_45 : (p3 &&& (1 : Int32)) = (0 : Int32)
      · skip
        refine own_go (b := (T37.setTop (mkF m 23 #[.val (.int p0), .val (.int p1), .val (.int p2), .val (.int p3), .val (.ref x_GT), .unset, .unset, .unset, .unset] [(.int p2)]))) (fun _ k => XS.ifYes X37.here hx rfl (pc0 := 15) (pc' := 22) rfl (hb hby at_15) rfl ((if0 _ _).trans (teq hc15_45).1) (by decide) (by decide) (XS.iloadN X37.here hx rfl (hb hby at_22) rfl k)) ?_
        exact J38 p2 trivial
      · skip
        refine own_go (b := (T37.setTop (mkF m 23 #[.val (.int p0), .val (.int p1), .val (.int p2), .val (.int p3), .val (.ref x_GT), .unset, .unset, .unset, .unset] [(.int p1)]))) (fun _ k => XS.ifNo X37.here hx rfl (hb hby at_15) rfl ((if0 _ _).trans (feq hc15_45).1) (XS.iloadN X37.here hx rfl (hb hby at_18) rfl (XS.goto X37.here hx rfl (pc0 := 19) (pc' := 23) rfl (hb hby at_19) (by decide) (by decide) k))) ?_
        exact J38 p1 trivial
  · rw [hk]
    obtain ⟨_, _, ⟨T46, L46, k46, n46⟩, -, X46, ⟨Lc46, hQ46, l46, y46, z46⟩, st46⟩ := Jvm.LawKit.callS X0 hx (y := (⟨"com/example/urd/urd/functions/ComparisonOperatorReversedPinLaw", "pick", "(I)Lcom/example/urd/urd/functions/ComparisonOperator;"⟩ : MethodName)) hown (mvT hZ (hw _ (List.mem_of_getElem? (i := 1) rfl))) (mvT hZ (hw _ (List.mem_of_getElem? (i := 2) rfl))) (mvT hZ (hw _ (List.mem_of_getElem? (i := 3) rfl))) (mvT hZ (hw _ (List.mem_of_getElem? (i := 4) rfl))) (by decide) (backOf (W := 0) (rmp5 l Z a0 hw [] x_GE h0 n0 Z0 O0 S_GE) hZ (hw _ (List.mem_of_getElem? (i := 4) rfl)) (hw _ (List.mem_of_getElem? (i := 3) rfl)) (by decide) (by decide)) (g := (mkF m 7 #[.val (.int p0), .val (.int p1), .val (.int p2), .val (.int p3), .unset, .unset, .unset, .unset, .unset] [(.int (5 : Int32))])) rfl (by rw [hml]; rfl) (argsL := [(.int (5 : Int32))]) (rest := []) (lenOf pd__I_Lcom_example_urd_urd_functions_ComparisonOperator_ rfl) rfl (by show 2 * 0 + _ ≤ _; exact Nat.le_of_eq rfl) (hb hby at_7) (fun _ _ => ⟨rfl, e0, (by decide : 0 + 0 ≤ _), (by decide : 0 + 0 ≤ _)⟩)
    dsimp only [Pt.U, Pt.locs, Pt.cells, Pt.slots] at X46 l46 y46 z46 st46 hQ46
    subst l46 y46 z46
    obtain ⟨rfl, N46q, eh46⟩ := hQ46
    have N46 := Fr.app N0 N46q
    refine own_go (b := (T46.setTop (mkF m 15 #[.val (.int p0), .val (.int p1), .val (.int p2), .val (.int p3), .val (.ref x_GE), .unset, .unset, .unset, .unset] [(.int (p3 &&& (1 : Int32)))]))) (fun _ k => st46 _ (XS.astore X46.here hx rfl (hb hby at_10) rfl rfl (l' := #[.val (.int p0), .val (.int p1), .val (.int p2), .val (.int p3), .val (.ref x_GE), .unset, .unset, .unset, .unset]) rfl (XS.iloadN X46.here hx rfl (hb hby at_12) rfl (XS.iconst X46.here hx rfl (hb hby at_13) (XS.iand X46.here hx rfl (hb hby at_14) rfl k))))) ?_
    refine own_join (A := Int32) (C := fun yy => True) (f := fun yy => (T46.setTop (mkF m 23 #[.val (.int p0), .val (.int p1), .val (.int p2), .val (.int p3), .val (.ref x_GE), .unset, .unset, .unset, .unset] [(.int yy)]))) ?_ ?_
    · intro yy hj47
      refine own_go (b := (T46.setTop (mkF m 27 #[.val (.int p0), .val (.int p1), .val (.int p2), .val (.int p3), .val (.ref x_GE), .val (.int yy), .unset, .unset, .unset] [(.ref x_GE)]))) (fun _ k => XS.istore X46.here hx rfl (hb hby at_23) rfl (l' := #[.val (.int p0), .val (.int p1), .val (.int p2), .val (.int p3), .val (.ref x_GE), .val (.int yy), .unset, .unset, .unset]) rfl (XS.aload X46.here hx rfl (hb hby at_25) rfl rfl k)) ?_
      obtain ⟨cq48, kq48, q48a, q48b, q48c⟩ := isOf hZ eh46 (EZ_x_GE.ext O0.2)
      obtain ⟨_, _, ⟨T48, L48, k48, n48⟩, -, X48, ⟨Lc48, hQ48, l48, y48, z48⟩, st48⟩ := X46.virtualBack hx (y := (⟨"com/example/urd/urd/functions/ComparisonOperator", "reversed", "()Lcom/example/urd/urd/functions/ComparisonOperator;"⟩ : MethodName)) (z := (⟨"com/example/urd/urd/functions/ComparisonOperator", "reversed", "()Lcom/example/urd/urd/functions/ComparisonOperator;"⟩ : MethodName)) hown (mvT hZ (hw _ (List.mem_of_getElem? (i := 8) rfl))) (mvT hZ (hw _ (List.mem_of_getElem? (i := 9) rfl))) (notFace_of_selects (args := #[]) (mvT hZ (hw _ (List.mem_of_getElem? (i := 11) rfl)))) (mvT hZ (hw _ (List.mem_of_getElem? (i := 11) rfl))) (mvT hZ (hw _ (List.mem_of_getElem? (i := 10) rfl))) (by decide) (backOf (W := 0) (rmr5 l Z a0 hw [] x_GE x_LE h0 n0 Z0 O0 EZ_x_GE Fld0_x_GE_ordinal S_LE) hZ (hw _ (List.mem_of_getElem? (i := 12) rfl)) (hw _ (List.mem_of_getElem? (i := 6) rfl)) (by decide) (by decide)) q48a q48c (g := (mkF m 27 #[.val (.int p0), .val (.int p1), .val (.int p2), .val (.int p3), .val (.ref x_GE), .val (.int yy), .unset, .unset, .unset] [(.ref x_GE)])) rfl (by rw [hml]; rfl) (Steps.refl _) (argsL := []) (rest := []) (lenOf pd___Lcom_example_urd_urd_functions_ComparisonOperator_ rfl) rfl (by show 2 * 0 + _ ≤ _; exact Nat.le_of_eq rfl) (hb hby at_27) (fun _ _ => ⟨rfl, eh46, (by decide : 0 + 0 ≤ _), (by decide : 0 + 0 ≤ _)⟩)
      dsimp only [Pt.U, Pt.locs, Pt.cells, Pt.slots] at X48 l48 y48 z48 st48 hQ48
      subst l48 y48 z48
      obtain ⟨rfl, N48q, eh48⟩ := hQ48
      have N48 := Fr.app N46 N48q
      refine own_go (b := (T48.setTop (mkF m 44 #[.val (.int p0), .val (.int p1), .val (.int p2), .val (.int p3), .val (.ref x_GE), .val (.int yy), .val (.ref x_LE), .unset, .unset] [(.int p1), (.int yy), (.ref x_LE)]))) (fun _ k => st48.trans (XS.astore X48.here hx rfl (hb hby at_30) rfl rfl (l' := #[.val (.int p0), .val (.int p1), .val (.int p2), .val (.int p3), .val (.ref x_GE), .val (.int yy), .val (.ref x_LE), .unset, .unset]) rfl (XS.aload X48.here hx rfl (hb hby at_32) rfl rfl (XS.ifnonnullYes X48.here hx rfl (pc0 := 34) (pc' := 39) rfl (hb hby at_34) rfl (by decide) (by decide) (XS.aload X48.here hx rfl (hb hby at_39) rfl rfl (XS.iload X48.here hx rfl (hb hby at_41) rfl (XS.iloadN X48.here hx rfl (hb hby at_43) rfl k))))))) ?_
      obtain ⟨_, _, ⟨T49, L49, k49, n49⟩, -, X49, ⟨Lc49, hQ49, l49, y49, z49⟩, st49⟩ := Jvm.LawKit.callS X48 hx (y := (⟨"com/example/urd/urd/functions/ComparisonOperatorReversedPinLaw", "sign", "(II)I"⟩ : MethodName)) hown (mvT hZ (hw _ (List.mem_of_getElem? (i := 22) rfl))) (mvT hZ (hw _ (List.mem_of_getElem? (i := 23) rfl))) (mvT hZ (hw _ (List.mem_of_getElem? (i := 3) rfl))) (mvT hZ (hw _ (List.mem_of_getElem? (i := 24) rfl))) (by decide) (backOf (W := 1) (rms l Z a0 hw [] yy p1 h0 n0 Z0) hZ (hw _ (List.mem_of_getElem? (i := 24) rfl)) (hw _ (List.mem_of_getElem? (i := 3) rfl)) (by decide) (by decide)) (g := (mkF m 44 #[.val (.int p0), .val (.int p1), .val (.int p2), .val (.int p3), .val (.ref x_GE), .val (.int yy), .val (.ref x_LE), .unset, .unset] [(.int p1), (.int yy), (.ref x_LE)])) rfl (by rw [hml]; rfl) (argsL := [(.int yy), (.int p1)]) (rest := [(.ref x_LE)]) (lenOf pd__II_I rfl) rfl (by show 2 * 0 + _ ≤ _; exact Nat.le_of_eq rfl) (hb hby at_44) (fun _ _ => ⟨rfl, eh48, (by decide : 0 + 0 ≤ _), (by decide : 0 + 0 ≤ _)⟩)
      dsimp only [Pt.U, Pt.locs, Pt.cells, Pt.slots] at X49 l49 y49 z49 st49 hQ49
      subst l49 y49 z49
      obtain ⟨rfl, N49q, eh49⟩ := hQ49
      have N49 := Fr.app N48 N49q
      refine own_go (b := (T49.setTop (mkF m 47 #[.val (.int p0), .val (.int p1), .val (.int p2), .val (.int p3), .val (.ref x_GE), .val (.int yy), .val (.ref x_LE), .unset, .unset] [(.int (own_sign yy p1)), (.ref x_LE)]))) (fun _ k => st49 _ k) ?_
      obtain ⟨cq50, kq50, q50a, q50b, q50c⟩ := isOf hZ eh49 (EZ_x_LE.ext O0.2)
      obtain ⟨_, _, ⟨T50, L50, k50, n50⟩, -, X50, ⟨Lc50, hQ50, l50, y50, z50⟩, st50⟩ := X49.virtualBack hx (y := (⟨"com/example/urd/urd/functions/ComparisonOperator", "holds", "(I)Z"⟩ : MethodName)) (z := (⟨"com/example/urd/urd/functions/ComparisonOperator", "holds", "(I)Z"⟩ : MethodName)) hown (mvT hZ (hw _ (List.mem_of_getElem? (i := 25) rfl))) (mvT hZ (hw _ (List.mem_of_getElem? (i := 26) rfl))) (notFace_of_selects (args := #[]) (mvT hZ (hw _ (List.mem_of_getElem? (i := 28) rfl)))) (mvT hZ (hw _ (List.mem_of_getElem? (i := 28) rfl))) (mvT hZ (hw _ (List.mem_of_getElem? (i := 27) rfl))) (by decide) (backOf (W := 0) (rmh3 l Z a0 hw [] x_LE (own_sign yy p1) h0 n0 Z0 O0 EZ_x_LE Fld0_x_LE_ordinal) hZ (hw _ (List.mem_of_getElem? (i := 29) rfl)) (hw _ (List.mem_of_getElem? (i := 6) rfl)) (by decide) (by decide)) q50a q50c (g := (mkF m 47 #[.val (.int p0), .val (.int p1), .val (.int p2), .val (.int p3), .val (.ref x_GE), .val (.int yy), .val (.ref x_LE), .unset, .unset] [(.int (own_sign yy p1)), (.ref x_LE)])) rfl (by rw [hml]; rfl) (Steps.refl _) (argsL := [(.int (own_sign yy p1))]) (rest := []) (lenOf pd__I_Z rfl) rfl (by show 2 * 0 + _ ≤ _; exact Nat.le_of_eq rfl) (hb hby at_47) (fun _ _ => ⟨rfl, eh49, (by decide : 0 + 0 ≤ _), (by decide : 0 + 0 ≤ _)⟩)
      dsimp only [Pt.U, Pt.locs, Pt.cells, Pt.slots] at X50 l50 y50 z50 st50 hQ50
      subst l50 y50 z50
      obtain ⟨rfl, N50q, eh50⟩ := hQ50
      have N50 := Fr.app N49 N50q
      refine own_go (b := (T50.setTop (mkF m 57 #[.val (.int p0), .val (.int p1), .val (.int p2), .val (.int p3), .val (.ref x_GE), .val (.int yy), .val (.ref x_LE), .val (.int (own_h3 (own_sign yy p1))), .unset] [(.int yy), (.int p1), (.ref x_GE)]))) (fun _ k => st50.trans (XS.istore X50.here hx rfl (hb hby at_50) rfl (l' := #[.val (.int p0), .val (.int p1), .val (.int p2), .val (.int p3), .val (.ref x_GE), .val (.int yy), .val (.ref x_LE), .val (.int (own_h3 (own_sign yy p1))), .unset]) rfl (XS.aload X50.here hx rfl (hb hby at_52) rfl rfl (XS.iloadN X50.here hx rfl (hb hby at_54) rfl (XS.iload X50.here hx rfl (hb hby at_55) rfl k))))) ?_
      obtain ⟨_, _, ⟨T51, L51, k51, n51⟩, -, X51, ⟨Lc51, hQ51, l51, y51, z51⟩, st51⟩ := Jvm.LawKit.callS X50 hx (y := (⟨"com/example/urd/urd/functions/ComparisonOperatorReversedPinLaw", "sign", "(II)I"⟩ : MethodName)) hown (mvT hZ (hw _ (List.mem_of_getElem? (i := 22) rfl))) (mvT hZ (hw _ (List.mem_of_getElem? (i := 23) rfl))) (mvT hZ (hw _ (List.mem_of_getElem? (i := 3) rfl))) (mvT hZ (hw _ (List.mem_of_getElem? (i := 24) rfl))) (by decide) (backOf (W := 1) (rms l Z a0 hw [] p1 yy h0 n0 Z0) hZ (hw _ (List.mem_of_getElem? (i := 24) rfl)) (hw _ (List.mem_of_getElem? (i := 3) rfl)) (by decide) (by decide)) (g := (mkF m 57 #[.val (.int p0), .val (.int p1), .val (.int p2), .val (.int p3), .val (.ref x_GE), .val (.int yy), .val (.ref x_LE), .val (.int (own_h3 (own_sign yy p1))), .unset] [(.int yy), (.int p1), (.ref x_GE)])) rfl (by rw [hml]; rfl) (argsL := [(.int p1), (.int yy)]) (rest := [(.ref x_GE)]) (lenOf pd__II_I rfl) rfl (by show 2 * 0 + _ ≤ _; exact Nat.le_of_eq rfl) (hb hby at_57) (fun _ _ => ⟨rfl, eh50, (by decide : 0 + 0 ≤ _), (by decide : 0 + 0 ≤ _)⟩)
      dsimp only [Pt.U, Pt.locs, Pt.cells, Pt.slots] at X51 l51 y51 z51 st51 hQ51
      subst l51 y51 z51
      obtain ⟨rfl, N51q, eh51⟩ := hQ51
      have N51 := Fr.app N50 N51q
      refine own_go (b := (T51.setTop (mkF m 60 #[.val (.int p0), .val (.int p1), .val (.int p2), .val (.int p3), .val (.ref x_GE), .val (.int yy), .val (.ref x_LE), .val (.int (own_h3 (own_sign yy p1))), .unset] [(.int (own_sign p1 yy)), (.ref x_GE)]))) (fun _ k => st51 _ k) ?_
      obtain ⟨cq52, kq52, q52a, q52b, q52c⟩ := isOf hZ eh51 (EZ_x_GE.ext O0.2)
      obtain ⟨_, _, ⟨T52, L52, k52, n52⟩, -, X52, ⟨Lc52, hQ52, l52, y52, z52⟩, st52⟩ := X51.virtualBack hx (y := (⟨"com/example/urd/urd/functions/ComparisonOperator", "holds", "(I)Z"⟩ : MethodName)) (z := (⟨"com/example/urd/urd/functions/ComparisonOperator", "holds", "(I)Z"⟩ : MethodName)) hown (mvT hZ (hw _ (List.mem_of_getElem? (i := 25) rfl))) (mvT hZ (hw _ (List.mem_of_getElem? (i := 26) rfl))) (notFace_of_selects (args := #[]) (mvT hZ (hw _ (List.mem_of_getElem? (i := 28) rfl)))) (mvT hZ (hw _ (List.mem_of_getElem? (i := 28) rfl))) (mvT hZ (hw _ (List.mem_of_getElem? (i := 27) rfl))) (by decide) (backOf (W := 0) (rmh5 l Z a0 hw [] x_GE (own_sign p1 yy) h0 n0 Z0 O0 EZ_x_GE Fld0_x_GE_ordinal) hZ (hw _ (List.mem_of_getElem? (i := 29) rfl)) (hw _ (List.mem_of_getElem? (i := 6) rfl)) (by decide) (by decide)) q52a q52c (g := (mkF m 60 #[.val (.int p0), .val (.int p1), .val (.int p2), .val (.int p3), .val (.ref x_GE), .val (.int yy), .val (.ref x_LE), .val (.int (own_h3 (own_sign yy p1))), .unset] [(.int (own_sign p1 yy)), (.ref x_GE)])) rfl (by rw [hml]; rfl) (Steps.refl _) (argsL := [(.int (own_sign p1 yy))]) (rest := []) (lenOf pd__I_Z rfl) rfl (by show 2 * 0 + _ ≤ _; exact Nat.le_of_eq rfl) (hb hby at_60) (fun _ _ => ⟨rfl, eh51, (by decide : 0 + 0 ≤ _), (by decide : 0 + 0 ≤ _)⟩)
      dsimp only [Pt.U, Pt.locs, Pt.cells, Pt.slots] at X52 l52 y52 z52 st52 hQ52
      subst l52 y52 z52
      obtain ⟨rfl, N52q, eh52⟩ := hQ52
      have N52 := Fr.app N51 N52q
      refine own_go (b := (T52.setTop (mkF m 74 #[.val (.int p0), .val (.int p1), .val (.int p2), .val (.int p3), .val (.ref x_GE), .val (.int yy), .val (.ref x_LE), .val (.int (own_h3 (own_sign yy p1))), .val (.int (own_h5 (own_sign p1 yy)))] [(.ref x_LE)]))) (fun _ k => st52.trans (XS.istore X52.here hx rfl (hb hby at_63) rfl (l' := #[.val (.int p0), .val (.int p1), .val (.int p2), .val (.int p3), .val (.ref x_GE), .val (.int yy), .val (.ref x_LE), .val (.int (own_h3 (own_sign yy p1))), .val (.int (own_h5 (own_sign p1 yy)))]) rfl (XS.iload X52.here hx rfl (hb hby at_65) rfl (XS.iload X52.here hx rfl (hb hby at_67) rfl (XS.icmpNo X52.here hx rfl (hb hby at_69) rfl (teq (own_rv5 p1 yy)).2 (XS.aload X52.here hx rfl (hb hby at_72) rfl rfl k)))))) ?_
      obtain ⟨cq53, kq53, q53a, q53b, q53c⟩ := isOf hZ eh52 (EZ_x_LE.ext O0.2)
      obtain ⟨_, _, ⟨T53, L53, k53, n53⟩, -, X53, ⟨Lc53, hQ53, l53, y53, z53⟩, st53⟩ := X52.virtualBack hx (y := (⟨"com/example/urd/urd/functions/ComparisonOperator", "reversed", "()Lcom/example/urd/urd/functions/ComparisonOperator;"⟩ : MethodName)) (z := (⟨"com/example/urd/urd/functions/ComparisonOperator", "reversed", "()Lcom/example/urd/urd/functions/ComparisonOperator;"⟩ : MethodName)) hown (mvT hZ (hw _ (List.mem_of_getElem? (i := 8) rfl))) (mvT hZ (hw _ (List.mem_of_getElem? (i := 9) rfl))) (notFace_of_selects (args := #[]) (mvT hZ (hw _ (List.mem_of_getElem? (i := 11) rfl)))) (mvT hZ (hw _ (List.mem_of_getElem? (i := 11) rfl))) (mvT hZ (hw _ (List.mem_of_getElem? (i := 10) rfl))) (by decide) (backOf (W := 0) (rmr3 l Z a0 hw [] x_LE x_GE h0 n0 Z0 O0 EZ_x_LE Fld0_x_LE_ordinal S_GE) hZ (hw _ (List.mem_of_getElem? (i := 12) rfl)) (hw _ (List.mem_of_getElem? (i := 6) rfl)) (by decide) (by decide)) q53a q53c (g := (mkF m 74 #[.val (.int p0), .val (.int p1), .val (.int p2), .val (.int p3), .val (.ref x_GE), .val (.int yy), .val (.ref x_LE), .val (.int (own_h3 (own_sign yy p1))), .val (.int (own_h5 (own_sign p1 yy)))] [(.ref x_LE)])) rfl (by rw [hml]; rfl) (Steps.refl _) (argsL := []) (rest := []) (lenOf pd___Lcom_example_urd_urd_functions_ComparisonOperator_ rfl) rfl (by show 2 * 0 + _ ≤ _; exact Nat.le_of_eq rfl) (hb hby at_74) (fun _ _ => ⟨rfl, eh52, (by decide : 0 + 0 ≤ _), (by decide : 0 + 0 ≤ _)⟩)
      dsimp only [Pt.U, Pt.locs, Pt.cells, Pt.slots] at X53 l53 y53 z53 st53 hQ53
      subst l53 y53 z53
      obtain ⟨rfl, N53q, eh53⟩ := hQ53
      have N53 := Fr.app N52 N53q
      refine own_go (b := (T53.setTop (mkF m 87 #[.val (.int p0), .val (.int p1), .val (.int p2), .val (.int p3), .val (.ref x_GE), .val (.int yy), .val (.ref x_LE), .val (.int (own_h3 (own_sign yy p1))), .val (.int (own_h5 (own_sign p1 yy)))] [(.int (1 : Int32))]))) (fun _ k => st53.trans (XS.aload X53.here hx rfl (hb hby at_77) rfl rfl (Jvm.RoadKit.acmp (g := (mkF m 79 #[.val (.int p0), .val (.int p1), .val (.int p2), .val (.int p3), .val (.ref x_GE), .val (.int yy), .val (.ref x_LE), .val (.int (own_h3 (own_sign yy p1))), .val (.int (own_h5 (own_sign p1 yy)))] [(.ref x_GE), (.ref x_GE)])) X53 hx rfl rfl rfl (pc0 := 79) (pc' := 82) (same := true) rfl (hb hby at_79) rfl (decide_eq_true rfl) (by decide) (by decide) (XS.iconst X53.here hx rfl (hb hby at_82) (XS.goto X53.here hx rfl (pc0 := 83) (pc' := 87) rfl (hb hby at_83) (by decide) (by decide) k))))) ?_
      obtain ⟨fs, hr, hrun, hended, hW, hsame⟩ := X53.leave (v := some (.int (1 : Int32))) (fun h => by rw [Bd.returns] at h; cases h)
      exact ⟨_, _, retN X53 hx (t := .boolean) Bd.returns (by simp) (hb hby at_87) hr, hrun, hended, _, _, rfl, (show Qrm0 Z p0 p1 p2 p3 x_EQ x_NE x_LT x_LE x_GT x_GE h0 n0 _ T53.heap _ from (by rw [eh53]; exact ⟨rfl, N53⟩)), ⟨_, rfl⟩, hW, hsame.mono (by decide) (by decide)⟩
    · intro J47
      by_cases hc15_54 : (p3 &&& (1 : Int32)) = (0 : Int32)
      · skip
        refine own_go (b := (T46.setTop (mkF m 23 #[.val (.int p0), .val (.int p1), .val (.int p2), .val (.int p3), .val (.ref x_GE), .unset, .unset, .unset, .unset] [(.int p2)]))) (fun _ k => XS.ifYes X46.here hx rfl (pc0 := 15) (pc' := 22) rfl (hb hby at_15) rfl ((if0 _ _).trans (teq hc15_54).1) (by decide) (by decide) (XS.iloadN X46.here hx rfl (hb hby at_22) rfl k)) ?_
        exact J47 p2 trivial
      · skip
        refine own_go (b := (T46.setTop (mkF m 23 #[.val (.int p0), .val (.int p1), .val (.int p2), .val (.int p3), .val (.ref x_GE), .unset, .unset, .unset, .unset] [(.int p1)]))) (fun _ k => XS.ifNo X46.here hx rfl (hb hby at_15) rfl ((if0 _ _).trans (feq hc15_54).1) (XS.iloadN X46.here hx rfl (hb hby at_18) rfl (XS.goto X46.here hx rfl (pc0 := 19) (pc' := 23) rfl (hb hby at_19) (by decide) (by decide) k))) ?_
        exact J47 p1 trivial
set_option maxRecDepth 65536 in
set_option maxHeartbeats 40000000 in
theorem comes_1 {Post : Tables → Env → Array Value → State → Outcome → State → Prop} (hpost : ∀ tb e args s v u, (limb_1_1.after args s (.returned v) u = true ∧ limb_1_2.after args s (.returned v) u = true ∧ True) → FrameEnd s (.returned v) u (Jvm.fieldLocs frame_1_writes args s ++ Jvm.arrayLocs frame_1_arrays args s ++ Jvm.staticLocs frame_1_statics s) 0 0 → Post tb e args s (.returned v) u) :
    ArmFor flags0 classFile x code maxLocals ret World_1 tables_1 room_1 Calls_1 rest_1 Pre_1 Post := by
  intro l hfl _ _ p e ha hc hk s m args below hf hA hF happ hP
  obtain ⟨hcalls, hrest, hpre⟩ := hP
  obtain ⟨-, -, -, hnamed, -, -, -, hat⟩ := (Spec.applies_iff hf).mp happ
  obtain ⟨hg, hn⟩ := and_e (Cond.before_iff.mp (show (Jvm.Cond.and given_1 narrow_1).before args s = true from hpre))
  obtain ⟨gc0, gr0⟩ := and_e hg
  obtain ⟨gc1, gr1⟩ := and_e gr0
  obtain ⟨gc2, gr2⟩ := and_e gr1
  obtain ⟨gc3, gr3⟩ := and_e gr2
  obtain ⟨w0, w1, w2, w3, rfl⟩ : ∃ w0 w1 w2 w3 : Value, args = #[w0, w1, w2, w3] := by
    have hs : args.size = 4 := by simpa [Cond.value, given_1] using gc0
    obtain ⟨L⟩ := args
    match L, hs with
    | [w0, w1, w2, w3], _ => exact ⟨w0, w1, w2, w3, rfl⟩
  have hw := fun d (hd : d ∈ tables_1) => atoms_spec (ws := Jvm.Cond.code x code maxLocals ret :: tables_1) hat d (List.mem_cons_of_mem _ hd)
  have hfit : Fit s := fun {y c} hc i hi => by
    obtain ⟨ha, rfl⟩ := Array.getElem?_eq_some_iff.mp hc
    have q := List.all_eq_true.mp ((Array.all_eq_true_iff_forall_mem.mp hF) _ (Array.getElem_mem ha)) i (List.mem_range.mpr hi)
    simpa [Array.getElem?_eq_getElem hi] using q
  obtain ⟨i0, ei0⟩ := is_v gc1
  obtain rfl : w0 = (.int i0) := Option.some.inj ei0
  obtain ⟨i1, ei1⟩ := is_v gc2
  obtain rfl : w1 = (.int i1) := Option.some.inj ei1
  obtain ⟨i2, ei2⟩ := is_v gc3
  obtain rfl : w2 = (.int i2) := Option.some.inj ei2
  obtain ⟨i3, ei3⟩ := is_v gr3
  obtain rfl : w3 = (.int i3) := Option.some.inj ei3
  obtain ⟨nc0, nr0⟩ := and_e hn
  obtain ⟨nc1, nr1⟩ := and_e nr0
  obtain ⟨nc2, nr2⟩ := and_e nr1
  obtain ⟨nc3, nr3⟩ := and_e nr2
  obtain ⟨nc4, nr4⟩ := and_e nr3
  obtain ⟨nc5, nr5⟩ := and_e nr4
  obtain ⟨nc6, nr6⟩ := and_e nr5
  obtain ⟨nc7, nr7⟩ := and_e nr6
  obtain ⟨nc8, nr8⟩ := and_e nr7
  obtain ⟨nc9, nr9⟩ := and_e nr8
  obtain ⟨nc10, nr10⟩ := and_e nr9
  obtain ⟨x_EQ, v_EQ⟩ := exa_v nc0
  have EZ_x_EQ := Exa.start v_EQ nc0
  have S_EQ := Sta.start v_EQ (Or.inr ⟨(hw _ (List.mem_of_getElem? (i := 6) rfl)), (hw _ (List.mem_of_getElem? (i := 7) rfl))⟩)
  have Fld0_x_EQ_ordinal := own_fint nc1 v_EQ
  obtain ⟨x_NE, v_NE⟩ := exa_v nc2
  have EZ_x_NE := Exa.start v_NE nc2
  have S_NE := Sta.start v_NE (Or.inr ⟨(hw _ (List.mem_of_getElem? (i := 6) rfl)), (hw _ (List.mem_of_getElem? (i := 31) rfl))⟩)
  have Fld0_x_NE_ordinal := own_fint nc3 v_NE
  obtain ⟨x_GT, v_GT⟩ := exa_v nc4
  have EZ_x_GT := Exa.start v_GT nc4
  have S_GT := Sta.start v_GT (Or.inr ⟨(hw _ (List.mem_of_getElem? (i := 6) rfl)), (hw _ (List.mem_of_getElem? (i := 33) rfl))⟩)
  have Fld0_x_GT_ordinal := own_fint nc5 v_GT
  obtain ⟨x_LT, v_LT⟩ := exa_v nc6
  have EZ_x_LT := Exa.start v_LT nc6
  have S_LT := Sta.start v_LT (Or.inr ⟨(hw _ (List.mem_of_getElem? (i := 6) rfl)), (hw _ (List.mem_of_getElem? (i := 35) rfl))⟩)
  have Fld0_x_LT_ordinal := own_fint nc7 v_LT
  obtain ⟨x_LE, v_LE⟩ := exa_v nc8
  have EZ_x_LE := Exa.start v_LE nc8
  have S_LE := Sta.start v_LE (Or.inr ⟨(hw _ (List.mem_of_getElem? (i := 6) rfl)), (hw _ (List.mem_of_getElem? (i := 38) rfl))⟩)
  have Fld0_x_LE_ordinal := own_fint nc9 v_LE
  obtain ⟨x_GE, v_GE⟩ := exa_v nc10
  have EZ_x_GE := Exa.start v_GE nc10
  have S_GE := Sta.start v_GE (Or.inr ⟨(hw _ (List.mem_of_getElem? (i := 6) rfl)), (hw _ (List.mem_of_getElem? (i := 40) rfl))⟩)
  have Fld0_x_GE_ordinal := own_fint nr10 v_GE
  obtain ⟨n, o, h1, h2, h3, _, L, rfl, ⟨rfl, N⟩, hq⟩ := rm0 l s _ hw tables_1 i0 i1 i2 i3 x_EQ x_NE x_LT x_LE x_GT x_GE s.heap s.heap.size (Nat.le_refl _) (Old.start s) S_EQ S_NE S_LT S_LE S_GT S_GE EZ_x_EQ EZ_x_NE EZ_x_LT EZ_x_LE EZ_x_GT EZ_x_GE Fld0_x_EQ_ordinal Fld0_x_NE_ordinal Fld0_x_LT_ordinal Fld0_x_LE_ordinal Fld0_x_GT_ordinal Fld0_x_GE_ordinal p e ha hc hk s m _ below hf ((Spec.applies_iff_loose hf).mp happ).1 ⟨rfl, State.Warmed39.refl s, rfl⟩ trivial
  refine ⟨n, _, h1, h2, h3, hpost _ _ _ _ _ _ ⟨Cond.after_iff.mpr rfl, Cond.after_iff.mpr (eq_i res_at (Term.int_eval (1)) rfl), trivial⟩ ⟨hq.1, hq.2.1, (hq.2.2.sift fun y hy => Or.inr (N y hy)).mono (by decide) (by decide)⟩⟩
theorem main_1_1 : Claimed_1_1 := comes_1 fun _ _ _ _ _ _ h hF => ⟨h.1, hF⟩
theorem main_1_2 : Claimed_1_2 := comes_1 fun _ _ _ _ _ _ h hF => ⟨h.2.1, hF⟩
end Jvm.Pilot.@@N@@
namespace Jvm.Pilot.@@N@@
open Jvm Jvm.ClassFile Sem Op Lib Jvm.Free Jvm.Stand Jvm.Pilot.@@N@@.Jvm.D
/-! MADE BY PROGRAM (witnessworld.py) out of the Statement's table words and the real class files: 12 classes; the members and pool entries that the words name. The judged class is class 1, her method 3. -/
namespace start1
open Jvm.ClassFile
def u (s : String) : CpInfo := .utf8 (stringToUtf16 s)
/-- a pool by its gaps: so many unusable entries, then the entry; so many at the end -/
def gap : Nat → List CpInfo → List CpInfo
  | 0, r => r
  | n + 1, r => .unusable :: gap n r
def poolList (es : List (Nat × CpInfo)) (last : Nat) : List CpInfo := es.foldr (fun e r => gap e.1 (e.2 :: r)) (gap last [])
def pool (es : List (Nat × CpInfo)) (last : Nat) : Array CpInfo := ⟨poolList es last⟩
def fileOf (pool : Array CpInfo) (this : Nat) (attrs : Array Attribute := #[]) (ms : Array MethodInfo := #[]) (fl : Nat := 33) (sup : Nat := 0) (ifs : Array Nat := #[]) (fds : Array FieldInfo := #[]) : ClassFile where
  minorVersion := 0
  majorVersion := 65
  constantPool := pool
  accessFlags := fl
  thisClass := this
  superClass := sup
  interfaces := ifs
  fields := fds
  methods := ms
  attributes := attrs
def plain (name : String) (sup : Option ClassId) : Class where
  name := name
  kind := .ordinary
  loader := none
  accessFlags := 33
  super := sup
  interfaces := #[]
  cf := none
  fields := #[]
  methods := #[]
  instanceTypes := #[]
  staticTypes := #[]
  resolved := #[]
  callSites := []
  init := .initialized
  statics := none
  mirror := none

def pool0 : Array CpInfo := pool [(5, u "<init>"), (0, u "()V"), (1, .class_ 10), (1, u "java/lang/Object")] 113

def k0m0 : Method := { name := "<init>", desc := "()V", sig := { parameters := [], returnType := none }, accessFlags := 1, code := none }
/-- java/lang/Object -/
def k0 : Class := { plain "java/lang/Object" none with
  accessFlags := 33
  interfaces := #[]
  cf := some (fileOf pool0 8 #[] #[{ accessFlags := 1, nameIndex := 5, descriptorIndex := 6, attributes := #[] }] 33 0 #[] #[])
  fields := #[]
  methods := #[k0m0]
  instanceTypes := #[]
  staticTypes := #[]
  resolved := Array.replicate 124 none
  statics := none }

def pool1 : Array CpInfo := pool [(2, .class_ 4), (1, u "java/lang/Object"), (0, u "<init>"), (0, u "()V"), (0, .fieldref 8 9), (0, .class_ 10), (0, .nameAndType 11 12), (0, u "com/example/urd/urd/functions/ComparisonOperator"), (0, u "EQ"), (0, u "Lcom/example/urd/urd/functions/ComparisonOperator;"), (0, .fieldref 8 14), (0, .nameAndType 15 12), (0, u "NE"), (0, .fieldref 8 17), (0, .nameAndType 18 12), (0, u "LT"), (0, .fieldref 8 20), (0, .nameAndType 21 12), (0, u "LE"), (0, .fieldref 8 23), (0, .nameAndType 24 12), (0, u "GT"), (0, .fieldref 8 26), (0, .nameAndType 27 12), (0, u "GE"), (0, .integer 2147483647), (0, .methodref 30 31), (0, .class_ 32), (0, .nameAndType 33 34), (0, u "com/example/urd/urd/functions/ComparisonOperatorReversedPinLaw"), (0, u "pick"), (0, u "(I)Lcom/example/urd/urd/functions/ComparisonOperator;"), (0, .methodref 8 36), (0, .nameAndType 37 38), (0, u "reversed"), (0, u "()Lcom/example/urd/urd/functions/ComparisonOperator;"), (0, .methodref 30 40), (0, .nameAndType 41 42), (0, u "sign"), (0, u "(II)I"), (0, .methodref 8 44), (0, .nameAndType 45 46), (0, u "holds"), (0, u "(I)Z"), (3, u "law"), (0, u "(IIII)Z")] 2

def k1m0 : Method := { name := "<init>", desc := "()V", sig := { parameters := [], returnType := none }, accessFlags := 1, code := none }
def k1c1 : Code := { maxStack := 2, maxLocals := 1, code := method_2_code, exceptionTable := #[], attributes := #[] }
def k1m1 : Method := { name := "pick", desc := "(I)Lcom/example/urd/urd/functions/ComparisonOperator;", sig := { parameters := [.int], returnType := some (.object "com/example/urd/urd/functions/ComparisonOperator") }, accessFlags := 10, code := some k1c1 }
def k1c2 : Code := { maxStack := 2, maxLocals := 2, code := method_3_code, exceptionTable := #[], attributes := #[] }
def k1m2 : Method := { name := "sign", desc := "(II)I", sig := { parameters := [.int, .int], returnType := some .int }, accessFlags := 10, code := some k1c2 }
def k1c3 : Code := { maxStack := 3, maxLocals := 9, code := code, exceptionTable := #[], attributes := #[] }
def k1m3 : Method := { name := "law", desc := "(IIII)Z", sig := { parameters := [.int, .int, .int, .int], returnType := some .boolean }, accessFlags := 9, code := some k1c3 }
/-- com/example/urd/urd/functions/ComparisonOperatorReversedPinLaw -/
def k1 : Class := { plain "com/example/urd/urd/functions/ComparisonOperatorReversedPinLaw" (some 0) with
  accessFlags := 49
  interfaces := #[]
  cf := some (fileOf pool1 30 #[] #[{ accessFlags := 1, nameIndex := 5, descriptorIndex := 6, attributes := #[] }, { accessFlags := 10, nameIndex := 33, descriptorIndex := 34, attributes := #[] }, { accessFlags := 10, nameIndex := 41, descriptorIndex := 42, attributes := #[] }, { accessFlags := 9, nameIndex := 50, descriptorIndex := 51, attributes := #[] }] 49 2 #[] #[])
  fields := #[]
  methods := #[k1m0, k1m1, k1m2, k1m3]
  instanceTypes := #[]
  staticTypes := #[]
  resolved := Array.replicate 54 none
  statics := none }

def pool2 : Array CpInfo := pool [(1, .class_ 2), (0, u "java/lang/constant/Constable"), (0, .class_ 4), (0, u "java/lang/Object")] 6

/-- java/lang/constant/Constable -/
def k2 : Class := { plain "java/lang/constant/Constable" (some 0) with
  accessFlags := 1537
  interfaces := #[]
  cf := some (fileOf pool2 1 #[] #[] 1537 3 #[] #[])
  fields := #[]
  methods := #[]
  instanceTypes := #[]
  staticTypes := #[]
  resolved := Array.replicate 11 none
  statics := none }

def pool3 : Array CpInfo := pool [(1, .class_ 2), (0, u "java/lang/Comparable"), (0, .class_ 4), (0, u "java/lang/Object")] 7

/-- java/lang/Comparable -/
def k3 : Class := { plain "java/lang/Comparable" (some 0) with
  accessFlags := 1537
  interfaces := #[]
  cf := some (fileOf pool3 1 #[] #[] 1537 3 #[] #[])
  fields := #[]
  methods := #[]
  instanceTypes := #[]
  staticTypes := #[]
  resolved := Array.replicate 12 none
  statics := none }

def pool4 : Array CpInfo := pool [(1, .class_ 2), (0, u "java/io/Serializable"), (0, .class_ 4), (0, u "java/lang/Object")] 2

/-- java/io/Serializable -/
def k4 : Class := { plain "java/io/Serializable" (some 0) with
  accessFlags := 1537
  interfaces := #[]
  cf := some (fileOf pool4 1 #[] #[] 1537 3 #[] #[])
  fields := #[]
  methods := #[]
  instanceTypes := #[]
  staticTypes := #[]
  resolved := Array.replicate 7 none
  statics := none }

def pool5 : Array CpInfo := pool [(2, .class_ 4), (1, u "java/lang/Enum"), (0, u "name"), (0, u "Ljava/lang/String;"), (0, .fieldref 2 8), (0, .nameAndType 9 10), (0, u "ordinal"), (0, u "I"), (1, .class_ 14), (1, u "java/lang/Object"), (4, u "hash"), (86, .class_ 108), (1, u "java/lang/Enum$EnumDesc"), (2, .class_ 112), (0, u "java/lang/constant/Constable"), (0, .class_ 114), (0, u "java/lang/Comparable"), (0, .class_ 116), (0, u "java/io/Serializable"), (9, u "()I")] 77

def k5c0 : Code := { maxStack := 1, maxLocals := 1, code := jdk_37_method_2_code, exceptionTable := #[], attributes := #[] }
def k5m0 : Method := { name := "ordinal", desc := "()I", sig := { parameters := [], returnType := some .int }, accessFlags := 17, code := some k5c0 }
/-- java/lang/Enum -/
def k5 : Class := { plain "java/lang/Enum" (some 0) with
  accessFlags := 1057
  interfaces := #[2, 3, 4]
  cf := some (fileOf pool5 2 #[.nestMembers #[106]] #[{ accessFlags := 17, nameIndex := 9, descriptorIndex := 126, attributes := #[] }] 1057 12 #[111, 113, 115] #[{ accessFlags := 18, nameIndex := 5, descriptorIndex := 6, attributes := #[] }, { accessFlags := 18, nameIndex := 9, descriptorIndex := 10, attributes := #[] }, { accessFlags := 2, nameIndex := 19, descriptorIndex := 10, attributes := #[] }])
  fields := #[{ name := "name", type := (.object "java/lang/String"), accessFlags := 18, slot := 0, constantValue := 0 }, { name := "ordinal", type := .int, accessFlags := 18, slot := 1, constantValue := 0 }, { name := "hash", type := .int, accessFlags := 2, slot := 2, constantValue := 0 }]
  methods := #[k5m0]
  instanceTypes := #[(.object "java/lang/String"), .int, .int]
  staticTypes := #[]
  resolved := Array.replicate 204 none
  statics := none }

def pool6 : Array CpInfo := pool [(1, .class_ 2), (0, u "com/example/urd/urd/functions/ComparisonOperator"), (2, u "EQ"), (0, u "Lcom/example/urd/urd/functions/ComparisonOperator;"), (2, u "NE"), (0, .fieldref 1 11), (0, .nameAndType 12 6), (0, u "LT"), (0, .fieldref 1 14), (0, .nameAndType 15 6), (0, u "LE"), (0, .fieldref 1 17), (0, .nameAndType 18 6), (0, u "GT"), (0, .fieldref 1 20), (0, .nameAndType 21 6), (0, u "GE"), (2, u "$VALUES"), (0, u "[Lcom/example/urd/urd/functions/ComparisonOperator;"), (6, .class_ 34), (1, u "java/lang/Enum"), (8, u "general"), (0, u "Ljava/lang/String;"), (2, u "value"), (0, .methodref 1 49), (0, .nameAndType 50 51), (0, u "ordinal"), (0, u "()I"), (47, u "reversed"), (0, u "()Lcom/example/urd/urd/functions/ComparisonOperator;"), (1, u "holds"), (0, u "(I)Z")] 5

def k6c0 : Code := { maxStack := 1, maxLocals := 1, code := prog_24_method_6_code, exceptionTable := #[], attributes := #[] }
def k6m0 : Method := { name := "reversed", desc := "()Lcom/example/urd/urd/functions/ComparisonOperator;", sig := { parameters := [], returnType := some (.object "com/example/urd/urd/functions/ComparisonOperator") }, accessFlags := 1, code := some k6c0 }
def k6c1 : Code := { maxStack := 1, maxLocals := 2, code := prog_24_method_7_code, exceptionTable := #[], attributes := #[] }
def k6m1 : Method := { name := "holds", desc := "(I)Z", sig := { parameters := [.int], returnType := some .boolean }, accessFlags := 0, code := some k6c1 }
/-- com/example/urd/urd/functions/ComparisonOperator -/
def k6 : Class := { plain "com/example/urd/urd/functions/ComparisonOperator" (some 5) with
  accessFlags := 16433
  interfaces := #[]
  cf := some (fileOf pool6 1 #[] #[{ accessFlags := 1, nameIndex := 99, descriptorIndex := 100, attributes := #[] }, { accessFlags := 0, nameIndex := 102, descriptorIndex := 103, attributes := #[] }] 16433 32 #[] #[{ accessFlags := 16409, nameIndex := 5, descriptorIndex := 6, attributes := #[] }, { accessFlags := 16409, nameIndex := 9, descriptorIndex := 6, attributes := #[] }, { accessFlags := 16409, nameIndex := 12, descriptorIndex := 6, attributes := #[] }, { accessFlags := 16409, nameIndex := 15, descriptorIndex := 6, attributes := #[] }, { accessFlags := 16409, nameIndex := 18, descriptorIndex := 6, attributes := #[] }, { accessFlags := 16409, nameIndex := 21, descriptorIndex := 6, attributes := #[] }, { accessFlags := 18, nameIndex := 43, descriptorIndex := 44, attributes := #[] }, { accessFlags := 18, nameIndex := 47, descriptorIndex := 44, attributes := #[] }, { accessFlags := 4122, nameIndex := 24, descriptorIndex := 25, attributes := #[] }])
  fields := #[{ name := "EQ", type := (.object "com/example/urd/urd/functions/ComparisonOperator"), accessFlags := 16409, slot := 0, constantValue := 0 }, { name := "NE", type := (.object "com/example/urd/urd/functions/ComparisonOperator"), accessFlags := 16409, slot := 1, constantValue := 0 }, { name := "LT", type := (.object "com/example/urd/urd/functions/ComparisonOperator"), accessFlags := 16409, slot := 2, constantValue := 0 }, { name := "LE", type := (.object "com/example/urd/urd/functions/ComparisonOperator"), accessFlags := 16409, slot := 3, constantValue := 0 }, { name := "GT", type := (.object "com/example/urd/urd/functions/ComparisonOperator"), accessFlags := 16409, slot := 4, constantValue := 0 }, { name := "GE", type := (.object "com/example/urd/urd/functions/ComparisonOperator"), accessFlags := 16409, slot := 5, constantValue := 0 }, { name := "general", type := (.object "java/lang/String"), accessFlags := 18, slot := 3, constantValue := 0 }, { name := "value", type := (.object "java/lang/String"), accessFlags := 18, slot := 4, constantValue := 0 }, { name := "$VALUES", type := (.array (.object "com/example/urd/urd/functions/ComparisonOperator")), accessFlags := 4122, slot := 6, constantValue := 0 }]
  methods := #[k6m0, k6m1]
  instanceTypes := #[(.object "java/lang/String"), .int, .int, (.object "java/lang/String"), (.object "java/lang/String")]
  staticTypes := #[(.object "com/example/urd/urd/functions/ComparisonOperator"), (.object "com/example/urd/urd/functions/ComparisonOperator"), (.object "com/example/urd/urd/functions/ComparisonOperator"), (.object "com/example/urd/urd/functions/ComparisonOperator"), (.object "com/example/urd/urd/functions/ComparisonOperator"), (.object "com/example/urd/urd/functions/ComparisonOperator"), (.array (.object "com/example/urd/urd/functions/ComparisonOperator"))]
  resolved := Array.replicate 109 none
  statics := some 0 }

def pool7 : Array CpInfo := pool [(1, u "java/lang/Cloneable"), (0, .class_ 1), (0, u "java/lang/Object"), (0, .class_ 3)] 3

/-- java/lang/Cloneable -/
def k7 : Class := { plain "java/lang/Cloneable" (some 0) with
  accessFlags := 1537
  interfaces := #[]
  cf := some (fileOf pool7 2 #[] #[] 1537 4 #[] #[])
  fields := #[]
  methods := #[]
  instanceTypes := #[]
  staticTypes := #[]
  resolved := Array.replicate 8 none
  statics := none }

/-- the primitive byte -/
def k8 : Class := { plain "byte" none with kind := .primitive 'B', accessFlags := 0x411 }
/-- [B -/
def k9 : Class := { plain "[B" (some 0) with kind := .array 8 .byte, interfaces := #[7, 4], accessFlags := 1041 }

/-- the primitive int -/
def k10 : Class := { plain "int" none with kind := .primitive 'I', accessFlags := 0x411 }
/-- [I -/
def k11 : Class := { plain "[I" (some 0) with kind := .array 10 .int, interfaces := #[7, 4], accessFlags := 1041 }

def heap : Heap := #[{ cls := 6, slots := #[.ref 1, .ref 2, .ref 3, .ref 4, .ref 5, .ref 6, .null], vm := .statics 6 },
  { cls := 6, slots := #[.null, .int 0, .int 0, .null, .null], vm := .none },
  { cls := 6, slots := #[.null, .int 1, .int 0, .null, .null], vm := .none },
  { cls := 6, slots := #[.null, .int 2, .int 0, .null, .null], vm := .none },
  { cls := 6, slots := #[.null, .int 3, .int 0, .null, .null], vm := .none },
  { cls := 6, slots := #[.null, .int 4, .int 0, .null, .null], vm := .none },
  { cls := 6, slots := #[.null, .int 5, .int 0, .null, .null], vm := .none }]
def classes : Array Class := #[k0, k1, k2, k3, k4, k5, k6, k7, k8, k9, k10, k11]
def interned : List (Array UInt16 × Addr) := []
def slotsUsed : Nat := 37
def theMethod : MethodId := ⟨1, 3⟩
def args0 : Array Value := #[.int 5, .int 6, .int 7, .int 8]
def aboutOver (below : List Frame) : State where
  vm := { classes := classes, interned := interned.toArray }
  heap := heap
  slotsUsed := slotsUsed
  threads := #[{ frames := .invoking theMethod args0 :: below }]
def below0 : List Frame := [.native { method := ⟨0, 0⟩, args := #[] }]
def about1 : State := aboutOver below0
def p0 : Program := .bare "" "" ""
def e0 : Env := launch0.env 0 0 0
theorem w_frames : about1.frames = Frame.invoking theMethod args0 :: below0 := rfl
set_option maxRecDepth 65536 in
theorem w_args : argsFit about1.vm theMethod args0 = true := by decide +kernel
set_option maxRecDepth 65536 in
theorem w_heap : heapFits about1 = true := by decide +kernel
set_option maxRecDepth 65536 in
theorem w_runnable : about1.curStatus? = some .runnable := by decide +kernel
set_option maxRecDepth 65536 in
theorem w_alone : about1.alone = true := by decide +kernel
set_option maxRecDepth 65536 in
theorem w_named : about1.methodNamed? x = some theMethod := by decide +kernel
set_option maxRecDepth 65536 in
theorem w_hears : about1.hears theMethod below0 = true := by decide +kernel
set_option maxRecDepth 65536 in
theorem w_ripe : about1.ripe theMethod args0 below0 = true := by decide +kernel
theorem w_running : about1.status = .running := rfl
set_option maxRecDepth 65536 in
theorem w_room : about1.hasRoom e0.platform room_1 = true :=
  launch0.hasRoom_least _ room_1 (by decide +kernel) (by decide +kernel) (by decide +kernel) (by decide +kernel) (by decide +kernel) (by decide +kernel)
theorem allAtoms_all (ts : List Jvm.Cond) (a : Array Jvm.Value) (st : Jvm.State) : (allAtoms ts).before a st = ts.all (fun c => c.before a st) := by
  induction ts with
  | nil => rfl
  | cons c t ih =>
    show (Jvm.Cond.and c (allAtoms t)).before a st = _
    rw [Jvm.Cond.before_and, ih, List.all_cons]
def words1 : List Jvm.Cond := Jvm.Cond.code x code maxLocals ret :: tables_1
/-- a 'code' word, met by the world's own term for the bytes: nothing is compared byte by byte -/
theorem code_word {y : MethodName} {bytes : ByteArray} {mx : Nat} {rt : Option FieldType} {a : Array Value} {s : State} {m : MethodId} {meth : Method} {c : Code} (h1 : s.methodNamed? y = some m) (h2 : s.vm.method? m = some meth) (h3 : meth.code = some c) (h4 : c.code = bytes)
    (h5 : (c.maxLocals == mx && c.exceptionTable.isEmpty && decide (c.maxStack ≤ mostOperands) && decide (meth.sig.returnType = rt) && !meth.locks && decide (parseMethodDescriptor y.desc = some meth.sig)) = true) : (Jvm.Cond.code y bytes mx rt).before a s = true := by
  simp only [Bool.and_eq_true, beq_iff_eq, Bool.not_eq_true', decide_eq_true_eq] at h5
  obtain ⟨⟨⟨⟨⟨g1, g2⟩, g3⟩, g4⟩, g5⟩, g6⟩ := h5
  simp [Cond.before, Cond.holds, Cond.value, h1, h2, h3, h4, g1, g2, g3, g4, g5, g6]
def isCode : Jvm.Cond → Bool
  | .code _ _ _ _ => true
  | _ => false
theorem all_split {L : List Jvm.Cond} {P : Jvm.Cond → Bool} (h1 : L.all (fun c => isCode c || P c) = true) (h2 : ∀ c ∈ L.filter isCode, P c = true) : L.all P = true := by
  refine List.all_eq_true.mpr fun c hc => ?_
  have h := List.all_eq_true.mp h1 c hc
  rcases Bool.eq_false_or_eq_true (isCode c) with hi | hi
  · exact h2 c (List.mem_filter.mpr ⟨hc, hi⟩)
  · simpa [hi] using h
set_option maxRecDepth 65536 in
theorem w_c0 : (Jvm.Cond.code x code maxLocals ret).before args0 about1 = true := code_word (m := ⟨1, 3⟩) (meth := k1m3) (c := k1c3) (by decide +kernel) rfl rfl rfl (by decide +kernel)
set_option maxRecDepth 65536 in
theorem w_c1 : (Jvm.Cond.code ({ cls := "com/example/urd/urd/functions/ComparisonOperatorReversedPinLaw", name := "pick", desc := "(I)Lcom/example/urd/urd/functions/ComparisonOperator;" } : Jvm.MethodName) method_2_code (1 : Nat) (Option.some (Jvm.ClassFile.FieldType.object "com/example/urd/urd/functions/ComparisonOperator"))).before args0 about1 = true := code_word (m := ⟨1, 1⟩) (meth := k1m1) (c := k1c1) (by decide +kernel) rfl rfl rfl (by decide +kernel)
set_option maxRecDepth 65536 in
theorem w_c2 : (Jvm.Cond.code ({ cls := "com/example/urd/urd/functions/ComparisonOperator", name := "reversed", desc := "()Lcom/example/urd/urd/functions/ComparisonOperator;" } : Jvm.MethodName) prog_24_method_6_code (1 : Nat) (Option.some (Jvm.ClassFile.FieldType.object "com/example/urd/urd/functions/ComparisonOperator"))).before args0 about1 = true := code_word (m := ⟨6, 0⟩) (meth := k6m0) (c := k6c0) (by decide +kernel) rfl rfl rfl (by decide +kernel)
set_option maxRecDepth 65536 in
theorem w_c3 : (Jvm.Cond.code ({ cls := "java/lang/Enum", name := "ordinal", desc := "()I" } : Jvm.MethodName) jdk_37_method_2_code (1 : Nat) (Option.some Jvm.ClassFile.FieldType.int)).before args0 about1 = true := code_word (m := ⟨5, 0⟩) (meth := k5m0) (c := k5c0) (by decide +kernel) rfl rfl rfl (by decide +kernel)
set_option maxRecDepth 65536 in
theorem w_c4 : (Jvm.Cond.code ({ cls := "com/example/urd/urd/functions/ComparisonOperatorReversedPinLaw", name := "sign", desc := "(II)I" } : Jvm.MethodName) method_3_code (2 : Nat) (Option.some Jvm.ClassFile.FieldType.int)).before args0 about1 = true := code_word (m := ⟨1, 2⟩) (meth := k1m2) (c := k1c2) (by decide +kernel) rfl rfl rfl (by decide +kernel)
set_option maxRecDepth 65536 in
theorem w_c5 : (Jvm.Cond.code ({ cls := "com/example/urd/urd/functions/ComparisonOperator", name := "holds", desc := "(I)Z" } : Jvm.MethodName) prog_24_method_7_code (2 : Nat) (Option.some Jvm.ClassFile.FieldType.boolean)).before args0 about1 = true := code_word (m := ⟨6, 1⟩) (meth := k6m1) (c := k6c1) (by decide +kernel) rfl rfl rfl (by decide +kernel)
def codes1 : List Jvm.Cond := [Jvm.Cond.code x code maxLocals ret, Jvm.Cond.code ({ cls := "com/example/urd/urd/functions/ComparisonOperatorReversedPinLaw", name := "pick", desc := "(I)Lcom/example/urd/urd/functions/ComparisonOperator;" } : Jvm.MethodName) method_2_code (1 : Nat) (Option.some (Jvm.ClassFile.FieldType.object "com/example/urd/urd/functions/ComparisonOperator")), Jvm.Cond.code ({ cls := "com/example/urd/urd/functions/ComparisonOperator", name := "reversed", desc := "()Lcom/example/urd/urd/functions/ComparisonOperator;" } : Jvm.MethodName) prog_24_method_6_code (1 : Nat) (Option.some (Jvm.ClassFile.FieldType.object "com/example/urd/urd/functions/ComparisonOperator")), Jvm.Cond.code ({ cls := "java/lang/Enum", name := "ordinal", desc := "()I" } : Jvm.MethodName) jdk_37_method_2_code (1 : Nat) (Option.some Jvm.ClassFile.FieldType.int), Jvm.Cond.code ({ cls := "com/example/urd/urd/functions/ComparisonOperatorReversedPinLaw", name := "sign", desc := "(II)I" } : Jvm.MethodName) method_3_code (2 : Nat) (Option.some Jvm.ClassFile.FieldType.int), Jvm.Cond.code ({ cls := "com/example/urd/urd/functions/ComparisonOperator", name := "holds", desc := "(I)Z" } : Jvm.MethodName) prog_24_method_7_code (2 : Nat) (Option.some Jvm.ClassFile.FieldType.boolean)]
set_option maxRecDepth 65536 in
theorem codes_eq : words1.filter isCode = codes1 := rfl
theorem w_codes : ∀ c ∈ words1.filter isCode, c.before args0 about1 = true := by
  rw [codes_eq]
  intro c hc
  simp only [codes1, List.mem_cons, List.not_mem_nil, or_false] at hc
  rcases hc with rfl | rfl | rfl | rfl | rfl | rfl
  · exact w_c0
  · exact w_c1
  · exact w_c2
  · exact w_c3
  · exact w_c4
  · exact w_c5
set_option maxRecDepth 65536 in
theorem w_t1 : (words1.take 24).all (fun c => isCode c || c.before args0 about1) = true := by decide +kernel
set_option maxRecDepth 65536 in
theorem w_t2 : (words1.drop 24).all (fun c => isCode c || c.before args0 about1) = true := by decide +kernel
theorem w_tables : (allAtoms (Jvm.Cond.code x code maxLocals ret :: tables_1)).before args0 about1 = true := by
  rw [allAtoms_all]
  show words1.all (fun c => c.before args0 about1) = true
  refine all_split ?_ w_codes
  rw [← List.take_append_drop 24 words1, List.all_append, w_t1, w_t2]
  rfl
set_option maxRecDepth 65536 in
theorem w_case : (Jvm.Cond.and given_1 narrow_1).before args0 about1 = true := by decide +kernel
theorem w_applies : (headSpec (Jvm.Cond.code x code maxLocals ret :: tables_1) room_1).applies x e0.platform about1 = true :=
  (Spec.applies_iff w_frames).mpr ⟨w_running, w_runnable, w_alone, w_named, w_hears, w_ripe, w_room, w_tables⟩
theorem atStart : AtStart classFile x code maxLocals ret World_1 tables_1 room_1 Calls_1 rest_1 Pre_1 launch0 p0 e0 about1 theMethod args0 below0 :=
  ⟨lists_1, trivial, launch0.admits_env _ _ _, launch0.least_env, fairChoices_fair.cas, fairChoices_fair.clock, w_frames, w_args, w_heap, w_applies, trivial, trivial, w_case⟩
end start1
theorem witness_1 : WitnessClaimed_1 := ⟨start1.p0, start1.e0, start1.about1, start1.theMethod, start1.args0, start1.below0, start1.atStart⟩
end Jvm.Pilot.@@N@@
