import JvmDerived
import JvmDerived.Pilot.@@N@@Statement
import JvmDerived.Pilot.@@N@@Code
set_option linter.unusedVariables false
set_option linter.unusedSimpArgs false
@@BLOCK:NumsL.lean.txt@@
namespace Jvm.RoadKit
open Sem ClassFile Op Lib Jvm.Stand Jvm.Free Jvm.LawKit
/-- a step taken in front of a run that ends well -/
theorem own_go {tb : Tables} {e : Env} {below : List Frame} {a b : State} {P : State → Outcome → Prop} (h : ∀ target, Steps tb e below b target → Steps tb e below a target) (k : ∃ t o, Steps tb e below b t ∧ P t o) : ∃ t o, Steps tb e below a t ∧ P t o := by
  obtain ⟨t, o, h1, h2⟩ := k
  exact ⟨t, o, h _ h1, h2⟩
/-- several roads meet -/
theorem own_join {A : Type} {C : A → Prop} {tb : Tables} {e : Env} {below : List Frame} {P : State → Outcome → Prop} {f : A → State} {a : State} (body : ∀ x, C x → ∃ t o, Steps tb e below (f x) t ∧ P t o)
    (use : (∀ x, C x → ∃ t o, Steps tb e below (f x) t ∧ P t o) → ∃ t o, Steps tb e below a t ∧ P t o) : ∃ t o, Steps tb e below a t ∧ P t o := use body
/-- a field of an object of the start that the case fixes as an int -/
theorem own_fint {args : Array Value} {s : State} {t : Term} {C n d : String} {k : Int32} {x : Addr} (h : (Jvm.Cond.eq (Term.field t C n d) (Term.int k)).value args s none s [] = some true) (ht : t.eval args s none [] s = some (.ref x)) : Fld s s.heap x C n d (.int k) := by
  obtain ⟨u, v, h1, h2, h3, h4⟩ := cmp_v (Or.inl h)
  have e2 : v = .int k := by rw [Term.int_eval] at h2; exact (Option.some.inj h2).symm
  subst e2
  obtain ⟨z, rfl⟩ : ∃ z, u = .int z := h4
  have q := gotT (Cond.eq_ints h1 h2) h
  subst q
  exact Fld.start (by rw [← fld_at (C := C) (n := n) (dd := d) ht]; exact h1)
end Jvm.RoadKit
namespace Jvm.Pilot.@@N@@
open Jvm Jvm.ClassFile Sem Op Lib Jvm.Free Jvm.Stand Jvm.LawKit Jvm.RoadKit Bundle Jvm.Pilot.@@N@@.Jvm.D
def own_h0 (o : Int32) : Int32 := if o = 0 then 1 else 0
def own_h1 (o : Int32) : Int32 := if o = 0 then 0 else 1
def own_h2 (o : Int32) : Int32 := if o < 0 then 1 else 0
def own_h3 (o : Int32) : Int32 := if 0 < o then 0 else 1
def own_h4 (o : Int32) : Int32 := if 0 < o then 1 else 0
def own_h5 (o : Int32) : Int32 := if o < 0 then 0 else 1
theorem own_mod6 (x : Int32) : (x &&& 2147483647) % 6 = 0 ∨ (x &&& 2147483647) % 6 = 1 ∨ (x &&& 2147483647) % 6 = 2 ∨ (x &&& 2147483647) % 6 = 3 ∨ (x &&& 2147483647) % 6 = 4 ∨ (x &&& 2147483647) % 6 = 5 := by
  have e1 : (x &&& 2147483647).toInt = x.toInt % 2 ^ 31 := Jvm.Kit.i32_mask x 2147483647 (k := 31) (by decide) (by decide)
  have e2 : ((x &&& 2147483647) % 6).toInt = (x &&& 2147483647).toInt % (6 : Int32).toInt := Jvm.Kit.i32_rem_nonneg (by omega)
  have e3 : (6 : Int32).toInt = 6 := by decide
  rw [e3] at e2
  have e0 : (0 : Int32).toInt = 0 := by decide
  have e4 : (1 : Int32).toInt = 1 := by decide
  have e5 : (2 : Int32).toInt = 2 := by decide
  have e6 : (3 : Int32).toInt = 3 := by decide
  have e7 : (4 : Int32).toInt = 4 := by decide
  have e8 : (5 : Int32).toInt = 5 := by decide
  simp only [← Int32.toInt_inj]
  omega
theorem own_pos {o : Int32} (h1 : ¬ o < 0) (h2 : ¬ o = 0) : 0 < o := by
  rw [Int32.lt_iff_toInt_lt] at *; rw [← Int32.toInt_inj] at h2
  have : (0 : Int32).toInt = 0 := by decide
  omega
theorem own_neg {o : Int32} (h1 : o < 0) : ¬ 0 < o ∧ ¬ o = 0 := by
  rw [Int32.lt_iff_toInt_lt] at *; rw [← Int32.toInt_inj]
  have : (0 : Int32).toInt = 0 := by decide
  omega
theorem d2_0 : decode jdk_37_method_2_code 0 = .ok (.aload_n 0, 1) := by decide +kernel
theorem d2_1 : decode jdk_37_method_2_code 1 = .ok (.getfield 7, 3) := by decide +kernel
theorem d2_4 : decode jdk_37_method_2_code 4 = .ok (.ireturn, 1) := by decide +kernel
theorem pn_2 : plainName "java/lang/Enum" = true := by first | (simp [plainName, overriddenIn]; done) | decide +kernel
theorem ef_rmord (m : MethodId) (x0 : Addr) : entryFrame m #[(.ref x0)] 1 = mkF m 0 #[.val (.ref x0)] [] := by first | (simp [entryFrame, mkF, argsToLocals, Value.category]; done) | rfl
def Qrmord (Z : State) (a1 : Addr) (kk : Int32) (h0 : Heap) (n0 : Nat) (v : Option Value) (h : Heap) (L : List Loc) : Prop := v = some (.int kk) ∧ Fr n0 L ∧ h = h0
set_option maxRecDepth 65536 in
set_option maxHeartbeats 40000000 in
theorem rmord (l : Launch) (Z : State) (a0 : Array Value) (hw : ∀ d ∈ tables_1, d.before a0 Z = true) (ws : List Jvm.Cond) (a1 : Addr) (kk : Int32) (h0 : Heap) (n0 : Nat) (Z0 : n0 ≤ h0.size) (O0 : Old Z n0 h0) (Fld0_a1_ordinal : Fld Z Z.heap a1 "java/lang/Enum" "ordinal" "I" (.int kk)) :
    MetFree l (⟨"java/lang/Enum", "ordinal", "()I"⟩ : MethodName) (head1 (Jvm.Cond.code (⟨"java/lang/Enum", "ordinal", "()I"⟩ : MethodName) jdk_37_method_2_code 1 (some .int) :: ws) ({ frames := 0, cells := 0, slots := 0, locals := 0 } : Room)) (fun a U => a = #[(.ref a1)] ∧ Z.Warmed39 U.vm ∧ U.heap = h0) (fun _ _ _ _ _ => True) (fun _ U o U' => ∃ v L, o = .returned v ∧ Qrmord Z a1 kk h0 n0 v U'.heap L ∧ FrameEnd U o U' L ({ frames := 0, cells := 0, slots := 0, locals := 0 } : Room).cells ({ frames := 0, cells := 0, slots := 0, locals := 0 } : Room).slots) := by
  refine MetFree.of_bodySF (plainFor_of_name pn_2) hisR ?_
  intro p e s m args below meth c s₁ Bd hml0 hP hK
  obtain ⟨rfl, hZ, hh⟩ := hP
  have hx := Bd.exec
  have hby := Bd.bytes
  have hml : c.maxLocals = 1 := hml0
  have hown : s.vm.findClass "java/lang/Enum" = some m.cls := findClass_of_methodNamed Bd.named
  have hnm := (name_of_methodNamed Bd.named Bd.method).1
  have X0 : Stand p l e ({ frames := 0, cells := 0, slots := 0, locals := 0 } : Room) s m #[(.ref a1)] below meth c s₁ [] 0 0 := Stand.of_body Bd
  have e0 : s₁.heap = h0 := by rw [← hh, Bd.state]; rfl
  have N0 := Fr.nil n0
  refine own_go (b := (s₁.setTop (mkF m 0 #[.val (.ref a1)] []))) (fun _ k => castTop (ef_rmord m a1) k) ?_
  refine own_go (b := (s₁.setTop (mkF m 1 #[.val (.ref a1)] [(.ref a1)]))) (fun _ k => XS.aloadN X0.here hx rfl (hb hby d2_0) rfl rfl k) ?_
  obtain ⟨T1, X1, e1, st1⟩ := getF X0 hx hZ hown (host := "") (Or.inl (hw _ (List.mem_of_getElem? (i := 16) rfl))) Via.refl e0 (Fld0_a1_ordinal.ext O0.2) (g := (mkF m 1 #[.val (.ref a1)] [(.ref a1)])) rfl rfl (hb hby d2_1)
  refine own_go (b := (T1.setTop (mkF m 4 #[.val (.ref a1)] [(.int kk)]))) (fun _ k => st1 _ k) ?_
  obtain ⟨fs, hr, hrun, hended, hW, hsame⟩ := X1.leave (v := some (.int kk)) (fun h => by rw [Bd.returns] at h; cases h)
  exact ⟨_, _, retOut X1 hx Bd.returns rfl (Or.inl ⟨rfl, Or.inl rfl, _, rfl⟩) (hb hby d2_4) hr, hrun, hended, _, _, rfl, (show Qrmord Z a1 kk h0 n0 _ T1.heap _ from (by rw [e1]; exact ⟨rfl, N0, rfl⟩)), ⟨_, rfl⟩, hW, hsame.mono (by decide) (by decide)⟩
theorem d1_0 : decode prog_24_method_7_code 0 = .ok (.aload_n 0, 1) := by decide +kernel
theorem d1_1 : decode prog_24_method_7_code 1 = .ok (.invokevirtual 48, 3) := by decide +kernel
theorem d1_4 : decode prog_24_method_7_code 4 = .ok (.tableswitch 86 0 4 #[36, 46, 56, 66, 76], 36) := by decide +kernel
theorem d1_40 : decode prog_24_method_7_code 40 = .ok (.iload_n 1, 1) := by decide +kernel
theorem d1_41 : decode prog_24_method_7_code 41 = .ok (.ifCond .ne 7, 3) := by decide +kernel
theorem d1_44 : decode prog_24_method_7_code 44 = .ok (.iconst 1, 1) := by decide +kernel
theorem d1_45 : decode prog_24_method_7_code 45 = .ok (.goto 4, 3) := by decide +kernel
theorem d1_48 : decode prog_24_method_7_code 48 = .ok (.iconst 0, 1) := by decide +kernel
theorem d1_49 : decode prog_24_method_7_code 49 = .ok (.ireturn, 1) := by decide +kernel
theorem d1_50 : decode prog_24_method_7_code 50 = .ok (.iload_n 1, 1) := by decide +kernel
theorem d1_51 : decode prog_24_method_7_code 51 = .ok (.ifCond .eq 7, 3) := by decide +kernel
theorem d1_54 : decode prog_24_method_7_code 54 = .ok (.iconst 1, 1) := by decide +kernel
theorem d1_55 : decode prog_24_method_7_code 55 = .ok (.goto 4, 3) := by decide +kernel
theorem d1_58 : decode prog_24_method_7_code 58 = .ok (.iconst 0, 1) := by decide +kernel
theorem d1_59 : decode prog_24_method_7_code 59 = .ok (.ireturn, 1) := by decide +kernel
theorem d1_60 : decode prog_24_method_7_code 60 = .ok (.iload_n 1, 1) := by decide +kernel
theorem d1_61 : decode prog_24_method_7_code 61 = .ok (.ifCond .ge 7, 3) := by decide +kernel
theorem d1_64 : decode prog_24_method_7_code 64 = .ok (.iconst 1, 1) := by decide +kernel
theorem d1_65 : decode prog_24_method_7_code 65 = .ok (.goto 4, 3) := by decide +kernel
theorem d1_68 : decode prog_24_method_7_code 68 = .ok (.iconst 0, 1) := by decide +kernel
theorem d1_69 : decode prog_24_method_7_code 69 = .ok (.ireturn, 1) := by decide +kernel
theorem d1_70 : decode prog_24_method_7_code 70 = .ok (.iload_n 1, 1) := by decide +kernel
theorem d1_71 : decode prog_24_method_7_code 71 = .ok (.ifCond .gt 7, 3) := by decide +kernel
theorem d1_74 : decode prog_24_method_7_code 74 = .ok (.iconst 1, 1) := by decide +kernel
theorem d1_75 : decode prog_24_method_7_code 75 = .ok (.goto 4, 3) := by decide +kernel
theorem d1_78 : decode prog_24_method_7_code 78 = .ok (.iconst 0, 1) := by decide +kernel
theorem d1_79 : decode prog_24_method_7_code 79 = .ok (.ireturn, 1) := by decide +kernel
theorem d1_80 : decode prog_24_method_7_code 80 = .ok (.iload_n 1, 1) := by decide +kernel
theorem d1_81 : decode prog_24_method_7_code 81 = .ok (.ifCond .le 7, 3) := by decide +kernel
theorem d1_84 : decode prog_24_method_7_code 84 = .ok (.iconst 1, 1) := by decide +kernel
theorem d1_85 : decode prog_24_method_7_code 85 = .ok (.goto 4, 3) := by decide +kernel
theorem d1_88 : decode prog_24_method_7_code 88 = .ok (.iconst 0, 1) := by decide +kernel
theorem d1_89 : decode prog_24_method_7_code 89 = .ok (.ireturn, 1) := by decide +kernel
theorem d1_90 : decode prog_24_method_7_code 90 = .ok (.iload_n 1, 1) := by decide +kernel
theorem d1_91 : decode prog_24_method_7_code 91 = .ok (.ifCond .lt 7, 3) := by decide +kernel
theorem d1_94 : decode prog_24_method_7_code 94 = .ok (.iconst 1, 1) := by decide +kernel
theorem d1_95 : decode prog_24_method_7_code 95 = .ok (.goto 4, 3) := by decide +kernel
theorem d1_98 : decode prog_24_method_7_code 98 = .ok (.iconst 0, 1) := by decide +kernel
theorem d1_99 : decode prog_24_method_7_code 99 = .ok (.ireturn, 1) := by decide +kernel
theorem pd___I : parseMethodDescriptor "()I" = some ⟨[], some .int⟩ := by decide +kernel
theorem pn_1 : plainName "com/example/urd/urd/functions/ComparisonOperator" = true := by first | (simp [plainName, overriddenIn]; done) | decide +kernel
theorem ef_rmh0 (m : MethodId) (x0 : Addr) (x1 : Int32) : entryFrame m #[(.ref x0), (.int x1)] 2 = mkF m 0 #[.val (.ref x0), .val (.int x1)] [] := by first | (simp [entryFrame, mkF, argsToLocals, Value.category]; done) | rfl
def Qrmh0 (Z : State) (a1 : Addr) (p2 : Int32) (h0 : Heap) (n0 : Nat) (v : Option Value) (h : Heap) (L : List Loc) : Prop := v = some (.int (own_h0 p2)) ∧ Fr n0 L ∧ h = h0
set_option maxRecDepth 65536 in
set_option maxHeartbeats 40000000 in
theorem rmh0 (l : Launch) (Z : State) (a0 : Array Value) (hw : ∀ d ∈ tables_1, d.before a0 Z = true) (ws : List Jvm.Cond) (a1 : Addr) (p2 : Int32) (h0 : Heap) (n0 : Nat) (Z0 : n0 ≤ h0.size) (O0 : Old Z n0 h0) (EZ_a1 : Exa Z Z.heap a1 "com/example/urd/urd/functions/ComparisonOperator") (Fld0_a1_ordinal : Fld Z Z.heap a1 "java/lang/Enum" "ordinal" "I" (.int (0 : Int32))) :
    MetFree l (⟨"com/example/urd/urd/functions/ComparisonOperator", "holds", "(I)Z"⟩ : MethodName) (head1 (Jvm.Cond.code (⟨"com/example/urd/urd/functions/ComparisonOperator", "holds", "(I)Z"⟩ : MethodName) prog_24_method_7_code 2 (some .boolean) :: ws) ({ frames := 1, cells := 0, slots := 0, locals := 12 } : Room)) (fun a U => a = #[(.ref a1), (.int p2)] ∧ Z.Warmed39 U.vm ∧ U.heap = h0) (fun _ _ _ _ _ => True) (fun _ U o U' => ∃ v L, o = .returned v ∧ Qrmh0 Z a1 p2 h0 n0 v U'.heap L ∧ FrameEnd U o U' L ({ frames := 1, cells := 0, slots := 0, locals := 12 } : Room).cells ({ frames := 1, cells := 0, slots := 0, locals := 12 } : Room).slots) := by
  refine MetFree.of_bodySF (plainFor_of_name pn_1) hisR ?_
  intro p e s m args below meth c s₁ Bd hml0 hP hK
  obtain ⟨rfl, hZ, hh⟩ := hP
  have hx := Bd.exec
  have hby := Bd.bytes
  have hml : c.maxLocals = 2 := hml0
  have hown : s.vm.findClass "com/example/urd/urd/functions/ComparisonOperator" = some m.cls := findClass_of_methodNamed Bd.named
  have hnm := (name_of_methodNamed Bd.named Bd.method).1
  have X0 : Stand p l e ({ frames := 1, cells := 0, slots := 0, locals := 12 } : Room) s m #[(.ref a1), (.int p2)] below meth c s₁ [] 0 0 := Stand.of_body Bd
  have e0 : s₁.heap = h0 := by rw [← hh, Bd.state]; rfl
  have N0 := Fr.nil n0
  refine own_go (b := (s₁.setTop (mkF m 0 #[.val (.ref a1), .val (.int p2)] []))) (fun _ k => castTop (ef_rmh0 m a1 p2) k) ?_
  refine own_go (b := (s₁.setTop (mkF m 1 #[.val (.ref a1), .val (.int p2)] [(.ref a1)]))) (fun _ k => XS.aloadN X0.here hx rfl (hb hby d1_0) rfl rfl k) ?_
  obtain ⟨cq1, kq1, q1a, q1b, q1c⟩ := isOf hZ e0 (EZ_a1.ext O0.2)
  obtain ⟨_, _, ⟨T1, L1, k1, n1⟩, -, X1, ⟨Lc1, hQ1, l1, y1, z1⟩, st1⟩ := X0.virtualBackUp hx (owner := "java/lang/Enum") (x := (⟨"com/example/urd/urd/functions/ComparisonOperator", "ordinal", "()I"⟩ : MethodName)) (y := (⟨"java/lang/Enum", "ordinal", "()I"⟩ : MethodName)) hown (mvT hZ (hw _ (List.mem_of_getElem? (i := 9) rfl))) (mvT hZ (hw _ (List.mem_of_getElem? (i := 10) rfl))) (mvT hZ (hw _ (List.mem_of_getElem? (i := 11) rfl))) (by decide) (mvT hZ (hw _ (List.mem_of_getElem? (i := 13) rfl))) (mvT hZ (hw _ (List.mem_of_getElem? (i := 12) rfl))) (backOf (W := 0) (rmord l Z a0 hw [] a1 (0 : Int32) h0 n0 Z0 O0 Fld0_a1_ordinal) hZ (hw _ (List.mem_of_getElem? (i := 15) rfl)) (hw _ (List.mem_of_getElem? (i := 14) rfl)) (by decide) (by decide)) q1a q1c (g := (mkF m 1 #[.val (.ref a1), .val (.int p2)] [(.ref a1)])) rfl (by rw [hml]; rfl) (Steps.refl _) (argsL := []) (rest := []) (lenOf pd___I rfl) rfl (by show 2 * 0 + _ ≤ _; exact Nat.le_of_eq rfl) (hb hby d1_1) (fun _ _ => ⟨rfl, e0, (by decide : 0 + 0 ≤ _), (by decide : 0 + 0 ≤ _)⟩)
  dsimp only [Pt.U, Pt.locs, Pt.cells, Pt.slots] at X1 l1 y1 z1 st1 hQ1
  subst l1 y1 z1
  obtain ⟨rfl, N1q, eh1⟩ := hQ1
  have N1 := Fr.app N0 N1q
  refine own_go (b := (T1.setTop (mkF m 41 #[.val (.ref a1), .val (.int p2)] [(.int p2)]))) (fun _ k => st1.trans (XS.tswIn X1.here hx rfl (pc0 := 4) (pc' := 40) rfl (hb hby d1_4) (i := (0 : Int32)) rfl (by decide) (o := 36) (by decide) (by decide) (by decide) (XS.iloadN X1.here hx rfl (hb hby d1_40) rfl k))) ?_
  by_cases hc41_2 : p2 = (0 : Int32)
  · skip
    refine own_go (b := (T1.setTop (mkF m 49 #[.val (.ref a1), .val (.int p2)] [(.int (1 : Int32))]))) (fun _ k => XS.ifNo X1.here hx rfl (hb hby d1_41) rfl ((if0 _ _).trans (teq hc41_2).2) (XS.iconst X1.here hx rfl (hb hby d1_44) (XS.goto X1.here hx rfl (pc0 := 45) (pc' := 49) rfl (hb hby d1_45) (by decide) (by decide) k))) ?_
    obtain ⟨fs, hr, hrun, hended, hW, hsame⟩ := X1.leave (v := some (.int (1 : Int32))) (fun h => by rw [Bd.returns] at h; cases h)
    exact ⟨_, _, retN X1 hx (t := .boolean) Bd.returns (by simp) (hb hby d1_49) hr, hrun, hended, _, _, rfl, (show Qrmh0 Z a1 p2 h0 n0 _ T1.heap _ from (by rw [eh1]; exact ⟨(by simp [own_h0, hc41_2]), N1, rfl⟩)), ⟨_, rfl⟩, hW, hsame.mono (by decide) (by decide)⟩
  · skip
    refine own_go (b := (T1.setTop (mkF m 49 #[.val (.ref a1), .val (.int p2)] [(.int (0 : Int32))]))) (fun _ k => XS.ifYes X1.here hx rfl (pc0 := 41) (pc' := 48) rfl (hb hby d1_41) rfl ((if0 _ _).trans (feq hc41_2).2) (by decide) (by decide) (XS.iconst X1.here hx rfl (hb hby d1_48) k)) ?_
    obtain ⟨fs, hr, hrun, hended, hW, hsame⟩ := X1.leave (v := some (.int (0 : Int32))) (fun h => by rw [Bd.returns] at h; cases h)
    exact ⟨_, _, retN X1 hx (t := .boolean) Bd.returns (by simp) (hb hby d1_49) hr, hrun, hended, _, _, rfl, (show Qrmh0 Z a1 p2 h0 n0 _ T1.heap _ from (by rw [eh1]; exact ⟨(by simp [own_h0, hc41_2]), N1, rfl⟩)), ⟨_, rfl⟩, hW, hsame.mono (by decide) (by decide)⟩
theorem ef_rmh1 (m : MethodId) (x0 : Addr) (x1 : Int32) : entryFrame m #[(.ref x0), (.int x1)] 2 = mkF m 0 #[.val (.ref x0), .val (.int x1)] [] := by first | (simp [entryFrame, mkF, argsToLocals, Value.category]; done) | rfl
def Qrmh1 (Z : State) (a1 : Addr) (p2 : Int32) (h0 : Heap) (n0 : Nat) (v : Option Value) (h : Heap) (L : List Loc) : Prop := v = some (.int (own_h1 p2)) ∧ Fr n0 L ∧ h = h0
set_option maxRecDepth 65536 in
set_option maxHeartbeats 40000000 in
theorem rmh1 (l : Launch) (Z : State) (a0 : Array Value) (hw : ∀ d ∈ tables_1, d.before a0 Z = true) (ws : List Jvm.Cond) (a1 : Addr) (p2 : Int32) (h0 : Heap) (n0 : Nat) (Z0 : n0 ≤ h0.size) (O0 : Old Z n0 h0) (EZ_a1 : Exa Z Z.heap a1 "com/example/urd/urd/functions/ComparisonOperator") (Fld0_a1_ordinal : Fld Z Z.heap a1 "java/lang/Enum" "ordinal" "I" (.int (1 : Int32))) :
    MetFree l (⟨"com/example/urd/urd/functions/ComparisonOperator", "holds", "(I)Z"⟩ : MethodName) (head1 (Jvm.Cond.code (⟨"com/example/urd/urd/functions/ComparisonOperator", "holds", "(I)Z"⟩ : MethodName) prog_24_method_7_code 2 (some .boolean) :: ws) ({ frames := 1, cells := 0, slots := 0, locals := 12 } : Room)) (fun a U => a = #[(.ref a1), (.int p2)] ∧ Z.Warmed39 U.vm ∧ U.heap = h0) (fun _ _ _ _ _ => True) (fun _ U o U' => ∃ v L, o = .returned v ∧ Qrmh1 Z a1 p2 h0 n0 v U'.heap L ∧ FrameEnd U o U' L ({ frames := 1, cells := 0, slots := 0, locals := 12 } : Room).cells ({ frames := 1, cells := 0, slots := 0, locals := 12 } : Room).slots) := by
  refine MetFree.of_bodySF (plainFor_of_name pn_1) hisR ?_
  intro p e s m args below meth c s₁ Bd hml0 hP hK
  obtain ⟨rfl, hZ, hh⟩ := hP
  have hx := Bd.exec
  have hby := Bd.bytes
  have hml : c.maxLocals = 2 := hml0
  have hown : s.vm.findClass "com/example/urd/urd/functions/ComparisonOperator" = some m.cls := findClass_of_methodNamed Bd.named
  have hnm := (name_of_methodNamed Bd.named Bd.method).1
  have X0 : Stand p l e ({ frames := 1, cells := 0, slots := 0, locals := 12 } : Room) s m #[(.ref a1), (.int p2)] below meth c s₁ [] 0 0 := Stand.of_body Bd
  have e0 : s₁.heap = h0 := by rw [← hh, Bd.state]; rfl
  have N0 := Fr.nil n0
  refine own_go (b := (s₁.setTop (mkF m 0 #[.val (.ref a1), .val (.int p2)] []))) (fun _ k => castTop (ef_rmh1 m a1 p2) k) ?_
  refine own_go (b := (s₁.setTop (mkF m 1 #[.val (.ref a1), .val (.int p2)] [(.ref a1)]))) (fun _ k => XS.aloadN X0.here hx rfl (hb hby d1_0) rfl rfl k) ?_
  obtain ⟨cq1, kq1, q1a, q1b, q1c⟩ := isOf hZ e0 (EZ_a1.ext O0.2)
  obtain ⟨_, _, ⟨T1, L1, k1, n1⟩, -, X1, ⟨Lc1, hQ1, l1, y1, z1⟩, st1⟩ := X0.virtualBackUp hx (owner := "java/lang/Enum") (x := (⟨"com/example/urd/urd/functions/ComparisonOperator", "ordinal", "()I"⟩ : MethodName)) (y := (⟨"java/lang/Enum", "ordinal", "()I"⟩ : MethodName)) hown (mvT hZ (hw _ (List.mem_of_getElem? (i := 9) rfl))) (mvT hZ (hw _ (List.mem_of_getElem? (i := 10) rfl))) (mvT hZ (hw _ (List.mem_of_getElem? (i := 11) rfl))) (by decide) (mvT hZ (hw _ (List.mem_of_getElem? (i := 13) rfl))) (mvT hZ (hw _ (List.mem_of_getElem? (i := 12) rfl))) (backOf (W := 0) (rmord l Z a0 hw [] a1 (1 : Int32) h0 n0 Z0 O0 Fld0_a1_ordinal) hZ (hw _ (List.mem_of_getElem? (i := 15) rfl)) (hw _ (List.mem_of_getElem? (i := 14) rfl)) (by decide) (by decide)) q1a q1c (g := (mkF m 1 #[.val (.ref a1), .val (.int p2)] [(.ref a1)])) rfl (by rw [hml]; rfl) (Steps.refl _) (argsL := []) (rest := []) (lenOf pd___I rfl) rfl (by show 2 * 0 + _ ≤ _; exact Nat.le_of_eq rfl) (hb hby d1_1) (fun _ _ => ⟨rfl, e0, (by decide : 0 + 0 ≤ _), (by decide : 0 + 0 ≤ _)⟩)
  dsimp only [Pt.U, Pt.locs, Pt.cells, Pt.slots] at X1 l1 y1 z1 st1 hQ1
  subst l1 y1 z1
  obtain ⟨rfl, N1q, eh1⟩ := hQ1
  have N1 := Fr.app N0 N1q
  refine own_go (b := (T1.setTop (mkF m 51 #[.val (.ref a1), .val (.int p2)] [(.int p2)]))) (fun _ k => st1.trans (XS.tswIn X1.here hx rfl (pc0 := 4) (pc' := 50) rfl (hb hby d1_4) (i := (1 : Int32)) rfl (by decide) (o := 46) (by decide) (by decide) (by decide) (XS.iloadN X1.here hx rfl (hb hby d1_50) rfl k))) ?_
  by_cases hc51_2 : p2 = (0 : Int32)
  · skip
    refine own_go (b := (T1.setTop (mkF m 59 #[.val (.ref a1), .val (.int p2)] [(.int (0 : Int32))]))) (fun _ k => XS.ifYes X1.here hx rfl (pc0 := 51) (pc' := 58) rfl (hb hby d1_51) rfl ((if0 _ _).trans (teq hc51_2).1) (by decide) (by decide) (XS.iconst X1.here hx rfl (hb hby d1_58) k)) ?_
    obtain ⟨fs, hr, hrun, hended, hW, hsame⟩ := X1.leave (v := some (.int (0 : Int32))) (fun h => by rw [Bd.returns] at h; cases h)
    exact ⟨_, _, retN X1 hx (t := .boolean) Bd.returns (by simp) (hb hby d1_59) hr, hrun, hended, _, _, rfl, (show Qrmh1 Z a1 p2 h0 n0 _ T1.heap _ from (by rw [eh1]; exact ⟨(by simp [own_h1, hc51_2]), N1, rfl⟩)), ⟨_, rfl⟩, hW, hsame.mono (by decide) (by decide)⟩
  · skip
    refine own_go (b := (T1.setTop (mkF m 59 #[.val (.ref a1), .val (.int p2)] [(.int (1 : Int32))]))) (fun _ k => XS.ifNo X1.here hx rfl (hb hby d1_51) rfl ((if0 _ _).trans (feq hc51_2).1) (XS.iconst X1.here hx rfl (hb hby d1_54) (XS.goto X1.here hx rfl (pc0 := 55) (pc' := 59) rfl (hb hby d1_55) (by decide) (by decide) k))) ?_
    obtain ⟨fs, hr, hrun, hended, hW, hsame⟩ := X1.leave (v := some (.int (1 : Int32))) (fun h => by rw [Bd.returns] at h; cases h)
    exact ⟨_, _, retN X1 hx (t := .boolean) Bd.returns (by simp) (hb hby d1_59) hr, hrun, hended, _, _, rfl, (show Qrmh1 Z a1 p2 h0 n0 _ T1.heap _ from (by rw [eh1]; exact ⟨(by simp [own_h1, hc51_2]), N1, rfl⟩)), ⟨_, rfl⟩, hW, hsame.mono (by decide) (by decide)⟩
theorem ef_rmh2 (m : MethodId) (x0 : Addr) (x1 : Int32) : entryFrame m #[(.ref x0), (.int x1)] 2 = mkF m 0 #[.val (.ref x0), .val (.int x1)] [] := by first | (simp [entryFrame, mkF, argsToLocals, Value.category]; done) | rfl
def Qrmh2 (Z : State) (a1 : Addr) (p2 : Int32) (h0 : Heap) (n0 : Nat) (v : Option Value) (h : Heap) (L : List Loc) : Prop := v = some (.int (own_h2 p2)) ∧ Fr n0 L ∧ h = h0
set_option maxRecDepth 65536 in
set_option maxHeartbeats 40000000 in
theorem rmh2 (l : Launch) (Z : State) (a0 : Array Value) (hw : ∀ d ∈ tables_1, d.before a0 Z = true) (ws : List Jvm.Cond) (a1 : Addr) (p2 : Int32) (h0 : Heap) (n0 : Nat) (Z0 : n0 ≤ h0.size) (O0 : Old Z n0 h0) (EZ_a1 : Exa Z Z.heap a1 "com/example/urd/urd/functions/ComparisonOperator") (Fld0_a1_ordinal : Fld Z Z.heap a1 "java/lang/Enum" "ordinal" "I" (.int (2 : Int32))) :
    MetFree l (⟨"com/example/urd/urd/functions/ComparisonOperator", "holds", "(I)Z"⟩ : MethodName) (head1 (Jvm.Cond.code (⟨"com/example/urd/urd/functions/ComparisonOperator", "holds", "(I)Z"⟩ : MethodName) prog_24_method_7_code 2 (some .boolean) :: ws) ({ frames := 1, cells := 0, slots := 0, locals := 12 } : Room)) (fun a U => a = #[(.ref a1), (.int p2)] ∧ Z.Warmed39 U.vm ∧ U.heap = h0) (fun _ _ _ _ _ => True) (fun _ U o U' => ∃ v L, o = .returned v ∧ Qrmh2 Z a1 p2 h0 n0 v U'.heap L ∧ FrameEnd U o U' L ({ frames := 1, cells := 0, slots := 0, locals := 12 } : Room).cells ({ frames := 1, cells := 0, slots := 0, locals := 12 } : Room).slots) := by
  refine MetFree.of_bodySF (plainFor_of_name pn_1) hisR ?_
  intro p e s m args below meth c s₁ Bd hml0 hP hK
  obtain ⟨rfl, hZ, hh⟩ := hP
  have hx := Bd.exec
  have hby := Bd.bytes
  have hml : c.maxLocals = 2 := hml0
  have hown : s.vm.findClass "com/example/urd/urd/functions/ComparisonOperator" = some m.cls := findClass_of_methodNamed Bd.named
  have hnm := (name_of_methodNamed Bd.named Bd.method).1
  have X0 : Stand p l e ({ frames := 1, cells := 0, slots := 0, locals := 12 } : Room) s m #[(.ref a1), (.int p2)] below meth c s₁ [] 0 0 := Stand.of_body Bd
  have e0 : s₁.heap = h0 := by rw [← hh, Bd.state]; rfl
  have N0 := Fr.nil n0
  refine own_go (b := (s₁.setTop (mkF m 0 #[.val (.ref a1), .val (.int p2)] []))) (fun _ k => castTop (ef_rmh2 m a1 p2) k) ?_
  refine own_go (b := (s₁.setTop (mkF m 1 #[.val (.ref a1), .val (.int p2)] [(.ref a1)]))) (fun _ k => XS.aloadN X0.here hx rfl (hb hby d1_0) rfl rfl k) ?_
  obtain ⟨cq1, kq1, q1a, q1b, q1c⟩ := isOf hZ e0 (EZ_a1.ext O0.2)
  obtain ⟨_, _, ⟨T1, L1, k1, n1⟩, -, X1, ⟨Lc1, hQ1, l1, y1, z1⟩, st1⟩ := X0.virtualBackUp hx (owner := "java/lang/Enum") (x := (⟨"com/example/urd/urd/functions/ComparisonOperator", "ordinal", "()I"⟩ : MethodName)) (y := (⟨"java/lang/Enum", "ordinal", "()I"⟩ : MethodName)) hown (mvT hZ (hw _ (List.mem_of_getElem? (i := 9) rfl))) (mvT hZ (hw _ (List.mem_of_getElem? (i := 10) rfl))) (mvT hZ (hw _ (List.mem_of_getElem? (i := 11) rfl))) (by decide) (mvT hZ (hw _ (List.mem_of_getElem? (i := 13) rfl))) (mvT hZ (hw _ (List.mem_of_getElem? (i := 12) rfl))) (backOf (W := 0) (rmord l Z a0 hw [] a1 (2 : Int32) h0 n0 Z0 O0 Fld0_a1_ordinal) hZ (hw _ (List.mem_of_getElem? (i := 15) rfl)) (hw _ (List.mem_of_getElem? (i := 14) rfl)) (by decide) (by decide)) q1a q1c (g := (mkF m 1 #[.val (.ref a1), .val (.int p2)] [(.ref a1)])) rfl (by rw [hml]; rfl) (Steps.refl _) (argsL := []) (rest := []) (lenOf pd___I rfl) rfl (by show 2 * 0 + _ ≤ _; exact Nat.le_of_eq rfl) (hb hby d1_1) (fun _ _ => ⟨rfl, e0, (by decide : 0 + 0 ≤ _), (by decide : 0 + 0 ≤ _)⟩)
  dsimp only [Pt.U, Pt.locs, Pt.cells, Pt.slots] at X1 l1 y1 z1 st1 hQ1
  subst l1 y1 z1
  obtain ⟨rfl, N1q, eh1⟩ := hQ1
  have N1 := Fr.app N0 N1q
  refine own_go (b := (T1.setTop (mkF m 61 #[.val (.ref a1), .val (.int p2)] [(.int p2)]))) (fun _ k => st1.trans (XS.tswIn X1.here hx rfl (pc0 := 4) (pc' := 60) rfl (hb hby d1_4) (i := (2 : Int32)) rfl (by decide) (o := 56) (by decide) (by decide) (by decide) (XS.iloadN X1.here hx rfl (hb hby d1_60) rfl k))) ?_
  by_cases hc61_2 : p2 < (0 : Int32)
  · skip
    refine own_go (b := (T1.setTop (mkF m 69 #[.val (.ref a1), .val (.int p2)] [(.int (1 : Int32))]))) (fun _ k => XS.ifNo X1.here hx rfl (hb hby d1_61) rfl ((if0 _ _).trans (tlt hc61_2).2.1) (XS.iconst X1.here hx rfl (hb hby d1_64) (XS.goto X1.here hx rfl (pc0 := 65) (pc' := 69) rfl (hb hby d1_65) (by decide) (by decide) k))) ?_
    obtain ⟨fs, hr, hrun, hended, hW, hsame⟩ := X1.leave (v := some (.int (1 : Int32))) (fun h => by rw [Bd.returns] at h; cases h)
    exact ⟨_, _, retN X1 hx (t := .boolean) Bd.returns (by simp) (hb hby d1_69) hr, hrun, hended, _, _, rfl, (show Qrmh2 Z a1 p2 h0 n0 _ T1.heap _ from (by rw [eh1]; exact ⟨(by simp [own_h2, hc61_2]), N1, rfl⟩)), ⟨_, rfl⟩, hW, hsame.mono (by decide) (by decide)⟩
  · skip
    refine own_go (b := (T1.setTop (mkF m 69 #[.val (.ref a1), .val (.int p2)] [(.int (0 : Int32))]))) (fun _ k => XS.ifYes X1.here hx rfl (pc0 := 61) (pc' := 68) rfl (hb hby d1_61) rfl ((if0 _ _).trans (flt hc61_2).2.1) (by decide) (by decide) (XS.iconst X1.here hx rfl (hb hby d1_68) k)) ?_
    obtain ⟨fs, hr, hrun, hended, hW, hsame⟩ := X1.leave (v := some (.int (0 : Int32))) (fun h => by rw [Bd.returns] at h; cases h)
    exact ⟨_, _, retN X1 hx (t := .boolean) Bd.returns (by simp) (hb hby d1_69) hr, hrun, hended, _, _, rfl, (show Qrmh2 Z a1 p2 h0 n0 _ T1.heap _ from (by rw [eh1]; exact ⟨(by simp [own_h2, hc61_2]), N1, rfl⟩)), ⟨_, rfl⟩, hW, hsame.mono (by decide) (by decide)⟩
theorem ef_rmh3 (m : MethodId) (x0 : Addr) (x1 : Int32) : entryFrame m #[(.ref x0), (.int x1)] 2 = mkF m 0 #[.val (.ref x0), .val (.int x1)] [] := by first | (simp [entryFrame, mkF, argsToLocals, Value.category]; done) | rfl
def Qrmh3 (Z : State) (a1 : Addr) (p2 : Int32) (h0 : Heap) (n0 : Nat) (v : Option Value) (h : Heap) (L : List Loc) : Prop := v = some (.int (own_h3 p2)) ∧ Fr n0 L ∧ h = h0
set_option maxRecDepth 65536 in
set_option maxHeartbeats 40000000 in
theorem rmh3 (l : Launch) (Z : State) (a0 : Array Value) (hw : ∀ d ∈ tables_1, d.before a0 Z = true) (ws : List Jvm.Cond) (a1 : Addr) (p2 : Int32) (h0 : Heap) (n0 : Nat) (Z0 : n0 ≤ h0.size) (O0 : Old Z n0 h0) (EZ_a1 : Exa Z Z.heap a1 "com/example/urd/urd/functions/ComparisonOperator") (Fld0_a1_ordinal : Fld Z Z.heap a1 "java/lang/Enum" "ordinal" "I" (.int (3 : Int32))) :
    MetFree l (⟨"com/example/urd/urd/functions/ComparisonOperator", "holds", "(I)Z"⟩ : MethodName) (head1 (Jvm.Cond.code (⟨"com/example/urd/urd/functions/ComparisonOperator", "holds", "(I)Z"⟩ : MethodName) prog_24_method_7_code 2 (some .boolean) :: ws) ({ frames := 1, cells := 0, slots := 0, locals := 12 } : Room)) (fun a U => a = #[(.ref a1), (.int p2)] ∧ Z.Warmed39 U.vm ∧ U.heap = h0) (fun _ _ _ _ _ => True) (fun _ U o U' => ∃ v L, o = .returned v ∧ Qrmh3 Z a1 p2 h0 n0 v U'.heap L ∧ FrameEnd U o U' L ({ frames := 1, cells := 0, slots := 0, locals := 12 } : Room).cells ({ frames := 1, cells := 0, slots := 0, locals := 12 } : Room).slots) := by
  refine MetFree.of_bodySF (plainFor_of_name pn_1) hisR ?_
  intro p e s m args below meth c s₁ Bd hml0 hP hK
  obtain ⟨rfl, hZ, hh⟩ := hP
  have hx := Bd.exec
  have hby := Bd.bytes
  have hml : c.maxLocals = 2 := hml0
  have hown : s.vm.findClass "com/example/urd/urd/functions/ComparisonOperator" = some m.cls := findClass_of_methodNamed Bd.named
  have hnm := (name_of_methodNamed Bd.named Bd.method).1
  have X0 : Stand p l e ({ frames := 1, cells := 0, slots := 0, locals := 12 } : Room) s m #[(.ref a1), (.int p2)] below meth c s₁ [] 0 0 := Stand.of_body Bd
  have e0 : s₁.heap = h0 := by rw [← hh, Bd.state]; rfl
  have N0 := Fr.nil n0
  refine own_go (b := (s₁.setTop (mkF m 0 #[.val (.ref a1), .val (.int p2)] []))) (fun _ k => castTop (ef_rmh3 m a1 p2) k) ?_
  refine own_go (b := (s₁.setTop (mkF m 1 #[.val (.ref a1), .val (.int p2)] [(.ref a1)]))) (fun _ k => XS.aloadN X0.here hx rfl (hb hby d1_0) rfl rfl k) ?_
  obtain ⟨cq1, kq1, q1a, q1b, q1c⟩ := isOf hZ e0 (EZ_a1.ext O0.2)
  obtain ⟨_, _, ⟨T1, L1, k1, n1⟩, -, X1, ⟨Lc1, hQ1, l1, y1, z1⟩, st1⟩ := X0.virtualBackUp hx (owner := "java/lang/Enum") (x := (⟨"com/example/urd/urd/functions/ComparisonOperator", "ordinal", "()I"⟩ : MethodName)) (y := (⟨"java/lang/Enum", "ordinal", "()I"⟩ : MethodName)) hown (mvT hZ (hw _ (List.mem_of_getElem? (i := 9) rfl))) (mvT hZ (hw _ (List.mem_of_getElem? (i := 10) rfl))) (mvT hZ (hw _ (List.mem_of_getElem? (i := 11) rfl))) (by decide) (mvT hZ (hw _ (List.mem_of_getElem? (i := 13) rfl))) (mvT hZ (hw _ (List.mem_of_getElem? (i := 12) rfl))) (backOf (W := 0) (rmord l Z a0 hw [] a1 (3 : Int32) h0 n0 Z0 O0 Fld0_a1_ordinal) hZ (hw _ (List.mem_of_getElem? (i := 15) rfl)) (hw _ (List.mem_of_getElem? (i := 14) rfl)) (by decide) (by decide)) q1a q1c (g := (mkF m 1 #[.val (.ref a1), .val (.int p2)] [(.ref a1)])) rfl (by rw [hml]; rfl) (Steps.refl _) (argsL := []) (rest := []) (lenOf pd___I rfl) rfl (by show 2 * 0 + _ ≤ _; exact Nat.le_of_eq rfl) (hb hby d1_1) (fun _ _ => ⟨rfl, e0, (by decide : 0 + 0 ≤ _), (by decide : 0 + 0 ≤ _)⟩)
  dsimp only [Pt.U, Pt.locs, Pt.cells, Pt.slots] at X1 l1 y1 z1 st1 hQ1
  subst l1 y1 z1
  obtain ⟨rfl, N1q, eh1⟩ := hQ1
  have N1 := Fr.app N0 N1q
  refine own_go (b := (T1.setTop (mkF m 71 #[.val (.ref a1), .val (.int p2)] [(.int p2)]))) (fun _ k => st1.trans (XS.tswIn X1.here hx rfl (pc0 := 4) (pc' := 70) rfl (hb hby d1_4) (i := (3 : Int32)) rfl (by decide) (o := 66) (by decide) (by decide) (by decide) (XS.iloadN X1.here hx rfl (hb hby d1_70) rfl k))) ?_
  by_cases hc71_2 : (0 : Int32) < p2
  · skip
    refine own_go (b := (T1.setTop (mkF m 79 #[.val (.ref a1), .val (.int p2)] [(.int (0 : Int32))]))) (fun _ k => XS.ifYes X1.here hx rfl (pc0 := 71) (pc' := 78) rfl (hb hby d1_71) rfl ((if0 _ _).trans (tlt hc71_2).2.2.1) (by decide) (by decide) (XS.iconst X1.here hx rfl (hb hby d1_78) k)) ?_
    obtain ⟨fs, hr, hrun, hended, hW, hsame⟩ := X1.leave (v := some (.int (0 : Int32))) (fun h => by rw [Bd.returns] at h; cases h)
    exact ⟨_, _, retN X1 hx (t := .boolean) Bd.returns (by simp) (hb hby d1_79) hr, hrun, hended, _, _, rfl, (show Qrmh3 Z a1 p2 h0 n0 _ T1.heap _ from (by rw [eh1]; exact ⟨(by simp [own_h3, hc71_2]), N1, rfl⟩)), ⟨_, rfl⟩, hW, hsame.mono (by decide) (by decide)⟩
  · skip
    refine own_go (b := (T1.setTop (mkF m 79 #[.val (.ref a1), .val (.int p2)] [(.int (1 : Int32))]))) (fun _ k => XS.ifNo X1.here hx rfl (hb hby d1_71) rfl ((if0 _ _).trans (flt hc71_2).2.2.1) (XS.iconst X1.here hx rfl (hb hby d1_74) (XS.goto X1.here hx rfl (pc0 := 75) (pc' := 79) rfl (hb hby d1_75) (by decide) (by decide) k))) ?_
    obtain ⟨fs, hr, hrun, hended, hW, hsame⟩ := X1.leave (v := some (.int (1 : Int32))) (fun h => by rw [Bd.returns] at h; cases h)
    exact ⟨_, _, retN X1 hx (t := .boolean) Bd.returns (by simp) (hb hby d1_79) hr, hrun, hended, _, _, rfl, (show Qrmh3 Z a1 p2 h0 n0 _ T1.heap _ from (by rw [eh1]; exact ⟨(by simp [own_h3, hc71_2]), N1, rfl⟩)), ⟨_, rfl⟩, hW, hsame.mono (by decide) (by decide)⟩
theorem ef_rmh4 (m : MethodId) (x0 : Addr) (x1 : Int32) : entryFrame m #[(.ref x0), (.int x1)] 2 = mkF m 0 #[.val (.ref x0), .val (.int x1)] [] := by first | (simp [entryFrame, mkF, argsToLocals, Value.category]; done) | rfl
def Qrmh4 (Z : State) (a1 : Addr) (p2 : Int32) (h0 : Heap) (n0 : Nat) (v : Option Value) (h : Heap) (L : List Loc) : Prop := v = some (.int (own_h4 p2)) ∧ Fr n0 L ∧ h = h0
set_option maxRecDepth 65536 in
set_option maxHeartbeats 40000000 in
theorem rmh4 (l : Launch) (Z : State) (a0 : Array Value) (hw : ∀ d ∈ tables_1, d.before a0 Z = true) (ws : List Jvm.Cond) (a1 : Addr) (p2 : Int32) (h0 : Heap) (n0 : Nat) (Z0 : n0 ≤ h0.size) (O0 : Old Z n0 h0) (EZ_a1 : Exa Z Z.heap a1 "com/example/urd/urd/functions/ComparisonOperator") (Fld0_a1_ordinal : Fld Z Z.heap a1 "java/lang/Enum" "ordinal" "I" (.int (4 : Int32))) :
    MetFree l (⟨"com/example/urd/urd/functions/ComparisonOperator", "holds", "(I)Z"⟩ : MethodName) (head1 (Jvm.Cond.code (⟨"com/example/urd/urd/functions/ComparisonOperator", "holds", "(I)Z"⟩ : MethodName) prog_24_method_7_code 2 (some .boolean) :: ws) ({ frames := 1, cells := 0, slots := 0, locals := 12 } : Room)) (fun a U => a = #[(.ref a1), (.int p2)] ∧ Z.Warmed39 U.vm ∧ U.heap = h0) (fun _ _ _ _ _ => True) (fun _ U o U' => ∃ v L, o = .returned v ∧ Qrmh4 Z a1 p2 h0 n0 v U'.heap L ∧ FrameEnd U o U' L ({ frames := 1, cells := 0, slots := 0, locals := 12 } : Room).cells ({ frames := 1, cells := 0, slots := 0, locals := 12 } : Room).slots) := by
  refine MetFree.of_bodySF (plainFor_of_name pn_1) hisR ?_
  intro p e s m args below meth c s₁ Bd hml0 hP hK
  obtain ⟨rfl, hZ, hh⟩ := hP
  have hx := Bd.exec
  have hby := Bd.bytes
  have hml : c.maxLocals = 2 := hml0
  have hown : s.vm.findClass "com/example/urd/urd/functions/ComparisonOperator" = some m.cls := findClass_of_methodNamed Bd.named
  have hnm := (name_of_methodNamed Bd.named Bd.method).1
  have X0 : Stand p l e ({ frames := 1, cells := 0, slots := 0, locals := 12 } : Room) s m #[(.ref a1), (.int p2)] below meth c s₁ [] 0 0 := Stand.of_body Bd
  have e0 : s₁.heap = h0 := by rw [← hh, Bd.state]; rfl
  have N0 := Fr.nil n0
  refine own_go (b := (s₁.setTop (mkF m 0 #[.val (.ref a1), .val (.int p2)] []))) (fun _ k => castTop (ef_rmh4 m a1 p2) k) ?_
  refine own_go (b := (s₁.setTop (mkF m 1 #[.val (.ref a1), .val (.int p2)] [(.ref a1)]))) (fun _ k => XS.aloadN X0.here hx rfl (hb hby d1_0) rfl rfl k) ?_
  obtain ⟨cq1, kq1, q1a, q1b, q1c⟩ := isOf hZ e0 (EZ_a1.ext O0.2)
  obtain ⟨_, _, ⟨T1, L1, k1, n1⟩, -, X1, ⟨Lc1, hQ1, l1, y1, z1⟩, st1⟩ := X0.virtualBackUp hx (owner := "java/lang/Enum") (x := (⟨"com/example/urd/urd/functions/ComparisonOperator", "ordinal", "()I"⟩ : MethodName)) (y := (⟨"java/lang/Enum", "ordinal", "()I"⟩ : MethodName)) hown (mvT hZ (hw _ (List.mem_of_getElem? (i := 9) rfl))) (mvT hZ (hw _ (List.mem_of_getElem? (i := 10) rfl))) (mvT hZ (hw _ (List.mem_of_getElem? (i := 11) rfl))) (by decide) (mvT hZ (hw _ (List.mem_of_getElem? (i := 13) rfl))) (mvT hZ (hw _ (List.mem_of_getElem? (i := 12) rfl))) (backOf (W := 0) (rmord l Z a0 hw [] a1 (4 : Int32) h0 n0 Z0 O0 Fld0_a1_ordinal) hZ (hw _ (List.mem_of_getElem? (i := 15) rfl)) (hw _ (List.mem_of_getElem? (i := 14) rfl)) (by decide) (by decide)) q1a q1c (g := (mkF m 1 #[.val (.ref a1), .val (.int p2)] [(.ref a1)])) rfl (by rw [hml]; rfl) (Steps.refl _) (argsL := []) (rest := []) (lenOf pd___I rfl) rfl (by show 2 * 0 + _ ≤ _; exact Nat.le_of_eq rfl) (hb hby d1_1) (fun _ _ => ⟨rfl, e0, (by decide : 0 + 0 ≤ _), (by decide : 0 + 0 ≤ _)⟩)
  dsimp only [Pt.U, Pt.locs, Pt.cells, Pt.slots] at X1 l1 y1 z1 st1 hQ1
  subst l1 y1 z1
  obtain ⟨rfl, N1q, eh1⟩ := hQ1
  have N1 := Fr.app N0 N1q
  refine own_go (b := (T1.setTop (mkF m 81 #[.val (.ref a1), .val (.int p2)] [(.int p2)]))) (fun _ k => st1.trans (XS.tswIn X1.here hx rfl (pc0 := 4) (pc' := 80) rfl (hb hby d1_4) (i := (4 : Int32)) rfl (by decide) (o := 76) (by decide) (by decide) (by decide) (XS.iloadN X1.here hx rfl (hb hby d1_80) rfl k))) ?_
  by_cases hc81_2 : (0 : Int32) < p2
  · skip
    refine own_go (b := (T1.setTop (mkF m 89 #[.val (.ref a1), .val (.int p2)] [(.int (1 : Int32))]))) (fun _ k => XS.ifNo X1.here hx rfl (hb hby d1_81) rfl ((if0 _ _).trans (tlt hc81_2).2.2.2) (XS.iconst X1.here hx rfl (hb hby d1_84) (XS.goto X1.here hx rfl (pc0 := 85) (pc' := 89) rfl (hb hby d1_85) (by decide) (by decide) k))) ?_
    obtain ⟨fs, hr, hrun, hended, hW, hsame⟩ := X1.leave (v := some (.int (1 : Int32))) (fun h => by rw [Bd.returns] at h; cases h)
    exact ⟨_, _, retN X1 hx (t := .boolean) Bd.returns (by simp) (hb hby d1_89) hr, hrun, hended, _, _, rfl, (show Qrmh4 Z a1 p2 h0 n0 _ T1.heap _ from (by rw [eh1]; exact ⟨(by simp [own_h4, hc81_2]), N1, rfl⟩)), ⟨_, rfl⟩, hW, hsame.mono (by decide) (by decide)⟩
  · skip
    refine own_go (b := (T1.setTop (mkF m 89 #[.val (.ref a1), .val (.int p2)] [(.int (0 : Int32))]))) (fun _ k => XS.ifYes X1.here hx rfl (pc0 := 81) (pc' := 88) rfl (hb hby d1_81) rfl ((if0 _ _).trans (flt hc81_2).2.2.2) (by decide) (by decide) (XS.iconst X1.here hx rfl (hb hby d1_88) k)) ?_
    obtain ⟨fs, hr, hrun, hended, hW, hsame⟩ := X1.leave (v := some (.int (0 : Int32))) (fun h => by rw [Bd.returns] at h; cases h)
    exact ⟨_, _, retN X1 hx (t := .boolean) Bd.returns (by simp) (hb hby d1_89) hr, hrun, hended, _, _, rfl, (show Qrmh4 Z a1 p2 h0 n0 _ T1.heap _ from (by rw [eh1]; exact ⟨(by simp [own_h4, hc81_2]), N1, rfl⟩)), ⟨_, rfl⟩, hW, hsame.mono (by decide) (by decide)⟩
theorem ef_rmh5 (m : MethodId) (x0 : Addr) (x1 : Int32) : entryFrame m #[(.ref x0), (.int x1)] 2 = mkF m 0 #[.val (.ref x0), .val (.int x1)] [] := by first | (simp [entryFrame, mkF, argsToLocals, Value.category]; done) | rfl
def Qrmh5 (Z : State) (a1 : Addr) (p2 : Int32) (h0 : Heap) (n0 : Nat) (v : Option Value) (h : Heap) (L : List Loc) : Prop := v = some (.int (own_h5 p2)) ∧ Fr n0 L ∧ h = h0
set_option maxRecDepth 65536 in
set_option maxHeartbeats 40000000 in
theorem rmh5 (l : Launch) (Z : State) (a0 : Array Value) (hw : ∀ d ∈ tables_1, d.before a0 Z = true) (ws : List Jvm.Cond) (a1 : Addr) (p2 : Int32) (h0 : Heap) (n0 : Nat) (Z0 : n0 ≤ h0.size) (O0 : Old Z n0 h0) (EZ_a1 : Exa Z Z.heap a1 "com/example/urd/urd/functions/ComparisonOperator") (Fld0_a1_ordinal : Fld Z Z.heap a1 "java/lang/Enum" "ordinal" "I" (.int (5 : Int32))) :
    MetFree l (⟨"com/example/urd/urd/functions/ComparisonOperator", "holds", "(I)Z"⟩ : MethodName) (head1 (Jvm.Cond.code (⟨"com/example/urd/urd/functions/ComparisonOperator", "holds", "(I)Z"⟩ : MethodName) prog_24_method_7_code 2 (some .boolean) :: ws) ({ frames := 1, cells := 0, slots := 0, locals := 12 } : Room)) (fun a U => a = #[(.ref a1), (.int p2)] ∧ Z.Warmed39 U.vm ∧ U.heap = h0) (fun _ _ _ _ _ => True) (fun _ U o U' => ∃ v L, o = .returned v ∧ Qrmh5 Z a1 p2 h0 n0 v U'.heap L ∧ FrameEnd U o U' L ({ frames := 1, cells := 0, slots := 0, locals := 12 } : Room).cells ({ frames := 1, cells := 0, slots := 0, locals := 12 } : Room).slots) := by
  refine MetFree.of_bodySF (plainFor_of_name pn_1) hisR ?_
  intro p e s m args below meth c s₁ Bd hml0 hP hK
  obtain ⟨rfl, hZ, hh⟩ := hP
  have hx := Bd.exec
  have hby := Bd.bytes
  have hml : c.maxLocals = 2 := hml0
  have hown : s.vm.findClass "com/example/urd/urd/functions/ComparisonOperator" = some m.cls := findClass_of_methodNamed Bd.named
  have hnm := (name_of_methodNamed Bd.named Bd.method).1
  have X0 : Stand p l e ({ frames := 1, cells := 0, slots := 0, locals := 12 } : Room) s m #[(.ref a1), (.int p2)] below meth c s₁ [] 0 0 := Stand.of_body Bd
  have e0 : s₁.heap = h0 := by rw [← hh, Bd.state]; rfl
  have N0 := Fr.nil n0
  refine own_go (b := (s₁.setTop (mkF m 0 #[.val (.ref a1), .val (.int p2)] []))) (fun _ k => castTop (ef_rmh5 m a1 p2) k) ?_
  refine own_go (b := (s₁.setTop (mkF m 1 #[.val (.ref a1), .val (.int p2)] [(.ref a1)]))) (fun _ k => XS.aloadN X0.here hx rfl (hb hby d1_0) rfl rfl k) ?_
  obtain ⟨cq1, kq1, q1a, q1b, q1c⟩ := isOf hZ e0 (EZ_a1.ext O0.2)
  obtain ⟨_, _, ⟨T1, L1, k1, n1⟩, -, X1, ⟨Lc1, hQ1, l1, y1, z1⟩, st1⟩ := X0.virtualBackUp hx (owner := "java/lang/Enum") (x := (⟨"com/example/urd/urd/functions/ComparisonOperator", "ordinal", "()I"⟩ : MethodName)) (y := (⟨"java/lang/Enum", "ordinal", "()I"⟩ : MethodName)) hown (mvT hZ (hw _ (List.mem_of_getElem? (i := 9) rfl))) (mvT hZ (hw _ (List.mem_of_getElem? (i := 10) rfl))) (mvT hZ (hw _ (List.mem_of_getElem? (i := 11) rfl))) (by decide) (mvT hZ (hw _ (List.mem_of_getElem? (i := 13) rfl))) (mvT hZ (hw _ (List.mem_of_getElem? (i := 12) rfl))) (backOf (W := 0) (rmord l Z a0 hw [] a1 (5 : Int32) h0 n0 Z0 O0 Fld0_a1_ordinal) hZ (hw _ (List.mem_of_getElem? (i := 15) rfl)) (hw _ (List.mem_of_getElem? (i := 14) rfl)) (by decide) (by decide)) q1a q1c (g := (mkF m 1 #[.val (.ref a1), .val (.int p2)] [(.ref a1)])) rfl (by rw [hml]; rfl) (Steps.refl _) (argsL := []) (rest := []) (lenOf pd___I rfl) rfl (by show 2 * 0 + _ ≤ _; exact Nat.le_of_eq rfl) (hb hby d1_1) (fun _ _ => ⟨rfl, e0, (by decide : 0 + 0 ≤ _), (by decide : 0 + 0 ≤ _)⟩)
  dsimp only [Pt.U, Pt.locs, Pt.cells, Pt.slots] at X1 l1 y1 z1 st1 hQ1
  subst l1 y1 z1
  obtain ⟨rfl, N1q, eh1⟩ := hQ1
  have N1 := Fr.app N0 N1q
  refine own_go (b := (T1.setTop (mkF m 91 #[.val (.ref a1), .val (.int p2)] [(.int p2)]))) (fun _ k => st1.trans (XS.tswOut X1.here hx rfl (pc0 := 4) (pc' := 90) rfl (hb hby d1_4) (i := (5 : Int32)) rfl (by decide) (by decide) (by decide) (XS.iloadN X1.here hx rfl (hb hby d1_90) rfl k))) ?_
  by_cases hc91_2 : p2 < (0 : Int32)
  · skip
    refine own_go (b := (T1.setTop (mkF m 99 #[.val (.ref a1), .val (.int p2)] [(.int (0 : Int32))]))) (fun _ k => XS.ifYes X1.here hx rfl (pc0 := 91) (pc' := 98) rfl (hb hby d1_91) rfl ((if0 _ _).trans (tlt hc91_2).1) (by decide) (by decide) (XS.iconst X1.here hx rfl (hb hby d1_98) k)) ?_
    obtain ⟨fs, hr, hrun, hended, hW, hsame⟩ := X1.leave (v := some (.int (0 : Int32))) (fun h => by rw [Bd.returns] at h; cases h)
    exact ⟨_, _, retN X1 hx (t := .boolean) Bd.returns (by simp) (hb hby d1_99) hr, hrun, hended, _, _, rfl, (show Qrmh5 Z a1 p2 h0 n0 _ T1.heap _ from (by rw [eh1]; exact ⟨(by simp [own_h5, hc91_2]), N1, rfl⟩)), ⟨_, rfl⟩, hW, hsame.mono (by decide) (by decide)⟩
  · skip
    refine own_go (b := (T1.setTop (mkF m 99 #[.val (.ref a1), .val (.int p2)] [(.int (1 : Int32))]))) (fun _ k => XS.ifNo X1.here hx rfl (hb hby d1_91) rfl ((if0 _ _).trans (flt hc91_2).1) (XS.iconst X1.here hx rfl (hb hby d1_94) (XS.goto X1.here hx rfl (pc0 := 95) (pc' := 99) rfl (hb hby d1_95) (by decide) (by decide) k))) ?_
    obtain ⟨fs, hr, hrun, hended, hW, hsame⟩ := X1.leave (v := some (.int (1 : Int32))) (fun h => by rw [Bd.returns] at h; cases h)
    exact ⟨_, _, retN X1 hx (t := .boolean) Bd.returns (by simp) (hb hby d1_99) hr, hrun, hended, _, _, rfl, (show Qrmh5 Z a1 p2 h0 n0 _ T1.heap _ from (by rw [eh1]; exact ⟨(by simp [own_h5, hc91_2]), N1, rfl⟩)), ⟨_, rfl⟩, hW, hsame.mono (by decide) (by decide)⟩
theorem pd__I_Z : parseMethodDescriptor "(I)Z" = some ⟨[.int], some .boolean⟩ := by decide +kernel
theorem pn_0 : plainName "com/example/urd/urd/functions/ComparisonOperatorHoldsPinLaw" = true := by first | (simp [plainName, overriddenIn]; done) | decide +kernel
theorem ef_rm0 (m : MethodId) (x0 : Int32) (x1 : Int32) (x2 : Int32) : entryFrame m #[(.int x0), (.int x1), (.int x2)] maxLocals = mkF m 0 #[.val (.int x0), .val (.int x1), .val (.int x2), .unset, .unset, .unset, .unset, .unset, .unset] [] := by first | (simp [entryFrame, mkF, argsToLocals, Value.category, maxLocals]; done) | rfl
def Qrm0 (Z : State) (p0 : Int32) (p1 : Int32) (p2 : Int32) (x_EQ : Addr) (x_NE : Addr) (x_LT : Addr) (x_LE : Addr) (x_GT : Addr) (x_GE : Addr) (h0 : Heap) (n0 : Nat) (v : Option Value) (h : Heap) (L : List Loc) : Prop := v = some (.int (1 : Int32)) ∧ Fr n0 L
set_option maxRecDepth 65536 in
set_option maxHeartbeats 40000000 in
theorem rm0 (l : Launch) (Z : State) (a0 : Array Value) (hw : ∀ d ∈ tables_1, d.before a0 Z = true) (ws : List Jvm.Cond) (p0 : Int32) (p1 : Int32) (p2 : Int32) (x_EQ : Addr) (x_NE : Addr) (x_LT : Addr) (x_LE : Addr) (x_GT : Addr) (x_GE : Addr) (h0 : Heap) (n0 : Nat) (Z0 : n0 ≤ h0.size) (O0 : Old Z n0 h0) (S_EQ : Sta Z Z.heap "com/example/urd/urd/functions/ComparisonOperator" "EQ" "Lcom/example/urd/urd/functions/ComparisonOperator;" (.ref x_EQ)) (S_NE : Sta Z Z.heap "com/example/urd/urd/functions/ComparisonOperator" "NE" "Lcom/example/urd/urd/functions/ComparisonOperator;" (.ref x_NE)) (S_LT : Sta Z Z.heap "com/example/urd/urd/functions/ComparisonOperator" "LT" "Lcom/example/urd/urd/functions/ComparisonOperator;" (.ref x_LT)) (S_LE : Sta Z Z.heap "com/example/urd/urd/functions/ComparisonOperator" "LE" "Lcom/example/urd/urd/functions/ComparisonOperator;" (.ref x_LE)) (S_GT : Sta Z Z.heap "com/example/urd/urd/functions/ComparisonOperator" "GT" "Lcom/example/urd/urd/functions/ComparisonOperator;" (.ref x_GT)) (S_GE : Sta Z Z.heap "com/example/urd/urd/functions/ComparisonOperator" "GE" "Lcom/example/urd/urd/functions/ComparisonOperator;" (.ref x_GE)) (EZ_x_EQ : Exa Z Z.heap x_EQ "com/example/urd/urd/functions/ComparisonOperator") (EZ_x_NE : Exa Z Z.heap x_NE "com/example/urd/urd/functions/ComparisonOperator") (EZ_x_LT : Exa Z Z.heap x_LT "com/example/urd/urd/functions/ComparisonOperator") (EZ_x_LE : Exa Z Z.heap x_LE "com/example/urd/urd/functions/ComparisonOperator") (EZ_x_GT : Exa Z Z.heap x_GT "com/example/urd/urd/functions/ComparisonOperator") (EZ_x_GE : Exa Z Z.heap x_GE "com/example/urd/urd/functions/ComparisonOperator") (Fld0_x_EQ_ordinal : Fld Z Z.heap x_EQ "java/lang/Enum" "ordinal" "I" (.int (0 : Int32))) (Fld0_x_NE_ordinal : Fld Z Z.heap x_NE "java/lang/Enum" "ordinal" "I" (.int (1 : Int32))) (Fld0_x_LT_ordinal : Fld Z Z.heap x_LT "java/lang/Enum" "ordinal" "I" (.int (2 : Int32))) (Fld0_x_LE_ordinal : Fld Z Z.heap x_LE "java/lang/Enum" "ordinal" "I" (.int (3 : Int32))) (Fld0_x_GT_ordinal : Fld Z Z.heap x_GT "java/lang/Enum" "ordinal" "I" (.int (4 : Int32))) (Fld0_x_GE_ordinal : Fld Z Z.heap x_GE "java/lang/Enum" "ordinal" "I" (.int (5 : Int32))) :
    MetFree l x (head1 (Jvm.Cond.code x code maxLocals ret :: ws) room_1) (fun a U => a = #[(.int p0), (.int p1), (.int p2)] ∧ Z.Warmed39 U.vm ∧ U.heap = h0) (fun _ _ _ _ _ => True) (fun _ U o U' => ∃ v L, o = .returned v ∧ Qrm0 Z p0 p1 p2 x_EQ x_NE x_LT x_LE x_GT x_GE h0 n0 v U'.heap L ∧ FrameEnd U o U' L room_1.cells room_1.slots) := by
  refine MetFree.of_bodySF (plainFor_of_name pn_0) hisR ?_
  intro p e s m args below meth c s₁ Bd hml0 hP hK
  obtain ⟨rfl, hZ, hh⟩ := hP
  have hx := Bd.exec
  have hby := Bd.bytes
  have hml : c.maxLocals = 9 := hml0
  have hown : s.vm.findClass "com/example/urd/urd/functions/ComparisonOperatorHoldsPinLaw" = some m.cls := findClass_of_methodNamed Bd.named
  have hnm := (name_of_methodNamed Bd.named Bd.method).1
  have X0 : Stand p l e room_1 s m #[(.int p0), (.int p1), (.int p2)] below meth c s₁ [] 0 0 := Stand.of_body Bd
  have e0 : s₁.heap = h0 := by rw [← hh, Bd.state]; rfl
  have N0 := Fr.nil n0
  refine own_go (b := (s₁.setTop (mkF m 0 #[.val (.int p0), .val (.int p1), .val (.int p2), .unset, .unset, .unset, .unset, .unset, .unset] []))) (fun _ k => castTop (ef_rm0 m p0 p1 p2) k) ?_
  refine own_join (A := Int32) (C := fun ord => True) (f := fun ord => (s₁.setTop (mkF m 13 #[.val (.int p0), .val (.int p1), .val (.int p2), .unset, .unset, .unset, .unset, .unset, .unset] [(.int ord)]))) ?_ ?_
  · intro ord hj1
    refine own_go (b := (s₁.setTop (mkF m 21 #[.val (.int p0), .val (.int p1), .val (.int p2), .val (.int ord), .unset, .unset, .unset, .unset, .unset] [(.int ((p0 &&& (2147483647 : Int32)) % (6 : Int32)))]))) (fun _ k => XS.istoreN X0.here hx rfl (hb hby at_13) rfl (l' := #[.val (.int p0), .val (.int p1), .val (.int p2), .val (.int ord), .unset, .unset, .unset, .unset, .unset]) rfl (XS.iloadN X0.here hx rfl (hb hby at_14) rfl (X0.ldcInt hx hown (mvT hZ (hw _ (List.mem_of_getElem? (i := 0) rfl))) (g := (mkF m 15 #[.val (.int p0), .val (.int p1), .val (.int p2), .val (.int ord), .unset, .unset, .unset, .unset, .unset] [(.int p0)])) rfl (hb hby at_15) _ (XS.iand X0.here hx rfl (hb hby at_17) rfl (XS.bipush X0.here hx rfl (hb hby at_18) (iremM (g := (mkF m 20 #[.val (.int p0), .val (.int p1), .val (.int p2), .val (.int ord), .unset, .unset, .unset, .unset, .unset] [(.int (6 : Int32)), (.int (p0 &&& (2147483647 : Int32)))])) X0 hx rfl (hb hby at_20) rfl (by decide) k)))))) ?_
    rcases own_mod6 p0 with hk | hk | hk | hk | hk | hk
    · rw [hk]
      refine own_go (b := (s₁.setTop (mkF m 28 #[.val (.int p0), .val (.int p1), .val (.int p2), .val (.int ord), .val (.int (0 : Int32)), .unset, .unset, .unset, .unset] []))) (fun _ k => XS.istore X0.here hx rfl (hb hby at_21) rfl (l' := #[.val (.int p0), .val (.int p1), .val (.int p2), .val (.int ord), .val (.int (0 : Int32)), .unset, .unset, .unset, .unset]) rfl (XS.iload X0.here hx rfl (hb hby at_23) rfl (XS.ifNo X0.here hx rfl (hb hby at_25) rfl ((if0 _ _).trans (teq (rfl : (0 : Int32) = (0 : Int32))).2) k))) ?_
      obtain ⟨T2, X2, e2, st2⟩ := getS2 X0 hx hZ hown (host := "") (Or.inl (hw _ (List.mem_of_getElem? (i := 1) rfl))) Via.refl e0 (S_EQ.ext O0.2) (g := (mkF m 28 #[.val (.int p0), .val (.int p1), .val (.int p2), .val (.int ord), .val (.int (0 : Int32)), .unset, .unset, .unset, .unset] [])) rfl (hb hby at_28)
      refine own_go (b := (T2.setTop (mkF m 117 #[.val (.int p0), .val (.int p1), .val (.int p2), .val (.int ord), .val (.int (0 : Int32)), .val (.ref x_EQ), .val (.int (2 : Int32)), .unset, .unset] [(.int ord)]))) (fun _ k => st2 _ (XS.astore X2.here hx rfl (hb hby at_31) rfl rfl (l' := #[.val (.int p0), .val (.int p1), .val (.int p2), .val (.int ord), .val (.int (0 : Int32)), .val (.ref x_EQ), .unset, .unset, .unset]) rfl (XS.iconst X2.here hx rfl (hb hby at_33) (XS.istore X2.here hx rfl (hb hby at_34) rfl (l' := #[.val (.int p0), .val (.int p1), .val (.int p2), .val (.int ord), .val (.int (0 : Int32)), .val (.ref x_EQ), .val (.int (2 : Int32)), .unset, .unset]) rfl (XS.goto X2.here hx rfl (pc0 := 36) (pc' := 116) rfl (hb hby at_36) (by decide) (by decide) (XS.iloadN X2.here hx rfl (hb hby at_116) rfl k)))))) ?_
      by_cases hc117_3 : ord < (0 : Int32)
      · skip
        refine own_go (b := (T2.setTop (mkF m 150 #[.val (.int p0), .val (.int p1), .val (.int p2), .val (.int ord), .val (.int (0 : Int32)), .val (.ref x_EQ), .val (.int (2 : Int32)), .val (.int (1 : Int32)), .val (.int (0 : Int32))] []))) (fun _ k => XS.ifNo X2.here hx rfl (hb hby at_117) rfl ((if0 _ _).trans (tlt hc117_3).2.1) (XS.iconst X2.here hx rfl (hb hby at_120) (XS.goto X2.here hx rfl (pc0 := 121) (pc' := 133) rfl (hb hby at_121) (by decide) (by decide) (XS.istore X2.here hx rfl (hb hby at_133) rfl (l' := #[.val (.int p0), .val (.int p1), .val (.int p2), .val (.int ord), .val (.int (0 : Int32)), .val (.ref x_EQ), .val (.int (2 : Int32)), .val (.int (1 : Int32)), .unset]) rfl (XS.iload X2.here hx rfl (hb hby at_135) rfl (XS.iload X2.here hx rfl (hb hby at_137) rfl (XS.iand X2.here hx rfl (hb hby at_139) rfl (XS.ifYes X2.here hx rfl (pc0 := 140) (pc' := 147) rfl (hb hby at_140) rfl ((if0 _ _).trans (teq (rfl : (0 : Int32) = (0 : Int32))).1) (by decide) (by decide) (XS.iconst X2.here hx rfl (hb hby at_147) (XS.istore X2.here hx rfl (hb hby at_148) rfl (l' := #[.val (.int p0), .val (.int p1), .val (.int p2), .val (.int ord), .val (.int (0 : Int32)), .val (.ref x_EQ), .val (.int (2 : Int32)), .val (.int (1 : Int32)), .val (.int (0 : Int32))]) rfl k)))))))))) ?_
        refine own_go (b := (T2.setTop (mkF m 153 #[.val (.int p0), .val (.int p1), .val (.int p2), .val (.int ord), .val (.int (0 : Int32)), .val (.ref x_EQ), .val (.int (2 : Int32)), .val (.int (1 : Int32)), .val (.int (0 : Int32))] [(.int ord), (.ref x_EQ)]))) (fun _ k => XS.aload X2.here hx rfl (hb hby at_150) rfl rfl (XS.iloadN X2.here hx rfl (hb hby at_152) rfl k)) ?_
        obtain ⟨cq4, kq4, q4a, q4b, q4c⟩ := isOf hZ e2 (EZ_x_EQ.ext O0.2)
        obtain ⟨_, _, ⟨T4, L4, k4, n4⟩, -, X4, ⟨Lc4, hQ4, l4, y4, z4⟩, st4⟩ := X2.virtualBack hx (y := (⟨"com/example/urd/urd/functions/ComparisonOperator", "holds", "(I)Z"⟩ : MethodName)) (z := (⟨"com/example/urd/urd/functions/ComparisonOperator", "holds", "(I)Z"⟩ : MethodName)) hown (mvT hZ (hw _ (List.mem_of_getElem? (i := 4) rfl))) (mvT hZ (hw _ (List.mem_of_getElem? (i := 5) rfl))) (notFace_of_selects (args := #[]) (mvT hZ (hw _ (List.mem_of_getElem? (i := 7) rfl)))) (mvT hZ (hw _ (List.mem_of_getElem? (i := 7) rfl))) (mvT hZ (hw _ (List.mem_of_getElem? (i := 6) rfl))) (by decide) (backOf (W := 0) (rmh0 l Z a0 hw [] x_EQ ord h0 n0 Z0 O0 EZ_x_EQ Fld0_x_EQ_ordinal) hZ (hw _ (List.mem_of_getElem? (i := 8) rfl)) (hw _ (List.mem_of_getElem? (i := 2) rfl)) (by decide) (by decide)) q4a q4c (g := (mkF m 153 #[.val (.int p0), .val (.int p1), .val (.int p2), .val (.int ord), .val (.int (0 : Int32)), .val (.ref x_EQ), .val (.int (2 : Int32)), .val (.int (1 : Int32)), .val (.int (0 : Int32))] [(.int ord), (.ref x_EQ)])) rfl (by rw [hml]; rfl) (Steps.refl _) (argsL := [(.int ord)]) (rest := []) (lenOf pd__I_Z rfl) rfl (by show 2 * 0 + _ ≤ _; exact Nat.le_of_eq rfl) (hb hby at_153) (fun _ _ => ⟨rfl, e2, (by decide : 0 + 0 ≤ _), (by decide : 0 + 0 ≤ _)⟩)
        dsimp only [Pt.U, Pt.locs, Pt.cells, Pt.slots] at X4 l4 y4 z4 st4 hQ4
        subst l4 y4 z4
        obtain ⟨rfl, N4q, eh4⟩ := hQ4
        have N4 := Fr.app N0 N4q
        refine own_go (b := (T4.setTop (mkF m 166 #[.val (.int p0), .val (.int p1), .val (.int p2), .val (.int ord), .val (.int (0 : Int32)), .val (.ref x_EQ), .val (.int (2 : Int32)), .val (.int (1 : Int32)), .val (.int (0 : Int32))] [(.int (1 : Int32))]))) (fun _ k => st4.trans (XS.iload X4.here hx rfl (hb hby at_156) rfl (XS.icmpNo X4.here hx rfl (hb hby at_158) rfl (teq (by simp [own_h0, hc117_3, (own_neg hc117_3).1, (own_neg hc117_3).2])).2 (XS.iconst X4.here hx rfl (hb hby at_161) (XS.goto X4.here hx rfl (pc0 := 162) (pc' := 166) rfl (hb hby at_162) (by decide) (by decide) k))))) ?_
        obtain ⟨fs, hr, hrun, hended, hW, hsame⟩ := X4.leave (v := some (.int (1 : Int32))) (fun h => by rw [Bd.returns] at h; cases h)
        exact ⟨_, _, retN X4 hx (t := .boolean) Bd.returns (by simp) (hb hby at_166) hr, hrun, hended, _, _, rfl, (show Qrm0 Z p0 p1 p2 x_EQ x_NE x_LT x_LE x_GT x_GE h0 n0 _ T4.heap _ from (by rw [eh4]; exact ⟨rfl, N4⟩)), ⟨_, rfl⟩, hW, hsame.mono (by decide) (by decide)⟩
      · skip
        refine own_go (b := (T2.setTop (mkF m 125 #[.val (.int p0), .val (.int p1), .val (.int p2), .val (.int ord), .val (.int (0 : Int32)), .val (.ref x_EQ), .val (.int (2 : Int32)), .unset, .unset] [(.int ord)]))) (fun _ k => XS.ifYes X2.here hx rfl (pc0 := 117) (pc' := 124) rfl (hb hby at_117) rfl ((if0 _ _).trans (flt hc117_3).2.1) (by decide) (by decide) (XS.iloadN X2.here hx rfl (hb hby at_124) rfl k)) ?_
        by_cases hc125_5 : ord = (0 : Int32)
        · skip
          refine own_go (b := (T2.setTop (mkF m 148 #[.val (.int p0), .val (.int p1), .val (.int p2), .val (.int ord), .val (.int (0 : Int32)), .val (.ref x_EQ), .val (.int (2 : Int32)), .val (.int (2 : Int32)), .unset] [(.int (1 : Int32))]))) (fun _ k => XS.ifNo X2.here hx rfl (hb hby at_125) rfl ((if0 _ _).trans (teq hc125_5).2) (XS.iconst X2.here hx rfl (hb hby at_128) (XS.goto X2.here hx rfl (pc0 := 129) (pc' := 133) rfl (hb hby at_129) (by decide) (by decide) (XS.istore X2.here hx rfl (hb hby at_133) rfl (l' := #[.val (.int p0), .val (.int p1), .val (.int p2), .val (.int ord), .val (.int (0 : Int32)), .val (.ref x_EQ), .val (.int (2 : Int32)), .val (.int (2 : Int32)), .unset]) rfl (XS.iload X2.here hx rfl (hb hby at_135) rfl (XS.iload X2.here hx rfl (hb hby at_137) rfl (XS.iand X2.here hx rfl (hb hby at_139) rfl (XS.ifNo X2.here hx rfl (hb hby at_140) rfl ((if0 _ _).trans (feq (by decide : ¬ ((2 : Int32) = (0 : Int32)))).1) (XS.iconst X2.here hx rfl (hb hby at_143) (XS.goto X2.here hx rfl (pc0 := 144) (pc' := 148) rfl (hb hby at_144) (by decide) (by decide) k)))))))))) ?_
          refine own_go (b := (T2.setTop (mkF m 153 #[.val (.int p0), .val (.int p1), .val (.int p2), .val (.int ord), .val (.int (0 : Int32)), .val (.ref x_EQ), .val (.int (2 : Int32)), .val (.int (2 : Int32)), .val (.int (1 : Int32))] [(.int ord), (.ref x_EQ)]))) (fun _ k => XS.istore X2.here hx rfl (hb hby at_148) rfl (l' := #[.val (.int p0), .val (.int p1), .val (.int p2), .val (.int ord), .val (.int (0 : Int32)), .val (.ref x_EQ), .val (.int (2 : Int32)), .val (.int (2 : Int32)), .val (.int (1 : Int32))]) rfl (XS.aload X2.here hx rfl (hb hby at_150) rfl rfl (XS.iloadN X2.here hx rfl (hb hby at_152) rfl k))) ?_
          obtain ⟨cq6, kq6, q6a, q6b, q6c⟩ := isOf hZ e2 (EZ_x_EQ.ext O0.2)
          obtain ⟨_, _, ⟨T6, L6, k6, n6⟩, -, X6, ⟨Lc6, hQ6, l6, y6, z6⟩, st6⟩ := X2.virtualBack hx (y := (⟨"com/example/urd/urd/functions/ComparisonOperator", "holds", "(I)Z"⟩ : MethodName)) (z := (⟨"com/example/urd/urd/functions/ComparisonOperator", "holds", "(I)Z"⟩ : MethodName)) hown (mvT hZ (hw _ (List.mem_of_getElem? (i := 4) rfl))) (mvT hZ (hw _ (List.mem_of_getElem? (i := 5) rfl))) (notFace_of_selects (args := #[]) (mvT hZ (hw _ (List.mem_of_getElem? (i := 7) rfl)))) (mvT hZ (hw _ (List.mem_of_getElem? (i := 7) rfl))) (mvT hZ (hw _ (List.mem_of_getElem? (i := 6) rfl))) (by decide) (backOf (W := 0) (rmh0 l Z a0 hw [] x_EQ ord h0 n0 Z0 O0 EZ_x_EQ Fld0_x_EQ_ordinal) hZ (hw _ (List.mem_of_getElem? (i := 8) rfl)) (hw _ (List.mem_of_getElem? (i := 2) rfl)) (by decide) (by decide)) q6a q6c (g := (mkF m 153 #[.val (.int p0), .val (.int p1), .val (.int p2), .val (.int ord), .val (.int (0 : Int32)), .val (.ref x_EQ), .val (.int (2 : Int32)), .val (.int (2 : Int32)), .val (.int (1 : Int32))] [(.int ord), (.ref x_EQ)])) rfl (by rw [hml]; rfl) (Steps.refl _) (argsL := [(.int ord)]) (rest := []) (lenOf pd__I_Z rfl) rfl (by show 2 * 0 + _ ≤ _; exact Nat.le_of_eq rfl) (hb hby at_153) (fun _ _ => ⟨rfl, e2, (by decide : 0 + 0 ≤ _), (by decide : 0 + 0 ≤ _)⟩)
          dsimp only [Pt.U, Pt.locs, Pt.cells, Pt.slots] at X6 l6 y6 z6 st6 hQ6
          subst l6 y6 z6
          obtain ⟨rfl, N6q, eh6⟩ := hQ6
          have N6 := Fr.app N0 N6q
          refine own_go (b := (T6.setTop (mkF m 166 #[.val (.int p0), .val (.int p1), .val (.int p2), .val (.int ord), .val (.int (0 : Int32)), .val (.ref x_EQ), .val (.int (2 : Int32)), .val (.int (2 : Int32)), .val (.int (1 : Int32))] [(.int (1 : Int32))]))) (fun _ k => st6.trans (XS.iload X6.here hx rfl (hb hby at_156) rfl (XS.icmpNo X6.here hx rfl (hb hby at_158) rfl (teq (by simp [own_h0, hc125_5])).2 (XS.iconst X6.here hx rfl (hb hby at_161) (XS.goto X6.here hx rfl (pc0 := 162) (pc' := 166) rfl (hb hby at_162) (by decide) (by decide) k))))) ?_
          obtain ⟨fs, hr, hrun, hended, hW, hsame⟩ := X6.leave (v := some (.int (1 : Int32))) (fun h => by rw [Bd.returns] at h; cases h)
          exact ⟨_, _, retN X6 hx (t := .boolean) Bd.returns (by simp) (hb hby at_166) hr, hrun, hended, _, _, rfl, (show Qrm0 Z p0 p1 p2 x_EQ x_NE x_LT x_LE x_GT x_GE h0 n0 _ T6.heap _ from (by rw [eh6]; exact ⟨rfl, N6⟩)), ⟨_, rfl⟩, hW, hsame.mono (by decide) (by decide)⟩
        · skip
          refine own_go (b := (T2.setTop (mkF m 152 #[.val (.int p0), .val (.int p1), .val (.int p2), .val (.int ord), .val (.int (0 : Int32)), .val (.ref x_EQ), .val (.int (2 : Int32)), .val (.int (4 : Int32)), .val (.int (0 : Int32))] [(.ref x_EQ)]))) (fun _ k => XS.ifYes X2.here hx rfl (pc0 := 125) (pc' := 132) rfl (hb hby at_125) rfl ((if0 _ _).trans (feq hc125_5).2) (by decide) (by decide) (XS.iconst X2.here hx rfl (hb hby at_132) (XS.istore X2.here hx rfl (hb hby at_133) rfl (l' := #[.val (.int p0), .val (.int p1), .val (.int p2), .val (.int ord), .val (.int (0 : Int32)), .val (.ref x_EQ), .val (.int (2 : Int32)), .val (.int (4 : Int32)), .unset]) rfl (XS.iload X2.here hx rfl (hb hby at_135) rfl (XS.iload X2.here hx rfl (hb hby at_137) rfl (XS.iand X2.here hx rfl (hb hby at_139) rfl (XS.ifYes X2.here hx rfl (pc0 := 140) (pc' := 147) rfl (hb hby at_140) rfl ((if0 _ _).trans (teq (rfl : (0 : Int32) = (0 : Int32))).1) (by decide) (by decide) (XS.iconst X2.here hx rfl (hb hby at_147) (XS.istore X2.here hx rfl (hb hby at_148) rfl (l' := #[.val (.int p0), .val (.int p1), .val (.int p2), .val (.int ord), .val (.int (0 : Int32)), .val (.ref x_EQ), .val (.int (2 : Int32)), .val (.int (4 : Int32)), .val (.int (0 : Int32))]) rfl (XS.aload X2.here hx rfl (hb hby at_150) rfl rfl k)))))))))) ?_
          refine own_go (b := (T2.setTop (mkF m 153 #[.val (.int p0), .val (.int p1), .val (.int p2), .val (.int ord), .val (.int (0 : Int32)), .val (.ref x_EQ), .val (.int (2 : Int32)), .val (.int (4 : Int32)), .val (.int (0 : Int32))] [(.int ord), (.ref x_EQ)]))) (fun _ k => XS.iloadN X2.here hx rfl (hb hby at_152) rfl k) ?_
          obtain ⟨cq7, kq7, q7a, q7b, q7c⟩ := isOf hZ e2 (EZ_x_EQ.ext O0.2)
          obtain ⟨_, _, ⟨T7, L7, k7, n7⟩, -, X7, ⟨Lc7, hQ7, l7, y7, z7⟩, st7⟩ := X2.virtualBack hx (y := (⟨"com/example/urd/urd/functions/ComparisonOperator", "holds", "(I)Z"⟩ : MethodName)) (z := (⟨"com/example/urd/urd/functions/ComparisonOperator", "holds", "(I)Z"⟩ : MethodName)) hown (mvT hZ (hw _ (List.mem_of_getElem? (i := 4) rfl))) (mvT hZ (hw _ (List.mem_of_getElem? (i := 5) rfl))) (notFace_of_selects (args := #[]) (mvT hZ (hw _ (List.mem_of_getElem? (i := 7) rfl)))) (mvT hZ (hw _ (List.mem_of_getElem? (i := 7) rfl))) (mvT hZ (hw _ (List.mem_of_getElem? (i := 6) rfl))) (by decide) (backOf (W := 0) (rmh0 l Z a0 hw [] x_EQ ord h0 n0 Z0 O0 EZ_x_EQ Fld0_x_EQ_ordinal) hZ (hw _ (List.mem_of_getElem? (i := 8) rfl)) (hw _ (List.mem_of_getElem? (i := 2) rfl)) (by decide) (by decide)) q7a q7c (g := (mkF m 153 #[.val (.int p0), .val (.int p1), .val (.int p2), .val (.int ord), .val (.int (0 : Int32)), .val (.ref x_EQ), .val (.int (2 : Int32)), .val (.int (4 : Int32)), .val (.int (0 : Int32))] [(.int ord), (.ref x_EQ)])) rfl (by rw [hml]; rfl) (Steps.refl _) (argsL := [(.int ord)]) (rest := []) (lenOf pd__I_Z rfl) rfl (by show 2 * 0 + _ ≤ _; exact Nat.le_of_eq rfl) (hb hby at_153) (fun _ _ => ⟨rfl, e2, (by decide : 0 + 0 ≤ _), (by decide : 0 + 0 ≤ _)⟩)
          dsimp only [Pt.U, Pt.locs, Pt.cells, Pt.slots] at X7 l7 y7 z7 st7 hQ7
          subst l7 y7 z7
          obtain ⟨rfl, N7q, eh7⟩ := hQ7
          have N7 := Fr.app N0 N7q
          refine own_go (b := (T7.setTop (mkF m 166 #[.val (.int p0), .val (.int p1), .val (.int p2), .val (.int ord), .val (.int (0 : Int32)), .val (.ref x_EQ), .val (.int (2 : Int32)), .val (.int (4 : Int32)), .val (.int (0 : Int32))] [(.int (1 : Int32))]))) (fun _ k => st7.trans (XS.iload X7.here hx rfl (hb hby at_156) rfl (XS.icmpNo X7.here hx rfl (hb hby at_158) rfl (teq (by simp [own_h0, hc117_3, hc125_5, own_pos hc117_3 hc125_5])).2 (XS.iconst X7.here hx rfl (hb hby at_161) (XS.goto X7.here hx rfl (pc0 := 162) (pc' := 166) rfl (hb hby at_162) (by decide) (by decide) k))))) ?_
          obtain ⟨fs, hr, hrun, hended, hW, hsame⟩ := X7.leave (v := some (.int (1 : Int32))) (fun h => by rw [Bd.returns] at h; cases h)
          exact ⟨_, _, retN X7 hx (t := .boolean) Bd.returns (by simp) (hb hby at_166) hr, hrun, hended, _, _, rfl, (show Qrm0 Z p0 p1 p2 x_EQ x_NE x_LT x_LE x_GT x_GE h0 n0 _ T7.heap _ from (by rw [eh7]; exact ⟨rfl, N7⟩)), ⟨_, rfl⟩, hW, hsame.mono (by decide) (by decide)⟩
    · rw [hk]
      refine own_go (b := (s₁.setTop (mkF m 45 #[.val (.int p0), .val (.int p1), .val (.int p2), .val (.int ord), .val (.int (1 : Int32)), .unset, .unset, .unset, .unset] []))) (fun _ k => XS.istore X0.here hx rfl (hb hby at_21) rfl (l' := #[.val (.int p0), .val (.int p1), .val (.int p2), .val (.int ord), .val (.int (1 : Int32)), .unset, .unset, .unset, .unset]) rfl (XS.iload X0.here hx rfl (hb hby at_23) rfl (XS.ifYes X0.here hx rfl (pc0 := 25) (pc' := 39) rfl (hb hby at_25) rfl ((if0 _ _).trans (feq (by decide : ¬ ((1 : Int32) = (0 : Int32)))).2) (by decide) (by decide) (XS.iload X0.here hx rfl (hb hby at_39) rfl (XS.iconst X0.here hx rfl (hb hby at_41) (XS.icmpNo X0.here hx rfl (hb hby at_42) rfl (teq (rfl : (1 : Int32) = (1 : Int32))).2 k)))))) ?_
      obtain ⟨T8, X8, e8, st8⟩ := getS2 X0 hx hZ hown (host := "") (Or.inl (hw _ (List.mem_of_getElem? (i := 18) rfl))) Via.refl e0 (S_NE.ext O0.2) (g := (mkF m 45 #[.val (.int p0), .val (.int p1), .val (.int p2), .val (.int ord), .val (.int (1 : Int32)), .unset, .unset, .unset, .unset] [])) rfl (hb hby at_45)
      refine own_go (b := (T8.setTop (mkF m 117 #[.val (.int p0), .val (.int p1), .val (.int p2), .val (.int ord), .val (.int (1 : Int32)), .val (.ref x_NE), .val (.int (5 : Int32)), .unset, .unset] [(.int ord)]))) (fun _ k => st8 _ (XS.astore X8.here hx rfl (hb hby at_48) rfl rfl (l' := #[.val (.int p0), .val (.int p1), .val (.int p2), .val (.int ord), .val (.int (1 : Int32)), .val (.ref x_NE), .unset, .unset, .unset]) rfl (XS.iconst X8.here hx rfl (hb hby at_50) (XS.istore X8.here hx rfl (hb hby at_51) rfl (l' := #[.val (.int p0), .val (.int p1), .val (.int p2), .val (.int ord), .val (.int (1 : Int32)), .val (.ref x_NE), .val (.int (5 : Int32)), .unset, .unset]) rfl (XS.goto X8.here hx rfl (pc0 := 53) (pc' := 116) rfl (hb hby at_53) (by decide) (by decide) (XS.iloadN X8.here hx rfl (hb hby at_116) rfl k)))))) ?_
      by_cases hc117_9 : ord < (0 : Int32)
      · skip
        refine own_go (b := (T8.setTop (mkF m 148 #[.val (.int p0), .val (.int p1), .val (.int p2), .val (.int ord), .val (.int (1 : Int32)), .val (.ref x_NE), .val (.int (5 : Int32)), .val (.int (1 : Int32)), .unset] [(.int (1 : Int32))]))) (fun _ k => XS.ifNo X8.here hx rfl (hb hby at_117) rfl ((if0 _ _).trans (tlt hc117_9).2.1) (XS.iconst X8.here hx rfl (hb hby at_120) (XS.goto X8.here hx rfl (pc0 := 121) (pc' := 133) rfl (hb hby at_121) (by decide) (by decide) (XS.istore X8.here hx rfl (hb hby at_133) rfl (l' := #[.val (.int p0), .val (.int p1), .val (.int p2), .val (.int ord), .val (.int (1 : Int32)), .val (.ref x_NE), .val (.int (5 : Int32)), .val (.int (1 : Int32)), .unset]) rfl (XS.iload X8.here hx rfl (hb hby at_135) rfl (XS.iload X8.here hx rfl (hb hby at_137) rfl (XS.iand X8.here hx rfl (hb hby at_139) rfl (XS.ifNo X8.here hx rfl (hb hby at_140) rfl ((if0 _ _).trans (feq (by decide : ¬ ((1 : Int32) = (0 : Int32)))).1) (XS.iconst X8.here hx rfl (hb hby at_143) (XS.goto X8.here hx rfl (pc0 := 144) (pc' := 148) rfl (hb hby at_144) (by decide) (by decide) k)))))))))) ?_
        refine own_go (b := (T8.setTop (mkF m 153 #[.val (.int p0), .val (.int p1), .val (.int p2), .val (.int ord), .val (.int (1 : Int32)), .val (.ref x_NE), .val (.int (5 : Int32)), .val (.int (1 : Int32)), .val (.int (1 : Int32))] [(.int ord), (.ref x_NE)]))) (fun _ k => XS.istore X8.here hx rfl (hb hby at_148) rfl (l' := #[.val (.int p0), .val (.int p1), .val (.int p2), .val (.int ord), .val (.int (1 : Int32)), .val (.ref x_NE), .val (.int (5 : Int32)), .val (.int (1 : Int32)), .val (.int (1 : Int32))]) rfl (XS.aload X8.here hx rfl (hb hby at_150) rfl rfl (XS.iloadN X8.here hx rfl (hb hby at_152) rfl k))) ?_
        obtain ⟨cq10, kq10, q10a, q10b, q10c⟩ := isOf hZ e8 (EZ_x_NE.ext O0.2)
        obtain ⟨_, _, ⟨T10, L10, k10, n10⟩, -, X10, ⟨Lc10, hQ10, l10, y10, z10⟩, st10⟩ := X8.virtualBack hx (y := (⟨"com/example/urd/urd/functions/ComparisonOperator", "holds", "(I)Z"⟩ : MethodName)) (z := (⟨"com/example/urd/urd/functions/ComparisonOperator", "holds", "(I)Z"⟩ : MethodName)) hown (mvT hZ (hw _ (List.mem_of_getElem? (i := 4) rfl))) (mvT hZ (hw _ (List.mem_of_getElem? (i := 5) rfl))) (notFace_of_selects (args := #[]) (mvT hZ (hw _ (List.mem_of_getElem? (i := 7) rfl)))) (mvT hZ (hw _ (List.mem_of_getElem? (i := 7) rfl))) (mvT hZ (hw _ (List.mem_of_getElem? (i := 6) rfl))) (by decide) (backOf (W := 0) (rmh1 l Z a0 hw [] x_NE ord h0 n0 Z0 O0 EZ_x_NE Fld0_x_NE_ordinal) hZ (hw _ (List.mem_of_getElem? (i := 8) rfl)) (hw _ (List.mem_of_getElem? (i := 2) rfl)) (by decide) (by decide)) q10a q10c (g := (mkF m 153 #[.val (.int p0), .val (.int p1), .val (.int p2), .val (.int ord), .val (.int (1 : Int32)), .val (.ref x_NE), .val (.int (5 : Int32)), .val (.int (1 : Int32)), .val (.int (1 : Int32))] [(.int ord), (.ref x_NE)])) rfl (by rw [hml]; rfl) (Steps.refl _) (argsL := [(.int ord)]) (rest := []) (lenOf pd__I_Z rfl) rfl (by show 2 * 0 + _ ≤ _; exact Nat.le_of_eq rfl) (hb hby at_153) (fun _ _ => ⟨rfl, e8, (by decide : 0 + 0 ≤ _), (by decide : 0 + 0 ≤ _)⟩)
        dsimp only [Pt.U, Pt.locs, Pt.cells, Pt.slots] at X10 l10 y10 z10 st10 hQ10
        subst l10 y10 z10
        obtain ⟨rfl, N10q, eh10⟩ := hQ10
        have N10 := Fr.app N0 N10q
        refine own_go (b := (T10.setTop (mkF m 166 #[.val (.int p0), .val (.int p1), .val (.int p2), .val (.int ord), .val (.int (1 : Int32)), .val (.ref x_NE), .val (.int (5 : Int32)), .val (.int (1 : Int32)), .val (.int (1 : Int32))] [(.int (1 : Int32))]))) (fun _ k => st10.trans (XS.iload X10.here hx rfl (hb hby at_156) rfl (XS.icmpNo X10.here hx rfl (hb hby at_158) rfl (teq (by simp [own_h1, hc117_9, (own_neg hc117_9).1, (own_neg hc117_9).2])).2 (XS.iconst X10.here hx rfl (hb hby at_161) (XS.goto X10.here hx rfl (pc0 := 162) (pc' := 166) rfl (hb hby at_162) (by decide) (by decide) k))))) ?_
        obtain ⟨fs, hr, hrun, hended, hW, hsame⟩ := X10.leave (v := some (.int (1 : Int32))) (fun h => by rw [Bd.returns] at h; cases h)
        exact ⟨_, _, retN X10 hx (t := .boolean) Bd.returns (by simp) (hb hby at_166) hr, hrun, hended, _, _, rfl, (show Qrm0 Z p0 p1 p2 x_EQ x_NE x_LT x_LE x_GT x_GE h0 n0 _ T10.heap _ from (by rw [eh10]; exact ⟨rfl, N10⟩)), ⟨_, rfl⟩, hW, hsame.mono (by decide) (by decide)⟩
      · skip
        refine own_go (b := (T8.setTop (mkF m 125 #[.val (.int p0), .val (.int p1), .val (.int p2), .val (.int ord), .val (.int (1 : Int32)), .val (.ref x_NE), .val (.int (5 : Int32)), .unset, .unset] [(.int ord)]))) (fun _ k => XS.ifYes X8.here hx rfl (pc0 := 117) (pc' := 124) rfl (hb hby at_117) rfl ((if0 _ _).trans (flt hc117_9).2.1) (by decide) (by decide) (XS.iloadN X8.here hx rfl (hb hby at_124) rfl k)) ?_
        by_cases hc125_11 : ord = (0 : Int32)
        · skip
          refine own_go (b := (T8.setTop (mkF m 150 #[.val (.int p0), .val (.int p1), .val (.int p2), .val (.int ord), .val (.int (1 : Int32)), .val (.ref x_NE), .val (.int (5 : Int32)), .val (.int (2 : Int32)), .val (.int (0 : Int32))] []))) (fun _ k => XS.ifNo X8.here hx rfl (hb hby at_125) rfl ((if0 _ _).trans (teq hc125_11).2) (XS.iconst X8.here hx rfl (hb hby at_128) (XS.goto X8.here hx rfl (pc0 := 129) (pc' := 133) rfl (hb hby at_129) (by decide) (by decide) (XS.istore X8.here hx rfl (hb hby at_133) rfl (l' := #[.val (.int p0), .val (.int p1), .val (.int p2), .val (.int ord), .val (.int (1 : Int32)), .val (.ref x_NE), .val (.int (5 : Int32)), .val (.int (2 : Int32)), .unset]) rfl (XS.iload X8.here hx rfl (hb hby at_135) rfl (XS.iload X8.here hx rfl (hb hby at_137) rfl (XS.iand X8.here hx rfl (hb hby at_139) rfl (XS.ifYes X8.here hx rfl (pc0 := 140) (pc' := 147) rfl (hb hby at_140) rfl ((if0 _ _).trans (teq (rfl : (0 : Int32) = (0 : Int32))).1) (by decide) (by decide) (XS.iconst X8.here hx rfl (hb hby at_147) (XS.istore X8.here hx rfl (hb hby at_148) rfl (l' := #[.val (.int p0), .val (.int p1), .val (.int p2), .val (.int ord), .val (.int (1 : Int32)), .val (.ref x_NE), .val (.int (5 : Int32)), .val (.int (2 : Int32)), .val (.int (0 : Int32))]) rfl k)))))))))) ?_
          refine own_go (b := (T8.setTop (mkF m 153 #[.val (.int p0), .val (.int p1), .val (.int p2), .val (.int ord), .val (.int (1 : Int32)), .val (.ref x_NE), .val (.int (5 : Int32)), .val (.int (2 : Int32)), .val (.int (0 : Int32))] [(.int ord), (.ref x_NE)]))) (fun _ k => XS.aload X8.here hx rfl (hb hby at_150) rfl rfl (XS.iloadN X8.here hx rfl (hb hby at_152) rfl k)) ?_
          obtain ⟨cq12, kq12, q12a, q12b, q12c⟩ := isOf hZ e8 (EZ_x_NE.ext O0.2)
          obtain ⟨_, _, ⟨T12, L12, k12, n12⟩, -, X12, ⟨Lc12, hQ12, l12, y12, z12⟩, st12⟩ := X8.virtualBack hx (y := (⟨"com/example/urd/urd/functions/ComparisonOperator", "holds", "(I)Z"⟩ : MethodName)) (z := (⟨"com/example/urd/urd/functions/ComparisonOperator", "holds", "(I)Z"⟩ : MethodName)) hown (mvT hZ (hw _ (List.mem_of_getElem? (i := 4) rfl))) (mvT hZ (hw _ (List.mem_of_getElem? (i := 5) rfl))) (notFace_of_selects (args := #[]) (mvT hZ (hw _ (List.mem_of_getElem? (i := 7) rfl)))) (mvT hZ (hw _ (List.mem_of_getElem? (i := 7) rfl))) (mvT hZ (hw _ (List.mem_of_getElem? (i := 6) rfl))) (by decide) (backOf (W := 0) (rmh1 l Z a0 hw [] x_NE ord h0 n0 Z0 O0 EZ_x_NE Fld0_x_NE_ordinal) hZ (hw _ (List.mem_of_getElem? (i := 8) rfl)) (hw _ (List.mem_of_getElem? (i := 2) rfl)) (by decide) (by decide)) q12a q12c (g := (mkF m 153 #[.val (.int p0), .val (.int p1), .val (.int p2), .val (.int ord), .val (.int (1 : Int32)), .val (.ref x_NE), .val (.int (5 : Int32)), .val (.int (2 : Int32)), .val (.int (0 : Int32))] [(.int ord), (.ref x_NE)])) rfl (by rw [hml]; rfl) (Steps.refl _) (argsL := [(.int ord)]) (rest := []) (lenOf pd__I_Z rfl) rfl (by show 2 * 0 + _ ≤ _; exact Nat.le_of_eq rfl) (hb hby at_153) (fun _ _ => ⟨rfl, e8, (by decide : 0 + 0 ≤ _), (by decide : 0 + 0 ≤ _)⟩)
          dsimp only [Pt.U, Pt.locs, Pt.cells, Pt.slots] at X12 l12 y12 z12 st12 hQ12
          subst l12 y12 z12
          obtain ⟨rfl, N12q, eh12⟩ := hQ12
          have N12 := Fr.app N0 N12q
          refine own_go (b := (T12.setTop (mkF m 166 #[.val (.int p0), .val (.int p1), .val (.int p2), .val (.int ord), .val (.int (1 : Int32)), .val (.ref x_NE), .val (.int (5 : Int32)), .val (.int (2 : Int32)), .val (.int (0 : Int32))] [(.int (1 : Int32))]))) (fun _ k => st12.trans (XS.iload X12.here hx rfl (hb hby at_156) rfl (XS.icmpNo X12.here hx rfl (hb hby at_158) rfl (teq (by simp [own_h1, hc125_11])).2 (XS.iconst X12.here hx rfl (hb hby at_161) (XS.goto X12.here hx rfl (pc0 := 162) (pc' := 166) rfl (hb hby at_162) (by decide) (by decide) k))))) ?_
          obtain ⟨fs, hr, hrun, hended, hW, hsame⟩ := X12.leave (v := some (.int (1 : Int32))) (fun h => by rw [Bd.returns] at h; cases h)
          exact ⟨_, _, retN X12 hx (t := .boolean) Bd.returns (by simp) (hb hby at_166) hr, hrun, hended, _, _, rfl, (show Qrm0 Z p0 p1 p2 x_EQ x_NE x_LT x_LE x_GT x_GE h0 n0 _ T12.heap _ from (by rw [eh12]; exact ⟨rfl, N12⟩)), ⟨_, rfl⟩, hW, hsame.mono (by decide) (by decide)⟩
        · skip
          refine own_go (b := (T8.setTop (mkF m 150 #[.val (.int p0), .val (.int p1), .val (.int p2), .val (.int ord), .val (.int (1 : Int32)), .val (.ref x_NE), .val (.int (5 : Int32)), .val (.int (4 : Int32)), .val (.int (1 : Int32))] []))) (fun _ k => XS.ifYes X8.here hx rfl (pc0 := 125) (pc' := 132) rfl (hb hby at_125) rfl ((if0 _ _).trans (feq hc125_11).2) (by decide) (by decide) (XS.iconst X8.here hx rfl (hb hby at_132) (XS.istore X8.here hx rfl (hb hby at_133) rfl (l' := #[.val (.int p0), .val (.int p1), .val (.int p2), .val (.int ord), .val (.int (1 : Int32)), .val (.ref x_NE), .val (.int (5 : Int32)), .val (.int (4 : Int32)), .unset]) rfl (XS.iload X8.here hx rfl (hb hby at_135) rfl (XS.iload X8.here hx rfl (hb hby at_137) rfl (XS.iand X8.here hx rfl (hb hby at_139) rfl (XS.ifNo X8.here hx rfl (hb hby at_140) rfl ((if0 _ _).trans (feq (by decide : ¬ ((4 : Int32) = (0 : Int32)))).1) (XS.iconst X8.here hx rfl (hb hby at_143) (XS.goto X8.here hx rfl (pc0 := 144) (pc' := 148) rfl (hb hby at_144) (by decide) (by decide) (XS.istore X8.here hx rfl (hb hby at_148) rfl (l' := #[.val (.int p0), .val (.int p1), .val (.int p2), .val (.int ord), .val (.int (1 : Int32)), .val (.ref x_NE), .val (.int (5 : Int32)), .val (.int (4 : Int32)), .val (.int (1 : Int32))]) rfl k)))))))))) ?_
          refine own_go (b := (T8.setTop (mkF m 153 #[.val (.int p0), .val (.int p1), .val (.int p2), .val (.int ord), .val (.int (1 : Int32)), .val (.ref x_NE), .val (.int (5 : Int32)), .val (.int (4 : Int32)), .val (.int (1 : Int32))] [(.int ord), (.ref x_NE)]))) (fun _ k => XS.aload X8.here hx rfl (hb hby at_150) rfl rfl (XS.iloadN X8.here hx rfl (hb hby at_152) rfl k)) ?_
          obtain ⟨cq13, kq13, q13a, q13b, q13c⟩ := isOf hZ e8 (EZ_x_NE.ext O0.2)
          obtain ⟨_, _, ⟨T13, L13, k13, n13⟩, -, X13, ⟨Lc13, hQ13, l13, y13, z13⟩, st13⟩ := X8.virtualBack hx (y := (⟨"com/example/urd/urd/functions/ComparisonOperator", "holds", "(I)Z"⟩ : MethodName)) (z := (⟨"com/example/urd/urd/functions/ComparisonOperator", "holds", "(I)Z"⟩ : MethodName)) hown (mvT hZ (hw _ (List.mem_of_getElem? (i := 4) rfl))) (mvT hZ (hw _ (List.mem_of_getElem? (i := 5) rfl))) (notFace_of_selects (args := #[]) (mvT hZ (hw _ (List.mem_of_getElem? (i := 7) rfl)))) (mvT hZ (hw _ (List.mem_of_getElem? (i := 7) rfl))) (mvT hZ (hw _ (List.mem_of_getElem? (i := 6) rfl))) (by decide) (backOf (W := 0) (rmh1 l Z a0 hw [] x_NE ord h0 n0 Z0 O0 EZ_x_NE Fld0_x_NE_ordinal) hZ (hw _ (List.mem_of_getElem? (i := 8) rfl)) (hw _ (List.mem_of_getElem? (i := 2) rfl)) (by decide) (by decide)) q13a q13c (g := (mkF m 153 #[.val (.int p0), .val (.int p1), .val (.int p2), .val (.int ord), .val (.int (1 : Int32)), .val (.ref x_NE), .val (.int (5 : Int32)), .val (.int (4 : Int32)), .val (.int (1 : Int32))] [(.int ord), (.ref x_NE)])) rfl (by rw [hml]; rfl) (Steps.refl _) (argsL := [(.int ord)]) (rest := []) (lenOf pd__I_Z rfl) rfl (by show 2 * 0 + _ ≤ _; exact Nat.le_of_eq rfl) (hb hby at_153) (fun _ _ => ⟨rfl, e8, (by decide : 0 + 0 ≤ _), (by decide : 0 + 0 ≤ _)⟩)
          dsimp only [Pt.U, Pt.locs, Pt.cells, Pt.slots] at X13 l13 y13 z13 st13 hQ13
          subst l13 y13 z13
          obtain ⟨rfl, N13q, eh13⟩ := hQ13
          have N13 := Fr.app N0 N13q
          refine own_go (b := (T13.setTop (mkF m 166 #[.val (.int p0), .val (.int p1), .val (.int p2), .val (.int ord), .val (.int (1 : Int32)), .val (.ref x_NE), .val (.int (5 : Int32)), .val (.int (4 : Int32)), .val (.int (1 : Int32))] [(.int (1 : Int32))]))) (fun _ k => st13.trans (XS.iload X13.here hx rfl (hb hby at_156) rfl (XS.icmpNo X13.here hx rfl (hb hby at_158) rfl (teq (by simp [own_h1, hc117_9, hc125_11, own_pos hc117_9 hc125_11])).2 (XS.iconst X13.here hx rfl (hb hby at_161) (XS.goto X13.here hx rfl (pc0 := 162) (pc' := 166) rfl (hb hby at_162) (by decide) (by decide) k))))) ?_
          obtain ⟨fs, hr, hrun, hended, hW, hsame⟩ := X13.leave (v := some (.int (1 : Int32))) (fun h => by rw [Bd.returns] at h; cases h)
          exact ⟨_, _, retN X13 hx (t := .boolean) Bd.returns (by simp) (hb hby at_166) hr, hrun, hended, _, _, rfl, (show Qrm0 Z p0 p1 p2 x_EQ x_NE x_LT x_LE x_GT x_GE h0 n0 _ T13.heap _ from (by rw [eh13]; exact ⟨rfl, N13⟩)), ⟨_, rfl⟩, hW, hsame.mono (by decide) (by decide)⟩
    · rw [hk]
      refine own_go (b := (s₁.setTop (mkF m 62 #[.val (.int p0), .val (.int p1), .val (.int p2), .val (.int ord), .val (.int (2 : Int32)), .unset, .unset, .unset, .unset] []))) (fun _ k => XS.istore X0.here hx rfl (hb hby at_21) rfl (l' := #[.val (.int p0), .val (.int p1), .val (.int p2), .val (.int ord), .val (.int (2 : Int32)), .unset, .unset, .unset, .unset]) rfl (XS.iload X0.here hx rfl (hb hby at_23) rfl (XS.ifYes X0.here hx rfl (pc0 := 25) (pc' := 39) rfl (hb hby at_25) rfl ((if0 _ _).trans (feq (by decide : ¬ ((2 : Int32) = (0 : Int32)))).2) (by decide) (by decide) (XS.iload X0.here hx rfl (hb hby at_39) rfl (XS.iconst X0.here hx rfl (hb hby at_41) (XS.icmpYes X0.here hx rfl (pc0 := 42) (pc' := 56) rfl (hb hby at_42) rfl (feq (by decide : ¬ ((2 : Int32) = (1 : Int32)))).2 (by decide) (by decide) (XS.iload X0.here hx rfl (hb hby at_56) rfl (XS.iconst X0.here hx rfl (hb hby at_58) (XS.icmpNo X0.here hx rfl (hb hby at_59) rfl (teq (rfl : (2 : Int32) = (2 : Int32))).2 k))))))))) ?_
      obtain ⟨T14, X14, e14, st14⟩ := getS2 X0 hx hZ hown (host := "") (Or.inl (hw _ (List.mem_of_getElem? (i := 20) rfl))) Via.refl e0 (S_LT.ext O0.2) (g := (mkF m 62 #[.val (.int p0), .val (.int p1), .val (.int p2), .val (.int ord), .val (.int (2 : Int32)), .unset, .unset, .unset, .unset] [])) rfl (hb hby at_62)
      refine own_go (b := (T14.setTop (mkF m 117 #[.val (.int p0), .val (.int p1), .val (.int p2), .val (.int ord), .val (.int (2 : Int32)), .val (.ref x_LT), .val (.int (1 : Int32)), .unset, .unset] [(.int ord)]))) (fun _ k => st14 _ (XS.astore X14.here hx rfl (hb hby at_65) rfl rfl (l' := #[.val (.int p0), .val (.int p1), .val (.int p2), .val (.int ord), .val (.int (2 : Int32)), .val (.ref x_LT), .unset, .unset, .unset]) rfl (XS.iconst X14.here hx rfl (hb hby at_67) (XS.istore X14.here hx rfl (hb hby at_68) rfl (l' := #[.val (.int p0), .val (.int p1), .val (.int p2), .val (.int ord), .val (.int (2 : Int32)), .val (.ref x_LT), .val (.int (1 : Int32)), .unset, .unset]) rfl (XS.goto X14.here hx rfl (pc0 := 70) (pc' := 116) rfl (hb hby at_70) (by decide) (by decide) (XS.iloadN X14.here hx rfl (hb hby at_116) rfl k)))))) ?_
      by_cases hc117_15 : ord < (0 : Int32)
      · skip
        refine own_go (b := (T14.setTop (mkF m 148 #[.val (.int p0), .val (.int p1), .val (.int p2), .val (.int ord), .val (.int (2 : Int32)), .val (.ref x_LT), .val (.int (1 : Int32)), .val (.int (1 : Int32)), .unset] [(.int (1 : Int32))]))) (fun _ k => XS.ifNo X14.here hx rfl (hb hby at_117) rfl ((if0 _ _).trans (tlt hc117_15).2.1) (XS.iconst X14.here hx rfl (hb hby at_120) (XS.goto X14.here hx rfl (pc0 := 121) (pc' := 133) rfl (hb hby at_121) (by decide) (by decide) (XS.istore X14.here hx rfl (hb hby at_133) rfl (l' := #[.val (.int p0), .val (.int p1), .val (.int p2), .val (.int ord), .val (.int (2 : Int32)), .val (.ref x_LT), .val (.int (1 : Int32)), .val (.int (1 : Int32)), .unset]) rfl (XS.iload X14.here hx rfl (hb hby at_135) rfl (XS.iload X14.here hx rfl (hb hby at_137) rfl (XS.iand X14.here hx rfl (hb hby at_139) rfl (XS.ifNo X14.here hx rfl (hb hby at_140) rfl ((if0 _ _).trans (feq (by decide : ¬ ((1 : Int32) = (0 : Int32)))).1) (XS.iconst X14.here hx rfl (hb hby at_143) (XS.goto X14.here hx rfl (pc0 := 144) (pc' := 148) rfl (hb hby at_144) (by decide) (by decide) k)))))))))) ?_
        refine own_go (b := (T14.setTop (mkF m 153 #[.val (.int p0), .val (.int p1), .val (.int p2), .val (.int ord), .val (.int (2 : Int32)), .val (.ref x_LT), .val (.int (1 : Int32)), .val (.int (1 : Int32)), .val (.int (1 : Int32))] [(.int ord), (.ref x_LT)]))) (fun _ k => XS.istore X14.here hx rfl (hb hby at_148) rfl (l' := #[.val (.int p0), .val (.int p1), .val (.int p2), .val (.int ord), .val (.int (2 : Int32)), .val (.ref x_LT), .val (.int (1 : Int32)), .val (.int (1 : Int32)), .val (.int (1 : Int32))]) rfl (XS.aload X14.here hx rfl (hb hby at_150) rfl rfl (XS.iloadN X14.here hx rfl (hb hby at_152) rfl k))) ?_
        obtain ⟨cq16, kq16, q16a, q16b, q16c⟩ := isOf hZ e14 (EZ_x_LT.ext O0.2)
        obtain ⟨_, _, ⟨T16, L16, k16, n16⟩, -, X16, ⟨Lc16, hQ16, l16, y16, z16⟩, st16⟩ := X14.virtualBack hx (y := (⟨"com/example/urd/urd/functions/ComparisonOperator", "holds", "(I)Z"⟩ : MethodName)) (z := (⟨"com/example/urd/urd/functions/ComparisonOperator", "holds", "(I)Z"⟩ : MethodName)) hown (mvT hZ (hw _ (List.mem_of_getElem? (i := 4) rfl))) (mvT hZ (hw _ (List.mem_of_getElem? (i := 5) rfl))) (notFace_of_selects (args := #[]) (mvT hZ (hw _ (List.mem_of_getElem? (i := 7) rfl)))) (mvT hZ (hw _ (List.mem_of_getElem? (i := 7) rfl))) (mvT hZ (hw _ (List.mem_of_getElem? (i := 6) rfl))) (by decide) (backOf (W := 0) (rmh2 l Z a0 hw [] x_LT ord h0 n0 Z0 O0 EZ_x_LT Fld0_x_LT_ordinal) hZ (hw _ (List.mem_of_getElem? (i := 8) rfl)) (hw _ (List.mem_of_getElem? (i := 2) rfl)) (by decide) (by decide)) q16a q16c (g := (mkF m 153 #[.val (.int p0), .val (.int p1), .val (.int p2), .val (.int ord), .val (.int (2 : Int32)), .val (.ref x_LT), .val (.int (1 : Int32)), .val (.int (1 : Int32)), .val (.int (1 : Int32))] [(.int ord), (.ref x_LT)])) rfl (by rw [hml]; rfl) (Steps.refl _) (argsL := [(.int ord)]) (rest := []) (lenOf pd__I_Z rfl) rfl (by show 2 * 0 + _ ≤ _; exact Nat.le_of_eq rfl) (hb hby at_153) (fun _ _ => ⟨rfl, e14, (by decide : 0 + 0 ≤ _), (by decide : 0 + 0 ≤ _)⟩)
        dsimp only [Pt.U, Pt.locs, Pt.cells, Pt.slots] at X16 l16 y16 z16 st16 hQ16
        subst l16 y16 z16
        obtain ⟨rfl, N16q, eh16⟩ := hQ16
        have N16 := Fr.app N0 N16q
        refine own_go (b := (T16.setTop (mkF m 166 #[.val (.int p0), .val (.int p1), .val (.int p2), .val (.int ord), .val (.int (2 : Int32)), .val (.ref x_LT), .val (.int (1 : Int32)), .val (.int (1 : Int32)), .val (.int (1 : Int32))] [(.int (1 : Int32))]))) (fun _ k => st16.trans (XS.iload X16.here hx rfl (hb hby at_156) rfl (XS.icmpNo X16.here hx rfl (hb hby at_158) rfl (teq (by simp [own_h2, hc117_15, (own_neg hc117_15).1, (own_neg hc117_15).2])).2 (XS.iconst X16.here hx rfl (hb hby at_161) (XS.goto X16.here hx rfl (pc0 := 162) (pc' := 166) rfl (hb hby at_162) (by decide) (by decide) k))))) ?_
        obtain ⟨fs, hr, hrun, hended, hW, hsame⟩ := X16.leave (v := some (.int (1 : Int32))) (fun h => by rw [Bd.returns] at h; cases h)
        exact ⟨_, _, retN X16 hx (t := .boolean) Bd.returns (by simp) (hb hby at_166) hr, hrun, hended, _, _, rfl, (show Qrm0 Z p0 p1 p2 x_EQ x_NE x_LT x_LE x_GT x_GE h0 n0 _ T16.heap _ from (by rw [eh16]; exact ⟨rfl, N16⟩)), ⟨_, rfl⟩, hW, hsame.mono (by decide) (by decide)⟩
      · skip
        refine own_go (b := (T14.setTop (mkF m 125 #[.val (.int p0), .val (.int p1), .val (.int p2), .val (.int ord), .val (.int (2 : Int32)), .val (.ref x_LT), .val (.int (1 : Int32)), .unset, .unset] [(.int ord)]))) (fun _ k => XS.ifYes X14.here hx rfl (pc0 := 117) (pc' := 124) rfl (hb hby at_117) rfl ((if0 _ _).trans (flt hc117_15).2.1) (by decide) (by decide) (XS.iloadN X14.here hx rfl (hb hby at_124) rfl k)) ?_
        by_cases hc125_17 : ord = (0 : Int32)
        · skip
          refine own_go (b := (T14.setTop (mkF m 150 #[.val (.int p0), .val (.int p1), .val (.int p2), .val (.int ord), .val (.int (2 : Int32)), .val (.ref x_LT), .val (.int (1 : Int32)), .val (.int (2 : Int32)), .val (.int (0 : Int32))] []))) (fun _ k => XS.ifNo X14.here hx rfl (hb hby at_125) rfl ((if0 _ _).trans (teq hc125_17).2) (XS.iconst X14.here hx rfl (hb hby at_128) (XS.goto X14.here hx rfl (pc0 := 129) (pc' := 133) rfl (hb hby at_129) (by decide) (by decide) (XS.istore X14.here hx rfl (hb hby at_133) rfl (l' := #[.val (.int p0), .val (.int p1), .val (.int p2), .val (.int ord), .val (.int (2 : Int32)), .val (.ref x_LT), .val (.int (1 : Int32)), .val (.int (2 : Int32)), .unset]) rfl (XS.iload X14.here hx rfl (hb hby at_135) rfl (XS.iload X14.here hx rfl (hb hby at_137) rfl (XS.iand X14.here hx rfl (hb hby at_139) rfl (XS.ifYes X14.here hx rfl (pc0 := 140) (pc' := 147) rfl (hb hby at_140) rfl ((if0 _ _).trans (teq (rfl : (0 : Int32) = (0 : Int32))).1) (by decide) (by decide) (XS.iconst X14.here hx rfl (hb hby at_147) (XS.istore X14.here hx rfl (hb hby at_148) rfl (l' := #[.val (.int p0), .val (.int p1), .val (.int p2), .val (.int ord), .val (.int (2 : Int32)), .val (.ref x_LT), .val (.int (1 : Int32)), .val (.int (2 : Int32)), .val (.int (0 : Int32))]) rfl k)))))))))) ?_
          refine own_go (b := (T14.setTop (mkF m 153 #[.val (.int p0), .val (.int p1), .val (.int p2), .val (.int ord), .val (.int (2 : Int32)), .val (.ref x_LT), .val (.int (1 : Int32)), .val (.int (2 : Int32)), .val (.int (0 : Int32))] [(.int ord), (.ref x_LT)]))) (fun _ k => XS.aload X14.here hx rfl (hb hby at_150) rfl rfl (XS.iloadN X14.here hx rfl (hb hby at_152) rfl k)) ?_
          obtain ⟨cq18, kq18, q18a, q18b, q18c⟩ := isOf hZ e14 (EZ_x_LT.ext O0.2)
          obtain ⟨_, _, ⟨T18, L18, k18, n18⟩, -, X18, ⟨Lc18, hQ18, l18, y18, z18⟩, st18⟩ := X14.virtualBack hx (y := (⟨"com/example/urd/urd/functions/ComparisonOperator", "holds", "(I)Z"⟩ : MethodName)) (z := (⟨"com/example/urd/urd/functions/ComparisonOperator", "holds", "(I)Z"⟩ : MethodName)) hown (mvT hZ (hw _ (List.mem_of_getElem? (i := 4) rfl))) (mvT hZ (hw _ (List.mem_of_getElem? (i := 5) rfl))) (notFace_of_selects (args := #[]) (mvT hZ (hw _ (List.mem_of_getElem? (i := 7) rfl)))) (mvT hZ (hw _ (List.mem_of_getElem? (i := 7) rfl))) (mvT hZ (hw _ (List.mem_of_getElem? (i := 6) rfl))) (by decide) (backOf (W := 0) (rmh2 l Z a0 hw [] x_LT ord h0 n0 Z0 O0 EZ_x_LT Fld0_x_LT_ordinal) hZ (hw _ (List.mem_of_getElem? (i := 8) rfl)) (hw _ (List.mem_of_getElem? (i := 2) rfl)) (by decide) (by decide)) q18a q18c (g := (mkF m 153 #[.val (.int p0), .val (.int p1), .val (.int p2), .val (.int ord), .val (.int (2 : Int32)), .val (.ref x_LT), .val (.int (1 : Int32)), .val (.int (2 : Int32)), .val (.int (0 : Int32))] [(.int ord), (.ref x_LT)])) rfl (by rw [hml]; rfl) (Steps.refl _) (argsL := [(.int ord)]) (rest := []) (lenOf pd__I_Z rfl) rfl (by show 2 * 0 + _ ≤ _; exact Nat.le_of_eq rfl) (hb hby at_153) (fun _ _ => ⟨rfl, e14, (by decide : 0 + 0 ≤ _), (by decide : 0 + 0 ≤ _)⟩)
          dsimp only [Pt.U, Pt.locs, Pt.cells, Pt.slots] at X18 l18 y18 z18 st18 hQ18
          subst l18 y18 z18
          obtain ⟨rfl, N18q, eh18⟩ := hQ18
          have N18 := Fr.app N0 N18q
          refine own_go (b := (T18.setTop (mkF m 166 #[.val (.int p0), .val (.int p1), .val (.int p2), .val (.int ord), .val (.int (2 : Int32)), .val (.ref x_LT), .val (.int (1 : Int32)), .val (.int (2 : Int32)), .val (.int (0 : Int32))] [(.int (1 : Int32))]))) (fun _ k => st18.trans (XS.iload X18.here hx rfl (hb hby at_156) rfl (XS.icmpNo X18.here hx rfl (hb hby at_158) rfl (teq (by simp [own_h2, hc125_17])).2 (XS.iconst X18.here hx rfl (hb hby at_161) (XS.goto X18.here hx rfl (pc0 := 162) (pc' := 166) rfl (hb hby at_162) (by decide) (by decide) k))))) ?_
          obtain ⟨fs, hr, hrun, hended, hW, hsame⟩ := X18.leave (v := some (.int (1 : Int32))) (fun h => by rw [Bd.returns] at h; cases h)
          exact ⟨_, _, retN X18 hx (t := .boolean) Bd.returns (by simp) (hb hby at_166) hr, hrun, hended, _, _, rfl, (show Qrm0 Z p0 p1 p2 x_EQ x_NE x_LT x_LE x_GT x_GE h0 n0 _ T18.heap _ from (by rw [eh18]; exact ⟨rfl, N18⟩)), ⟨_, rfl⟩, hW, hsame.mono (by decide) (by decide)⟩
        · skip
          refine own_go (b := (T14.setTop (mkF m 152 #[.val (.int p0), .val (.int p1), .val (.int p2), .val (.int ord), .val (.int (2 : Int32)), .val (.ref x_LT), .val (.int (1 : Int32)), .val (.int (4 : Int32)), .val (.int (0 : Int32))] [(.ref x_LT)]))) (fun _ k => XS.ifYes X14.here hx rfl (pc0 := 125) (pc' := 132) rfl (hb hby at_125) rfl ((if0 _ _).trans (feq hc125_17).2) (by decide) (by decide) (XS.iconst X14.here hx rfl (hb hby at_132) (XS.istore X14.here hx rfl (hb hby at_133) rfl (l' := #[.val (.int p0), .val (.int p1), .val (.int p2), .val (.int ord), .val (.int (2 : Int32)), .val (.ref x_LT), .val (.int (1 : Int32)), .val (.int (4 : Int32)), .unset]) rfl (XS.iload X14.here hx rfl (hb hby at_135) rfl (XS.iload X14.here hx rfl (hb hby at_137) rfl (XS.iand X14.here hx rfl (hb hby at_139) rfl (XS.ifYes X14.here hx rfl (pc0 := 140) (pc' := 147) rfl (hb hby at_140) rfl ((if0 _ _).trans (teq (rfl : (0 : Int32) = (0 : Int32))).1) (by decide) (by decide) (XS.iconst X14.here hx rfl (hb hby at_147) (XS.istore X14.here hx rfl (hb hby at_148) rfl (l' := #[.val (.int p0), .val (.int p1), .val (.int p2), .val (.int ord), .val (.int (2 : Int32)), .val (.ref x_LT), .val (.int (1 : Int32)), .val (.int (4 : Int32)), .val (.int (0 : Int32))]) rfl (XS.aload X14.here hx rfl (hb hby at_150) rfl rfl k)))))))))) ?_
          refine own_go (b := (T14.setTop (mkF m 153 #[.val (.int p0), .val (.int p1), .val (.int p2), .val (.int ord), .val (.int (2 : Int32)), .val (.ref x_LT), .val (.int (1 : Int32)), .val (.int (4 : Int32)), .val (.int (0 : Int32))] [(.int ord), (.ref x_LT)]))) (fun _ k => XS.iloadN X14.here hx rfl (hb hby at_152) rfl k) ?_
          obtain ⟨cq19, kq19, q19a, q19b, q19c⟩ := isOf hZ e14 (EZ_x_LT.ext O0.2)
          obtain ⟨_, _, ⟨T19, L19, k19, n19⟩, -, X19, ⟨Lc19, hQ19, l19, y19, z19⟩, st19⟩ := X14.virtualBack hx (y := (⟨"com/example/urd/urd/functions/ComparisonOperator", "holds", "(I)Z"⟩ : MethodName)) (z := (⟨"com/example/urd/urd/functions/ComparisonOperator", "holds", "(I)Z"⟩ : MethodName)) hown (mvT hZ (hw _ (List.mem_of_getElem? (i := 4) rfl))) (mvT hZ (hw _ (List.mem_of_getElem? (i := 5) rfl))) (notFace_of_selects (args := #[]) (mvT hZ (hw _ (List.mem_of_getElem? (i := 7) rfl)))) (mvT hZ (hw _ (List.mem_of_getElem? (i := 7) rfl))) (mvT hZ (hw _ (List.mem_of_getElem? (i := 6) rfl))) (by decide) (backOf (W := 0) (rmh2 l Z a0 hw [] x_LT ord h0 n0 Z0 O0 EZ_x_LT Fld0_x_LT_ordinal) hZ (hw _ (List.mem_of_getElem? (i := 8) rfl)) (hw _ (List.mem_of_getElem? (i := 2) rfl)) (by decide) (by decide)) q19a q19c (g := (mkF m 153 #[.val (.int p0), .val (.int p1), .val (.int p2), .val (.int ord), .val (.int (2 : Int32)), .val (.ref x_LT), .val (.int (1 : Int32)), .val (.int (4 : Int32)), .val (.int (0 : Int32))] [(.int ord), (.ref x_LT)])) rfl (by rw [hml]; rfl) (Steps.refl _) (argsL := [(.int ord)]) (rest := []) (lenOf pd__I_Z rfl) rfl (by show 2 * 0 + _ ≤ _; exact Nat.le_of_eq rfl) (hb hby at_153) (fun _ _ => ⟨rfl, e14, (by decide : 0 + 0 ≤ _), (by decide : 0 + 0 ≤ _)⟩)
          dsimp only [Pt.U, Pt.locs, Pt.cells, Pt.slots] at X19 l19 y19 z19 st19 hQ19
          subst l19 y19 z19
          obtain ⟨rfl, N19q, eh19⟩ := hQ19
          have N19 := Fr.app N0 N19q
          refine own_go (b := (T19.setTop (mkF m 166 #[.val (.int p0), .val (.int p1), .val (.int p2), .val (.int ord), .val (.int (2 : Int32)), .val (.ref x_LT), .val (.int (1 : Int32)), .val (.int (4 : Int32)), .val (.int (0 : Int32))] [(.int (1 : Int32))]))) (fun _ k => st19.trans (XS.iload X19.here hx rfl (hb hby at_156) rfl (XS.icmpNo X19.here hx rfl (hb hby at_158) rfl (teq (by simp [own_h2, hc117_15, hc125_17, own_pos hc117_15 hc125_17])).2 (XS.iconst X19.here hx rfl (hb hby at_161) (XS.goto X19.here hx rfl (pc0 := 162) (pc' := 166) rfl (hb hby at_162) (by decide) (by decide) k))))) ?_
          obtain ⟨fs, hr, hrun, hended, hW, hsame⟩ := X19.leave (v := some (.int (1 : Int32))) (fun h => by rw [Bd.returns] at h; cases h)
          exact ⟨_, _, retN X19 hx (t := .boolean) Bd.returns (by simp) (hb hby at_166) hr, hrun, hended, _, _, rfl, (show Qrm0 Z p0 p1 p2 x_EQ x_NE x_LT x_LE x_GT x_GE h0 n0 _ T19.heap _ from (by rw [eh19]; exact ⟨rfl, N19⟩)), ⟨_, rfl⟩, hW, hsame.mono (by decide) (by decide)⟩
    · rw [hk]
      refine own_go (b := (s₁.setTop (mkF m 75 #[.val (.int p0), .val (.int p1), .val (.int p2), .val (.int ord), .val (.int (3 : Int32)), .unset, .unset, .unset, .unset] [(.int (3 : Int32))]))) (fun _ k => XS.istore X0.here hx rfl (hb hby at_21) rfl (l' := #[.val (.int p0), .val (.int p1), .val (.int p2), .val (.int ord), .val (.int (3 : Int32)), .unset, .unset, .unset, .unset]) rfl (XS.iload X0.here hx rfl (hb hby at_23) rfl (XS.ifYes X0.here hx rfl (pc0 := 25) (pc' := 39) rfl (hb hby at_25) rfl ((if0 _ _).trans (feq (by decide : ¬ ((3 : Int32) = (0 : Int32)))).2) (by decide) (by decide) (XS.iload X0.here hx rfl (hb hby at_39) rfl (XS.iconst X0.here hx rfl (hb hby at_41) (XS.icmpYes X0.here hx rfl (pc0 := 42) (pc' := 56) rfl (hb hby at_42) rfl (feq (by decide : ¬ ((3 : Int32) = (1 : Int32)))).2 (by decide) (by decide) (XS.iload X0.here hx rfl (hb hby at_56) rfl (XS.iconst X0.here hx rfl (hb hby at_58) (XS.icmpYes X0.here hx rfl (pc0 := 59) (pc' := 73) rfl (hb hby at_59) rfl (feq (by decide : ¬ ((3 : Int32) = (2 : Int32)))).2 (by decide) (by decide) (XS.iload X0.here hx rfl (hb hby at_73) rfl k)))))))))) ?_
      refine own_go (b := (s₁.setTop (mkF m 79 #[.val (.int p0), .val (.int p1), .val (.int p2), .val (.int ord), .val (.int (3 : Int32)), .unset, .unset, .unset, .unset] []))) (fun _ k => XS.iconst X0.here hx rfl (hb hby at_75) (XS.icmpNo X0.here hx rfl (hb hby at_76) rfl (teq (rfl : (3 : Int32) = (3 : Int32))).2 k)) ?_
      obtain ⟨T20, X20, e20, st20⟩ := getS2 X0 hx hZ hown (host := "") (Or.inl (hw _ (List.mem_of_getElem? (i := 24) rfl))) Via.refl e0 (S_LE.ext O0.2) (g := (mkF m 79 #[.val (.int p0), .val (.int p1), .val (.int p2), .val (.int ord), .val (.int (3 : Int32)), .unset, .unset, .unset, .unset] [])) rfl (hb hby at_79)
      refine own_go (b := (T20.setTop (mkF m 117 #[.val (.int p0), .val (.int p1), .val (.int p2), .val (.int ord), .val (.int (3 : Int32)), .val (.ref x_LE), .val (.int (3 : Int32)), .unset, .unset] [(.int ord)]))) (fun _ k => st20 _ (XS.astore X20.here hx rfl (hb hby at_82) rfl rfl (l' := #[.val (.int p0), .val (.int p1), .val (.int p2), .val (.int ord), .val (.int (3 : Int32)), .val (.ref x_LE), .unset, .unset, .unset]) rfl (XS.iconst X20.here hx rfl (hb hby at_84) (XS.istore X20.here hx rfl (hb hby at_85) rfl (l' := #[.val (.int p0), .val (.int p1), .val (.int p2), .val (.int ord), .val (.int (3 : Int32)), .val (.ref x_LE), .val (.int (3 : Int32)), .unset, .unset]) rfl (XS.goto X20.here hx rfl (pc0 := 87) (pc' := 116) rfl (hb hby at_87) (by decide) (by decide) (XS.iloadN X20.here hx rfl (hb hby at_116) rfl k)))))) ?_
      by_cases hc117_21 : ord < (0 : Int32)
      · skip
        refine own_go (b := (T20.setTop (mkF m 148 #[.val (.int p0), .val (.int p1), .val (.int p2), .val (.int ord), .val (.int (3 : Int32)), .val (.ref x_LE), .val (.int (3 : Int32)), .val (.int (1 : Int32)), .unset] [(.int (1 : Int32))]))) (fun _ k => XS.ifNo X20.here hx rfl (hb hby at_117) rfl ((if0 _ _).trans (tlt hc117_21).2.1) (XS.iconst X20.here hx rfl (hb hby at_120) (XS.goto X20.here hx rfl (pc0 := 121) (pc' := 133) rfl (hb hby at_121) (by decide) (by decide) (XS.istore X20.here hx rfl (hb hby at_133) rfl (l' := #[.val (.int p0), .val (.int p1), .val (.int p2), .val (.int ord), .val (.int (3 : Int32)), .val (.ref x_LE), .val (.int (3 : Int32)), .val (.int (1 : Int32)), .unset]) rfl (XS.iload X20.here hx rfl (hb hby at_135) rfl (XS.iload X20.here hx rfl (hb hby at_137) rfl (XS.iand X20.here hx rfl (hb hby at_139) rfl (XS.ifNo X20.here hx rfl (hb hby at_140) rfl ((if0 _ _).trans (feq (by decide : ¬ ((1 : Int32) = (0 : Int32)))).1) (XS.iconst X20.here hx rfl (hb hby at_143) (XS.goto X20.here hx rfl (pc0 := 144) (pc' := 148) rfl (hb hby at_144) (by decide) (by decide) k)))))))))) ?_
        refine own_go (b := (T20.setTop (mkF m 153 #[.val (.int p0), .val (.int p1), .val (.int p2), .val (.int ord), .val (.int (3 : Int32)), .val (.ref x_LE), .val (.int (3 : Int32)), .val (.int (1 : Int32)), .val (.int (1 : Int32))] [(.int ord), (.ref x_LE)]))) (fun _ k => XS.istore X20.here hx rfl (hb hby at_148) rfl (l' := #[.val (.int p0), .val (.int p1), .val (.int p2), .val (.int ord), .val (.int (3 : Int32)), .val (.ref x_LE), .val (.int (3 : Int32)), .val (.int (1 : Int32)), .val (.int (1 : Int32))]) rfl (XS.aload X20.here hx rfl (hb hby at_150) rfl rfl (XS.iloadN X20.here hx rfl (hb hby at_152) rfl k))) ?_
        obtain ⟨cq22, kq22, q22a, q22b, q22c⟩ := isOf hZ e20 (EZ_x_LE.ext O0.2)
        obtain ⟨_, _, ⟨T22, L22, k22, n22⟩, -, X22, ⟨Lc22, hQ22, l22, y22, z22⟩, st22⟩ := X20.virtualBack hx (y := (⟨"com/example/urd/urd/functions/ComparisonOperator", "holds", "(I)Z"⟩ : MethodName)) (z := (⟨"com/example/urd/urd/functions/ComparisonOperator", "holds", "(I)Z"⟩ : MethodName)) hown (mvT hZ (hw _ (List.mem_of_getElem? (i := 4) rfl))) (mvT hZ (hw _ (List.mem_of_getElem? (i := 5) rfl))) (notFace_of_selects (args := #[]) (mvT hZ (hw _ (List.mem_of_getElem? (i := 7) rfl)))) (mvT hZ (hw _ (List.mem_of_getElem? (i := 7) rfl))) (mvT hZ (hw _ (List.mem_of_getElem? (i := 6) rfl))) (by decide) (backOf (W := 0) (rmh3 l Z a0 hw [] x_LE ord h0 n0 Z0 O0 EZ_x_LE Fld0_x_LE_ordinal) hZ (hw _ (List.mem_of_getElem? (i := 8) rfl)) (hw _ (List.mem_of_getElem? (i := 2) rfl)) (by decide) (by decide)) q22a q22c (g := (mkF m 153 #[.val (.int p0), .val (.int p1), .val (.int p2), .val (.int ord), .val (.int (3 : Int32)), .val (.ref x_LE), .val (.int (3 : Int32)), .val (.int (1 : Int32)), .val (.int (1 : Int32))] [(.int ord), (.ref x_LE)])) rfl (by rw [hml]; rfl) (Steps.refl _) (argsL := [(.int ord)]) (rest := []) (lenOf pd__I_Z rfl) rfl (by show 2 * 0 + _ ≤ _; exact Nat.le_of_eq rfl) (hb hby at_153) (fun _ _ => ⟨rfl, e20, (by decide : 0 + 0 ≤ _), (by decide : 0 + 0 ≤ _)⟩)
        dsimp only [Pt.U, Pt.locs, Pt.cells, Pt.slots] at X22 l22 y22 z22 st22 hQ22
        subst l22 y22 z22
        obtain ⟨rfl, N22q, eh22⟩ := hQ22
        have N22 := Fr.app N0 N22q
        refine own_go (b := (T22.setTop (mkF m 166 #[.val (.int p0), .val (.int p1), .val (.int p2), .val (.int ord), .val (.int (3 : Int32)), .val (.ref x_LE), .val (.int (3 : Int32)), .val (.int (1 : Int32)), .val (.int (1 : Int32))] [(.int (1 : Int32))]))) (fun _ k => st22.trans (XS.iload X22.here hx rfl (hb hby at_156) rfl (XS.icmpNo X22.here hx rfl (hb hby at_158) rfl (teq (by simp [own_h3, hc117_21, (own_neg hc117_21).1, (own_neg hc117_21).2])).2 (XS.iconst X22.here hx rfl (hb hby at_161) (XS.goto X22.here hx rfl (pc0 := 162) (pc' := 166) rfl (hb hby at_162) (by decide) (by decide) k))))) ?_
        obtain ⟨fs, hr, hrun, hended, hW, hsame⟩ := X22.leave (v := some (.int (1 : Int32))) (fun h => by rw [Bd.returns] at h; cases h)
        exact ⟨_, _, retN X22 hx (t := .boolean) Bd.returns (by simp) (hb hby at_166) hr, hrun, hended, _, _, rfl, (show Qrm0 Z p0 p1 p2 x_EQ x_NE x_LT x_LE x_GT x_GE h0 n0 _ T22.heap _ from (by rw [eh22]; exact ⟨rfl, N22⟩)), ⟨_, rfl⟩, hW, hsame.mono (by decide) (by decide)⟩
      · skip
        refine own_go (b := (T20.setTop (mkF m 125 #[.val (.int p0), .val (.int p1), .val (.int p2), .val (.int ord), .val (.int (3 : Int32)), .val (.ref x_LE), .val (.int (3 : Int32)), .unset, .unset] [(.int ord)]))) (fun _ k => XS.ifYes X20.here hx rfl (pc0 := 117) (pc' := 124) rfl (hb hby at_117) rfl ((if0 _ _).trans (flt hc117_21).2.1) (by decide) (by decide) (XS.iloadN X20.here hx rfl (hb hby at_124) rfl k)) ?_
        by_cases hc125_23 : ord = (0 : Int32)
        · skip
          refine own_go (b := (T20.setTop (mkF m 148 #[.val (.int p0), .val (.int p1), .val (.int p2), .val (.int ord), .val (.int (3 : Int32)), .val (.ref x_LE), .val (.int (3 : Int32)), .val (.int (2 : Int32)), .unset] [(.int (1 : Int32))]))) (fun _ k => XS.ifNo X20.here hx rfl (hb hby at_125) rfl ((if0 _ _).trans (teq hc125_23).2) (XS.iconst X20.here hx rfl (hb hby at_128) (XS.goto X20.here hx rfl (pc0 := 129) (pc' := 133) rfl (hb hby at_129) (by decide) (by decide) (XS.istore X20.here hx rfl (hb hby at_133) rfl (l' := #[.val (.int p0), .val (.int p1), .val (.int p2), .val (.int ord), .val (.int (3 : Int32)), .val (.ref x_LE), .val (.int (3 : Int32)), .val (.int (2 : Int32)), .unset]) rfl (XS.iload X20.here hx rfl (hb hby at_135) rfl (XS.iload X20.here hx rfl (hb hby at_137) rfl (XS.iand X20.here hx rfl (hb hby at_139) rfl (XS.ifNo X20.here hx rfl (hb hby at_140) rfl ((if0 _ _).trans (feq (by decide : ¬ ((2 : Int32) = (0 : Int32)))).1) (XS.iconst X20.here hx rfl (hb hby at_143) (XS.goto X20.here hx rfl (pc0 := 144) (pc' := 148) rfl (hb hby at_144) (by decide) (by decide) k)))))))))) ?_
          refine own_go (b := (T20.setTop (mkF m 153 #[.val (.int p0), .val (.int p1), .val (.int p2), .val (.int ord), .val (.int (3 : Int32)), .val (.ref x_LE), .val (.int (3 : Int32)), .val (.int (2 : Int32)), .val (.int (1 : Int32))] [(.int ord), (.ref x_LE)]))) (fun _ k => XS.istore X20.here hx rfl (hb hby at_148) rfl (l' := #[.val (.int p0), .val (.int p1), .val (.int p2), .val (.int ord), .val (.int (3 : Int32)), .val (.ref x_LE), .val (.int (3 : Int32)), .val (.int (2 : Int32)), .val (.int (1 : Int32))]) rfl (XS.aload X20.here hx rfl (hb hby at_150) rfl rfl (XS.iloadN X20.here hx rfl (hb hby at_152) rfl k))) ?_
          obtain ⟨cq24, kq24, q24a, q24b, q24c⟩ := isOf hZ e20 (EZ_x_LE.ext O0.2)
          obtain ⟨_, _, ⟨T24, L24, k24, n24⟩, -, X24, ⟨Lc24, hQ24, l24, y24, z24⟩, st24⟩ := X20.virtualBack hx (y := (⟨"com/example/urd/urd/functions/ComparisonOperator", "holds", "(I)Z"⟩ : MethodName)) (z := (⟨"com/example/urd/urd/functions/ComparisonOperator", "holds", "(I)Z"⟩ : MethodName)) hown (mvT hZ (hw _ (List.mem_of_getElem? (i := 4) rfl))) (mvT hZ (hw _ (List.mem_of_getElem? (i := 5) rfl))) (notFace_of_selects (args := #[]) (mvT hZ (hw _ (List.mem_of_getElem? (i := 7) rfl)))) (mvT hZ (hw _ (List.mem_of_getElem? (i := 7) rfl))) (mvT hZ (hw _ (List.mem_of_getElem? (i := 6) rfl))) (by decide) (backOf (W := 0) (rmh3 l Z a0 hw [] x_LE ord h0 n0 Z0 O0 EZ_x_LE Fld0_x_LE_ordinal) hZ (hw _ (List.mem_of_getElem? (i := 8) rfl)) (hw _ (List.mem_of_getElem? (i := 2) rfl)) (by decide) (by decide)) q24a q24c (g := (mkF m 153 #[.val (.int p0), .val (.int p1), .val (.int p2), .val (.int ord), .val (.int (3 : Int32)), .val (.ref x_LE), .val (.int (3 : Int32)), .val (.int (2 : Int32)), .val (.int (1 : Int32))] [(.int ord), (.ref x_LE)])) rfl (by rw [hml]; rfl) (Steps.refl _) (argsL := [(.int ord)]) (rest := []) (lenOf pd__I_Z rfl) rfl (by show 2 * 0 + _ ≤ _; exact Nat.le_of_eq rfl) (hb hby at_153) (fun _ _ => ⟨rfl, e20, (by decide : 0 + 0 ≤ _), (by decide : 0 + 0 ≤ _)⟩)
          dsimp only [Pt.U, Pt.locs, Pt.cells, Pt.slots] at X24 l24 y24 z24 st24 hQ24
          subst l24 y24 z24
          obtain ⟨rfl, N24q, eh24⟩ := hQ24
          have N24 := Fr.app N0 N24q
          refine own_go (b := (T24.setTop (mkF m 166 #[.val (.int p0), .val (.int p1), .val (.int p2), .val (.int ord), .val (.int (3 : Int32)), .val (.ref x_LE), .val (.int (3 : Int32)), .val (.int (2 : Int32)), .val (.int (1 : Int32))] [(.int (1 : Int32))]))) (fun _ k => st24.trans (XS.iload X24.here hx rfl (hb hby at_156) rfl (XS.icmpNo X24.here hx rfl (hb hby at_158) rfl (teq (by simp [own_h3, hc125_23])).2 (XS.iconst X24.here hx rfl (hb hby at_161) (XS.goto X24.here hx rfl (pc0 := 162) (pc' := 166) rfl (hb hby at_162) (by decide) (by decide) k))))) ?_
          obtain ⟨fs, hr, hrun, hended, hW, hsame⟩ := X24.leave (v := some (.int (1 : Int32))) (fun h => by rw [Bd.returns] at h; cases h)
          exact ⟨_, _, retN X24 hx (t := .boolean) Bd.returns (by simp) (hb hby at_166) hr, hrun, hended, _, _, rfl, (show Qrm0 Z p0 p1 p2 x_EQ x_NE x_LT x_LE x_GT x_GE h0 n0 _ T24.heap _ from (by rw [eh24]; exact ⟨rfl, N24⟩)), ⟨_, rfl⟩, hW, hsame.mono (by decide) (by decide)⟩
        · skip
          refine own_go (b := (T20.setTop (mkF m 152 #[.val (.int p0), .val (.int p1), .val (.int p2), .val (.int ord), .val (.int (3 : Int32)), .val (.ref x_LE), .val (.int (3 : Int32)), .val (.int (4 : Int32)), .val (.int (0 : Int32))] [(.ref x_LE)]))) (fun _ k => XS.ifYes X20.here hx rfl (pc0 := 125) (pc' := 132) rfl (hb hby at_125) rfl ((if0 _ _).trans (feq hc125_23).2) (by decide) (by decide) (XS.iconst X20.here hx rfl (hb hby at_132) (XS.istore X20.here hx rfl (hb hby at_133) rfl (l' := #[.val (.int p0), .val (.int p1), .val (.int p2), .val (.int ord), .val (.int (3 : Int32)), .val (.ref x_LE), .val (.int (3 : Int32)), .val (.int (4 : Int32)), .unset]) rfl (XS.iload X20.here hx rfl (hb hby at_135) rfl (XS.iload X20.here hx rfl (hb hby at_137) rfl (XS.iand X20.here hx rfl (hb hby at_139) rfl (XS.ifYes X20.here hx rfl (pc0 := 140) (pc' := 147) rfl (hb hby at_140) rfl ((if0 _ _).trans (teq (rfl : (0 : Int32) = (0 : Int32))).1) (by decide) (by decide) (XS.iconst X20.here hx rfl (hb hby at_147) (XS.istore X20.here hx rfl (hb hby at_148) rfl (l' := #[.val (.int p0), .val (.int p1), .val (.int p2), .val (.int ord), .val (.int (3 : Int32)), .val (.ref x_LE), .val (.int (3 : Int32)), .val (.int (4 : Int32)), .val (.int (0 : Int32))]) rfl (XS.aload X20.here hx rfl (hb hby at_150) rfl rfl k)))))))))) ?_
          refine own_go (b := (T20.setTop (mkF m 153 #[.val (.int p0), .val (.int p1), .val (.int p2), .val (.int ord), .val (.int (3 : Int32)), .val (.ref x_LE), .val (.int (3 : Int32)), .val (.int (4 : Int32)), .val (.int (0 : Int32))] [(.int ord), (.ref x_LE)]))) (fun _ k => XS.iloadN X20.here hx rfl (hb hby at_152) rfl k) ?_
          obtain ⟨cq25, kq25, q25a, q25b, q25c⟩ := isOf hZ e20 (EZ_x_LE.ext O0.2)
          obtain ⟨_, _, ⟨T25, L25, k25, n25⟩, -, X25, ⟨Lc25, hQ25, l25, y25, z25⟩, st25⟩ := X20.virtualBack hx (y := (⟨"com/example/urd/urd/functions/ComparisonOperator", "holds", "(I)Z"⟩ : MethodName)) (z := (⟨"com/example/urd/urd/functions/ComparisonOperator", "holds", "(I)Z"⟩ : MethodName)) hown (mvT hZ (hw _ (List.mem_of_getElem? (i := 4) rfl))) (mvT hZ (hw _ (List.mem_of_getElem? (i := 5) rfl))) (notFace_of_selects (args := #[]) (mvT hZ (hw _ (List.mem_of_getElem? (i := 7) rfl)))) (mvT hZ (hw _ (List.mem_of_getElem? (i := 7) rfl))) (mvT hZ (hw _ (List.mem_of_getElem? (i := 6) rfl))) (by decide) (backOf (W := 0) (rmh3 l Z a0 hw [] x_LE ord h0 n0 Z0 O0 EZ_x_LE Fld0_x_LE_ordinal) hZ (hw _ (List.mem_of_getElem? (i := 8) rfl)) (hw _ (List.mem_of_getElem? (i := 2) rfl)) (by decide) (by decide)) q25a q25c (g := (mkF m 153 #[.val (.int p0), .val (.int p1), .val (.int p2), .val (.int ord), .val (.int (3 : Int32)), .val (.ref x_LE), .val (.int (3 : Int32)), .val (.int (4 : Int32)), .val (.int (0 : Int32))] [(.int ord), (.ref x_LE)])) rfl (by rw [hml]; rfl) (Steps.refl _) (argsL := [(.int ord)]) (rest := []) (lenOf pd__I_Z rfl) rfl (by show 2 * 0 + _ ≤ _; exact Nat.le_of_eq rfl) (hb hby at_153) (fun _ _ => ⟨rfl, e20, (by decide : 0 + 0 ≤ _), (by decide : 0 + 0 ≤ _)⟩)
          dsimp only [Pt.U, Pt.locs, Pt.cells, Pt.slots] at X25 l25 y25 z25 st25 hQ25
          subst l25 y25 z25
          obtain ⟨rfl, N25q, eh25⟩ := hQ25
          have N25 := Fr.app N0 N25q
          refine own_go (b := (T25.setTop (mkF m 166 #[.val (.int p0), .val (.int p1), .val (.int p2), .val (.int ord), .val (.int (3 : Int32)), .val (.ref x_LE), .val (.int (3 : Int32)), .val (.int (4 : Int32)), .val (.int (0 : Int32))] [(.int (1 : Int32))]))) (fun _ k => st25.trans (XS.iload X25.here hx rfl (hb hby at_156) rfl (XS.icmpNo X25.here hx rfl (hb hby at_158) rfl (teq (by simp [own_h3, hc117_21, hc125_23, own_pos hc117_21 hc125_23])).2 (XS.iconst X25.here hx rfl (hb hby at_161) (XS.goto X25.here hx rfl (pc0 := 162) (pc' := 166) rfl (hb hby at_162) (by decide) (by decide) k))))) ?_
          obtain ⟨fs, hr, hrun, hended, hW, hsame⟩ := X25.leave (v := some (.int (1 : Int32))) (fun h => by rw [Bd.returns] at h; cases h)
          exact ⟨_, _, retN X25 hx (t := .boolean) Bd.returns (by simp) (hb hby at_166) hr, hrun, hended, _, _, rfl, (show Qrm0 Z p0 p1 p2 x_EQ x_NE x_LT x_LE x_GT x_GE h0 n0 _ T25.heap _ from (by rw [eh25]; exact ⟨rfl, N25⟩)), ⟨_, rfl⟩, hW, hsame.mono (by decide) (by decide)⟩
    · rw [hk]
      refine own_go (b := (s₁.setTop (mkF m 75 #[.val (.int p0), .val (.int p1), .val (.int p2), .val (.int ord), .val (.int (4 : Int32)), .unset, .unset, .unset, .unset] [(.int (4 : Int32))]))) (fun _ k => XS.istore X0.here hx rfl (hb hby at_21) rfl (l' := #[.val (.int p0), .val (.int p1), .val (.int p2), .val (.int ord), .val (.int (4 : Int32)), .unset, .unset, .unset, .unset]) rfl (XS.iload X0.here hx rfl (hb hby at_23) rfl (XS.ifYes X0.here hx rfl (pc0 := 25) (pc' := 39) rfl (hb hby at_25) rfl ((if0 _ _).trans (feq (by decide : ¬ ((4 : Int32) = (0 : Int32)))).2) (by decide) (by decide) (XS.iload X0.here hx rfl (hb hby at_39) rfl (XS.iconst X0.here hx rfl (hb hby at_41) (XS.icmpYes X0.here hx rfl (pc0 := 42) (pc' := 56) rfl (hb hby at_42) rfl (feq (by decide : ¬ ((4 : Int32) = (1 : Int32)))).2 (by decide) (by decide) (XS.iload X0.here hx rfl (hb hby at_56) rfl (XS.iconst X0.here hx rfl (hb hby at_58) (XS.icmpYes X0.here hx rfl (pc0 := 59) (pc' := 73) rfl (hb hby at_59) rfl (feq (by decide : ¬ ((4 : Int32) = (2 : Int32)))).2 (by decide) (by decide) (XS.iload X0.here hx rfl (hb hby at_73) rfl k)))))))))) ?_
      refine own_go (b := (s₁.setTop (mkF m 96 #[.val (.int p0), .val (.int p1), .val (.int p2), .val (.int ord), .val (.int (4 : Int32)), .unset, .unset, .unset, .unset] []))) (fun _ k => XS.iconst X0.here hx rfl (hb hby at_75) (XS.icmpYes X0.here hx rfl (pc0 := 76) (pc' := 90) rfl (hb hby at_76) rfl (feq (by decide : ¬ ((4 : Int32) = (3 : Int32)))).2 (by decide) (by decide) (XS.iload X0.here hx rfl (hb hby at_90) rfl (XS.iconst X0.here hx rfl (hb hby at_92) (XS.icmpNo X0.here hx rfl (hb hby at_93) rfl (teq (rfl : (4 : Int32) = (4 : Int32))).2 k))))) ?_
      obtain ⟨T26, X26, e26, st26⟩ := getS2 X0 hx hZ hown (host := "") (Or.inl (hw _ (List.mem_of_getElem? (i := 26) rfl))) Via.refl e0 (S_GT.ext O0.2) (g := (mkF m 96 #[.val (.int p0), .val (.int p1), .val (.int p2), .val (.int ord), .val (.int (4 : Int32)), .unset, .unset, .unset, .unset] [])) rfl (hb hby at_96)
      refine own_go (b := (T26.setTop (mkF m 117 #[.val (.int p0), .val (.int p1), .val (.int p2), .val (.int ord), .val (.int (4 : Int32)), .val (.ref x_GT), .val (.int (4 : Int32)), .unset, .unset] [(.int ord)]))) (fun _ k => st26 _ (XS.astore X26.here hx rfl (hb hby at_99) rfl rfl (l' := #[.val (.int p0), .val (.int p1), .val (.int p2), .val (.int ord), .val (.int (4 : Int32)), .val (.ref x_GT), .unset, .unset, .unset]) rfl (XS.iconst X26.here hx rfl (hb hby at_101) (XS.istore X26.here hx rfl (hb hby at_102) rfl (l' := #[.val (.int p0), .val (.int p1), .val (.int p2), .val (.int ord), .val (.int (4 : Int32)), .val (.ref x_GT), .val (.int (4 : Int32)), .unset, .unset]) rfl (XS.goto X26.here hx rfl (pc0 := 104) (pc' := 116) rfl (hb hby at_104) (by decide) (by decide) (XS.iloadN X26.here hx rfl (hb hby at_116) rfl k)))))) ?_
      by_cases hc117_27 : ord < (0 : Int32)
      · skip
        refine own_go (b := (T26.setTop (mkF m 150 #[.val (.int p0), .val (.int p1), .val (.int p2), .val (.int ord), .val (.int (4 : Int32)), .val (.ref x_GT), .val (.int (4 : Int32)), .val (.int (1 : Int32)), .val (.int (0 : Int32))] []))) (fun _ k => XS.ifNo X26.here hx rfl (hb hby at_117) rfl ((if0 _ _).trans (tlt hc117_27).2.1) (XS.iconst X26.here hx rfl (hb hby at_120) (XS.goto X26.here hx rfl (pc0 := 121) (pc' := 133) rfl (hb hby at_121) (by decide) (by decide) (XS.istore X26.here hx rfl (hb hby at_133) rfl (l' := #[.val (.int p0), .val (.int p1), .val (.int p2), .val (.int ord), .val (.int (4 : Int32)), .val (.ref x_GT), .val (.int (4 : Int32)), .val (.int (1 : Int32)), .unset]) rfl (XS.iload X26.here hx rfl (hb hby at_135) rfl (XS.iload X26.here hx rfl (hb hby at_137) rfl (XS.iand X26.here hx rfl (hb hby at_139) rfl (XS.ifYes X26.here hx rfl (pc0 := 140) (pc' := 147) rfl (hb hby at_140) rfl ((if0 _ _).trans (teq (rfl : (0 : Int32) = (0 : Int32))).1) (by decide) (by decide) (XS.iconst X26.here hx rfl (hb hby at_147) (XS.istore X26.here hx rfl (hb hby at_148) rfl (l' := #[.val (.int p0), .val (.int p1), .val (.int p2), .val (.int ord), .val (.int (4 : Int32)), .val (.ref x_GT), .val (.int (4 : Int32)), .val (.int (1 : Int32)), .val (.int (0 : Int32))]) rfl k)))))))))) ?_
        refine own_go (b := (T26.setTop (mkF m 153 #[.val (.int p0), .val (.int p1), .val (.int p2), .val (.int ord), .val (.int (4 : Int32)), .val (.ref x_GT), .val (.int (4 : Int32)), .val (.int (1 : Int32)), .val (.int (0 : Int32))] [(.int ord), (.ref x_GT)]))) (fun _ k => XS.aload X26.here hx rfl (hb hby at_150) rfl rfl (XS.iloadN X26.here hx rfl (hb hby at_152) rfl k)) ?_
        obtain ⟨cq28, kq28, q28a, q28b, q28c⟩ := isOf hZ e26 (EZ_x_GT.ext O0.2)
        obtain ⟨_, _, ⟨T28, L28, k28, n28⟩, -, X28, ⟨Lc28, hQ28, l28, y28, z28⟩, st28⟩ := X26.virtualBack hx (y := (⟨"com/example/urd/urd/functions/ComparisonOperator", "holds", "(I)Z"⟩ : MethodName)) (z := (⟨"com/example/urd/urd/functions/ComparisonOperator", "holds", "(I)Z"⟩ : MethodName)) hown (mvT hZ (hw _ (List.mem_of_getElem? (i := 4) rfl))) (mvT hZ (hw _ (List.mem_of_getElem? (i := 5) rfl))) (notFace_of_selects (args := #[]) (mvT hZ (hw _ (List.mem_of_getElem? (i := 7) rfl)))) (mvT hZ (hw _ (List.mem_of_getElem? (i := 7) rfl))) (mvT hZ (hw _ (List.mem_of_getElem? (i := 6) rfl))) (by decide) (backOf (W := 0) (rmh4 l Z a0 hw [] x_GT ord h0 n0 Z0 O0 EZ_x_GT Fld0_x_GT_ordinal) hZ (hw _ (List.mem_of_getElem? (i := 8) rfl)) (hw _ (List.mem_of_getElem? (i := 2) rfl)) (by decide) (by decide)) q28a q28c (g := (mkF m 153 #[.val (.int p0), .val (.int p1), .val (.int p2), .val (.int ord), .val (.int (4 : Int32)), .val (.ref x_GT), .val (.int (4 : Int32)), .val (.int (1 : Int32)), .val (.int (0 : Int32))] [(.int ord), (.ref x_GT)])) rfl (by rw [hml]; rfl) (Steps.refl _) (argsL := [(.int ord)]) (rest := []) (lenOf pd__I_Z rfl) rfl (by show 2 * 0 + _ ≤ _; exact Nat.le_of_eq rfl) (hb hby at_153) (fun _ _ => ⟨rfl, e26, (by decide : 0 + 0 ≤ _), (by decide : 0 + 0 ≤ _)⟩)
        dsimp only [Pt.U, Pt.locs, Pt.cells, Pt.slots] at X28 l28 y28 z28 st28 hQ28
        subst l28 y28 z28
        obtain ⟨rfl, N28q, eh28⟩ := hQ28
        have N28 := Fr.app N0 N28q
        refine own_go (b := (T28.setTop (mkF m 166 #[.val (.int p0), .val (.int p1), .val (.int p2), .val (.int ord), .val (.int (4 : Int32)), .val (.ref x_GT), .val (.int (4 : Int32)), .val (.int (1 : Int32)), .val (.int (0 : Int32))] [(.int (1 : Int32))]))) (fun _ k => st28.trans (XS.iload X28.here hx rfl (hb hby at_156) rfl (XS.icmpNo X28.here hx rfl (hb hby at_158) rfl (teq (by simp [own_h4, hc117_27, (own_neg hc117_27).1, (own_neg hc117_27).2])).2 (XS.iconst X28.here hx rfl (hb hby at_161) (XS.goto X28.here hx rfl (pc0 := 162) (pc' := 166) rfl (hb hby at_162) (by decide) (by decide) k))))) ?_
        obtain ⟨fs, hr, hrun, hended, hW, hsame⟩ := X28.leave (v := some (.int (1 : Int32))) (fun h => by rw [Bd.returns] at h; cases h)
        exact ⟨_, _, retN X28 hx (t := .boolean) Bd.returns (by simp) (hb hby at_166) hr, hrun, hended, _, _, rfl, (show Qrm0 Z p0 p1 p2 x_EQ x_NE x_LT x_LE x_GT x_GE h0 n0 _ T28.heap _ from (by rw [eh28]; exact ⟨rfl, N28⟩)), ⟨_, rfl⟩, hW, hsame.mono (by decide) (by decide)⟩
      · skip
        refine own_go (b := (T26.setTop (mkF m 125 #[.val (.int p0), .val (.int p1), .val (.int p2), .val (.int ord), .val (.int (4 : Int32)), .val (.ref x_GT), .val (.int (4 : Int32)), .unset, .unset] [(.int ord)]))) (fun _ k => XS.ifYes X26.here hx rfl (pc0 := 117) (pc' := 124) rfl (hb hby at_117) rfl ((if0 _ _).trans (flt hc117_27).2.1) (by decide) (by decide) (XS.iloadN X26.here hx rfl (hb hby at_124) rfl k)) ?_
        by_cases hc125_29 : ord = (0 : Int32)
        · skip
          refine own_go (b := (T26.setTop (mkF m 150 #[.val (.int p0), .val (.int p1), .val (.int p2), .val (.int ord), .val (.int (4 : Int32)), .val (.ref x_GT), .val (.int (4 : Int32)), .val (.int (2 : Int32)), .val (.int (0 : Int32))] []))) (fun _ k => XS.ifNo X26.here hx rfl (hb hby at_125) rfl ((if0 _ _).trans (teq hc125_29).2) (XS.iconst X26.here hx rfl (hb hby at_128) (XS.goto X26.here hx rfl (pc0 := 129) (pc' := 133) rfl (hb hby at_129) (by decide) (by decide) (XS.istore X26.here hx rfl (hb hby at_133) rfl (l' := #[.val (.int p0), .val (.int p1), .val (.int p2), .val (.int ord), .val (.int (4 : Int32)), .val (.ref x_GT), .val (.int (4 : Int32)), .val (.int (2 : Int32)), .unset]) rfl (XS.iload X26.here hx rfl (hb hby at_135) rfl (XS.iload X26.here hx rfl (hb hby at_137) rfl (XS.iand X26.here hx rfl (hb hby at_139) rfl (XS.ifYes X26.here hx rfl (pc0 := 140) (pc' := 147) rfl (hb hby at_140) rfl ((if0 _ _).trans (teq (rfl : (0 : Int32) = (0 : Int32))).1) (by decide) (by decide) (XS.iconst X26.here hx rfl (hb hby at_147) (XS.istore X26.here hx rfl (hb hby at_148) rfl (l' := #[.val (.int p0), .val (.int p1), .val (.int p2), .val (.int ord), .val (.int (4 : Int32)), .val (.ref x_GT), .val (.int (4 : Int32)), .val (.int (2 : Int32)), .val (.int (0 : Int32))]) rfl k)))))))))) ?_
          refine own_go (b := (T26.setTop (mkF m 153 #[.val (.int p0), .val (.int p1), .val (.int p2), .val (.int ord), .val (.int (4 : Int32)), .val (.ref x_GT), .val (.int (4 : Int32)), .val (.int (2 : Int32)), .val (.int (0 : Int32))] [(.int ord), (.ref x_GT)]))) (fun _ k => XS.aload X26.here hx rfl (hb hby at_150) rfl rfl (XS.iloadN X26.here hx rfl (hb hby at_152) rfl k)) ?_
          obtain ⟨cq30, kq30, q30a, q30b, q30c⟩ := isOf hZ e26 (EZ_x_GT.ext O0.2)
          obtain ⟨_, _, ⟨T30, L30, k30, n30⟩, -, X30, ⟨Lc30, hQ30, l30, y30, z30⟩, st30⟩ := X26.virtualBack hx (y := (⟨"com/example/urd/urd/functions/ComparisonOperator", "holds", "(I)Z"⟩ : MethodName)) (z := (⟨"com/example/urd/urd/functions/ComparisonOperator", "holds", "(I)Z"⟩ : MethodName)) hown (mvT hZ (hw _ (List.mem_of_getElem? (i := 4) rfl))) (mvT hZ (hw _ (List.mem_of_getElem? (i := 5) rfl))) (notFace_of_selects (args := #[]) (mvT hZ (hw _ (List.mem_of_getElem? (i := 7) rfl)))) (mvT hZ (hw _ (List.mem_of_getElem? (i := 7) rfl))) (mvT hZ (hw _ (List.mem_of_getElem? (i := 6) rfl))) (by decide) (backOf (W := 0) (rmh4 l Z a0 hw [] x_GT ord h0 n0 Z0 O0 EZ_x_GT Fld0_x_GT_ordinal) hZ (hw _ (List.mem_of_getElem? (i := 8) rfl)) (hw _ (List.mem_of_getElem? (i := 2) rfl)) (by decide) (by decide)) q30a q30c (g := (mkF m 153 #[.val (.int p0), .val (.int p1), .val (.int p2), .val (.int ord), .val (.int (4 : Int32)), .val (.ref x_GT), .val (.int (4 : Int32)), .val (.int (2 : Int32)), .val (.int (0 : Int32))] [(.int ord), (.ref x_GT)])) rfl (by rw [hml]; rfl) (Steps.refl _) (argsL := [(.int ord)]) (rest := []) (lenOf pd__I_Z rfl) rfl (by show 2 * 0 + _ ≤ _; exact Nat.le_of_eq rfl) (hb hby at_153) (fun _ _ => ⟨rfl, e26, (by decide : 0 + 0 ≤ _), (by decide : 0 + 0 ≤ _)⟩)
          dsimp only [Pt.U, Pt.locs, Pt.cells, Pt.slots] at X30 l30 y30 z30 st30 hQ30
          subst l30 y30 z30
          obtain ⟨rfl, N30q, eh30⟩ := hQ30
          have N30 := Fr.app N0 N30q
          refine own_go (b := (T30.setTop (mkF m 166 #[.val (.int p0), .val (.int p1), .val (.int p2), .val (.int ord), .val (.int (4 : Int32)), .val (.ref x_GT), .val (.int (4 : Int32)), .val (.int (2 : Int32)), .val (.int (0 : Int32))] [(.int (1 : Int32))]))) (fun _ k => st30.trans (XS.iload X30.here hx rfl (hb hby at_156) rfl (XS.icmpNo X30.here hx rfl (hb hby at_158) rfl (teq (by simp [own_h4, hc125_29])).2 (XS.iconst X30.here hx rfl (hb hby at_161) (XS.goto X30.here hx rfl (pc0 := 162) (pc' := 166) rfl (hb hby at_162) (by decide) (by decide) k))))) ?_
          obtain ⟨fs, hr, hrun, hended, hW, hsame⟩ := X30.leave (v := some (.int (1 : Int32))) (fun h => by rw [Bd.returns] at h; cases h)
          exact ⟨_, _, retN X30 hx (t := .boolean) Bd.returns (by simp) (hb hby at_166) hr, hrun, hended, _, _, rfl, (show Qrm0 Z p0 p1 p2 x_EQ x_NE x_LT x_LE x_GT x_GE h0 n0 _ T30.heap _ from (by rw [eh30]; exact ⟨rfl, N30⟩)), ⟨_, rfl⟩, hW, hsame.mono (by decide) (by decide)⟩
        · skip
          refine own_go (b := (T26.setTop (mkF m 150 #[.val (.int p0), .val (.int p1), .val (.int p2), .val (.int ord), .val (.int (4 : Int32)), .val (.ref x_GT), .val (.int (4 : Int32)), .val (.int (4 : Int32)), .val (.int (1 : Int32))] []))) (fun _ k => XS.ifYes X26.here hx rfl (pc0 := 125) (pc' := 132) rfl (hb hby at_125) rfl ((if0 _ _).trans (feq hc125_29).2) (by decide) (by decide) (XS.iconst X26.here hx rfl (hb hby at_132) (XS.istore X26.here hx rfl (hb hby at_133) rfl (l' := #[.val (.int p0), .val (.int p1), .val (.int p2), .val (.int ord), .val (.int (4 : Int32)), .val (.ref x_GT), .val (.int (4 : Int32)), .val (.int (4 : Int32)), .unset]) rfl (XS.iload X26.here hx rfl (hb hby at_135) rfl (XS.iload X26.here hx rfl (hb hby at_137) rfl (XS.iand X26.here hx rfl (hb hby at_139) rfl (XS.ifNo X26.here hx rfl (hb hby at_140) rfl ((if0 _ _).trans (feq (by decide : ¬ ((4 : Int32) = (0 : Int32)))).1) (XS.iconst X26.here hx rfl (hb hby at_143) (XS.goto X26.here hx rfl (pc0 := 144) (pc' := 148) rfl (hb hby at_144) (by decide) (by decide) (XS.istore X26.here hx rfl (hb hby at_148) rfl (l' := #[.val (.int p0), .val (.int p1), .val (.int p2), .val (.int ord), .val (.int (4 : Int32)), .val (.ref x_GT), .val (.int (4 : Int32)), .val (.int (4 : Int32)), .val (.int (1 : Int32))]) rfl k)))))))))) ?_
          refine own_go (b := (T26.setTop (mkF m 153 #[.val (.int p0), .val (.int p1), .val (.int p2), .val (.int ord), .val (.int (4 : Int32)), .val (.ref x_GT), .val (.int (4 : Int32)), .val (.int (4 : Int32)), .val (.int (1 : Int32))] [(.int ord), (.ref x_GT)]))) (fun _ k => XS.aload X26.here hx rfl (hb hby at_150) rfl rfl (XS.iloadN X26.here hx rfl (hb hby at_152) rfl k)) ?_
          obtain ⟨cq31, kq31, q31a, q31b, q31c⟩ := isOf hZ e26 (EZ_x_GT.ext O0.2)
          obtain ⟨_, _, ⟨T31, L31, k31, n31⟩, -, X31, ⟨Lc31, hQ31, l31, y31, z31⟩, st31⟩ := X26.virtualBack hx (y := (⟨"com/example/urd/urd/functions/ComparisonOperator", "holds", "(I)Z"⟩ : MethodName)) (z := (⟨"com/example/urd/urd/functions/ComparisonOperator", "holds", "(I)Z"⟩ : MethodName)) hown (mvT hZ (hw _ (List.mem_of_getElem? (i := 4) rfl))) (mvT hZ (hw _ (List.mem_of_getElem? (i := 5) rfl))) (notFace_of_selects (args := #[]) (mvT hZ (hw _ (List.mem_of_getElem? (i := 7) rfl)))) (mvT hZ (hw _ (List.mem_of_getElem? (i := 7) rfl))) (mvT hZ (hw _ (List.mem_of_getElem? (i := 6) rfl))) (by decide) (backOf (W := 0) (rmh4 l Z a0 hw [] x_GT ord h0 n0 Z0 O0 EZ_x_GT Fld0_x_GT_ordinal) hZ (hw _ (List.mem_of_getElem? (i := 8) rfl)) (hw _ (List.mem_of_getElem? (i := 2) rfl)) (by decide) (by decide)) q31a q31c (g := (mkF m 153 #[.val (.int p0), .val (.int p1), .val (.int p2), .val (.int ord), .val (.int (4 : Int32)), .val (.ref x_GT), .val (.int (4 : Int32)), .val (.int (4 : Int32)), .val (.int (1 : Int32))] [(.int ord), (.ref x_GT)])) rfl (by rw [hml]; rfl) (Steps.refl _) (argsL := [(.int ord)]) (rest := []) (lenOf pd__I_Z rfl) rfl (by show 2 * 0 + _ ≤ _; exact Nat.le_of_eq rfl) (hb hby at_153) (fun _ _ => ⟨rfl, e26, (by decide : 0 + 0 ≤ _), (by decide : 0 + 0 ≤ _)⟩)
          dsimp only [Pt.U, Pt.locs, Pt.cells, Pt.slots] at X31 l31 y31 z31 st31 hQ31
          subst l31 y31 z31
          obtain ⟨rfl, N31q, eh31⟩ := hQ31
          have N31 := Fr.app N0 N31q
          refine own_go (b := (T31.setTop (mkF m 166 #[.val (.int p0), .val (.int p1), .val (.int p2), .val (.int ord), .val (.int (4 : Int32)), .val (.ref x_GT), .val (.int (4 : Int32)), .val (.int (4 : Int32)), .val (.int (1 : Int32))] [(.int (1 : Int32))]))) (fun _ k => st31.trans (XS.iload X31.here hx rfl (hb hby at_156) rfl (XS.icmpNo X31.here hx rfl (hb hby at_158) rfl (teq (by simp [own_h4, hc117_27, hc125_29, own_pos hc117_27 hc125_29])).2 (XS.iconst X31.here hx rfl (hb hby at_161) (XS.goto X31.here hx rfl (pc0 := 162) (pc' := 166) rfl (hb hby at_162) (by decide) (by decide) k))))) ?_
          obtain ⟨fs, hr, hrun, hended, hW, hsame⟩ := X31.leave (v := some (.int (1 : Int32))) (fun h => by rw [Bd.returns] at h; cases h)
          exact ⟨_, _, retN X31 hx (t := .boolean) Bd.returns (by simp) (hb hby at_166) hr, hrun, hended, _, _, rfl, (show Qrm0 Z p0 p1 p2 x_EQ x_NE x_LT x_LE x_GT x_GE h0 n0 _ T31.heap _ from (by rw [eh31]; exact ⟨rfl, N31⟩)), ⟨_, rfl⟩, hW, hsame.mono (by decide) (by decide)⟩
    · rw [hk]
      refine own_go (b := (s₁.setTop (mkF m 75 #[.val (.int p0), .val (.int p1), .val (.int p2), .val (.int ord), .val (.int (5 : Int32)), .unset, .unset, .unset, .unset] [(.int (5 : Int32))]))) (fun _ k => XS.istore X0.here hx rfl (hb hby at_21) rfl (l' := #[.val (.int p0), .val (.int p1), .val (.int p2), .val (.int ord), .val (.int (5 : Int32)), .unset, .unset, .unset, .unset]) rfl (XS.iload X0.here hx rfl (hb hby at_23) rfl (XS.ifYes X0.here hx rfl (pc0 := 25) (pc' := 39) rfl (hb hby at_25) rfl ((if0 _ _).trans (feq (by decide : ¬ ((5 : Int32) = (0 : Int32)))).2) (by decide) (by decide) (XS.iload X0.here hx rfl (hb hby at_39) rfl (XS.iconst X0.here hx rfl (hb hby at_41) (XS.icmpYes X0.here hx rfl (pc0 := 42) (pc' := 56) rfl (hb hby at_42) rfl (feq (by decide : ¬ ((5 : Int32) = (1 : Int32)))).2 (by decide) (by decide) (XS.iload X0.here hx rfl (hb hby at_56) rfl (XS.iconst X0.here hx rfl (hb hby at_58) (XS.icmpYes X0.here hx rfl (pc0 := 59) (pc' := 73) rfl (hb hby at_59) rfl (feq (by decide : ¬ ((5 : Int32) = (2 : Int32)))).2 (by decide) (by decide) (XS.iload X0.here hx rfl (hb hby at_73) rfl k)))))))))) ?_
      refine own_go (b := (s₁.setTop (mkF m 107 #[.val (.int p0), .val (.int p1), .val (.int p2), .val (.int ord), .val (.int (5 : Int32)), .unset, .unset, .unset, .unset] []))) (fun _ k => XS.iconst X0.here hx rfl (hb hby at_75) (XS.icmpYes X0.here hx rfl (pc0 := 76) (pc' := 90) rfl (hb hby at_76) rfl (feq (by decide : ¬ ((5 : Int32) = (3 : Int32)))).2 (by decide) (by decide) (XS.iload X0.here hx rfl (hb hby at_90) rfl (XS.iconst X0.here hx rfl (hb hby at_92) (XS.icmpYes X0.here hx rfl (pc0 := 93) (pc' := 107) rfl (hb hby at_93) rfl (feq (by decide : ¬ ((5 : Int32) = (4 : Int32)))).2 (by decide) (by decide) k))))) ?_
      obtain ⟨T32, X32, e32, st32⟩ := getS2 X0 hx hZ hown (host := "") (Or.inl (hw _ (List.mem_of_getElem? (i := 22) rfl))) Via.refl e0 (S_GE.ext O0.2) (g := (mkF m 107 #[.val (.int p0), .val (.int p1), .val (.int p2), .val (.int ord), .val (.int (5 : Int32)), .unset, .unset, .unset, .unset] [])) rfl (hb hby at_107)
      refine own_go (b := (T32.setTop (mkF m 117 #[.val (.int p0), .val (.int p1), .val (.int p2), .val (.int ord), .val (.int (5 : Int32)), .val (.ref x_GE), .val (.int (6 : Int32)), .unset, .unset] [(.int ord)]))) (fun _ k => st32 _ (XS.astore X32.here hx rfl (hb hby at_110) rfl rfl (l' := #[.val (.int p0), .val (.int p1), .val (.int p2), .val (.int ord), .val (.int (5 : Int32)), .val (.ref x_GE), .unset, .unset, .unset]) rfl (XS.bipush X32.here hx rfl (hb hby at_112) (XS.istore X32.here hx rfl (hb hby at_114) rfl (l' := #[.val (.int p0), .val (.int p1), .val (.int p2), .val (.int ord), .val (.int (5 : Int32)), .val (.ref x_GE), .val (.int (6 : Int32)), .unset, .unset]) rfl (XS.iloadN X32.here hx rfl (hb hby at_116) rfl k))))) ?_
      by_cases hc117_33 : ord < (0 : Int32)
      · skip
        refine own_go (b := (T32.setTop (mkF m 150 #[.val (.int p0), .val (.int p1), .val (.int p2), .val (.int ord), .val (.int (5 : Int32)), .val (.ref x_GE), .val (.int (6 : Int32)), .val (.int (1 : Int32)), .val (.int (0 : Int32))] []))) (fun _ k => XS.ifNo X32.here hx rfl (hb hby at_117) rfl ((if0 _ _).trans (tlt hc117_33).2.1) (XS.iconst X32.here hx rfl (hb hby at_120) (XS.goto X32.here hx rfl (pc0 := 121) (pc' := 133) rfl (hb hby at_121) (by decide) (by decide) (XS.istore X32.here hx rfl (hb hby at_133) rfl (l' := #[.val (.int p0), .val (.int p1), .val (.int p2), .val (.int ord), .val (.int (5 : Int32)), .val (.ref x_GE), .val (.int (6 : Int32)), .val (.int (1 : Int32)), .unset]) rfl (XS.iload X32.here hx rfl (hb hby at_135) rfl (XS.iload X32.here hx rfl (hb hby at_137) rfl (XS.iand X32.here hx rfl (hb hby at_139) rfl (XS.ifYes X32.here hx rfl (pc0 := 140) (pc' := 147) rfl (hb hby at_140) rfl ((if0 _ _).trans (teq (rfl : (0 : Int32) = (0 : Int32))).1) (by decide) (by decide) (XS.iconst X32.here hx rfl (hb hby at_147) (XS.istore X32.here hx rfl (hb hby at_148) rfl (l' := #[.val (.int p0), .val (.int p1), .val (.int p2), .val (.int ord), .val (.int (5 : Int32)), .val (.ref x_GE), .val (.int (6 : Int32)), .val (.int (1 : Int32)), .val (.int (0 : Int32))]) rfl k)))))))))) ?_
        refine own_go (b := (T32.setTop (mkF m 153 #[.val (.int p0), .val (.int p1), .val (.int p2), .val (.int ord), .val (.int (5 : Int32)), .val (.ref x_GE), .val (.int (6 : Int32)), .val (.int (1 : Int32)), .val (.int (0 : Int32))] [(.int ord), (.ref x_GE)]))) (fun _ k => XS.aload X32.here hx rfl (hb hby at_150) rfl rfl (XS.iloadN X32.here hx rfl (hb hby at_152) rfl k)) ?_
        obtain ⟨cq34, kq34, q34a, q34b, q34c⟩ := isOf hZ e32 (EZ_x_GE.ext O0.2)
        obtain ⟨_, _, ⟨T34, L34, k34, n34⟩, -, X34, ⟨Lc34, hQ34, l34, y34, z34⟩, st34⟩ := X32.virtualBack hx (y := (⟨"com/example/urd/urd/functions/ComparisonOperator", "holds", "(I)Z"⟩ : MethodName)) (z := (⟨"com/example/urd/urd/functions/ComparisonOperator", "holds", "(I)Z"⟩ : MethodName)) hown (mvT hZ (hw _ (List.mem_of_getElem? (i := 4) rfl))) (mvT hZ (hw _ (List.mem_of_getElem? (i := 5) rfl))) (notFace_of_selects (args := #[]) (mvT hZ (hw _ (List.mem_of_getElem? (i := 7) rfl)))) (mvT hZ (hw _ (List.mem_of_getElem? (i := 7) rfl))) (mvT hZ (hw _ (List.mem_of_getElem? (i := 6) rfl))) (by decide) (backOf (W := 0) (rmh5 l Z a0 hw [] x_GE ord h0 n0 Z0 O0 EZ_x_GE Fld0_x_GE_ordinal) hZ (hw _ (List.mem_of_getElem? (i := 8) rfl)) (hw _ (List.mem_of_getElem? (i := 2) rfl)) (by decide) (by decide)) q34a q34c (g := (mkF m 153 #[.val (.int p0), .val (.int p1), .val (.int p2), .val (.int ord), .val (.int (5 : Int32)), .val (.ref x_GE), .val (.int (6 : Int32)), .val (.int (1 : Int32)), .val (.int (0 : Int32))] [(.int ord), (.ref x_GE)])) rfl (by rw [hml]; rfl) (Steps.refl _) (argsL := [(.int ord)]) (rest := []) (lenOf pd__I_Z rfl) rfl (by show 2 * 0 + _ ≤ _; exact Nat.le_of_eq rfl) (hb hby at_153) (fun _ _ => ⟨rfl, e32, (by decide : 0 + 0 ≤ _), (by decide : 0 + 0 ≤ _)⟩)
        dsimp only [Pt.U, Pt.locs, Pt.cells, Pt.slots] at X34 l34 y34 z34 st34 hQ34
        subst l34 y34 z34
        obtain ⟨rfl, N34q, eh34⟩ := hQ34
        have N34 := Fr.app N0 N34q
        refine own_go (b := (T34.setTop (mkF m 166 #[.val (.int p0), .val (.int p1), .val (.int p2), .val (.int ord), .val (.int (5 : Int32)), .val (.ref x_GE), .val (.int (6 : Int32)), .val (.int (1 : Int32)), .val (.int (0 : Int32))] [(.int (1 : Int32))]))) (fun _ k => st34.trans (XS.iload X34.here hx rfl (hb hby at_156) rfl (XS.icmpNo X34.here hx rfl (hb hby at_158) rfl (teq (by simp [own_h5, hc117_33, (own_neg hc117_33).1, (own_neg hc117_33).2])).2 (XS.iconst X34.here hx rfl (hb hby at_161) (XS.goto X34.here hx rfl (pc0 := 162) (pc' := 166) rfl (hb hby at_162) (by decide) (by decide) k))))) ?_
        obtain ⟨fs, hr, hrun, hended, hW, hsame⟩ := X34.leave (v := some (.int (1 : Int32))) (fun h => by rw [Bd.returns] at h; cases h)
        exact ⟨_, _, retN X34 hx (t := .boolean) Bd.returns (by simp) (hb hby at_166) hr, hrun, hended, _, _, rfl, (show Qrm0 Z p0 p1 p2 x_EQ x_NE x_LT x_LE x_GT x_GE h0 n0 _ T34.heap _ from (by rw [eh34]; exact ⟨rfl, N34⟩)), ⟨_, rfl⟩, hW, hsame.mono (by decide) (by decide)⟩
      · skip
        refine own_go (b := (T32.setTop (mkF m 125 #[.val (.int p0), .val (.int p1), .val (.int p2), .val (.int ord), .val (.int (5 : Int32)), .val (.ref x_GE), .val (.int (6 : Int32)), .unset, .unset] [(.int ord)]))) (fun _ k => XS.ifYes X32.here hx rfl (pc0 := 117) (pc' := 124) rfl (hb hby at_117) rfl ((if0 _ _).trans (flt hc117_33).2.1) (by decide) (by decide) (XS.iloadN X32.here hx rfl (hb hby at_124) rfl k)) ?_
        by_cases hc125_35 : ord = (0 : Int32)
        · skip
          refine own_go (b := (T32.setTop (mkF m 148 #[.val (.int p0), .val (.int p1), .val (.int p2), .val (.int ord), .val (.int (5 : Int32)), .val (.ref x_GE), .val (.int (6 : Int32)), .val (.int (2 : Int32)), .unset] [(.int (1 : Int32))]))) (fun _ k => XS.ifNo X32.here hx rfl (hb hby at_125) rfl ((if0 _ _).trans (teq hc125_35).2) (XS.iconst X32.here hx rfl (hb hby at_128) (XS.goto X32.here hx rfl (pc0 := 129) (pc' := 133) rfl (hb hby at_129) (by decide) (by decide) (XS.istore X32.here hx rfl (hb hby at_133) rfl (l' := #[.val (.int p0), .val (.int p1), .val (.int p2), .val (.int ord), .val (.int (5 : Int32)), .val (.ref x_GE), .val (.int (6 : Int32)), .val (.int (2 : Int32)), .unset]) rfl (XS.iload X32.here hx rfl (hb hby at_135) rfl (XS.iload X32.here hx rfl (hb hby at_137) rfl (XS.iand X32.here hx rfl (hb hby at_139) rfl (XS.ifNo X32.here hx rfl (hb hby at_140) rfl ((if0 _ _).trans (feq (by decide : ¬ ((2 : Int32) = (0 : Int32)))).1) (XS.iconst X32.here hx rfl (hb hby at_143) (XS.goto X32.here hx rfl (pc0 := 144) (pc' := 148) rfl (hb hby at_144) (by decide) (by decide) k)))))))))) ?_
          refine own_go (b := (T32.setTop (mkF m 153 #[.val (.int p0), .val (.int p1), .val (.int p2), .val (.int ord), .val (.int (5 : Int32)), .val (.ref x_GE), .val (.int (6 : Int32)), .val (.int (2 : Int32)), .val (.int (1 : Int32))] [(.int ord), (.ref x_GE)]))) (fun _ k => XS.istore X32.here hx rfl (hb hby at_148) rfl (l' := #[.val (.int p0), .val (.int p1), .val (.int p2), .val (.int ord), .val (.int (5 : Int32)), .val (.ref x_GE), .val (.int (6 : Int32)), .val (.int (2 : Int32)), .val (.int (1 : Int32))]) rfl (XS.aload X32.here hx rfl (hb hby at_150) rfl rfl (XS.iloadN X32.here hx rfl (hb hby at_152) rfl k))) ?_
          obtain ⟨cq36, kq36, q36a, q36b, q36c⟩ := isOf hZ e32 (EZ_x_GE.ext O0.2)
          obtain ⟨_, _, ⟨T36, L36, k36, n36⟩, -, X36, ⟨Lc36, hQ36, l36, y36, z36⟩, st36⟩ := X32.virtualBack hx (y := (⟨"com/example/urd/urd/functions/ComparisonOperator", "holds", "(I)Z"⟩ : MethodName)) (z := (⟨"com/example/urd/urd/functions/ComparisonOperator", "holds", "(I)Z"⟩ : MethodName)) hown (mvT hZ (hw _ (List.mem_of_getElem? (i := 4) rfl))) (mvT hZ (hw _ (List.mem_of_getElem? (i := 5) rfl))) (notFace_of_selects (args := #[]) (mvT hZ (hw _ (List.mem_of_getElem? (i := 7) rfl)))) (mvT hZ (hw _ (List.mem_of_getElem? (i := 7) rfl))) (mvT hZ (hw _ (List.mem_of_getElem? (i := 6) rfl))) (by decide) (backOf (W := 0) (rmh5 l Z a0 hw [] x_GE ord h0 n0 Z0 O0 EZ_x_GE Fld0_x_GE_ordinal) hZ (hw _ (List.mem_of_getElem? (i := 8) rfl)) (hw _ (List.mem_of_getElem? (i := 2) rfl)) (by decide) (by decide)) q36a q36c (g := (mkF m 153 #[.val (.int p0), .val (.int p1), .val (.int p2), .val (.int ord), .val (.int (5 : Int32)), .val (.ref x_GE), .val (.int (6 : Int32)), .val (.int (2 : Int32)), .val (.int (1 : Int32))] [(.int ord), (.ref x_GE)])) rfl (by rw [hml]; rfl) (Steps.refl _) (argsL := [(.int ord)]) (rest := []) (lenOf pd__I_Z rfl) rfl (by show 2 * 0 + _ ≤ _; exact Nat.le_of_eq rfl) (hb hby at_153) (fun _ _ => ⟨rfl, e32, (by decide : 0 + 0 ≤ _), (by decide : 0 + 0 ≤ _)⟩)
          dsimp only [Pt.U, Pt.locs, Pt.cells, Pt.slots] at X36 l36 y36 z36 st36 hQ36
          subst l36 y36 z36
          obtain ⟨rfl, N36q, eh36⟩ := hQ36
          have N36 := Fr.app N0 N36q
          refine own_go (b := (T36.setTop (mkF m 166 #[.val (.int p0), .val (.int p1), .val (.int p2), .val (.int ord), .val (.int (5 : Int32)), .val (.ref x_GE), .val (.int (6 : Int32)), .val (.int (2 : Int32)), .val (.int (1 : Int32))] [(.int (1 : Int32))]))) (fun _ k => st36.trans (XS.iload X36.here hx rfl (hb hby at_156) rfl (XS.icmpNo X36.here hx rfl (hb hby at_158) rfl (teq (by simp [own_h5, hc125_35])).2 (XS.iconst X36.here hx rfl (hb hby at_161) (XS.goto X36.here hx rfl (pc0 := 162) (pc' := 166) rfl (hb hby at_162) (by decide) (by decide) k))))) ?_
          obtain ⟨fs, hr, hrun, hended, hW, hsame⟩ := X36.leave (v := some (.int (1 : Int32))) (fun h => by rw [Bd.returns] at h; cases h)
          exact ⟨_, _, retN X36 hx (t := .boolean) Bd.returns (by simp) (hb hby at_166) hr, hrun, hended, _, _, rfl, (show Qrm0 Z p0 p1 p2 x_EQ x_NE x_LT x_LE x_GT x_GE h0 n0 _ T36.heap _ from (by rw [eh36]; exact ⟨rfl, N36⟩)), ⟨_, rfl⟩, hW, hsame.mono (by decide) (by decide)⟩
        · skip
          refine own_go (b := (T32.setTop (mkF m 150 #[.val (.int p0), .val (.int p1), .val (.int p2), .val (.int ord), .val (.int (5 : Int32)), .val (.ref x_GE), .val (.int (6 : Int32)), .val (.int (4 : Int32)), .val (.int (1 : Int32))] []))) (fun _ k => XS.ifYes X32.here hx rfl (pc0 := 125) (pc' := 132) rfl (hb hby at_125) rfl ((if0 _ _).trans (feq hc125_35).2) (by decide) (by decide) (XS.iconst X32.here hx rfl (hb hby at_132) (XS.istore X32.here hx rfl (hb hby at_133) rfl (l' := #[.val (.int p0), .val (.int p1), .val (.int p2), .val (.int ord), .val (.int (5 : Int32)), .val (.ref x_GE), .val (.int (6 : Int32)), .val (.int (4 : Int32)), .unset]) rfl (XS.iload X32.here hx rfl (hb hby at_135) rfl (XS.iload X32.here hx rfl (hb hby at_137) rfl (XS.iand X32.here hx rfl (hb hby at_139) rfl (XS.ifNo X32.here hx rfl (hb hby at_140) rfl ((if0 _ _).trans (feq (by decide : ¬ ((4 : Int32) = (0 : Int32)))).1) (XS.iconst X32.here hx rfl (hb hby at_143) (XS.goto X32.here hx rfl (pc0 := 144) (pc' := 148) rfl (hb hby at_144) (by decide) (by decide) (XS.istore X32.here hx rfl (hb hby at_148) rfl (l' := #[.val (.int p0), .val (.int p1), .val (.int p2), .val (.int ord), .val (.int (5 : Int32)), .val (.ref x_GE), .val (.int (6 : Int32)), .val (.int (4 : Int32)), .val (.int (1 : Int32))]) rfl k)))))))))) ?_
          refine own_go (b := (T32.setTop (mkF m 153 #[.val (.int p0), .val (.int p1), .val (.int p2), .val (.int ord), .val (.int (5 : Int32)), .val (.ref x_GE), .val (.int (6 : Int32)), .val (.int (4 : Int32)), .val (.int (1 : Int32))] [(.int ord), (.ref x_GE)]))) (fun _ k => XS.aload X32.here hx rfl (hb hby at_150) rfl rfl (XS.iloadN X32.here hx rfl (hb hby at_152) rfl k)) ?_
          obtain ⟨cq37, kq37, q37a, q37b, q37c⟩ := isOf hZ e32 (EZ_x_GE.ext O0.2)
          obtain ⟨_, _, ⟨T37, L37, k37, n37⟩, -, X37, ⟨Lc37, hQ37, l37, y37, z37⟩, st37⟩ := X32.virtualBack hx (y := (⟨"com/example/urd/urd/functions/ComparisonOperator", "holds", "(I)Z"⟩ : MethodName)) (z := (⟨"com/example/urd/urd/functions/ComparisonOperator", "holds", "(I)Z"⟩ : MethodName)) hown (mvT hZ (hw _ (List.mem_of_getElem? (i := 4) rfl))) (mvT hZ (hw _ (List.mem_of_getElem? (i := 5) rfl))) (notFace_of_selects (args := #[]) (mvT hZ (hw _ (List.mem_of_getElem? (i := 7) rfl)))) (mvT hZ (hw _ (List.mem_of_getElem? (i := 7) rfl))) (mvT hZ (hw _ (List.mem_of_getElem? (i := 6) rfl))) (by decide) (backOf (W := 0) (rmh5 l Z a0 hw [] x_GE ord h0 n0 Z0 O0 EZ_x_GE Fld0_x_GE_ordinal) hZ (hw _ (List.mem_of_getElem? (i := 8) rfl)) (hw _ (List.mem_of_getElem? (i := 2) rfl)) (by decide) (by decide)) q37a q37c (g := (mkF m 153 #[.val (.int p0), .val (.int p1), .val (.int p2), .val (.int ord), .val (.int (5 : Int32)), .val (.ref x_GE), .val (.int (6 : Int32)), .val (.int (4 : Int32)), .val (.int (1 : Int32))] [(.int ord), (.ref x_GE)])) rfl (by rw [hml]; rfl) (Steps.refl _) (argsL := [(.int ord)]) (rest := []) (lenOf pd__I_Z rfl) rfl (by show 2 * 0 + _ ≤ _; exact Nat.le_of_eq rfl) (hb hby at_153) (fun _ _ => ⟨rfl, e32, (by decide : 0 + 0 ≤ _), (by decide : 0 + 0 ≤ _)⟩)
          dsimp only [Pt.U, Pt.locs, Pt.cells, Pt.slots] at X37 l37 y37 z37 st37 hQ37
          subst l37 y37 z37
          obtain ⟨rfl, N37q, eh37⟩ := hQ37
          have N37 := Fr.app N0 N37q
          refine own_go (b := (T37.setTop (mkF m 166 #[.val (.int p0), .val (.int p1), .val (.int p2), .val (.int ord), .val (.int (5 : Int32)), .val (.ref x_GE), .val (.int (6 : Int32)), .val (.int (4 : Int32)), .val (.int (1 : Int32))] [(.int (1 : Int32))]))) (fun _ k => st37.trans (XS.iload X37.here hx rfl (hb hby at_156) rfl (XS.icmpNo X37.here hx rfl (hb hby at_158) rfl (teq (by simp [own_h5, hc117_33, hc125_35, own_pos hc117_33 hc125_35])).2 (XS.iconst X37.here hx rfl (hb hby at_161) (XS.goto X37.here hx rfl (pc0 := 162) (pc' := 166) rfl (hb hby at_162) (by decide) (by decide) k))))) ?_
          obtain ⟨fs, hr, hrun, hended, hW, hsame⟩ := X37.leave (v := some (.int (1 : Int32))) (fun h => by rw [Bd.returns] at h; cases h)
          exact ⟨_, _, retN X37 hx (t := .boolean) Bd.returns (by simp) (hb hby at_166) hr, hrun, hended, _, _, rfl, (show Qrm0 Z p0 p1 p2 x_EQ x_NE x_LT x_LE x_GT x_GE h0 n0 _ T37.heap _ from (by rw [eh37]; exact ⟨rfl, N37⟩)), ⟨_, rfl⟩, hW, hsame.mono (by decide) (by decide)⟩
  · intro J1
    refine own_go (b := (s₁.setTop (mkF m 3 #[.val (.int p0), .val (.int p1), .val (.int p2), .unset, .unset, .unset, .unset, .unset, .unset] [(.int (p2 &&& (1 : Int32)))]))) (fun _ k => XS.iloadN X0.here hx rfl (hb hby at_0) rfl (XS.iconst X0.here hx rfl (hb hby at_1) (XS.iand X0.here hx rfl (hb hby at_2) rfl k))) ?_
    by_cases hc3_38 : (p2 &&& (1 : Int32)) = (0 : Int32)
    · skip
      refine own_go (b := (s₁.setTop (mkF m 13 #[.val (.int p0), .val (.int p1), .val (.int p2), .unset, .unset, .unset, .unset, .unset, .unset] [(.int p1)]))) (fun _ k => XS.ifYes X0.here hx rfl (pc0 := 3) (pc' := 12) rfl (hb hby at_3) rfl ((if0 _ _).trans (teq hc3_38).1) (by decide) (by decide) (XS.iloadN X0.here hx rfl (hb hby at_12) rfl k)) ?_
      exact J1 p1 trivial
    · skip
      refine own_go (b := (s₁.setTop (mkF m 13 #[.val (.int p0), .val (.int p1), .val (.int p2), .unset, .unset, .unset, .unset, .unset, .unset] [(.int (p1 % (2 : Int32)))]))) (fun _ k => XS.ifNo X0.here hx rfl (hb hby at_3) rfl ((if0 _ _).trans (feq hc3_38).1) (XS.iloadN X0.here hx rfl (hb hby at_6) rfl (XS.iconst X0.here hx rfl (hb hby at_7) (iremM (g := (mkF m 8 #[.val (.int p0), .val (.int p1), .val (.int p2), .unset, .unset, .unset, .unset, .unset, .unset] [(.int (2 : Int32)), (.int p1)])) X0 hx rfl (hb hby at_8) rfl (by decide) (XS.goto X0.here hx rfl (pc0 := 9) (pc' := 13) rfl (hb hby at_9) (by decide) (by decide) k))))) ?_
      exact J1 (p1 % (2 : Int32)) trivial
set_option maxRecDepth 65536 in
set_option maxHeartbeats 40000000 in
theorem comes_1 {Post : Tables → Env → Array Value → State → Outcome → State → Prop} (hpost : ∀ tb e args s v u, (limb_1_1.after args s (.returned v) u = true ∧ limb_1_2.after args s (.returned v) u = true ∧ True) → FrameEnd s (.returned v) u (Jvm.fieldLocs frame_1_writes args s ++ Jvm.arrayLocs frame_1_arrays args s ++ Jvm.staticLocs frame_1_statics s) 0 0 → Post tb e args s (.returned v) u) :
    ArmFor flags0 classFile x code maxLocals ret World_1 tables_1 room_1 Calls_1 rest_1 Pre_1 Post := by
  intro l hfl _ _ p e ha hc hk s m args below hf hA hF happ hP
  obtain ⟨hcalls, hrest, hpre⟩ := hP
  obtain ⟨-, -, -, hnamed, -, -, -, hat⟩ := (Spec.applies_iff hf).mp happ
  obtain ⟨hg, hn⟩ := and_e (Cond.before_iff.mp (show (Jvm.Cond.and given_1 narrow_1).before args s = true from hpre))
  obtain ⟨gc0, gr0⟩ := and_e hg
  obtain ⟨gc1, gr1⟩ := and_e gr0
  obtain ⟨gc2, gr2⟩ := and_e gr1
  obtain ⟨w0, w1, w2, rfl⟩ : ∃ w0 w1 w2 : Value, args = #[w0, w1, w2] := by
    have hs : args.size = 3 := by simpa [Cond.value, given_1] using gc0
    obtain ⟨L⟩ := args
    match L, hs with
    | [w0, w1, w2], _ => exact ⟨w0, w1, w2, rfl⟩
  have hw := fun d (hd : d ∈ tables_1) => atoms_spec (ws := Jvm.Cond.code x code maxLocals ret :: tables_1) hat d (List.mem_cons_of_mem _ hd)
  have hfit : Fit s := fun {y c} hc i hi => by
    obtain ⟨ha, rfl⟩ := Array.getElem?_eq_some_iff.mp hc
    have q := List.all_eq_true.mp ((Array.all_eq_true_iff_forall_mem.mp hF) _ (Array.getElem_mem ha)) i (List.mem_range.mpr hi)
    simpa [Array.getElem?_eq_getElem hi] using q
  obtain ⟨i0, ei0⟩ := is_v gc1
  obtain rfl : w0 = (.int i0) := Option.some.inj ei0
  obtain ⟨i1, ei1⟩ := is_v gc2
  obtain rfl : w1 = (.int i1) := Option.some.inj ei1
  obtain ⟨i2, ei2⟩ := is_v gr2
  obtain rfl : w2 = (.int i2) := Option.some.inj ei2
  obtain ⟨nc0, nr0⟩ := and_e hn
  obtain ⟨nc1, nr1⟩ := and_e nr0
  obtain ⟨nc2, nr2⟩ := and_e nr1
  obtain ⟨nc3, nr3⟩ := and_e nr2
  obtain ⟨nc4, nr4⟩ := and_e nr3
  obtain ⟨nc5, nr5⟩ := and_e nr4
  obtain ⟨nc6, nr6⟩ := and_e nr5
  obtain ⟨nc7, nr7⟩ := and_e nr6
  obtain ⟨nc8, nr8⟩ := and_e nr7
  obtain ⟨nc9, nr9⟩ := and_e nr8
  obtain ⟨nc10, nr10⟩ := and_e nr9
  obtain ⟨x_EQ, v_EQ⟩ := exa_v nc0
  have EZ_x_EQ := Exa.start v_EQ nc0
  have S_EQ := Sta.start v_EQ (Or.inr ⟨(hw _ (List.mem_of_getElem? (i := 2) rfl)), (hw _ (List.mem_of_getElem? (i := 3) rfl))⟩)
  have Fld0_x_EQ_ordinal := own_fint nc1 v_EQ
  obtain ⟨x_NE, v_NE⟩ := exa_v nc2
  have EZ_x_NE := Exa.start v_NE nc2
  have S_NE := Sta.start v_NE (Or.inr ⟨(hw _ (List.mem_of_getElem? (i := 2) rfl)), (hw _ (List.mem_of_getElem? (i := 19) rfl))⟩)
  have Fld0_x_NE_ordinal := own_fint nc3 v_NE
  obtain ⟨x_LT, v_LT⟩ := exa_v nc4
  have EZ_x_LT := Exa.start v_LT nc4
  have S_LT := Sta.start v_LT (Or.inr ⟨(hw _ (List.mem_of_getElem? (i := 2) rfl)), (hw _ (List.mem_of_getElem? (i := 21) rfl))⟩)
  have Fld0_x_LT_ordinal := own_fint nc5 v_LT
  obtain ⟨x_GE, v_GE⟩ := exa_v nc6
  have EZ_x_GE := Exa.start v_GE nc6
  have S_GE := Sta.start v_GE (Or.inr ⟨(hw _ (List.mem_of_getElem? (i := 2) rfl)), (hw _ (List.mem_of_getElem? (i := 23) rfl))⟩)
  have Fld0_x_GE_ordinal := own_fint nc7 v_GE
  obtain ⟨x_LE, v_LE⟩ := exa_v nc8
  have EZ_x_LE := Exa.start v_LE nc8
  have S_LE := Sta.start v_LE (Or.inr ⟨(hw _ (List.mem_of_getElem? (i := 2) rfl)), (hw _ (List.mem_of_getElem? (i := 25) rfl))⟩)
  have Fld0_x_LE_ordinal := own_fint nc9 v_LE
  obtain ⟨x_GT, v_GT⟩ := exa_v nc10
  have EZ_x_GT := Exa.start v_GT nc10
  have S_GT := Sta.start v_GT (Or.inr ⟨(hw _ (List.mem_of_getElem? (i := 2) rfl)), (hw _ (List.mem_of_getElem? (i := 27) rfl))⟩)
  have Fld0_x_GT_ordinal := own_fint nr10 v_GT
  obtain ⟨n, o, h1, h2, h3, _, L, rfl, ⟨rfl, N⟩, hq⟩ := rm0 l s _ hw tables_1 i0 i1 i2 x_EQ x_NE x_LT x_LE x_GT x_GE s.heap s.heap.size (Nat.le_refl _) (Old.start s) S_EQ S_NE S_LT S_LE S_GT S_GE EZ_x_EQ EZ_x_NE EZ_x_LT EZ_x_LE EZ_x_GT EZ_x_GE Fld0_x_EQ_ordinal Fld0_x_NE_ordinal Fld0_x_LT_ordinal Fld0_x_LE_ordinal Fld0_x_GT_ordinal Fld0_x_GE_ordinal p e ha hc hk s m _ below hf ((Spec.applies_iff_loose hf).mp happ).1 ⟨rfl, State.Warmed39.refl s, rfl⟩ trivial
  refine ⟨n, _, h1, h2, h3, hpost _ _ _ _ _ _ ⟨Cond.after_iff.mpr rfl, Cond.after_iff.mpr (eq_i res_at (Term.int_eval (1)) rfl), trivial⟩ ⟨hq.1, hq.2.1, (hq.2.2.sift fun y hy => Or.inr (N y hy)).mono (by decide) (by decide)⟩⟩
theorem main_1_1 : Claimed_1_1 := comes_1 fun _ _ _ _ _ _ h hF => ⟨h.1, hF⟩
theorem main_1_2 : Claimed_1_2 := comes_1 fun _ _ _ _ _ _ h hF => ⟨h.2.1, hF⟩
end Jvm.Pilot.@@N@@
namespace Jvm.Pilot.@@N@@
open Jvm Jvm.ClassFile Sem Op Lib Jvm.Free Jvm.Stand Jvm.Pilot.@@N@@.Jvm.D
/-! MADE BY PROGRAM (witnessworld.py) out of the Statement's table words and the real class files: 12 classes; the members and pool entries that the words name. The judged class is class 1, her method 1. -/
namespace start1
open Jvm.ClassFile
def u (s : String) : CpInfo := .utf8 (stringToUtf16 s)
/-- a pool by its gaps: so many unusable entries, then the entry; so many at the end -/
def gap : Nat → List CpInfo → List CpInfo
  | 0, r => r
  | n + 1, r => .unusable :: gap n r
def poolList (es : List (Nat × CpInfo)) (last : Nat) : List CpInfo := es.foldr (fun e r => gap e.1 (e.2 :: r)) (gap last [])
def pool (es : List (Nat × CpInfo)) (last : Nat) : Array CpInfo := ⟨poolList es last⟩
def fileOf (pool : Array CpInfo) (this : Nat) (attrs : Array Attribute := #[]) (ms : Array MethodInfo := #[]) (fl : Nat := 33) (sup : Nat := 0) (ifs : Array Nat := #[]) (fds : Array FieldInfo := #[]) : ClassFile where
  minorVersion := 0
  majorVersion := 65
  constantPool := pool
  accessFlags := fl
  thisClass := this
  superClass := sup
  interfaces := ifs
  fields := fds
  methods := ms
  attributes := attrs
def plain (name : String) (sup : Option ClassId) : Class where
  name := name
  kind := .ordinary
  loader := none
  accessFlags := 33
  super := sup
  interfaces := #[]
  cf := none
  fields := #[]
  methods := #[]
  instanceTypes := #[]
  staticTypes := #[]
  resolved := #[]
  callSites := []
  init := .initialized
  statics := none
  mirror := none

def pool0 : Array CpInfo := pool [(5, u "<init>"), (0, u "()V"), (1, .class_ 10), (1, u "java/lang/Object")] 113

def k0m0 : Method := { name := "<init>", desc := "()V", sig := { parameters := [], returnType := none }, accessFlags := 1, code := none }
/-- java/lang/Object -/
def k0 : Class := { plain "java/lang/Object" none with
  accessFlags := 33
  interfaces := #[]
  cf := some (fileOf pool0 8 #[] #[{ accessFlags := 1, nameIndex := 5, descriptorIndex := 6, attributes := #[] }] 33 0 #[] #[])
  fields := #[]
  methods := #[k0m0]
  instanceTypes := #[]
  staticTypes := #[]
  resolved := Array.replicate 124 none
  statics := none }

def pool1 : Array CpInfo := pool [(2, .class_ 4), (1, u "java/lang/Object"), (0, u "<init>"), (0, u "()V"), (0, .integer 2147483647), (0, .fieldref 9 10), (0, .class_ 11), (0, .nameAndType 12 13), (0, u "com/example/urd/urd/functions/ComparisonOperator"), (0, u "EQ"), (0, u "Lcom/example/urd/urd/functions/ComparisonOperator;"), (0, .fieldref 9 15), (0, .nameAndType 16 13), (0, u "NE"), (0, .fieldref 9 18), (0, .nameAndType 19 13), (0, u "LT"), (0, .fieldref 9 21), (0, .nameAndType 22 13), (0, u "LE"), (0, .fieldref 9 24), (0, .nameAndType 25 13), (0, u "GT"), (0, .fieldref 9 27), (0, .nameAndType 28 13), (0, u "GE"), (0, .methodref 9 30), (0, .nameAndType 31 32), (0, u "holds"), (0, u "(I)Z"), (0, .class_ 34), (0, u "com/example/urd/urd/functions/ComparisonOperatorHoldsPinLaw"), (2, u "law"), (0, u "(III)Z")] 3

def k1m0 : Method := { name := "<init>", desc := "()V", sig := { parameters := [], returnType := none }, accessFlags := 1, code := none }
def k1c1 : Code := { maxStack := 2, maxLocals := 9, code := code, exceptionTable := #[], attributes := #[] }
def k1m1 : Method := { name := "law", desc := "(III)Z", sig := { parameters := [.int, .int, .int], returnType := some .boolean }, accessFlags := 9, code := some k1c1 }
/-- com/example/urd/urd/functions/ComparisonOperatorHoldsPinLaw -/
def k1 : Class := { plain "com/example/urd/urd/functions/ComparisonOperatorHoldsPinLaw" (some 0) with
  accessFlags := 49
  interfaces := #[]
  cf := some (fileOf pool1 33 #[] #[{ accessFlags := 1, nameIndex := 5, descriptorIndex := 6, attributes := #[] }, { accessFlags := 9, nameIndex := 37, descriptorIndex := 38, attributes := #[] }] 49 2 #[] #[])
  fields := #[]
  methods := #[k1m0, k1m1]
  instanceTypes := #[]
  staticTypes := #[]
  resolved := Array.replicate 42 none
  statics := none }

def pool2 : Array CpInfo := pool [(1, .class_ 2), (0, u "java/lang/constant/Constable"), (0, .class_ 4), (0, u "java/lang/Object")] 6

/-- java/lang/constant/Constable -/
def k2 : Class := { plain "java/lang/constant/Constable" (some 0) with
  accessFlags := 1537
  interfaces := #[]
  cf := some (fileOf pool2 1 #[] #[] 1537 3 #[] #[])
  fields := #[]
  methods := #[]
  instanceTypes := #[]
  staticTypes := #[]
  resolved := Array.replicate 11 none
  statics := none }

def pool3 : Array CpInfo := pool [(1, .class_ 2), (0, u "java/lang/Comparable"), (0, .class_ 4), (0, u "java/lang/Object")] 7

/-- java/lang/Comparable -/
def k3 : Class := { plain "java/lang/Comparable" (some 0) with
  accessFlags := 1537
  interfaces := #[]
  cf := some (fileOf pool3 1 #[] #[] 1537 3 #[] #[])
  fields := #[]
  methods := #[]
  instanceTypes := #[]
  staticTypes := #[]
  resolved := Array.replicate 12 none
  statics := none }

def pool4 : Array CpInfo := pool [(1, .class_ 2), (0, u "java/io/Serializable"), (0, .class_ 4), (0, u "java/lang/Object")] 2

/-- java/io/Serializable -/
def k4 : Class := { plain "java/io/Serializable" (some 0) with
  accessFlags := 1537
  interfaces := #[]
  cf := some (fileOf pool4 1 #[] #[] 1537 3 #[] #[])
  fields := #[]
  methods := #[]
  instanceTypes := #[]
  staticTypes := #[]
  resolved := Array.replicate 7 none
  statics := none }

def pool5 : Array CpInfo := pool [(2, .class_ 4), (1, u "java/lang/Enum"), (0, u "name"), (0, u "Ljava/lang/String;"), (0, .fieldref 2 8), (0, .nameAndType 9 10), (0, u "ordinal"), (0, u "I"), (1, .class_ 14), (1, u "java/lang/Object"), (4, u "hash"), (86, .class_ 108), (1, u "java/lang/Enum$EnumDesc"), (2, .class_ 112), (0, u "java/lang/constant/Constable"), (0, .class_ 114), (0, u "java/lang/Comparable"), (0, .class_ 116), (0, u "java/io/Serializable"), (9, u "()I")] 77

def k5c0 : Code := { maxStack := 1, maxLocals := 1, code := jdk_37_method_2_code, exceptionTable := #[], attributes := #[] }
def k5m0 : Method := { name := "ordinal", desc := "()I", sig := { parameters := [], returnType := some .int }, accessFlags := 17, code := some k5c0 }
/-- java/lang/Enum -/
def k5 : Class := { plain "java/lang/Enum" (some 0) with
  accessFlags := 1057
  interfaces := #[2, 3, 4]
  cf := some (fileOf pool5 2 #[.nestMembers #[106]] #[{ accessFlags := 17, nameIndex := 9, descriptorIndex := 126, attributes := #[] }] 1057 12 #[111, 113, 115] #[{ accessFlags := 18, nameIndex := 5, descriptorIndex := 6, attributes := #[] }, { accessFlags := 18, nameIndex := 9, descriptorIndex := 10, attributes := #[] }, { accessFlags := 2, nameIndex := 19, descriptorIndex := 10, attributes := #[] }])
  fields := #[{ name := "name", type := (.object "java/lang/String"), accessFlags := 18, slot := 0, constantValue := 0 }, { name := "ordinal", type := .int, accessFlags := 18, slot := 1, constantValue := 0 }, { name := "hash", type := .int, accessFlags := 2, slot := 2, constantValue := 0 }]
  methods := #[k5m0]
  instanceTypes := #[(.object "java/lang/String"), .int, .int]
  staticTypes := #[]
  resolved := Array.replicate 204 none
  statics := none }

def pool6 : Array CpInfo := pool [(1, .class_ 2), (0, u "com/example/urd/urd/functions/ComparisonOperator"), (2, u "EQ"), (0, u "Lcom/example/urd/urd/functions/ComparisonOperator;"), (2, u "NE"), (2, u "LT"), (2, u "LE"), (2, u "GT"), (2, u "GE"), (2, u "$VALUES"), (0, u "[Lcom/example/urd/urd/functions/ComparisonOperator;"), (6, .class_ 34), (1, u "java/lang/Enum"), (8, u "general"), (0, u "Ljava/lang/String;"), (2, u "value"), (0, .methodref 1 49), (0, .nameAndType 50 51), (0, u "ordinal"), (0, u "()I"), (50, u "holds"), (0, u "(I)Z")] 5

def k6c0 : Code := { maxStack := 1, maxLocals := 2, code := prog_24_method_7_code, exceptionTable := #[], attributes := #[] }
def k6m0 : Method := { name := "holds", desc := "(I)Z", sig := { parameters := [.int], returnType := some .boolean }, accessFlags := 0, code := some k6c0 }
/-- com/example/urd/urd/functions/ComparisonOperator -/
def k6 : Class := { plain "com/example/urd/urd/functions/ComparisonOperator" (some 5) with
  accessFlags := 16433
  interfaces := #[]
  cf := some (fileOf pool6 1 #[] #[{ accessFlags := 0, nameIndex := 102, descriptorIndex := 103, attributes := #[] }] 16433 32 #[] #[{ accessFlags := 16409, nameIndex := 5, descriptorIndex := 6, attributes := #[] }, { accessFlags := 16409, nameIndex := 9, descriptorIndex := 6, attributes := #[] }, { accessFlags := 16409, nameIndex := 12, descriptorIndex := 6, attributes := #[] }, { accessFlags := 16409, nameIndex := 15, descriptorIndex := 6, attributes := #[] }, { accessFlags := 16409, nameIndex := 18, descriptorIndex := 6, attributes := #[] }, { accessFlags := 16409, nameIndex := 21, descriptorIndex := 6, attributes := #[] }, { accessFlags := 18, nameIndex := 43, descriptorIndex := 44, attributes := #[] }, { accessFlags := 18, nameIndex := 47, descriptorIndex := 44, attributes := #[] }, { accessFlags := 4122, nameIndex := 24, descriptorIndex := 25, attributes := #[] }])
  fields := #[{ name := "EQ", type := (.object "com/example/urd/urd/functions/ComparisonOperator"), accessFlags := 16409, slot := 0, constantValue := 0 }, { name := "NE", type := (.object "com/example/urd/urd/functions/ComparisonOperator"), accessFlags := 16409, slot := 1, constantValue := 0 }, { name := "LT", type := (.object "com/example/urd/urd/functions/ComparisonOperator"), accessFlags := 16409, slot := 2, constantValue := 0 }, { name := "LE", type := (.object "com/example/urd/urd/functions/ComparisonOperator"), accessFlags := 16409, slot := 3, constantValue := 0 }, { name := "GT", type := (.object "com/example/urd/urd/functions/ComparisonOperator"), accessFlags := 16409, slot := 4, constantValue := 0 }, { name := "GE", type := (.object "com/example/urd/urd/functions/ComparisonOperator"), accessFlags := 16409, slot := 5, constantValue := 0 }, { name := "general", type := (.object "java/lang/String"), accessFlags := 18, slot := 3, constantValue := 0 }, { name := "value", type := (.object "java/lang/String"), accessFlags := 18, slot := 4, constantValue := 0 }, { name := "$VALUES", type := (.array (.object "com/example/urd/urd/functions/ComparisonOperator")), accessFlags := 4122, slot := 6, constantValue := 0 }]
  methods := #[k6m0]
  instanceTypes := #[(.object "java/lang/String"), .int, .int, (.object "java/lang/String"), (.object "java/lang/String")]
  staticTypes := #[(.object "com/example/urd/urd/functions/ComparisonOperator"), (.object "com/example/urd/urd/functions/ComparisonOperator"), (.object "com/example/urd/urd/functions/ComparisonOperator"), (.object "com/example/urd/urd/functions/ComparisonOperator"), (.object "com/example/urd/urd/functions/ComparisonOperator"), (.object "com/example/urd/urd/functions/ComparisonOperator"), (.array (.object "com/example/urd/urd/functions/ComparisonOperator"))]
  resolved := Array.replicate 109 none
  statics := some 0 }

def pool7 : Array CpInfo := pool [(1, u "java/lang/Cloneable"), (0, .class_ 1), (0, u "java/lang/Object"), (0, .class_ 3)] 3

/-- java/lang/Cloneable -/
def k7 : Class := { plain "java/lang/Cloneable" (some 0) with
  accessFlags := 1537
  interfaces := #[]
  cf := some (fileOf pool7 2 #[] #[] 1537 4 #[] #[])
  fields := #[]
  methods := #[]
  instanceTypes := #[]
  staticTypes := #[]
  resolved := Array.replicate 8 none
  statics := none }

/-- the primitive byte -/
def k8 : Class := { plain "byte" none with kind := .primitive 'B', accessFlags := 0x411 }
/-- [B -/
def k9 : Class := { plain "[B" (some 0) with kind := .array 8 .byte, interfaces := #[7, 4], accessFlags := 1041 }

/-- the primitive int -/
def k10 : Class := { plain "int" none with kind := .primitive 'I', accessFlags := 0x411 }
/-- [I -/
def k11 : Class := { plain "[I" (some 0) with kind := .array 10 .int, interfaces := #[7, 4], accessFlags := 1041 }

def heap : Heap := #[{ cls := 6, slots := #[.ref 1, .ref 2, .ref 3, .ref 4, .ref 5, .ref 6, .null], vm := .statics 6 },
  { cls := 6, slots := #[.null, .int 0, .int 0, .null, .null], vm := .none },
  { cls := 6, slots := #[.null, .int 1, .int 0, .null, .null], vm := .none },
  { cls := 6, slots := #[.null, .int 2, .int 0, .null, .null], vm := .none },
  { cls := 6, slots := #[.null, .int 3, .int 0, .null, .null], vm := .none },
  { cls := 6, slots := #[.null, .int 4, .int 0, .null, .null], vm := .none },
  { cls := 6, slots := #[.null, .int 5, .int 0, .null, .null], vm := .none }]
def classes : Array Class := #[k0, k1, k2, k3, k4, k5, k6, k7, k8, k9, k10, k11]
def interned : List (Array UInt16 × Addr) := []
def slotsUsed : Nat := 37
def theMethod : MethodId := ⟨1, 1⟩
def args0 : Array Value := #[.int 5, .int 6, .int 7]
def aboutOver (below : List Frame) : State where
  vm := { classes := classes, interned := interned.toArray }
  heap := heap
  slotsUsed := slotsUsed
  threads := #[{ frames := .invoking theMethod args0 :: below }]
def below0 : List Frame := [.native { method := ⟨0, 0⟩, args := #[] }]
def about1 : State := aboutOver below0
def p0 : Program := .bare "" "" ""
def e0 : Env := launch0.env 0 0 0
theorem w_frames : about1.frames = Frame.invoking theMethod args0 :: below0 := rfl
set_option maxRecDepth 65536 in
theorem w_args : argsFit about1.vm theMethod args0 = true := by decide +kernel
set_option maxRecDepth 65536 in
theorem w_heap : heapFits about1 = true := by decide +kernel
set_option maxRecDepth 65536 in
theorem w_runnable : about1.curStatus? = some .runnable := by decide +kernel
set_option maxRecDepth 65536 in
theorem w_alone : about1.alone = true := by decide +kernel
set_option maxRecDepth 65536 in
theorem w_named : about1.methodNamed? x = some theMethod := by decide +kernel
set_option maxRecDepth 65536 in
theorem w_hears : about1.hears theMethod below0 = true := by decide +kernel
set_option maxRecDepth 65536 in
theorem w_ripe : about1.ripe theMethod args0 below0 = true := by decide +kernel
theorem w_running : about1.status = .running := rfl
set_option maxRecDepth 65536 in
theorem w_room : about1.hasRoom e0.platform room_1 = true :=
  launch0.hasRoom_least _ room_1 (by decide +kernel) (by decide +kernel) (by decide +kernel) (by decide +kernel) (by decide +kernel) (by decide +kernel)
theorem allAtoms_all (ts : List Jvm.Cond) (a : Array Jvm.Value) (st : Jvm.State) : (allAtoms ts).before a st = ts.all (fun c => c.before a st) := by
  induction ts with
  | nil => rfl
  | cons c t ih =>
    show (Jvm.Cond.and c (allAtoms t)).before a st = _
    rw [Jvm.Cond.before_and, ih, List.all_cons]
def words1 : List Jvm.Cond := Jvm.Cond.code x code maxLocals ret :: tables_1
/-- a 'code' word, met by the world's own term for the bytes: nothing is compared byte by byte -/
theorem code_word {y : MethodName} {bytes : ByteArray} {mx : Nat} {rt : Option FieldType} {a : Array Value} {s : State} {m : MethodId} {meth : Method} {c : Code} (h1 : s.methodNamed? y = some m) (h2 : s.vm.method? m = some meth) (h3 : meth.code = some c) (h4 : c.code = bytes)
    (h5 : (c.maxLocals == mx && c.exceptionTable.isEmpty && decide (c.maxStack ≤ mostOperands) && decide (meth.sig.returnType = rt) && !meth.locks && decide (parseMethodDescriptor y.desc = some meth.sig)) = true) : (Jvm.Cond.code y bytes mx rt).before a s = true := by
  simp only [Bool.and_eq_true, beq_iff_eq, Bool.not_eq_true', decide_eq_true_eq] at h5
  obtain ⟨⟨⟨⟨⟨g1, g2⟩, g3⟩, g4⟩, g5⟩, g6⟩ := h5
  simp [Cond.before, Cond.holds, Cond.value, h1, h2, h3, h4, g1, g2, g3, g4, g5, g6]
def isCode : Jvm.Cond → Bool
  | .code _ _ _ _ => true
  | _ => false
theorem all_split {L : List Jvm.Cond} {P : Jvm.Cond → Bool} (h1 : L.all (fun c => isCode c || P c) = true) (h2 : ∀ c ∈ L.filter isCode, P c = true) : L.all P = true := by
  refine List.all_eq_true.mpr fun c hc => ?_
  have h := List.all_eq_true.mp h1 c hc
  rcases Bool.eq_false_or_eq_true (isCode c) with hi | hi
  · exact h2 c (List.mem_filter.mpr ⟨hc, hi⟩)
  · simpa [hi] using h
set_option maxRecDepth 65536 in
theorem w_c0 : (Jvm.Cond.code x code maxLocals ret).before args0 about1 = true := code_word (m := ⟨1, 1⟩) (meth := k1m1) (c := k1c1) (by decide +kernel) rfl rfl rfl (by decide +kernel)
set_option maxRecDepth 65536 in
theorem w_c1 : (Jvm.Cond.code ({ cls := "com/example/urd/urd/functions/ComparisonOperator", name := "holds", desc := "(I)Z" } : Jvm.MethodName) prog_24_method_7_code (2 : Nat) (Option.some Jvm.ClassFile.FieldType.boolean)).before args0 about1 = true := code_word (m := ⟨6, 0⟩) (meth := k6m0) (c := k6c0) (by decide +kernel) rfl rfl rfl (by decide +kernel)
set_option maxRecDepth 65536 in
theorem w_c2 : (Jvm.Cond.code ({ cls := "java/lang/Enum", name := "ordinal", desc := "()I" } : Jvm.MethodName) jdk_37_method_2_code (1 : Nat) (Option.some Jvm.ClassFile.FieldType.int)).before args0 about1 = true := code_word (m := ⟨5, 0⟩) (meth := k5m0) (c := k5c0) (by decide +kernel) rfl rfl rfl (by decide +kernel)
def codes1 : List Jvm.Cond := [Jvm.Cond.code x code maxLocals ret, Jvm.Cond.code ({ cls := "com/example/urd/urd/functions/ComparisonOperator", name := "holds", desc := "(I)Z" } : Jvm.MethodName) prog_24_method_7_code (2 : Nat) (Option.some Jvm.ClassFile.FieldType.boolean), Jvm.Cond.code ({ cls := "java/lang/Enum", name := "ordinal", desc := "()I" } : Jvm.MethodName) jdk_37_method_2_code (1 : Nat) (Option.some Jvm.ClassFile.FieldType.int)]
set_option maxRecDepth 65536 in
theorem codes_eq : words1.filter isCode = codes1 := rfl
theorem w_codes : ∀ c ∈ words1.filter isCode, c.before args0 about1 = true := by
  rw [codes_eq]
  intro c hc
  simp only [codes1, List.mem_cons, List.not_mem_nil, or_false] at hc
  rcases hc with rfl | rfl | rfl
  · exact w_c0
  · exact w_c1
  · exact w_c2
set_option maxRecDepth 65536 in
theorem w_t1 : (words1.take 24).all (fun c => isCode c || c.before args0 about1) = true := by decide +kernel
set_option maxRecDepth 65536 in
theorem w_t2 : (words1.drop 24).all (fun c => isCode c || c.before args0 about1) = true := by decide +kernel
theorem w_tables : (allAtoms (Jvm.Cond.code x code maxLocals ret :: tables_1)).before args0 about1 = true := by
  rw [allAtoms_all]
  show words1.all (fun c => c.before args0 about1) = true
  refine all_split ?_ w_codes
  rw [← List.take_append_drop 24 words1, List.all_append, w_t1, w_t2]
  rfl
set_option maxRecDepth 65536 in
theorem w_case : (Jvm.Cond.and given_1 narrow_1).before args0 about1 = true := by decide +kernel
theorem w_applies : (headSpec (Jvm.Cond.code x code maxLocals ret :: tables_1) room_1).applies x e0.platform about1 = true :=
  (Spec.applies_iff w_frames).mpr ⟨w_running, w_runnable, w_alone, w_named, w_hears, w_ripe, w_room, w_tables⟩
theorem atStart : AtStart classFile x code maxLocals ret World_1 tables_1 room_1 Calls_1 rest_1 Pre_1 launch0 p0 e0 about1 theMethod args0 below0 :=
  ⟨lists_1, trivial, launch0.admits_env _ _ _, launch0.least_env, fairChoices_fair.cas, fairChoices_fair.clock, w_frames, w_args, w_heap, w_applies, trivial, trivial, w_case⟩
end start1
theorem witness_1 : WitnessClaimed_1 := ⟨start1.p0, start1.e0, start1.about1, start1.theMethod, start1.args0, start1.below0, start1.atStart⟩
end Jvm.Pilot.@@N@@
