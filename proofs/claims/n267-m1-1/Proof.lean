import JvmDerived
import JvmDerived.Pilot.@@N@@Statement
import JvmDerived.Pilot.@@N@@Code
set_option linter.unusedVariables false
set_option linter.unusedSimpArgs false
@@BLOCK:NumsL.lean.txt@@
namespace Jvm.RoadKit
open Sem ClassFile Op Lib Jvm.Stand Jvm.Free Jvm.LawKit
/-- a step taken in front of a run that ends well -/
theorem own_go {tb : Tables} {e : Env} {below : List Frame} {a b : State} {P : State → Outcome → Prop} (h : ∀ target, Steps tb e below b target → Steps tb e below a target) (k : ∃ t o, Steps tb e below b t ∧ P t o) : ∃ t o, Steps tb e below a t ∧ P t o := by
  obtain ⟨t, o, h1, h2⟩ := k
  exact ⟨t, o, h _ h1, h2⟩
/-- several roads meet -/
theorem own_join {A : Type} {C : A → Prop} {tb : Tables} {e : Env} {below : List Frame} {P : State → Outcome → Prop} {f : A → State} {a : State} (body : ∀ x, C x → ∃ t o, Steps tb e below (f x) t ∧ P t o)
    (use : (∀ x, C x → ∃ t o, Steps tb e below (f x) t ∧ P t o) → ∃ t o, Steps tb e below a t ∧ P t o) : ∃ t o, Steps tb e below a t ∧ P t o := use body
/-- a field of an object of the start that the case fixes as an int -/
theorem own_fint {args : Array Value} {s : State} {t : Term} {C n d : String} {k : Int32} {x : Addr} (h : (Jvm.Cond.eq (Term.field t C n d) (Term.int k)).value args s none s [] = some true) (ht : t.eval args s none [] s = some (.ref x)) : Fld s s.heap x C n d (.int k) := by
  obtain ⟨u, v, h1, h2, h3, h4⟩ := cmp_v (Or.inl h)
  have e2 : v = .int k := by rw [Term.int_eval] at h2; exact (Option.some.inj h2).symm
  subst e2
  obtain ⟨z, rfl⟩ : ∃ z, u = .int z := h4
  have q := gotT (Cond.eq_ints h1 h2) h
  subst q
  exact Fld.start (by rw [← fld_at (C := C) (n := n) (dd := d) ht]; exact h1)
end Jvm.RoadKit
namespace Jvm.Pilot.@@N@@
open Jvm Jvm.ClassFile Sem Op Lib Jvm.Free Jvm.Stand Jvm.LawKit Jvm.RoadKit Bundle Jvm.Pilot.@@N@@.Jvm.D
def own_pick (k : Int32) (a b c d e : Addr) : Addr := if k = 0 then a else if k = 1 then b else if k = 2 then c else if k = 3 then d else e
theorem own_pick_exa {Z : State} {C : String} {k : Int32} {a b c d e : Addr} (h1 : Exa Z Z.heap a C) (h2 : Exa Z Z.heap b C) (h3 : Exa Z Z.heap c C) (h4 : Exa Z Z.heap d C) (h5 : Exa Z Z.heap e C) : Exa Z Z.heap (own_pick k a b c d e) C := by
  unfold own_pick; repeat' split
  all_goals assumption
def own_cov (l a b : Addr) : Int32 := if a = l then 1 else if a = b then 1 else 0
theorem own_mod5 (x : Int32) : (x &&& 2147483647) % 5 = 0 ∨ (x &&& 2147483647) % 5 = 1 ∨ (x &&& 2147483647) % 5 = 2 ∨ (x &&& 2147483647) % 5 = 3 ∨ (x &&& 2147483647) % 5 = 4 := by
  have e1 : (x &&& 2147483647).toInt = x.toInt % 2 ^ 31 := Jvm.Kit.i32_mask x 2147483647 (k := 31) (by decide) (by decide)
  have e2 : ((x &&& 2147483647) % 5).toInt = (x &&& 2147483647).toInt % (5 : Int32).toInt := Jvm.Kit.i32_rem_nonneg (by omega)
  have e3 : (5 : Int32).toInt = 5 := by decide
  rw [e3] at e2
  have e0 : (0 : Int32).toInt = 0 := by decide
  have e4 : (1 : Int32).toInt = 1 := by decide
  have e5 : (2 : Int32).toInt = 2 := by decide
  have e6 : (3 : Int32).toInt = 3 := by decide
  have e7 : (4 : Int32).toInt = 4 := by decide
  simp only [← Int32.toInt_inj]
  omega
theorem own_law {g s : Int32} (hg : g = 0 ∨ g = 1 ∨ g = 2 ∨ g = 3 ∨ g = 4) (hs : s = 0 ∨ s = 1 ∨ s = 2 ∨ s = 3 ∨ s = 4) {a b c d e : Addr}
    (ab : a ≠ b) (ac : a ≠ c) (ad : a ≠ d) (ae : a ≠ e) (bc : b ≠ c) (bd : b ≠ d) (be : b ≠ e) (cd : c ≠ d) (ce : c ≠ e) (de : d ≠ e) :
    own_cov a (own_pick g a b c d e) (own_pick s a b c d e) = if g = 0 ∨ g = s then 1 else 0 := by
  rcases hg with rfl | rfl | rfl | rfl | rfl <;> rcases hs with rfl | rfl | rfl | rfl | rfl <;> simp [own_cov, own_pick, ab, ac, ad, ae, bc, bd, be, cd, ce, de, ab.symm, ac.symm, ad.symm, ae.symm, bc.symm, bd.symm, be.symm, cd.symm, ce.symm, de.symm]
theorem d1_0 : decode method_2_code 0 = .ok (.iload_n 0, 1) := by decide +kernel
theorem d1_1 : decode method_2_code 1 = .ok (.ifCond .ne 7, 3) := by decide +kernel
theorem d1_4 : decode method_2_code 4 = .ok (.getstatic 7, 3) := by decide +kernel
theorem d1_7 : decode method_2_code 7 = .ok (.areturn, 1) := by decide +kernel
theorem d1_8 : decode method_2_code 8 = .ok (.iload_n 0, 1) := by decide +kernel
theorem d1_9 : decode method_2_code 9 = .ok (.iconst 1, 1) := by decide +kernel
theorem d1_10 : decode method_2_code 10 = .ok (.if_icmp .ne 7, 3) := by decide +kernel
theorem d1_13 : decode method_2_code 13 = .ok (.getstatic 13, 3) := by decide +kernel
theorem d1_16 : decode method_2_code 16 = .ok (.areturn, 1) := by decide +kernel
theorem d1_17 : decode method_2_code 17 = .ok (.iload_n 0, 1) := by decide +kernel
theorem d1_18 : decode method_2_code 18 = .ok (.iconst 2, 1) := by decide +kernel
theorem d1_19 : decode method_2_code 19 = .ok (.if_icmp .ne 7, 3) := by decide +kernel
theorem d1_22 : decode method_2_code 22 = .ok (.getstatic 16, 3) := by decide +kernel
theorem d1_25 : decode method_2_code 25 = .ok (.areturn, 1) := by decide +kernel
theorem d1_26 : decode method_2_code 26 = .ok (.iload_n 0, 1) := by decide +kernel
theorem d1_27 : decode method_2_code 27 = .ok (.iconst 3, 1) := by decide +kernel
theorem d1_28 : decode method_2_code 28 = .ok (.if_icmp .ne 7, 3) := by decide +kernel
theorem d1_31 : decode method_2_code 31 = .ok (.getstatic 19, 3) := by decide +kernel
theorem d1_34 : decode method_2_code 34 = .ok (.areturn, 1) := by decide +kernel
theorem d1_35 : decode method_2_code 35 = .ok (.getstatic 22, 3) := by decide +kernel
theorem d1_38 : decode method_2_code 38 = .ok (.areturn, 1) := by decide +kernel
theorem pn_1 : plainName "com/example/entitlement/entitlement/policy/ActionCoversPinLaw" = true := by first | (simp [plainName, overriddenIn]; done) | decide +kernel
theorem ef_rm1 (m : MethodId) (x0 : Int32) : entryFrame m #[(.int x0)] 1 = mkF m 0 #[.val (.int x0)] [] := by first | (simp [entryFrame, mkF, argsToLocals, Value.category]; done) | rfl
def Qrm1 (Z : State) (p1 : Int32) (x_ALL : Addr) (x_VIEW : Addr) (x_CREATE : Addr) (x_UPDATE : Addr) (x_DELETE : Addr) (h0 : Heap) (n0 : Nat) (v : Option Value) (h : Heap) (L : List Loc) : Prop := v = some (.ref (own_pick p1 x_ALL x_VIEW x_CREATE x_UPDATE x_DELETE)) ∧ Fr n0 L ∧ h = h0 ∧ (Exa Z Z.heap (own_pick p1 x_ALL x_VIEW x_CREATE x_UPDATE x_DELETE) "com/example/entitlement/entitlement/policy/Action")
set_option maxRecDepth 65536 in
set_option maxHeartbeats 40000000 in
theorem rm1 (l : Launch) (Z : State) (a0 : Array Value) (hw : ∀ d ∈ tables_1, d.before a0 Z = true) (ws : List Jvm.Cond) (p1 : Int32) (x_ALL : Addr) (x_VIEW : Addr) (x_CREATE : Addr) (x_UPDATE : Addr) (x_DELETE : Addr) (h0 : Heap) (n0 : Nat) (Z0 : n0 ≤ h0.size) (O0 : Old Z n0 h0) (S_ALL : Sta Z Z.heap "com/example/entitlement/entitlement/policy/Action" "ALL" "Lcom/example/entitlement/entitlement/policy/Action;" (.ref x_ALL)) (S_VIEW : Sta Z Z.heap "com/example/entitlement/entitlement/policy/Action" "VIEW" "Lcom/example/entitlement/entitlement/policy/Action;" (.ref x_VIEW)) (S_CREATE : Sta Z Z.heap "com/example/entitlement/entitlement/policy/Action" "CREATE" "Lcom/example/entitlement/entitlement/policy/Action;" (.ref x_CREATE)) (S_UPDATE : Sta Z Z.heap "com/example/entitlement/entitlement/policy/Action" "UPDATE" "Lcom/example/entitlement/entitlement/policy/Action;" (.ref x_UPDATE)) (S_DELETE : Sta Z Z.heap "com/example/entitlement/entitlement/policy/Action" "DELETE" "Lcom/example/entitlement/entitlement/policy/Action;" (.ref x_DELETE)) (EZ_x_ALL : Exa Z Z.heap x_ALL "com/example/entitlement/entitlement/policy/Action") (EZ_x_VIEW : Exa Z Z.heap x_VIEW "com/example/entitlement/entitlement/policy/Action") (EZ_x_CREATE : Exa Z Z.heap x_CREATE "com/example/entitlement/entitlement/policy/Action") (EZ_x_UPDATE : Exa Z Z.heap x_UPDATE "com/example/entitlement/entitlement/policy/Action") (EZ_x_DELETE : Exa Z Z.heap x_DELETE "com/example/entitlement/entitlement/policy/Action") :
    MetFree l (⟨"com/example/entitlement/entitlement/policy/ActionCoversPinLaw", "pick", "(I)Lcom/example/entitlement/entitlement/policy/Action;"⟩ : MethodName) (head1 (Jvm.Cond.code (⟨"com/example/entitlement/entitlement/policy/ActionCoversPinLaw", "pick", "(I)Lcom/example/entitlement/entitlement/policy/Action;"⟩ : MethodName) method_2_code 1 (some (.object "com/example/entitlement/entitlement/policy/Action")) :: ws) ({ frames := 0, cells := 0, slots := 0, locals := 0 } : Room)) (fun a U => a = #[(.int p1)] ∧ Z.Warmed39 U.vm ∧ U.heap = h0) (fun _ _ _ _ _ => True) (fun _ U o U' => ∃ v L, o = .returned v ∧ Qrm1 Z p1 x_ALL x_VIEW x_CREATE x_UPDATE x_DELETE h0 n0 v U'.heap L ∧ FrameEnd U o U' L ({ frames := 0, cells := 0, slots := 0, locals := 0 } : Room).cells ({ frames := 0, cells := 0, slots := 0, locals := 0 } : Room).slots) := by
  refine MetFree.of_bodySF (plainFor_of_name pn_1) hisR ?_
  intro p e s m args below meth c s₁ Bd hml0 hP hK
  obtain ⟨rfl, hZ, hh⟩ := hP
  have hx := Bd.exec
  have hby := Bd.bytes
  have hml : c.maxLocals = 1 := hml0
  have hown : s.vm.findClass "com/example/entitlement/entitlement/policy/ActionCoversPinLaw" = some m.cls := findClass_of_methodNamed Bd.named
  have hnm := (name_of_methodNamed Bd.named Bd.method).1
  have X0 : Stand p l e ({ frames := 0, cells := 0, slots := 0, locals := 0 } : Room) s m #[(.int p1)] below meth c s₁ [] 0 0 := Stand.of_body Bd
  have e0 : s₁.heap = h0 := by rw [← hh, Bd.state]; rfl
  have N0 := Fr.nil n0
  refine own_go (b := (s₁.setTop (mkF m 0 #[.val (.int p1)] []))) (fun _ k => castTop (ef_rm1 m p1) k) ?_
  refine own_go (b := (s₁.setTop (mkF m 1 #[.val (.int p1)] [(.int p1)]))) (fun _ k => XS.iloadN X0.here hx rfl (hb hby d1_0) rfl k) ?_
  by_cases hc1_1 : p1 = (0 : Int32)
  · skip
    refine own_go (b := (s₁.setTop (mkF m 4 #[.val (.int p1)] []))) (fun _ k => XS.ifNo X0.here hx rfl (hb hby d1_1) rfl ((if0 _ _).trans (teq hc1_1).2) k) ?_
    obtain ⟨T2, X2, e2, st2⟩ := getS2 X0 hx hZ hown (host := "") (Or.inl (hw _ (List.mem_of_getElem? (i := 5) rfl))) Via.refl e0 (S_ALL.ext O0.2) (g := (mkF m 4 #[.val (.int p1)] [])) rfl (hb hby d1_4)
    refine own_go (b := (T2.setTop (mkF m 7 #[.val (.int p1)] [(.ref x_ALL)]))) (fun _ k => st2 _ k) ?_
    obtain ⟨fs, hr, hrun, hended, hW, hsame⟩ := X2.leave (v := some (.ref x_ALL)) (fun h => by rw [Bd.returns] at h; cases h)
    exact ⟨_, _, retOut X2 hx Bd.returns rfl (Or.inr (Or.inr (Or.inr (Or.inr ⟨rfl, rfl, rfl⟩)))) (hb hby d1_7) hr, hrun, hended, _, _, rfl, (show Qrm1 Z p1 x_ALL x_VIEW x_CREATE x_UPDATE x_DELETE h0 n0 _ T2.heap _ from (by rw [e2]; exact ⟨(by simp [own_pick, hc1_1]), N0, rfl, (own_pick_exa EZ_x_ALL EZ_x_VIEW EZ_x_CREATE EZ_x_UPDATE EZ_x_DELETE)⟩)), ⟨_, rfl⟩, hW, hsame.mono (by decide) (by decide)⟩
  · skip
    refine own_go (b := (s₁.setTop (mkF m 10 #[.val (.int p1)] [(.int (1 : Int32)), (.int p1)]))) (fun _ k => XS.ifYes X0.here hx rfl (pc0 := 1) (pc' := 8) rfl (hb hby d1_1) rfl ((if0 _ _).trans (feq hc1_1).2) (by decide) (by decide) (XS.iloadN X0.here hx rfl (hb hby d1_8) rfl (XS.iconst X0.here hx rfl (hb hby d1_9) k))) ?_
    by_cases hc10_3 : p1 = (1 : Int32)
    · skip
      refine own_go (b := (s₁.setTop (mkF m 13 #[.val (.int p1)] []))) (fun _ k => XS.icmpNo X0.here hx rfl (hb hby d1_10) rfl (teq hc10_3).2 k) ?_
      obtain ⟨T4, X4, e4, st4⟩ := getS2 X0 hx hZ hown (host := "") (Or.inl (hw _ (List.mem_of_getElem? (i := 18) rfl))) Via.refl e0 (S_VIEW.ext O0.2) (g := (mkF m 13 #[.val (.int p1)] [])) rfl (hb hby d1_13)
      refine own_go (b := (T4.setTop (mkF m 16 #[.val (.int p1)] [(.ref x_VIEW)]))) (fun _ k => st4 _ k) ?_
      obtain ⟨fs, hr, hrun, hended, hW, hsame⟩ := X4.leave (v := some (.ref x_VIEW)) (fun h => by rw [Bd.returns] at h; cases h)
      exact ⟨_, _, retOut X4 hx Bd.returns rfl (Or.inr (Or.inr (Or.inr (Or.inr ⟨rfl, rfl, rfl⟩)))) (hb hby d1_16) hr, hrun, hended, _, _, rfl, (show Qrm1 Z p1 x_ALL x_VIEW x_CREATE x_UPDATE x_DELETE h0 n0 _ T4.heap _ from (by rw [e4]; exact ⟨(by simp [own_pick, hc1_1, hc10_3]), N0, rfl, (own_pick_exa EZ_x_ALL EZ_x_VIEW EZ_x_CREATE EZ_x_UPDATE EZ_x_DELETE)⟩)), ⟨_, rfl⟩, hW, hsame.mono (by decide) (by decide)⟩
    · skip
      refine own_go (b := (s₁.setTop (mkF m 19 #[.val (.int p1)] [(.int (2 : Int32)), (.int p1)]))) (fun _ k => XS.icmpYes X0.here hx rfl (pc0 := 10) (pc' := 17) rfl (hb hby d1_10) rfl (feq hc10_3).2 (by decide) (by decide) (XS.iloadN X0.here hx rfl (hb hby d1_17) rfl (XS.iconst X0.here hx rfl (hb hby d1_18) k))) ?_
      by_cases hc19_5 : p1 = (2 : Int32)
      · skip
        refine own_go (b := (s₁.setTop (mkF m 22 #[.val (.int p1)] []))) (fun _ k => XS.icmpNo X0.here hx rfl (hb hby d1_19) rfl (teq hc19_5).2 k) ?_
        obtain ⟨T6, X6, e6, st6⟩ := getS2 X0 hx hZ hown (host := "") (Or.inl (hw _ (List.mem_of_getElem? (i := 20) rfl))) Via.refl e0 (S_CREATE.ext O0.2) (g := (mkF m 22 #[.val (.int p1)] [])) rfl (hb hby d1_22)
        refine own_go (b := (T6.setTop (mkF m 25 #[.val (.int p1)] [(.ref x_CREATE)]))) (fun _ k => st6 _ k) ?_
        obtain ⟨fs, hr, hrun, hended, hW, hsame⟩ := X6.leave (v := some (.ref x_CREATE)) (fun h => by rw [Bd.returns] at h; cases h)
        exact ⟨_, _, retOut X6 hx Bd.returns rfl (Or.inr (Or.inr (Or.inr (Or.inr ⟨rfl, rfl, rfl⟩)))) (hb hby d1_25) hr, hrun, hended, _, _, rfl, (show Qrm1 Z p1 x_ALL x_VIEW x_CREATE x_UPDATE x_DELETE h0 n0 _ T6.heap _ from (by rw [e6]; exact ⟨(by simp [own_pick, hc1_1, hc10_3, hc19_5]), N0, rfl, (own_pick_exa EZ_x_ALL EZ_x_VIEW EZ_x_CREATE EZ_x_UPDATE EZ_x_DELETE)⟩)), ⟨_, rfl⟩, hW, hsame.mono (by decide) (by decide)⟩
      · skip
        refine own_go (b := (s₁.setTop (mkF m 28 #[.val (.int p1)] [(.int (3 : Int32)), (.int p1)]))) (fun _ k => XS.icmpYes X0.here hx rfl (pc0 := 19) (pc' := 26) rfl (hb hby d1_19) rfl (feq hc19_5).2 (by decide) (by decide) (XS.iloadN X0.here hx rfl (hb hby d1_26) rfl (XS.iconst X0.here hx rfl (hb hby d1_27) k))) ?_
        by_cases hc28_7 : p1 = (3 : Int32)
        · skip
          refine own_go (b := (s₁.setTop (mkF m 31 #[.val (.int p1)] []))) (fun _ k => XS.icmpNo X0.here hx rfl (hb hby d1_28) rfl (teq hc28_7).2 k) ?_
          obtain ⟨T8, X8, e8, st8⟩ := getS2 X0 hx hZ hown (host := "") (Or.inl (hw _ (List.mem_of_getElem? (i := 8) rfl))) Via.refl e0 (S_UPDATE.ext O0.2) (g := (mkF m 31 #[.val (.int p1)] [])) rfl (hb hby d1_31)
          refine own_go (b := (T8.setTop (mkF m 34 #[.val (.int p1)] [(.ref x_UPDATE)]))) (fun _ k => st8 _ k) ?_
          obtain ⟨fs, hr, hrun, hended, hW, hsame⟩ := X8.leave (v := some (.ref x_UPDATE)) (fun h => by rw [Bd.returns] at h; cases h)
          exact ⟨_, _, retOut X8 hx Bd.returns rfl (Or.inr (Or.inr (Or.inr (Or.inr ⟨rfl, rfl, rfl⟩)))) (hb hby d1_34) hr, hrun, hended, _, _, rfl, (show Qrm1 Z p1 x_ALL x_VIEW x_CREATE x_UPDATE x_DELETE h0 n0 _ T8.heap _ from (by rw [e8]; exact ⟨(by simp [own_pick, hc1_1, hc10_3, hc19_5, hc28_7]), N0, rfl, (own_pick_exa EZ_x_ALL EZ_x_VIEW EZ_x_CREATE EZ_x_UPDATE EZ_x_DELETE)⟩)), ⟨_, rfl⟩, hW, hsame.mono (by decide) (by decide)⟩
        · skip
          refine own_go (b := (s₁.setTop (mkF m 35 #[.val (.int p1)] []))) (fun _ k => XS.icmpYes X0.here hx rfl (pc0 := 28) (pc' := 35) rfl (hb hby d1_28) rfl (feq hc28_7).2 (by decide) (by decide) k) ?_
          obtain ⟨T9, X9, e9, st9⟩ := getS2 X0 hx hZ hown (host := "") (Or.inl (hw _ (List.mem_of_getElem? (i := 16) rfl))) Via.refl e0 (S_DELETE.ext O0.2) (g := (mkF m 35 #[.val (.int p1)] [])) rfl (hb hby d1_35)
          refine own_go (b := (T9.setTop (mkF m 38 #[.val (.int p1)] [(.ref x_DELETE)]))) (fun _ k => st9 _ k) ?_
          obtain ⟨fs, hr, hrun, hended, hW, hsame⟩ := X9.leave (v := some (.ref x_DELETE)) (fun h => by rw [Bd.returns] at h; cases h)
          exact ⟨_, _, retOut X9 hx Bd.returns rfl (Or.inr (Or.inr (Or.inr (Or.inr ⟨rfl, rfl, rfl⟩)))) (hb hby d1_38) hr, hrun, hended, _, _, rfl, (show Qrm1 Z p1 x_ALL x_VIEW x_CREATE x_UPDATE x_DELETE h0 n0 _ T9.heap _ from (by rw [e9]; exact ⟨(by simp [own_pick, hc1_1, hc10_3, hc19_5, hc28_7]), N0, rfl, (own_pick_exa EZ_x_ALL EZ_x_VIEW EZ_x_CREATE EZ_x_UPDATE EZ_x_DELETE)⟩)), ⟨_, rfl⟩, hW, hsame.mono (by decide) (by decide)⟩
theorem d2_0 : decode prog_14_method_5_code 0 = .ok (.aload_n 0, 1) := by decide +kernel
theorem d2_1 : decode prog_14_method_5_code 1 = .ok (.getstatic 3, 3) := by decide +kernel
theorem d2_4 : decode prog_14_method_5_code 4 = .ok (.if_acmp .eq 8, 3) := by decide +kernel
theorem d2_7 : decode prog_14_method_5_code 7 = .ok (.aload_n 0, 1) := by decide +kernel
theorem d2_8 : decode prog_14_method_5_code 8 = .ok (.aload_n 1, 1) := by decide +kernel
theorem d2_9 : decode prog_14_method_5_code 9 = .ok (.if_acmp .ne 7, 3) := by decide +kernel
theorem d2_12 : decode prog_14_method_5_code 12 = .ok (.iconst 1, 1) := by decide +kernel
theorem d2_13 : decode prog_14_method_5_code 13 = .ok (.goto 4, 3) := by decide +kernel
theorem d2_16 : decode prog_14_method_5_code 16 = .ok (.iconst 0, 1) := by decide +kernel
theorem d2_17 : decode prog_14_method_5_code 17 = .ok (.ireturn, 1) := by decide +kernel
theorem pn_2 : plainName "com/example/entitlement/entitlement/policy/Action" = true := by first | (simp [plainName, overriddenIn]; done) | decide +kernel
theorem ef_rm2 (m : MethodId) (x0 : Addr) (x1 : Addr) : entryFrame m #[(.ref x0), (.ref x1)] 2 = mkF m 0 #[.val (.ref x0), .val (.ref x1)] [] := by first | (simp [entryFrame, mkF, argsToLocals, Value.category]; done) | rfl
def Qrm2 (Z : State) (a1 : Addr) (a2 : Addr) (x_ALL : Addr) (h0 : Heap) (n0 : Nat) (v : Option Value) (h : Heap) (L : List Loc) : Prop := v = some (.int (own_cov x_ALL a1 a2)) ∧ Fr n0 L ∧ h = h0
set_option maxRecDepth 65536 in
set_option maxHeartbeats 40000000 in
theorem rm2 (l : Launch) (Z : State) (a0 : Array Value) (hw : ∀ d ∈ tables_1, d.before a0 Z = true) (ws : List Jvm.Cond) (a1 : Addr) (a2 : Addr) (x_ALL : Addr) (h0 : Heap) (n0 : Nat) (Z0 : n0 ≤ h0.size) (O0 : Old Z n0 h0) (S_ALL : Sta Z Z.heap "com/example/entitlement/entitlement/policy/Action" "ALL" "Lcom/example/entitlement/entitlement/policy/Action;" (.ref x_ALL)) :
    MetFree l (⟨"com/example/entitlement/entitlement/policy/Action", "covers", "(Lcom/example/entitlement/entitlement/policy/Action;)Z"⟩ : MethodName) (head1 (Jvm.Cond.code (⟨"com/example/entitlement/entitlement/policy/Action", "covers", "(Lcom/example/entitlement/entitlement/policy/Action;)Z"⟩ : MethodName) prog_14_method_5_code 2 (some .boolean) :: ws) ({ frames := 0, cells := 0, slots := 0, locals := 0 } : Room)) (fun a U => a = #[(.ref a1), (.ref a2)] ∧ Z.Warmed39 U.vm ∧ U.heap = h0) (fun _ _ _ _ _ => True) (fun _ U o U' => ∃ v L, o = .returned v ∧ Qrm2 Z a1 a2 x_ALL h0 n0 v U'.heap L ∧ FrameEnd U o U' L ({ frames := 0, cells := 0, slots := 0, locals := 0 } : Room).cells ({ frames := 0, cells := 0, slots := 0, locals := 0 } : Room).slots) := by
  refine MetFree.of_bodySF (plainFor_of_name pn_2) hisR ?_
  intro p e s m args below meth c s₁ Bd hml0 hP hK
  obtain ⟨rfl, hZ, hh⟩ := hP
  have hx := Bd.exec
  have hby := Bd.bytes
  have hml : c.maxLocals = 2 := hml0
  have hown : s.vm.findClass "com/example/entitlement/entitlement/policy/Action" = some m.cls := findClass_of_methodNamed Bd.named
  have hnm := (name_of_methodNamed Bd.named Bd.method).1
  have X0 : Stand p l e ({ frames := 0, cells := 0, slots := 0, locals := 0 } : Room) s m #[(.ref a1), (.ref a2)] below meth c s₁ [] 0 0 := Stand.of_body Bd
  have e0 : s₁.heap = h0 := by rw [← hh, Bd.state]; rfl
  have N0 := Fr.nil n0
  refine own_go (b := (s₁.setTop (mkF m 0 #[.val (.ref a1), .val (.ref a2)] []))) (fun _ k => castTop (ef_rm2 m a1 a2) k) ?_
  refine own_go (b := (s₁.setTop (mkF m 1 #[.val (.ref a1), .val (.ref a2)] [(.ref a1)]))) (fun _ k => XS.aloadN X0.here hx rfl (hb hby d2_0) rfl rfl k) ?_
  obtain ⟨T1, X1, e1, st1⟩ := getS2 X0 hx hZ hown (host := "") (Or.inl (hw _ (List.mem_of_getElem? (i := 15) rfl))) Via.refl e0 (S_ALL.ext O0.2) (g := (mkF m 1 #[.val (.ref a1), .val (.ref a2)] [(.ref a1)])) rfl (hb hby d2_1)
  refine own_go (b := (T1.setTop (mkF m 4 #[.val (.ref a1), .val (.ref a2)] [(.ref x_ALL), (.ref a1)]))) (fun _ k => st1 _ k) ?_
  by_cases ha4_2 : a1 = x_ALL
  · skip
    refine own_go (b := (T1.setTop (mkF m 17 #[.val (.ref a1), .val (.ref a2)] [(.int (1 : Int32))]))) (fun _ k => Jvm.RoadKit.acmp (g := (mkF m 4 #[.val (.ref a1), .val (.ref a2)] [(.ref x_ALL), (.ref a1)])) X1 hx rfl rfl rfl (pc0 := 4) (pc' := 12) (same := true) rfl (hb hby d2_4) rfl (decide_eq_true (congrArg Value.ref ha4_2)) (by decide) (by decide) (XS.iconst X1.here hx rfl (hb hby d2_12) (XS.goto X1.here hx rfl (pc0 := 13) (pc' := 17) rfl (hb hby d2_13) (by decide) (by decide) k))) ?_
    obtain ⟨fs, hr, hrun, hended, hW, hsame⟩ := X1.leave (v := some (.int (1 : Int32))) (fun h => by rw [Bd.returns] at h; cases h)
    exact ⟨_, _, retN X1 hx (t := .boolean) Bd.returns (by simp) (hb hby d2_17) hr, hrun, hended, _, _, rfl, (show Qrm2 Z a1 a2 x_ALL h0 n0 _ T1.heap _ from (by rw [e1]; exact ⟨(by simp [own_cov, ha4_2]), N0, rfl⟩)), ⟨_, rfl⟩, hW, hsame.mono (by decide) (by decide)⟩
  · skip
    refine own_go (b := (T1.setTop (mkF m 9 #[.val (.ref a1), .val (.ref a2)] [(.ref a2), (.ref a1)]))) (fun _ k => Jvm.RoadKit.acmp (g := (mkF m 4 #[.val (.ref a1), .val (.ref a2)] [(.ref x_ALL), (.ref a1)])) X1 hx rfl rfl rfl (pc0 := 4) (pc' := 7) (same := false) rfl (hb hby d2_4) rfl (decide_eq_false fun q => ha4_2 (Value.ref.inj q)) (by decide) (by decide) (XS.aloadN X1.here hx rfl (hb hby d2_7) rfl rfl (XS.aloadN X1.here hx rfl (hb hby d2_8) rfl rfl k))) ?_
    by_cases ha9_3 : a1 = a2
    · skip
      refine own_go (b := (T1.setTop (mkF m 17 #[.val (.ref a1), .val (.ref a2)] [(.int (1 : Int32))]))) (fun _ k => Jvm.RoadKit.acmp (g := (mkF m 9 #[.val (.ref a1), .val (.ref a2)] [(.ref a2), (.ref a1)])) X1 hx rfl rfl rfl (pc0 := 9) (pc' := 12) (same := true) rfl (hb hby d2_9) rfl (decide_eq_true (congrArg Value.ref ha9_3)) (by decide) (by decide) (XS.iconst X1.here hx rfl (hb hby d2_12) (XS.goto X1.here hx rfl (pc0 := 13) (pc' := 17) rfl (hb hby d2_13) (by decide) (by decide) k))) ?_
      obtain ⟨fs, hr, hrun, hended, hW, hsame⟩ := X1.leave (v := some (.int (1 : Int32))) (fun h => by rw [Bd.returns] at h; cases h)
      exact ⟨_, _, retN X1 hx (t := .boolean) Bd.returns (by simp) (hb hby d2_17) hr, hrun, hended, _, _, rfl, (show Qrm2 Z a1 a2 x_ALL h0 n0 _ T1.heap _ from (by rw [e1]; exact ⟨(by simp [own_cov, ha4_2, ha9_3]), N0, rfl⟩)), ⟨_, rfl⟩, hW, hsame.mono (by decide) (by decide)⟩
    · skip
      refine own_go (b := (T1.setTop (mkF m 17 #[.val (.ref a1), .val (.ref a2)] [(.int (0 : Int32))]))) (fun _ k => Jvm.RoadKit.acmp (g := (mkF m 9 #[.val (.ref a1), .val (.ref a2)] [(.ref a2), (.ref a1)])) X1 hx rfl rfl rfl (pc0 := 9) (pc' := 16) (same := false) rfl (hb hby d2_9) rfl (decide_eq_false fun q => ha9_3 (Value.ref.inj q)) (by decide) (by decide) (XS.iconst X1.here hx rfl (hb hby d2_16) k)) ?_
      obtain ⟨fs, hr, hrun, hended, hW, hsame⟩ := X1.leave (v := some (.int (0 : Int32))) (fun h => by rw [Bd.returns] at h; cases h)
      exact ⟨_, _, retN X1 hx (t := .boolean) Bd.returns (by simp) (hb hby d2_17) hr, hrun, hended, _, _, rfl, (show Qrm2 Z a1 a2 x_ALL h0 n0 _ T1.heap _ from (by rw [e1]; exact ⟨(by simp [own_cov, ha4_2, ha9_3]), N0, rfl⟩)), ⟨_, rfl⟩, hW, hsame.mono (by decide) (by decide)⟩
theorem pd__I_Lcom_example_entitlement_entitlement_policy_Action_ : parseMethodDescriptor "(I)Lcom/example/entitlement/entitlement/policy/Action;" = some ⟨[.int], some (.object "com/example/entitlement/entitlement/policy/Action")⟩ := by decide +kernel
theorem pd__Lcom_example_entitlement_entitlement_policy_Action__Z : parseMethodDescriptor "(Lcom/example/entitlement/entitlement/policy/Action;)Z" = some ⟨[(.object "com/example/entitlement/entitlement/policy/Action")], some .boolean⟩ := by decide +kernel
theorem pn_0 : plainName "com/example/entitlement/entitlement/policy/ActionCoversPinLaw" = true := by first | (simp [plainName, overriddenIn]; done) | decide +kernel
theorem ef_rm0 (m : MethodId) (x0 : Int32) (x1 : Int32) : entryFrame m #[(.int x0), (.int x1)] maxLocals = mkF m 0 #[.val (.int x0), .val (.int x1), .unset, .unset, .unset] [] := by first | (simp [entryFrame, mkF, argsToLocals, Value.category, maxLocals]; done) | rfl
def Qrm0 (Z : State) (p0 : Int32) (p1 : Int32) (x_ALL : Addr) (x_VIEW : Addr) (x_CREATE : Addr) (x_UPDATE : Addr) (x_DELETE : Addr) (h0 : Heap) (n0 : Nat) (v : Option Value) (h : Heap) (L : List Loc) : Prop := v = some (.int (1 : Int32)) ∧ Fr n0 L
set_option maxRecDepth 65536 in
set_option maxHeartbeats 40000000 in
theorem rm0 (l : Launch) (Z : State) (a0 : Array Value) (hw : ∀ d ∈ tables_1, d.before a0 Z = true) (ws : List Jvm.Cond) (p0 : Int32) (p1 : Int32) (x_ALL : Addr) (x_VIEW : Addr) (x_CREATE : Addr) (x_UPDATE : Addr) (x_DELETE : Addr) (h0 : Heap) (n0 : Nat) (Z0 : n0 ≤ h0.size) (O0 : Old Z n0 h0) (S_ALL : Sta Z Z.heap "com/example/entitlement/entitlement/policy/Action" "ALL" "Lcom/example/entitlement/entitlement/policy/Action;" (.ref x_ALL)) (S_VIEW : Sta Z Z.heap "com/example/entitlement/entitlement/policy/Action" "VIEW" "Lcom/example/entitlement/entitlement/policy/Action;" (.ref x_VIEW)) (S_CREATE : Sta Z Z.heap "com/example/entitlement/entitlement/policy/Action" "CREATE" "Lcom/example/entitlement/entitlement/policy/Action;" (.ref x_CREATE)) (S_UPDATE : Sta Z Z.heap "com/example/entitlement/entitlement/policy/Action" "UPDATE" "Lcom/example/entitlement/entitlement/policy/Action;" (.ref x_UPDATE)) (S_DELETE : Sta Z Z.heap "com/example/entitlement/entitlement/policy/Action" "DELETE" "Lcom/example/entitlement/entitlement/policy/Action;" (.ref x_DELETE)) (EZ_x_ALL : Exa Z Z.heap x_ALL "com/example/entitlement/entitlement/policy/Action") (EZ_x_VIEW : Exa Z Z.heap x_VIEW "com/example/entitlement/entitlement/policy/Action") (EZ_x_CREATE : Exa Z Z.heap x_CREATE "com/example/entitlement/entitlement/policy/Action") (EZ_x_UPDATE : Exa Z Z.heap x_UPDATE "com/example/entitlement/entitlement/policy/Action") (EZ_x_DELETE : Exa Z Z.heap x_DELETE "com/example/entitlement/entitlement/policy/Action") (ne_x_ALL_x_VIEW : x_ALL ≠ x_VIEW) (ne_x_ALL_x_CREATE : x_ALL ≠ x_CREATE) (ne_x_ALL_x_UPDATE : x_ALL ≠ x_UPDATE) (ne_x_ALL_x_DELETE : x_ALL ≠ x_DELETE) (ne_x_VIEW_x_CREATE : x_VIEW ≠ x_CREATE) (ne_x_VIEW_x_UPDATE : x_VIEW ≠ x_UPDATE) (ne_x_VIEW_x_DELETE : x_VIEW ≠ x_DELETE) (ne_x_CREATE_x_UPDATE : x_CREATE ≠ x_UPDATE) (ne_x_CREATE_x_DELETE : x_CREATE ≠ x_DELETE) (ne_x_UPDATE_x_DELETE : x_UPDATE ≠ x_DELETE) :
    MetFree l x (head1 (Jvm.Cond.code x code maxLocals ret :: ws) room_1) (fun a U => a = #[(.int p0), (.int p1)] ∧ Z.Warmed39 U.vm ∧ U.heap = h0) (fun _ _ _ _ _ => True) (fun _ U o U' => ∃ v L, o = .returned v ∧ Qrm0 Z p0 p1 x_ALL x_VIEW x_CREATE x_UPDATE x_DELETE h0 n0 v U'.heap L ∧ FrameEnd U o U' L room_1.cells room_1.slots) := by
  refine MetFree.of_bodySF (plainFor_of_name pn_0) hisR ?_
  intro p e s m args below meth c s₁ Bd hml0 hP hK
  obtain ⟨rfl, hZ, hh⟩ := hP
  have hx := Bd.exec
  have hby := Bd.bytes
  have hml : c.maxLocals = 5 := hml0
  have hown : s.vm.findClass "com/example/entitlement/entitlement/policy/ActionCoversPinLaw" = some m.cls := findClass_of_methodNamed Bd.named
  have hnm := (name_of_methodNamed Bd.named Bd.method).1
  have X0 : Stand p l e room_1 s m #[(.int p0), (.int p1)] below meth c s₁ [] 0 0 := Stand.of_body Bd
  have e0 : s₁.heap = h0 := by rw [← hh, Bd.state]; rfl
  have N0 := Fr.nil n0
  refine own_go (b := (s₁.setTop (mkF m 0 #[.val (.int p0), .val (.int p1), .unset, .unset, .unset] []))) (fun _ k => castTop (ef_rm0 m p0 p1) k) ?_
  refine own_go (b := (s₁.setTop (mkF m 12 #[.val (.int p0), .val (.int p1), .val (.int ((p0 &&& (2147483647 : Int32)) % (5 : Int32))), .unset, .unset] [(.int (5 : Int32)), (.int (p1 &&& (2147483647 : Int32)))]))) (fun _ k => XS.iloadN X0.here hx rfl (hb hby at_0) rfl (X0.ldcInt hx hown (mvT hZ (hw _ (List.mem_of_getElem? (i := 0) rfl))) (g := (mkF m 1 #[.val (.int p0), .val (.int p1), .unset, .unset, .unset] [(.int p0)])) rfl (hb hby at_1) _ (XS.iand X0.here hx rfl (hb hby at_3) rfl (XS.iconst X0.here hx rfl (hb hby at_4) (iremM (g := (mkF m 5 #[.val (.int p0), .val (.int p1), .unset, .unset, .unset] [(.int (5 : Int32)), (.int (p0 &&& (2147483647 : Int32)))])) X0 hx rfl (hb hby at_5) rfl (by decide) (XS.istoreN X0.here hx rfl (hb hby at_6) rfl (l' := #[.val (.int p0), .val (.int p1), .val (.int ((p0 &&& (2147483647 : Int32)) % (5 : Int32))), .unset, .unset]) rfl (XS.iloadN X0.here hx rfl (hb hby at_7) rfl (X0.ldcInt hx hown (mvT hZ (hw _ (List.mem_of_getElem? (i := 0) rfl))) (g := (mkF m 8 #[.val (.int p0), .val (.int p1), .val (.int ((p0 &&& (2147483647 : Int32)) % (5 : Int32))), .unset, .unset] [(.int p1)])) rfl (hb hby at_8) _ (XS.iand X0.here hx rfl (hb hby at_10) rfl (XS.iconst X0.here hx rfl (hb hby at_11) k)))))))))) ?_
  refine own_go (b := (s₁.setTop (mkF m 15 #[.val (.int p0), .val (.int p1), .val (.int ((p0 &&& (2147483647 : Int32)) % (5 : Int32))), .val (.int ((p1 &&& (2147483647 : Int32)) % (5 : Int32))), .unset] [(.int ((p0 &&& (2147483647 : Int32)) % (5 : Int32)))]))) (fun _ k => iremM (g := (mkF m 12 #[.val (.int p0), .val (.int p1), .val (.int ((p0 &&& (2147483647 : Int32)) % (5 : Int32))), .unset, .unset] [(.int (5 : Int32)), (.int (p1 &&& (2147483647 : Int32)))])) X0 hx rfl (hb hby at_12) rfl (by decide) (XS.istoreN X0.here hx rfl (hb hby at_13) rfl (l' := #[.val (.int p0), .val (.int p1), .val (.int ((p0 &&& (2147483647 : Int32)) % (5 : Int32))), .val (.int ((p1 &&& (2147483647 : Int32)) % (5 : Int32))), .unset]) rfl (XS.iloadN X0.here hx rfl (hb hby at_14) rfl k))) ?_
  by_cases hc15_1 : ((p0 &&& (2147483647 : Int32)) % (5 : Int32)) = (0 : Int32)
  · skip
    refine own_go (b := (s₁.setTop (mkF m 31 #[.val (.int p0), .val (.int p1), .val (.int ((p0 &&& (2147483647 : Int32)) % (5 : Int32))), .val (.int ((p1 &&& (2147483647 : Int32)) % (5 : Int32))), .val (.int (1 : Int32))] [(.int ((p0 &&& (2147483647 : Int32)) % (5 : Int32)))]))) (fun _ k => XS.ifYes X0.here hx rfl (pc0 := 15) (pc' := 23) rfl (hb hby at_15) rfl ((if0 _ _).trans (teq hc15_1).1) (by decide) (by decide) (XS.iconst X0.here hx rfl (hb hby at_23) (XS.goto X0.here hx rfl (pc0 := 24) (pc' := 28) rfl (hb hby at_24) (by decide) (by decide) (XS.istore X0.here hx rfl (hb hby at_28) rfl (l' := #[.val (.int p0), .val (.int p1), .val (.int ((p0 &&& (2147483647 : Int32)) % (5 : Int32))), .val (.int ((p1 &&& (2147483647 : Int32)) % (5 : Int32))), .val (.int (1 : Int32))]) rfl (XS.iloadN X0.here hx rfl (hb hby at_30) rfl k))))) ?_
    obtain ⟨_, _, ⟨T2, L2, k2, n2⟩, -, X2, ⟨Lc2, hQ2, l2, y2, z2⟩, st2⟩ := Jvm.LawKit.callS X0 hx (y := (⟨"com/example/entitlement/entitlement/policy/ActionCoversPinLaw", "pick", "(I)Lcom/example/entitlement/entitlement/policy/Action;"⟩ : MethodName)) hown (mvT hZ (hw _ (List.mem_of_getElem? (i := 1) rfl))) (mvT hZ (hw _ (List.mem_of_getElem? (i := 2) rfl))) (mvT hZ (hw _ (List.mem_of_getElem? (i := 3) rfl))) (mvT hZ (hw _ (List.mem_of_getElem? (i := 4) rfl))) (by decide) (backOf (W := 0) (rm1 l Z a0 hw [] ((p0 &&& (2147483647 : Int32)) % (5 : Int32)) x_ALL x_VIEW x_CREATE x_UPDATE x_DELETE h0 n0 Z0 O0 S_ALL S_VIEW S_CREATE S_UPDATE S_DELETE EZ_x_ALL EZ_x_VIEW EZ_x_CREATE EZ_x_UPDATE EZ_x_DELETE) hZ (hw _ (List.mem_of_getElem? (i := 4) rfl)) (hw _ (List.mem_of_getElem? (i := 3) rfl)) (by decide) (by decide)) (g := (mkF m 31 #[.val (.int p0), .val (.int p1), .val (.int ((p0 &&& (2147483647 : Int32)) % (5 : Int32))), .val (.int ((p1 &&& (2147483647 : Int32)) % (5 : Int32))), .val (.int (1 : Int32))] [(.int ((p0 &&& (2147483647 : Int32)) % (5 : Int32)))])) rfl (by rw [hml]; rfl) (argsL := [(.int ((p0 &&& (2147483647 : Int32)) % (5 : Int32)))]) (rest := []) (lenOf pd__I_Lcom_example_entitlement_entitlement_policy_Action_ rfl) rfl (by show 2 * 0 + _ ≤ _; exact Nat.le_of_eq rfl) (hb hby at_31) (fun _ _ => ⟨rfl, e0, (by decide : 0 + 0 ≤ _), (by decide : 0 + 0 ≤ _)⟩)
    dsimp only [Pt.U, Pt.locs, Pt.cells, Pt.slots] at X2 l2 y2 z2 st2 hQ2
    subst l2 y2 z2
    obtain ⟨rfl, N2q, eh2, P2_0⟩ := hQ2
    have N2 := Fr.app N0 N2q
    refine own_go (b := (T2.setTop (mkF m 35 #[.val (.int p0), .val (.int p1), .val (.int ((p0 &&& (2147483647 : Int32)) % (5 : Int32))), .val (.int ((p1 &&& (2147483647 : Int32)) % (5 : Int32))), .val (.int (1 : Int32))] [(.int ((p1 &&& (2147483647 : Int32)) % (5 : Int32))), (.ref (own_pick ((p0 &&& (2147483647 : Int32)) % (5 : Int32)) x_ALL x_VIEW x_CREATE x_UPDATE x_DELETE))]))) (fun _ k => st2 _ (XS.iloadN X2.here hx rfl (hb hby at_34) rfl k)) ?_
    obtain ⟨_, _, ⟨T3, L3, k3, n3⟩, -, X3, ⟨Lc3, hQ3, l3, y3, z3⟩, st3⟩ := Jvm.LawKit.callS X2 hx (y := (⟨"com/example/entitlement/entitlement/policy/ActionCoversPinLaw", "pick", "(I)Lcom/example/entitlement/entitlement/policy/Action;"⟩ : MethodName)) hown (mvT hZ (hw _ (List.mem_of_getElem? (i := 1) rfl))) (mvT hZ (hw _ (List.mem_of_getElem? (i := 2) rfl))) (mvT hZ (hw _ (List.mem_of_getElem? (i := 3) rfl))) (mvT hZ (hw _ (List.mem_of_getElem? (i := 4) rfl))) (by decide) (backOf (W := 1) (rm1 l Z a0 hw [] ((p1 &&& (2147483647 : Int32)) % (5 : Int32)) x_ALL x_VIEW x_CREATE x_UPDATE x_DELETE h0 n0 Z0 O0 S_ALL S_VIEW S_CREATE S_UPDATE S_DELETE EZ_x_ALL EZ_x_VIEW EZ_x_CREATE EZ_x_UPDATE EZ_x_DELETE) hZ (hw _ (List.mem_of_getElem? (i := 4) rfl)) (hw _ (List.mem_of_getElem? (i := 3) rfl)) (by decide) (by decide)) (g := (mkF m 35 #[.val (.int p0), .val (.int p1), .val (.int ((p0 &&& (2147483647 : Int32)) % (5 : Int32))), .val (.int ((p1 &&& (2147483647 : Int32)) % (5 : Int32))), .val (.int (1 : Int32))] [(.int ((p1 &&& (2147483647 : Int32)) % (5 : Int32))), (.ref (own_pick ((p0 &&& (2147483647 : Int32)) % (5 : Int32)) x_ALL x_VIEW x_CREATE x_UPDATE x_DELETE))])) rfl (by rw [hml]; rfl) (argsL := [(.int ((p1 &&& (2147483647 : Int32)) % (5 : Int32)))]) (rest := [(.ref (own_pick ((p0 &&& (2147483647 : Int32)) % (5 : Int32)) x_ALL x_VIEW x_CREATE x_UPDATE x_DELETE))]) (lenOf pd__I_Lcom_example_entitlement_entitlement_policy_Action_ rfl) rfl (by show 2 * 0 + _ ≤ _; exact Nat.le_of_eq rfl) (hb hby at_35) (fun _ _ => ⟨rfl, eh2, (by decide : 0 + 0 ≤ _), (by decide : 0 + 0 ≤ _)⟩)
    dsimp only [Pt.U, Pt.locs, Pt.cells, Pt.slots] at X3 l3 y3 z3 st3 hQ3
    subst l3 y3 z3
    obtain ⟨rfl, N3q, eh3, P3_0⟩ := hQ3
    have N3 := Fr.app N2 N3q
    refine own_go (b := (T3.setTop (mkF m 38 #[.val (.int p0), .val (.int p1), .val (.int ((p0 &&& (2147483647 : Int32)) % (5 : Int32))), .val (.int ((p1 &&& (2147483647 : Int32)) % (5 : Int32))), .val (.int (1 : Int32))] [(.ref (own_pick ((p1 &&& (2147483647 : Int32)) % (5 : Int32)) x_ALL x_VIEW x_CREATE x_UPDATE x_DELETE)), (.ref (own_pick ((p0 &&& (2147483647 : Int32)) % (5 : Int32)) x_ALL x_VIEW x_CREATE x_UPDATE x_DELETE))]))) (fun _ k => st3 _ k) ?_
    obtain ⟨cq4, kq4, q4a, q4b, q4c⟩ := isOf hZ eh3 (P2_0.ext O0.2)
    obtain ⟨_, _, ⟨T4, L4, k4, n4⟩, -, X4, ⟨Lc4, hQ4, l4, y4, z4⟩, st4⟩ := X3.virtualBack hx (y := (⟨"com/example/entitlement/entitlement/policy/Action", "covers", "(Lcom/example/entitlement/entitlement/policy/Action;)Z"⟩ : MethodName)) (z := (⟨"com/example/entitlement/entitlement/policy/Action", "covers", "(Lcom/example/entitlement/entitlement/policy/Action;)Z"⟩ : MethodName)) hown (mvT hZ (hw _ (List.mem_of_getElem? (i := 10) rfl))) (mvT hZ (hw _ (List.mem_of_getElem? (i := 11) rfl))) (notFace_of_selects (args := #[]) (mvT hZ (hw _ (List.mem_of_getElem? (i := 13) rfl)))) (mvT hZ (hw _ (List.mem_of_getElem? (i := 13) rfl))) (mvT hZ (hw _ (List.mem_of_getElem? (i := 12) rfl))) (by decide) (backOf (W := 0) (rm2 l Z a0 hw [] (own_pick ((p0 &&& (2147483647 : Int32)) % (5 : Int32)) x_ALL x_VIEW x_CREATE x_UPDATE x_DELETE) (own_pick ((p1 &&& (2147483647 : Int32)) % (5 : Int32)) x_ALL x_VIEW x_CREATE x_UPDATE x_DELETE) x_ALL h0 n0 Z0 O0 S_ALL) hZ (hw _ (List.mem_of_getElem? (i := 14) rfl)) (hw _ (List.mem_of_getElem? (i := 6) rfl)) (by decide) (by decide)) q4a q4c (g := (mkF m 38 #[.val (.int p0), .val (.int p1), .val (.int ((p0 &&& (2147483647 : Int32)) % (5 : Int32))), .val (.int ((p1 &&& (2147483647 : Int32)) % (5 : Int32))), .val (.int (1 : Int32))] [(.ref (own_pick ((p1 &&& (2147483647 : Int32)) % (5 : Int32)) x_ALL x_VIEW x_CREATE x_UPDATE x_DELETE)), (.ref (own_pick ((p0 &&& (2147483647 : Int32)) % (5 : Int32)) x_ALL x_VIEW x_CREATE x_UPDATE x_DELETE))])) rfl (by rw [hml]; rfl) (Steps.refl _) (argsL := [(.ref (own_pick ((p1 &&& (2147483647 : Int32)) % (5 : Int32)) x_ALL x_VIEW x_CREATE x_UPDATE x_DELETE))]) (rest := []) (lenOf pd__Lcom_example_entitlement_entitlement_policy_Action__Z rfl) rfl (by show 2 * 0 + _ ≤ _; exact Nat.le_of_eq rfl) (hb hby at_38) (fun _ _ => ⟨rfl, eh3, (by decide : 0 + 0 ≤ _), (by decide : 0 + 0 ≤ _)⟩)
    dsimp only [Pt.U, Pt.locs, Pt.cells, Pt.slots] at X4 l4 y4 z4 st4 hQ4
    subst l4 y4 z4
    obtain ⟨rfl, N4q, eh4⟩ := hQ4
    have N4 := Fr.app N3 N4q
    refine own_go (b := (T4.setTop (mkF m 51 #[.val (.int p0), .val (.int p1), .val (.int ((p0 &&& (2147483647 : Int32)) % (5 : Int32))), .val (.int ((p1 &&& (2147483647 : Int32)) % (5 : Int32))), .val (.int (1 : Int32))] [(.int (1 : Int32))]))) (fun _ k => st4.trans (XS.iload X4.here hx rfl (hb hby at_41) rfl (XS.icmpNo X4.here hx rfl (hb hby at_43) rfl (teq (by rw [own_law (own_mod5 p0) (own_mod5 p1) ne_x_ALL_x_VIEW ne_x_ALL_x_CREATE ne_x_ALL_x_UPDATE ne_x_ALL_x_DELETE ne_x_VIEW_x_CREATE ne_x_VIEW_x_UPDATE ne_x_VIEW_x_DELETE ne_x_CREATE_x_UPDATE ne_x_CREATE_x_DELETE ne_x_UPDATE_x_DELETE]; simp [hc15_1])).2 (XS.iconst X4.here hx rfl (hb hby at_46) (XS.goto X4.here hx rfl (pc0 := 47) (pc' := 51) rfl (hb hby at_47) (by decide) (by decide) k))))) ?_
    obtain ⟨fs, hr, hrun, hended, hW, hsame⟩ := X4.leave (v := some (.int (1 : Int32))) (fun h => by rw [Bd.returns] at h; cases h)
    exact ⟨_, _, retN X4 hx (t := .boolean) Bd.returns (by simp) (hb hby at_51) hr, hrun, hended, _, _, rfl, (show Qrm0 Z p0 p1 x_ALL x_VIEW x_CREATE x_UPDATE x_DELETE h0 n0 _ T4.heap _ from (by rw [eh4]; exact ⟨rfl, N4⟩)), ⟨_, rfl⟩, hW, hsame.mono (by decide) (by decide)⟩
  · skip
    refine own_go (b := (s₁.setTop (mkF m 20 #[.val (.int p0), .val (.int p1), .val (.int ((p0 &&& (2147483647 : Int32)) % (5 : Int32))), .val (.int ((p1 &&& (2147483647 : Int32)) % (5 : Int32))), .unset] [(.int ((p1 &&& (2147483647 : Int32)) % (5 : Int32))), (.int ((p0 &&& (2147483647 : Int32)) % (5 : Int32)))]))) (fun _ k => XS.ifNo X0.here hx rfl (hb hby at_15) rfl ((if0 _ _).trans (feq hc15_1).1) (XS.iloadN X0.here hx rfl (hb hby at_18) rfl (XS.iloadN X0.here hx rfl (hb hby at_19) rfl k))) ?_
    by_cases hc20_5 : ((p0 &&& (2147483647 : Int32)) % (5 : Int32)) = ((p1 &&& (2147483647 : Int32)) % (5 : Int32))
    · skip
      refine own_go (b := (s₁.setTop (mkF m 31 #[.val (.int p0), .val (.int p1), .val (.int ((p0 &&& (2147483647 : Int32)) % (5 : Int32))), .val (.int ((p1 &&& (2147483647 : Int32)) % (5 : Int32))), .val (.int (1 : Int32))] [(.int ((p0 &&& (2147483647 : Int32)) % (5 : Int32)))]))) (fun _ k => XS.icmpNo X0.here hx rfl (hb hby at_20) rfl (teq hc20_5).2 (XS.iconst X0.here hx rfl (hb hby at_23) (XS.goto X0.here hx rfl (pc0 := 24) (pc' := 28) rfl (hb hby at_24) (by decide) (by decide) (XS.istore X0.here hx rfl (hb hby at_28) rfl (l' := #[.val (.int p0), .val (.int p1), .val (.int ((p0 &&& (2147483647 : Int32)) % (5 : Int32))), .val (.int ((p1 &&& (2147483647 : Int32)) % (5 : Int32))), .val (.int (1 : Int32))]) rfl (XS.iloadN X0.here hx rfl (hb hby at_30) rfl k))))) ?_
      obtain ⟨_, _, ⟨T6, L6, k6, n6⟩, -, X6, ⟨Lc6, hQ6, l6, y6, z6⟩, st6⟩ := Jvm.LawKit.callS X0 hx (y := (⟨"com/example/entitlement/entitlement/policy/ActionCoversPinLaw", "pick", "(I)Lcom/example/entitlement/entitlement/policy/Action;"⟩ : MethodName)) hown (mvT hZ (hw _ (List.mem_of_getElem? (i := 1) rfl))) (mvT hZ (hw _ (List.mem_of_getElem? (i := 2) rfl))) (mvT hZ (hw _ (List.mem_of_getElem? (i := 3) rfl))) (mvT hZ (hw _ (List.mem_of_getElem? (i := 4) rfl))) (by decide) (backOf (W := 0) (rm1 l Z a0 hw [] ((p0 &&& (2147483647 : Int32)) % (5 : Int32)) x_ALL x_VIEW x_CREATE x_UPDATE x_DELETE h0 n0 Z0 O0 S_ALL S_VIEW S_CREATE S_UPDATE S_DELETE EZ_x_ALL EZ_x_VIEW EZ_x_CREATE EZ_x_UPDATE EZ_x_DELETE) hZ (hw _ (List.mem_of_getElem? (i := 4) rfl)) (hw _ (List.mem_of_getElem? (i := 3) rfl)) (by decide) (by decide)) (g := (mkF m 31 #[.val (.int p0), .val (.int p1), .val (.int ((p0 &&& (2147483647 : Int32)) % (5 : Int32))), .val (.int ((p1 &&& (2147483647 : Int32)) % (5 : Int32))), .val (.int (1 : Int32))] [(.int ((p0 &&& (2147483647 : Int32)) % (5 : Int32)))])) rfl (by rw [hml]; rfl) (argsL := [(.int ((p0 &&& (2147483647 : Int32)) % (5 : Int32)))]) (rest := []) (lenOf pd__I_Lcom_example_entitlement_entitlement_policy_Action_ rfl) rfl (by show 2 * 0 + _ ≤ _; exact Nat.le_of_eq rfl) (hb hby at_31) (fun _ _ => ⟨rfl, e0, (by decide : 0 + 0 ≤ _), (by decide : 0 + 0 ≤ _)⟩)
      dsimp only [Pt.U, Pt.locs, Pt.cells, Pt.slots] at X6 l6 y6 z6 st6 hQ6
      subst l6 y6 z6
      obtain ⟨rfl, N6q, eh6, P6_0⟩ := hQ6
      have N6 := Fr.app N0 N6q
      refine own_go (b := (T6.setTop (mkF m 35 #[.val (.int p0), .val (.int p1), .val (.int ((p0 &&& (2147483647 : Int32)) % (5 : Int32))), .val (.int ((p1 &&& (2147483647 : Int32)) % (5 : Int32))), .val (.int (1 : Int32))] [(.int ((p1 &&& (2147483647 : Int32)) % (5 : Int32))), (.ref (own_pick ((p0 &&& (2147483647 : Int32)) % (5 : Int32)) x_ALL x_VIEW x_CREATE x_UPDATE x_DELETE))]))) (fun _ k => st6 _ (XS.iloadN X6.here hx rfl (hb hby at_34) rfl k)) ?_
      obtain ⟨_, _, ⟨T7, L7, k7, n7⟩, -, X7, ⟨Lc7, hQ7, l7, y7, z7⟩, st7⟩ := Jvm.LawKit.callS X6 hx (y := (⟨"com/example/entitlement/entitlement/policy/ActionCoversPinLaw", "pick", "(I)Lcom/example/entitlement/entitlement/policy/Action;"⟩ : MethodName)) hown (mvT hZ (hw _ (List.mem_of_getElem? (i := 1) rfl))) (mvT hZ (hw _ (List.mem_of_getElem? (i := 2) rfl))) (mvT hZ (hw _ (List.mem_of_getElem? (i := 3) rfl))) (mvT hZ (hw _ (List.mem_of_getElem? (i := 4) rfl))) (by decide) (backOf (W := 1) (rm1 l Z a0 hw [] ((p1 &&& (2147483647 : Int32)) % (5 : Int32)) x_ALL x_VIEW x_CREATE x_UPDATE x_DELETE h0 n0 Z0 O0 S_ALL S_VIEW S_CREATE S_UPDATE S_DELETE EZ_x_ALL EZ_x_VIEW EZ_x_CREATE EZ_x_UPDATE EZ_x_DELETE) hZ (hw _ (List.mem_of_getElem? (i := 4) rfl)) (hw _ (List.mem_of_getElem? (i := 3) rfl)) (by decide) (by decide)) (g := (mkF m 35 #[.val (.int p0), .val (.int p1), .val (.int ((p0 &&& (2147483647 : Int32)) % (5 : Int32))), .val (.int ((p1 &&& (2147483647 : Int32)) % (5 : Int32))), .val (.int (1 : Int32))] [(.int ((p1 &&& (2147483647 : Int32)) % (5 : Int32))), (.ref (own_pick ((p0 &&& (2147483647 : Int32)) % (5 : Int32)) x_ALL x_VIEW x_CREATE x_UPDATE x_DELETE))])) rfl (by rw [hml]; rfl) (argsL := [(.int ((p1 &&& (2147483647 : Int32)) % (5 : Int32)))]) (rest := [(.ref (own_pick ((p0 &&& (2147483647 : Int32)) % (5 : Int32)) x_ALL x_VIEW x_CREATE x_UPDATE x_DELETE))]) (lenOf pd__I_Lcom_example_entitlement_entitlement_policy_Action_ rfl) rfl (by show 2 * 0 + _ ≤ _; exact Nat.le_of_eq rfl) (hb hby at_35) (fun _ _ => ⟨rfl, eh6, (by decide : 0 + 0 ≤ _), (by decide : 0 + 0 ≤ _)⟩)
      dsimp only [Pt.U, Pt.locs, Pt.cells, Pt.slots] at X7 l7 y7 z7 st7 hQ7
      subst l7 y7 z7
      obtain ⟨rfl, N7q, eh7, P7_0⟩ := hQ7
      have N7 := Fr.app N6 N7q
      refine own_go (b := (T7.setTop (mkF m 38 #[.val (.int p0), .val (.int p1), .val (.int ((p0 &&& (2147483647 : Int32)) % (5 : Int32))), .val (.int ((p1 &&& (2147483647 : Int32)) % (5 : Int32))), .val (.int (1 : Int32))] [(.ref (own_pick ((p1 &&& (2147483647 : Int32)) % (5 : Int32)) x_ALL x_VIEW x_CREATE x_UPDATE x_DELETE)), (.ref (own_pick ((p0 &&& (2147483647 : Int32)) % (5 : Int32)) x_ALL x_VIEW x_CREATE x_UPDATE x_DELETE))]))) (fun _ k => st7 _ k) ?_
      obtain ⟨cq8, kq8, q8a, q8b, q8c⟩ := isOf hZ eh7 (P6_0.ext O0.2)
      obtain ⟨_, _, ⟨T8, L8, k8, n8⟩, -, X8, ⟨Lc8, hQ8, l8, y8, z8⟩, st8⟩ := X7.virtualBack hx (y := (⟨"com/example/entitlement/entitlement/policy/Action", "covers", "(Lcom/example/entitlement/entitlement/policy/Action;)Z"⟩ : MethodName)) (z := (⟨"com/example/entitlement/entitlement/policy/Action", "covers", "(Lcom/example/entitlement/entitlement/policy/Action;)Z"⟩ : MethodName)) hown (mvT hZ (hw _ (List.mem_of_getElem? (i := 10) rfl))) (mvT hZ (hw _ (List.mem_of_getElem? (i := 11) rfl))) (notFace_of_selects (args := #[]) (mvT hZ (hw _ (List.mem_of_getElem? (i := 13) rfl)))) (mvT hZ (hw _ (List.mem_of_getElem? (i := 13) rfl))) (mvT hZ (hw _ (List.mem_of_getElem? (i := 12) rfl))) (by decide) (backOf (W := 0) (rm2 l Z a0 hw [] (own_pick ((p0 &&& (2147483647 : Int32)) % (5 : Int32)) x_ALL x_VIEW x_CREATE x_UPDATE x_DELETE) (own_pick ((p1 &&& (2147483647 : Int32)) % (5 : Int32)) x_ALL x_VIEW x_CREATE x_UPDATE x_DELETE) x_ALL h0 n0 Z0 O0 S_ALL) hZ (hw _ (List.mem_of_getElem? (i := 14) rfl)) (hw _ (List.mem_of_getElem? (i := 6) rfl)) (by decide) (by decide)) q8a q8c (g := (mkF m 38 #[.val (.int p0), .val (.int p1), .val (.int ((p0 &&& (2147483647 : Int32)) % (5 : Int32))), .val (.int ((p1 &&& (2147483647 : Int32)) % (5 : Int32))), .val (.int (1 : Int32))] [(.ref (own_pick ((p1 &&& (2147483647 : Int32)) % (5 : Int32)) x_ALL x_VIEW x_CREATE x_UPDATE x_DELETE)), (.ref (own_pick ((p0 &&& (2147483647 : Int32)) % (5 : Int32)) x_ALL x_VIEW x_CREATE x_UPDATE x_DELETE))])) rfl (by rw [hml]; rfl) (Steps.refl _) (argsL := [(.ref (own_pick ((p1 &&& (2147483647 : Int32)) % (5 : Int32)) x_ALL x_VIEW x_CREATE x_UPDATE x_DELETE))]) (rest := []) (lenOf pd__Lcom_example_entitlement_entitlement_policy_Action__Z rfl) rfl (by show 2 * 0 + _ ≤ _; exact Nat.le_of_eq rfl) (hb hby at_38) (fun _ _ => ⟨rfl, eh7, (by decide : 0 + 0 ≤ _), (by decide : 0 + 0 ≤ _)⟩)
      dsimp only [Pt.U, Pt.locs, Pt.cells, Pt.slots] at X8 l8 y8 z8 st8 hQ8
      subst l8 y8 z8
      obtain ⟨rfl, N8q, eh8⟩ := hQ8
      have N8 := Fr.app N7 N8q
      refine own_go (b := (T8.setTop (mkF m 51 #[.val (.int p0), .val (.int p1), .val (.int ((p0 &&& (2147483647 : Int32)) % (5 : Int32))), .val (.int ((p1 &&& (2147483647 : Int32)) % (5 : Int32))), .val (.int (1 : Int32))] [(.int (1 : Int32))]))) (fun _ k => st8.trans (XS.iload X8.here hx rfl (hb hby at_41) rfl (XS.icmpNo X8.here hx rfl (hb hby at_43) rfl (teq (by rw [own_law (own_mod5 p0) (own_mod5 p1) ne_x_ALL_x_VIEW ne_x_ALL_x_CREATE ne_x_ALL_x_UPDATE ne_x_ALL_x_DELETE ne_x_VIEW_x_CREATE ne_x_VIEW_x_UPDATE ne_x_VIEW_x_DELETE ne_x_CREATE_x_UPDATE ne_x_CREATE_x_DELETE ne_x_UPDATE_x_DELETE]; simp [hc15_1, hc20_5])).2 (XS.iconst X8.here hx rfl (hb hby at_46) (XS.goto X8.here hx rfl (pc0 := 47) (pc' := 51) rfl (hb hby at_47) (by decide) (by decide) k))))) ?_
      obtain ⟨fs, hr, hrun, hended, hW, hsame⟩ := X8.leave (v := some (.int (1 : Int32))) (fun h => by rw [Bd.returns] at h; cases h)
      exact ⟨_, _, retN X8 hx (t := .boolean) Bd.returns (by simp) (hb hby at_51) hr, hrun, hended, _, _, rfl, (show Qrm0 Z p0 p1 x_ALL x_VIEW x_CREATE x_UPDATE x_DELETE h0 n0 _ T8.heap _ from (by rw [eh8]; exact ⟨rfl, N8⟩)), ⟨_, rfl⟩, hW, hsame.mono (by decide) (by decide)⟩
    · skip
      refine own_go (b := (s₁.setTop (mkF m 31 #[.val (.int p0), .val (.int p1), .val (.int ((p0 &&& (2147483647 : Int32)) % (5 : Int32))), .val (.int ((p1 &&& (2147483647 : Int32)) % (5 : Int32))), .val (.int (0 : Int32))] [(.int ((p0 &&& (2147483647 : Int32)) % (5 : Int32)))]))) (fun _ k => XS.icmpYes X0.here hx rfl (pc0 := 20) (pc' := 27) rfl (hb hby at_20) rfl (feq hc20_5).2 (by decide) (by decide) (XS.iconst X0.here hx rfl (hb hby at_27) (XS.istore X0.here hx rfl (hb hby at_28) rfl (l' := #[.val (.int p0), .val (.int p1), .val (.int ((p0 &&& (2147483647 : Int32)) % (5 : Int32))), .val (.int ((p1 &&& (2147483647 : Int32)) % (5 : Int32))), .val (.int (0 : Int32))]) rfl (XS.iloadN X0.here hx rfl (hb hby at_30) rfl k)))) ?_
      obtain ⟨_, _, ⟨T9, L9, k9, n9⟩, -, X9, ⟨Lc9, hQ9, l9, y9, z9⟩, st9⟩ := Jvm.LawKit.callS X0 hx (y := (⟨"com/example/entitlement/entitlement/policy/ActionCoversPinLaw", "pick", "(I)Lcom/example/entitlement/entitlement/policy/Action;"⟩ : MethodName)) hown (mvT hZ (hw _ (List.mem_of_getElem? (i := 1) rfl))) (mvT hZ (hw _ (List.mem_of_getElem? (i := 2) rfl))) (mvT hZ (hw _ (List.mem_of_getElem? (i := 3) rfl))) (mvT hZ (hw _ (List.mem_of_getElem? (i := 4) rfl))) (by decide) (backOf (W := 0) (rm1 l Z a0 hw [] ((p0 &&& (2147483647 : Int32)) % (5 : Int32)) x_ALL x_VIEW x_CREATE x_UPDATE x_DELETE h0 n0 Z0 O0 S_ALL S_VIEW S_CREATE S_UPDATE S_DELETE EZ_x_ALL EZ_x_VIEW EZ_x_CREATE EZ_x_UPDATE EZ_x_DELETE) hZ (hw _ (List.mem_of_getElem? (i := 4) rfl)) (hw _ (List.mem_of_getElem? (i := 3) rfl)) (by decide) (by decide)) (g := (mkF m 31 #[.val (.int p0), .val (.int p1), .val (.int ((p0 &&& (2147483647 : Int32)) % (5 : Int32))), .val (.int ((p1 &&& (2147483647 : Int32)) % (5 : Int32))), .val (.int (0 : Int32))] [(.int ((p0 &&& (2147483647 : Int32)) % (5 : Int32)))])) rfl (by rw [hml]; rfl) (argsL := [(.int ((p0 &&& (2147483647 : Int32)) % (5 : Int32)))]) (rest := []) (lenOf pd__I_Lcom_example_entitlement_entitlement_policy_Action_ rfl) rfl (by show 2 * 0 + _ ≤ _; exact Nat.le_of_eq rfl) (hb hby at_31) (fun _ _ => ⟨rfl, e0, (by decide : 0 + 0 ≤ _), (by decide : 0 + 0 ≤ _)⟩)
      dsimp only [Pt.U, Pt.locs, Pt.cells, Pt.slots] at X9 l9 y9 z9 st9 hQ9
      subst l9 y9 z9
      obtain ⟨rfl, N9q, eh9, P9_0⟩ := hQ9
      have N9 := Fr.app N0 N9q
      refine own_go (b := (T9.setTop (mkF m 35 #[.val (.int p0), .val (.int p1), .val (.int ((p0 &&& (2147483647 : Int32)) % (5 : Int32))), .val (.int ((p1 &&& (2147483647 : Int32)) % (5 : Int32))), .val (.int (0 : Int32))] [(.int ((p1 &&& (2147483647 : Int32)) % (5 : Int32))), (.ref (own_pick ((p0 &&& (2147483647 : Int32)) % (5 : Int32)) x_ALL x_VIEW x_CREATE x_UPDATE x_DELETE))]))) (fun _ k => st9 _ (XS.iloadN X9.here hx rfl (hb hby at_34) rfl k)) ?_
      obtain ⟨_, _, ⟨T10, L10, k10, n10⟩, -, X10, ⟨Lc10, hQ10, l10, y10, z10⟩, st10⟩ := Jvm.LawKit.callS X9 hx (y := (⟨"com/example/entitlement/entitlement/policy/ActionCoversPinLaw", "pick", "(I)Lcom/example/entitlement/entitlement/policy/Action;"⟩ : MethodName)) hown (mvT hZ (hw _ (List.mem_of_getElem? (i := 1) rfl))) (mvT hZ (hw _ (List.mem_of_getElem? (i := 2) rfl))) (mvT hZ (hw _ (List.mem_of_getElem? (i := 3) rfl))) (mvT hZ (hw _ (List.mem_of_getElem? (i := 4) rfl))) (by decide) (backOf (W := 1) (rm1 l Z a0 hw [] ((p1 &&& (2147483647 : Int32)) % (5 : Int32)) x_ALL x_VIEW x_CREATE x_UPDATE x_DELETE h0 n0 Z0 O0 S_ALL S_VIEW S_CREATE S_UPDATE S_DELETE EZ_x_ALL EZ_x_VIEW EZ_x_CREATE EZ_x_UPDATE EZ_x_DELETE) hZ (hw _ (List.mem_of_getElem? (i := 4) rfl)) (hw _ (List.mem_of_getElem? (i := 3) rfl)) (by decide) (by decide)) (g := (mkF m 35 #[.val (.int p0), .val (.int p1), .val (.int ((p0 &&& (2147483647 : Int32)) % (5 : Int32))), .val (.int ((p1 &&& (2147483647 : Int32)) % (5 : Int32))), .val (.int (0 : Int32))] [(.int ((p1 &&& (2147483647 : Int32)) % (5 : Int32))), (.ref (own_pick ((p0 &&& (2147483647 : Int32)) % (5 : Int32)) x_ALL x_VIEW x_CREATE x_UPDATE x_DELETE))])) rfl (by rw [hml]; rfl) (argsL := [(.int ((p1 &&& (2147483647 : Int32)) % (5 : Int32)))]) (rest := [(.ref (own_pick ((p0 &&& (2147483647 : Int32)) % (5 : Int32)) x_ALL x_VIEW x_CREATE x_UPDATE x_DELETE))]) (lenOf pd__I_Lcom_example_entitlement_entitlement_policy_Action_ rfl) rfl (by show 2 * 0 + _ ≤ _; exact Nat.le_of_eq rfl) (hb hby at_35) (fun _ _ => ⟨rfl, eh9, (by decide : 0 + 0 ≤ _), (by decide : 0 + 0 ≤ _)⟩)
      dsimp only [Pt.U, Pt.locs, Pt.cells, Pt.slots] at X10 l10 y10 z10 st10 hQ10
      subst l10 y10 z10
      obtain ⟨rfl, N10q, eh10, P10_0⟩ := hQ10
      have N10 := Fr.app N9 N10q
      refine own_go (b := (T10.setTop (mkF m 38 #[.val (.int p0), .val (.int p1), .val (.int ((p0 &&& (2147483647 : Int32)) % (5 : Int32))), .val (.int ((p1 &&& (2147483647 : Int32)) % (5 : Int32))), .val (.int (0 : Int32))] [(.ref (own_pick ((p1 &&& (2147483647 : Int32)) % (5 : Int32)) x_ALL x_VIEW x_CREATE x_UPDATE x_DELETE)), (.ref (own_pick ((p0 &&& (2147483647 : Int32)) % (5 : Int32)) x_ALL x_VIEW x_CREATE x_UPDATE x_DELETE))]))) (fun _ k => st10 _ k) ?_
      obtain ⟨cq11, kq11, q11a, q11b, q11c⟩ := isOf hZ eh10 (P9_0.ext O0.2)
      obtain ⟨_, _, ⟨T11, L11, k11, n11⟩, -, X11, ⟨Lc11, hQ11, l11, y11, z11⟩, st11⟩ := X10.virtualBack hx (y := (⟨"com/example/entitlement/entitlement/policy/Action", "covers", "(Lcom/example/entitlement/entitlement/policy/Action;)Z"⟩ : MethodName)) (z := (⟨"com/example/entitlement/entitlement/policy/Action", "covers", "(Lcom/example/entitlement/entitlement/policy/Action;)Z"⟩ : MethodName)) hown (mvT hZ (hw _ (List.mem_of_getElem? (i := 10) rfl))) (mvT hZ (hw _ (List.mem_of_getElem? (i := 11) rfl))) (notFace_of_selects (args := #[]) (mvT hZ (hw _ (List.mem_of_getElem? (i := 13) rfl)))) (mvT hZ (hw _ (List.mem_of_getElem? (i := 13) rfl))) (mvT hZ (hw _ (List.mem_of_getElem? (i := 12) rfl))) (by decide) (backOf (W := 0) (rm2 l Z a0 hw [] (own_pick ((p0 &&& (2147483647 : Int32)) % (5 : Int32)) x_ALL x_VIEW x_CREATE x_UPDATE x_DELETE) (own_pick ((p1 &&& (2147483647 : Int32)) % (5 : Int32)) x_ALL x_VIEW x_CREATE x_UPDATE x_DELETE) x_ALL h0 n0 Z0 O0 S_ALL) hZ (hw _ (List.mem_of_getElem? (i := 14) rfl)) (hw _ (List.mem_of_getElem? (i := 6) rfl)) (by decide) (by decide)) q11a q11c (g := (mkF m 38 #[.val (.int p0), .val (.int p1), .val (.int ((p0 &&& (2147483647 : Int32)) % (5 : Int32))), .val (.int ((p1 &&& (2147483647 : Int32)) % (5 : Int32))), .val (.int (0 : Int32))] [(.ref (own_pick ((p1 &&& (2147483647 : Int32)) % (5 : Int32)) x_ALL x_VIEW x_CREATE x_UPDATE x_DELETE)), (.ref (own_pick ((p0 &&& (2147483647 : Int32)) % (5 : Int32)) x_ALL x_VIEW x_CREATE x_UPDATE x_DELETE))])) rfl (by rw [hml]; rfl) (Steps.refl _) (argsL := [(.ref (own_pick ((p1 &&& (2147483647 : Int32)) % (5 : Int32)) x_ALL x_VIEW x_CREATE x_UPDATE x_DELETE))]) (rest := []) (lenOf pd__Lcom_example_entitlement_entitlement_policy_Action__Z rfl) rfl (by show 2 * 0 + _ ≤ _; exact Nat.le_of_eq rfl) (hb hby at_38) (fun _ _ => ⟨rfl, eh10, (by decide : 0 + 0 ≤ _), (by decide : 0 + 0 ≤ _)⟩)
      dsimp only [Pt.U, Pt.locs, Pt.cells, Pt.slots] at X11 l11 y11 z11 st11 hQ11
      subst l11 y11 z11
      obtain ⟨rfl, N11q, eh11⟩ := hQ11
      have N11 := Fr.app N10 N11q
      refine own_go (b := (T11.setTop (mkF m 51 #[.val (.int p0), .val (.int p1), .val (.int ((p0 &&& (2147483647 : Int32)) % (5 : Int32))), .val (.int ((p1 &&& (2147483647 : Int32)) % (5 : Int32))), .val (.int (0 : Int32))] [(.int (1 : Int32))]))) (fun _ k => st11.trans (XS.iload X11.here hx rfl (hb hby at_41) rfl (XS.icmpNo X11.here hx rfl (hb hby at_43) rfl (teq (by rw [own_law (own_mod5 p0) (own_mod5 p1) ne_x_ALL_x_VIEW ne_x_ALL_x_CREATE ne_x_ALL_x_UPDATE ne_x_ALL_x_DELETE ne_x_VIEW_x_CREATE ne_x_VIEW_x_UPDATE ne_x_VIEW_x_DELETE ne_x_CREATE_x_UPDATE ne_x_CREATE_x_DELETE ne_x_UPDATE_x_DELETE]; simp [hc15_1, hc20_5])).2 (XS.iconst X11.here hx rfl (hb hby at_46) (XS.goto X11.here hx rfl (pc0 := 47) (pc' := 51) rfl (hb hby at_47) (by decide) (by decide) k))))) ?_
      obtain ⟨fs, hr, hrun, hended, hW, hsame⟩ := X11.leave (v := some (.int (1 : Int32))) (fun h => by rw [Bd.returns] at h; cases h)
      exact ⟨_, _, retN X11 hx (t := .boolean) Bd.returns (by simp) (hb hby at_51) hr, hrun, hended, _, _, rfl, (show Qrm0 Z p0 p1 x_ALL x_VIEW x_CREATE x_UPDATE x_DELETE h0 n0 _ T11.heap _ from (by rw [eh11]; exact ⟨rfl, N11⟩)), ⟨_, rfl⟩, hW, hsame.mono (by decide) (by decide)⟩
set_option maxRecDepth 65536 in
set_option maxHeartbeats 40000000 in
theorem comes_1 {Post : Tables → Env → Array Value → State → Outcome → State → Prop} (hpost : ∀ tb e args s v u, (limb_1_1.after args s (.returned v) u = true ∧ limb_1_2.after args s (.returned v) u = true ∧ True) → FrameEnd s (.returned v) u (Jvm.fieldLocs frame_1_writes args s ++ Jvm.arrayLocs frame_1_arrays args s ++ Jvm.staticLocs frame_1_statics s) 0 0 → Post tb e args s (.returned v) u) :
    ArmFor flags0 classFile x code maxLocals ret World_1 tables_1 room_1 Calls_1 rest_1 Pre_1 Post := by
  intro l hfl _ _ p e ha hc hk s m args below hf hA hF happ hP
  obtain ⟨hcalls, hrest, hpre⟩ := hP
  obtain ⟨-, -, -, hnamed, -, -, -, hat⟩ := (Spec.applies_iff hf).mp happ
  obtain ⟨hg, hn⟩ := and_e (Cond.before_iff.mp (show (Jvm.Cond.and given_1 narrow_1).before args s = true from hpre))
  obtain ⟨gc0, gr0⟩ := and_e hg
  obtain ⟨gc1, gr1⟩ := and_e gr0
  obtain ⟨w0, w1, rfl⟩ : ∃ w0 w1 : Value, args = #[w0, w1] := by
    have hs : args.size = 2 := by simpa [Cond.value, given_1] using gc0
    obtain ⟨L⟩ := args
    match L, hs with
    | [w0, w1], _ => exact ⟨w0, w1, rfl⟩
  have hw := fun d (hd : d ∈ tables_1) => atoms_spec (ws := Jvm.Cond.code x code maxLocals ret :: tables_1) hat d (List.mem_cons_of_mem _ hd)
  have hfit : Fit s := fun {y c} hc i hi => by
    obtain ⟨ha, rfl⟩ := Array.getElem?_eq_some_iff.mp hc
    have q := List.all_eq_true.mp ((Array.all_eq_true_iff_forall_mem.mp hF) _ (Array.getElem_mem ha)) i (List.mem_range.mpr hi)
    simpa [Array.getElem?_eq_getElem hi] using q
  obtain ⟨i0, ei0⟩ := is_v gc1
  obtain rfl : w0 = (.int i0) := Option.some.inj ei0
  obtain ⟨i1, ei1⟩ := is_v gr1
  obtain rfl : w1 = (.int i1) := Option.some.inj ei1
  obtain ⟨nc0, nr0⟩ := and_e hn
  obtain ⟨nc1, nr1⟩ := and_e nr0
  obtain ⟨nc2, nr2⟩ := and_e nr1
  obtain ⟨nc3, nr3⟩ := and_e nr2
  obtain ⟨nc4, nr4⟩ := and_e nr3
  obtain ⟨nc5, nr5⟩ := and_e nr4
  obtain ⟨nc6, nr6⟩ := and_e nr5
  obtain ⟨nc7, nr7⟩ := and_e nr6
  obtain ⟨nc8, nr8⟩ := and_e nr7
  obtain ⟨x_ALL, v_ALL⟩ := exa_v nc0
  have EZ_x_ALL := Exa.start v_ALL nc0
  have S_ALL := Sta.start v_ALL (Or.inr ⟨(hw _ (List.mem_of_getElem? (i := 6) rfl)), (hw _ (List.mem_of_getElem? (i := 7) rfl))⟩)
  obtain ⟨x_UPDATE, v_UPDATE⟩ := exa_v nc1
  have EZ_x_UPDATE := Exa.start v_UPDATE nc1
  have S_UPDATE := Sta.start v_UPDATE (Or.inr ⟨(hw _ (List.mem_of_getElem? (i := 6) rfl)), (hw _ (List.mem_of_getElem? (i := 9) rfl))⟩)
  obtain ⟨x_DELETE, v_DELETE⟩ := exa_v nc2
  have EZ_x_DELETE := Exa.start v_DELETE nc2
  have S_DELETE := Sta.start v_DELETE (Or.inr ⟨(hw _ (List.mem_of_getElem? (i := 6) rfl)), (hw _ (List.mem_of_getElem? (i := 17) rfl))⟩)
  obtain ⟨x_VIEW, v_VIEW⟩ := exa_v nc3
  have EZ_x_VIEW := Exa.start v_VIEW nc3
  have S_VIEW := Sta.start v_VIEW (Or.inr ⟨(hw _ (List.mem_of_getElem? (i := 6) rfl)), (hw _ (List.mem_of_getElem? (i := 19) rfl))⟩)
  have Fld0_x_DELETE_ordinal := own_fint nc4 v_DELETE
  have Fld0_x_ALL_ordinal := own_fint nc5 v_ALL
  have Fld0_x_VIEW_ordinal := own_fint nc6 v_VIEW
  have Fld0_x_UPDATE_ordinal := own_fint nc7 v_UPDATE
  obtain ⟨x_CREATE, v_CREATE⟩ := exa_v nc8
  have EZ_x_CREATE := Exa.start v_CREATE nc8
  have S_CREATE := Sta.start v_CREATE (Or.inr ⟨(hw _ (List.mem_of_getElem? (i := 6) rfl)), (hw _ (List.mem_of_getElem? (i := 21) rfl))⟩)
  have Fld0_x_CREATE_ordinal := own_fint nr8 v_CREATE
  obtain ⟨n, o, h1, h2, h3, _, L, rfl, ⟨rfl, N⟩, hq⟩ := rm0 l s _ hw tables_1 i0 i1 x_ALL x_VIEW x_CREATE x_UPDATE x_DELETE s.heap s.heap.size (Nat.le_refl _) (Old.start s) S_ALL S_VIEW S_CREATE S_UPDATE S_DELETE EZ_x_ALL EZ_x_VIEW EZ_x_CREATE EZ_x_UPDATE EZ_x_DELETE (Fld.ne Fld0_x_ALL_ordinal Fld0_x_VIEW_ordinal (by decide)) (Fld.ne Fld0_x_ALL_ordinal Fld0_x_CREATE_ordinal (by decide)) (Fld.ne Fld0_x_ALL_ordinal Fld0_x_UPDATE_ordinal (by decide)) (Fld.ne Fld0_x_ALL_ordinal Fld0_x_DELETE_ordinal (by decide)) (Fld.ne Fld0_x_VIEW_ordinal Fld0_x_CREATE_ordinal (by decide)) (Fld.ne Fld0_x_VIEW_ordinal Fld0_x_UPDATE_ordinal (by decide)) (Fld.ne Fld0_x_VIEW_ordinal Fld0_x_DELETE_ordinal (by decide)) (Fld.ne Fld0_x_CREATE_ordinal Fld0_x_UPDATE_ordinal (by decide)) (Fld.ne Fld0_x_CREATE_ordinal Fld0_x_DELETE_ordinal (by decide)) (Fld.ne Fld0_x_UPDATE_ordinal Fld0_x_DELETE_ordinal (by decide)) p e ha hc hk s m _ below hf ((Spec.applies_iff_loose hf).mp happ).1 ⟨rfl, State.Warmed39.refl s, rfl⟩ trivial
  refine ⟨n, _, h1, h2, h3, hpost _ _ _ _ _ _ ⟨Cond.after_iff.mpr rfl, Cond.after_iff.mpr (eq_i res_at (Term.int_eval (1)) rfl), trivial⟩ ⟨hq.1, hq.2.1, (hq.2.2.sift fun y hy => Or.inr (N y hy)).mono (by decide) (by decide)⟩⟩
theorem main_1_1 : Claimed_1_1 := comes_1 fun _ _ _ _ _ _ h hF => ⟨h.1, hF⟩
theorem main_1_2 : Claimed_1_2 := comes_1 fun _ _ _ _ _ _ h hF => ⟨h.2.1, hF⟩
end Jvm.Pilot.@@N@@
namespace Jvm.Pilot.@@N@@
open Jvm Jvm.ClassFile Sem Op Lib Jvm.Free Jvm.Stand Jvm.Pilot.@@N@@.Jvm.D
/-! MADE BY PROGRAM (witnessworld.py) out of the Statement's table words and the real class files: 12 classes; the members and pool entries that the words name. The judged class is class 1, her method 2. -/
namespace start1
open Jvm.ClassFile
def u (s : String) : CpInfo := .utf8 (stringToUtf16 s)
/-- a pool by its gaps: so many unusable entries, then the entry; so many at the end -/
def gap : Nat → List CpInfo → List CpInfo
  | 0, r => r
  | n + 1, r => .unusable :: gap n r
def poolList (es : List (Nat × CpInfo)) (last : Nat) : List CpInfo := es.foldr (fun e r => gap e.1 (e.2 :: r)) (gap last [])
def pool (es : List (Nat × CpInfo)) (last : Nat) : Array CpInfo := ⟨poolList es last⟩
def fileOf (pool : Array CpInfo) (this : Nat) (attrs : Array Attribute := #[]) (ms : Array MethodInfo := #[]) (fl : Nat := 33) (sup : Nat := 0) (ifs : Array Nat := #[]) (fds : Array FieldInfo := #[]) : ClassFile where
  minorVersion := 0
  majorVersion := 65
  constantPool := pool
  accessFlags := fl
  thisClass := this
  superClass := sup
  interfaces := ifs
  fields := fds
  methods := ms
  attributes := attrs
def plain (name : String) (sup : Option ClassId) : Class where
  name := name
  kind := .ordinary
  loader := none
  accessFlags := 33
  super := sup
  interfaces := #[]
  cf := none
  fields := #[]
  methods := #[]
  instanceTypes := #[]
  staticTypes := #[]
  resolved := #[]
  callSites := []
  init := .initialized
  statics := none
  mirror := none

def pool0 : Array CpInfo := pool [(5, u "<init>"), (0, u "()V"), (1, .class_ 10), (1, u "java/lang/Object")] 113

def k0m0 : Method := { name := "<init>", desc := "()V", sig := { parameters := [], returnType := none }, accessFlags := 1, code := none }
/-- java/lang/Object -/
def k0 : Class := { plain "java/lang/Object" none with
  accessFlags := 33
  interfaces := #[]
  cf := some (fileOf pool0 8 #[] #[{ accessFlags := 1, nameIndex := 5, descriptorIndex := 6, attributes := #[] }] 33 0 #[] #[])
  fields := #[]
  methods := #[k0m0]
  instanceTypes := #[]
  staticTypes := #[]
  resolved := Array.replicate 124 none
  statics := none }

def pool1 : Array CpInfo := pool [(2, .class_ 4), (1, u "java/lang/Object"), (0, u "<init>"), (0, u "()V"), (0, .fieldref 8 9), (0, .class_ 10), (0, .nameAndType 11 12), (0, u "com/example/entitlement/entitlement/policy/Action"), (0, u "ALL"), (0, u "Lcom/example/entitlement/entitlement/policy/Action;"), (0, .fieldref 8 14), (0, .nameAndType 15 12), (0, u "VIEW"), (0, .fieldref 8 17), (0, .nameAndType 18 12), (0, u "CREATE"), (0, .fieldref 8 20), (0, .nameAndType 21 12), (0, u "UPDATE"), (0, .fieldref 8 23), (0, .nameAndType 24 12), (0, u "DELETE"), (0, .integer 2147483647), (0, .methodref 27 28), (0, .class_ 29), (0, .nameAndType 30 31), (0, u "com/example/entitlement/entitlement/policy/ActionCoversPinLaw"), (0, u "pick"), (0, u "(I)Lcom/example/entitlement/entitlement/policy/Action;"), (0, .methodref 8 33), (0, .nameAndType 34 35), (0, u "covers"), (0, u "(Lcom/example/entitlement/entitlement/policy/Action;)Z"), (3, u "law"), (0, u "(II)Z")] 2

def k1m0 : Method := { name := "<init>", desc := "()V", sig := { parameters := [], returnType := none }, accessFlags := 2, code := none }
def k1c1 : Code := { maxStack := 2, maxLocals := 1, code := method_2_code, exceptionTable := #[], attributes := #[] }
def k1m1 : Method := { name := "pick", desc := "(I)Lcom/example/entitlement/entitlement/policy/Action;", sig := { parameters := [.int], returnType := some (.object "com/example/entitlement/entitlement/policy/Action") }, accessFlags := 10, code := some k1c1 }
def k1c2 : Code := { maxStack := 2, maxLocals := 5, code := code, exceptionTable := #[], attributes := #[] }
def k1m2 : Method := { name := "law", desc := "(II)Z", sig := { parameters := [.int, .int], returnType := some .boolean }, accessFlags := 9, code := some k1c2 }
/-- com/example/entitlement/entitlement/policy/ActionCoversPinLaw -/
def k1 : Class := { plain "com/example/entitlement/entitlement/policy/ActionCoversPinLaw" (some 0) with
  accessFlags := 49
  interfaces := #[]
  cf := some (fileOf pool1 27 #[] #[{ accessFlags := 2, nameIndex := 5, descriptorIndex := 6, attributes := #[] }, { accessFlags := 10, nameIndex := 30, descriptorIndex := 31, attributes := #[] }, { accessFlags := 9, nameIndex := 39, descriptorIndex := 40, attributes := #[] }] 49 2 #[] #[])
  fields := #[]
  methods := #[k1m0, k1m1, k1m2]
  instanceTypes := #[]
  staticTypes := #[]
  resolved := Array.replicate 43 none
  statics := none }

def pool2 : Array CpInfo := pool [(1, .class_ 2), (0, u "java/lang/constant/Constable"), (0, .class_ 4), (0, u "java/lang/Object")] 6

/-- java/lang/constant/Constable -/
def k2 : Class := { plain "java/lang/constant/Constable" (some 0) with
  accessFlags := 1537
  interfaces := #[]
  cf := some (fileOf pool2 1 #[] #[] 1537 3 #[] #[])
  fields := #[]
  methods := #[]
  instanceTypes := #[]
  staticTypes := #[]
  resolved := Array.replicate 11 none
  statics := none }

def pool3 : Array CpInfo := pool [(1, .class_ 2), (0, u "java/lang/Comparable"), (0, .class_ 4), (0, u "java/lang/Object")] 7

/-- java/lang/Comparable -/
def k3 : Class := { plain "java/lang/Comparable" (some 0) with
  accessFlags := 1537
  interfaces := #[]
  cf := some (fileOf pool3 1 #[] #[] 1537 3 #[] #[])
  fields := #[]
  methods := #[]
  instanceTypes := #[]
  staticTypes := #[]
  resolved := Array.replicate 12 none
  statics := none }

def pool4 : Array CpInfo := pool [(1, .class_ 2), (0, u "java/io/Serializable"), (0, .class_ 4), (0, u "java/lang/Object")] 2

/-- java/io/Serializable -/
def k4 : Class := { plain "java/io/Serializable" (some 0) with
  accessFlags := 1537
  interfaces := #[]
  cf := some (fileOf pool4 1 #[] #[] 1537 3 #[] #[])
  fields := #[]
  methods := #[]
  instanceTypes := #[]
  staticTypes := #[]
  resolved := Array.replicate 7 none
  statics := none }

def pool5 : Array CpInfo := pool [(2, .class_ 4), (1, u "java/lang/Enum"), (0, u "name"), (0, u "Ljava/lang/String;"), (2, u "ordinal"), (0, u "I"), (1, .class_ 14), (1, u "java/lang/Object"), (4, u "hash"), (86, .class_ 108), (1, u "java/lang/Enum$EnumDesc"), (2, .class_ 112), (0, u "java/lang/constant/Constable"), (0, .class_ 114), (0, u "java/lang/Comparable"), (0, .class_ 116), (0, u "java/io/Serializable")] 87

/-- java/lang/Enum -/
def k5 : Class := { plain "java/lang/Enum" (some 0) with
  accessFlags := 1057
  interfaces := #[2, 3, 4]
  cf := some (fileOf pool5 2 #[.nestMembers #[106]] #[] 1057 12 #[111, 113, 115] #[{ accessFlags := 18, nameIndex := 5, descriptorIndex := 6, attributes := #[] }, { accessFlags := 18, nameIndex := 9, descriptorIndex := 10, attributes := #[] }, { accessFlags := 2, nameIndex := 19, descriptorIndex := 10, attributes := #[] }])
  fields := #[{ name := "name", type := (.object "java/lang/String"), accessFlags := 18, slot := 0, constantValue := 0 }, { name := "ordinal", type := .int, accessFlags := 18, slot := 1, constantValue := 0 }, { name := "hash", type := .int, accessFlags := 2, slot := 2, constantValue := 0 }]
  methods := #[]
  instanceTypes := #[(.object "java/lang/String"), .int, .int]
  staticTypes := #[]
  resolved := Array.replicate 204 none
  statics := none }

def pool6 : Array CpInfo := pool [(1, .class_ 2), (0, u "com/example/entitlement/entitlement/policy/Action"), (0, .fieldref 1 4), (0, .nameAndType 5 6), (0, u "ALL"), (0, u "Lcom/example/entitlement/entitlement/policy/Action;"), (2, u "VIEW"), (2, u "CREATE"), (2, u "UPDATE"), (2, u "DELETE"), (2, u "$VALUES"), (0, u "[Lcom/example/entitlement/entitlement/policy/Action;"), (6, .class_ 31), (1, u "java/lang/Enum"), (24, u "code"), (0, u "Ljava/lang/String;"), (29, u "covers"), (0, u "(Lcom/example/entitlement/entitlement/policy/Action;)Z")] 29

def k6c0 : Code := { maxStack := 2, maxLocals := 2, code := prog_14_method_5_code, exceptionTable := #[], attributes := #[] }
def k6m0 : Method := { name := "covers", desc := "(Lcom/example/entitlement/entitlement/policy/Action;)Z", sig := { parameters := [(.object "com/example/entitlement/entitlement/policy/Action")], returnType := some .boolean }, accessFlags := 1, code := some k6c0 }
/-- com/example/entitlement/entitlement/policy/Action -/
def k6 : Class := { plain "com/example/entitlement/entitlement/policy/Action" (some 5) with
  accessFlags := 16433
  interfaces := #[]
  cf := some (fileOf pool6 1 #[] #[{ accessFlags := 1, nameIndex := 87, descriptorIndex := 88, attributes := #[] }] 16433 29 #[] #[{ accessFlags := 16409, nameIndex := 5, descriptorIndex := 6, attributes := #[] }, { accessFlags := 16409, nameIndex := 9, descriptorIndex := 6, attributes := #[] }, { accessFlags := 16409, nameIndex := 12, descriptorIndex := 6, attributes := #[] }, { accessFlags := 16409, nameIndex := 15, descriptorIndex := 6, attributes := #[] }, { accessFlags := 16409, nameIndex := 18, descriptorIndex := 6, attributes := #[] }, { accessFlags := 18, nameIndex := 56, descriptorIndex := 57, attributes := #[] }, { accessFlags := 4122, nameIndex := 21, descriptorIndex := 22, attributes := #[] }])
  fields := #[{ name := "ALL", type := (.object "com/example/entitlement/entitlement/policy/Action"), accessFlags := 16409, slot := 0, constantValue := 0 }, { name := "VIEW", type := (.object "com/example/entitlement/entitlement/policy/Action"), accessFlags := 16409, slot := 1, constantValue := 0 }, { name := "CREATE", type := (.object "com/example/entitlement/entitlement/policy/Action"), accessFlags := 16409, slot := 2, constantValue := 0 }, { name := "UPDATE", type := (.object "com/example/entitlement/entitlement/policy/Action"), accessFlags := 16409, slot := 3, constantValue := 0 }, { name := "DELETE", type := (.object "com/example/entitlement/entitlement/policy/Action"), accessFlags := 16409, slot := 4, constantValue := 0 }, { name := "code", type := (.object "java/lang/String"), accessFlags := 18, slot := 3, constantValue := 0 }, { name := "$VALUES", type := (.array (.object "com/example/entitlement/entitlement/policy/Action")), accessFlags := 4122, slot := 5, constantValue := 0 }]
  methods := #[k6m0]
  instanceTypes := #[(.object "java/lang/String"), .int, .int, (.object "java/lang/String")]
  staticTypes := #[(.object "com/example/entitlement/entitlement/policy/Action"), (.object "com/example/entitlement/entitlement/policy/Action"), (.object "com/example/entitlement/entitlement/policy/Action"), (.object "com/example/entitlement/entitlement/policy/Action"), (.object "com/example/entitlement/entitlement/policy/Action"), (.array (.object "com/example/entitlement/entitlement/policy/Action"))]
  resolved := Array.replicate 118 none
  statics := some 0 }

def pool7 : Array CpInfo := pool [(1, u "java/lang/Cloneable"), (0, .class_ 1), (0, u "java/lang/Object"), (0, .class_ 3)] 3

/-- java/lang/Cloneable -/
def k7 : Class := { plain "java/lang/Cloneable" (some 0) with
  accessFlags := 1537
  interfaces := #[]
  cf := some (fileOf pool7 2 #[] #[] 1537 4 #[] #[])
  fields := #[]
  methods := #[]
  instanceTypes := #[]
  staticTypes := #[]
  resolved := Array.replicate 8 none
  statics := none }

/-- the primitive byte -/
def k8 : Class := { plain "byte" none with kind := .primitive 'B', accessFlags := 0x411 }
/-- [B -/
def k9 : Class := { plain "[B" (some 0) with kind := .array 8 .byte, interfaces := #[7, 4], accessFlags := 1041 }

/-- the primitive int -/
def k10 : Class := { plain "int" none with kind := .primitive 'I', accessFlags := 0x411 }
/-- [I -/
def k11 : Class := { plain "[I" (some 0) with kind := .array 10 .int, interfaces := #[7, 4], accessFlags := 1041 }

def heap : Heap := #[{ cls := 6, slots := #[.ref 1, .ref 2, .ref 3, .ref 4, .ref 5, .null], vm := .statics 6 },
  { cls := 6, slots := #[.null, .int 0, .int 0, .null], vm := .none },
  { cls := 6, slots := #[.null, .int 1, .int 0, .null], vm := .none },
  { cls := 6, slots := #[.null, .int 2, .int 0, .null], vm := .none },
  { cls := 6, slots := #[.null, .int 3, .int 0, .null], vm := .none },
  { cls := 6, slots := #[.null, .int 4, .int 0, .null], vm := .none }]
def classes : Array Class := #[k0, k1, k2, k3, k4, k5, k6, k7, k8, k9, k10, k11]
def interned : List (Array UInt16 × Addr) := []
def slotsUsed : Nat := 26
def theMethod : MethodId := ⟨1, 2⟩
def args0 : Array Value := #[.int 5, .int 6]
def aboutOver (below : List Frame) : State where
  vm := { classes := classes, interned := interned.toArray }
  heap := heap
  slotsUsed := slotsUsed
  threads := #[{ frames := .invoking theMethod args0 :: below }]
def below0 : List Frame := [.native { method := ⟨0, 0⟩, args := #[] }]
def about1 : State := aboutOver below0
def p0 : Program := .bare "" "" ""
def e0 : Env := launch0.env 0 0 0
theorem w_frames : about1.frames = Frame.invoking theMethod args0 :: below0 := rfl
set_option maxRecDepth 65536 in
theorem w_args : argsFit about1.vm theMethod args0 = true := by decide +kernel
set_option maxRecDepth 65536 in
theorem w_heap : heapFits about1 = true := by decide +kernel
set_option maxRecDepth 65536 in
theorem w_runnable : about1.curStatus? = some .runnable := by decide +kernel
set_option maxRecDepth 65536 in
theorem w_alone : about1.alone = true := by decide +kernel
set_option maxRecDepth 65536 in
theorem w_named : about1.methodNamed? x = some theMethod := by decide +kernel
set_option maxRecDepth 65536 in
theorem w_hears : about1.hears theMethod below0 = true := by decide +kernel
set_option maxRecDepth 65536 in
theorem w_ripe : about1.ripe theMethod args0 below0 = true := by decide +kernel
theorem w_running : about1.status = .running := rfl
set_option maxRecDepth 65536 in
theorem w_room : about1.hasRoom e0.platform room_1 = true :=
  launch0.hasRoom_least _ room_1 (by decide +kernel) (by decide +kernel) (by decide +kernel) (by decide +kernel) (by decide +kernel) (by decide +kernel)
theorem allAtoms_all (ts : List Jvm.Cond) (a : Array Jvm.Value) (st : Jvm.State) : (allAtoms ts).before a st = ts.all (fun c => c.before a st) := by
  induction ts with
  | nil => rfl
  | cons c t ih =>
    show (Jvm.Cond.and c (allAtoms t)).before a st = _
    rw [Jvm.Cond.before_and, ih, List.all_cons]
def words1 : List Jvm.Cond := Jvm.Cond.code x code maxLocals ret :: tables_1
/-- a 'code' word, met by the world's own term for the bytes: nothing is compared byte by byte -/
theorem code_word {y : MethodName} {bytes : ByteArray} {mx : Nat} {rt : Option FieldType} {a : Array Value} {s : State} {m : MethodId} {meth : Method} {c : Code} (h1 : s.methodNamed? y = some m) (h2 : s.vm.method? m = some meth) (h3 : meth.code = some c) (h4 : c.code = bytes)
    (h5 : (c.maxLocals == mx && c.exceptionTable.isEmpty && decide (c.maxStack ≤ mostOperands) && decide (meth.sig.returnType = rt) && !meth.locks && decide (parseMethodDescriptor y.desc = some meth.sig)) = true) : (Jvm.Cond.code y bytes mx rt).before a s = true := by
  simp only [Bool.and_eq_true, beq_iff_eq, Bool.not_eq_true', decide_eq_true_eq] at h5
  obtain ⟨⟨⟨⟨⟨g1, g2⟩, g3⟩, g4⟩, g5⟩, g6⟩ := h5
  simp [Cond.before, Cond.holds, Cond.value, h1, h2, h3, h4, g1, g2, g3, g4, g5, g6]
def isCode : Jvm.Cond → Bool
  | .code _ _ _ _ => true
  | _ => false
theorem all_split {L : List Jvm.Cond} {P : Jvm.Cond → Bool} (h1 : L.all (fun c => isCode c || P c) = true) (h2 : ∀ c ∈ L.filter isCode, P c = true) : L.all P = true := by
  refine List.all_eq_true.mpr fun c hc => ?_
  have h := List.all_eq_true.mp h1 c hc
  rcases Bool.eq_false_or_eq_true (isCode c) with hi | hi
  · exact h2 c (List.mem_filter.mpr ⟨hc, hi⟩)
  · simpa [hi] using h
set_option maxRecDepth 65536 in
theorem w_c0 : (Jvm.Cond.code x code maxLocals ret).before args0 about1 = true := code_word (m := ⟨1, 2⟩) (meth := k1m2) (c := k1c2) (by decide +kernel) rfl rfl rfl (by decide +kernel)
set_option maxRecDepth 65536 in
theorem w_c1 : (Jvm.Cond.code ({ cls := "com/example/entitlement/entitlement/policy/ActionCoversPinLaw", name := "pick", desc := "(I)Lcom/example/entitlement/entitlement/policy/Action;" } : Jvm.MethodName) method_2_code (1 : Nat) (Option.some (Jvm.ClassFile.FieldType.object "com/example/entitlement/entitlement/policy/Action"))).before args0 about1 = true := code_word (m := ⟨1, 1⟩) (meth := k1m1) (c := k1c1) (by decide +kernel) rfl rfl rfl (by decide +kernel)
set_option maxRecDepth 65536 in
theorem w_c2 : (Jvm.Cond.code ({ cls := "com/example/entitlement/entitlement/policy/Action", name := "covers", desc := "(Lcom/example/entitlement/entitlement/policy/Action;)Z" } : Jvm.MethodName) prog_14_method_5_code (2 : Nat) (Option.some Jvm.ClassFile.FieldType.boolean)).before args0 about1 = true := code_word (m := ⟨6, 0⟩) (meth := k6m0) (c := k6c0) (by decide +kernel) rfl rfl rfl (by decide +kernel)
def codes1 : List Jvm.Cond := [Jvm.Cond.code x code maxLocals ret, Jvm.Cond.code ({ cls := "com/example/entitlement/entitlement/policy/ActionCoversPinLaw", name := "pick", desc := "(I)Lcom/example/entitlement/entitlement/policy/Action;" } : Jvm.MethodName) method_2_code (1 : Nat) (Option.some (Jvm.ClassFile.FieldType.object "com/example/entitlement/entitlement/policy/Action")), Jvm.Cond.code ({ cls := "com/example/entitlement/entitlement/policy/Action", name := "covers", desc := "(Lcom/example/entitlement/entitlement/policy/Action;)Z" } : Jvm.MethodName) prog_14_method_5_code (2 : Nat) (Option.some Jvm.ClassFile.FieldType.boolean)]
set_option maxRecDepth 65536 in
theorem codes_eq : words1.filter isCode = codes1 := rfl
theorem w_codes : ∀ c ∈ words1.filter isCode, c.before args0 about1 = true := by
  rw [codes_eq]
  intro c hc
  simp only [codes1, List.mem_cons, List.not_mem_nil, or_false] at hc
  rcases hc with rfl | rfl | rfl
  · exact w_c0
  · exact w_c1
  · exact w_c2
set_option maxRecDepth 65536 in
theorem w_t1 : words1.all (fun c => isCode c || c.before args0 about1) = true := by decide +kernel
theorem w_tables : (allAtoms (Jvm.Cond.code x code maxLocals ret :: tables_1)).before args0 about1 = true := by
  rw [allAtoms_all]
  show words1.all (fun c => c.before args0 about1) = true
  refine all_split ?_ w_codes
  rw [w_t1]
set_option maxRecDepth 65536 in
theorem w_case : (Jvm.Cond.and given_1 narrow_1).before args0 about1 = true := by decide +kernel
theorem w_applies : (headSpec (Jvm.Cond.code x code maxLocals ret :: tables_1) room_1).applies x e0.platform about1 = true :=
  (Spec.applies_iff w_frames).mpr ⟨w_running, w_runnable, w_alone, w_named, w_hears, w_ripe, w_room, w_tables⟩
theorem atStart : AtStart classFile x code maxLocals ret World_1 tables_1 room_1 Calls_1 rest_1 Pre_1 launch0 p0 e0 about1 theMethod args0 below0 :=
  ⟨lists_1, trivial, launch0.admits_env _ _ _, launch0.least_env, fairChoices_fair.cas, fairChoices_fair.clock, w_frames, w_args, w_heap, w_applies, trivial, trivial, w_case⟩
end start1
theorem witness_1 : WitnessClaimed_1 := ⟨start1.p0, start1.e0, start1.about1, start1.theMethod, start1.args0, start1.below0, start1.atStart⟩
end Jvm.Pilot.@@N@@
