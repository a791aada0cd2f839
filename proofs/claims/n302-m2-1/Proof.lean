import JvmDerived
import JvmDerived.Pilot.@@N@@Statement
import JvmDerived.Pilot.@@N@@Code
set_option linter.unusedVariables false
set_option linter.unusedSimpArgs false
@@BLOCK:NumsL.lean.txt@@
namespace Jvm.RoadKit
open Sem ClassFile Op Lib Jvm.Stand Jvm.Free Jvm.LawKit
/-- a step taken in front of a run that ends well -/
theorem own_go {tb : Tables} {e : Env} {below : List Frame} {a b : State} {P : State → Outcome → Prop} (h : ∀ target, Steps tb e below b target → Steps tb e below a target) (k : ∃ t o, Steps tb e below b t ∧ P t o) : ∃ t o, Steps tb e below a t ∧ P t o := by
  obtain ⟨t, o, h1, h2⟩ := k
  exact ⟨t, o, h _ h1, h2⟩
/-- several roads meet -/
theorem own_join {A : Type} {C : A → Prop} {tb : Tables} {e : Env} {below : List Frame} {P : State → Outcome → Prop} {f : A → State} {a : State} (body : ∀ x, C x → ∃ t o, Steps tb e below (f x) t ∧ P t o)
    (use : (∀ x, C x → ∃ t o, Steps tb e below (f x) t ∧ P t o) → ∃ t o, Steps tb e below a t ∧ P t o) : ∃ t o, Steps tb e below a t ∧ P t o := use body
/-- a field of an object of the start that the case fixes as an int -/
theorem own_fint {args : Array Value} {s : State} {t : Term} {C n d : String} {k : Int32} {x : Addr} (h : (Jvm.Cond.eq (Term.field t C n d) (Term.int k)).value args s none s [] = some true) (ht : t.eval args s none [] s = some (.ref x)) : Fld s s.heap x C n d (.int k) := by
  obtain ⟨u, v, h1, h2, h3, h4⟩ := cmp_v (Or.inl h)
  have e2 : v = .int k := by rw [Term.int_eval] at h2; exact (Option.some.inj h2).symm
  subst e2
  obtain ⟨z, rfl⟩ : ∃ z, u = .int z := h4
  have q := gotT (Cond.eq_ints h1 h2) h
  subst q
  exact Fld.start (by rw [← fld_at (C := C) (n := n) (dd := d) ht]; exact h1)
end Jvm.RoadKit
namespace Jvm.Pilot.@@N@@
open Jvm Jvm.ClassFile Sem Op Lib Jvm.Free Jvm.Stand Jvm.LawKit Jvm.RoadKit Bundle Jvm.Pilot.@@N@@.Jvm.D
def own_c (x : Int32) : Int32 := 2049 + (x &&& 2147483647) % 2147481599
theorem own_c_gt (x : Int32) : (2048 : Int32) < own_c x := by
  have e1 : (x &&& 2147483647).toInt = x.toInt % 2 ^ 31 := Jvm.Kit.i32_mask x 2147483647 (k := 31) (by decide) (by decide)
  have e2 : ((x &&& 2147483647) % 2147481599).toInt = (x &&& 2147483647).toInt % (2147481599 : Int32).toInt := Jvm.Kit.i32_rem_nonneg (by omega)
  have e3 : (2147481599 : Int32).toInt = 2147481599 := by decide
  have e4 : (2049 : Int32).toInt = 2049 := by decide
  have e5 : (2048 : Int32).toInt = 2048 := by decide
  rw [e3] at e2
  have e6 : (own_c x).toInt = (2049 : Int32).toInt + ((x &&& 2147483647) % 2147481599).toInt := Jvm.Kit.i32_add (by omega) (by omega)
  rw [Int32.lt_iff_toInt_lt]
  omega
theorem own_c_ne (x : Int32) : ¬ (own_c x = 0) := fun e => by
  have h := own_c_gt x
  rw [e] at h
  exact absurd h (by decide)
theorem d2_0 : decode prog_5_method_1_code 0 = .ok (.aload_n 0, 1) := by decide +kernel
theorem d2_1 : decode prog_5_method_1_code 1 = .ok (.invokespecial 3, 3) := by decide +kernel
theorem d2_4 : decode prog_5_method_1_code 4 = .ok (.aload_n 0, 1) := by decide +kernel
theorem d2_5 : decode prog_5_method_1_code 5 = .ok (.aload_n 1, 1) := by decide +kernel
theorem d2_6 : decode prog_5_method_1_code 6 = .ok (.putfield 9, 3) := by decide +kernel
theorem d2_9 : decode prog_5_method_1_code 9 = .ok (.aload_n 0, 1) := by decide +kernel
theorem d2_10 : decode prog_5_method_1_code 10 = .ok (.iload_n 2, 1) := by decide +kernel
theorem d2_11 : decode prog_5_method_1_code 11 = .ok (.putfield 15, 3) := by decide +kernel
theorem d2_14 : decode prog_5_method_1_code 14 = .ok (.return_, 1) := by decide +kernel
theorem pn_2 : plainName "com/example/urlsett/urlsett/EntryRules$FieldText" = true := by first | (simp [plainName, overriddenIn]; done) | decide +kernel
theorem ef_rm2 (m : MethodId) (x0 : Addr) (x2 : Int32) : entryFrame m #[(.ref x0), .null, (.int x2)] 3 = mkF m 0 #[.val (.ref x0), .val .null, .val (.int x2)] [] := by first | (simp [entryFrame, mkF, argsToLocals, Value.category]; done) | rfl
def Qrm2 (Z : State) (a1 : Addr) (p3 : Int32) (u1 : Value) (u2 : Value) (h0 : Heap) (n0 : Nat) (v : Option Value) (h : Heap) (L : List Loc) : Prop := v = none ∧ Fr n0 L ∧ Keep h0 h [a1] ∧ (Exa Z h a1 "com/example/urlsett/urlsett/EntryRules$FieldText") ∧ (Fld Z h a1 "com/example/urlsett/urlsett/EntryRules$FieldText" "characters" "I" (.int p3))
set_option maxRecDepth 65536 in
set_option maxHeartbeats 40000000 in
theorem rm2 (l : Launch) (Z : State) (a0 : Array Value) (hw : ∀ d ∈ tables_1, d.before a0 Z = true) (ws : List Jvm.Cond) (a1 : Addr) (p3 : Int32) (u1 : Value) (u2 : Value) (h0 : Heap) (n0 : Nat) (Z0 : n0 ≤ h0.size) (E_a1 : Exa Z h0 a1 "com/example/urlsett/urlsett/EntryRules$FieldText") (Fld_a1_text : Fld Z h0 a1 "com/example/urlsett/urlsett/EntryRules$FieldText" "text" "Ljava/lang/String;" u1) (Fld_a1_characters : Fld Z h0 a1 "com/example/urlsett/urlsett/EntryRules$FieldText" "characters" "I" u2) (g_a1 : n0 ≤ a1) :
    MetFree l (⟨"com/example/urlsett/urlsett/EntryRules$FieldText", "<init>", "(Ljava/lang/String;I)V"⟩ : MethodName) (head1 (Jvm.Cond.code (⟨"com/example/urlsett/urlsett/EntryRules$FieldText", "<init>", "(Ljava/lang/String;I)V"⟩ : MethodName) prog_5_method_1_code 3 none :: ws) ({ frames := 1, cells := 0, slots := 0, locals := 12 } : Room)) (fun a U => a = #[(.ref a1), .null, (.int p3)] ∧ Z.Warmed39 U.vm ∧ U.heap = h0) (fun _ _ _ _ _ => True) (fun _ U o U' => ∃ v L, o = .returned v ∧ Qrm2 Z a1 p3 u1 u2 h0 n0 v U'.heap L ∧ FrameEnd U o U' L ({ frames := 1, cells := 0, slots := 0, locals := 12 } : Room).cells ({ frames := 1, cells := 0, slots := 0, locals := 12 } : Room).slots) := by
  refine MetFree.of_bodySF (plainFor_of_name pn_2) hisR ?_
  intro p e s m args below meth c s₁ Bd hml0 hP hK
  obtain ⟨rfl, hZ, hh⟩ := hP
  have hx := Bd.exec
  have hby := Bd.bytes
  have hml : c.maxLocals = 3 := hml0
  have hown : s.vm.findClass "com/example/urlsett/urlsett/EntryRules$FieldText" = some m.cls := findClass_of_methodNamed Bd.named
  have hnm := (name_of_methodNamed Bd.named Bd.method).1
  have X0 : Stand p l e ({ frames := 1, cells := 0, slots := 0, locals := 12 } : Room) s m #[(.ref a1), .null, (.int p3)] below meth c s₁ [] 0 0 := Stand.of_body Bd
  have e0 : s₁.heap = h0 := by rw [← hh, Bd.state]; rfl
  have N0 := Fr.nil n0
  refine own_go (b := (s₁.setTop (mkF m 0 #[.val (.ref a1), .val .null, .val (.int p3)] []))) (fun _ k => castTop (ef_rm2 m a1 p3) k) ?_
  refine own_go (b := (s₁.setTop (mkF m 1 #[.val (.ref a1), .val .null, .val (.int p3)] [(.ref a1)]))) (fun _ k => XS.aloadN X0.here hx rfl (hb hby d2_0) rfl rfl k) ?_
  obtain ⟨T1, X1, e1, st1⟩ := initO X0 hx hZ hown (hw _ (List.mem_of_getElem? (i := 11) rfl)) (hw _ (List.mem_of_getElem? (i := 12) rfl)) (hw _ (List.mem_of_getElem? (i := 13) rfl)) e0 (g := (mkF m 1 #[.val (.ref a1), .val .null, .val (.int p3)] [(.ref a1)])) rfl (by rw [hml]; rfl) rfl (hb hby d2_1) (by decide) (W := 0) (by show 2 * 0 + _ ≤ _; exact Nat.le_of_eq rfl) (by decide)
  refine own_go (b := (T1.setTop (mkF m 6 #[.val (.ref a1), .val .null, .val (.int p3)] [.null, (.ref a1)]))) (fun _ k => st1 _ (XS.aloadN X1.here hx rfl (hb hby d2_4) rfl rfl (XS.aloadN X1.here hx rfl (hb hby d2_5) rfl rfl k))) ?_
  obtain ⟨T2, h2, X2, e2, W2, st2⟩ := putF X1 hx hZ hown (host := "") (Or.inl (hw _ (List.mem_of_getElem? (i := 14) rfl))) Via.refl e1 Fld_a1_text E_a1 (Or.inr ⟨(hw _ (List.mem_of_getElem? (i := 15) rfl)), rfl, hnm⟩) (hw _ (List.mem_of_getElem? (i := 7) rfl)) (ty := (.object "java/lang/String")) (by decide) rfl rfl (g := (mkF m 6 #[.val (.ref a1), .val .null, .val (.int p3)] [.null, (.ref a1)])) rfl rfl (hb hby d2_6)
  have N2 := Fr.snoc X2 N0 g_a1
  have Zs3 : n0 ≤ h2.size := Nat.le_trans Z0 (Keep.of_wr W2).1
  have F2 : Fld Z h2 a1 "com/example/urlsett/urlsett/EntryRules$FieldText" "text" "Ljava/lang/String;" .null := Fld_a1_text.same W2
  refine own_go (b := (T2.setTop (mkF m 11 #[.val (.ref a1), .val .null, .val (.int p3)] [(.int p3), (.ref a1)]))) (fun _ k => st2 _ (XS.aloadN X2.here hx rfl (hb hby d2_9) rfl rfl (XS.iloadN X2.here hx rfl (hb hby d2_10) rfl k))) ?_
  have F4 : Exa Z h2 a1 "com/example/urlsett/urlsett/EntryRules$FieldText" := E_a1.wr W2
  have F5 : Fld Z h2 a1 "com/example/urlsett/urlsett/EntryRules$FieldText" "characters" "I" u2 := Fld_a1_characters.other W2 (Or.inr (slot_ne (Or.inr (hw _ (List.mem_of_getElem? (i := 17) rfl))) (Or.inr (hw _ (List.mem_of_getElem? (i := 15) rfl))) (by decide) (t := .int) (t' := (.object "java/lang/String")) (by decide) (by decide)))
  obtain ⟨T6, h6, X6, e6, W6, st6⟩ := putF X2 hx hZ hown (host := "") (Or.inl (hw _ (List.mem_of_getElem? (i := 16) rfl))) Via.refl e2 F5 F4 (Or.inr ⟨(hw _ (List.mem_of_getElem? (i := 17) rfl)), rfl, hnm⟩) (hw _ (List.mem_of_getElem? (i := 7) rfl)) (ty := .int) (by decide) rfl rfl (g := (mkF m 11 #[.val (.ref a1), .val .null, .val (.int p3)] [(.int p3), (.ref a1)])) rfl rfl (hb hby d2_11)
  have N6 := Fr.snoc X6 N2 g_a1
  have Zs7 : n0 ≤ h6.size := Nat.le_trans Zs3 (Keep.of_wr W6).1
  have F6 : Fld Z h6 a1 "com/example/urlsett/urlsett/EntryRules$FieldText" "characters" "I" (.int p3) := F5.same W6
  refine own_go (b := (T6.setTop (mkF m 14 #[.val (.ref a1), .val .null, .val (.int p3)] []))) (fun _ k => st6 _ k) ?_
  have K8 : Keep h0 h2 [a1] := (Keep.refl h0 [a1]).wr W2 (Or.inl (List.mem_of_getElem? (i := 0) rfl))
  have K9 : Keep h0 h6 [a1] := K8.wr W6 (Or.inl (List.mem_of_getElem? (i := 0) rfl))
  have F10 : Exa Z h6 a1 "com/example/urlsett/urlsett/EntryRules$FieldText" := F4.wr W6
  obtain ⟨fs, hr, hrun, hended, hW, hsame⟩ := X6.leave (v := none) (fun _ => rfl)
  exact ⟨_, _, X6.returnOut hx Bd.returns (hb hby d2_14) hr, hrun, hended, _, _, rfl, (show Qrm2 Z a1 p3 u1 u2 h0 n0 _ T6.heap _ from (by rw [e6]; exact ⟨rfl, N6, K9, F10, F6⟩)), ⟨_, rfl⟩, hW, hsame.mono (by decide) (by decide)⟩
theorem d1_0 : decode prog_5_method_3_code 0 = .ok (.iload_n 0, 1) := by decide +kernel
theorem d1_1 : decode prog_5_method_3_code 1 = .ok (.sipush 2048, 3) := by decide +kernel
theorem d1_4 : decode prog_5_method_3_code 4 = .ok (.if_icmp .gt 17, 3) := by decide +kernel
theorem d1_7 : decode prog_5_method_3_code 7 = .ok (.new 32, 3) := by decide +kernel
theorem d1_10 : decode prog_5_method_3_code 10 = .ok (.dup, 1) := by decide +kernel
theorem d1_11 : decode prog_5_method_3_code 11 = .ok (.iload_n 0, 1) := by decide +kernel
theorem d1_12 : decode prog_5_method_3_code 12 = .ok (.invokedynamic 34, 5) := by decide +kernel
theorem d1_17 : decode prog_5_method_3_code 17 = .ok (.invokespecial 38, 3) := by decide +kernel
theorem d1_20 : decode prog_5_method_3_code 20 = .ok (.athrow, 1) := by decide +kernel
theorem d1_21 : decode prog_5_method_3_code 21 = .ok (.new 10, 3) := by decide +kernel
theorem d1_24 : decode prog_5_method_3_code 24 = .ok (.dup, 1) := by decide +kernel
theorem d1_25 : decode prog_5_method_3_code 25 = .ok (.aconst_null, 1) := by decide +kernel
theorem d1_26 : decode prog_5_method_3_code 26 = .ok (.iload_n 0, 1) := by decide +kernel
theorem d1_27 : decode prog_5_method_3_code 27 = .ok (.invokespecial 29, 3) := by decide +kernel
theorem d1_30 : decode prog_5_method_3_code 30 = .ok (.areturn, 1) := by decide +kernel
theorem pd__Ljava_lang_String_I_V : parseMethodDescriptor "(Ljava/lang/String;I)V" = some ⟨[(.object "java/lang/String"), .int], none⟩ := by decide +kernel
theorem pn_1 : plainName "com/example/urlsett/urlsett/EntryRules$FieldText" = true := by first | (simp [plainName, overriddenIn]; done) | decide +kernel
theorem ef_rm1 (m : MethodId) (x0 : Int32) : entryFrame m #[(.int x0)] 1 = mkF m 0 #[.val (.int x0)] [] := by first | (simp [entryFrame, mkF, argsToLocals, Value.category]; done) | rfl
def Qrm1 (Z : State) (p1 : Int32) (h0 : Heap) (n0 : Nat) (v : Option Value) (h : Heap) (L : List Loc) : Prop := ∃ (b : Addr), v = some (.ref b) ∧ Fr n0 L ∧ Keep h0 h [] ∧ (h0.size ≤ b) ∧ (Exa Z h b "com/example/urlsett/urlsett/EntryRules$FieldText") ∧ (Fld Z h b "com/example/urlsett/urlsett/EntryRules$FieldText" "characters" "I" (.int p1))
set_option maxRecDepth 65536 in
set_option maxHeartbeats 40000000 in
theorem rm1 (l : Launch) (Z : State) (a0 : Array Value) (hw : ∀ d ∈ tables_1, d.before a0 Z = true) (ws : List Jvm.Cond) (p1 : Int32) (h0 : Heap) (n0 : Nat) (Z0 : n0 ≤ h0.size) (hgt : (2048 : Int32) < p1) :
    MetFree l (⟨"com/example/urlsett/urlsett/EntryRules$FieldText", "counted", "(I)Lcom/example/urlsett/urlsett/EntryRules$FieldText;"⟩ : MethodName) (head1 (Jvm.Cond.code (⟨"com/example/urlsett/urlsett/EntryRules$FieldText", "counted", "(I)Lcom/example/urlsett/urlsett/EntryRules$FieldText;"⟩ : MethodName) prog_5_method_3_code 1 (some (.object "com/example/urlsett/urlsett/EntryRules$FieldText")) :: ws) ({ frames := 2, cells := 1, slots := 2, locals := 27 } : Room)) (fun a U => a = #[(.int p1)] ∧ Z.Warmed39 U.vm ∧ U.heap = h0) (fun _ _ _ _ _ => True) (fun _ U o U' => ∃ v L, o = .returned v ∧ Qrm1 Z p1 h0 n0 v U'.heap L ∧ FrameEnd U o U' L ({ frames := 2, cells := 1, slots := 2, locals := 27 } : Room).cells ({ frames := 2, cells := 1, slots := 2, locals := 27 } : Room).slots) := by
  refine MetFree.of_bodySF (plainFor_of_name pn_1) hisR ?_
  intro p e s m args below meth c s₁ Bd hml0 hP hK
  obtain ⟨rfl, hZ, hh⟩ := hP
  have hx := Bd.exec
  have hby := Bd.bytes
  have hml : c.maxLocals = 1 := hml0
  have hown : s.vm.findClass "com/example/urlsett/urlsett/EntryRules$FieldText" = some m.cls := findClass_of_methodNamed Bd.named
  have hnm := (name_of_methodNamed Bd.named Bd.method).1
  have X0 : Stand p l e ({ frames := 2, cells := 1, slots := 2, locals := 27 } : Room) s m #[(.int p1)] below meth c s₁ [] 0 0 := Stand.of_body Bd
  have e0 : s₁.heap = h0 := by rw [← hh, Bd.state]; rfl
  have N0 := Fr.nil n0
  refine own_go (b := (s₁.setTop (mkF m 0 #[.val (.int p1)] []))) (fun _ k => castTop (ef_rm1 m p1) k) ?_
  refine own_go (b := (s₁.setTop (mkF m 21 #[.val (.int p1)] []))) (fun _ k => XS.iloadN X0.here hx rfl (hb hby d1_0) rfl (XS.sipush X0.here hx rfl (hb hby d1_1) (XS.icmpYes X0.here hx rfl (pc0 := 4) (pc' := 21) rfl (hb hby d1_4) rfl (tlt hgt).2.2.1 (by decide) (by decide) k))) ?_
  obtain ⟨T1, h1, X1, e1, E1, A1, D1, -, st1⟩ := newO X0 hx hZ hown (hw _ (List.mem_of_getElem? (i := 6) rfl)) (hw _ (List.mem_of_getElem? (i := 7) rfl)) (hw _ (List.mem_of_getElem? (i := 4) rfl)) e0 (g := (mkF m 21 #[.val (.int p1)] [])) rfl (hb hby d1_21) (by decide) (by decide)
  obtain ⟨b1, g1⟩ : ∃ z, z = h0.size := ⟨_, rfl⟩
  rw [← g1] at A1 D1 st1
  have Zs2 : n0 ≤ h1.size := Nat.le_trans Z0 E1.1
  have F1_text : Fld Z h1 b1 "com/example/urlsett/urlsett/EntryRules$FieldText" "text" "Ljava/lang/String;" .null := D1 (Or.inr (hw _ (List.mem_of_getElem? (i := 15) rfl))) (ty := (.object "java/lang/String")) (by decide)
  have F1_characters : Fld Z h1 b1 "com/example/urlsett/urlsett/EntryRules$FieldText" "characters" "I" (.int (0 : Int32)) := D1 (Or.inr (hw _ (List.mem_of_getElem? (i := 17) rfl))) (ty := .int) (by decide)
  refine own_go (b := (T1.setTop (mkF m 27 #[.val (.int p1)] [(.int p1), .null, (.ref b1), (.ref b1)]))) (fun _ k => st1 _ (XS.dup X1.here hx rfl (hb hby d1_24) rfl rfl (XS.aconstNull X1.here hx rfl (hb hby d1_25) (XS.iloadN X1.here hx rfl (hb hby d1_26) rfl k)))) ?_
  obtain ⟨_, _, ⟨T3, L3, k3, n3⟩, -, X3, ⟨Lc3, hQ3, l3, y3, z3⟩, st3⟩ := X1.specialBack hx (y := (⟨"com/example/urlsett/urlsett/EntryRules$FieldText", "<init>", "(Ljava/lang/String;I)V"⟩ : MethodName)) rfl hown (mvT hZ (hw _ (List.mem_of_getElem? (i := 8) rfl))) (mvT hZ (hw _ (List.mem_of_getElem? (i := 9) rfl))) (mvT hZ (hw _ (List.mem_of_getElem? (i := 10) rfl))) (by decide) (backOf (W := 1) (rm2 l Z a0 hw [] b1 p1 .null (.int (0 : Int32)) h1 n0 Zs2 A1 F1_text F1_characters (Nat.le_trans Z0 (Nat.le_of_eq g1.symm))) hZ (hw _ (List.mem_of_getElem? (i := 10) rfl)) (hw _ (List.mem_of_getElem? (i := 4) rfl)) (by decide) (by decide)) (g := (mkF m 27 #[.val (.int p1)] [(.int p1), .null, (.ref b1), (.ref b1)])) rfl (by rw [hml]; rfl) (Steps.refl _) (a := b1) (argsL := [.null, (.int p1)]) (rest := [(.ref b1)]) (lenOf pd__Ljava_lang_String_I_V rfl) rfl (by show 2 * 0 + _ ≤ _; exact Nat.le_of_eq rfl) (hb hby d1_27) (fun _ _ => ⟨rfl, e1, (by decide : 1 + 0 ≤ _), (by decide : 2 + 0 ≤ _)⟩)
  dsimp only [Pt.U, Pt.locs, Pt.cells, Pt.slots] at X3 l3 y3 z3 st3 hQ3
  subst l3 y3 z3
  obtain ⟨rfl, N3q, K3, P3_0, P3_1⟩ := hQ3
  have N3 := Fr.app N0 N3q
  have Zs4 : n0 ≤ T3.heap.size := Nat.le_trans Zs2 K3.1
  refine own_go (b := (T3.setTop (mkF m 30 #[.val (.int p1)] [(.ref b1)]))) (fun _ k => st3.trans k) ?_
  have K5 : Keep h0 h1 [] := (Keep.refl h0 []).ext E1
  have K6 : Keep h0 T3.heap [] := K5.trans K3 (allS (Or.inr (Nat.le_trans (Nat.le_refl _) (Nat.le_of_eq g1.symm))) all0)
  obtain ⟨fs, hr, hrun, hended, hW, hsame⟩ := X3.leave (v := some (.ref b1)) (fun h => by rw [Bd.returns] at h; cases h)
  exact ⟨_, _, retOut X3 hx Bd.returns rfl (Or.inr (Or.inr (Or.inr (Or.inr ⟨rfl, rfl, rfl⟩)))) (hb hby d1_30) hr, hrun, hended, _, _, rfl, (show Qrm1 Z p1 h0 n0 _ T3.heap _ from (by exact ⟨b1, rfl, N3, K6, (Nat.le_trans (Nat.le_refl _) (Nat.le_of_eq g1.symm)), P3_0, P3_1⟩)), ⟨_, rfl⟩, hW, hsame.mono (by decide) (by decide)⟩
theorem d4_0 : decode prog_5_method_4_code 0 = .ok (.aload_n 0, 1) := by decide +kernel
theorem d4_1 : decode prog_5_method_4_code 1 = .ok (.getfield 15, 3) := by decide +kernel
theorem d4_4 : decode prog_5_method_4_code 4 = .ok (.ifCond .ne 7, 3) := by decide +kernel
theorem d4_7 : decode prog_5_method_4_code 7 = .ok (.iconst 1, 1) := by decide +kernel
theorem d4_8 : decode prog_5_method_4_code 8 = .ok (.goto 4, 3) := by decide +kernel
theorem d4_11 : decode prog_5_method_4_code 11 = .ok (.iconst 0, 1) := by decide +kernel
theorem d4_12 : decode prog_5_method_4_code 12 = .ok (.ireturn, 1) := by decide +kernel
theorem pn_4 : plainName "com/example/urlsett/urlsett/EntryRules$FieldText" = true := by first | (simp [plainName, overriddenIn]; done) | decide +kernel
theorem ef_rm4 (m : MethodId) (x0 : Addr) : entryFrame m #[(.ref x0)] 1 = mkF m 0 #[.val (.ref x0)] [] := by first | (simp [entryFrame, mkF, argsToLocals, Value.category]; done) | rfl
def Qrm4 (Z : State) (a1 : Addr) (x2 : Int32) (h0 : Heap) (n0 : Nat) (v : Option Value) (h : Heap) (L : List Loc) : Prop := v = some (.int (0 : Int32)) ∧ Fr n0 L ∧ h = h0
set_option maxRecDepth 65536 in
set_option maxHeartbeats 40000000 in
theorem rm4 (l : Launch) (Z : State) (a0 : Array Value) (hw : ∀ d ∈ tables_1, d.before a0 Z = true) (ws : List Jvm.Cond) (a1 : Addr) (x2 : Int32) (h0 : Heap) (n0 : Nat) (Z0 : n0 ≤ h0.size) (Fld_a1_characters : Fld Z h0 a1 "com/example/urlsett/urlsett/EntryRules$FieldText" "characters" "I" (.int x2)) (hne : ¬ (x2 = (0 : Int32))) :
    MetFree l (⟨"com/example/urlsett/urlsett/EntryRules$FieldText", "isEmpty", "()Z"⟩ : MethodName) (head1 (Jvm.Cond.code (⟨"com/example/urlsett/urlsett/EntryRules$FieldText", "isEmpty", "()Z"⟩ : MethodName) prog_5_method_4_code 1 (some .boolean) :: ws) ({ frames := 0, cells := 0, slots := 0, locals := 0 } : Room)) (fun a U => a = #[(.ref a1)] ∧ Z.Warmed39 U.vm ∧ U.heap = h0) (fun _ _ _ _ _ => True) (fun _ U o U' => ∃ v L, o = .returned v ∧ Qrm4 Z a1 x2 h0 n0 v U'.heap L ∧ FrameEnd U o U' L ({ frames := 0, cells := 0, slots := 0, locals := 0 } : Room).cells ({ frames := 0, cells := 0, slots := 0, locals := 0 } : Room).slots) := by
  refine MetFree.of_bodySF (plainFor_of_name pn_4) hisR ?_
  intro p e s m args below meth c s₁ Bd hml0 hP hK
  obtain ⟨rfl, hZ, hh⟩ := hP
  have hx := Bd.exec
  have hby := Bd.bytes
  have hml : c.maxLocals = 1 := hml0
  have hown : s.vm.findClass "com/example/urlsett/urlsett/EntryRules$FieldText" = some m.cls := findClass_of_methodNamed Bd.named
  have hnm := (name_of_methodNamed Bd.named Bd.method).1
  have X0 : Stand p l e ({ frames := 0, cells := 0, slots := 0, locals := 0 } : Room) s m #[(.ref a1)] below meth c s₁ [] 0 0 := Stand.of_body Bd
  have e0 : s₁.heap = h0 := by rw [← hh, Bd.state]; rfl
  have N0 := Fr.nil n0
  refine own_go (b := (s₁.setTop (mkF m 0 #[.val (.ref a1)] []))) (fun _ k => castTop (ef_rm4 m a1) k) ?_
  refine own_go (b := (s₁.setTop (mkF m 1 #[.val (.ref a1)] [(.ref a1)]))) (fun _ k => XS.aloadN X0.here hx rfl (hb hby d4_0) rfl rfl k) ?_
  obtain ⟨T1, X1, e1, st1⟩ := getF X0 hx hZ hown (host := "") (Or.inl (hw _ (List.mem_of_getElem? (i := 16) rfl))) Via.refl e0 Fld_a1_characters (g := (mkF m 1 #[.val (.ref a1)] [(.ref a1)])) rfl rfl (hb hby d4_1)
  refine own_go (b := (T1.setTop (mkF m 12 #[.val (.ref a1)] [(.int (0 : Int32))]))) (fun _ k => st1 _ (XS.ifYes X1.here hx rfl (pc0 := 4) (pc' := 11) rfl (hb hby d4_4) rfl ((if0 _ _).trans (feq hne).2) (by decide) (by decide) (XS.iconst X1.here hx rfl (hb hby d4_11) k))) ?_
  obtain ⟨fs, hr, hrun, hended, hW, hsame⟩ := X1.leave (v := some (.int (0 : Int32))) (fun h => by rw [Bd.returns] at h; cases h)
  exact ⟨_, _, retN X1 hx (t := .boolean) Bd.returns (by simp) (hb hby d4_12) hr, hrun, hended, _, _, rfl, (show Qrm4 Z a1 x2 h0 n0 _ T1.heap _ from (by rw [e1]; exact ⟨rfl, N0, rfl⟩)), ⟨_, rfl⟩, hW, hsame.mono (by decide) (by decide)⟩
theorem pd__I_Lcom_example_urlsett_urlsett_EntryRules_FieldText_ : parseMethodDescriptor "(I)Lcom/example/urlsett/urlsett/EntryRules$FieldText;" = some ⟨[.int], some (.object "com/example/urlsett/urlsett/EntryRules$FieldText")⟩ := by decide +kernel
theorem pd___Z : parseMethodDescriptor "()Z" = some ⟨[], some .boolean⟩ := by decide +kernel
theorem pn_0 : plainName "com/example/urlsett/urlsett/FieldTextCountedPinLaw" = true := by first | (simp [plainName, overriddenIn]; done) | decide +kernel
theorem ef_rm0 (m : MethodId) (x0 : Int32) : entryFrame m #[(.int x0)] maxLocals = mkF m 0 #[.val (.int x0), .unset, .unset] [] := by first | (simp [entryFrame, mkF, argsToLocals, Value.category, maxLocals]; done) | rfl
def Qrm0 (Z : State) (p0 : Int32) (h0 : Heap) (n0 : Nat) (v : Option Value) (h : Heap) (L : List Loc) : Prop := v = some (.int (1 : Int32)) ∧ Fr n0 L
set_option maxRecDepth 65536 in
set_option maxHeartbeats 40000000 in
theorem rm0 (l : Launch) (Z : State) (a0 : Array Value) (hw : ∀ d ∈ tables_1, d.before a0 Z = true) (ws : List Jvm.Cond) (p0 : Int32) (h0 : Heap) (n0 : Nat) (Z0 : n0 ≤ h0.size) :
    MetFree l x (head1 (Jvm.Cond.code x code maxLocals ret :: ws) room_1) (fun a U => a = #[(.int p0)] ∧ Z.Warmed39 U.vm ∧ U.heap = h0) (fun _ _ _ _ _ => True) (fun _ U o U' => ∃ v L, o = .returned v ∧ Qrm0 Z p0 h0 n0 v U'.heap L ∧ FrameEnd U o U' L room_1.cells room_1.slots) := by
  refine MetFree.of_bodySF (plainFor_of_name pn_0) hisR ?_
  intro p e s m args below meth c s₁ Bd hml0 hP hK
  obtain ⟨rfl, hZ, hh⟩ := hP
  have hx := Bd.exec
  have hby := Bd.bytes
  have hml : c.maxLocals = 3 := hml0
  have hown : s.vm.findClass "com/example/urlsett/urlsett/FieldTextCountedPinLaw" = some m.cls := findClass_of_methodNamed Bd.named
  have hnm := (name_of_methodNamed Bd.named Bd.method).1
  have X0 : Stand p l e room_1 s m #[(.int p0)] below meth c s₁ [] 0 0 := Stand.of_body Bd
  have e0 : s₁.heap = h0 := by rw [← hh, Bd.state]; rfl
  have N0 := Fr.nil n0
  refine own_go (b := (s₁.setTop (mkF m 0 #[.val (.int p0), .unset, .unset] []))) (fun _ k => castTop (ef_rm0 m p0) k) ?_
  refine own_go (b := (s₁.setTop (mkF m 13 #[.val (.int p0), .val (.int (own_c p0)), .unset] [(.int (own_c p0))]))) (fun _ k => XS.sipush X0.here hx rfl (hb hby at_0) (XS.iloadN X0.here hx rfl (hb hby at_3) rfl (X0.ldcInt hx hown (mvT hZ (hw _ (List.mem_of_getElem? (i := 0) rfl))) (g := (mkF m 4 #[.val (.int p0), .unset, .unset] [(.int p0), (.int (2049 : Int32))])) rfl (hb hby at_4) _ (XS.iand X0.here hx rfl (hb hby at_6) rfl (X0.ldcInt hx hown (mvT hZ (hw _ (List.mem_of_getElem? (i := 1) rfl))) (g := (mkF m 7 #[.val (.int p0), .unset, .unset] [(.int (p0 &&& (2147483647 : Int32))), (.int (2049 : Int32))])) rfl (hb hby at_7) _ (iremM (g := (mkF m 9 #[.val (.int p0), .unset, .unset] [(.int (2147481599 : Int32)), (.int (p0 &&& (2147483647 : Int32))), (.int (2049 : Int32))])) X0 hx rfl (hb hby at_9) rfl (by decide) (XS.iadd X0.here hx rfl (hb hby at_10) rfl (XS.istoreN X0.here hx rfl (hb hby at_11) rfl (l' := #[.val (.int p0), .val (.int (own_c p0)), .unset]) rfl (XS.iloadN X0.here hx rfl (hb hby at_12) rfl k))))))))) ?_
  obtain ⟨_, _, ⟨T1, L1, k1, n1⟩, -, X1, ⟨Lc1, hQ1, l1, y1, z1⟩, st1⟩ := Jvm.LawKit.callS X0 hx (y := (⟨"com/example/urlsett/urlsett/EntryRules$FieldText", "counted", "(I)Lcom/example/urlsett/urlsett/EntryRules$FieldText;"⟩ : MethodName)) hown (mvT hZ (hw _ (List.mem_of_getElem? (i := 2) rfl))) (mvT hZ (hw _ (List.mem_of_getElem? (i := 3) rfl))) (mvT hZ (hw _ (List.mem_of_getElem? (i := 4) rfl))) (mvT hZ (hw _ (List.mem_of_getElem? (i := 5) rfl))) (by decide) (backOf (W := 0) (rm1 l Z a0 hw [] (own_c p0) h0 n0 Z0 (own_c_gt p0)) hZ (hw _ (List.mem_of_getElem? (i := 5) rfl)) (hw _ (List.mem_of_getElem? (i := 4) rfl)) (by decide) (by decide)) (g := (mkF m 13 #[.val (.int p0), .val (.int (own_c p0)), .unset] [(.int (own_c p0))])) rfl (by rw [hml]; rfl) (argsL := [(.int (own_c p0))]) (rest := []) (lenOf pd__I_Lcom_example_urlsett_urlsett_EntryRules_FieldText_ rfl) rfl (by show 2 * 0 + _ ≤ _; exact Nat.le_of_eq rfl) (hb hby at_13) (fun _ _ => ⟨rfl, e0, (by decide : 0 + 1 ≤ _), (by decide : 0 + 2 ≤ _)⟩)
  dsimp only [Pt.U, Pt.locs, Pt.cells, Pt.slots] at X1 l1 y1 z1 st1 hQ1
  subst l1 y1 z1
  obtain ⟨b_1, rfl, N1q, K1, P1_0, P1_1, P1_2⟩ := hQ1
  have N1 := Fr.app N0 N1q
  have Zs2 : n0 ≤ T1.heap.size := Nat.le_trans Z0 K1.1
  refine own_go (b := (T1.setTop (mkF m 29 #[.val (.int p0), .val (.int (own_c p0)), .val (.ref b_1)] [(.ref b_1)]))) (fun _ k => st1 _ (XS.astoreN X1.here hx rfl (hb hby at_16) rfl rfl (l' := #[.val (.int p0), .val (.int (own_c p0)), .val (.ref b_1)]) rfl (XS.iloadN X1.here hx rfl (hb hby at_17) rfl (XS.sipush X1.here hx rfl (hb hby at_18) (XS.icmpNo X1.here hx rfl (hb hby at_21) rfl (tlt (own_c_gt p0)).2.2.2 (XS.aloadN X1.here hx rfl (hb hby at_24) rfl rfl (XS.ifnullNo X1.here hx rfl (hb hby at_25) rfl (XS.aloadN X1.here hx rfl (hb hby at_28) rfl rfl k)))))))) ?_
  obtain ⟨cq3, kq3, q3a, q3b, q3c⟩ := isOf hZ rfl P1_1
  obtain ⟨_, _, ⟨T3, L3, k3, n3⟩, -, X3, ⟨Lc3, hQ3, l3, y3, z3⟩, st3⟩ := X1.virtualBack hx (y := (⟨"com/example/urlsett/urlsett/EntryRules$FieldText", "isEmpty", "()Z"⟩ : MethodName)) (z := (⟨"com/example/urlsett/urlsett/EntryRules$FieldText", "isEmpty", "()Z"⟩ : MethodName)) hown (mvT hZ (hw _ (List.mem_of_getElem? (i := 18) rfl))) (mvT hZ (hw _ (List.mem_of_getElem? (i := 19) rfl))) (notFace_of_selects (args := #[]) (mvT hZ (hw _ (List.mem_of_getElem? (i := 21) rfl)))) (mvT hZ (hw _ (List.mem_of_getElem? (i := 21) rfl))) (mvT hZ (hw _ (List.mem_of_getElem? (i := 20) rfl))) (by decide) (backOf (W := 0) (rm4 l Z a0 hw [] b_1 (own_c p0) T1.heap n0 Zs2 P1_2 (own_c_ne p0)) hZ (hw _ (List.mem_of_getElem? (i := 22) rfl)) (hw _ (List.mem_of_getElem? (i := 4) rfl)) (by decide) (by decide)) q3a q3c (g := (mkF m 29 #[.val (.int p0), .val (.int (own_c p0)), .val (.ref b_1)] [(.ref b_1)])) rfl (by rw [hml]; rfl) (Steps.refl _) (argsL := []) (rest := []) (lenOf pd___Z rfl) rfl (by show 2 * 0 + _ ≤ _; exact Nat.le_of_eq rfl) (hb hby at_29) (fun _ _ => ⟨rfl, rfl, (by decide : 1 + 0 ≤ _), (by decide : 2 + 0 ≤ _)⟩)
  dsimp only [Pt.U, Pt.locs, Pt.cells, Pt.slots] at X3 l3 y3 z3 st3 hQ3
  subst l3 y3 z3
  obtain ⟨rfl, N3q, eh3⟩ := hQ3
  have N3 := Fr.app N1 N3q
  refine own_go (b := (T3.setTop (mkF m 40 #[.val (.int p0), .val (.int (own_c p0)), .val (.ref b_1)] [(.int (1 : Int32))]))) (fun _ k => st3.trans (XS.ifNo X3.here hx rfl (hb hby at_32) rfl ((if0 _ _).trans (teq (rfl : (0 : Int32) = (0 : Int32))).2) (XS.iconst X3.here hx rfl (hb hby at_35) (XS.goto X3.here hx rfl (pc0 := 36) (pc' := 40) rfl (hb hby at_36) (by decide) (by decide) k)))) ?_
  obtain ⟨fs, hr, hrun, hended, hW, hsame⟩ := X3.leave (v := some (.int (1 : Int32))) (fun h => by rw [Bd.returns] at h; cases h)
  exact ⟨_, _, retN X3 hx (t := .boolean) Bd.returns (by simp) (hb hby at_40) hr, hrun, hended, _, _, rfl, (show Qrm0 Z p0 h0 n0 _ T3.heap _ from (by rw [eh3]; exact ⟨rfl, N3⟩)), ⟨_, rfl⟩, hW, hsame.mono (by decide) (by decide)⟩
set_option maxRecDepth 65536 in
set_option maxHeartbeats 40000000 in
theorem comes_1 {Post : Tables → Env → Array Value → State → Outcome → State → Prop} (hpost : ∀ tb e args s v u, (limb_1_1.after args s (.returned v) u = true ∧ limb_1_2.after args s (.returned v) u = true ∧ True) → FrameEnd s (.returned v) u (Jvm.fieldLocs frame_1_writes args s ++ Jvm.arrayLocs frame_1_arrays args s ++ Jvm.staticLocs frame_1_statics s) 16 128 → Post tb e args s (.returned v) u) :
    ArmFor flags0 classFile x code maxLocals ret World_1 tables_1 room_1 Calls_1 rest_1 Pre_1 Post := by
  intro l hfl _ _ p e ha hc hk s m args below hf hA hF happ hP
  obtain ⟨hcalls, hrest, hpre⟩ := hP
  obtain ⟨-, -, -, hnamed, -, -, -, hat⟩ := (Spec.applies_iff hf).mp happ
  obtain ⟨hg, hn⟩ := and_e (Cond.before_iff.mp (show (Jvm.Cond.and given_1 narrow_1).before args s = true from hpre))
  obtain ⟨gc0, gr0⟩ := and_e hg
  obtain ⟨w0, rfl⟩ : ∃ w0 : Value, args = #[w0] := by
    have hs : args.size = 1 := by simpa [Cond.value, given_1] using gc0
    obtain ⟨L⟩ := args
    match L, hs with
    | [w0], _ => exact ⟨w0, rfl⟩
  have hw := fun d (hd : d ∈ tables_1) => atoms_spec (ws := Jvm.Cond.code x code maxLocals ret :: tables_1) hat d (List.mem_cons_of_mem _ hd)
  have hfit : Fit s := fun {y c} hc i hi => by
    obtain ⟨ha, rfl⟩ := Array.getElem?_eq_some_iff.mp hc
    have q := List.all_eq_true.mp ((Array.all_eq_true_iff_forall_mem.mp hF) _ (Array.getElem_mem ha)) i (List.mem_range.mpr hi)
    simpa [Array.getElem?_eq_getElem hi] using q
  obtain ⟨i0, ei0⟩ := is_v gr0
  obtain rfl : w0 = (.int i0) := Option.some.inj ei0
  obtain ⟨n, o, h1, h2, h3, _, L, rfl, ⟨rfl, N⟩, hq⟩ := rm0 l s _ hw tables_1 i0 s.heap s.heap.size (Nat.le_refl _) p e ha hc hk s m _ below hf ((Spec.applies_iff_loose hf).mp happ).1 ⟨rfl, State.Warmed39.refl s, rfl⟩ trivial
  refine ⟨n, _, h1, h2, h3, hpost _ _ _ _ _ _ ⟨Cond.after_iff.mpr rfl, Cond.after_iff.mpr (eq_i res_at (Term.int_eval (1)) rfl), trivial⟩ ⟨hq.1, hq.2.1, (hq.2.2.sift fun y hy => Or.inr (N y hy)).mono (by decide) (by decide)⟩⟩
theorem main_1_1 : Claimed_1_1 := comes_1 fun _ _ _ _ _ _ h hF => ⟨h.1, hF⟩
theorem main_1_2 : Claimed_1_2 := comes_1 fun _ _ _ _ _ _ h hF => ⟨h.2.1, hF⟩
end Jvm.Pilot.@@N@@
namespace Jvm.Pilot.@@N@@
open Jvm Jvm.ClassFile Sem Op Lib Jvm.Free Jvm.Stand Jvm.Pilot.@@N@@.Jvm.D
/-! MADE BY PROGRAM (witnessworld.py) out of the Statement's table words and the real class files: 9 classes; the members and pool entries that the words name. The judged class is class 1, her method 1. -/
namespace start1
open Jvm.ClassFile
def u (s : String) : CpInfo := .utf8 (stringToUtf16 s)
/-- a pool by its gaps: so many unusable entries, then the entry; so many at the end -/
def gap : Nat → List CpInfo → List CpInfo
  | 0, r => r
  | n + 1, r => .unusable :: gap n r
def poolList (es : List (Nat × CpInfo)) (last : Nat) : List CpInfo := es.foldr (fun e r => gap e.1 (e.2 :: r)) (gap last [])
def pool (es : List (Nat × CpInfo)) (last : Nat) : Array CpInfo := ⟨poolList es last⟩
def fileOf (pool : Array CpInfo) (this : Nat) (attrs : Array Attribute := #[]) (ms : Array MethodInfo := #[]) (fl : Nat := 33) (sup : Nat := 0) (ifs : Array Nat := #[]) (fds : Array FieldInfo := #[]) : ClassFile where
  minorVersion := 0
  majorVersion := 65
  constantPool := pool
  accessFlags := fl
  thisClass := this
  superClass := sup
  interfaces := ifs
  fields := fds
  methods := ms
  attributes := attrs
def plain (name : String) (sup : Option ClassId) : Class where
  name := name
  kind := .ordinary
  loader := none
  accessFlags := 33
  super := sup
  interfaces := #[]
  cf := none
  fields := #[]
  methods := #[]
  instanceTypes := #[]
  staticTypes := #[]
  resolved := #[]
  callSites := []
  init := .initialized
  statics := none
  mirror := none

def pool0 : Array CpInfo := pool [(5, u "<init>"), (0, u "()V"), (1, .class_ 10), (1, u "java/lang/Object")] 113

def k0c0 : Code := { maxStack := 0, maxLocals := 1, code := object_method_1_code, exceptionTable := #[], attributes := #[] }
def k0m0 : Method := { name := "<init>", desc := "()V", sig := { parameters := [], returnType := none }, accessFlags := 1, code := some k0c0 }
/-- java/lang/Object -/
def k0 : Class := { plain "java/lang/Object" none with
  accessFlags := 33
  interfaces := #[]
  cf := some (fileOf pool0 8 #[] #[{ accessFlags := 1, nameIndex := 5, descriptorIndex := 6, attributes := #[] }] 33 0 #[] #[])
  fields := #[]
  methods := #[k0m0]
  instanceTypes := #[]
  staticTypes := #[]
  resolved := Array.replicate 124 none
  statics := none }

def pool1 : Array CpInfo := pool [(2, .class_ 4), (1, u "java/lang/Object"), (0, u "<init>"), (0, u "()V"), (0, .integer 2147483647), (2, .integer 2147481599), (0, .methodref 12 13), (0, .class_ 14), (0, .nameAndType 15 16), (0, u "com/example/urlsett/urlsett/EntryRules$FieldText"), (0, u "counted"), (0, u "(I)Lcom/example/urlsett/urlsett/EntryRules$FieldText;"), (2, .methodref 12 20), (0, .nameAndType 21 22), (0, u "isEmpty"), (0, u "()Z"), (0, .class_ 24), (0, u "com/example/urlsett/urlsett/FieldTextCountedPinLaw"), (2, u "law"), (0, u "(I)Z")] 5

def k1m0 : Method := { name := "<init>", desc := "()V", sig := { parameters := [], returnType := none }, accessFlags := 1, code := none }
def k1c1 : Code := { maxStack := 3, maxLocals := 3, code := code, exceptionTable := #[], attributes := #[] }
def k1m1 : Method := { name := "law", desc := "(I)Z", sig := { parameters := [.int], returnType := some .boolean }, accessFlags := 9, code := some k1c1 }
/-- com/example/urlsett/urlsett/FieldTextCountedPinLaw -/
def k1 : Class := { plain "com/example/urlsett/urlsett/FieldTextCountedPinLaw" (some 0) with
  accessFlags := 49
  interfaces := #[]
  cf := some (fileOf pool1 23 #[] #[{ accessFlags := 1, nameIndex := 5, descriptorIndex := 6, attributes := #[] }, { accessFlags := 9, nameIndex := 27, descriptorIndex := 28, attributes := #[] }] 49 2 #[] #[])
  fields := #[]
  methods := #[k1m0, k1m1]
  instanceTypes := #[]
  staticTypes := #[]
  resolved := Array.replicate 34 none
  statics := none }

def pool2 : Array CpInfo := pool [(1, .class_ 2), (0, u "com/example/urlsett/urlsett/EntryRules"), (0, .methodref 4 5), (0, .class_ 6), (0, .nameAndType 7 8), (0, u "java/lang/Object"), (0, u "<init>"), (0, u "()V"), (0, .fieldref 10 11), (0, .class_ 12), (0, .nameAndType 13 14), (0, u "com/example/urlsett/urlsett/EntryRules$FieldText"), (0, u "text"), (0, u "Ljava/lang/String;"), (0, .fieldref 10 16), (0, .nameAndType 17 18), (0, u "characters"), (0, u "I"), (10, .methodref 10 30), (0, .nameAndType 7 31), (0, u "(Ljava/lang/String;I)V"), (13, u "counted"), (0, u "(I)Lcom/example/urlsett/urlsett/EntryRules$FieldText;"), (1, u "isEmpty"), (0, u "()Z")] 19

def k2c0 : Code := { maxStack := 2, maxLocals := 3, code := prog_5_method_1_code, exceptionTable := #[], attributes := #[] }
def k2m0 : Method := { name := "<init>", desc := "(Ljava/lang/String;I)V", sig := { parameters := [(.object "java/lang/String"), .int], returnType := none }, accessFlags := 2, code := some k2c0 }
def k2c1 : Code := { maxStack := 4, maxLocals := 1, code := prog_5_method_3_code, exceptionTable := #[], attributes := #[] }
def k2m1 : Method := { name := "counted", desc := "(I)Lcom/example/urlsett/urlsett/EntryRules$FieldText;", sig := { parameters := [.int], returnType := some (.object "com/example/urlsett/urlsett/EntryRules$FieldText") }, accessFlags := 8, code := some k2c1 }
def k2c2 : Code := { maxStack := 1, maxLocals := 1, code := prog_5_method_4_code, exceptionTable := #[], attributes := #[] }
def k2m2 : Method := { name := "isEmpty", desc := "()Z", sig := { parameters := [], returnType := some .boolean }, accessFlags := 0, code := some k2c2 }
/-- com/example/urlsett/urlsett/EntryRules$FieldText -/
def k2 : Class := { plain "com/example/urlsett/urlsett/EntryRules$FieldText" (some 0) with
  accessFlags := 48
  interfaces := #[]
  cf := some (fileOf pool2 10 #[.nestHost 1] #[{ accessFlags := 2, nameIndex := 7, descriptorIndex := 31, attributes := #[] }, { accessFlags := 8, nameIndex := 45, descriptorIndex := 46, attributes := #[] }, { accessFlags := 0, nameIndex := 48, descriptorIndex := 49, attributes := #[] }] 48 4 #[] #[{ accessFlags := 18, nameIndex := 13, descriptorIndex := 14, attributes := #[] }, { accessFlags := 18, nameIndex := 17, descriptorIndex := 18, attributes := #[] }])
  fields := #[{ name := "text", type := (.object "java/lang/String"), accessFlags := 18, slot := 0, constantValue := 0 }, { name := "characters", type := .int, accessFlags := 18, slot := 1, constantValue := 0 }]
  methods := #[k2m0, k2m1, k2m2]
  instanceTypes := #[(.object "java/lang/String"), .int]
  staticTypes := #[]
  resolved := Array.replicate 69 none
  statics := none }

def pool3 : Array CpInfo := pool [(1, u "java/lang/Cloneable"), (0, .class_ 1), (0, u "java/lang/Object"), (0, .class_ 3)] 3

/-- java/lang/Cloneable -/
def k3 : Class := { plain "java/lang/Cloneable" (some 0) with
  accessFlags := 1537
  interfaces := #[]
  cf := some (fileOf pool3 2 #[] #[] 1537 4 #[] #[])
  fields := #[]
  methods := #[]
  instanceTypes := #[]
  staticTypes := #[]
  resolved := Array.replicate 8 none
  statics := none }

def pool4 : Array CpInfo := pool [(1, u "java/io/Serializable"), (0, .class_ 1), (0, u "java/lang/Object"), (0, .class_ 3)] 3

/-- java/io/Serializable -/
def k4 : Class := { plain "java/io/Serializable" (some 0) with
  accessFlags := 1537
  interfaces := #[]
  cf := some (fileOf pool4 2 #[] #[] 1537 4 #[] #[])
  fields := #[]
  methods := #[]
  instanceTypes := #[]
  staticTypes := #[]
  resolved := Array.replicate 8 none
  statics := none }

/-- the primitive byte -/
def k5 : Class := { plain "byte" none with kind := .primitive 'B', accessFlags := 0x411 }
/-- [B -/
def k6 : Class := { plain "[B" (some 0) with kind := .array 5 .byte, interfaces := #[3, 4], accessFlags := 1041 }

/-- the primitive int -/
def k7 : Class := { plain "int" none with kind := .primitive 'I', accessFlags := 0x411 }
/-- [I -/
def k8 : Class := { plain "[I" (some 0) with kind := .array 7 .int, interfaces := #[3, 4], accessFlags := 1041 }

def heap : Heap := #[]
def classes : Array Class := #[k0, k1, k2, k3, k4, k5, k6, k7, k8]
def interned : List (Array UInt16 × Addr) := []
def slotsUsed : Nat := 0
def theMethod : MethodId := ⟨1, 1⟩
def args0 : Array Value := #[.int 5]
def aboutOver (below : List Frame) : State where
  vm := { classes := classes, interned := interned.toArray }
  heap := heap
  slotsUsed := slotsUsed
  threads := #[{ frames := .invoking theMethod args0 :: below }]
def below0 : List Frame := [.native { method := ⟨0, 0⟩, args := #[] }]
def about1 : State := aboutOver below0
def p0 : Program := .bare "" "" ""
def e0 : Env := launch0.env 0 0 0
theorem w_frames : about1.frames = Frame.invoking theMethod args0 :: below0 := rfl
set_option maxRecDepth 65536 in
theorem w_args : argsFit about1.vm theMethod args0 = true := by decide +kernel
set_option maxRecDepth 65536 in
theorem w_heap : heapFits about1 = true := by decide +kernel
set_option maxRecDepth 65536 in
theorem w_runnable : about1.curStatus? = some .runnable := by decide +kernel
set_option maxRecDepth 65536 in
theorem w_alone : about1.alone = true := by decide +kernel
set_option maxRecDepth 65536 in
theorem w_named : about1.methodNamed? x = some theMethod := by decide +kernel
set_option maxRecDepth 65536 in
theorem w_hears : about1.hears theMethod below0 = true := by decide +kernel
set_option maxRecDepth 65536 in
theorem w_ripe : about1.ripe theMethod args0 below0 = true := by decide +kernel
theorem w_running : about1.status = .running := rfl
set_option maxRecDepth 65536 in
theorem w_room : about1.hasRoom e0.platform room_1 = true :=
  launch0.hasRoom_least _ room_1 (by decide +kernel) (by decide +kernel) (by decide +kernel) (by decide +kernel) (by decide +kernel) (by decide +kernel)
theorem allAtoms_all (ts : List Jvm.Cond) (a : Array Jvm.Value) (st : Jvm.State) : (allAtoms ts).before a st = ts.all (fun c => c.before a st) := by
  induction ts with
  | nil => rfl
  | cons c t ih =>
    show (Jvm.Cond.and c (allAtoms t)).before a st = _
    rw [Jvm.Cond.before_and, ih, List.all_cons]
def words1 : List Jvm.Cond := Jvm.Cond.code x code maxLocals ret :: tables_1
/-- a 'code' word, met by the world's own term for the bytes: nothing is compared byte by byte -/
theorem code_word {y : MethodName} {bytes : ByteArray} {mx : Nat} {rt : Option FieldType} {a : Array Value} {s : State} {m : MethodId} {meth : Method} {c : Code} (h1 : s.methodNamed? y = some m) (h2 : s.vm.method? m = some meth) (h3 : meth.code = some c) (h4 : c.code = bytes)
    (h5 : (c.maxLocals == mx && c.exceptionTable.isEmpty && decide (c.maxStack ≤ mostOperands) && decide (meth.sig.returnType = rt) && !meth.locks && decide (parseMethodDescriptor y.desc = some meth.sig)) = true) : (Jvm.Cond.code y bytes mx rt).before a s = true := by
  simp only [Bool.and_eq_true, beq_iff_eq, Bool.not_eq_true', decide_eq_true_eq] at h5
  obtain ⟨⟨⟨⟨⟨g1, g2⟩, g3⟩, g4⟩, g5⟩, g6⟩ := h5
  simp [Cond.before, Cond.holds, Cond.value, h1, h2, h3, h4, g1, g2, g3, g4, g5, g6]
def isCode : Jvm.Cond → Bool
  | .code _ _ _ _ => true
  | _ => false
theorem all_split {L : List Jvm.Cond} {P : Jvm.Cond → Bool} (h1 : L.all (fun c => isCode c || P c) = true) (h2 : ∀ c ∈ L.filter isCode, P c = true) : L.all P = true := by
  refine List.all_eq_true.mpr fun c hc => ?_
  have h := List.all_eq_true.mp h1 c hc
  rcases Bool.eq_false_or_eq_true (isCode c) with hi | hi
  · exact h2 c (List.mem_filter.mpr ⟨hc, hi⟩)
  · simpa [hi] using h
set_option maxRecDepth 65536 in
theorem w_c0 : (Jvm.Cond.code x code maxLocals ret).before args0 about1 = true := code_word (m := ⟨1, 1⟩) (meth := k1m1) (c := k1c1) (by decide +kernel) rfl rfl rfl (by decide +kernel)
set_option maxRecDepth 65536 in
theorem w_c1 : (Jvm.Cond.code ({ cls := "com/example/urlsett/urlsett/EntryRules$FieldText", name := "counted", desc := "(I)Lcom/example/urlsett/urlsett/EntryRules$FieldText;" } : Jvm.MethodName) prog_5_method_3_code (1 : Nat) (Option.some (Jvm.ClassFile.FieldType.object "com/example/urlsett/urlsett/EntryRules$FieldText"))).before args0 about1 = true := code_word (m := ⟨2, 1⟩) (meth := k2m1) (c := k2c1) (by decide +kernel) rfl rfl rfl (by decide +kernel)
set_option maxRecDepth 65536 in
theorem w_c2 : (Jvm.Cond.code ({ cls := "com/example/urlsett/urlsett/EntryRules$FieldText", name := "<init>", desc := "(Ljava/lang/String;I)V" } : Jvm.MethodName) prog_5_method_1_code (3 : Nat) (Option.none : Option Jvm.ClassFile.FieldType)).before args0 about1 = true := code_word (m := ⟨2, 0⟩) (meth := k2m0) (c := k2c0) (by decide +kernel) rfl rfl rfl (by decide +kernel)
set_option maxRecDepth 65536 in
theorem w_c3 : (Jvm.Cond.code ({ cls := "java/lang/Object", name := "<init>", desc := "()V" } : Jvm.MethodName) object_method_1_code (1 : Nat) (Option.none : Option Jvm.ClassFile.FieldType)).before args0 about1 = true := code_word (m := ⟨0, 0⟩) (meth := k0m0) (c := k0c0) (by decide +kernel) rfl rfl rfl (by decide +kernel)
set_option maxRecDepth 65536 in
theorem w_c4 : (Jvm.Cond.code ({ cls := "com/example/urlsett/urlsett/EntryRules$FieldText", name := "isEmpty", desc := "()Z" } : Jvm.MethodName) prog_5_method_4_code (1 : Nat) (Option.some Jvm.ClassFile.FieldType.boolean)).before args0 about1 = true := code_word (m := ⟨2, 2⟩) (meth := k2m2) (c := k2c2) (by decide +kernel) rfl rfl rfl (by decide +kernel)
def codes1 : List Jvm.Cond := [Jvm.Cond.code x code maxLocals ret, Jvm.Cond.code ({ cls := "com/example/urlsett/urlsett/EntryRules$FieldText", name := "counted", desc := "(I)Lcom/example/urlsett/urlsett/EntryRules$FieldText;" } : Jvm.MethodName) prog_5_method_3_code (1 : Nat) (Option.some (Jvm.ClassFile.FieldType.object "com/example/urlsett/urlsett/EntryRules$FieldText")), Jvm.Cond.code ({ cls := "com/example/urlsett/urlsett/EntryRules$FieldText", name := "<init>", desc := "(Ljava/lang/String;I)V" } : Jvm.MethodName) prog_5_method_1_code (3 : Nat) (Option.none : Option Jvm.ClassFile.FieldType), Jvm.Cond.code ({ cls := "java/lang/Object", name := "<init>", desc := "()V" } : Jvm.MethodName) object_method_1_code (1 : Nat) (Option.none : Option Jvm.ClassFile.FieldType), Jvm.Cond.code ({ cls := "com/example/urlsett/urlsett/EntryRules$FieldText", name := "isEmpty", desc := "()Z" } : Jvm.MethodName) prog_5_method_4_code (1 : Nat) (Option.some Jvm.ClassFile.FieldType.boolean)]
set_option maxRecDepth 65536 in
theorem codes_eq : words1.filter isCode = codes1 := rfl
theorem w_codes : ∀ c ∈ words1.filter isCode, c.before args0 about1 = true := by
  rw [codes_eq]
  intro c hc
  simp only [codes1, List.mem_cons, List.not_mem_nil, or_false] at hc
  rcases hc with rfl | rfl | rfl | rfl | rfl
  · exact w_c0
  · exact w_c1
  · exact w_c2
  · exact w_c3
  · exact w_c4
set_option maxRecDepth 65536 in
theorem w_t1 : words1.all (fun c => isCode c || c.before args0 about1) = true := by decide +kernel
theorem w_tables : (allAtoms (Jvm.Cond.code x code maxLocals ret :: tables_1)).before args0 about1 = true := by
  rw [allAtoms_all]
  show words1.all (fun c => c.before args0 about1) = true
  refine all_split ?_ w_codes
  rw [w_t1]
set_option maxRecDepth 65536 in
theorem w_case : (Jvm.Cond.and given_1 narrow_1).before args0 about1 = true := by decide +kernel
theorem w_applies : (headSpec (Jvm.Cond.code x code maxLocals ret :: tables_1) room_1).applies x e0.platform about1 = true :=
  (Spec.applies_iff w_frames).mpr ⟨w_running, w_runnable, w_alone, w_named, w_hears, w_ripe, w_room, w_tables⟩
theorem atStart : AtStart classFile x code maxLocals ret World_1 tables_1 room_1 Calls_1 rest_1 Pre_1 launch0 p0 e0 about1 theMethod args0 below0 :=
  ⟨lists_1, trivial, launch0.admits_env _ _ _, launch0.least_env, fairChoices_fair.cas, fairChoices_fair.clock, w_frames, w_args, w_heap, w_applies, trivial, trivial, w_case⟩
end start1
theorem witness_1 : WitnessClaimed_1 := ⟨start1.p0, start1.e0, start1.about1, start1.theMethod, start1.args0, start1.below0, start1.atStart⟩
end Jvm.Pilot.@@N@@
