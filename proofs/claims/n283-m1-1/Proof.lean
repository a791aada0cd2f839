import JvmDerived
import JvmDerived.Pilot.@@N@@Statement
import JvmDerived.Pilot.@@N@@Code
set_option linter.unusedVariables false
set_option linter.unusedSimpArgs false
namespace Jvm.RoadKit
open Sem ClassFile Op Lib Jvm.Stand Jvm.Free Jvm.LawKit
/-- a step taken in front of a run that ends well -/
theorem own_go {tb : Tables} {e : Env} {below : List Frame} {a b : State} {P : State → Outcome → Prop} (h : ∀ target, Steps tb e below b target → Steps tb e below a target) (k : ∃ t o, Steps tb e below b t ∧ P t o) : ∃ t o, Steps tb e below a t ∧ P t o := by
  obtain ⟨t, o, h1, h2⟩ := k
  exact ⟨t, o, h _ h1, h2⟩
/-- several roads meet -/
theorem own_join {A : Type} {C : A → Prop} {tb : Tables} {e : Env} {below : List Frame} {P : State → Outcome → Prop} {f : A → State} {a : State} (body : ∀ x, C x → ∃ t o, Steps tb e below (f x) t ∧ P t o)
    (use : (∀ x, C x → ∃ t o, Steps tb e below (f x) t ∧ P t o) → ∃ t o, Steps tb e below a t ∧ P t o) : ∃ t o, Steps tb e below a t ∧ P t o := use body
/-- a field of an object of the start that the case fixes as an int -/
theorem own_fint {args : Array Value} {s : State} {t : Term} {C n d : String} {k : Int32} {x : Addr} (h : (Jvm.Cond.eq (Term.field t C n d) (Term.int k)).value args s none s [] = some true) (ht : t.eval args s none [] s = some (.ref x)) : Fld s s.heap x C n d (.int k) := by
  obtain ⟨u, v, h1, h2, h3, h4⟩ := cmp_v (Or.inl h)
  have e2 : v = .int k := by rw [Term.int_eval] at h2; exact (Option.some.inj h2).symm
  subst e2
  obtain ⟨z, rfl⟩ : ∃ z, u = .int z := h4
  have q := gotT (Cond.eq_ints h1 h2) h
  subst q
  exact Fld.start (by rw [← fld_at (C := C) (n := n) (dd := d) ht]; exact h1)
end Jvm.RoadKit
namespace Jvm.Pilot.@@N@@
open Jvm Jvm.ClassFile Sem Op Lib Jvm.Free Jvm.Stand Jvm.LawKit Jvm.RoadKit Bundle Jvm.Pilot.@@N@@.Jvm.D
def own_x16 (x : Int32) : Int32 := x ^^^ ((x.toUInt32 >>> ((16 : Int32) &&& 31).toUInt32).toInt32)
def own_x13 (x : Int32) : Int32 := x ^^^ ((x.toUInt32 >>> ((13 : Int32) &&& 31).toUInt32).toInt32)
def own_y13 (x : Int32) : Int32 := (x ^^^ ((x.toUInt32 >>> ((13 : Int32) &&& 31).toUInt32).toInt32)) ^^^ ((x.toUInt32 >>> ((26 : Int32) &&& 31).toUInt32).toInt32)
def own_fin (x : Int32) : Int32 := own_x16 ((own_x13 (own_x16 x * (-2048144789 : Int32))) * (-1028477387 : Int32))
def own_unf (x : Int32) : Int32 := own_x16 ((own_y13 (own_x16 x * (2127672349 : Int32))) * (-1513385405 : Int32))
theorem own_ush (x : Int32) (k : Nat) (n : Int32) (hn : (n &&& 31).toUInt32.toBitVec.toNat % 32 = k) : ((x.toUInt32 >>> (n &&& 31).toUInt32).toInt32).toBitVec = x.toBitVec >>> k := by
  show (x.toUInt32 >>> (n &&& 31).toUInt32).toBitVec = _
  rw [UInt32.toBitVec_shiftRight]
  show x.toBitVec >>> ((n &&& 31).toUInt32.toBitVec % 32) = _
  rw [BitVec.ushiftRight_eq', BitVec.toNat_umod]
  show x.toBitVec >>> ((n &&& 31).toUInt32.toBitVec.toNat % 32) = _
  rw [hn]
theorem own_bv16 (x : BitVec 32) : (x ^^^ (x >>> 16)) ^^^ ((x ^^^ (x >>> 16)) >>> 16) = x := by
  ext i hi
  simp only [BitVec.getElem_xor, BitVec.getElem_ushiftRight, BitVec.getLsbD_xor, BitVec.getLsbD_ushiftRight]
  have h : x.getLsbD (16 + (16 + i)) = false := BitVec.getLsbD_of_ge _ _ (by omega)
  rw [h]
  cases x[i] <;> cases x.getLsbD (16 + i) <;> rfl
theorem own_x16x (x : Int32) : own_x16 (own_x16 x) = x := by
  apply Int32.toBitVec_inj.mp
  unfold own_x16
  simp only [Int32.toBitVec_xor, own_ush _ 16 16 (by decide)]
  exact own_bv16 _
theorem own_bv13 (x : BitVec 32) : ((x ^^^ (x >>> 13)) ^^^ ((x ^^^ (x >>> 13)) >>> 13)) ^^^ ((x ^^^ (x >>> 13)) >>> 26) = x := by
  ext i hi
  simp only [BitVec.getElem_xor, BitVec.getElem_ushiftRight, BitVec.getLsbD_xor, BitVec.getLsbD_ushiftRight]
  have h : x.getLsbD (13 + (26 + i)) = false := BitVec.getLsbD_of_ge _ _ (by omega)
  have e : 13 + (13 + i) = 26 + i := by omega
  rw [h, e]
  cases x[i] <;> cases x.getLsbD (13 + i) <;> cases x.getLsbD (26 + i) <;> rfl
theorem own_bv13' (x : BitVec 32) : (((x ^^^ (x >>> 13)) ^^^ (x >>> 26)) ^^^ (((x ^^^ (x >>> 13)) ^^^ (x >>> 26)) >>> 13)) = x := by
  ext i hi
  simp only [BitVec.getElem_xor, BitVec.getElem_ushiftRight, BitVec.getLsbD_xor, BitVec.getLsbD_ushiftRight]
  have h : x.getLsbD (26 + (13 + i)) = false := BitVec.getLsbD_of_ge _ _ (by omega)
  have e : 13 + (13 + i) = 26 + i := by omega
  rw [h, e]
  cases x[i] <;> cases x.getLsbD (13 + i) <;> cases x.getLsbD (26 + i) <;> rfl
theorem own_y13x (x : Int32) : own_y13 (own_x13 x) = x := by
  apply Int32.toBitVec_inj.mp
  unfold own_y13 own_x13
  simp only [Int32.toBitVec_xor, own_ush _ 13 13 (by decide), own_ush _ 26 26 (by decide)]
  exact own_bv13 _
theorem own_x13y (x : Int32) : own_x13 (own_y13 x) = x := by
  apply Int32.toBitVec_inj.mp
  unfold own_y13 own_x13
  simp only [Int32.toBitVec_xor, own_ush _ 13 13 (by decide), own_ush _ 26 26 (by decide)]
  exact own_bv13' _
theorem own_mul {a b : Int32} (h : a * b = 1) (x : Int32) : x * a * b = x := by rw [Int32.mul_assoc, h, Int32.mul_one]
theorem own_back (x : Int32) : own_unf (own_fin x) = x := by
  unfold own_unf own_fin
  rw [own_x16x, own_mul (by decide), own_y13x, own_mul (by decide), own_x16x]
theorem own_forth (x : Int32) : own_fin (own_unf x) = x := by
  unfold own_unf own_fin
  rw [own_x16x, own_mul (by decide), own_x13y, own_mul (by decide), own_x16x]
theorem d1_0 : decode prog_27_method_10_code 0 = .ok (.iload_n 0, 1) := by decide +kernel
theorem d1_1 : decode prog_27_method_10_code 1 = .ok (.iload_n 0, 1) := by decide +kernel
theorem d1_2 : decode prog_27_method_10_code 2 = .ok (.bipush 16, 2) := by decide +kernel
theorem d1_4 : decode prog_27_method_10_code 4 = .ok (.iushr, 1) := by decide +kernel
theorem d1_5 : decode prog_27_method_10_code 5 = .ok (.ixor, 1) := by decide +kernel
theorem d1_6 : decode prog_27_method_10_code 6 = .ok (.istore_n 0, 1) := by decide +kernel
theorem d1_7 : decode prog_27_method_10_code 7 = .ok (.iload_n 0, 1) := by decide +kernel
theorem d1_8 : decode prog_27_method_10_code 8 = .ok (.ldc 84, 2) := by decide +kernel
theorem d1_10 : decode prog_27_method_10_code 10 = .ok (.imul, 1) := by decide +kernel
theorem d1_11 : decode prog_27_method_10_code 11 = .ok (.istore_n 0, 1) := by decide +kernel
theorem d1_12 : decode prog_27_method_10_code 12 = .ok (.iload_n 0, 1) := by decide +kernel
theorem d1_13 : decode prog_27_method_10_code 13 = .ok (.iload_n 0, 1) := by decide +kernel
theorem d1_14 : decode prog_27_method_10_code 14 = .ok (.bipush 13, 2) := by decide +kernel
theorem d1_16 : decode prog_27_method_10_code 16 = .ok (.iushr, 1) := by decide +kernel
theorem d1_17 : decode prog_27_method_10_code 17 = .ok (.ixor, 1) := by decide +kernel
theorem d1_18 : decode prog_27_method_10_code 18 = .ok (.istore_n 0, 1) := by decide +kernel
theorem d1_19 : decode prog_27_method_10_code 19 = .ok (.iload_n 0, 1) := by decide +kernel
theorem d1_20 : decode prog_27_method_10_code 20 = .ok (.ldc 85, 2) := by decide +kernel
theorem d1_22 : decode prog_27_method_10_code 22 = .ok (.imul, 1) := by decide +kernel
theorem d1_23 : decode prog_27_method_10_code 23 = .ok (.istore_n 0, 1) := by decide +kernel
theorem d1_24 : decode prog_27_method_10_code 24 = .ok (.iload_n 0, 1) := by decide +kernel
theorem d1_25 : decode prog_27_method_10_code 25 = .ok (.iload_n 0, 1) := by decide +kernel
theorem d1_26 : decode prog_27_method_10_code 26 = .ok (.bipush 16, 2) := by decide +kernel
theorem d1_28 : decode prog_27_method_10_code 28 = .ok (.iushr, 1) := by decide +kernel
theorem d1_29 : decode prog_27_method_10_code 29 = .ok (.ixor, 1) := by decide +kernel
theorem d1_30 : decode prog_27_method_10_code 30 = .ok (.ireturn, 1) := by decide +kernel
theorem pn_1 : plainName "com/example/arcwright/arcwright/parser/HashIndex" = true := by first | (simp [plainName, overriddenIn]; done) | decide +kernel
theorem ef_rm1 (m : MethodId) (x0 : Int32) : entryFrame m #[(.int x0)] 1 = mkF m 0 #[.val (.int x0)] [] := by first | (simp [entryFrame, mkF, argsToLocals, Value.category]; done) | rfl
def Qrm1 (Z : State) (p1 : Int32) (h0 : Heap) (n0 : Nat) (v : Option Value) (h : Heap) (L : List Loc) : Prop := v = some (.int (own_fin p1)) ∧ Fr n0 L ∧ h = h0
set_option maxRecDepth 65536 in
set_option maxHeartbeats 40000000 in
theorem rm1 (l : Launch) (Z : State) (a0 : Array Value) (hw : ∀ d ∈ tables_1, d.before a0 Z = true) (ws : List Jvm.Cond) (p1 : Int32) (h0 : Heap) (n0 : Nat) (Z0 : n0 ≤ h0.size) :
    MetFree l (⟨"com/example/arcwright/arcwright/parser/HashIndex", "finish", "(I)I"⟩ : MethodName) (head1 (Jvm.Cond.code (⟨"com/example/arcwright/arcwright/parser/HashIndex", "finish", "(I)I"⟩ : MethodName) prog_27_method_10_code 1 (some .int) :: ws) ({ frames := 0, cells := 0, slots := 0, locals := 0 } : Room)) (fun a U => a = #[(.int p1)] ∧ Z.Warmed39 U.vm ∧ U.heap = h0) (fun _ _ _ _ _ => True) (fun _ U o U' => ∃ v L, o = .returned v ∧ Qrm1 Z p1 h0 n0 v U'.heap L ∧ FrameEnd U o U' L ({ frames := 0, cells := 0, slots := 0, locals := 0 } : Room).cells ({ frames := 0, cells := 0, slots := 0, locals := 0 } : Room).slots) := by
  refine MetFree.of_bodySF (plainFor_of_name pn_1) hisR ?_
  intro p e s m args below meth c s₁ Bd hml0 hP hK
  obtain ⟨rfl, hZ, hh⟩ := hP
  have hx := Bd.exec
  have hby := Bd.bytes
  have hml : c.maxLocals = 1 := hml0
  have hown : s.vm.findClass "com/example/arcwright/arcwright/parser/HashIndex" = some m.cls := findClass_of_methodNamed Bd.named
  have hnm := (name_of_methodNamed Bd.named Bd.method).1
  have X0 : Stand p l e ({ frames := 0, cells := 0, slots := 0, locals := 0 } : Room) s m #[(.int p1)] below meth c s₁ [] 0 0 := Stand.of_body Bd
  have e0 : s₁.heap = h0 := by rw [← hh, Bd.state]; rfl
  have N0 := Fr.nil n0
  refine own_go (b := (s₁.setTop (mkF m 0 #[.val (.int p1)] []))) (fun _ k => castTop (ef_rm1 m p1) k) ?_
  refine own_go (b := (s₁.setTop (mkF m 12 #[.val (.int ((own_x16 p1) * (-2048144789 : Int32)))] []))) (fun _ k => XS.iloadN X0.here hx rfl (hb hby d1_0) rfl (XS.iloadN X0.here hx rfl (hb hby d1_1) rfl (XS.bipush X0.here hx rfl (hb hby d1_2) (XS.iushr X0.here hx rfl (hb hby d1_4) rfl (XS.ixor X0.here hx rfl (hb hby d1_5) rfl (XS.istoreN X0.here hx rfl (hb hby d1_6) rfl (l' := #[.val (.int (own_x16 p1))]) rfl (XS.iloadN X0.here hx rfl (hb hby d1_7) rfl (X0.ldcInt hx hown (mvT hZ (hw _ (List.mem_of_getElem? (i := 4) rfl))) (g := (mkF m 8 #[.val (.int (own_x16 p1))] [(.int (own_x16 p1))])) rfl (hb hby d1_8) _ (XS.imul X0.here hx rfl (hb hby d1_10) rfl (XS.istoreN X0.here hx rfl (hb hby d1_11) rfl (l' := #[.val (.int ((own_x16 p1) * (-2048144789 : Int32)))]) rfl k)))))))))) ?_
  refine own_go (b := (s₁.setTop (mkF m 24 #[.val (.int ((own_x13 ((own_x16 p1) * (-2048144789 : Int32))) * (-1028477387 : Int32)))] []))) (fun _ k => XS.iloadN X0.here hx rfl (hb hby d1_12) rfl (XS.iloadN X0.here hx rfl (hb hby d1_13) rfl (XS.bipush X0.here hx rfl (hb hby d1_14) (XS.iushr X0.here hx rfl (hb hby d1_16) rfl (XS.ixor X0.here hx rfl (hb hby d1_17) rfl (XS.istoreN X0.here hx rfl (hb hby d1_18) rfl (l' := #[.val (.int (own_x13 ((own_x16 p1) * (-2048144789 : Int32))))]) rfl (XS.iloadN X0.here hx rfl (hb hby d1_19) rfl (X0.ldcInt hx hown (mvT hZ (hw _ (List.mem_of_getElem? (i := 5) rfl))) (g := (mkF m 20 #[.val (.int (own_x13 ((own_x16 p1) * (-2048144789 : Int32))))] [(.int (own_x13 ((own_x16 p1) * (-2048144789 : Int32))))])) rfl (hb hby d1_20) _ (XS.imul X0.here hx rfl (hb hby d1_22) rfl (XS.istoreN X0.here hx rfl (hb hby d1_23) rfl (l' := #[.val (.int ((own_x13 ((own_x16 p1) * (-2048144789 : Int32))) * (-1028477387 : Int32)))]) rfl k)))))))))) ?_
  refine own_go (b := (s₁.setTop (mkF m 30 #[.val (.int ((own_x13 ((own_x16 p1) * (-2048144789 : Int32))) * (-1028477387 : Int32)))] [(.int (own_x16 ((own_x13 ((own_x16 p1) * (-2048144789 : Int32))) * (-1028477387 : Int32))))]))) (fun _ k => XS.iloadN X0.here hx rfl (hb hby d1_24) rfl (XS.iloadN X0.here hx rfl (hb hby d1_25) rfl (XS.bipush X0.here hx rfl (hb hby d1_26) (XS.iushr X0.here hx rfl (hb hby d1_28) rfl (XS.ixor X0.here hx rfl (hb hby d1_29) rfl k))))) ?_
  obtain ⟨fs, hr, hrun, hended, hW, hsame⟩ := X0.leave (v := some (.int (own_x16 ((own_x13 ((own_x16 p1) * (-2048144789 : Int32))) * (-1028477387 : Int32))))) (fun h => by rw [Bd.returns] at h; cases h)
  exact ⟨_, _, retOut X0 hx Bd.returns rfl (Or.inl ⟨rfl, Or.inl rfl, _, rfl⟩) (hb hby d1_30) hr, hrun, hended, _, _, rfl, (show Qrm1 Z p1 h0 n0 _ s₁.heap _ from (by rw [e0]; exact ⟨rfl, N0, rfl⟩)), ⟨_, rfl⟩, hW, hsame.mono (by decide) (by decide)⟩
theorem d2_0 : decode method_2_code 0 = .ok (.iload_n 0, 1) := by decide +kernel
theorem d2_1 : decode method_2_code 1 = .ok (.iload_n 0, 1) := by decide +kernel
theorem d2_2 : decode method_2_code 2 = .ok (.bipush 16, 2) := by decide +kernel
theorem d2_4 : decode method_2_code 4 = .ok (.iushr, 1) := by decide +kernel
theorem d2_5 : decode method_2_code 5 = .ok (.ixor, 1) := by decide +kernel
theorem d2_6 : decode method_2_code 6 = .ok (.istore_n 1, 1) := by decide +kernel
theorem d2_7 : decode method_2_code 7 = .ok (.iload_n 1, 1) := by decide +kernel
theorem d2_8 : decode method_2_code 8 = .ok (.ldc 7, 2) := by decide +kernel
theorem d2_10 : decode method_2_code 10 = .ok (.imul, 1) := by decide +kernel
theorem d2_11 : decode method_2_code 11 = .ok (.istore_n 2, 1) := by decide +kernel
theorem d2_12 : decode method_2_code 12 = .ok (.iload_n 2, 1) := by decide +kernel
theorem d2_13 : decode method_2_code 13 = .ok (.iload_n 2, 1) := by decide +kernel
theorem d2_14 : decode method_2_code 14 = .ok (.bipush 13, 2) := by decide +kernel
theorem d2_16 : decode method_2_code 16 = .ok (.iushr, 1) := by decide +kernel
theorem d2_17 : decode method_2_code 17 = .ok (.ixor, 1) := by decide +kernel
theorem d2_18 : decode method_2_code 18 = .ok (.iload_n 2, 1) := by decide +kernel
theorem d2_19 : decode method_2_code 19 = .ok (.bipush 26, 2) := by decide +kernel
theorem d2_21 : decode method_2_code 21 = .ok (.iushr, 1) := by decide +kernel
theorem d2_22 : decode method_2_code 22 = .ok (.ixor, 1) := by decide +kernel
theorem d2_23 : decode method_2_code 23 = .ok (.istore_n 3, 1) := by decide +kernel
theorem d2_24 : decode method_2_code 24 = .ok (.iload_n 3, 1) := by decide +kernel
theorem d2_25 : decode method_2_code 25 = .ok (.ldc 8, 2) := by decide +kernel
theorem d2_27 : decode method_2_code 27 = .ok (.imul, 1) := by decide +kernel
theorem d2_28 : decode method_2_code 28 = .ok (.istore 4, 2) := by decide +kernel
theorem d2_30 : decode method_2_code 30 = .ok (.iload 4, 2) := by decide +kernel
theorem d2_32 : decode method_2_code 32 = .ok (.iload 4, 2) := by decide +kernel
theorem d2_34 : decode method_2_code 34 = .ok (.bipush 16, 2) := by decide +kernel
theorem d2_36 : decode method_2_code 36 = .ok (.iushr, 1) := by decide +kernel
theorem d2_37 : decode method_2_code 37 = .ok (.ixor, 1) := by decide +kernel
theorem d2_38 : decode method_2_code 38 = .ok (.ireturn, 1) := by decide +kernel
theorem pn_2 : plainName "com/example/arcwright/arcwright/parser/HashIndexFinishPinLaw" = true := by first | (simp [plainName, overriddenIn]; done) | decide +kernel
theorem ef_rm2 (m : MethodId) (x0 : Int32) : entryFrame m #[(.int x0)] 5 = mkF m 0 #[.val (.int x0), .unset, .unset, .unset, .unset] [] := by first | (simp [entryFrame, mkF, argsToLocals, Value.category]; done) | rfl
def Qrm2 (Z : State) (p1 : Int32) (h0 : Heap) (n0 : Nat) (v : Option Value) (h : Heap) (L : List Loc) : Prop := v = some (.int (own_unf p1)) ∧ Fr n0 L ∧ h = h0
set_option maxRecDepth 65536 in
set_option maxHeartbeats 40000000 in
theorem rm2 (l : Launch) (Z : State) (a0 : Array Value) (hw : ∀ d ∈ tables_1, d.before a0 Z = true) (ws : List Jvm.Cond) (p1 : Int32) (h0 : Heap) (n0 : Nat) (Z0 : n0 ≤ h0.size) :
    MetFree l (⟨"com/example/arcwright/arcwright/parser/HashIndexFinishPinLaw", "unfinish", "(I)I"⟩ : MethodName) (head1 (Jvm.Cond.code (⟨"com/example/arcwright/arcwright/parser/HashIndexFinishPinLaw", "unfinish", "(I)I"⟩ : MethodName) method_2_code 5 (some .int) :: ws) ({ frames := 0, cells := 0, slots := 0, locals := 0 } : Room)) (fun a U => a = #[(.int p1)] ∧ Z.Warmed39 U.vm ∧ U.heap = h0) (fun _ _ _ _ _ => True) (fun _ U o U' => ∃ v L, o = .returned v ∧ Qrm2 Z p1 h0 n0 v U'.heap L ∧ FrameEnd U o U' L ({ frames := 0, cells := 0, slots := 0, locals := 0 } : Room).cells ({ frames := 0, cells := 0, slots := 0, locals := 0 } : Room).slots) := by
  refine MetFree.of_bodySF (plainFor_of_name pn_2) hisR ?_
  intro p e s m args below meth c s₁ Bd hml0 hP hK
  obtain ⟨rfl, hZ, hh⟩ := hP
  have hx := Bd.exec
  have hby := Bd.bytes
  have hml : c.maxLocals = 5 := hml0
  have hown : s.vm.findClass "com/example/arcwright/arcwright/parser/HashIndexFinishPinLaw" = some m.cls := findClass_of_methodNamed Bd.named
  have hnm := (name_of_methodNamed Bd.named Bd.method).1
  have X0 : Stand p l e ({ frames := 0, cells := 0, slots := 0, locals := 0 } : Room) s m #[(.int p1)] below meth c s₁ [] 0 0 := Stand.of_body Bd
  have e0 : s₁.heap = h0 := by rw [← hh, Bd.state]; rfl
  have N0 := Fr.nil n0
  refine own_go (b := (s₁.setTop (mkF m 0 #[.val (.int p1), .unset, .unset, .unset, .unset] []))) (fun _ k => castTop (ef_rm2 m p1) k) ?_
  refine own_go (b := (s₁.setTop (mkF m 12 #[.val (.int p1), .val (.int (own_x16 p1)), .val (.int ((own_x16 p1) * (2127672349 : Int32))), .unset, .unset] []))) (fun _ k => XS.iloadN X0.here hx rfl (hb hby d2_0) rfl (XS.iloadN X0.here hx rfl (hb hby d2_1) rfl (XS.bipush X0.here hx rfl (hb hby d2_2) (XS.iushr X0.here hx rfl (hb hby d2_4) rfl (XS.ixor X0.here hx rfl (hb hby d2_5) rfl (XS.istoreN X0.here hx rfl (hb hby d2_6) rfl (l' := #[.val (.int p1), .val (.int (own_x16 p1)), .unset, .unset, .unset]) rfl (XS.iloadN X0.here hx rfl (hb hby d2_7) rfl (X0.ldcInt hx hown (mvT hZ (hw _ (List.mem_of_getElem? (i := 10) rfl))) (g := (mkF m 8 #[.val (.int p1), .val (.int (own_x16 p1)), .unset, .unset, .unset] [(.int (own_x16 p1))])) rfl (hb hby d2_8) _ (XS.imul X0.here hx rfl (hb hby d2_10) rfl (XS.istoreN X0.here hx rfl (hb hby d2_11) rfl (l' := #[.val (.int p1), .val (.int (own_x16 p1)), .val (.int ((own_x16 p1) * (2127672349 : Int32))), .unset, .unset]) rfl k)))))))))) ?_
  refine own_go (b := (s₁.setTop (mkF m 24 #[.val (.int p1), .val (.int (own_x16 p1)), .val (.int ((own_x16 p1) * (2127672349 : Int32))), .val (.int (own_y13 ((own_x16 p1) * (2127672349 : Int32)))), .unset] []))) (fun _ k => XS.iloadN X0.here hx rfl (hb hby d2_12) rfl (XS.iloadN X0.here hx rfl (hb hby d2_13) rfl (XS.bipush X0.here hx rfl (hb hby d2_14) (XS.iushr X0.here hx rfl (hb hby d2_16) rfl (XS.ixor X0.here hx rfl (hb hby d2_17) rfl (XS.iloadN X0.here hx rfl (hb hby d2_18) rfl (XS.bipush X0.here hx rfl (hb hby d2_19) (XS.iushr X0.here hx rfl (hb hby d2_21) rfl (XS.ixor X0.here hx rfl (hb hby d2_22) rfl (XS.istoreN X0.here hx rfl (hb hby d2_23) rfl (l' := #[.val (.int p1), .val (.int (own_x16 p1)), .val (.int ((own_x16 p1) * (2127672349 : Int32))), .val (.int (own_y13 ((own_x16 p1) * (2127672349 : Int32)))), .unset]) rfl k)))))))))) ?_
  refine own_go (b := (s₁.setTop (mkF m 38 #[.val (.int p1), .val (.int (own_x16 p1)), .val (.int ((own_x16 p1) * (2127672349 : Int32))), .val (.int (own_y13 ((own_x16 p1) * (2127672349 : Int32)))), .val (.int ((own_y13 ((own_x16 p1) * (2127672349 : Int32))) * (-1513385405 : Int32)))] [(.int (own_x16 ((own_y13 ((own_x16 p1) * (2127672349 : Int32))) * (-1513385405 : Int32))))]))) (fun _ k => XS.iloadN X0.here hx rfl (hb hby d2_24) rfl (X0.ldcInt hx hown (mvT hZ (hw _ (List.mem_of_getElem? (i := 11) rfl))) (g := (mkF m 25 #[.val (.int p1), .val (.int (own_x16 p1)), .val (.int ((own_x16 p1) * (2127672349 : Int32))), .val (.int (own_y13 ((own_x16 p1) * (2127672349 : Int32)))), .unset] [(.int (own_y13 ((own_x16 p1) * (2127672349 : Int32))))])) rfl (hb hby d2_25) _ (XS.imul X0.here hx rfl (hb hby d2_27) rfl (XS.istore X0.here hx rfl (hb hby d2_28) rfl (l' := #[.val (.int p1), .val (.int (own_x16 p1)), .val (.int ((own_x16 p1) * (2127672349 : Int32))), .val (.int (own_y13 ((own_x16 p1) * (2127672349 : Int32)))), .val (.int ((own_y13 ((own_x16 p1) * (2127672349 : Int32))) * (-1513385405 : Int32)))]) rfl (XS.iload X0.here hx rfl (hb hby d2_30) rfl (XS.iload X0.here hx rfl (hb hby d2_32) rfl (XS.bipush X0.here hx rfl (hb hby d2_34) (XS.iushr X0.here hx rfl (hb hby d2_36) rfl (XS.ixor X0.here hx rfl (hb hby d2_37) rfl k))))))))) ?_
  obtain ⟨fs, hr, hrun, hended, hW, hsame⟩ := X0.leave (v := some (.int (own_x16 ((own_y13 ((own_x16 p1) * (2127672349 : Int32))) * (-1513385405 : Int32))))) (fun h => by rw [Bd.returns] at h; cases h)
  exact ⟨_, _, retOut X0 hx Bd.returns rfl (Or.inl ⟨rfl, Or.inl rfl, _, rfl⟩) (hb hby d2_38) hr, hrun, hended, _, _, rfl, (show Qrm2 Z p1 h0 n0 _ s₁.heap _ from (by rw [e0]; exact ⟨rfl, N0, rfl⟩)), ⟨_, rfl⟩, hW, hsame.mono (by decide) (by decide)⟩
theorem pd__I_I : parseMethodDescriptor "(I)I" = some ⟨[.int], some .int⟩ := by decide +kernel
theorem pn_0 : plainName "com/example/arcwright/arcwright/parser/HashIndexFinishPinLaw" = true := by first | (simp [plainName, overriddenIn]; done) | decide +kernel
theorem ef_rm0 (m : MethodId) (x0 : Int32) (x1 : Int32) : entryFrame m #[(.int x0), (.int x1)] maxLocals = mkF m 0 #[.val (.int x0), .val (.int x1), .unset, .unset] [] := by first | (simp [entryFrame, mkF, argsToLocals, Value.category, maxLocals]; done) | rfl
def Qrm0 (Z : State) (p0 : Int32) (p1 : Int32) (h0 : Heap) (n0 : Nat) (v : Option Value) (h : Heap) (L : List Loc) : Prop := v = some (.int (1 : Int32)) ∧ Fr n0 L
set_option maxRecDepth 65536 in
set_option maxHeartbeats 40000000 in
theorem rm0 (l : Launch) (Z : State) (a0 : Array Value) (hw : ∀ d ∈ tables_1, d.before a0 Z = true) (ws : List Jvm.Cond) (p0 : Int32) (p1 : Int32) (h0 : Heap) (n0 : Nat) (Z0 : n0 ≤ h0.size) :
    MetFree l x (head1 (Jvm.Cond.code x code maxLocals ret :: ws) room_1) (fun a U => a = #[(.int p0), (.int p1)] ∧ Z.Warmed39 U.vm ∧ U.heap = h0) (fun _ _ _ _ _ => True) (fun _ U o U' => ∃ v L, o = .returned v ∧ Qrm0 Z p0 p1 h0 n0 v U'.heap L ∧ FrameEnd U o U' L room_1.cells room_1.slots) := by
  refine MetFree.of_bodySF (plainFor_of_name pn_0) hisR ?_
  intro p e s m args below meth c s₁ Bd hml0 hP hK
  obtain ⟨rfl, hZ, hh⟩ := hP
  have hx := Bd.exec
  have hby := Bd.bytes
  have hml : c.maxLocals = 4 := hml0
  have hown : s.vm.findClass "com/example/arcwright/arcwright/parser/HashIndexFinishPinLaw" = some m.cls := findClass_of_methodNamed Bd.named
  have hnm := (name_of_methodNamed Bd.named Bd.method).1
  have X0 : Stand p l e room_1 s m #[(.int p0), (.int p1)] below meth c s₁ [] 0 0 := Stand.of_body Bd
  have e0 : s₁.heap = h0 := by rw [← hh, Bd.state]; rfl
  have N0 := Fr.nil n0
  refine own_go (b := (s₁.setTop (mkF m 0 #[.val (.int p0), .val (.int p1), .unset, .unset] []))) (fun _ k => castTop (ef_rm0 m p0 p1) k) ?_
  refine own_go (b := (s₁.setTop (mkF m 1 #[.val (.int p0), .val (.int p1), .unset, .unset] [(.int p0)]))) (fun _ k => XS.iloadN X0.here hx rfl (hb hby at_0) rfl k) ?_
  obtain ⟨_, _, ⟨T1, L1, k1, n1⟩, -, X1, ⟨Lc1, hQ1, l1, y1, z1⟩, st1⟩ := Jvm.LawKit.callS X0 hx (y := (⟨"com/example/arcwright/arcwright/parser/HashIndex", "finish", "(I)I"⟩ : MethodName)) hown (mvT hZ (hw _ (List.mem_of_getElem? (i := 0) rfl))) (mvT hZ (hw _ (List.mem_of_getElem? (i := 1) rfl))) (mvT hZ (hw _ (List.mem_of_getElem? (i := 2) rfl))) (mvT hZ (hw _ (List.mem_of_getElem? (i := 3) rfl))) (by decide) (backOf (W := 0) (rm1 l Z a0 hw [] p0 h0 n0 Z0) hZ (hw _ (List.mem_of_getElem? (i := 3) rfl)) (hw _ (List.mem_of_getElem? (i := 2) rfl)) (by decide) (by decide)) (g := (mkF m 1 #[.val (.int p0), .val (.int p1), .unset, .unset] [(.int p0)])) rfl (by rw [hml]; rfl) (argsL := [(.int p0)]) (rest := []) (lenOf pd__I_I rfl) rfl (by show 2 * 0 + _ ≤ _; exact Nat.le_of_eq rfl) (hb hby at_1) (fun _ _ => ⟨rfl, e0, (by decide : 0 + 0 ≤ _), (by decide : 0 + 0 ≤ _)⟩)
  dsimp only [Pt.U, Pt.locs, Pt.cells, Pt.slots] at X1 l1 y1 z1 st1 hQ1
  subst l1 y1 z1
  obtain ⟨rfl, N1q, eh1⟩ := hQ1
  have N1 := Fr.app N0 N1q
  refine own_go (b := (T1.setTop (mkF m 4 #[.val (.int p0), .val (.int p1), .unset, .unset] [(.int (own_fin p0))]))) (fun _ k => st1 _ k) ?_
  obtain ⟨_, _, ⟨T2, L2, k2, n2⟩, -, X2, ⟨Lc2, hQ2, l2, y2, z2⟩, st2⟩ := Jvm.LawKit.callS X1 hx (y := (⟨"com/example/arcwright/arcwright/parser/HashIndexFinishPinLaw", "unfinish", "(I)I"⟩ : MethodName)) hown (mvT hZ (hw _ (List.mem_of_getElem? (i := 6) rfl))) (mvT hZ (hw _ (List.mem_of_getElem? (i := 7) rfl))) (mvT hZ (hw _ (List.mem_of_getElem? (i := 8) rfl))) (mvT hZ (hw _ (List.mem_of_getElem? (i := 9) rfl))) (by decide) (backOf (W := 0) (rm2 l Z a0 hw [] (own_fin p0) h0 n0 Z0) hZ (hw _ (List.mem_of_getElem? (i := 9) rfl)) (hw _ (List.mem_of_getElem? (i := 8) rfl)) (by decide) (by decide)) (g := (mkF m 4 #[.val (.int p0), .val (.int p1), .unset, .unset] [(.int (own_fin p0))])) rfl (by rw [hml]; rfl) (argsL := [(.int (own_fin p0))]) (rest := []) (lenOf pd__I_I rfl) rfl (by show 2 * 0 + _ ≤ _; exact Nat.le_of_eq rfl) (hb hby at_4) (fun _ _ => ⟨rfl, eh1, (by decide : 0 + 0 ≤ _), (by decide : 0 + 0 ≤ _)⟩)
  dsimp only [Pt.U, Pt.locs, Pt.cells, Pt.slots] at X2 l2 y2 z2 st2 hQ2
  subst l2 y2 z2
  obtain ⟨rfl, N2q, eh2⟩ := hQ2
  have N2 := Fr.app N1 N2q
  refine own_go (b := (T2.setTop (mkF m 18 #[.val (.int p0), .val (.int p1), .val (.int (1 : Int32)), .unset] [(.int p1)]))) (fun _ k => st2 _ (XS.iloadN X2.here hx rfl (hb hby at_7) rfl (XS.icmpNo X2.here hx rfl (hb hby at_8) rfl (teq (own_back p0)).2 (XS.iconst X2.here hx rfl (hb hby at_11) (XS.goto X2.here hx rfl (pc0 := 12) (pc' := 16) rfl (hb hby at_12) (by decide) (by decide) (XS.istoreN X2.here hx rfl (hb hby at_16) rfl (l' := #[.val (.int p0), .val (.int p1), .val (.int (1 : Int32)), .unset]) rfl (XS.iloadN X2.here hx rfl (hb hby at_17) rfl k))))))) ?_
  obtain ⟨_, _, ⟨T3, L3, k3, n3⟩, -, X3, ⟨Lc3, hQ3, l3, y3, z3⟩, st3⟩ := Jvm.LawKit.callS X2 hx (y := (⟨"com/example/arcwright/arcwright/parser/HashIndexFinishPinLaw", "unfinish", "(I)I"⟩ : MethodName)) hown (mvT hZ (hw _ (List.mem_of_getElem? (i := 6) rfl))) (mvT hZ (hw _ (List.mem_of_getElem? (i := 7) rfl))) (mvT hZ (hw _ (List.mem_of_getElem? (i := 8) rfl))) (mvT hZ (hw _ (List.mem_of_getElem? (i := 9) rfl))) (by decide) (backOf (W := 0) (rm2 l Z a0 hw [] p1 h0 n0 Z0) hZ (hw _ (List.mem_of_getElem? (i := 9) rfl)) (hw _ (List.mem_of_getElem? (i := 8) rfl)) (by decide) (by decide)) (g := (mkF m 18 #[.val (.int p0), .val (.int p1), .val (.int (1 : Int32)), .unset] [(.int p1)])) rfl (by rw [hml]; rfl) (argsL := [(.int p1)]) (rest := []) (lenOf pd__I_I rfl) rfl (by show 2 * 0 + _ ≤ _; exact Nat.le_of_eq rfl) (hb hby at_18) (fun _ _ => ⟨rfl, eh2, (by decide : 0 + 0 ≤ _), (by decide : 0 + 0 ≤ _)⟩)
  dsimp only [Pt.U, Pt.locs, Pt.cells, Pt.slots] at X3 l3 y3 z3 st3 hQ3
  subst l3 y3 z3
  obtain ⟨rfl, N3q, eh3⟩ := hQ3
  have N3 := Fr.app N2 N3q
  refine own_go (b := (T3.setTop (mkF m 21 #[.val (.int p0), .val (.int p1), .val (.int (1 : Int32)), .unset] [(.int (own_unf p1))]))) (fun _ k => st3 _ k) ?_
  obtain ⟨_, _, ⟨T4, L4, k4, n4⟩, -, X4, ⟨Lc4, hQ4, l4, y4, z4⟩, st4⟩ := Jvm.LawKit.callS X3 hx (y := (⟨"com/example/arcwright/arcwright/parser/HashIndex", "finish", "(I)I"⟩ : MethodName)) hown (mvT hZ (hw _ (List.mem_of_getElem? (i := 0) rfl))) (mvT hZ (hw _ (List.mem_of_getElem? (i := 1) rfl))) (mvT hZ (hw _ (List.mem_of_getElem? (i := 2) rfl))) (mvT hZ (hw _ (List.mem_of_getElem? (i := 3) rfl))) (by decide) (backOf (W := 0) (rm1 l Z a0 hw [] (own_unf p1) h0 n0 Z0) hZ (hw _ (List.mem_of_getElem? (i := 3) rfl)) (hw _ (List.mem_of_getElem? (i := 2) rfl)) (by decide) (by decide)) (g := (mkF m 21 #[.val (.int p0), .val (.int p1), .val (.int (1 : Int32)), .unset] [(.int (own_unf p1))])) rfl (by rw [hml]; rfl) (argsL := [(.int (own_unf p1))]) (rest := []) (lenOf pd__I_I rfl) rfl (by show 2 * 0 + _ ≤ _; exact Nat.le_of_eq rfl) (hb hby at_21) (fun _ _ => ⟨rfl, eh3, (by decide : 0 + 0 ≤ _), (by decide : 0 + 0 ≤ _)⟩)
  dsimp only [Pt.U, Pt.locs, Pt.cells, Pt.slots] at X4 l4 y4 z4 st4 hQ4
  subst l4 y4 z4
  obtain ⟨rfl, N4q, eh4⟩ := hQ4
  have N4 := Fr.app N3 N4q
  refine own_go (b := (T4.setTop (mkF m 42 #[.val (.int p0), .val (.int p1), .val (.int (1 : Int32)), .val (.int (1 : Int32))] []))) (fun _ k => st4 _ (XS.iloadN X4.here hx rfl (hb hby at_24) rfl (XS.icmpNo X4.here hx rfl (hb hby at_25) rfl (teq (own_forth p1)).2 (XS.iconst X4.here hx rfl (hb hby at_28) (XS.goto X4.here hx rfl (pc0 := 29) (pc' := 33) rfl (hb hby at_29) (by decide) (by decide) (XS.istoreN X4.here hx rfl (hb hby at_33) rfl (l' := #[.val (.int p0), .val (.int p1), .val (.int (1 : Int32)), .val (.int (1 : Int32))]) rfl (XS.iloadN X4.here hx rfl (hb hby at_34) rfl (XS.ifNo X4.here hx rfl (hb hby at_35) rfl ((if0 _ _).trans (feq (by decide : ¬ ((1 : Int32) = (0 : Int32)))).1) (XS.iloadN X4.here hx rfl (hb hby at_38) rfl (XS.ifNo X4.here hx rfl (hb hby at_39) rfl ((if0 _ _).trans (feq (by decide : ¬ ((1 : Int32) = (0 : Int32)))).1) k)))))))))) ?_
  refine own_go (b := (T4.setTop (mkF m 47 #[.val (.int p0), .val (.int p1), .val (.int (1 : Int32)), .val (.int (1 : Int32))] [(.int (1 : Int32))]))) (fun _ k => XS.iconst X4.here hx rfl (hb hby at_42) (XS.goto X4.here hx rfl (pc0 := 43) (pc' := 47) rfl (hb hby at_43) (by decide) (by decide) k)) ?_
  obtain ⟨fs, hr, hrun, hended, hW, hsame⟩ := X4.leave (v := some (.int (1 : Int32))) (fun h => by rw [Bd.returns] at h; cases h)
  exact ⟨_, _, retN X4 hx (t := .boolean) Bd.returns (by simp) (hb hby at_47) hr, hrun, hended, _, _, rfl, (show Qrm0 Z p0 p1 h0 n0 _ T4.heap _ from (by rw [eh4]; exact ⟨rfl, N4⟩)), ⟨_, rfl⟩, hW, hsame.mono (by decide) (by decide)⟩
set_option maxRecDepth 65536 in
set_option maxHeartbeats 40000000 in
theorem comes_1 {Post : Tables → Env → Array Value → State → Outcome → State → Prop} (hpost : ∀ tb e args s v u, (limb_1_1.after args s (.returned v) u = true ∧ limb_1_2.after args s (.returned v) u = true ∧ True) → FrameEnd s (.returned v) u (Jvm.fieldLocs frame_1_writes args s ++ Jvm.arrayLocs frame_1_arrays args s ++ Jvm.staticLocs frame_1_statics s) 0 0 → Post tb e args s (.returned v) u) :
    ArmFor flags0 classFile x code maxLocals ret World_1 tables_1 room_1 Calls_1 rest_1 Pre_1 Post := by
  intro l hfl _ _ p e ha hc hk s m args below hf hA hF happ hP
  obtain ⟨hcalls, hrest, hpre⟩ := hP
  obtain ⟨-, -, -, hnamed, -, -, -, hat⟩ := (Spec.applies_iff hf).mp happ
  obtain ⟨hg, hn⟩ := and_e (Cond.before_iff.mp (show (Jvm.Cond.and given_1 narrow_1).before args s = true from hpre))
  obtain ⟨gc0, gr0⟩ := and_e hg
  obtain ⟨gc1, gr1⟩ := and_e gr0
  obtain ⟨w0, w1, rfl⟩ : ∃ w0 w1 : Value, args = #[w0, w1] := by
    have hs : args.size = 2 := by simpa [Cond.value, given_1] using gc0
    obtain ⟨L⟩ := args
    match L, hs with
    | [w0, w1], _ => exact ⟨w0, w1, rfl⟩
  have hw := fun d (hd : d ∈ tables_1) => atoms_spec (ws := Jvm.Cond.code x code maxLocals ret :: tables_1) hat d (List.mem_cons_of_mem _ hd)
  have hfit : Fit s := fun {y c} hc i hi => by
    obtain ⟨ha, rfl⟩ := Array.getElem?_eq_some_iff.mp hc
    have q := List.all_eq_true.mp ((Array.all_eq_true_iff_forall_mem.mp hF) _ (Array.getElem_mem ha)) i (List.mem_range.mpr hi)
    simpa [Array.getElem?_eq_getElem hi] using q
  obtain ⟨i0, ei0⟩ := is_v gc1
  obtain rfl : w0 = (.int i0) := Option.some.inj ei0
  obtain ⟨i1, ei1⟩ := is_v gr1
  obtain rfl : w1 = (.int i1) := Option.some.inj ei1
  obtain ⟨n, o, h1, h2, h3, _, L, rfl, ⟨rfl, N⟩, hq⟩ := rm0 l s _ hw tables_1 i0 i1 s.heap s.heap.size (Nat.le_refl _) p e ha hc hk s m _ below hf ((Spec.applies_iff_loose hf).mp happ).1 ⟨rfl, State.Warmed39.refl s, rfl⟩ trivial
  refine ⟨n, _, h1, h2, h3, hpost _ _ _ _ _ _ ⟨Cond.after_iff.mpr rfl, Cond.after_iff.mpr (eq_i res_at (Term.int_eval (1)) rfl), trivial⟩ ⟨hq.1, hq.2.1, (hq.2.2.sift fun y hy => Or.inr (N y hy)).mono (by decide) (by decide)⟩⟩
theorem main_1_1 : Claimed_1_1 := comes_1 fun _ _ _ _ _ _ h hF => ⟨h.1, hF⟩
theorem main_1_2 : Claimed_1_2 := comes_1 fun _ _ _ _ _ _ h hF => ⟨h.2.1, hF⟩
end Jvm.Pilot.@@N@@
namespace Jvm.Pilot.@@N@@
open Jvm Jvm.ClassFile Sem Op Lib Jvm.Free Jvm.Stand Jvm.Pilot.@@N@@.Jvm.D
/-! MADE BY PROGRAM (witnessworld.py) out of the Statement's table words and the real class files: 11 classes; the members and pool entries that the words name. The judged class is class 1, her method 2. -/
namespace start1
open Jvm.ClassFile
def u (s : String) : CpInfo := .utf8 (stringToUtf16 s)
/-- a pool by its gaps: so many unusable entries, then the entry; so many at the end -/
def gap : Nat → List CpInfo → List CpInfo
  | 0, r => r
  | n + 1, r => .unusable :: gap n r
def poolList (es : List (Nat × CpInfo)) (last : Nat) : List CpInfo := es.foldr (fun e r => gap e.1 (e.2 :: r)) (gap last [])
def pool (es : List (Nat × CpInfo)) (last : Nat) : Array CpInfo := ⟨poolList es last⟩
def fileOf (pool : Array CpInfo) (this : Nat) (attrs : Array Attribute := #[]) (ms : Array MethodInfo := #[]) (fl : Nat := 33) (sup : Nat := 0) (ifs : Array Nat := #[]) (fds : Array FieldInfo := #[]) : ClassFile where
  minorVersion := 0
  majorVersion := 65
  constantPool := pool
  accessFlags := fl
  thisClass := this
  superClass := sup
  interfaces := ifs
  fields := fds
  methods := ms
  attributes := attrs
def plain (name : String) (sup : Option ClassId) : Class where
  name := name
  kind := .ordinary
  loader := none
  accessFlags := 33
  super := sup
  interfaces := #[]
  cf := none
  fields := #[]
  methods := #[]
  instanceTypes := #[]
  staticTypes := #[]
  resolved := #[]
  callSites := []
  init := .initialized
  statics := none
  mirror := none

def pool0 : Array CpInfo := pool [(5, u "<init>"), (0, u "()V"), (1, .class_ 10), (1, u "java/lang/Object")] 113

def k0m0 : Method := { name := "<init>", desc := "()V", sig := { parameters := [], returnType := none }, accessFlags := 1, code := none }
/-- java/lang/Object -/
def k0 : Class := { plain "java/lang/Object" none with
  accessFlags := 33
  interfaces := #[]
  cf := some (fileOf pool0 8 #[] #[{ accessFlags := 1, nameIndex := 5, descriptorIndex := 6, attributes := #[] }] 33 0 #[] #[])
  fields := #[]
  methods := #[k0m0]
  instanceTypes := #[]
  staticTypes := #[]
  resolved := Array.replicate 124 none
  statics := none }

def pool1 : Array CpInfo := pool [(2, .class_ 4), (1, u "java/lang/Object"), (0, u "<init>"), (0, u "()V"), (0, .integer 2127672349), (0, .integer 2781581891), (0, .methodref 10 11), (0, .class_ 12), (0, .nameAndType 13 14), (0, u "com/example/arcwright/arcwright/parser/HashIndex"), (0, u "finish"), (0, u "(I)I"), (0, .methodref 16 17), (0, .class_ 18), (0, .nameAndType 19 14), (0, u "com/example/arcwright/arcwright/parser/HashIndexFinishPinLaw"), (0, u "unfinish"), (2, u "law"), (0, u "(II)Z")] 3

def k1m0 : Method := { name := "<init>", desc := "()V", sig := { parameters := [], returnType := none }, accessFlags := 2, code := none }
def k1c1 : Code := { maxStack := 3, maxLocals := 5, code := method_2_code, exceptionTable := #[], attributes := #[] }
def k1m1 : Method := { name := "unfinish", desc := "(I)I", sig := { parameters := [.int], returnType := some .int }, accessFlags := 10, code := some k1c1 }
def k1c2 : Code := { maxStack := 2, maxLocals := 4, code := code, exceptionTable := #[], attributes := #[] }
def k1m2 : Method := { name := "law", desc := "(II)Z", sig := { parameters := [.int, .int], returnType := some .boolean }, accessFlags := 9, code := some k1c2 }
/-- com/example/arcwright/arcwright/parser/HashIndexFinishPinLaw -/
def k1 : Class := { plain "com/example/arcwright/arcwright/parser/HashIndexFinishPinLaw" (some 0) with
  accessFlags := 49
  interfaces := #[]
  cf := some (fileOf pool1 16 #[] #[{ accessFlags := 2, nameIndex := 5, descriptorIndex := 6, attributes := #[] }, { accessFlags := 10, nameIndex := 19, descriptorIndex := 14, attributes := #[] }, { accessFlags := 9, nameIndex := 22, descriptorIndex := 23, attributes := #[] }] 49 2 #[] #[])
  fields := #[]
  methods := #[k1m0, k1m1, k1m2]
  instanceTypes := #[]
  staticTypes := #[]
  resolved := Array.replicate 27 none
  statics := none }

def pool2 : Array CpInfo := pool [(1, .class_ 2), (0, u "com/example/arcwright/arcwright/parser/FeatureIndex"), (0, .class_ 4), (0, u "java/lang/Object")] 6

/-- com/example/arcwright/arcwright/parser/FeatureIndex -/
def k2 : Class := { plain "com/example/arcwright/arcwright/parser/FeatureIndex" (some 0) with
  accessFlags := 1536
  interfaces := #[]
  cf := some (fileOf pool2 1 #[] #[] 1536 3 #[] #[])
  fields := #[]
  methods := #[]
  instanceTypes := #[]
  staticTypes := #[]
  resolved := Array.replicate 11 none
  statics := none }

def pool3 : Array CpInfo := pool [(1, .class_ 2), (0, u "com/example/arcwright/arcwright/parser/KeyIndex"), (0, .class_ 4), (0, u "java/lang/Object"), (0, .class_ 6), (0, u "com/example/arcwright/arcwright/parser/FeatureIndex")] 6

/-- com/example/arcwright/arcwright/parser/KeyIndex -/
def k3 : Class := { plain "com/example/arcwright/arcwright/parser/KeyIndex" (some 0) with
  accessFlags := 1536
  interfaces := #[2]
  cf := some (fileOf pool3 1 #[] #[] 1536 3 #[5] #[])
  fields := #[]
  methods := #[]
  instanceTypes := #[]
  staticTypes := #[]
  resolved := Array.replicate 13 none
  statics := none }

def pool4 : Array CpInfo := pool [(2, .class_ 4), (1, u "java/lang/Object"), (3, .class_ 10), (1, u "com/example/arcwright/arcwright/parser/HashIndex"), (0, u "table"), (0, u "Lcom/example/arcwright/arcwright/parser/FeatureTable;"), (4, u "size"), (7, u "slots"), (0, u "[J"), (43, u "(I)I"), (6, u "finish"), (6, .integer 2246822507), (0, .integer 3266489909), (6, u "I"), (9, .class_ 103), (0, u "com/example/arcwright/arcwright/parser/KeyIndex"), (0, u "EMPTY"), (0, u "J")] 33

def k4c0 : Code := { maxStack := 3, maxLocals := 1, code := prog_27_method_10_code, exceptionTable := #[], attributes := #[] }
def k4m0 : Method := { name := "finish", desc := "(I)I", sig := { parameters := [.int], returnType := some .int }, accessFlags := 8, code := some k4c0 }
/-- com/example/arcwright/arcwright/parser/HashIndex -/
def k4 : Class := { plain "com/example/arcwright/arcwright/parser/HashIndex" (some 0) with
  accessFlags := 48
  interfaces := #[3]
  cf := some (fileOf pool4 8 #[] #[{ accessFlags := 8, nameIndex := 77, descriptorIndex := 70, attributes := #[] }] 48 2 #[102] #[{ accessFlags := 26, nameIndex := 104, descriptorIndex := 105, attributes := #[] }, { accessFlags := 18, nameIndex := 11, descriptorIndex := 12, attributes := #[] }, { accessFlags := 2, nameIndex := 25, descriptorIndex := 26, attributes := #[] }, { accessFlags := 2, nameIndex := 17, descriptorIndex := 92, attributes := #[] }])
  fields := #[{ name := "EMPTY", type := .long, accessFlags := 26, slot := 0, constantValue := 0 }, { name := "table", type := (.object "com/example/arcwright/arcwright/parser/FeatureTable"), accessFlags := 18, slot := 0, constantValue := 0 }, { name := "slots", type := (.array .long), accessFlags := 2, slot := 1, constantValue := 0 }, { name := "size", type := .int, accessFlags := 2, slot := 2, constantValue := 0 }]
  methods := #[k4m0]
  instanceTypes := #[(.object "com/example/arcwright/arcwright/parser/FeatureTable"), (.array .long), .int]
  staticTypes := #[.long]
  resolved := Array.replicate 139 none
  statics := none }

def pool5 : Array CpInfo := pool [(1, u "java/lang/Cloneable"), (0, .class_ 1), (0, u "java/lang/Object"), (0, .class_ 3)] 3

/-- java/lang/Cloneable -/
def k5 : Class := { plain "java/lang/Cloneable" (some 0) with
  accessFlags := 1537
  interfaces := #[]
  cf := some (fileOf pool5 2 #[] #[] 1537 4 #[] #[])
  fields := #[]
  methods := #[]
  instanceTypes := #[]
  staticTypes := #[]
  resolved := Array.replicate 8 none
  statics := none }

def pool6 : Array CpInfo := pool [(1, u "java/io/Serializable"), (0, .class_ 1), (0, u "java/lang/Object"), (0, .class_ 3)] 3

/-- java/io/Serializable -/
def k6 : Class := { plain "java/io/Serializable" (some 0) with
  accessFlags := 1537
  interfaces := #[]
  cf := some (fileOf pool6 2 #[] #[] 1537 4 #[] #[])
  fields := #[]
  methods := #[]
  instanceTypes := #[]
  staticTypes := #[]
  resolved := Array.replicate 8 none
  statics := none }

/-- the primitive byte -/
def k7 : Class := { plain "byte" none with kind := .primitive 'B', accessFlags := 0x411 }
/-- [B -/
def k8 : Class := { plain "[B" (some 0) with kind := .array 7 .byte, interfaces := #[5, 6], accessFlags := 1041 }

/-- the primitive int -/
def k9 : Class := { plain "int" none with kind := .primitive 'I', accessFlags := 0x411 }
/-- [I -/
def k10 : Class := { plain "[I" (some 0) with kind := .array 9 .int, interfaces := #[5, 6], accessFlags := 1041 }

def heap : Heap := #[]
def classes : Array Class := #[k0, k1, k2, k3, k4, k5, k6, k7, k8, k9, k10]
def interned : List (Array UInt16 × Addr) := []
def slotsUsed : Nat := 0
def theMethod : MethodId := ⟨1, 2⟩
def args0 : Array Value := #[.int 5, .int 6]
def aboutOver (below : List Frame) : State where
  vm := { classes := classes, interned := interned.toArray }
  heap := heap
  slotsUsed := slotsUsed
  threads := #[{ frames := .invoking theMethod args0 :: below }]
def below0 : List Frame := [.native { method := ⟨0, 0⟩, args := #[] }]
def about1 : State := aboutOver below0
def p0 : Program := .bare "" "" ""
def e0 : Env := launch0.env 0 0 0
theorem w_frames : about1.frames = Frame.invoking theMethod args0 :: below0 := rfl
set_option maxRecDepth 65536 in
theorem w_args : argsFit about1.vm theMethod args0 = true := by decide +kernel
set_option maxRecDepth 65536 in
theorem w_heap : heapFits about1 = true := by decide +kernel
set_option maxRecDepth 65536 in
theorem w_runnable : about1.curStatus? = some .runnable := by decide +kernel
set_option maxRecDepth 65536 in
theorem w_alone : about1.alone = true := by decide +kernel
set_option maxRecDepth 65536 in
theorem w_named : about1.methodNamed? x = some theMethod := by decide +kernel
set_option maxRecDepth 65536 in
theorem w_hears : about1.hears theMethod below0 = true := by decide +kernel
set_option maxRecDepth 65536 in
theorem w_ripe : about1.ripe theMethod args0 below0 = true := by decide +kernel
theorem w_running : about1.status = .running := rfl
set_option maxRecDepth 65536 in
theorem w_room : about1.hasRoom e0.platform room_1 = true :=
  launch0.hasRoom_least _ room_1 (by decide +kernel) (by decide +kernel) (by decide +kernel) (by decide +kernel) (by decide +kernel) (by decide +kernel)
theorem allAtoms_all (ts : List Jvm.Cond) (a : Array Jvm.Value) (st : Jvm.State) : (allAtoms ts).before a st = ts.all (fun c => c.before a st) := by
  induction ts with
  | nil => rfl
  | cons c t ih =>
    show (Jvm.Cond.and c (allAtoms t)).before a st = _
    rw [Jvm.Cond.before_and, ih, List.all_cons]
def words1 : List Jvm.Cond := Jvm.Cond.code x code maxLocals ret :: tables_1
/-- a 'code' word, met by the world's own term for the bytes: nothing is compared byte by byte -/
theorem code_word {y : MethodName} {bytes : ByteArray} {mx : Nat} {rt : Option FieldType} {a : Array Value} {s : State} {m : MethodId} {meth : Method} {c : Code} (h1 : s.methodNamed? y = some m) (h2 : s.vm.method? m = some meth) (h3 : meth.code = some c) (h4 : c.code = bytes)
    (h5 : (c.maxLocals == mx && c.exceptionTable.isEmpty && decide (c.maxStack ≤ mostOperands) && decide (meth.sig.returnType = rt) && !meth.locks && decide (parseMethodDescriptor y.desc = some meth.sig)) = true) : (Jvm.Cond.code y bytes mx rt).before a s = true := by
  simp only [Bool.and_eq_true, beq_iff_eq, Bool.not_eq_true', decide_eq_true_eq] at h5
  obtain ⟨⟨⟨⟨⟨g1, g2⟩, g3⟩, g4⟩, g5⟩, g6⟩ := h5
  simp [Cond.before, Cond.holds, Cond.value, h1, h2, h3, h4, g1, g2, g3, g4, g5, g6]
def isCode : Jvm.Cond → Bool
  | .code _ _ _ _ => true
  | _ => false
theorem all_split {L : List Jvm.Cond} {P : Jvm.Cond → Bool} (h1 : L.all (fun c => isCode c || P c) = true) (h2 : ∀ c ∈ L.filter isCode, P c = true) : L.all P = true := by
  refine List.all_eq_true.mpr fun c hc => ?_
  have h := List.all_eq_true.mp h1 c hc
  rcases Bool.eq_false_or_eq_true (isCode c) with hi | hi
  · exact h2 c (List.mem_filter.mpr ⟨hc, hi⟩)
  · simpa [hi] using h
set_option maxRecDepth 65536 in
theorem w_c0 : (Jvm.Cond.code x code maxLocals ret).before args0 about1 = true := code_word (m := ⟨1, 2⟩) (meth := k1m2) (c := k1c2) (by decide +kernel) rfl rfl rfl (by decide +kernel)
set_option maxRecDepth 65536 in
theorem w_c1 : (Jvm.Cond.code ({ cls := "com/example/arcwright/arcwright/parser/HashIndex", name := "finish", desc := "(I)I" } : Jvm.MethodName) prog_27_method_10_code (1 : Nat) (Option.some Jvm.ClassFile.FieldType.int)).before args0 about1 = true := code_word (m := ⟨4, 0⟩) (meth := k4m0) (c := k4c0) (by decide +kernel) rfl rfl rfl (by decide +kernel)
set_option maxRecDepth 65536 in
theorem w_c2 : (Jvm.Cond.code ({ cls := "com/example/arcwright/arcwright/parser/HashIndexFinishPinLaw", name := "unfinish", desc := "(I)I" } : Jvm.MethodName) method_2_code (5 : Nat) (Option.some Jvm.ClassFile.FieldType.int)).before args0 about1 = true := code_word (m := ⟨1, 1⟩) (meth := k1m1) (c := k1c1) (by decide +kernel) rfl rfl rfl (by decide +kernel)
def codes1 : List Jvm.Cond := [Jvm.Cond.code x code maxLocals ret, Jvm.Cond.code ({ cls := "com/example/arcwright/arcwright/parser/HashIndex", name := "finish", desc := "(I)I" } : Jvm.MethodName) prog_27_method_10_code (1 : Nat) (Option.some Jvm.ClassFile.FieldType.int), Jvm.Cond.code ({ cls := "com/example/arcwright/arcwright/parser/HashIndexFinishPinLaw", name := "unfinish", desc := "(I)I" } : Jvm.MethodName) method_2_code (5 : Nat) (Option.some Jvm.ClassFile.FieldType.int)]
set_option maxRecDepth 65536 in
theorem codes_eq : words1.filter isCode = codes1 := rfl
theorem w_codes : ∀ c ∈ words1.filter isCode, c.before args0 about1 = true := by
  rw [codes_eq]
  intro c hc
  simp only [codes1, List.mem_cons, List.not_mem_nil, or_false] at hc
  rcases hc with rfl | rfl | rfl
  · exact w_c0
  · exact w_c1
  · exact w_c2
set_option maxRecDepth 65536 in
theorem w_t1 : words1.all (fun c => isCode c || c.before args0 about1) = true := by decide +kernel
theorem w_tables : (allAtoms (Jvm.Cond.code x code maxLocals ret :: tables_1)).before args0 about1 = true := by
  rw [allAtoms_all]
  show words1.all (fun c => c.before args0 about1) = true
  refine all_split ?_ w_codes
  rw [w_t1]
set_option maxRecDepth 65536 in
theorem w_case : (Jvm.Cond.and given_1 narrow_1).before args0 about1 = true := by decide +kernel
theorem w_applies : (headSpec (Jvm.Cond.code x code maxLocals ret :: tables_1) room_1).applies x e0.platform about1 = true :=
  (Spec.applies_iff w_frames).mpr ⟨w_running, w_runnable, w_alone, w_named, w_hears, w_ripe, w_room, w_tables⟩
theorem atStart : AtStart classFile x code maxLocals ret World_1 tables_1 room_1 Calls_1 rest_1 Pre_1 launch0 p0 e0 about1 theMethod args0 below0 :=
  ⟨lists_1, trivial, launch0.admits_env _ _ _, launch0.least_env, fairChoices_fair.cas, fairChoices_fair.clock, w_frames, w_args, w_heap, w_applies, trivial, trivial, w_case⟩
end start1
theorem witness_1 : WitnessClaimed_1 := ⟨start1.p0, start1.e0, start1.about1, start1.theMethod, start1.args0, start1.below0, start1.atStart⟩
end Jvm.Pilot.@@N@@
