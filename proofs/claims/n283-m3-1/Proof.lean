import JvmDerived
import JvmDerived.Pilot.@@N@@Statement
import JvmDerived.Pilot.@@N@@Code
set_option linter.unusedVariables false
set_option linter.unusedSimpArgs false
@@BLOCK:NumsL.lean.txt@@
namespace Jvm.RoadKit
open Sem ClassFile Op Lib Jvm.Stand Jvm.Free Jvm.LawKit
/-- a step taken in front of a run that ends well -/
theorem own_go {tb : Tables} {e : Env} {below : List Frame} {a b : State} {P : State → Outcome → Prop} (h : ∀ target, Steps tb e below b target → Steps tb e below a target) (k : ∃ t o, Steps tb e below b t ∧ P t o) : ∃ t o, Steps tb e below a t ∧ P t o := by
  obtain ⟨t, o, h1, h2⟩ := k
  exact ⟨t, o, h _ h1, h2⟩
/-- several roads meet -/
theorem own_join {A : Type} {C : A → Prop} {tb : Tables} {e : Env} {below : List Frame} {P : State → Outcome → Prop} {f : A → State} {a : State} (body : ∀ x, C x → ∃ t o, Steps tb e below (f x) t ∧ P t o)
    (use : (∀ x, C x → ∃ t o, Steps tb e below (f x) t ∧ P t o) → ∃ t o, Steps tb e below a t ∧ P t o) : ∃ t o, Steps tb e below a t ∧ P t o := use body
/-- a private method is its own selection -/
theorem own_selp {args : Array Value} {s : State} {y : MethodName} {n : Nat} (wi : (Cond.instantiable y.cls n).before args s = true) (wp : (Cond.privateMethod y).before args s = true) (wm : (Cond.instanceMethod y).before args s = true) (ny : y.cls ≠ "java/lang/invoke/MethodHandle" ∧ y.cls ≠ "java/lang/invoke/VarHandle") :
    (Cond.selects y.cls y y).before args s = true := by
  obtain ⟨c, k, h1, h2, -, h4, -⟩ := Cond.instantiable_spec wi
  obtain ⟨m, meth, g1, g2, -⟩ := Cond.instanceMethod_spec wm
  have hp := Cond.privateMethod_at wp m meth g1 g2
  have hc : m.cls = c := by
    have := findClass_of_methodNamed g1
    rw [h1] at this; exact (Option.some.inj this).symm
  have hi : k.isInterface = false := by simp at h4; exact h4.1
  have hf : s.methodFound? y.cls y.name y.desc = some m := State.methodFound?_of_named g1 ny
  simp [Cond.before, Cond.holds, Cond.value, h1, hf, g1, selectMethod_private g2 hp, hc, h2, hi]
/-- a field of an object of the start that the case fixes as an int -/
theorem own_fint {args : Array Value} {s : State} {t : Term} {C n d : String} {k : Int32} {x : Addr} (h : (Jvm.Cond.eq (Term.field t C n d) (Term.int k)).value args s none s [] = some true) (ht : t.eval args s none [] s = some (.ref x)) : Fld s s.heap x C n d (.int k) := by
  obtain ⟨u, v, h1, h2, h3, h4⟩ := cmp_v (Or.inl h)
  have e2 : v = .int k := by rw [Term.int_eval] at h2; exact (Option.some.inj h2).symm
  subst e2
  obtain ⟨z, rfl⟩ : ∃ z, u = .int z := h4
  have q := gotT (Cond.eq_ints h1 h2) h
  subst q
  exact Fld.start (by rw [← fld_at (C := C) (n := n) (dd := d) ht]; exact h1)
end Jvm.RoadKit
namespace Jvm.Pilot.@@N@@
open Jvm Jvm.ClassFile Sem Op Lib Jvm.Free Jvm.Stand Jvm.LawKit Jvm.RoadKit Bundle Jvm.Pilot.@@N@@.Jvm.D
/-- the int[] at b holds f (off + i) at its place i -/
def OMem (Z : State) (h : Heap) (b : Addr) (off : Nat) (f : Nat → Int32) : Prop := ∃ c : Cell, Arr Z h b c .int ∧ c.slots.size = 65536 ∧ ∀ i, i < 65536 → c.slots[i]? = some (.int (f (off + i)))
section OMem
variable {Z : State} {h h' : Heap} {a b : Addr} {off sl : Nat} {f g : Nat → Int32} {v : Value} {ws : List Addr}
theorem OMem.lt (F : OMem Z h b off f) : b < h.size := by obtain ⟨c, A, -⟩ := F; exact A.lt
theorem OMem.ext (F : OMem Z h b off f) (E : Ext h h') : OMem Z h' b off f := by obtain ⟨c, A, r⟩ := F; exact ⟨c, A.ext E, r⟩
theorem OMem.other (F : OMem Z h b off f) (W : Wr h h' a sl v) (q : b ≠ a) : OMem Z h' b off f := by obtain ⟨c, A, r⟩ := F; exact ⟨c, A.other W q, r⟩
theorem OMem.keep (F : OMem Z h b off f) (K : Keep h h' ws) (q : b ∉ ws) : OMem Z h' b off f := by obtain ⟨c, A, r⟩ := F; exact ⟨c, ⟨K.2.1 _ _ A.1 q, A.2⟩, r⟩
theorem OMem.congr (F : OMem Z h b off f) (e : ∀ i, i < 65536 → f (off + i) = g (off + i)) : OMem Z h b off g := by
  obtain ⟨c, A, S, H⟩ := F
  exact ⟨c, A, S, fun i hi => by rw [H i hi, e i hi]⟩
theorem OMem.zero {k : ClassId} (F : Arv Z h b k .int (65536 : Int32) [] (.int 0)) : OMem Z h b off (fun _ => 0) := by
  obtain ⟨c, A, -, S, -, H, -⟩ := F
  have S' : c.slots.size = 65536 := S
  exact ⟨c, A, S', fun i hi => by rw [H i (by rw [S']; exact hi)]; rfl⟩
def own_set (f : Nat → Int32) (n : Nat) (w : Int32) : Nat → Int32 := fun i => if i = n then w else f i
theorem OMem.store {c : Cell} {j : Int32} {i : Nat} {w : Int32} (A : Arr Z h b c .int) (S : c.slots.size = 65536) (H : ∀ i, i < 65536 → c.slots[i]? = some (.int (f (off + i)))) (W : Wr h h' b j.toNatClampNeg (.int w)) (hj : j.toNatClampNeg = i) (hi : i < 65536) : OMem Z h' b off (own_set f (off + i) w) := by
  refine ⟨_, A.same W, by rw [sz_set]; exact S, fun m hm => ?_⟩
  subst hj
  show (c.slots.setIfInBounds _ _)[m]? = _
  by_cases e : m = j.toNatClampNeg
  · subst e
    rw [Array.getElem?_setIfInBounds_self_of_lt (by rw [S]; exact hm)]
    simp [own_set]
  · rw [Array.getElem?_setIfInBounds_ne (Ne.symm e), H m hm]
    have : ¬ off + m = off + j.toNatClampNeg := by omega
    simp [own_set, e]
end OMem
theorem own_pad0 {Z : State} {h : Heap} {a : Addr} {k : ClassId} {ty : FieldType} {z : Int32} {d : Value} {l1 l2 l3 : List Value} (F : Arv Z h a k ty z (l1 ++ l2 ++ l3) d) (h1 : ∀ x ∈ l1, x = d) (h2 : ∀ x ∈ l2, x = d) (h3 : ∀ x ∈ l3, x = d) : Arv Z h a k ty z [] d :=
  F.pad fun i => by
    show d = _
    by_cases hi : i < (l1 ++ l2 ++ l3).length
    · rw [List.getD_eq_getElem?_getD, List.getElem?_eq_getElem hi]
      have q : (l1 ++ l2 ++ l3)[i] ∈ l1 ++ l2 ++ l3 := List.getElem_mem hi
      rw [List.mem_append, List.mem_append] at q
      rcases q with (q | q) | q
      · exact (h1 _ q).symm
      · exact (h2 _ q).symm
      · exact (h3 _ q).symm
    · rw [List.getD_eq_getElem?_getD, List.getElem?_eq_none (by omega)]
      rfl
theorem own_rep1 {d : Value} {n k : Nat} : ∀ x ∈ ([] ++ List.replicate n d).take k, x = d := fun x hx => List.eq_of_mem_replicate (List.mem_of_mem_take (by simpa using hx))
theorem own_rep3 {d : Value} {n k : Nat} : ∀ x ∈ ([] ++ List.replicate n d).drop k, x = d := fun x hx => List.eq_of_mem_replicate (List.mem_of_mem_drop (by simpa using hx))
theorem own_rep2 {d : Value} {n k : Nat} : ∀ x ∈ (List.range n).map fun i => ([] : List Value).getD (k + i) d, x = d := fun x hx => by
  obtain ⟨i, -, rfl⟩ := List.mem_map.mp hx
  rfl
def own_ix (x : Int32) : Int32 := (x &&& 2147483647) % 65540
theorem own_ixb (x : Int32) : ¬ own_ix x < 0 ∧ own_ix x < 65540 := by
  have e1 : (x &&& 2147483647).toInt = x.toInt % 2 ^ 31 := Jvm.Kit.i32_mask x 2147483647 (k := 31) (by decide) (by decide)
  have e2 : (own_ix x).toInt = (x &&& 2147483647).toInt % (65540 : Int32).toInt := Jvm.Kit.i32_rem_nonneg (by omega)
  have e3 : (65540 : Int32).toInt = 65540 := by decide
  have e0 : (0 : Int32).toInt = 0 := by decide
  rw [e3] at e2
  rw [Int32.lt_iff_toInt_lt, Int32.lt_iff_toInt_lt, e0, e3]
  omega
theorem own_nn {x : Int32} (h : ¬ x < 0) : 0 ≤ x.toInt ∧ x.toNatClampNeg = x.toInt.toNat := by
  have e0 : (0 : Int32).toInt = 0 := by decide
  rw [Int32.lt_iff_toInt_lt, e0] at h
  exact ⟨by omega, rfl⟩
theorem own_inj {x y : Int32} (hx : ¬ x < 0) (hy : ¬ y < 0) (h : ¬ x = y) : ¬ x.toNatClampNeg = y.toNatClampNeg := fun e => by
  obtain ⟨a1, a2⟩ := own_nn hx
  obtain ⟨b1, b2⟩ := own_nn hy
  apply h
  apply Int32.toInt_inj.mp
  omega
theorem own_sh {x : Int32} (h0 : ¬ x < 0) : ((x.toUInt32 >>> ((16 : Int32) &&& 31).toUInt32).toInt32).toInt = x.toInt / 2 ^ 16 := by
  have e0 : (0 : Int32).toInt = 0 := by decide
  exact Jvm.Kit.i32_iushr (by rw [Int32.le_iff_toInt_le, e0]; rw [Int32.lt_iff_toInt_lt, e0] at h0; omega) (k := 16) (by decide) (by decide)
theorem own_shA {x : Int32} (h0 : ¬ x < 0) (h : x < 65536) : ((x.toUInt32 >>> ((16 : Int32) &&& 31).toUInt32).toInt32) = 0 := by
  apply Int32.toInt_inj.mp
  have e0 : (0 : Int32).toInt = 0 := by decide
  have e1 : (65536 : Int32).toInt = 65536 := by decide
  rw [own_sh h0, e0]
  rw [Int32.lt_iff_toInt_lt, e1] at h
  rw [Int32.lt_iff_toInt_lt, e0] at h0
  omega
theorem own_shB {x : Int32} (h0 : ¬ x < 0) (h1 : x < 65540) (h : ¬ x < 65536) : ((x.toUInt32 >>> ((16 : Int32) &&& 31).toUInt32).toInt32) = 1 := by
  apply Int32.toInt_inj.mp
  have e0 : (0 : Int32).toInt = 0 := by decide
  have e1 : (65536 : Int32).toInt = 65536 := by decide
  have e2 : (65540 : Int32).toInt = 65540 := by decide
  have e3 : (1 : Int32).toInt = 1 := by decide
  rw [own_sh h0, e3]
  rw [Int32.lt_iff_toInt_lt, e1] at h
  rw [Int32.lt_iff_toInt_lt, e2] at h1
  rw [Int32.lt_iff_toInt_lt, e0] at h0
  omega
theorem own_mk (x : Int32) : ¬ (x &&& 65535) < 0 ∧ (x &&& 65535) < 65536 ∧ (x &&& 65535).toInt = x.toInt % 2 ^ 16 := by
  have e := Jvm.Kit.i32_mask x 65535 (k := 16) (by decide) (by decide)
  have e0 : (0 : Int32).toInt = 0 := by decide
  have e1 : (65536 : Int32).toInt = 65536 := by decide
  rw [Int32.lt_iff_toInt_lt, Int32.lt_iff_toInt_lt, e0, e1]
  refine ⟨?_, ?_, e⟩ <;> omega
theorem own_mkA {x : Int32} (h0 : ¬ x < 0) (h : x < 65536) : (x &&& 65535).toNatClampNeg = x.toNatClampNeg := by
  obtain ⟨a, b, c⟩ := own_mk x
  rw [(own_nn a).2, (own_nn h0).2, c]
  have e1 : (65536 : Int32).toInt = 65536 := by decide
  rw [Int32.lt_iff_toInt_lt, e1] at h
  have := (own_nn h0).1
  omega
theorem own_mkB {x : Int32} (h0 : ¬ x < 0) (h1 : x < 65540) (h : ¬ x < 65536) : 65536 + (x &&& 65535).toNatClampNeg = x.toNatClampNeg := by
  obtain ⟨a, b, c⟩ := own_mk x
  rw [(own_nn a).2, (own_nn h0).2, c]
  have e1 : (65536 : Int32).toInt = 65536 := by decide
  have e2 : (65540 : Int32).toInt = 65540 := by decide
  rw [Int32.lt_iff_toInt_lt, e1] at h
  rw [Int32.lt_iff_toInt_lt, e2] at h1
  have := (own_nn h0).1
  omega
theorem own_lt {x : Int32} (h0 : ¬ x < 0) (h : x < 65536) : x.toNatClampNeg < 65536 := by
  rw [(own_nn h0).2]
  have e1 : (65536 : Int32).toInt = 65536 := by decide
  rw [Int32.lt_iff_toInt_lt, e1] at h
  have := (own_nn h0).1
  omega
theorem own_in {c : Cell} (S : c.slots.size = 65536) (x : Int32) : ¬ ((x &&& 65535) < 0 ∨ c.slots.size ≤ (x &&& 65535).toNatClampNeg) := by
  obtain ⟨a, b, -⟩ := own_mk x
  have := own_lt a b
  rw [S]
  rintro (q | q)
  · exact a q
  · omega
theorem own_s1 (f : Nat → Int32) (n : Nat) (w : Int32) : own_set f n w n = w := by simp [own_set]
theorem own_s2 (f : Nat → Int32) {n m : Nat} (w : Int32) (h : ¬ m = n) : own_set f n w m = f m := by simp [own_set, h]
theorem d1_0 : decode prog_29_method_1_code 0 = .ok (.aload_n 0, 1) := by decide +kernel
theorem d1_1 : decode prog_29_method_1_code 1 = .ok (.invokespecial 3, 3) := by decide +kernel
theorem d1_4 : decode prog_29_method_1_code 4 = .ok (.aload_n 0, 1) := by decide +kernel
theorem d1_5 : decode prog_29_method_1_code 5 = .ok (.bipush 16, 2) := by decide +kernel
theorem d1_7 : decode prog_29_method_1_code 7 = .ok (.anewarray 9, 3) := by decide +kernel
theorem d1_10 : decode prog_29_method_1_code 10 = .ok (.putfield 11, 3) := by decide +kernel
theorem d1_13 : decode prog_29_method_1_code 13 = .ok (.return_, 1) := by decide +kernel
theorem pn_1 : plainName "com/example/arcwright/arcwright/parser/IntBlocks" = true := by first | (simp [plainName, overriddenIn]; done) | decide +kernel
theorem ef_rm1 (m : MethodId) (x0 : Addr) : entryFrame m #[(.ref x0)] 1 = mkF m 0 #[.val (.ref x0)] [] := by first | (simp [entryFrame, mkF, argsToLocals, Value.category]; done) | rfl
def Qrm1 (Z : State) (a1 : Addr) (u1 : Value) (x2 : Int32) (h0 : Heap) (n0 : Nat) (v : Option Value) (h : Heap) (L : List Loc) : Prop := ∃ (bl : Addr) (kb : ClassId), v = none ∧ Fr n0 L ∧ Keep h0 h [a1] ∧ (Exa Z h a1 "com/example/arcwright/arcwright/parser/IntBlocks") ∧ (Fld Z h a1 "com/example/arcwright/arcwright/parser/IntBlocks" "blocks" "[[I" (.ref bl)) ∧ (Fld Z h a1 "com/example/arcwright/arcwright/parser/IntBlocks" "size" "I" (.int x2)) ∧ (h0.size ≤ bl) ∧ (Arv Z h bl kb (.array .int) (16 : Int32) [.null, .null, .null, .null, .null, .null, .null, .null, .null, .null, .null, .null, .null, .null, .null, .null] .null) ∧ (OvrA Z kb .int "[I")
set_option maxRecDepth 65536 in
set_option maxHeartbeats 40000000 in
theorem rm1 (l : Launch) (Z : State) (a0 : Array Value) (hw : ∀ d ∈ tables_1, d.before a0 Z = true) (ws : List Jvm.Cond) (a1 : Addr) (u1 : Value) (x2 : Int32) (h0 : Heap) (n0 : Nat) (Z0 : n0 ≤ h0.size) (E_a1 : Exa Z h0 a1 "com/example/arcwright/arcwright/parser/IntBlocks") (Fld_a1_blocks : Fld Z h0 a1 "com/example/arcwright/arcwright/parser/IntBlocks" "blocks" "[[I" u1) (Fld_a1_size : Fld Z h0 a1 "com/example/arcwright/arcwright/parser/IntBlocks" "size" "I" (.int x2)) (g_a1 : n0 ≤ a1) :
    MetFree l (⟨"com/example/arcwright/arcwright/parser/IntBlocks", "<init>", "()V"⟩ : MethodName) (head1 (Jvm.Cond.code (⟨"com/example/arcwright/arcwright/parser/IntBlocks", "<init>", "()V"⟩ : MethodName) prog_29_method_1_code 1 none :: ws) ({ frames := 1, cells := 1, slots := 16, locals := 12 } : Room)) (fun a U => a = #[(.ref a1)] ∧ Z.Warmed39 U.vm ∧ U.heap = h0) (fun _ _ _ _ _ => True) (fun _ U o U' => ∃ v L, o = .returned v ∧ Qrm1 Z a1 u1 x2 h0 n0 v U'.heap L ∧ FrameEnd U o U' L ({ frames := 1, cells := 1, slots := 16, locals := 12 } : Room).cells ({ frames := 1, cells := 1, slots := 16, locals := 12 } : Room).slots) := by
  refine MetFree.of_bodySF (plainFor_of_name pn_1) hisR ?_
  intro p e s m args below meth c s₁ Bd hml0 hP hK
  obtain ⟨rfl, hZ, hh⟩ := hP
  have hx := Bd.exec
  have hby := Bd.bytes
  have hml : c.maxLocals = 1 := hml0
  have hown : s.vm.findClass "com/example/arcwright/arcwright/parser/IntBlocks" = some m.cls := findClass_of_methodNamed Bd.named
  have hnm := (name_of_methodNamed Bd.named Bd.method).1
  have X0 : Stand p l e ({ frames := 1, cells := 1, slots := 16, locals := 12 } : Room) s m #[(.ref a1)] below meth c s₁ [] 0 0 := Stand.of_body Bd
  have e0 : s₁.heap = h0 := by rw [← hh, Bd.state]; rfl
  have N0 := Fr.nil n0
  refine own_go (b := (s₁.setTop (mkF m 0 #[.val (.ref a1)] []))) (fun _ k => castTop (ef_rm1 m a1) k) ?_
  refine own_go (b := (s₁.setTop (mkF m 1 #[.val (.ref a1)] [(.ref a1)]))) (fun _ k => XS.aloadN X0.here hx rfl (hb hby d1_0) rfl rfl k) ?_
  obtain ⟨T1, X1, e1, st1⟩ := initO X0 hx hZ hown (hw _ (List.mem_of_getElem? (i := 8) rfl)) (hw _ (List.mem_of_getElem? (i := 9) rfl)) (hw _ (List.mem_of_getElem? (i := 10) rfl)) e0 (g := (mkF m 1 #[.val (.ref a1)] [(.ref a1)])) rfl (by rw [hml]; rfl) rfl (hb hby d1_1) (by decide) (W := 0) (by show 2 * 0 + _ ≤ _; exact Nat.le_of_eq rfl) (by decide)
  refine own_go (b := (T1.setTop (mkF m 7 #[.val (.ref a1)] [(.int (16 : Int32)), (.ref a1)]))) (fun _ k => st1 _ (XS.aloadN X1.here hx rfl (hb hby d1_4) rfl rfl (XS.bipush X1.here hx rfl (hb hby d1_5) k))) ?_
  obtain ⟨T2, h2, kl2, X2, e2, E2, A2, Ex2, Ov2, st2⟩ := newRA X1 hx hZ hown (ty := .int) (C := "[I") (by decide) (hw _ (List.mem_of_getElem? (i := 11) rfl)) (hw _ (List.mem_of_getElem? (i := 12) rfl)) e1 (g := (mkF m 7 #[.val (.ref a1)] [(.int (16 : Int32)), (.ref a1)])) rfl (hb hby d1_7) rfl (by decide) (cap := 16) (by decide) (by decide) (by decide) (by decide) (ad := "[[I") (by decide)
  obtain ⟨b2, g2⟩ : ∃ z, z = h0.size := ⟨_, rfl⟩
  rw [← g2] at A2 Ex2 st2
  have Zs3 : n0 ≤ h2.size := Nat.le_trans Z0 E2.1
  have V2 : Arv Z h2 b2 kl2 (.array .int) (16 : Int32) [.null, .null, .null, .null, .null, .null, .null, .null, .null, .null, .null, .null, .null, .null, .null, .null] .null := (Arv.new A2 (by decide)).pad (pad_rep [] .null 16)
  refine own_go (b := (T2.setTop (mkF m 10 #[.val (.ref a1)] [(.ref b2), (.ref a1)]))) (fun _ k => st2 _ k) ?_
  have F4 : Exa Z h2 a1 "com/example/arcwright/arcwright/parser/IntBlocks" := E_a1.ext E2
  have F5 : Fld Z h2 a1 "com/example/arcwright/arcwright/parser/IntBlocks" "blocks" "[[I" u1 := Fld_a1_blocks.ext E2
  obtain ⟨T6, h6, X6, e6, W6, st6⟩ := putF X2 hx hZ hown (host := "") (Or.inl (hw _ (List.mem_of_getElem? (i := 13) rfl))) Via.refl e2 F5 F4 (Or.inl (hw _ (List.mem_of_getElem? (i := 14) rfl))) (hw _ (List.mem_of_getElem? (i := 3) rfl)) (ty := (.array (.array .int))) (by decide) rfl rfl (g := (mkF m 10 #[.val (.ref a1)] [(.ref b2), (.ref a1)])) rfl rfl (hb hby d1_10)
  have N6 := Fr.snoc X6 N0 g_a1
  have Zs7 : n0 ≤ h6.size := Nat.le_trans Zs3 (Keep.of_wr W6).1
  have F6 : Fld Z h6 a1 "com/example/arcwright/arcwright/parser/IntBlocks" "blocks" "[[I" (.ref b2) := F5.same W6
  refine own_go (b := (T6.setTop (mkF m 13 #[.val (.ref a1)] []))) (fun _ k => st6 _ k) ?_
  have K8 : Keep h0 h2 [a1] := (Keep.refl h0 [a1]).ext E2
  have K9 : Keep h0 h6 [a1] := K8.wr W6 (Or.inl (List.mem_of_getElem? (i := 0) rfl))
  have F10 : Exa Z h6 a1 "com/example/arcwright/arcwright/parser/IntBlocks" := F4.wr W6
  have F11 : Fld Z h2 a1 "com/example/arcwright/arcwright/parser/IntBlocks" "size" "I" (.int x2) := Fld_a1_size.ext E2
  have F12 : Fld Z h6 a1 "com/example/arcwright/arcwright/parser/IntBlocks" "size" "I" (.int x2) := F11.other W6 (Or.inr (slot_ne (Or.inl (hw _ (List.mem_of_getElem? (i := 21) rfl))) (Or.inl (hw _ (List.mem_of_getElem? (i := 14) rfl))) (by decide) (t := .int) (t' := (.array (.array .int))) (by decide) (by decide)))
  have F13 : Arv Z h6 b2 kl2 (.array .int) (16 : Int32) [.null, .null, .null, .null, .null, .null, .null, .null, .null, .null, .null, .null, .null, .null, .null, .null] .null := V2.other W6 (Ne.symm (Nat.ne_of_lt (Nat.lt_of_lt_of_le E_a1.lt (Nat.le_trans (Nat.le_refl _) (Nat.le_of_eq g2.symm)))))
  obtain ⟨fs, hr, hrun, hended, hW, hsame⟩ := X6.leave (v := none) (fun _ => rfl)
  exact ⟨_, _, X6.returnOut hx Bd.returns (hb hby d1_13) hr, hrun, hended, _, _, rfl, (show Qrm1 Z a1 u1 x2 h0 n0 _ T6.heap _ from (by rw [e6]; exact ⟨b2, kl2, rfl, N6, K9, F10, F6, F12, (Nat.le_trans (Nat.le_refl _) (Nat.le_of_eq g2.symm)), F13, Ov2⟩)), ⟨_, rfl⟩, hW, hsame.mono (by decide) (by decide)⟩
theorem d4_0 : decode prog_29_method_9_code 0 = .ok (.iload_n 1, 1) := by decide +kernel
theorem d4_1 : decode prog_29_method_9_code 1 = .ok (.aload_n 0, 1) := by decide +kernel
theorem d4_2 : decode prog_29_method_9_code 2 = .ok (.getfield 11, 3) := by decide +kernel
theorem d4_5 : decode prog_29_method_9_code 5 = .ok (.arraylength, 1) := by decide +kernel
theorem d4_6 : decode prog_29_method_9_code 6 = .ok (.if_icmp .ne 24, 3) := by decide +kernel
theorem d4_9 : decode prog_29_method_9_code 9 = .ok (.aload_n 0, 1) := by decide +kernel
theorem d4_10 : decode prog_29_method_9_code 10 = .ok (.aload_n 0, 1) := by decide +kernel
theorem d4_11 : decode prog_29_method_9_code 11 = .ok (.getfield 11, 3) := by decide +kernel
theorem d4_14 : decode prog_29_method_9_code 14 = .ok (.iconst 2, 1) := by decide +kernel
theorem d4_15 : decode prog_29_method_9_code 15 = .ok (.aload_n 0, 1) := by decide +kernel
theorem d4_16 : decode prog_29_method_9_code 16 = .ok (.getfield 11, 3) := by decide +kernel
theorem d4_19 : decode prog_29_method_9_code 19 = .ok (.arraylength, 1) := by decide +kernel
theorem d4_20 : decode prog_29_method_9_code 20 = .ok (.imul, 1) := by decide +kernel
theorem d4_21 : decode prog_29_method_9_code 21 = .ok (.invokestatic 41, 3) := by decide +kernel
theorem d4_24 : decode prog_29_method_9_code 24 = .ok (.checkcast 47, 3) := by decide +kernel
theorem d4_27 : decode prog_29_method_9_code 27 = .ok (.putfield 11, 3) := by decide +kernel
theorem d4_30 : decode prog_29_method_9_code 30 = .ok (.aload_n 0, 1) := by decide +kernel
theorem d4_31 : decode prog_29_method_9_code 31 = .ok (.getfield 11, 3) := by decide +kernel
theorem d4_34 : decode prog_29_method_9_code 34 = .ok (.iload_n 1, 1) := by decide +kernel
theorem d4_35 : decode prog_29_method_9_code 35 = .ok (.ldc 20, 2) := by decide +kernel
theorem d4_37 : decode prog_29_method_9_code 37 = .ok (.newarray .int, 2) := by decide +kernel
theorem d4_39 : decode prog_29_method_9_code 39 = .ok (.aastore, 1) := by decide +kernel
theorem d4_40 : decode prog_29_method_9_code 40 = .ok (.return_, 1) := by decide +kernel
theorem pn_4 : plainName "com/example/arcwright/arcwright/parser/IntBlocks" = true := by first | (simp [plainName, overriddenIn]; done) | decide +kernel
theorem ef_rmnb0 (m : MethodId) (x0 : Addr) (x1 : Int32) : entryFrame m #[(.ref x0), (.int x1)] 2 = mkF m 0 #[.val (.ref x0), .val (.int x1)] [] := by first | (simp [entryFrame, mkF, argsToLocals, Value.category]; done) | rfl
def Qrmnb0 (Z : State) (a1 : Addr) (bl : Addr) (kb : ClassId) (h0 : Heap) (n0 : Nat) (v : Option Value) (h : Heap) (L : List Loc) : Prop := ∃ (cn : Addr) (kn : ClassId), v = none ∧ Fr n0 L ∧ Keep h0 h [bl] ∧ (h0.size ≤ cn) ∧ (Arv Z h cn kn .int (65536 : Int32) [] (.int (0 : Int32))) ∧ (Arv Z h bl kb (.array .int) (16 : Int32) [(.ref cn), .null, .null, .null, .null, .null, .null, .null, .null, .null, .null, .null, .null, .null, .null, .null] .null)
set_option maxRecDepth 65536 in
set_option maxHeartbeats 40000000 in
theorem rmnb0 (l : Launch) (Z : State) (a0 : Array Value) (hw : ∀ d ∈ tables_1, d.before a0 Z = true) (ws : List Jvm.Cond) (a1 : Addr) (bl : Addr) (kb : ClassId) (h0 : Heap) (n0 : Nat) (Z0 : n0 ≤ h0.size) (E_a1 : Exa Z h0 a1 "com/example/arcwright/arcwright/parser/IntBlocks") (Fld_a1_blocks : Fld Z h0 a1 "com/example/arcwright/arcwright/parser/IntBlocks" "blocks" "[[I" (.ref bl)) (V_bl : Arv Z h0 bl kb (.array .int) (16 : Int32) [.null, .null, .null, .null, .null, .null, .null, .null, .null, .null, .null, .null, .null, .null, .null, .null] .null) (Ov_bl : OvrA Z kb .int "[I") (g_bl : n0 ≤ bl) :
    MetFree l (⟨"com/example/arcwright/arcwright/parser/IntBlocks", "newBlock", "(I)V"⟩ : MethodName) (head1 (Jvm.Cond.code (⟨"com/example/arcwright/arcwright/parser/IntBlocks", "newBlock", "(I)V"⟩ : MethodName) prog_29_method_9_code 2 none :: ws) ({ frames := 0, cells := 1, slots := 65536, locals := 0 } : Room)) (fun a U => a = #[(.ref a1), (.int (0 : Int32))] ∧ Z.Warmed39 U.vm ∧ U.heap = h0) (fun _ _ _ _ _ => True) (fun _ U o U' => ∃ v L, o = .returned v ∧ Qrmnb0 Z a1 bl kb h0 n0 v U'.heap L ∧ FrameEnd U o U' L ({ frames := 0, cells := 1, slots := 65536, locals := 0 } : Room).cells ({ frames := 0, cells := 1, slots := 65536, locals := 0 } : Room).slots) := by
  refine MetFree.of_bodySF (plainFor_of_name pn_4) hisR ?_
  intro p e s m args below meth c s₁ Bd hml0 hP hK
  obtain ⟨rfl, hZ, hh⟩ := hP
  have hx := Bd.exec
  have hby := Bd.bytes
  have hml : c.maxLocals = 2 := hml0
  have hown : s.vm.findClass "com/example/arcwright/arcwright/parser/IntBlocks" = some m.cls := findClass_of_methodNamed Bd.named
  have hnm := (name_of_methodNamed Bd.named Bd.method).1
  have X0 : Stand p l e ({ frames := 0, cells := 1, slots := 65536, locals := 0 } : Room) s m #[(.ref a1), (.int (0 : Int32))] below meth c s₁ [] 0 0 := Stand.of_body Bd
  have e0 : s₁.heap = h0 := by rw [← hh, Bd.state]; rfl
  have N0 := Fr.nil n0
  refine own_go (b := (s₁.setTop (mkF m 0 #[.val (.ref a1), .val (.int (0 : Int32))] []))) (fun _ k => castTop (ef_rmnb0 m a1 (0 : Int32)) k) ?_
  refine own_go (b := (s₁.setTop (mkF m 2 #[.val (.ref a1), .val (.int (0 : Int32))] [(.ref a1), (.int (0 : Int32))]))) (fun _ k => XS.iloadN X0.here hx rfl (hb hby d4_0) rfl (XS.aloadN X0.here hx rfl (hb hby d4_1) rfl rfl k)) ?_
  obtain ⟨T1, X1, e1, st1⟩ := getF X0 hx hZ hown (host := "") (Or.inl (hw _ (List.mem_of_getElem? (i := 13) rfl))) Via.refl e0 Fld_a1_blocks (g := (mkF m 2 #[.val (.ref a1), .val (.int (0 : Int32))] [(.ref a1), (.int (0 : Int32))])) rfl rfl (hb hby d4_2)
  refine own_go (b := (T1.setTop (mkF m 5 #[.val (.ref a1), .val (.int (0 : Int32))] [(.ref bl), (.int (0 : Int32))]))) (fun _ k => st1 _ k) ?_
  obtain ⟨cl2, Ar2, -, Sz2, Nn2, -, -⟩ := id V_bl
  refine own_go (b := (T1.setTop (mkF m 31 #[.val (.ref a1), .val (.int (0 : Int32))] [(.ref a1)]))) (fun _ k => X1.arraylength hx (by rw [e1]; exact Ar2.1) (State.isArrayOf_alike hZ.alike Ar2.2.1) (g := (mkF m 5 #[.val (.ref a1), .val (.int (0 : Int32))] [(.ref bl), (.int (0 : Int32))])) rfl rfl (hb hby d4_5) _ (by rw [len_of Sz2 Nn2]; exact (XS.icmpYes X1.here hx rfl (pc0 := 6) (pc' := 30) rfl (hb hby d4_6) rfl (feq (by decide : ¬ ((0 : Int32) = (16 : Int32)))).2 (by decide) (by decide) (XS.aloadN X1.here hx rfl (hb hby d4_30) rfl rfl k)))) ?_
  obtain ⟨T3, X3, e3, st3⟩ := getF X1 hx hZ hown (host := "") (Or.inl (hw _ (List.mem_of_getElem? (i := 13) rfl))) Via.refl e1 Fld_a1_blocks (g := (mkF m 31 #[.val (.ref a1), .val (.int (0 : Int32))] [(.ref a1)])) rfl rfl (hb hby d4_31)
  refine own_go (b := (T3.setTop (mkF m 37 #[.val (.ref a1), .val (.int (0 : Int32))] [(.int (65536 : Int32)), (.int (0 : Int32)), (.ref bl)]))) (fun _ k => st3 _ (XS.iloadN X3.here hx rfl (hb hby d4_34) rfl (X3.ldcInt hx hown (mvT hZ (hw _ (List.mem_of_getElem? (i := 27) rfl))) (g := (mkF m 35 #[.val (.ref a1), .val (.int (0 : Int32))] [(.int (0 : Int32)), (.ref bl)])) rfl (hb hby d4_35) _ k))) ?_
  obtain ⟨T4, h4, kl4, X4, e4, E4, A4, Ex4, st4⟩ := newPE X3 hx hZ (hw _ (List.mem_of_getElem? (i := 1) rfl)) e3 (g := (mkF m 37 #[.val (.ref a1), .val (.int (0 : Int32))] [(.int (65536 : Int32)), (.int (0 : Int32)), (.ref bl)])) rfl (hb hby d4_37) rfl (by decide) (cap := 65536) (by decide) (by decide) (by decide) (by decide) (ad := "[I") (by decide)
  obtain ⟨b4, g4⟩ : ∃ z, z = h0.size := ⟨_, rfl⟩
  rw [← g4] at A4 Ex4 st4
  have Zs5 : n0 ≤ h4.size := Nat.le_trans Z0 E4.1
  have V4 : Arv Z h4 b4 kl4 .int (65536 : Int32) [] (.int (0 : Int32)) := Arv.new A4 (by decide)
  refine own_go (b := (T4.setTop (mkF m 39 #[.val (.ref a1), .val (.int (0 : Int32))] [(.ref b4), (.int (0 : Int32)), (.ref bl)]))) (fun _ k => st4 _ k) ?_
  have F7 : Arv Z h4 bl kb (.array .int) (16 : Int32) [.null, .null, .null, .null, .null, .null, .null, .null, .null, .null, .null, .null, .null, .null, .null, .null] .null := V_bl.ext E4
  obtain ⟨cl6, Ar6, ql6, Sz6, Nn6, Hl6, Gl6⟩ := id F7
  have hin6 : ¬ ((0 : Int32) < 0 ∨ cl6.slots.size ≤ ((0 : Int32)).toNatClampNeg) := inb_of Sz6 ⟨by decide, by decide⟩
  obtain ⟨T6, h6, X6, e6, W6, st6⟩ := stR X4 hx hZ e4 Ar6 (j := (0 : Int32)) hin6 rfl (Sto.ofVA Ar6 ql6 Ov_bl (Ins.self Ex4)) (g := (mkF m 39 #[.val (.ref a1), .val (.int (0 : Int32))] [(.ref b4), (.int (0 : Int32)), (.ref bl)])) rfl rfl (hb hby d4_39)
  have N6 := Fr.snoc X6 N0 g_bl
  have Zs8 : n0 ≤ h6.size := Nat.le_trans Zs5 (Keep.of_wr W6).1
  have V6 : Arv Z h6 bl kb (.array .int) (16 : Int32) [(.ref b4), .null, .null, .null, .null, .null, .null, .null, .null, .null, .null, .null, .null, .null, .null, .null] .null := Arv.set Ar6 ql6 Sz6 Nn6 Hl6 Gl6 rfl W6 0 rfl (Nat.le_of_ble_eq_true rfl)
  refine own_go (b := (T6.setTop (mkF m 40 #[.val (.ref a1), .val (.int (0 : Int32))] []))) (fun _ k => st6 _ k) ?_
  have K9 : Keep h0 h4 [bl] := (Keep.refl h0 [bl]).ext E4
  have K10 : Keep h0 h6 [bl] := K9.wr W6 (Or.inl (List.mem_of_getElem? (i := 0) rfl))
  have F11 : Arv Z h6 b4 kl4 .int (65536 : Int32) [] (.int (0 : Int32)) := V4.other W6 (Ne.symm (Nat.ne_of_lt (Nat.lt_of_lt_of_le V_bl.lt (Nat.le_trans (Nat.le_refl _) (Nat.le_of_eq g4.symm)))))
  obtain ⟨fs, hr, hrun, hended, hW, hsame⟩ := X6.leave (v := none) (fun _ => rfl)
  exact ⟨_, _, X6.returnOut hx Bd.returns (hb hby d4_40) hr, hrun, hended, _, _, rfl, (show Qrmnb0 Z a1 bl kb h0 n0 _ T6.heap _ from (by rw [e6]; exact ⟨b4, kl4, rfl, N6, K10, (Nat.le_trans (Nat.le_refl _) (Nat.le_of_eq g4.symm)), F11, V6⟩)), ⟨_, rfl⟩, hW, hsame.mono (by decide) (by decide)⟩
theorem ef_rmnb1 (m : MethodId) (x0 : Addr) (x1 : Int32) : entryFrame m #[(.ref x0), (.int x1)] 2 = mkF m 0 #[.val (.ref x0), .val (.int x1)] [] := by first | (simp [entryFrame, mkF, argsToLocals, Value.category]; done) | rfl
def Qrmnb1 (Z : State) (a1 : Addr) (bl : Addr) (kb : ClassId) (c0 : Addr) (h0 : Heap) (n0 : Nat) (v : Option Value) (h : Heap) (L : List Loc) : Prop := ∃ (cn : Addr) (kn : ClassId), v = none ∧ Fr n0 L ∧ Keep h0 h [bl] ∧ (h0.size ≤ cn) ∧ (Arv Z h cn kn .int (65536 : Int32) [] (.int (0 : Int32))) ∧ (Arv Z h bl kb (.array .int) (16 : Int32) [(.ref c0), (.ref cn), .null, .null, .null, .null, .null, .null, .null, .null, .null, .null, .null, .null, .null, .null] .null)
set_option maxRecDepth 65536 in
set_option maxHeartbeats 40000000 in
theorem rmnb1 (l : Launch) (Z : State) (a0 : Array Value) (hw : ∀ d ∈ tables_1, d.before a0 Z = true) (ws : List Jvm.Cond) (a1 : Addr) (bl : Addr) (kb : ClassId) (c0 : Addr) (h0 : Heap) (n0 : Nat) (Z0 : n0 ≤ h0.size) (E_a1 : Exa Z h0 a1 "com/example/arcwright/arcwright/parser/IntBlocks") (Fld_a1_blocks : Fld Z h0 a1 "com/example/arcwright/arcwright/parser/IntBlocks" "blocks" "[[I" (.ref bl)) (V_bl : Arv Z h0 bl kb (.array .int) (16 : Int32) [(.ref c0), .null, .null, .null, .null, .null, .null, .null, .null, .null, .null, .null, .null, .null, .null, .null] .null) (Ov_bl : OvrA Z kb .int "[I") (g_bl : n0 ≤ bl) :
    MetFree l (⟨"com/example/arcwright/arcwright/parser/IntBlocks", "newBlock", "(I)V"⟩ : MethodName) (head1 (Jvm.Cond.code (⟨"com/example/arcwright/arcwright/parser/IntBlocks", "newBlock", "(I)V"⟩ : MethodName) prog_29_method_9_code 2 none :: ws) ({ frames := 0, cells := 1, slots := 65536, locals := 0 } : Room)) (fun a U => a = #[(.ref a1), (.int (1 : Int32))] ∧ Z.Warmed39 U.vm ∧ U.heap = h0) (fun _ _ _ _ _ => True) (fun _ U o U' => ∃ v L, o = .returned v ∧ Qrmnb1 Z a1 bl kb c0 h0 n0 v U'.heap L ∧ FrameEnd U o U' L ({ frames := 0, cells := 1, slots := 65536, locals := 0 } : Room).cells ({ frames := 0, cells := 1, slots := 65536, locals := 0 } : Room).slots) := by
  refine MetFree.of_bodySF (plainFor_of_name pn_4) hisR ?_
  intro p e s m args below meth c s₁ Bd hml0 hP hK
  obtain ⟨rfl, hZ, hh⟩ := hP
  have hx := Bd.exec
  have hby := Bd.bytes
  have hml : c.maxLocals = 2 := hml0
  have hown : s.vm.findClass "com/example/arcwright/arcwright/parser/IntBlocks" = some m.cls := findClass_of_methodNamed Bd.named
  have hnm := (name_of_methodNamed Bd.named Bd.method).1
  have X0 : Stand p l e ({ frames := 0, cells := 1, slots := 65536, locals := 0 } : Room) s m #[(.ref a1), (.int (1 : Int32))] below meth c s₁ [] 0 0 := Stand.of_body Bd
  have e0 : s₁.heap = h0 := by rw [← hh, Bd.state]; rfl
  have N0 := Fr.nil n0
  refine own_go (b := (s₁.setTop (mkF m 0 #[.val (.ref a1), .val (.int (1 : Int32))] []))) (fun _ k => castTop (ef_rmnb1 m a1 (1 : Int32)) k) ?_
  refine own_go (b := (s₁.setTop (mkF m 2 #[.val (.ref a1), .val (.int (1 : Int32))] [(.ref a1), (.int (1 : Int32))]))) (fun _ k => XS.iloadN X0.here hx rfl (hb hby d4_0) rfl (XS.aloadN X0.here hx rfl (hb hby d4_1) rfl rfl k)) ?_
  obtain ⟨T1, X1, e1, st1⟩ := getF X0 hx hZ hown (host := "") (Or.inl (hw _ (List.mem_of_getElem? (i := 13) rfl))) Via.refl e0 Fld_a1_blocks (g := (mkF m 2 #[.val (.ref a1), .val (.int (1 : Int32))] [(.ref a1), (.int (1 : Int32))])) rfl rfl (hb hby d4_2)
  refine own_go (b := (T1.setTop (mkF m 5 #[.val (.ref a1), .val (.int (1 : Int32))] [(.ref bl), (.int (1 : Int32))]))) (fun _ k => st1 _ k) ?_
  obtain ⟨cl2, Ar2, -, Sz2, Nn2, -, -⟩ := id V_bl
  refine own_go (b := (T1.setTop (mkF m 31 #[.val (.ref a1), .val (.int (1 : Int32))] [(.ref a1)]))) (fun _ k => X1.arraylength hx (by rw [e1]; exact Ar2.1) (State.isArrayOf_alike hZ.alike Ar2.2.1) (g := (mkF m 5 #[.val (.ref a1), .val (.int (1 : Int32))] [(.ref bl), (.int (1 : Int32))])) rfl rfl (hb hby d4_5) _ (by rw [len_of Sz2 Nn2]; exact (XS.icmpYes X1.here hx rfl (pc0 := 6) (pc' := 30) rfl (hb hby d4_6) rfl (feq (by decide : ¬ ((1 : Int32) = (16 : Int32)))).2 (by decide) (by decide) (XS.aloadN X1.here hx rfl (hb hby d4_30) rfl rfl k)))) ?_
  obtain ⟨T3, X3, e3, st3⟩ := getF X1 hx hZ hown (host := "") (Or.inl (hw _ (List.mem_of_getElem? (i := 13) rfl))) Via.refl e1 Fld_a1_blocks (g := (mkF m 31 #[.val (.ref a1), .val (.int (1 : Int32))] [(.ref a1)])) rfl rfl (hb hby d4_31)
  refine own_go (b := (T3.setTop (mkF m 37 #[.val (.ref a1), .val (.int (1 : Int32))] [(.int (65536 : Int32)), (.int (1 : Int32)), (.ref bl)]))) (fun _ k => st3 _ (XS.iloadN X3.here hx rfl (hb hby d4_34) rfl (X3.ldcInt hx hown (mvT hZ (hw _ (List.mem_of_getElem? (i := 27) rfl))) (g := (mkF m 35 #[.val (.ref a1), .val (.int (1 : Int32))] [(.int (1 : Int32)), (.ref bl)])) rfl (hb hby d4_35) _ k))) ?_
  obtain ⟨T4, h4, kl4, X4, e4, E4, A4, Ex4, st4⟩ := newPE X3 hx hZ (hw _ (List.mem_of_getElem? (i := 1) rfl)) e3 (g := (mkF m 37 #[.val (.ref a1), .val (.int (1 : Int32))] [(.int (65536 : Int32)), (.int (1 : Int32)), (.ref bl)])) rfl (hb hby d4_37) rfl (by decide) (cap := 65536) (by decide) (by decide) (by decide) (by decide) (ad := "[I") (by decide)
  obtain ⟨b4, g4⟩ : ∃ z, z = h0.size := ⟨_, rfl⟩
  rw [← g4] at A4 Ex4 st4
  have Zs5 : n0 ≤ h4.size := Nat.le_trans Z0 E4.1
  have V4 : Arv Z h4 b4 kl4 .int (65536 : Int32) [] (.int (0 : Int32)) := Arv.new A4 (by decide)
  refine own_go (b := (T4.setTop (mkF m 39 #[.val (.ref a1), .val (.int (1 : Int32))] [(.ref b4), (.int (1 : Int32)), (.ref bl)]))) (fun _ k => st4 _ k) ?_
  have F7 : Arv Z h4 bl kb (.array .int) (16 : Int32) [(.ref c0), .null, .null, .null, .null, .null, .null, .null, .null, .null, .null, .null, .null, .null, .null, .null] .null := V_bl.ext E4
  obtain ⟨cl6, Ar6, ql6, Sz6, Nn6, Hl6, Gl6⟩ := id F7
  have hin6 : ¬ ((1 : Int32) < 0 ∨ cl6.slots.size ≤ ((1 : Int32)).toNatClampNeg) := inb_of Sz6 ⟨by decide, by decide⟩
  obtain ⟨T6, h6, X6, e6, W6, st6⟩ := stR X4 hx hZ e4 Ar6 (j := (1 : Int32)) hin6 rfl (Sto.ofVA Ar6 ql6 Ov_bl (Ins.self Ex4)) (g := (mkF m 39 #[.val (.ref a1), .val (.int (1 : Int32))] [(.ref b4), (.int (1 : Int32)), (.ref bl)])) rfl rfl (hb hby d4_39)
  have N6 := Fr.snoc X6 N0 g_bl
  have Zs8 : n0 ≤ h6.size := Nat.le_trans Zs5 (Keep.of_wr W6).1
  have V6 : Arv Z h6 bl kb (.array .int) (16 : Int32) [(.ref c0), (.ref b4), .null, .null, .null, .null, .null, .null, .null, .null, .null, .null, .null, .null, .null, .null] .null := Arv.set Ar6 ql6 Sz6 Nn6 Hl6 Gl6 rfl W6 1 rfl (Nat.le_of_ble_eq_true rfl)
  refine own_go (b := (T6.setTop (mkF m 40 #[.val (.ref a1), .val (.int (1 : Int32))] []))) (fun _ k => st6 _ k) ?_
  have K9 : Keep h0 h4 [bl] := (Keep.refl h0 [bl]).ext E4
  have K10 : Keep h0 h6 [bl] := K9.wr W6 (Or.inl (List.mem_of_getElem? (i := 0) rfl))
  have F11 : Arv Z h6 b4 kl4 .int (65536 : Int32) [] (.int (0 : Int32)) := V4.other W6 (Ne.symm (Nat.ne_of_lt (Nat.lt_of_lt_of_le V_bl.lt (Nat.le_trans (Nat.le_refl _) (Nat.le_of_eq g4.symm)))))
  obtain ⟨fs, hr, hrun, hended, hW, hsame⟩ := X6.leave (v := none) (fun _ => rfl)
  exact ⟨_, _, X6.returnOut hx Bd.returns (hb hby d4_40) hr, hrun, hended, _, _, rfl, (show Qrmnb1 Z a1 bl kb c0 h0 n0 _ T6.heap _ from (by rw [e6]; exact ⟨b4, kl4, rfl, N6, K10, (Nat.le_trans (Nat.le_refl _) (Nat.le_of_eq g4.symm)), F11, V6⟩)), ⟨_, rfl⟩, hW, hsame.mono (by decide) (by decide)⟩
theorem d5_0 : decode jdk_29_method_69_code 0 = .ok (.iload_n 0, 1) := by decide +kernel
theorem d5_1 : decode jdk_29_method_69_code 1 = .ok (.iload_n 1, 1) := by decide +kernel
theorem d5_2 : decode jdk_29_method_69_code 2 = .ok (.if_icmp .gt 7, 3) := by decide +kernel
theorem d5_5 : decode jdk_29_method_69_code 5 = .ok (.iload_n 0, 1) := by decide +kernel
theorem d5_6 : decode jdk_29_method_69_code 6 = .ok (.goto 4, 3) := by decide +kernel
theorem d5_9 : decode jdk_29_method_69_code 9 = .ok (.iload_n 1, 1) := by decide +kernel
theorem d5_10 : decode jdk_29_method_69_code 10 = .ok (.ireturn, 1) := by decide +kernel
theorem ef_rmminA (m : MethodId) (x0 : Int32) (x1 : Int32) : entryFrame m #[(.int x0), (.int x1)] 2 = mkF m 0 #[.val (.int x0), .val (.int x1)] [] := by first | (simp [entryFrame, mkF, argsToLocals, Value.category]; done) | rfl
def QrmminA (Z : State) (p1 : Int32) (p2 : Int32) (h0 : Heap) (n0 : Nat) (v : Option Value) (h : Heap) (L : List Loc) : Prop := v = some (.int p1) ∧ Fr n0 L ∧ h = h0
set_option maxRecDepth 65536 in
set_option maxHeartbeats 40000000 in
theorem rmminA (l : Launch) (Z : State) (a0 : Array Value) (hw : ∀ d ∈ tables_1, d.before a0 Z = true) (ws : List Jvm.Cond) (p1 : Int32) (p2 : Int32) (h0 : Heap) (n0 : Nat) (Z0 : n0 ≤ h0.size) (hm : ¬ (p2 < p1)) :
    MetFree l (⟨"java/lang/Math", "min", "(II)I"⟩ : MethodName) (head1 (Jvm.Cond.code (⟨"java/lang/Math", "min", "(II)I"⟩ : MethodName) jdk_29_method_69_code 2 (some .int) :: ws) ({ frames := 0, cells := 0, slots := 0, locals := 0 } : Room)) (fun a U => a = #[(.int p1), (.int p2)] ∧ Z.Warmed39 U.vm ∧ U.heap = h0) (fun _ _ _ _ _ => True) (fun _ U o U' => ∃ v L, o = .returned v ∧ QrmminA Z p1 p2 h0 n0 v U'.heap L ∧ FrameEnd U o U' L ({ frames := 0, cells := 0, slots := 0, locals := 0 } : Room).cells ({ frames := 0, cells := 0, slots := 0, locals := 0 } : Room).slots) := by
  refine MetFree.of_bodySF (Jvm.Free.JP.mathPlain rfl (by decide +kernel)) hisR ?_
  intro p e s m args below meth c s₁ Bd hml0 hP hK
  obtain ⟨rfl, hZ, hh⟩ := hP
  have hx := Bd.exec
  have hby := Bd.bytes
  have hml : c.maxLocals = 2 := hml0
  have hown : s.vm.findClass "java/lang/Math" = some m.cls := findClass_of_methodNamed Bd.named
  have hnm := (name_of_methodNamed Bd.named Bd.method).1
  have X0 : Stand p l e ({ frames := 0, cells := 0, slots := 0, locals := 0 } : Room) s m #[(.int p1), (.int p2)] below meth c s₁ [] 0 0 := Stand.of_body Bd
  have e0 : s₁.heap = h0 := by rw [← hh, Bd.state]; rfl
  have N0 := Fr.nil n0
  refine own_go (b := (s₁.setTop (mkF m 0 #[.val (.int p1), .val (.int p2)] []))) (fun _ k => castTop (ef_rmminA m p1 p2) k) ?_
  refine own_go (b := (s₁.setTop (mkF m 10 #[.val (.int p1), .val (.int p2)] [(.int p1)]))) (fun _ k => XS.iloadN X0.here hx rfl (hb hby d5_0) rfl (XS.iloadN X0.here hx rfl (hb hby d5_1) rfl (XS.icmpNo X0.here hx rfl (hb hby d5_2) rfl (flt hm).2.2.1 (XS.iloadN X0.here hx rfl (hb hby d5_5) rfl (XS.goto X0.here hx rfl (pc0 := 6) (pc' := 10) rfl (hb hby d5_6) (by decide) (by decide) k))))) ?_
  obtain ⟨fs, hr, hrun, hended, hW, hsame⟩ := X0.leave (v := some (.int p1)) (fun h => by rw [Bd.returns] at h; cases h)
  exact ⟨_, _, retOut X0 hx Bd.returns rfl (Or.inl ⟨rfl, Or.inl rfl, _, rfl⟩) (hb hby d5_10) hr, hrun, hended, _, _, rfl, (show QrmminA Z p1 p2 h0 n0 _ s₁.heap _ from (by rw [e0]; exact ⟨rfl, N0, rfl⟩)), ⟨_, rfl⟩, hW, hsame.mono (by decide) (by decide)⟩
theorem ef_rmminB (m : MethodId) (x0 : Int32) (x1 : Int32) : entryFrame m #[(.int x0), (.int x1)] 2 = mkF m 0 #[.val (.int x0), .val (.int x1)] [] := by first | (simp [entryFrame, mkF, argsToLocals, Value.category]; done) | rfl
def QrmminB (Z : State) (p1 : Int32) (p2 : Int32) (h0 : Heap) (n0 : Nat) (v : Option Value) (h : Heap) (L : List Loc) : Prop := v = some (.int p2) ∧ Fr n0 L ∧ h = h0
set_option maxRecDepth 65536 in
set_option maxHeartbeats 40000000 in
theorem rmminB (l : Launch) (Z : State) (a0 : Array Value) (hw : ∀ d ∈ tables_1, d.before a0 Z = true) (ws : List Jvm.Cond) (p1 : Int32) (p2 : Int32) (h0 : Heap) (n0 : Nat) (Z0 : n0 ≤ h0.size) (hm : p2 < p1) :
    MetFree l (⟨"java/lang/Math", "min", "(II)I"⟩ : MethodName) (head1 (Jvm.Cond.code (⟨"java/lang/Math", "min", "(II)I"⟩ : MethodName) jdk_29_method_69_code 2 (some .int) :: ws) ({ frames := 0, cells := 0, slots := 0, locals := 0 } : Room)) (fun a U => a = #[(.int p1), (.int p2)] ∧ Z.Warmed39 U.vm ∧ U.heap = h0) (fun _ _ _ _ _ => True) (fun _ U o U' => ∃ v L, o = .returned v ∧ QrmminB Z p1 p2 h0 n0 v U'.heap L ∧ FrameEnd U o U' L ({ frames := 0, cells := 0, slots := 0, locals := 0 } : Room).cells ({ frames := 0, cells := 0, slots := 0, locals := 0 } : Room).slots) := by
  refine MetFree.of_bodySF (Jvm.Free.JP.mathPlain rfl (by decide +kernel)) hisR ?_
  intro p e s m args below meth c s₁ Bd hml0 hP hK
  obtain ⟨rfl, hZ, hh⟩ := hP
  have hx := Bd.exec
  have hby := Bd.bytes
  have hml : c.maxLocals = 2 := hml0
  have hown : s.vm.findClass "java/lang/Math" = some m.cls := findClass_of_methodNamed Bd.named
  have hnm := (name_of_methodNamed Bd.named Bd.method).1
  have X0 : Stand p l e ({ frames := 0, cells := 0, slots := 0, locals := 0 } : Room) s m #[(.int p1), (.int p2)] below meth c s₁ [] 0 0 := Stand.of_body Bd
  have e0 : s₁.heap = h0 := by rw [← hh, Bd.state]; rfl
  have N0 := Fr.nil n0
  refine own_go (b := (s₁.setTop (mkF m 0 #[.val (.int p1), .val (.int p2)] []))) (fun _ k => castTop (ef_rmminB m p1 p2) k) ?_
  refine own_go (b := (s₁.setTop (mkF m 10 #[.val (.int p1), .val (.int p2)] [(.int p2)]))) (fun _ k => XS.iloadN X0.here hx rfl (hb hby d5_0) rfl (XS.iloadN X0.here hx rfl (hb hby d5_1) rfl (XS.icmpYes X0.here hx rfl (pc0 := 2) (pc' := 9) rfl (hb hby d5_2) rfl (tlt hm).2.2.1 (by decide) (by decide) (XS.iloadN X0.here hx rfl (hb hby d5_9) rfl k)))) ?_
  obtain ⟨fs, hr, hrun, hended, hW, hsame⟩ := X0.leave (v := some (.int p2)) (fun h => by rw [Bd.returns] at h; cases h)
  exact ⟨_, _, retOut X0 hx Bd.returns rfl (Or.inl ⟨rfl, Or.inl rfl, _, rfl⟩) (hb hby d5_10) hr, hrun, hended, _, _, rfl, (show QrmminB Z p1 p2 h0 n0 _ s₁.heap _ from (by rw [e0]; exact ⟨rfl, N0, rfl⟩)), ⟨_, rfl⟩, hW, hsame.mono (by decide) (by decide)⟩
theorem d3_0 : decode prog_29_method_7_code 0 = .ok (.iload_n 2, 1) := by decide +kernel
theorem d3_1 : decode prog_29_method_7_code 1 = .ok (.iload_n 3, 1) := by decide +kernel
theorem d3_2 : decode prog_29_method_7_code 2 = .ok (.if_icmp .ge 80, 3) := by decide +kernel
theorem d3_5 : decode prog_29_method_7_code 5 = .ok (.aload_n 0, 1) := by decide +kernel
theorem d3_6 : decode prog_29_method_7_code 6 = .ok (.getfield 15, 3) := by decide +kernel
theorem d3_9 : decode prog_29_method_7_code 9 = .ok (.bipush 16, 2) := by decide +kernel
theorem d3_11 : decode prog_29_method_7_code 11 = .ok (.iushr, 1) := by decide +kernel
theorem d3_12 : decode prog_29_method_7_code 12 = .ok (.istore 4, 2) := by decide +kernel
theorem d3_14 : decode prog_29_method_7_code 14 = .ok (.aload_n 0, 1) := by decide +kernel
theorem d3_15 : decode prog_29_method_7_code 15 = .ok (.getfield 15, 3) := by decide +kernel
theorem d3_18 : decode prog_29_method_7_code 18 = .ok (.ldc 19, 2) := by decide +kernel
theorem d3_20 : decode prog_29_method_7_code 20 = .ok (.iand, 1) := by decide +kernel
theorem d3_21 : decode prog_29_method_7_code 21 = .ok (.istore 5, 2) := by decide +kernel
theorem d3_23 : decode prog_29_method_7_code 23 = .ok (.iload 5, 2) := by decide +kernel
theorem d3_25 : decode prog_29_method_7_code 25 = .ok (.ifCond .ne 9, 3) := by decide +kernel
theorem d3_28 : decode prog_29_method_7_code 28 = .ok (.aload_n 0, 1) := by decide +kernel
theorem d3_29 : decode prog_29_method_7_code 29 = .ok (.iload 4, 2) := by decide +kernel
theorem d3_31 : decode prog_29_method_7_code 31 = .ok (.invokevirtual 25, 3) := by decide +kernel
theorem d3_34 : decode prog_29_method_7_code 34 = .ok (.iload_n 3, 1) := by decide +kernel
theorem d3_35 : decode prog_29_method_7_code 35 = .ok (.iload_n 2, 1) := by decide +kernel
theorem d3_36 : decode prog_29_method_7_code 36 = .ok (.isub, 1) := by decide +kernel
theorem d3_37 : decode prog_29_method_7_code 37 = .ok (.ldc 20, 2) := by decide +kernel
theorem d3_39 : decode prog_29_method_7_code 39 = .ok (.iload 5, 2) := by decide +kernel
theorem d3_41 : decode prog_29_method_7_code 41 = .ok (.isub, 1) := by decide +kernel
theorem d3_42 : decode prog_29_method_7_code 42 = .ok (.invokestatic 29, 3) := by decide +kernel
theorem d3_45 : decode prog_29_method_7_code 45 = .ok (.istore 6, 2) := by decide +kernel
theorem d3_47 : decode prog_29_method_7_code 47 = .ok (.aload_n 1, 1) := by decide +kernel
theorem d3_48 : decode prog_29_method_7_code 48 = .ok (.iload_n 2, 1) := by decide +kernel
theorem d3_49 : decode prog_29_method_7_code 49 = .ok (.aload_n 0, 1) := by decide +kernel
theorem d3_50 : decode prog_29_method_7_code 50 = .ok (.getfield 11, 3) := by decide +kernel
theorem d3_53 : decode prog_29_method_7_code 53 = .ok (.iload 4, 2) := by decide +kernel
theorem d3_55 : decode prog_29_method_7_code 55 = .ok (.aaload, 1) := by decide +kernel
theorem d3_56 : decode prog_29_method_7_code 56 = .ok (.iload 5, 2) := by decide +kernel
theorem d3_58 : decode prog_29_method_7_code 58 = .ok (.iload 6, 2) := by decide +kernel
theorem d3_60 : decode prog_29_method_7_code 60 = .ok (.invokestatic 35, 3) := by decide +kernel
theorem d3_63 : decode prog_29_method_7_code 63 = .ok (.iload_n 2, 1) := by decide +kernel
theorem d3_64 : decode prog_29_method_7_code 64 = .ok (.iload 6, 2) := by decide +kernel
theorem d3_66 : decode prog_29_method_7_code 66 = .ok (.iadd, 1) := by decide +kernel
theorem d3_67 : decode prog_29_method_7_code 67 = .ok (.istore_n 2, 1) := by decide +kernel
theorem d3_68 : decode prog_29_method_7_code 68 = .ok (.aload_n 0, 1) := by decide +kernel
theorem d3_69 : decode prog_29_method_7_code 69 = .ok (.dup, 1) := by decide +kernel
theorem d3_70 : decode prog_29_method_7_code 70 = .ok (.getfield 15, 3) := by decide +kernel
theorem d3_73 : decode prog_29_method_7_code 73 = .ok (.iload 6, 2) := by decide +kernel
theorem d3_75 : decode prog_29_method_7_code 75 = .ok (.iadd, 1) := by decide +kernel
theorem d3_76 : decode prog_29_method_7_code 76 = .ok (.putfield 15, 3) := by decide +kernel
theorem d3_79 : decode prog_29_method_7_code 79 = .ok (.goto (-79), 3) := by decide +kernel
theorem d3_82 : decode prog_29_method_7_code 82 = .ok (.return_, 1) := by decide +kernel
theorem pd__I_V : parseMethodDescriptor "(I)V" = some ⟨[.int], none⟩ := by decide +kernel
theorem pd__II_I : parseMethodDescriptor "(II)I" = some ⟨[.int, .int], some .int⟩ := by decide +kernel
theorem pn_3 : plainName "com/example/arcwright/arcwright/parser/IntBlocks" = true := by first | (simp [plainName, overriddenIn]; done) | decide +kernel
theorem ef_rm3 (m : MethodId) (x0 : Addr) (x1 : Addr) (x2 : Int32) (x3 : Int32) : entryFrame m #[(.ref x0), (.ref x1), (.int x2), (.int x3)] 7 = mkF m 0 #[.val (.ref x0), .val (.ref x1), .val (.int x2), .val (.int x3), .unset, .unset, .unset] [] := by first | (simp [entryFrame, mkF, argsToLocals, Value.category]; done) | rfl
def Qrm3 (Z : State) (a1 : Addr) (a2 : Addr) (bl : Addr) (kb : ClassId) (k2 : ClassId) (h0 : Heap) (n0 : Nat) (v : Option Value) (h : Heap) (L : List Loc) : Prop := ∃ (c0 : Addr) (k0 : ClassId) (c1 : Addr) (k1 : ClassId), v = none ∧ Fr n0 L ∧ Keep h0 h [a1, bl] ∧ (Exa Z h a1 "com/example/arcwright/arcwright/parser/IntBlocks") ∧ (Fld Z h a1 "com/example/arcwright/arcwright/parser/IntBlocks" "size" "I" (.int (65540 : Int32))) ∧ (Fld Z h a1 "com/example/arcwright/arcwright/parser/IntBlocks" "blocks" "[[I" (.ref bl)) ∧ (h0.size ≤ c0) ∧ (h0.size ≤ c1) ∧ (c0 ≠ c1) ∧ (Arv Z h bl kb (.array .int) (16 : Int32) [(.ref c0), (.ref c1), .null, .null, .null, .null, .null, .null, .null, .null, .null, .null, .null, .null, .null, .null] .null) ∧ (Arv Z h c0 k0 .int (65536 : Int32) [] (.int (0 : Int32))) ∧ (Arv Z h c1 k1 .int (65536 : Int32) [] (.int (0 : Int32)))
set_option maxRecDepth 65536 in
set_option maxHeartbeats 40000000 in
theorem rm3 (l : Launch) (Z : State) (a0 : Array Value) (hw : ∀ d ∈ tables_1, d.before a0 Z = true) (ws : List Jvm.Cond) (a1 : Addr) (a2 : Addr) (bl : Addr) (kb : ClassId) (k2 : ClassId) (h0 : Heap) (n0 : Nat) (Z0 : n0 ≤ h0.size) (E_a1 : Exa Z h0 a1 "com/example/arcwright/arcwright/parser/IntBlocks") (Fld_a1_size : Fld Z h0 a1 "com/example/arcwright/arcwright/parser/IntBlocks" "size" "I" (.int (0 : Int32))) (Fld_a1_blocks : Fld Z h0 a1 "com/example/arcwright/arcwright/parser/IntBlocks" "blocks" "[[I" (.ref bl)) (V_bl : Arv Z h0 bl kb (.array .int) (16 : Int32) [.null, .null, .null, .null, .null, .null, .null, .null, .null, .null, .null, .null, .null, .null, .null, .null] .null) (Ov_bl : OvrA Z kb .int "[I") (g_a1 : n0 ≤ a1) (g_bl : n0 ≤ bl) (V_a2 : Arv Z h0 a2 k2 .int (65540 : Int32) [] (.int (0 : Int32))) (ne_a2_bl : a2 ≠ bl) :
    MetFree l (⟨"com/example/arcwright/arcwright/parser/IntBlocks", "add", "([III)V"⟩ : MethodName) (head1 (Jvm.Cond.code (⟨"com/example/arcwright/arcwright/parser/IntBlocks", "add", "([III)V"⟩ : MethodName) prog_29_method_7_code 7 none :: ws) ({ frames := 1, cells := 2, slots := 131072, locals := 40 } : Room)) (fun a U => a = #[(.ref a1), (.ref a2), (.int (0 : Int32)), (.int (65540 : Int32))] ∧ Z.Warmed39 U.vm ∧ U.heap = h0) (fun _ _ _ _ _ => True) (fun _ U o U' => ∃ v L, o = .returned v ∧ Qrm3 Z a1 a2 bl kb k2 h0 n0 v U'.heap L ∧ FrameEnd U o U' L ({ frames := 1, cells := 2, slots := 131072, locals := 40 } : Room).cells ({ frames := 1, cells := 2, slots := 131072, locals := 40 } : Room).slots) := by
  refine MetFree.of_bodySF (plainFor_of_name pn_3) hisR ?_
  intro p e s m args below meth c s₁ Bd hml0 hP hK
  obtain ⟨rfl, hZ, hh⟩ := hP
  have hx := Bd.exec
  have hby := Bd.bytes
  have hml : c.maxLocals = 7 := hml0
  have hown : s.vm.findClass "com/example/arcwright/arcwright/parser/IntBlocks" = some m.cls := findClass_of_methodNamed Bd.named
  have hnm := (name_of_methodNamed Bd.named Bd.method).1
  have X0 : Stand p l e ({ frames := 1, cells := 2, slots := 131072, locals := 40 } : Room) s m #[(.ref a1), (.ref a2), (.int (0 : Int32)), (.int (65540 : Int32))] below meth c s₁ [] 0 0 := Stand.of_body Bd
  have e0 : s₁.heap = h0 := by rw [← hh, Bd.state]; rfl
  have N0 := Fr.nil n0
  refine own_go (b := (s₁.setTop (mkF m 0 #[.val (.ref a1), .val (.ref a2), .val (.int (0 : Int32)), .val (.int (65540 : Int32)), .unset, .unset, .unset] []))) (fun _ k => castTop (ef_rm3 m a1 a2 (0 : Int32) (65540 : Int32)) k) ?_
  refine own_go (b := (s₁.setTop (mkF m 6 #[.val (.ref a1), .val (.ref a2), .val (.int (0 : Int32)), .val (.int (65540 : Int32)), .unset, .unset, .unset] [(.ref a1)]))) (fun _ k => XS.iloadN X0.here hx rfl (hb hby d3_0) rfl (XS.iloadN X0.here hx rfl (hb hby d3_1) rfl (XS.icmpNo X0.here hx rfl (hb hby d3_2) rfl (tlt (by decide : (0 : Int32) < (65540 : Int32))).2.1 (XS.aloadN X0.here hx rfl (hb hby d3_5) rfl rfl k)))) ?_
  obtain ⟨T1, X1, e1, st1⟩ := getF X0 hx hZ hown (host := "") (Or.inl (hw _ (List.mem_of_getElem? (i := 20) rfl))) Via.refl e0 Fld_a1_size (g := (mkF m 6 #[.val (.ref a1), .val (.ref a2), .val (.int (0 : Int32)), .val (.int (65540 : Int32)), .unset, .unset, .unset] [(.ref a1)])) rfl rfl (hb hby d3_6)
  refine own_go (b := (T1.setTop (mkF m 15 #[.val (.ref a1), .val (.ref a2), .val (.int (0 : Int32)), .val (.int (65540 : Int32)), .val (.int (0 : Int32)), .unset, .unset] [(.ref a1)]))) (fun _ k => st1 _ (XS.bipush X1.here hx rfl (hb hby d3_9) (XS.iushr X1.here hx rfl (hb hby d3_11) rfl (XS.istore X1.here hx rfl (hb hby d3_12) rfl (l' := #[.val (.ref a1), .val (.ref a2), .val (.int (0 : Int32)), .val (.int (65540 : Int32)), .val (.int (0 : Int32)), .unset, .unset]) rfl (XS.aloadN X1.here hx rfl (hb hby d3_14) rfl rfl k))))) ?_
  obtain ⟨T2, X2, e2, st2⟩ := getF X1 hx hZ hown (host := "") (Or.inl (hw _ (List.mem_of_getElem? (i := 20) rfl))) Via.refl e1 Fld_a1_size (g := (mkF m 15 #[.val (.ref a1), .val (.ref a2), .val (.int (0 : Int32)), .val (.int (65540 : Int32)), .val (.int (0 : Int32)), .unset, .unset] [(.ref a1)])) rfl rfl (hb hby d3_15)
  refine own_go (b := (T2.setTop (mkF m 31 #[.val (.ref a1), .val (.ref a2), .val (.int (0 : Int32)), .val (.int (65540 : Int32)), .val (.int (0 : Int32)), .val (.int (0 : Int32)), .unset] [(.int (0 : Int32)), (.ref a1)]))) (fun _ k => st2 _ (X2.ldcInt hx hown (mvT hZ (hw _ (List.mem_of_getElem? (i := 22) rfl))) (g := (mkF m 18 #[.val (.ref a1), .val (.ref a2), .val (.int (0 : Int32)), .val (.int (65540 : Int32)), .val (.int (0 : Int32)), .unset, .unset] [(.int (0 : Int32))])) rfl (hb hby d3_18) _ (XS.iand X2.here hx rfl (hb hby d3_20) rfl (XS.istore X2.here hx rfl (hb hby d3_21) rfl (l' := #[.val (.ref a1), .val (.ref a2), .val (.int (0 : Int32)), .val (.int (65540 : Int32)), .val (.int (0 : Int32)), .val (.int (0 : Int32)), .unset]) rfl (XS.iload X2.here hx rfl (hb hby d3_23) rfl (XS.ifNo X2.here hx rfl (hb hby d3_25) rfl ((if0 _ _).trans (teq (rfl : (0 : Int32) = (0 : Int32))).2) (XS.aloadN X2.here hx rfl (hb hby d3_28) rfl rfl (XS.iload X2.here hx rfl (hb hby d3_29) rfl k)))))))) ?_
  obtain ⟨cq3, qc3, qc3'⟩ := E_a1.cell
  obtain ⟨_, _, ⟨T3, Ll3, kz3, nz3⟩, -, X3, ⟨Lc3, hQ3, lz3, yz3, zz3⟩, st3⟩ := X2.privateBack hx (y := (⟨"com/example/arcwright/arcwright/parser/IntBlocks", "newBlock", "(I)V"⟩ : MethodName)) hown (mvT hZ (hw _ (List.mem_of_getElem? (i := 23) rfl))) (mvT hZ (hw _ (List.mem_of_getElem? (i := 24) rfl))) (own_selp (y := (⟨"com/example/arcwright/arcwright/parser/IntBlocks", "newBlock", "(I)V"⟩ : MethodName)) (mvT hZ (hw _ (List.mem_of_getElem? (i := 3) rfl))) (mvP hZ (hw _ (List.mem_of_getElem? (i := 25) rfl))) (mvT hZ (hw _ (List.mem_of_getElem? (i := 24) rfl))) (by decide)) (Cond.privateMethod_at (mvP hZ (hw _ (List.mem_of_getElem? (i := 25) rfl)) (args := #[]))) (mvT hZ (hw _ (List.mem_of_getElem? (i := 26) rfl))) (by decide) (backOf (W := 0) (rmnb0 l Z a0 hw [] a1 bl kb h0 n0 Z0 E_a1 Fld_a1_blocks V_bl Ov_bl g_bl) hZ (hw _ (List.mem_of_getElem? (i := 26) rfl)) (hw _ (List.mem_of_getElem? (i := 4) rfl)) (by decide) (by decide)) (g := (mkF m 31 #[.val (.ref a1), .val (.ref a2), .val (.int (0 : Int32)), .val (.int (65540 : Int32)), .val (.int (0 : Int32)), .val (.int (0 : Int32)), .unset] [(.int (0 : Int32)), (.ref a1)])) rfl (by rw [hml]; rfl) (Steps.refl _) (a := a1) (by rw [e2]; exact qc3) qc3' (argsL := [(.int (0 : Int32))]) (rest := []) (lenOf pd__I_V rfl) rfl (by show 2 * 0 + _ ≤ _; exact Nat.le_of_eq rfl) (hb hby d3_31) (fun _ _ => ⟨rfl, e2, (by decide : 0 + 1 ≤ _), (by decide : 0 + 65536 ≤ _)⟩)
  dsimp only [Pt.U, Pt.locs, Pt.cells, Pt.slots] at X3 lz3 yz3 zz3 st3 hQ3
  subst lz3 yz3 zz3
  obtain ⟨cn_3, kn_3, rfl, N3q, K3, P3_0, P3_1, P3_2⟩ := hQ3
  have N3 := Fr.app N0 N3q
  have Zs4 : n0 ≤ T3.heap.size := Nat.le_trans Z0 K3.1
  refine own_go (b := (T3.setTop (mkF m 42 #[.val (.ref a1), .val (.ref a2), .val (.int (0 : Int32)), .val (.int (65540 : Int32)), .val (.int (0 : Int32)), .val (.int (0 : Int32)), .unset] [(.int (65536 : Int32)), (.int (65540 : Int32))]))) (fun _ k => st3.trans (XS.iloadN X3.here hx rfl (hb hby d3_34) rfl (XS.iloadN X3.here hx rfl (hb hby d3_35) rfl (XS.isub X3.here hx rfl (hb hby d3_36) rfl (X3.ldcInt hx hown (mvT hZ (hw _ (List.mem_of_getElem? (i := 27) rfl))) (g := (mkF m 37 #[.val (.ref a1), .val (.ref a2), .val (.int (0 : Int32)), .val (.int (65540 : Int32)), .val (.int (0 : Int32)), .val (.int (0 : Int32)), .unset] [(.int (65540 : Int32))])) rfl (hb hby d3_37) _ (XS.iload X3.here hx rfl (hb hby d3_39) rfl (XS.isub X3.here hx rfl (hb hby d3_41) rfl k))))))) ?_
  obtain ⟨_, _, ⟨T5, Ll5, kz5, nz5⟩, -, X5, ⟨Lc5, hQ5, lz5, yz5, zz5⟩, st5⟩ := Jvm.LawKit.callS X3 hx (y := (⟨"java/lang/Math", "min", "(II)I"⟩ : MethodName)) hown (mvT hZ (hw _ (List.mem_of_getElem? (i := 29) rfl))) (mvT hZ (hw _ (List.mem_of_getElem? (i := 30) rfl))) (mvT hZ (hw _ (List.mem_of_getElem? (i := 31) rfl))) (mvT hZ (hw _ (List.mem_of_getElem? (i := 32) rfl))) (by decide) (backOf (W := 0) (rmminB l Z a0 hw [] (65540 : Int32) (65536 : Int32) T3.heap n0 Zs4 (by decide)) hZ (hw _ (List.mem_of_getElem? (i := 32) rfl)) (hw _ (List.mem_of_getElem? (i := 31) rfl)) (by decide) (by decide)) (g := (mkF m 42 #[.val (.ref a1), .val (.ref a2), .val (.int (0 : Int32)), .val (.int (65540 : Int32)), .val (.int (0 : Int32)), .val (.int (0 : Int32)), .unset] [(.int (65536 : Int32)), (.int (65540 : Int32))])) rfl (by rw [hml]; rfl) (argsL := [(.int (65540 : Int32)), (.int (65536 : Int32))]) (rest := []) (lenOf pd__II_I rfl) rfl (by show 2 * 0 + _ ≤ _; exact Nat.le_of_eq rfl) (hb hby d3_42) (fun _ _ => ⟨rfl, rfl, (by decide : 1 + 0 ≤ _), (by decide : 65536 + 0 ≤ _)⟩)
  dsimp only [Pt.U, Pt.locs, Pt.cells, Pt.slots] at X5 lz5 yz5 zz5 st5 hQ5
  subst lz5 yz5 zz5
  obtain ⟨rfl, N5q, eh5⟩ := hQ5
  have N5 := Fr.app N3 N5q
  refine own_go (b := (T5.setTop (mkF m 50 #[.val (.ref a1), .val (.ref a2), .val (.int (0 : Int32)), .val (.int (65540 : Int32)), .val (.int (0 : Int32)), .val (.int (0 : Int32)), .val (.int (65536 : Int32))] [(.ref a1), (.int (0 : Int32)), (.ref a2)]))) (fun _ k => st5 _ (XS.istore X5.here hx rfl (hb hby d3_45) rfl (l' := #[.val (.ref a1), .val (.ref a2), .val (.int (0 : Int32)), .val (.int (65540 : Int32)), .val (.int (0 : Int32)), .val (.int (0 : Int32)), .val (.int (65536 : Int32))]) rfl (XS.aloadN X5.here hx rfl (hb hby d3_47) rfl rfl (XS.iloadN X5.here hx rfl (hb hby d3_48) rfl (XS.aloadN X5.here hx rfl (hb hby d3_49) rfl rfl k))))) ?_
  obtain ⟨cn6, An6, -⟩ := id V_bl
  have F7 : Fld Z T3.heap a1 "com/example/arcwright/arcwright/parser/IntBlocks" "blocks" "[[I" (.ref bl) := Fld_a1_blocks.keep K3 (ninS (ne_arr E_a1 (hw _ (List.mem_of_getElem? (i := 3) rfl)) An6) nin0)
  obtain ⟨T8, X8, e8, st8⟩ := getF X5 hx hZ hown (host := "") (Or.inl (hw _ (List.mem_of_getElem? (i := 13) rfl))) Via.refl eh5 F7 (g := (mkF m 50 #[.val (.ref a1), .val (.ref a2), .val (.int (0 : Int32)), .val (.int (65540 : Int32)), .val (.int (0 : Int32)), .val (.int (0 : Int32)), .val (.int (65536 : Int32))] [(.ref a1), (.int (0 : Int32)), (.ref a2)])) rfl rfl (hb hby d3_50)
  refine own_go (b := (T8.setTop (mkF m 55 #[.val (.ref a1), .val (.ref a2), .val (.int (0 : Int32)), .val (.int (65540 : Int32)), .val (.int (0 : Int32)), .val (.int (0 : Int32)), .val (.int (65536 : Int32))] [(.int (0 : Int32)), (.ref bl), (.int (0 : Int32)), (.ref a2)]))) (fun _ k => st8 _ (XS.iload X8.here hx rfl (hb hby d3_53) rfl k)) ?_
  obtain ⟨cl9, Ar9, ql9, Sz9, Nn9, Hl9, Gl9⟩ := id P3_2
  have hin9 : ¬ ((0 : Int32) < 0 ∨ cl9.slots.size ≤ ((0 : Int32)).toNatClampNeg) := inb_of Sz9 ⟨by decide, by decide⟩
  refine own_go (b := (T8.setTop (mkF m 60 #[.val (.ref a1), .val (.ref a2), .val (.int (0 : Int32)), .val (.int (65540 : Int32)), .val (.int (0 : Int32)), .val (.int (0 : Int32)), .val (.int (65536 : Int32))] [(.int (65536 : Int32)), (.int (0 : Int32)), (.ref cn_3), (.int (0 : Int32)), (.ref a2)]))) (fun _ k => X8.aaload hx (j := (0 : Int32)) (v := (.ref cn_3)) (by rw [e8]; exact Ar9.1) (State.isArrayOf_alike hZ.alike Ar9.2.1) rfl Ar9.2.2 hin9 (Hl9.at hin9 rfl) (g := (mkF m 55 #[.val (.ref a1), .val (.ref a2), .val (.int (0 : Int32)), .val (.int (65540 : Int32)), .val (.int (0 : Int32)), .val (.int (0 : Int32)), .val (.int (65536 : Int32))] [(.int (0 : Int32)), (.ref bl), (.int (0 : Int32)), (.ref a2)])) rfl rfl (hb hby d3_55) _ (XS.iload X8.here hx rfl (hb hby d3_56) rfl (XS.iload X8.here hx rfl (hb hby d3_58) rfl k))) ?_
  have F11 : Arv Z T3.heap a2 k2 .int (65540 : Int32) [] (.int (0 : Int32)) := V_a2.keep K3 (ninS ne_a2_bl nin0)
  obtain ⟨T10, h10, L10, X10, e10, N10, K10, V10, st10⟩ := cpA X8 hx hZ hown (hw _ (List.mem_of_getElem? (i := 33) rfl)) (hw _ (List.mem_of_getElem? (i := 36) rfl)) (hw _ (List.mem_of_getElem? (i := 34) rfl)) (hw _ (List.mem_of_getElem? (i := 35) rfl)) e8 (us := ((List.range ((65536 : Int32)).toNatClampNeg).map fun i => ([] : List Value).getD (((0 : Int32)).toNatClampNeg + i) (.int (0 : Int32)))) F11 (P3_1.pad (pad_rep [] (.int (0 : Int32)) 65536)) (Or.inl ⟨rfl, rfl⟩) (by decide) (by decide) (by decide) (by decide) (by decide) rfl (by rw [List.nil_append, List.length_replicate]; decide) N5 (Nat.le_trans Z0 P3_0) (g := (mkF m 60 #[.val (.ref a1), .val (.ref a2), .val (.int (0 : Int32)), .val (.int (65540 : Int32)), .val (.int (0 : Int32)), .val (.int (0 : Int32)), .val (.int (65536 : Int32))] [(.int (65536 : Int32)), (.int (0 : Int32)), (.ref cn_3), (.int (0 : Int32)), (.ref a2)])) rfl (by rw [hml]; rfl) rfl (hb hby d3_60) (by decide) (W := 0) (by show 2 * 0 + _ ≤ _; exact Nat.le_of_eq rfl) (by decide)
  have Zs12 : n0 ≤ h10.size := Nat.le_trans Zs4 K10.1
  have V10c : Arv Z h10 cn_3 kn_3 .int (65536 : Int32) [] (.int (0 : Int32)) := own_pad0 V10 own_rep1 own_rep2 own_rep3
  refine own_go (b := (T10.setTop (mkF m 70 #[.val (.ref a1), .val (.ref a2), .val (.int (65536 : Int32)), .val (.int (65540 : Int32)), .val (.int (0 : Int32)), .val (.int (0 : Int32)), .val (.int (65536 : Int32))] [(.ref a1), (.ref a1)]))) (fun _ k => st10 _ (XS.iloadN X10.here hx rfl (hb hby d3_63) rfl (XS.iload X10.here hx rfl (hb hby d3_64) rfl (XS.iadd X10.here hx rfl (hb hby d3_66) rfl (XS.istoreN X10.here hx rfl (hb hby d3_67) rfl (l' := #[.val (.ref a1), .val (.ref a2), .val (.int (65536 : Int32)), .val (.int (65540 : Int32)), .val (.int (0 : Int32)), .val (.int (0 : Int32)), .val (.int (65536 : Int32))]) rfl (XS.aloadN X10.here hx rfl (hb hby d3_68) rfl rfl (XS.dup X10.here hx rfl (hb hby d3_69) rfl rfl k))))))) ?_
  obtain ⟨cn13, An13, -⟩ := id V_bl
  have F14 : Fld Z T3.heap a1 "com/example/arcwright/arcwright/parser/IntBlocks" "size" "I" (.int (0 : Int32)) := Fld_a1_size.keep K3 (ninS (ne_arr E_a1 (hw _ (List.mem_of_getElem? (i := 3) rfl)) An13) nin0)
  have F15 : Fld Z h10 a1 "com/example/arcwright/arcwright/parser/IntBlocks" "size" "I" (.int (0 : Int32)) := F14.keep K10 (ninS (Nat.ne_of_lt (Nat.lt_of_lt_of_le E_a1.lt (Nat.le_trans (Nat.le_refl _) P3_0))) nin0)
  obtain ⟨T16, X16, e16, st16⟩ := getF X10 hx hZ hown (host := "") (Or.inl (hw _ (List.mem_of_getElem? (i := 20) rfl))) Via.refl e10 F15 (g := (mkF m 70 #[.val (.ref a1), .val (.ref a2), .val (.int (65536 : Int32)), .val (.int (65540 : Int32)), .val (.int (0 : Int32)), .val (.int (0 : Int32)), .val (.int (65536 : Int32))] [(.ref a1), (.ref a1)])) rfl rfl (hb hby d3_70)
  refine own_go (b := (T16.setTop (mkF m 76 #[.val (.ref a1), .val (.ref a2), .val (.int (65536 : Int32)), .val (.int (65540 : Int32)), .val (.int (0 : Int32)), .val (.int (0 : Int32)), .val (.int (65536 : Int32))] [(.int (65536 : Int32)), (.ref a1)]))) (fun _ k => st16 _ (XS.iload X16.here hx rfl (hb hby d3_73) rfl (XS.iadd X16.here hx rfl (hb hby d3_75) rfl k))) ?_
  have F17 : Exa Z T3.heap a1 "com/example/arcwright/arcwright/parser/IntBlocks" := E_a1.keep K3
  have F18 : Exa Z h10 a1 "com/example/arcwright/arcwright/parser/IntBlocks" := F17.keep K10
  obtain ⟨T19, h19, X19, e19, W19, st19⟩ := putF X16 hx hZ hown (host := "") (Or.inl (hw _ (List.mem_of_getElem? (i := 20) rfl))) Via.refl e16 F15 F18 (Or.inl (hw _ (List.mem_of_getElem? (i := 21) rfl))) (hw _ (List.mem_of_getElem? (i := 3) rfl)) (ty := .int) (by decide) rfl rfl (g := (mkF m 76 #[.val (.ref a1), .val (.ref a2), .val (.int (65536 : Int32)), .val (.int (65540 : Int32)), .val (.int (0 : Int32)), .val (.int (0 : Int32)), .val (.int (65536 : Int32))] [(.int (65536 : Int32)), (.ref a1)])) rfl rfl (hb hby d3_76)
  have N19 := Fr.snoc X19 N10 g_a1
  have Zs20 : n0 ≤ h19.size := Nat.le_trans Zs12 (Keep.of_wr W19).1
  have F19 : Fld Z h19 a1 "com/example/arcwright/arcwright/parser/IntBlocks" "size" "I" (.int (65536 : Int32)) := F15.same W19
  refine own_go (b := (T19.setTop (mkF m 6 #[.val (.ref a1), .val (.ref a2), .val (.int (65536 : Int32)), .val (.int (65540 : Int32)), .val (.int (0 : Int32)), .val (.int (0 : Int32)), .val (.int (65536 : Int32))] [(.ref a1)]))) (fun _ k => st19 _ (XS.goto X19.here hx rfl (pc0 := 79) (pc' := 0) rfl (hb hby d3_79) (by decide) (by decide) (XS.iloadN X19.here hx rfl (hb hby d3_0) rfl (XS.iloadN X19.here hx rfl (hb hby d3_1) rfl (XS.icmpNo X19.here hx rfl (hb hby d3_2) rfl (tlt (by decide : (65536 : Int32) < (65540 : Int32))).2.1 (XS.aloadN X19.here hx rfl (hb hby d3_5) rfl rfl k)))))) ?_
  obtain ⟨T21, X21, e21, st21⟩ := getF X19 hx hZ hown (host := "") (Or.inl (hw _ (List.mem_of_getElem? (i := 20) rfl))) Via.refl e19 F19 (g := (mkF m 6 #[.val (.ref a1), .val (.ref a2), .val (.int (65536 : Int32)), .val (.int (65540 : Int32)), .val (.int (0 : Int32)), .val (.int (0 : Int32)), .val (.int (65536 : Int32))] [(.ref a1)])) rfl rfl (hb hby d3_6)
  refine own_go (b := (T21.setTop (mkF m 15 #[.val (.ref a1), .val (.ref a2), .val (.int (65536 : Int32)), .val (.int (65540 : Int32)), .val (.int (1 : Int32)), .val (.int (0 : Int32)), .val (.int (65536 : Int32))] [(.ref a1)]))) (fun _ k => st21 _ (XS.bipush X21.here hx rfl (hb hby d3_9) (XS.iushr X21.here hx rfl (hb hby d3_11) rfl (XS.istore X21.here hx rfl (hb hby d3_12) rfl (l' := #[.val (.ref a1), .val (.ref a2), .val (.int (65536 : Int32)), .val (.int (65540 : Int32)), .val (.int (1 : Int32)), .val (.int (0 : Int32)), .val (.int (65536 : Int32))]) rfl (XS.aloadN X21.here hx rfl (hb hby d3_14) rfl rfl k))))) ?_
  obtain ⟨T22, X22, e22, st22⟩ := getF X21 hx hZ hown (host := "") (Or.inl (hw _ (List.mem_of_getElem? (i := 20) rfl))) Via.refl e21 F19 (g := (mkF m 15 #[.val (.ref a1), .val (.ref a2), .val (.int (65536 : Int32)), .val (.int (65540 : Int32)), .val (.int (1 : Int32)), .val (.int (0 : Int32)), .val (.int (65536 : Int32))] [(.ref a1)])) rfl rfl (hb hby d3_15)
  refine own_go (b := (T22.setTop (mkF m 31 #[.val (.ref a1), .val (.ref a2), .val (.int (65536 : Int32)), .val (.int (65540 : Int32)), .val (.int (1 : Int32)), .val (.int (0 : Int32)), .val (.int (65536 : Int32))] [(.int (1 : Int32)), (.ref a1)]))) (fun _ k => st22 _ (X22.ldcInt hx hown (mvT hZ (hw _ (List.mem_of_getElem? (i := 22) rfl))) (g := (mkF m 18 #[.val (.ref a1), .val (.ref a2), .val (.int (65536 : Int32)), .val (.int (65540 : Int32)), .val (.int (1 : Int32)), .val (.int (0 : Int32)), .val (.int (65536 : Int32))] [(.int (65536 : Int32))])) rfl (hb hby d3_18) _ (XS.iand X22.here hx rfl (hb hby d3_20) rfl (XS.istore X22.here hx rfl (hb hby d3_21) rfl (l' := #[.val (.ref a1), .val (.ref a2), .val (.int (65536 : Int32)), .val (.int (65540 : Int32)), .val (.int (1 : Int32)), .val (.int (0 : Int32)), .val (.int (65536 : Int32))]) rfl (XS.iload X22.here hx rfl (hb hby d3_23) rfl (XS.ifNo X22.here hx rfl (hb hby d3_25) rfl ((if0 _ _).trans (teq (rfl : (0 : Int32) = (0 : Int32))).2) (XS.aloadN X22.here hx rfl (hb hby d3_28) rfl rfl (XS.iload X22.here hx rfl (hb hby d3_29) rfl k)))))))) ?_
  have F24 : Exa Z h19 a1 "com/example/arcwright/arcwright/parser/IntBlocks" := F18.wr W19
  have F25 : Fld Z h10 a1 "com/example/arcwright/arcwright/parser/IntBlocks" "blocks" "[[I" (.ref bl) := F7.keep K10 (ninS (Nat.ne_of_lt (Nat.lt_of_lt_of_le E_a1.lt (Nat.le_trans (Nat.le_refl _) P3_0))) nin0)
  have F26 : Fld Z h19 a1 "com/example/arcwright/arcwright/parser/IntBlocks" "blocks" "[[I" (.ref bl) := F25.other W19 (Or.inr (slot_ne (Or.inl (hw _ (List.mem_of_getElem? (i := 14) rfl))) (Or.inl (hw _ (List.mem_of_getElem? (i := 21) rfl))) (by decide) (t := (.array (.array .int))) (t' := .int) (by decide) (by decide)))
  have F27 : Arv Z h10 bl kb (.array .int) (16 : Int32) [(.ref cn_3), .null, .null, .null, .null, .null, .null, .null, .null, .null, .null, .null, .null, .null, .null, .null] .null := P3_2.keep K10 (ninS (Nat.ne_of_lt (Nat.lt_of_lt_of_le V_bl.lt (Nat.le_trans (Nat.le_refl _) P3_0))) nin0)
  obtain ⟨cn28, An28, -⟩ := id V_bl
  have F29 : Arv Z h19 bl kb (.array .int) (16 : Int32) [(.ref cn_3), .null, .null, .null, .null, .null, .null, .null, .null, .null, .null, .null, .null, .null, .null, .null] .null := F27.other W19 (Ne.symm (ne_arr E_a1 (hw _ (List.mem_of_getElem? (i := 3) rfl)) An28))
  obtain ⟨cq23, qc23, qc23'⟩ := F24.cell
  obtain ⟨_, _, ⟨T23, Ll23, kz23, nz23⟩, -, X23, ⟨Lc23, hQ23, lz23, yz23, zz23⟩, st23⟩ := X22.privateBack hx (y := (⟨"com/example/arcwright/arcwright/parser/IntBlocks", "newBlock", "(I)V"⟩ : MethodName)) hown (mvT hZ (hw _ (List.mem_of_getElem? (i := 23) rfl))) (mvT hZ (hw _ (List.mem_of_getElem? (i := 24) rfl))) (own_selp (y := (⟨"com/example/arcwright/arcwright/parser/IntBlocks", "newBlock", "(I)V"⟩ : MethodName)) (mvT hZ (hw _ (List.mem_of_getElem? (i := 3) rfl))) (mvP hZ (hw _ (List.mem_of_getElem? (i := 25) rfl))) (mvT hZ (hw _ (List.mem_of_getElem? (i := 24) rfl))) (by decide)) (Cond.privateMethod_at (mvP hZ (hw _ (List.mem_of_getElem? (i := 25) rfl)) (args := #[]))) (mvT hZ (hw _ (List.mem_of_getElem? (i := 26) rfl))) (by decide) (backOf (W := 0) (rmnb1 l Z a0 hw [] a1 bl kb cn_3 h19 n0 Zs20 F24 F26 F29 Ov_bl g_bl) hZ (hw _ (List.mem_of_getElem? (i := 26) rfl)) (hw _ (List.mem_of_getElem? (i := 4) rfl)) (by decide) (by decide)) (g := (mkF m 31 #[.val (.ref a1), .val (.ref a2), .val (.int (65536 : Int32)), .val (.int (65540 : Int32)), .val (.int (1 : Int32)), .val (.int (0 : Int32)), .val (.int (65536 : Int32))] [(.int (1 : Int32)), (.ref a1)])) rfl (by rw [hml]; rfl) (Steps.refl _) (a := a1) (by rw [e22]; exact qc23) qc23' (argsL := [(.int (1 : Int32))]) (rest := []) (lenOf pd__I_V rfl) rfl (by show 2 * 0 + _ ≤ _; exact Nat.le_of_eq rfl) (hb hby d3_31) (fun _ _ => ⟨rfl, e22, (by decide : 1 + 1 ≤ _), (by decide : 65536 + 65536 ≤ _)⟩)
  dsimp only [Pt.U, Pt.locs, Pt.cells, Pt.slots] at X23 lz23 yz23 zz23 st23 hQ23
  subst lz23 yz23 zz23
  obtain ⟨cn_23, kn_23, rfl, N23q, K23, P23_0, P23_1, P23_2⟩ := hQ23
  have N23 := Fr.app N19 N23q
  have Zs30 : n0 ≤ T23.heap.size := Nat.le_trans Zs20 K23.1
  refine own_go (b := (T23.setTop (mkF m 42 #[.val (.ref a1), .val (.ref a2), .val (.int (65536 : Int32)), .val (.int (65540 : Int32)), .val (.int (1 : Int32)), .val (.int (0 : Int32)), .val (.int (65536 : Int32))] [(.int (65536 : Int32)), (.int (4 : Int32))]))) (fun _ k => st23.trans (XS.iloadN X23.here hx rfl (hb hby d3_34) rfl (XS.iloadN X23.here hx rfl (hb hby d3_35) rfl (XS.isub X23.here hx rfl (hb hby d3_36) rfl (X23.ldcInt hx hown (mvT hZ (hw _ (List.mem_of_getElem? (i := 27) rfl))) (g := (mkF m 37 #[.val (.ref a1), .val (.ref a2), .val (.int (65536 : Int32)), .val (.int (65540 : Int32)), .val (.int (1 : Int32)), .val (.int (0 : Int32)), .val (.int (65536 : Int32))] [(.int (4 : Int32))])) rfl (hb hby d3_37) _ (XS.iload X23.here hx rfl (hb hby d3_39) rfl (XS.isub X23.here hx rfl (hb hby d3_41) rfl k))))))) ?_
  obtain ⟨_, _, ⟨T31, Ll31, kz31, nz31⟩, -, X31, ⟨Lc31, hQ31, lz31, yz31, zz31⟩, st31⟩ := Jvm.LawKit.callS X23 hx (y := (⟨"java/lang/Math", "min", "(II)I"⟩ : MethodName)) hown (mvT hZ (hw _ (List.mem_of_getElem? (i := 29) rfl))) (mvT hZ (hw _ (List.mem_of_getElem? (i := 30) rfl))) (mvT hZ (hw _ (List.mem_of_getElem? (i := 31) rfl))) (mvT hZ (hw _ (List.mem_of_getElem? (i := 32) rfl))) (by decide) (backOf (W := 0) (rmminA l Z a0 hw [] (4 : Int32) (65536 : Int32) T23.heap n0 Zs30 (by decide)) hZ (hw _ (List.mem_of_getElem? (i := 32) rfl)) (hw _ (List.mem_of_getElem? (i := 31) rfl)) (by decide) (by decide)) (g := (mkF m 42 #[.val (.ref a1), .val (.ref a2), .val (.int (65536 : Int32)), .val (.int (65540 : Int32)), .val (.int (1 : Int32)), .val (.int (0 : Int32)), .val (.int (65536 : Int32))] [(.int (65536 : Int32)), (.int (4 : Int32))])) rfl (by rw [hml]; rfl) (argsL := [(.int (4 : Int32)), (.int (65536 : Int32))]) (rest := []) (lenOf pd__II_I rfl) rfl (by show 2 * 0 + _ ≤ _; exact Nat.le_of_eq rfl) (hb hby d3_42) (fun _ _ => ⟨rfl, rfl, (by decide : 2 + 0 ≤ _), (by decide : 131072 + 0 ≤ _)⟩)
  dsimp only [Pt.U, Pt.locs, Pt.cells, Pt.slots] at X31 lz31 yz31 zz31 st31 hQ31
  subst lz31 yz31 zz31
  obtain ⟨rfl, N31q, eh31⟩ := hQ31
  have N31 := Fr.app N23 N31q
  refine own_go (b := (T31.setTop (mkF m 50 #[.val (.ref a1), .val (.ref a2), .val (.int (65536 : Int32)), .val (.int (65540 : Int32)), .val (.int (1 : Int32)), .val (.int (0 : Int32)), .val (.int (4 : Int32))] [(.ref a1), (.int (65536 : Int32)), (.ref a2)]))) (fun _ k => st31 _ (XS.istore X31.here hx rfl (hb hby d3_45) rfl (l' := #[.val (.ref a1), .val (.ref a2), .val (.int (65536 : Int32)), .val (.int (65540 : Int32)), .val (.int (1 : Int32)), .val (.int (0 : Int32)), .val (.int (4 : Int32))]) rfl (XS.aloadN X31.here hx rfl (hb hby d3_47) rfl rfl (XS.iloadN X31.here hx rfl (hb hby d3_48) rfl (XS.aloadN X31.here hx rfl (hb hby d3_49) rfl rfl k))))) ?_
  obtain ⟨cn32, An32, -⟩ := id V_bl
  have F33 : Fld Z T23.heap a1 "com/example/arcwright/arcwright/parser/IntBlocks" "blocks" "[[I" (.ref bl) := F26.keep K23 (ninS (ne_arr E_a1 (hw _ (List.mem_of_getElem? (i := 3) rfl)) An32) nin0)
  obtain ⟨T34, X34, e34, st34⟩ := getF X31 hx hZ hown (host := "") (Or.inl (hw _ (List.mem_of_getElem? (i := 13) rfl))) Via.refl eh31 F33 (g := (mkF m 50 #[.val (.ref a1), .val (.ref a2), .val (.int (65536 : Int32)), .val (.int (65540 : Int32)), .val (.int (1 : Int32)), .val (.int (0 : Int32)), .val (.int (4 : Int32))] [(.ref a1), (.int (65536 : Int32)), (.ref a2)])) rfl rfl (hb hby d3_50)
  refine own_go (b := (T34.setTop (mkF m 55 #[.val (.ref a1), .val (.ref a2), .val (.int (65536 : Int32)), .val (.int (65540 : Int32)), .val (.int (1 : Int32)), .val (.int (0 : Int32)), .val (.int (4 : Int32))] [(.int (1 : Int32)), (.ref bl), (.int (65536 : Int32)), (.ref a2)]))) (fun _ k => st34 _ (XS.iload X34.here hx rfl (hb hby d3_53) rfl k)) ?_
  obtain ⟨cl35, Ar35, ql35, Sz35, Nn35, Hl35, Gl35⟩ := id P23_2
  have hin35 : ¬ ((1 : Int32) < 0 ∨ cl35.slots.size ≤ ((1 : Int32)).toNatClampNeg) := inb_of Sz35 ⟨by decide, by decide⟩
  refine own_go (b := (T34.setTop (mkF m 60 #[.val (.ref a1), .val (.ref a2), .val (.int (65536 : Int32)), .val (.int (65540 : Int32)), .val (.int (1 : Int32)), .val (.int (0 : Int32)), .val (.int (4 : Int32))] [(.int (4 : Int32)), (.int (0 : Int32)), (.ref cn_23), (.int (65536 : Int32)), (.ref a2)]))) (fun _ k => X34.aaload hx (j := (1 : Int32)) (v := (.ref cn_23)) (by rw [e34]; exact Ar35.1) (State.isArrayOf_alike hZ.alike Ar35.2.1) rfl Ar35.2.2 hin35 (Hl35.at hin35 rfl) (g := (mkF m 55 #[.val (.ref a1), .val (.ref a2), .val (.int (65536 : Int32)), .val (.int (65540 : Int32)), .val (.int (1 : Int32)), .val (.int (0 : Int32)), .val (.int (4 : Int32))] [(.int (1 : Int32)), (.ref bl), (.int (65536 : Int32)), (.ref a2)])) rfl rfl (hb hby d3_55) _ (XS.iload X34.here hx rfl (hb hby d3_56) rfl (XS.iload X34.here hx rfl (hb hby d3_58) rfl k))) ?_
  have F37 : Arv Z h10 a2 k2 .int (65540 : Int32) [] (.int (0 : Int32)) := F11.keep K10 (ninS (Nat.ne_of_lt (Nat.lt_of_lt_of_le V_a2.lt (Nat.le_trans (Nat.le_refl _) P3_0))) nin0)
  obtain ⟨cn38, An38, -⟩ := id V_a2
  have F39 : Arv Z h19 a2 k2 .int (65540 : Int32) [] (.int (0 : Int32)) := F37.other W19 (Ne.symm (ne_arr E_a1 (hw _ (List.mem_of_getElem? (i := 3) rfl)) An38))
  have F40 : Arv Z T23.heap a2 k2 .int (65540 : Int32) [] (.int (0 : Int32)) := F39.keep K23 (ninS ne_a2_bl nin0)
  obtain ⟨T36, h36, L36, X36, e36, N36, K36, V36, st36⟩ := cpA X34 hx hZ hown (hw _ (List.mem_of_getElem? (i := 33) rfl)) (hw _ (List.mem_of_getElem? (i := 36) rfl)) (hw _ (List.mem_of_getElem? (i := 34) rfl)) (hw _ (List.mem_of_getElem? (i := 35) rfl)) e34 (us := ((List.range ((4 : Int32)).toNatClampNeg).map fun i => ([] : List Value).getD (((65536 : Int32)).toNatClampNeg + i) (.int (0 : Int32)))) F40 (P23_1.pad (pad_rep [] (.int (0 : Int32)) 65536)) (Or.inl ⟨rfl, rfl⟩) (by decide) (by decide) (by decide) (by decide) (by decide) rfl (by rw [List.nil_append, List.length_replicate]; decide) N31 (Nat.le_trans Zs20 P23_0) (g := (mkF m 60 #[.val (.ref a1), .val (.ref a2), .val (.int (65536 : Int32)), .val (.int (65540 : Int32)), .val (.int (1 : Int32)), .val (.int (0 : Int32)), .val (.int (4 : Int32))] [(.int (4 : Int32)), (.int (0 : Int32)), (.ref cn_23), (.int (65536 : Int32)), (.ref a2)])) rfl (by rw [hml]; rfl) rfl (hb hby d3_60) (by decide) (W := 0) (by show 2 * 0 + _ ≤ _; exact Nat.le_of_eq rfl) (by decide)
  have Zs41 : n0 ≤ h36.size := Nat.le_trans Zs30 K36.1
  have V36c : Arv Z h36 cn_23 kn_23 .int (65536 : Int32) [] (.int (0 : Int32)) := own_pad0 V36 own_rep1 own_rep2 own_rep3
  refine own_go (b := (T36.setTop (mkF m 70 #[.val (.ref a1), .val (.ref a2), .val (.int (65540 : Int32)), .val (.int (65540 : Int32)), .val (.int (1 : Int32)), .val (.int (0 : Int32)), .val (.int (4 : Int32))] [(.ref a1), (.ref a1)]))) (fun _ k => st36 _ (XS.iloadN X36.here hx rfl (hb hby d3_63) rfl (XS.iload X36.here hx rfl (hb hby d3_64) rfl (XS.iadd X36.here hx rfl (hb hby d3_66) rfl (XS.istoreN X36.here hx rfl (hb hby d3_67) rfl (l' := #[.val (.ref a1), .val (.ref a2), .val (.int (65540 : Int32)), .val (.int (65540 : Int32)), .val (.int (1 : Int32)), .val (.int (0 : Int32)), .val (.int (4 : Int32))]) rfl (XS.aloadN X36.here hx rfl (hb hby d3_68) rfl rfl (XS.dup X36.here hx rfl (hb hby d3_69) rfl rfl k))))))) ?_
  obtain ⟨cn42, An42, -⟩ := id V_bl
  have F43 : Fld Z T23.heap a1 "com/example/arcwright/arcwright/parser/IntBlocks" "size" "I" (.int (65536 : Int32)) := F19.keep K23 (ninS (ne_arr E_a1 (hw _ (List.mem_of_getElem? (i := 3) rfl)) An42) nin0)
  have F44 : Fld Z h36 a1 "com/example/arcwright/arcwright/parser/IntBlocks" "size" "I" (.int (65536 : Int32)) := F43.keep K36 (ninS (Nat.ne_of_lt (Nat.lt_of_lt_of_le E_a1.lt (Nat.le_trans (Nat.le_trans (Nat.le_trans K3.1 K10.1) (Keep.of_wr W19).1) P23_0))) nin0)
  obtain ⟨T45, X45, e45, st45⟩ := getF X36 hx hZ hown (host := "") (Or.inl (hw _ (List.mem_of_getElem? (i := 20) rfl))) Via.refl e36 F44 (g := (mkF m 70 #[.val (.ref a1), .val (.ref a2), .val (.int (65540 : Int32)), .val (.int (65540 : Int32)), .val (.int (1 : Int32)), .val (.int (0 : Int32)), .val (.int (4 : Int32))] [(.ref a1), (.ref a1)])) rfl rfl (hb hby d3_70)
  refine own_go (b := (T45.setTop (mkF m 76 #[.val (.ref a1), .val (.ref a2), .val (.int (65540 : Int32)), .val (.int (65540 : Int32)), .val (.int (1 : Int32)), .val (.int (0 : Int32)), .val (.int (4 : Int32))] [(.int (65540 : Int32)), (.ref a1)]))) (fun _ k => st45 _ (XS.iload X45.here hx rfl (hb hby d3_73) rfl (XS.iadd X45.here hx rfl (hb hby d3_75) rfl k))) ?_
  have F46 : Exa Z T23.heap a1 "com/example/arcwright/arcwright/parser/IntBlocks" := F24.keep K23
  have F47 : Exa Z h36 a1 "com/example/arcwright/arcwright/parser/IntBlocks" := F46.keep K36
  obtain ⟨T48, h48, X48, e48, W48, st48⟩ := putF X45 hx hZ hown (host := "") (Or.inl (hw _ (List.mem_of_getElem? (i := 20) rfl))) Via.refl e45 F44 F47 (Or.inl (hw _ (List.mem_of_getElem? (i := 21) rfl))) (hw _ (List.mem_of_getElem? (i := 3) rfl)) (ty := .int) (by decide) rfl rfl (g := (mkF m 76 #[.val (.ref a1), .val (.ref a2), .val (.int (65540 : Int32)), .val (.int (65540 : Int32)), .val (.int (1 : Int32)), .val (.int (0 : Int32)), .val (.int (4 : Int32))] [(.int (65540 : Int32)), (.ref a1)])) rfl rfl (hb hby d3_76)
  have N48 := Fr.snoc X48 N36 g_a1
  have Zs49 : n0 ≤ h48.size := Nat.le_trans Zs41 (Keep.of_wr W48).1
  have F48 : Fld Z h48 a1 "com/example/arcwright/arcwright/parser/IntBlocks" "size" "I" (.int (65540 : Int32)) := F44.same W48
  refine own_go (b := (T48.setTop (mkF m 82 #[.val (.ref a1), .val (.ref a2), .val (.int (65540 : Int32)), .val (.int (65540 : Int32)), .val (.int (1 : Int32)), .val (.int (0 : Int32)), .val (.int (4 : Int32))] []))) (fun _ k => st48 _ (XS.goto X48.here hx rfl (pc0 := 79) (pc' := 0) rfl (hb hby d3_79) (by decide) (by decide) (XS.iloadN X48.here hx rfl (hb hby d3_0) rfl (XS.iloadN X48.here hx rfl (hb hby d3_1) rfl (XS.icmpYes X48.here hx rfl (pc0 := 2) (pc' := 82) rfl (hb hby d3_2) rfl (flt (by decide : ¬ ((65540 : Int32) < (65540 : Int32)))).2.1 (by decide) (by decide) k))))) ?_
  have K50 : Keep h0 T3.heap [a1, bl] := (Keep.refl h0 [a1, bl]).trans K3 (allS (Or.inl (List.mem_of_getElem? (i := 1) rfl)) all0)
  have K51 : Keep h0 h10 [a1, bl] := K50.trans K10 (allS (Or.inr (Nat.le_trans (Nat.le_refl _) P3_0)) all0)
  have K52 : Keep h0 h19 [a1, bl] := K51.wr W19 (Or.inl (List.mem_of_getElem? (i := 0) rfl))
  have K53 : Keep h0 T23.heap [a1, bl] := K52.trans K23 (allS (Or.inl (List.mem_of_getElem? (i := 1) rfl)) all0)
  have K54 : Keep h0 h36 [a1, bl] := K53.trans K36 (allS (Or.inr (Nat.le_trans (Nat.le_trans (Nat.le_trans K3.1 K10.1) (Keep.of_wr W19).1) P23_0)) all0)
  have K55 : Keep h0 h48 [a1, bl] := K54.wr W48 (Or.inl (List.mem_of_getElem? (i := 0) rfl))
  have F56 : Exa Z h48 a1 "com/example/arcwright/arcwright/parser/IntBlocks" := F47.wr W48
  have F57 : Fld Z h36 a1 "com/example/arcwright/arcwright/parser/IntBlocks" "blocks" "[[I" (.ref bl) := F33.keep K36 (ninS (Nat.ne_of_lt (Nat.lt_of_lt_of_le E_a1.lt (Nat.le_trans (Nat.le_trans (Nat.le_trans K3.1 K10.1) (Keep.of_wr W19).1) P23_0))) nin0)
  have F58 : Fld Z h48 a1 "com/example/arcwright/arcwright/parser/IntBlocks" "blocks" "[[I" (.ref bl) := F57.other W48 (Or.inr (slot_ne (Or.inl (hw _ (List.mem_of_getElem? (i := 14) rfl))) (Or.inl (hw _ (List.mem_of_getElem? (i := 21) rfl))) (by decide) (t := (.array (.array .int))) (t' := .int) (by decide) (by decide)))
  have F59 : Arv Z h36 bl kb (.array .int) (16 : Int32) [(.ref cn_3), (.ref cn_23), .null, .null, .null, .null, .null, .null, .null, .null, .null, .null, .null, .null, .null, .null] .null := P23_2.keep K36 (ninS (Nat.ne_of_lt (Nat.lt_of_lt_of_le V_bl.lt (Nat.le_trans (Nat.le_trans (Nat.le_trans K3.1 K10.1) (Keep.of_wr W19).1) P23_0))) nin0)
  obtain ⟨cn60, An60, -⟩ := id V_bl
  have F61 : Arv Z h48 bl kb (.array .int) (16 : Int32) [(.ref cn_3), (.ref cn_23), .null, .null, .null, .null, .null, .null, .null, .null, .null, .null, .null, .null, .null, .null] .null := F59.other W48 (Ne.symm (ne_arr E_a1 (hw _ (List.mem_of_getElem? (i := 3) rfl)) An60))
  have F62 : Arv Z h19 cn_3 kn_3 .int (65536 : Int32) [] (.int (0 : Int32)) := V10c.other W19 (Ne.symm (Nat.ne_of_lt (Nat.lt_of_lt_of_le E_a1.lt (Nat.le_trans (Nat.le_refl _) P3_0))))
  have F63 : Arv Z T23.heap cn_3 kn_3 .int (65536 : Int32) [] (.int (0 : Int32)) := F62.keep K23 (ninS (Ne.symm (Nat.ne_of_lt (Nat.lt_of_lt_of_le V_bl.lt (Nat.le_trans (Nat.le_refl _) P3_0)))) nin0)
  have F64 : Arv Z h36 cn_3 kn_3 .int (65536 : Int32) [] (.int (0 : Int32)) := F63.keep K36 (ninS (Nat.ne_of_lt (Nat.lt_of_lt_of_le P3_1.lt (Nat.le_trans (Nat.le_trans K10.1 (Keep.of_wr W19).1) P23_0))) nin0)
  have F65 : Arv Z h48 cn_3 kn_3 .int (65536 : Int32) [] (.int (0 : Int32)) := F64.other W48 (Ne.symm (Nat.ne_of_lt (Nat.lt_of_lt_of_le E_a1.lt (Nat.le_trans (Nat.le_refl _) P3_0))))
  have F66 : Arv Z h48 cn_23 kn_23 .int (65536 : Int32) [] (.int (0 : Int32)) := V36c.other W48 (Ne.symm (Nat.ne_of_lt (Nat.lt_of_lt_of_le E_a1.lt (Nat.le_trans (Nat.le_trans (Nat.le_trans K3.1 K10.1) (Keep.of_wr W19).1) P23_0))))
  obtain ⟨fs, hr, hrun, hended, hW, hsame⟩ := X48.leave (v := none) (fun _ => rfl)
  exact ⟨_, _, X48.returnOut hx Bd.returns (hb hby d3_82) hr, hrun, hended, _, _, rfl, (show Qrm3 Z a1 a2 bl kb k2 h0 n0 _ T48.heap _ from (by rw [e48]; exact ⟨cn_3, kn_3, cn_23, kn_23, rfl, N48, K55, F56, F48, F58, (Nat.le_trans (Nat.le_refl _) P3_0), (Nat.le_trans (Nat.le_trans (Nat.le_trans K3.1 K10.1) (Keep.of_wr W19).1) P23_0), (Nat.ne_of_lt (Nat.lt_of_lt_of_le P3_1.lt (Nat.le_trans (Nat.le_trans K10.1 (Keep.of_wr W19).1) P23_0))), F61, F65, F66⟩)), ⟨_, rfl⟩, hW, hsame.mono (by decide) (by decide)⟩
theorem d6_0 : decode prog_29_method_4_code 0 = .ok (.aload_n 0, 1) := by decide +kernel
theorem d6_1 : decode prog_29_method_4_code 1 = .ok (.getfield 11, 3) := by decide +kernel
theorem d6_4 : decode prog_29_method_4_code 4 = .ok (.iload_n 1, 1) := by decide +kernel
theorem d6_5 : decode prog_29_method_4_code 5 = .ok (.bipush 16, 2) := by decide +kernel
theorem d6_7 : decode prog_29_method_4_code 7 = .ok (.iushr, 1) := by decide +kernel
theorem d6_8 : decode prog_29_method_4_code 8 = .ok (.aaload, 1) := by decide +kernel
theorem d6_9 : decode prog_29_method_4_code 9 = .ok (.iload_n 1, 1) := by decide +kernel
theorem d6_10 : decode prog_29_method_4_code 10 = .ok (.ldc 19, 2) := by decide +kernel
theorem d6_12 : decode prog_29_method_4_code 12 = .ok (.iand, 1) := by decide +kernel
theorem d6_13 : decode prog_29_method_4_code 13 = .ok (.iload_n 2, 1) := by decide +kernel
theorem d6_14 : decode prog_29_method_4_code 14 = .ok (.iastore, 1) := by decide +kernel
theorem d6_15 : decode prog_29_method_4_code 15 = .ok (.return_, 1) := by decide +kernel
theorem pn_6 : plainName "com/example/arcwright/arcwright/parser/IntBlocks" = true := by first | (simp [plainName, overriddenIn]; done) | decide +kernel
theorem ef_rm6 (m : MethodId) (x0 : Addr) (x1 : Int32) (x2 : Int32) : entryFrame m #[(.ref x0), (.int x1), (.int x2)] 3 = mkF m 0 #[.val (.ref x0), .val (.int x1), .val (.int x2)] [] := by first | (simp [entryFrame, mkF, argsToLocals, Value.category]; done) | rfl
def Qrm6 (Z : State) (a1 : Addr) (p2 : Int32) (p3 : Int32) (bl : Addr) (kb : ClassId) (c0 : Addr) (c1 : Addr) (f : Nat → Int32) (h0 : Heap) (n0 : Nat) (v : Option Value) (h : Heap) (L : List Loc) : Prop := v = none ∧ Fr n0 L ∧ Keep h0 h [c0, c1] ∧ (OMem Z h c0 0 (own_set f p2.toNatClampNeg p3)) ∧ (OMem Z h c1 65536 (own_set f p2.toNatClampNeg p3))
set_option maxRecDepth 65536 in
set_option maxHeartbeats 40000000 in
theorem rm6 (l : Launch) (Z : State) (a0 : Array Value) (hw : ∀ d ∈ tables_1, d.before a0 Z = true) (ws : List Jvm.Cond) (a1 : Addr) (p2 : Int32) (p3 : Int32) (bl : Addr) (kb : ClassId) (c0 : Addr) (c1 : Addr) (f : Nat → Int32) (h0 : Heap) (n0 : Nat) (Z0 : n0 ≤ h0.size) (E_a1 : Exa Z h0 a1 "com/example/arcwright/arcwright/parser/IntBlocks") (Fld_a1_blocks : Fld Z h0 a1 "com/example/arcwright/arcwright/parser/IntBlocks" "blocks" "[[I" (.ref bl)) (V_bl : Arv Z h0 bl kb (.array .int) (16 : Int32) [(.ref c0), (.ref c1), .null, .null, .null, .null, .null, .null, .null, .null, .null, .null, .null, .null, .null, .null] .null) (OMem_c0 : OMem Z h0 c0 0 f) (OMem_c1 : OMem Z h0 c1 65536 f) (g_c0 : n0 ≤ c0) (g_c1 : n0 ≤ c1) (ne_c0_c1 : c0 ≠ c1) (hp0 : ¬ (p2 < (0 : Int32))) (hp1 : p2 < (65540 : Int32)) :
    MetFree l (⟨"com/example/arcwright/arcwright/parser/IntBlocks", "set", "(II)V"⟩ : MethodName) (head1 (Jvm.Cond.code (⟨"com/example/arcwright/arcwright/parser/IntBlocks", "set", "(II)V"⟩ : MethodName) prog_29_method_4_code 3 none :: ws) ({ frames := 0, cells := 0, slots := 0, locals := 0 } : Room)) (fun a U => a = #[(.ref a1), (.int p2), (.int p3)] ∧ Z.Warmed39 U.vm ∧ U.heap = h0) (fun _ _ _ _ _ => True) (fun _ U o U' => ∃ v L, o = .returned v ∧ Qrm6 Z a1 p2 p3 bl kb c0 c1 f h0 n0 v U'.heap L ∧ FrameEnd U o U' L ({ frames := 0, cells := 0, slots := 0, locals := 0 } : Room).cells ({ frames := 0, cells := 0, slots := 0, locals := 0 } : Room).slots) := by
  refine MetFree.of_bodySF (plainFor_of_name pn_6) hisR ?_
  intro p e s m args below meth c s₁ Bd hml0 hP hK
  obtain ⟨rfl, hZ, hh⟩ := hP
  have hx := Bd.exec
  have hby := Bd.bytes
  have hml : c.maxLocals = 3 := hml0
  have hown : s.vm.findClass "com/example/arcwright/arcwright/parser/IntBlocks" = some m.cls := findClass_of_methodNamed Bd.named
  have hnm := (name_of_methodNamed Bd.named Bd.method).1
  have X0 : Stand p l e ({ frames := 0, cells := 0, slots := 0, locals := 0 } : Room) s m #[(.ref a1), (.int p2), (.int p3)] below meth c s₁ [] 0 0 := Stand.of_body Bd
  have e0 : s₁.heap = h0 := by rw [← hh, Bd.state]; rfl
  have N0 := Fr.nil n0
  refine own_go (b := (s₁.setTop (mkF m 0 #[.val (.ref a1), .val (.int p2), .val (.int p3)] []))) (fun _ k => castTop (ef_rm6 m a1 p2 p3) k) ?_
  refine own_go (b := (s₁.setTop (mkF m 1 #[.val (.ref a1), .val (.int p2), .val (.int p3)] [(.ref a1)]))) (fun _ k => XS.aloadN X0.here hx rfl (hb hby d6_0) rfl rfl k) ?_
  obtain ⟨T1, X1, e1, st1⟩ := getF X0 hx hZ hown (host := "") (Or.inl (hw _ (List.mem_of_getElem? (i := 13) rfl))) Via.refl e0 Fld_a1_blocks (g := (mkF m 1 #[.val (.ref a1), .val (.int p2), .val (.int p3)] [(.ref a1)])) rfl rfl (hb hby d6_1)
  refine own_go (b := (T1.setTop (mkF m 8 #[.val (.ref a1), .val (.int p2), .val (.int p3)] [(.int ((p2.toUInt32 >>> ((16 : Int32) &&& 31).toUInt32).toInt32)), (.ref bl)]))) (fun _ k => st1 _ (XS.iloadN X1.here hx rfl (hb hby d6_4) rfl (XS.bipush X1.here hx rfl (hb hby d6_5) (XS.iushr X1.here hx rfl (hb hby d6_7) rfl k)))) ?_
  by_cases hA : p2 < (65536 : Int32)
  · skip
    rw [own_shA hp0 hA]
    obtain ⟨cl2, Ar2, ql2, Sz2, Nn2, Hl2, Gl2⟩ := id V_bl
    have hin2 : ¬ ((0 : Int32) < 0 ∨ cl2.slots.size ≤ ((0 : Int32)).toNatClampNeg) := inb_of Sz2 ⟨by decide, by decide⟩
    refine own_go (b := (T1.setTop (mkF m 14 #[.val (.ref a1), .val (.int p2), .val (.int p3)] [(.int p3), (.int (p2 &&& (65535 : Int32))), (.ref c0)]))) (fun _ k => X1.aaload hx (j := (0 : Int32)) (v := (.ref c0)) (by rw [e1]; exact Ar2.1) (State.isArrayOf_alike hZ.alike Ar2.2.1) rfl Ar2.2.2 hin2 (Hl2.at hin2 rfl) (g := (mkF m 8 #[.val (.ref a1), .val (.int p2), .val (.int p3)] [(.int (0 : Int32)), (.ref bl)])) rfl rfl (hb hby d6_8) _ (XS.iloadN X1.here hx rfl (hb hby d6_9) rfl (X1.ldcInt hx hown (mvT hZ (hw _ (List.mem_of_getElem? (i := 22) rfl))) (g := (mkF m 10 #[.val (.ref a1), .val (.int p2), .val (.int p3)] [(.int p2), (.ref c0)])) rfl (hb hby d6_10) _ (XS.iand X1.here hx rfl (hb hby d6_12) rfl (XS.iloadN X1.here hx rfl (hb hby d6_13) rfl k))))) ?_
    obtain ⟨cl3, Ar3, Sz3, Hl3⟩ := id OMem_c0
    obtain ⟨T3, h3, X3, e3, W3, st3⟩ := stI X1 hx hZ e1 Ar3 (j := (p2 &&& (65535 : Int32))) (own_in Sz3 p2) (g := (mkF m 14 #[.val (.ref a1), .val (.int p2), .val (.int p3)] [(.int p3), (.int (p2 &&& (65535 : Int32))), (.ref c0)])) rfl rfl (hb hby d6_14)
    have N3 := Fr.snoc X3 N0 g_c0
    have Zs4 : n0 ≤ h3.size := Nat.le_trans Z0 (Keep.of_wr W3).1
    have M3 : OMem Z h3 c0 0 (own_set f p2.toNatClampNeg p3) := by
      have q := OMem.store (off := 0) Ar3 Sz3 Hl3 W3 rfl (own_lt (own_mk p2).1 (own_mk p2).2.1)
      rw [own_mkA hp0 hA, Nat.zero_add] at q
      exact q
    have F5 : OMem Z h3 c1 65536 f := OMem_c1.other W3 (Ne.symm ne_c0_c1)
    have Mo3 : OMem Z h3 c1 65536 (own_set f p2.toNatClampNeg p3) := F5.congr (fun i hi => (own_s2 f p3 (by have := own_lt hp0 hA; omega)).symm)
    refine own_go (b := (T3.setTop (mkF m 15 #[.val (.ref a1), .val (.int p2), .val (.int p3)] []))) (fun _ k => st3 _ k) ?_
    have K6 : Keep h0 h3 [c0, c1] := (Keep.refl h0 [c0, c1]).wr W3 (Or.inl (List.mem_of_getElem? (i := 0) rfl))
    obtain ⟨fs, hr, hrun, hended, hW, hsame⟩ := X3.leave (v := none) (fun _ => rfl)
    exact ⟨_, _, X3.returnOut hx Bd.returns (hb hby d6_15) hr, hrun, hended, _, _, rfl, (show Qrm6 Z a1 p2 p3 bl kb c0 c1 f h0 n0 _ T3.heap _ from (by rw [e3]; exact ⟨rfl, N3, K6, M3, Mo3⟩)), ⟨_, rfl⟩, hW, hsame.mono (by decide) (by decide)⟩
  · skip
    rw [own_shB hp0 hp1 hA]
    obtain ⟨cl7, Ar7, ql7, Sz7, Nn7, Hl7, Gl7⟩ := id V_bl
    have hin7 : ¬ ((1 : Int32) < 0 ∨ cl7.slots.size ≤ ((1 : Int32)).toNatClampNeg) := inb_of Sz7 ⟨by decide, by decide⟩
    refine own_go (b := (T1.setTop (mkF m 14 #[.val (.ref a1), .val (.int p2), .val (.int p3)] [(.int p3), (.int (p2 &&& (65535 : Int32))), (.ref c1)]))) (fun _ k => X1.aaload hx (j := (1 : Int32)) (v := (.ref c1)) (by rw [e1]; exact Ar7.1) (State.isArrayOf_alike hZ.alike Ar7.2.1) rfl Ar7.2.2 hin7 (Hl7.at hin7 rfl) (g := (mkF m 8 #[.val (.ref a1), .val (.int p2), .val (.int p3)] [(.int (1 : Int32)), (.ref bl)])) rfl rfl (hb hby d6_8) _ (XS.iloadN X1.here hx rfl (hb hby d6_9) rfl (X1.ldcInt hx hown (mvT hZ (hw _ (List.mem_of_getElem? (i := 22) rfl))) (g := (mkF m 10 #[.val (.ref a1), .val (.int p2), .val (.int p3)] [(.int p2), (.ref c1)])) rfl (hb hby d6_10) _ (XS.iand X1.here hx rfl (hb hby d6_12) rfl (XS.iloadN X1.here hx rfl (hb hby d6_13) rfl k))))) ?_
    obtain ⟨cl8, Ar8, Sz8, Hl8⟩ := id OMem_c1
    obtain ⟨T8, h8, X8, e8, W8, st8⟩ := stI X1 hx hZ e1 Ar8 (j := (p2 &&& (65535 : Int32))) (own_in Sz8 p2) (g := (mkF m 14 #[.val (.ref a1), .val (.int p2), .val (.int p3)] [(.int p3), (.int (p2 &&& (65535 : Int32))), (.ref c1)])) rfl rfl (hb hby d6_14)
    have N8 := Fr.snoc X8 N0 g_c1
    have Zs9 : n0 ≤ h8.size := Nat.le_trans Z0 (Keep.of_wr W8).1
    have M8 : OMem Z h8 c1 65536 (own_set f p2.toNatClampNeg p3) := by
      have q := OMem.store (off := 65536) Ar8 Sz8 Hl8 W8 rfl (own_lt (own_mk p2).1 (own_mk p2).2.1)
      rw [own_mkB hp0 hp1 hA] at q
      exact q
    have F10 : OMem Z h8 c0 0 f := OMem_c0.other W8 ne_c0_c1
    have Mo8 : OMem Z h8 c0 0 (own_set f p2.toNatClampNeg p3) := F10.congr (fun i hi => (own_s2 f p3 (by have := own_mkB hp0 hp1 hA; omega)).symm)
    refine own_go (b := (T8.setTop (mkF m 15 #[.val (.ref a1), .val (.int p2), .val (.int p3)] []))) (fun _ k => st8 _ k) ?_
    have K11 : Keep h0 h8 [c0, c1] := (Keep.refl h0 [c0, c1]).wr W8 (Or.inl (List.mem_of_getElem? (i := 1) rfl))
    obtain ⟨fs, hr, hrun, hended, hW, hsame⟩ := X8.leave (v := none) (fun _ => rfl)
    exact ⟨_, _, X8.returnOut hx Bd.returns (hb hby d6_15) hr, hrun, hended, _, _, rfl, (show Qrm6 Z a1 p2 p3 bl kb c0 c1 f h0 n0 _ T8.heap _ from (by rw [e8]; exact ⟨rfl, N8, K11, Mo8, M8⟩)), ⟨_, rfl⟩, hW, hsame.mono (by decide) (by decide)⟩
theorem d8_0 : decode prog_29_method_3_code 0 = .ok (.aload_n 0, 1) := by decide +kernel
theorem d8_1 : decode prog_29_method_3_code 1 = .ok (.getfield 11, 3) := by decide +kernel
theorem d8_4 : decode prog_29_method_3_code 4 = .ok (.iload_n 1, 1) := by decide +kernel
theorem d8_5 : decode prog_29_method_3_code 5 = .ok (.bipush 16, 2) := by decide +kernel
theorem d8_7 : decode prog_29_method_3_code 7 = .ok (.iushr, 1) := by decide +kernel
theorem d8_8 : decode prog_29_method_3_code 8 = .ok (.aaload, 1) := by decide +kernel
theorem d8_9 : decode prog_29_method_3_code 9 = .ok (.iload_n 1, 1) := by decide +kernel
theorem d8_10 : decode prog_29_method_3_code 10 = .ok (.ldc 19, 2) := by decide +kernel
theorem d8_12 : decode prog_29_method_3_code 12 = .ok (.iand, 1) := by decide +kernel
theorem d8_13 : decode prog_29_method_3_code 13 = .ok (.iaload, 1) := by decide +kernel
theorem d8_14 : decode prog_29_method_3_code 14 = .ok (.ireturn, 1) := by decide +kernel
theorem pn_8 : plainName "com/example/arcwright/arcwright/parser/IntBlocks" = true := by first | (simp [plainName, overriddenIn]; done) | decide +kernel
theorem ef_rm8 (m : MethodId) (x0 : Addr) (x1 : Int32) : entryFrame m #[(.ref x0), (.int x1)] 2 = mkF m 0 #[.val (.ref x0), .val (.int x1)] [] := by first | (simp [entryFrame, mkF, argsToLocals, Value.category]; done) | rfl
def Qrm8 (Z : State) (a1 : Addr) (p2 : Int32) (bl : Addr) (kb : ClassId) (c0 : Addr) (c1 : Addr) (f : Nat → Int32) (h0 : Heap) (n0 : Nat) (v : Option Value) (h : Heap) (L : List Loc) : Prop := v = some (.int (f p2.toNatClampNeg)) ∧ Fr n0 L ∧ h = h0
set_option maxRecDepth 65536 in
set_option maxHeartbeats 40000000 in
theorem rm8 (l : Launch) (Z : State) (a0 : Array Value) (hw : ∀ d ∈ tables_1, d.before a0 Z = true) (ws : List Jvm.Cond) (a1 : Addr) (p2 : Int32) (bl : Addr) (kb : ClassId) (c0 : Addr) (c1 : Addr) (f : Nat → Int32) (h0 : Heap) (n0 : Nat) (Z0 : n0 ≤ h0.size) (E_a1 : Exa Z h0 a1 "com/example/arcwright/arcwright/parser/IntBlocks") (Fld_a1_blocks : Fld Z h0 a1 "com/example/arcwright/arcwright/parser/IntBlocks" "blocks" "[[I" (.ref bl)) (V_bl : Arv Z h0 bl kb (.array .int) (16 : Int32) [(.ref c0), (.ref c1), .null, .null, .null, .null, .null, .null, .null, .null, .null, .null, .null, .null, .null, .null] .null) (OMem_c0 : OMem Z h0 c0 0 f) (OMem_c1 : OMem Z h0 c1 65536 f) (hp0 : ¬ (p2 < (0 : Int32))) (hp1 : p2 < (65540 : Int32)) :
    MetFree l (⟨"com/example/arcwright/arcwright/parser/IntBlocks", "get", "(I)I"⟩ : MethodName) (head1 (Jvm.Cond.code (⟨"com/example/arcwright/arcwright/parser/IntBlocks", "get", "(I)I"⟩ : MethodName) prog_29_method_3_code 2 (some .int) :: ws) ({ frames := 0, cells := 0, slots := 0, locals := 0 } : Room)) (fun a U => a = #[(.ref a1), (.int p2)] ∧ Z.Warmed39 U.vm ∧ U.heap = h0) (fun _ _ _ _ _ => True) (fun _ U o U' => ∃ v L, o = .returned v ∧ Qrm8 Z a1 p2 bl kb c0 c1 f h0 n0 v U'.heap L ∧ FrameEnd U o U' L ({ frames := 0, cells := 0, slots := 0, locals := 0 } : Room).cells ({ frames := 0, cells := 0, slots := 0, locals := 0 } : Room).slots) := by
  refine MetFree.of_bodySF (plainFor_of_name pn_8) hisR ?_
  intro p e s m args below meth c s₁ Bd hml0 hP hK
  obtain ⟨rfl, hZ, hh⟩ := hP
  have hx := Bd.exec
  have hby := Bd.bytes
  have hml : c.maxLocals = 2 := hml0
  have hown : s.vm.findClass "com/example/arcwright/arcwright/parser/IntBlocks" = some m.cls := findClass_of_methodNamed Bd.named
  have hnm := (name_of_methodNamed Bd.named Bd.method).1
  have X0 : Stand p l e ({ frames := 0, cells := 0, slots := 0, locals := 0 } : Room) s m #[(.ref a1), (.int p2)] below meth c s₁ [] 0 0 := Stand.of_body Bd
  have e0 : s₁.heap = h0 := by rw [← hh, Bd.state]; rfl
  have N0 := Fr.nil n0
  refine own_go (b := (s₁.setTop (mkF m 0 #[.val (.ref a1), .val (.int p2)] []))) (fun _ k => castTop (ef_rm8 m a1 p2) k) ?_
  refine own_go (b := (s₁.setTop (mkF m 1 #[.val (.ref a1), .val (.int p2)] [(.ref a1)]))) (fun _ k => XS.aloadN X0.here hx rfl (hb hby d8_0) rfl rfl k) ?_
  obtain ⟨T1, X1, e1, st1⟩ := getF X0 hx hZ hown (host := "") (Or.inl (hw _ (List.mem_of_getElem? (i := 13) rfl))) Via.refl e0 Fld_a1_blocks (g := (mkF m 1 #[.val (.ref a1), .val (.int p2)] [(.ref a1)])) rfl rfl (hb hby d8_1)
  refine own_go (b := (T1.setTop (mkF m 8 #[.val (.ref a1), .val (.int p2)] [(.int ((p2.toUInt32 >>> ((16 : Int32) &&& 31).toUInt32).toInt32)), (.ref bl)]))) (fun _ k => st1 _ (XS.iloadN X1.here hx rfl (hb hby d8_4) rfl (XS.bipush X1.here hx rfl (hb hby d8_5) (XS.iushr X1.here hx rfl (hb hby d8_7) rfl k)))) ?_
  by_cases hA : p2 < (65536 : Int32)
  · skip
    rw [own_shA hp0 hA]
    obtain ⟨cl2, Ar2, ql2, Sz2, Nn2, Hl2, Gl2⟩ := id V_bl
    have hin2 : ¬ ((0 : Int32) < 0 ∨ cl2.slots.size ≤ ((0 : Int32)).toNatClampNeg) := inb_of Sz2 ⟨by decide, by decide⟩
    refine own_go (b := (T1.setTop (mkF m 13 #[.val (.ref a1), .val (.int p2)] [(.int (p2 &&& (65535 : Int32))), (.ref c0)]))) (fun _ k => X1.aaload hx (j := (0 : Int32)) (v := (.ref c0)) (by rw [e1]; exact Ar2.1) (State.isArrayOf_alike hZ.alike Ar2.2.1) rfl Ar2.2.2 hin2 (Hl2.at hin2 rfl) (g := (mkF m 8 #[.val (.ref a1), .val (.int p2)] [(.int (0 : Int32)), (.ref bl)])) rfl rfl (hb hby d8_8) _ (XS.iloadN X1.here hx rfl (hb hby d8_9) rfl (X1.ldcInt hx hown (mvT hZ (hw _ (List.mem_of_getElem? (i := 22) rfl))) (g := (mkF m 10 #[.val (.ref a1), .val (.int p2)] [(.int p2), (.ref c0)])) rfl (hb hby d8_10) _ (XS.iand X1.here hx rfl (hb hby d8_12) rfl k)))) ?_
    obtain ⟨cl3, Ar3, Sz3, Hl3⟩ := id OMem_c0
    have hv3 : cl3.slots[((p2 &&& (65535 : Int32))).toNatClampNeg]? = some (.int (f p2.toNatClampNeg)) := by
      rw [Hl3 _ (own_lt (own_mk p2).1 (own_mk p2).2.1)]
      rw [Nat.zero_add, own_mkA hp0 hA]
    refine own_go (b := (T1.setTop (mkF m 14 #[.val (.ref a1), .val (.int p2)] [(.int (f p2.toNatClampNeg))]))) (fun _ k => X1.iaload hx (j := (p2 &&& (65535 : Int32))) (v := (.int (f p2.toNatClampNeg))) (by rw [e1]; exact Ar3.1) (State.isArrayOf_alike hZ.alike Ar3.2.1) Ar3.2.2 (own_in Sz3 p2) hv3 (g := (mkF m 13 #[.val (.ref a1), .val (.int p2)] [(.int (p2 &&& (65535 : Int32))), (.ref c0)])) rfl rfl (hb hby d8_13) _ k) ?_
    obtain ⟨fs, hr, hrun, hended, hW, hsame⟩ := X1.leave (v := some (.int (f p2.toNatClampNeg))) (fun h => by rw [Bd.returns] at h; cases h)
    exact ⟨_, _, retOut X1 hx Bd.returns rfl (Or.inl ⟨rfl, Or.inl rfl, _, rfl⟩) (hb hby d8_14) hr, hrun, hended, _, _, rfl, (show Qrm8 Z a1 p2 bl kb c0 c1 f h0 n0 _ T1.heap _ from (by rw [e1]; exact ⟨rfl, N0, rfl⟩)), ⟨_, rfl⟩, hW, hsame.mono (by decide) (by decide)⟩
  · skip
    rw [own_shB hp0 hp1 hA]
    obtain ⟨cl4, Ar4, ql4, Sz4, Nn4, Hl4, Gl4⟩ := id V_bl
    have hin4 : ¬ ((1 : Int32) < 0 ∨ cl4.slots.size ≤ ((1 : Int32)).toNatClampNeg) := inb_of Sz4 ⟨by decide, by decide⟩
    refine own_go (b := (T1.setTop (mkF m 13 #[.val (.ref a1), .val (.int p2)] [(.int (p2 &&& (65535 : Int32))), (.ref c1)]))) (fun _ k => X1.aaload hx (j := (1 : Int32)) (v := (.ref c1)) (by rw [e1]; exact Ar4.1) (State.isArrayOf_alike hZ.alike Ar4.2.1) rfl Ar4.2.2 hin4 (Hl4.at hin4 rfl) (g := (mkF m 8 #[.val (.ref a1), .val (.int p2)] [(.int (1 : Int32)), (.ref bl)])) rfl rfl (hb hby d8_8) _ (XS.iloadN X1.here hx rfl (hb hby d8_9) rfl (X1.ldcInt hx hown (mvT hZ (hw _ (List.mem_of_getElem? (i := 22) rfl))) (g := (mkF m 10 #[.val (.ref a1), .val (.int p2)] [(.int p2), (.ref c1)])) rfl (hb hby d8_10) _ (XS.iand X1.here hx rfl (hb hby d8_12) rfl k)))) ?_
    obtain ⟨cl5, Ar5, Sz5, Hl5⟩ := id OMem_c1
    have hv5 : cl5.slots[((p2 &&& (65535 : Int32))).toNatClampNeg]? = some (.int (f p2.toNatClampNeg)) := by
      rw [Hl5 _ (own_lt (own_mk p2).1 (own_mk p2).2.1)]
      rw [own_mkB hp0 hp1 hA]
    refine own_go (b := (T1.setTop (mkF m 14 #[.val (.ref a1), .val (.int p2)] [(.int (f p2.toNatClampNeg))]))) (fun _ k => X1.iaload hx (j := (p2 &&& (65535 : Int32))) (v := (.int (f p2.toNatClampNeg))) (by rw [e1]; exact Ar5.1) (State.isArrayOf_alike hZ.alike Ar5.2.1) Ar5.2.2 (own_in Sz5 p2) hv5 (g := (mkF m 13 #[.val (.ref a1), .val (.int p2)] [(.int (p2 &&& (65535 : Int32))), (.ref c1)])) rfl rfl (hb hby d8_13) _ k) ?_
    obtain ⟨fs, hr, hrun, hended, hW, hsame⟩ := X1.leave (v := some (.int (f p2.toNatClampNeg))) (fun h => by rw [Bd.returns] at h; cases h)
    exact ⟨_, _, retOut X1 hx Bd.returns rfl (Or.inl ⟨rfl, Or.inl rfl, _, rfl⟩) (hb hby d8_14) hr, hrun, hended, _, _, rfl, (show Qrm8 Z a1 p2 bl kb c0 c1 f h0 n0 _ T1.heap _ from (by rw [e1]; exact ⟨rfl, N0, rfl⟩)), ⟨_, rfl⟩, hW, hsame.mono (by decide) (by decide)⟩
theorem d7_0 : decode prog_29_method_2_code 0 = .ok (.aload_n 0, 1) := by decide +kernel
theorem d7_1 : decode prog_29_method_2_code 1 = .ok (.getfield 15, 3) := by decide +kernel
theorem d7_4 : decode prog_29_method_2_code 4 = .ok (.ireturn, 1) := by decide +kernel
theorem pn_7 : plainName "com/example/arcwright/arcwright/parser/IntBlocks" = true := by first | (simp [plainName, overriddenIn]; done) | decide +kernel
theorem ef_rm7 (m : MethodId) (x0 : Addr) : entryFrame m #[(.ref x0)] 1 = mkF m 0 #[.val (.ref x0)] [] := by first | (simp [entryFrame, mkF, argsToLocals, Value.category]; done) | rfl
def Qrm7 (Z : State) (a1 : Addr) (x2 : Int32) (h0 : Heap) (n0 : Nat) (v : Option Value) (h : Heap) (L : List Loc) : Prop := v = some (.int x2) ∧ Fr n0 L ∧ h = h0
set_option maxRecDepth 65536 in
set_option maxHeartbeats 40000000 in
theorem rm7 (l : Launch) (Z : State) (a0 : Array Value) (hw : ∀ d ∈ tables_1, d.before a0 Z = true) (ws : List Jvm.Cond) (a1 : Addr) (x2 : Int32) (h0 : Heap) (n0 : Nat) (Z0 : n0 ≤ h0.size) (Fld_a1_size : Fld Z h0 a1 "com/example/arcwright/arcwright/parser/IntBlocks" "size" "I" (.int x2)) :
    MetFree l (⟨"com/example/arcwright/arcwright/parser/IntBlocks", "size", "()I"⟩ : MethodName) (head1 (Jvm.Cond.code (⟨"com/example/arcwright/arcwright/parser/IntBlocks", "size", "()I"⟩ : MethodName) prog_29_method_2_code 1 (some .int) :: ws) ({ frames := 0, cells := 0, slots := 0, locals := 0 } : Room)) (fun a U => a = #[(.ref a1)] ∧ Z.Warmed39 U.vm ∧ U.heap = h0) (fun _ _ _ _ _ => True) (fun _ U o U' => ∃ v L, o = .returned v ∧ Qrm7 Z a1 x2 h0 n0 v U'.heap L ∧ FrameEnd U o U' L ({ frames := 0, cells := 0, slots := 0, locals := 0 } : Room).cells ({ frames := 0, cells := 0, slots := 0, locals := 0 } : Room).slots) := by
  refine MetFree.of_bodySF (plainFor_of_name pn_7) hisR ?_
  intro p e s m args below meth c s₁ Bd hml0 hP hK
  obtain ⟨rfl, hZ, hh⟩ := hP
  have hx := Bd.exec
  have hby := Bd.bytes
  have hml : c.maxLocals = 1 := hml0
  have hown : s.vm.findClass "com/example/arcwright/arcwright/parser/IntBlocks" = some m.cls := findClass_of_methodNamed Bd.named
  have hnm := (name_of_methodNamed Bd.named Bd.method).1
  have X0 : Stand p l e ({ frames := 0, cells := 0, slots := 0, locals := 0 } : Room) s m #[(.ref a1)] below meth c s₁ [] 0 0 := Stand.of_body Bd
  have e0 : s₁.heap = h0 := by rw [← hh, Bd.state]; rfl
  have N0 := Fr.nil n0
  refine own_go (b := (s₁.setTop (mkF m 0 #[.val (.ref a1)] []))) (fun _ k => castTop (ef_rm7 m a1) k) ?_
  refine own_go (b := (s₁.setTop (mkF m 1 #[.val (.ref a1)] [(.ref a1)]))) (fun _ k => XS.aloadN X0.here hx rfl (hb hby d7_0) rfl rfl k) ?_
  obtain ⟨T1, X1, e1, st1⟩ := getF X0 hx hZ hown (host := "") (Or.inl (hw _ (List.mem_of_getElem? (i := 20) rfl))) Via.refl e0 Fld_a1_size (g := (mkF m 1 #[.val (.ref a1)] [(.ref a1)])) rfl rfl (hb hby d7_1)
  refine own_go (b := (T1.setTop (mkF m 4 #[.val (.ref a1)] [(.int x2)]))) (fun _ k => st1 _ k) ?_
  obtain ⟨fs, hr, hrun, hended, hW, hsame⟩ := X1.leave (v := some (.int x2)) (fun h => by rw [Bd.returns] at h; cases h)
  exact ⟨_, _, retOut X1 hx Bd.returns rfl (Or.inl ⟨rfl, Or.inl rfl, _, rfl⟩) (hb hby d7_4) hr, hrun, hended, _, _, rfl, (show Qrm7 Z a1 x2 h0 n0 _ T1.heap _ from (by rw [e1]; exact ⟨rfl, N0, rfl⟩)), ⟨_, rfl⟩, hW, hsame.mono (by decide) (by decide)⟩
theorem pd___V : parseMethodDescriptor "()V" = some ⟨[], none⟩ := by decide +kernel
theorem pd___III_V : parseMethodDescriptor "([III)V" = some ⟨[(.array .int), .int, .int], none⟩ := by decide +kernel
theorem pd__II_V : parseMethodDescriptor "(II)V" = some ⟨[.int, .int], none⟩ := by decide +kernel
theorem pd___I : parseMethodDescriptor "()I" = some ⟨[], some .int⟩ := by decide +kernel
theorem pd__I_I : parseMethodDescriptor "(I)I" = some ⟨[.int], some .int⟩ := by decide +kernel
theorem pn_0 : plainName "com/example/arcwright/arcwright/parser/IntBlocksSetPinLaw" = true := by first | (simp [plainName, overriddenIn]; done) | decide +kernel
theorem ef_rm0 (m : MethodId) (x0 : Int32) (x1 : Int32) (x2 : Int32) (x3 : Int32) (x4 : Int32) : entryFrame m #[(.int x0), (.int x1), (.int x2), (.int x3), (.int x4)] maxLocals = mkF m 0 #[.val (.int x0), .val (.int x1), .val (.int x2), .val (.int x3), .val (.int x4), .unset, .unset, .unset, .unset, .unset, .unset, .unset, .unset, .unset] [] := by first | (simp [entryFrame, mkF, argsToLocals, Value.category, maxLocals]; done) | rfl
def Qrm0 (Z : State) (p0 : Int32) (p1 : Int32) (p2 : Int32) (p3 : Int32) (p4 : Int32) (h0 : Heap) (n0 : Nat) (v : Option Value) (h : Heap) (L : List Loc) : Prop := v = some (.int (1 : Int32)) ∧ Fr n0 L
set_option maxRecDepth 65536 in
set_option maxHeartbeats 40000000 in
theorem rm0 (l : Launch) (Z : State) (a0 : Array Value) (hw : ∀ d ∈ tables_1, d.before a0 Z = true) (ws : List Jvm.Cond) (p0 : Int32) (p1 : Int32) (p2 : Int32) (p3 : Int32) (p4 : Int32) (h0 : Heap) (n0 : Nat) (Z0 : n0 ≤ h0.size) :
    MetFree l x (head1 (Jvm.Cond.code x code maxLocals ret :: ws) room_1) (fun a U => a = #[(.int p0), (.int p1), (.int p2), (.int p3), (.int p4)] ∧ Z.Warmed39 U.vm ∧ U.heap = h0) (fun _ _ _ _ _ => True) (fun _ U o U' => ∃ v L, o = .returned v ∧ Qrm0 Z p0 p1 p2 p3 p4 h0 n0 v U'.heap L ∧ FrameEnd U o U' L room_1.cells room_1.slots) := by
  refine MetFree.of_bodySF (plainFor_of_name pn_0) hisR ?_
  intro p e s m args below meth c s₁ Bd hml0 hP hK
  obtain ⟨rfl, hZ, hh⟩ := hP
  have hx := Bd.exec
  have hby := Bd.bytes
  have hml : c.maxLocals = 14 := hml0
  have hown : s.vm.findClass "com/example/arcwright/arcwright/parser/IntBlocksSetPinLaw" = some m.cls := findClass_of_methodNamed Bd.named
  have hnm := (name_of_methodNamed Bd.named Bd.method).1
  have X0 : Stand p l e room_1 s m #[(.int p0), (.int p1), (.int p2), (.int p3), (.int p4)] below meth c s₁ [] 0 0 := Stand.of_body Bd
  have e0 : s₁.heap = h0 := by rw [← hh, Bd.state]; rfl
  have N0 := Fr.nil n0
  refine own_go (b := (s₁.setTop (mkF m 0 #[.val (.int p0), .val (.int p1), .val (.int p2), .val (.int p3), .val (.int p4), .unset, .unset, .unset, .unset, .unset, .unset, .unset, .unset, .unset] []))) (fun _ k => castTop (ef_rm0 m p0 p1 p2 p3 p4) k) ?_
  refine own_go (b := (s₁.setTop (mkF m 6 #[.val (.int p0), .val (.int p1), .val (.int p2), .val (.int p3), .val (.int p4), .val (.int (65540 : Int32)), .unset, .unset, .unset, .unset, .unset, .unset, .unset, .unset] [(.int (65540 : Int32))]))) (fun _ k => X0.ldcInt hx hown (mvT hZ (hw _ (List.mem_of_getElem? (i := 0) rfl))) (g := (mkF m 0 #[.val (.int p0), .val (.int p1), .val (.int p2), .val (.int p3), .val (.int p4), .unset, .unset, .unset, .unset, .unset, .unset, .unset, .unset, .unset] [])) rfl (hb hby at_0) _ (XS.istore X0.here hx rfl (hb hby at_2) rfl (l' := #[.val (.int p0), .val (.int p1), .val (.int p2), .val (.int p3), .val (.int p4), .val (.int (65540 : Int32)), .unset, .unset, .unset, .unset, .unset, .unset, .unset, .unset]) rfl (XS.iload X0.here hx rfl (hb hby at_4) rfl k))) ?_
  obtain ⟨T1, h1, kl1, X1, e1, E1, A1, st1⟩ := newP X0 hx hZ (hw _ (List.mem_of_getElem? (i := 1) rfl)) e0 (g := (mkF m 6 #[.val (.int p0), .val (.int p1), .val (.int p2), .val (.int p3), .val (.int p4), .val (.int (65540 : Int32)), .unset, .unset, .unset, .unset, .unset, .unset, .unset, .unset] [(.int (65540 : Int32))])) rfl (hb hby at_6) rfl (by decide) (cap := 65540) (by decide) (by decide) (by decide) (by decide)
  obtain ⟨b1, g1⟩ : ∃ z, z = h0.size := ⟨_, rfl⟩
  rw [← g1] at A1 st1
  have Zs2 : n0 ≤ h1.size := Nat.le_trans Z0 E1.1
  have V1 : Arv Z h1 b1 kl1 .int (65540 : Int32) [] (.int (0 : Int32)) := Arv.new A1 (by decide)
  refine own_go (b := (T1.setTop (mkF m 10 #[.val (.int p0), .val (.int p1), .val (.int p2), .val (.int p3), .val (.int p4), .val (.int (65540 : Int32)), .val (.ref b1), .unset, .unset, .unset, .unset, .unset, .unset, .unset] []))) (fun _ k => st1 _ (XS.astore X1.here hx rfl (hb hby at_8) rfl rfl (l' := #[.val (.int p0), .val (.int p1), .val (.int p2), .val (.int p3), .val (.int p4), .val (.int (65540 : Int32)), .val (.ref b1), .unset, .unset, .unset, .unset, .unset, .unset, .unset]) rfl k)) ?_
  obtain ⟨T3, h3, X3, e3, E3, A3, D3, -, st3⟩ := newO X1 hx hZ hown (hw _ (List.mem_of_getElem? (i := 2) rfl)) (hw _ (List.mem_of_getElem? (i := 3) rfl)) (hw _ (List.mem_of_getElem? (i := 4) rfl)) e1 (g := (mkF m 10 #[.val (.int p0), .val (.int p1), .val (.int p2), .val (.int p3), .val (.int p4), .val (.int (65540 : Int32)), .val (.ref b1), .unset, .unset, .unset, .unset, .unset, .unset, .unset] [])) rfl (hb hby at_10) (by decide) (by decide)
  obtain ⟨b3, g3⟩ : ∃ z, z = h1.size := ⟨_, rfl⟩
  rw [← g3] at A3 D3 st3
  have Zs4 : n0 ≤ h3.size := Nat.le_trans Zs2 E3.1
  have F3_blocks : Fld Z h3 b3 "com/example/arcwright/arcwright/parser/IntBlocks" "blocks" "[[I" .null := D3 (Or.inl (hw _ (List.mem_of_getElem? (i := 14) rfl))) (ty := (.array (.array .int))) (by decide)
  have F3_size : Fld Z h3 b3 "com/example/arcwright/arcwright/parser/IntBlocks" "size" "I" (.int (0 : Int32)) := D3 (Or.inl (hw _ (List.mem_of_getElem? (i := 21) rfl))) (ty := .int) (by decide)
  refine own_go (b := (T3.setTop (mkF m 14 #[.val (.int p0), .val (.int p1), .val (.int p2), .val (.int p3), .val (.int p4), .val (.int (65540 : Int32)), .val (.ref b1), .unset, .unset, .unset, .unset, .unset, .unset, .unset] [(.ref b3), (.ref b3)]))) (fun _ k => st3 _ (XS.dup X3.here hx rfl (hb hby at_13) rfl rfl k)) ?_
  obtain ⟨_, _, ⟨T5, Ll5, kz5, nz5⟩, -, X5, ⟨Lc5, hQ5, lz5, yz5, zz5⟩, st5⟩ := X3.specialBack hx (y := (⟨"com/example/arcwright/arcwright/parser/IntBlocks", "<init>", "()V"⟩ : MethodName)) rfl hown (mvT hZ (hw _ (List.mem_of_getElem? (i := 5) rfl))) (mvT hZ (hw _ (List.mem_of_getElem? (i := 6) rfl))) (mvT hZ (hw _ (List.mem_of_getElem? (i := 7) rfl))) (by decide) (backOf (W := 1) (rm1 l Z a0 hw [] b3 .null (0 : Int32) h3 n0 Zs4 A3 F3_blocks F3_size (Nat.le_trans Zs2 (Nat.le_of_eq g3.symm))) hZ (hw _ (List.mem_of_getElem? (i := 7) rfl)) (hw _ (List.mem_of_getElem? (i := 4) rfl)) (by decide) (by decide)) (g := (mkF m 14 #[.val (.int p0), .val (.int p1), .val (.int p2), .val (.int p3), .val (.int p4), .val (.int (65540 : Int32)), .val (.ref b1), .unset, .unset, .unset, .unset, .unset, .unset, .unset] [(.ref b3), (.ref b3)])) rfl (by rw [hml]; rfl) (Steps.refl _) (a := b3) (argsL := []) (rest := [(.ref b3)]) (lenOf pd___V rfl) rfl (by show 2 * 0 + _ ≤ _; exact Nat.le_of_eq rfl) (hb hby at_14) (fun _ _ => ⟨rfl, e3, (by decide : 2 + 1 ≤ _), (by decide : 65542 + 16 ≤ _)⟩)
  dsimp only [Pt.U, Pt.locs, Pt.cells, Pt.slots] at X5 lz5 yz5 zz5 st5 hQ5
  subst lz5 yz5 zz5
  obtain ⟨bl_5, kb_5, rfl, N5q, K5, P5_0, P5_1, P5_2, P5_3, P5_4, P5_5⟩ := hQ5
  have N5 := Fr.app N0 N5q
  have Zs6 : n0 ≤ T5.heap.size := Nat.le_trans Zs4 K5.1
  refine own_go (b := (T5.setTop (mkF m 26 #[.val (.int p0), .val (.int p1), .val (.int p2), .val (.int p3), .val (.int p4), .val (.int (65540 : Int32)), .val (.ref b1), .val (.ref b3), .unset, .unset, .unset, .unset, .unset, .unset] [(.int (65540 : Int32)), (.int (0 : Int32)), (.ref b1), (.ref b3)]))) (fun _ k => st5.trans (XS.astore X5.here hx rfl (hb hby at_17) rfl rfl (l' := #[.val (.int p0), .val (.int p1), .val (.int p2), .val (.int p3), .val (.int p4), .val (.int (65540 : Int32)), .val (.ref b1), .val (.ref b3), .unset, .unset, .unset, .unset, .unset, .unset]) rfl (XS.aload X5.here hx rfl (hb hby at_19) rfl rfl (XS.aload X5.here hx rfl (hb hby at_21) rfl rfl (XS.iconst X5.here hx rfl (hb hby at_23) (XS.iload X5.here hx rfl (hb hby at_24) rfl k)))))) ?_
  have F8 : Arv Z h3 b1 kl1 .int (65540 : Int32) [] (.int (0 : Int32)) := V1.ext E3
  have F9 : Arv Z T5.heap b1 kl1 .int (65540 : Int32) [] (.int (0 : Int32)) := F8.keep K5 (ninS (Nat.ne_of_lt (Nat.lt_of_lt_of_le V1.lt (Nat.le_trans (Nat.le_refl _) (Nat.le_of_eq g3.symm)))) nin0)
  obtain ⟨cq7, kq7, q7a, q7b, q7c⟩ := isOf hZ rfl P5_0
  obtain ⟨_, _, ⟨T7, Ll7, kz7, nz7⟩, -, X7, ⟨Lc7, hQ7, lz7, yz7, zz7⟩, st7⟩ := X5.virtualBack hx (y := (⟨"com/example/arcwright/arcwright/parser/IntBlocks", "add", "([III)V"⟩ : MethodName)) (z := (⟨"com/example/arcwright/arcwright/parser/IntBlocks", "add", "([III)V"⟩ : MethodName)) hown (mvT hZ (hw _ (List.mem_of_getElem? (i := 15) rfl))) (mvT hZ (hw _ (List.mem_of_getElem? (i := 16) rfl))) (notFace_of_selects (args := #[]) (mvT hZ (hw _ (List.mem_of_getElem? (i := 18) rfl)))) (mvT hZ (hw _ (List.mem_of_getElem? (i := 18) rfl))) (mvT hZ (hw _ (List.mem_of_getElem? (i := 17) rfl))) (by decide) (backOf (W := 0) (rm3 l Z a0 hw [] b3 b1 bl_5 kb_5 kl1 T5.heap n0 Zs6 P5_0 P5_2 P5_1 P5_4 P5_5 (Nat.le_trans Zs2 (Nat.le_of_eq g3.symm)) (Nat.le_trans Zs4 P5_3) F9 (Nat.ne_of_lt (Nat.lt_of_lt_of_le V1.lt (Nat.le_trans E3.1 P5_3)))) hZ (hw _ (List.mem_of_getElem? (i := 19) rfl)) (hw _ (List.mem_of_getElem? (i := 4) rfl)) (by decide) (by decide)) q7a q7c (g := (mkF m 26 #[.val (.int p0), .val (.int p1), .val (.int p2), .val (.int p3), .val (.int p4), .val (.int (65540 : Int32)), .val (.ref b1), .val (.ref b3), .unset, .unset, .unset, .unset, .unset, .unset] [(.int (65540 : Int32)), (.int (0 : Int32)), (.ref b1), (.ref b3)])) rfl (by rw [hml]; rfl) (Steps.refl _) (argsL := [(.ref b1), (.int (0 : Int32)), (.int (65540 : Int32))]) (rest := []) (lenOf pd___III_V rfl) rfl (by show 2 * 0 + _ ≤ _; exact Nat.le_of_eq rfl) (hb hby at_26) (fun _ _ => ⟨rfl, rfl, (by decide : 3 + 2 ≤ _), (by decide : 65558 + 131072 ≤ _)⟩)
  dsimp only [Pt.U, Pt.locs, Pt.cells, Pt.slots] at X7 lz7 yz7 zz7 st7 hQ7
  subst lz7 yz7 zz7
  obtain ⟨c0_7, k0_7, c1_7, k1_7, rfl, N7q, K7, P7_0, P7_1, P7_2, P7_3, P7_4, P7_5, P7_6, P7_7, P7_8⟩ := hQ7
  have N7 := Fr.app N5 N7q
  have Zs10 : n0 ≤ T7.heap.size := Nat.le_trans Zs6 K7.1
  refine own_go (b := (T7.setTop (mkF m 29 #[.val (.int p0), .val (.int p1), .val (.int p2), .val (.int p3), .val (.int p4), .val (.int (65540 : Int32)), .val (.ref b1), .val (.ref b3), .unset, .unset, .unset, .unset, .unset, .unset] []))) (fun _ k => st7.trans k) ?_
  have Mzc0_7 : OMem Z T7.heap c0_7 0 (fun _ => (0 : Int32)) := OMem.zero P7_7
  have Mzc1_7 : OMem Z T7.heap c1_7 65536 (fun _ => (0 : Int32)) := OMem.zero P7_8
  refine own_go (b := (T7.setTop (mkF m 44 #[.val (.int p0), .val (.int p1), .val (.int p2), .val (.int p3), .val (.int p4), .val (.int (65540 : Int32)), .val (.ref b1), .val (.ref b3), .val (.int (own_ix p0)), .unset, .unset, .unset, .unset, .unset] [(.int (65540 : Int32)), (.int (p1 &&& (2147483647 : Int32)))]))) (fun _ k => XS.iloadN X7.here hx rfl (hb hby at_29) rfl (X7.ldcInt hx hown (mvT hZ (hw _ (List.mem_of_getElem? (i := 37) rfl))) (g := (mkF m 30 #[.val (.int p0), .val (.int p1), .val (.int p2), .val (.int p3), .val (.int p4), .val (.int (65540 : Int32)), .val (.ref b1), .val (.ref b3), .unset, .unset, .unset, .unset, .unset, .unset] [(.int p0)])) rfl (hb hby at_30) _ (XS.iand X7.here hx rfl (hb hby at_32) rfl (XS.iload X7.here hx rfl (hb hby at_33) rfl (iremM (g := (mkF m 35 #[.val (.int p0), .val (.int p1), .val (.int p2), .val (.int p3), .val (.int p4), .val (.int (65540 : Int32)), .val (.ref b1), .val (.ref b3), .unset, .unset, .unset, .unset, .unset, .unset] [(.int (65540 : Int32)), (.int (p0 &&& (2147483647 : Int32)))])) X7 hx rfl (hb hby at_35) rfl (by decide) (XS.istore X7.here hx rfl (hb hby at_36) rfl (l' := #[.val (.int p0), .val (.int p1), .val (.int p2), .val (.int p3), .val (.int p4), .val (.int (65540 : Int32)), .val (.ref b1), .val (.ref b3), .val (.int (own_ix p0)), .unset, .unset, .unset, .unset, .unset]) rfl (XS.iloadN X7.here hx rfl (hb hby at_38) rfl (X7.ldcInt hx hown (mvT hZ (hw _ (List.mem_of_getElem? (i := 37) rfl))) (g := (mkF m 39 #[.val (.int p0), .val (.int p1), .val (.int p2), .val (.int p3), .val (.int p4), .val (.int (65540 : Int32)), .val (.ref b1), .val (.ref b3), .val (.int (own_ix p0)), .unset, .unset, .unset, .unset, .unset] [(.int p1)])) rfl (hb hby at_39) _ (XS.iand X7.here hx rfl (hb hby at_41) rfl (XS.iload X7.here hx rfl (hb hby at_42) rfl k)))))))))) ?_
  refine own_go (b := (T7.setTop (mkF m 60 #[.val (.int p0), .val (.int p1), .val (.int p2), .val (.int p3), .val (.int p4), .val (.int (65540 : Int32)), .val (.ref b1), .val (.ref b3), .val (.int (own_ix p0)), .val (.int (own_ix p1)), .val (.int (own_ix p2)), .unset, .unset, .unset] [(.int (own_ix p1)), (.ref b3)]))) (fun _ k => iremM (g := (mkF m 44 #[.val (.int p0), .val (.int p1), .val (.int p2), .val (.int p3), .val (.int p4), .val (.int (65540 : Int32)), .val (.ref b1), .val (.ref b3), .val (.int (own_ix p0)), .unset, .unset, .unset, .unset, .unset] [(.int (65540 : Int32)), (.int (p1 &&& (2147483647 : Int32)))])) X7 hx rfl (hb hby at_44) rfl (by decide) (XS.istore X7.here hx rfl (hb hby at_45) rfl (l' := #[.val (.int p0), .val (.int p1), .val (.int p2), .val (.int p3), .val (.int p4), .val (.int (65540 : Int32)), .val (.ref b1), .val (.ref b3), .val (.int (own_ix p0)), .val (.int (own_ix p1)), .unset, .unset, .unset, .unset]) rfl (XS.iloadN X7.here hx rfl (hb hby at_47) rfl (X7.ldcInt hx hown (mvT hZ (hw _ (List.mem_of_getElem? (i := 37) rfl))) (g := (mkF m 48 #[.val (.int p0), .val (.int p1), .val (.int p2), .val (.int p3), .val (.int p4), .val (.int (65540 : Int32)), .val (.ref b1), .val (.ref b3), .val (.int (own_ix p0)), .val (.int (own_ix p1)), .unset, .unset, .unset, .unset] [(.int p2)])) rfl (hb hby at_48) _ (XS.iand X7.here hx rfl (hb hby at_50) rfl (XS.iload X7.here hx rfl (hb hby at_51) rfl (iremM (g := (mkF m 53 #[.val (.int p0), .val (.int p1), .val (.int p2), .val (.int p3), .val (.int p4), .val (.int (65540 : Int32)), .val (.ref b1), .val (.ref b3), .val (.int (own_ix p0)), .val (.int (own_ix p1)), .unset, .unset, .unset, .unset] [(.int (65540 : Int32)), (.int (p2 &&& (2147483647 : Int32)))])) X7 hx rfl (hb hby at_53) rfl (by decide) (XS.istore X7.here hx rfl (hb hby at_54) rfl (l' := #[.val (.int p0), .val (.int p1), .val (.int p2), .val (.int p3), .val (.int p4), .val (.int (65540 : Int32)), .val (.ref b1), .val (.ref b3), .val (.int (own_ix p0)), .val (.int (own_ix p1)), .val (.int (own_ix p2)), .unset, .unset, .unset]) rfl (XS.aload X7.here hx rfl (hb hby at_56) rfl rfl (XS.iload X7.here hx rfl (hb hby at_58) rfl k)))))))))) ?_
  refine own_go (b := (T7.setTop (mkF m 62 #[.val (.int p0), .val (.int p1), .val (.int p2), .val (.int p3), .val (.int p4), .val (.int (65540 : Int32)), .val (.ref b1), .val (.ref b3), .val (.int (own_ix p0)), .val (.int (own_ix p1)), .val (.int (own_ix p2)), .unset, .unset, .unset] [(.int p4), (.int (own_ix p1)), (.ref b3)]))) (fun _ k => XS.iload X7.here hx rfl (hb hby at_60) rfl k) ?_
  obtain ⟨cq11, kq11, q11a, q11b, q11c⟩ := isOf hZ rfl P7_0
  obtain ⟨_, _, ⟨T11, Ll11, kz11, nz11⟩, -, X11, ⟨Lc11, hQ11, lz11, yz11, zz11⟩, st11⟩ := X7.virtualBack hx (y := (⟨"com/example/arcwright/arcwright/parser/IntBlocks", "set", "(II)V"⟩ : MethodName)) (z := (⟨"com/example/arcwright/arcwright/parser/IntBlocks", "set", "(II)V"⟩ : MethodName)) hown (mvT hZ (hw _ (List.mem_of_getElem? (i := 38) rfl))) (mvT hZ (hw _ (List.mem_of_getElem? (i := 39) rfl))) (notFace_of_selects (args := #[]) (mvT hZ (hw _ (List.mem_of_getElem? (i := 41) rfl)))) (mvT hZ (hw _ (List.mem_of_getElem? (i := 41) rfl))) (mvT hZ (hw _ (List.mem_of_getElem? (i := 40) rfl))) (by decide) (backOf (W := 0) (rm6 l Z a0 hw [] b3 (own_ix p1) p4 bl_5 kb_5 c0_7 c1_7 (fun _ => (0 : Int32)) T7.heap n0 Zs10 P7_0 P7_2 P7_6 Mzc0_7 Mzc1_7 (Nat.le_trans Zs6 P7_3) (Nat.le_trans Zs6 P7_4) P7_5 (own_ixb p1).1 (own_ixb p1).2) hZ (hw _ (List.mem_of_getElem? (i := 42) rfl)) (hw _ (List.mem_of_getElem? (i := 4) rfl)) (by decide) (by decide)) q11a q11c (g := (mkF m 62 #[.val (.int p0), .val (.int p1), .val (.int p2), .val (.int p3), .val (.int p4), .val (.int (65540 : Int32)), .val (.ref b1), .val (.ref b3), .val (.int (own_ix p0)), .val (.int (own_ix p1)), .val (.int (own_ix p2)), .unset, .unset, .unset] [(.int p4), (.int (own_ix p1)), (.ref b3)])) rfl (by rw [hml]; rfl) (Steps.refl _) (argsL := [(.int (own_ix p1)), (.int p4)]) (rest := []) (lenOf pd__II_V rfl) rfl (by show 2 * 0 + _ ≤ _; exact Nat.le_of_eq rfl) (hb hby at_62) (fun _ _ => ⟨rfl, rfl, (by decide : 5 + 0 ≤ _), (by decide : 196630 + 0 ≤ _)⟩)
  dsimp only [Pt.U, Pt.locs, Pt.cells, Pt.slots] at X11 lz11 yz11 zz11 st11 hQ11
  subst lz11 yz11 zz11
  obtain ⟨rfl, N11q, K11, P11_0, P11_1⟩ := hQ11
  have N11 := Fr.app N7 N11q
  have Zs12 : n0 ≤ T11.heap.size := Nat.le_trans Zs10 K11.1
  refine own_go (b := (T11.setTop (mkF m 70 #[.val (.int p0), .val (.int p1), .val (.int p2), .val (.int p3), .val (.int p4), .val (.int (65540 : Int32)), .val (.ref b1), .val (.ref b3), .val (.int (own_ix p0)), .val (.int (own_ix p1)), .val (.int (own_ix p2)), .unset, .unset, .unset] [(.int p3), (.int (own_ix p0)), (.ref b3)]))) (fun _ k => st11.trans (XS.aload X11.here hx rfl (hb hby at_65) rfl rfl (XS.iload X11.here hx rfl (hb hby at_67) rfl (XS.iloadN X11.here hx rfl (hb hby at_69) rfl k)))) ?_
  have F14 : Exa Z T11.heap b3 "com/example/arcwright/arcwright/parser/IntBlocks" := P7_0.keep K11
  have F15 : Fld Z T11.heap b3 "com/example/arcwright/arcwright/parser/IntBlocks" "blocks" "[[I" (.ref bl_5) := P7_2.keep K11 (ninS (Nat.ne_of_lt (Nat.lt_of_lt_of_le A3.lt (Nat.le_trans K5.1 P7_3))) (ninS (Nat.ne_of_lt (Nat.lt_of_lt_of_le A3.lt (Nat.le_trans K5.1 P7_4))) nin0))
  have F16 : Arv Z T11.heap bl_5 kb_5 (.array .int) (16 : Int32) [(.ref c0_7), (.ref c1_7), .null, .null, .null, .null, .null, .null, .null, .null, .null, .null, .null, .null, .null, .null] .null := P7_6.keep K11 (ninS (Nat.ne_of_lt (Nat.lt_of_lt_of_le P5_4.lt (Nat.le_trans (Nat.le_refl _) P7_3))) (ninS (Nat.ne_of_lt (Nat.lt_of_lt_of_le P5_4.lt (Nat.le_trans (Nat.le_refl _) P7_4))) nin0))
  obtain ⟨cq13, kq13, q13a, q13b, q13c⟩ := isOf hZ rfl F14
  obtain ⟨_, _, ⟨T13, Ll13, kz13, nz13⟩, -, X13, ⟨Lc13, hQ13, lz13, yz13, zz13⟩, st13⟩ := X11.virtualBack hx (y := (⟨"com/example/arcwright/arcwright/parser/IntBlocks", "set", "(II)V"⟩ : MethodName)) (z := (⟨"com/example/arcwright/arcwright/parser/IntBlocks", "set", "(II)V"⟩ : MethodName)) hown (mvT hZ (hw _ (List.mem_of_getElem? (i := 38) rfl))) (mvT hZ (hw _ (List.mem_of_getElem? (i := 39) rfl))) (notFace_of_selects (args := #[]) (mvT hZ (hw _ (List.mem_of_getElem? (i := 41) rfl)))) (mvT hZ (hw _ (List.mem_of_getElem? (i := 41) rfl))) (mvT hZ (hw _ (List.mem_of_getElem? (i := 40) rfl))) (by decide) (backOf (W := 0) (rm6 l Z a0 hw [] b3 (own_ix p0) p3 bl_5 kb_5 c0_7 c1_7 (own_set (fun _ => (0 : Int32)) (own_ix p1).toNatClampNeg p4) T11.heap n0 Zs12 F14 F15 F16 P11_0 P11_1 (Nat.le_trans Zs6 P7_3) (Nat.le_trans Zs6 P7_4) P7_5 (own_ixb p0).1 (own_ixb p0).2) hZ (hw _ (List.mem_of_getElem? (i := 42) rfl)) (hw _ (List.mem_of_getElem? (i := 4) rfl)) (by decide) (by decide)) q13a q13c (g := (mkF m 70 #[.val (.int p0), .val (.int p1), .val (.int p2), .val (.int p3), .val (.int p4), .val (.int (65540 : Int32)), .val (.ref b1), .val (.ref b3), .val (.int (own_ix p0)), .val (.int (own_ix p1)), .val (.int (own_ix p2)), .unset, .unset, .unset] [(.int p3), (.int (own_ix p0)), (.ref b3)])) rfl (by rw [hml]; rfl) (Steps.refl _) (argsL := [(.int (own_ix p0)), (.int p3)]) (rest := []) (lenOf pd__II_V rfl) rfl (by show 2 * 0 + _ ≤ _; exact Nat.le_of_eq rfl) (hb hby at_70) (fun _ _ => ⟨rfl, rfl, (by decide : 5 + 0 ≤ _), (by decide : 196630 + 0 ≤ _)⟩)
  dsimp only [Pt.U, Pt.locs, Pt.cells, Pt.slots] at X13 lz13 yz13 zz13 st13 hQ13
  subst lz13 yz13 zz13
  obtain ⟨rfl, N13q, K13, P13_0, P13_1⟩ := hQ13
  have N13 := Fr.app N11 N13q
  have Zs17 : n0 ≤ T13.heap.size := Nat.le_trans Zs12 K13.1
  refine own_go (b := (T13.setTop (mkF m 75 #[.val (.int p0), .val (.int p1), .val (.int p2), .val (.int p3), .val (.int p4), .val (.int (65540 : Int32)), .val (.ref b1), .val (.ref b3), .val (.int (own_ix p0)), .val (.int (own_ix p1)), .val (.int (own_ix p2)), .unset, .unset, .unset] [(.ref b3)]))) (fun _ k => st13.trans (XS.aload X13.here hx rfl (hb hby at_73) rfl rfl k)) ?_
  have F19 : Fld Z T11.heap b3 "com/example/arcwright/arcwright/parser/IntBlocks" "size" "I" (.int (65540 : Int32)) := P7_1.keep K11 (ninS (Nat.ne_of_lt (Nat.lt_of_lt_of_le A3.lt (Nat.le_trans K5.1 P7_3))) (ninS (Nat.ne_of_lt (Nat.lt_of_lt_of_le A3.lt (Nat.le_trans K5.1 P7_4))) nin0))
  have F20 : Fld Z T13.heap b3 "com/example/arcwright/arcwright/parser/IntBlocks" "size" "I" (.int (65540 : Int32)) := F19.keep K13 (ninS (Nat.ne_of_lt (Nat.lt_of_lt_of_le A3.lt (Nat.le_trans K5.1 P7_3))) (ninS (Nat.ne_of_lt (Nat.lt_of_lt_of_le A3.lt (Nat.le_trans K5.1 P7_4))) nin0))
  have F21 : Exa Z T13.heap b3 "com/example/arcwright/arcwright/parser/IntBlocks" := F14.keep K13
  obtain ⟨cq18, kq18, q18a, q18b, q18c⟩ := isOf hZ rfl F21
  obtain ⟨_, _, ⟨T18, Ll18, kz18, nz18⟩, -, X18, ⟨Lc18, hQ18, lz18, yz18, zz18⟩, st18⟩ := X13.virtualBack hx (y := (⟨"com/example/arcwright/arcwright/parser/IntBlocks", "size", "()I"⟩ : MethodName)) (z := (⟨"com/example/arcwright/arcwright/parser/IntBlocks", "size", "()I"⟩ : MethodName)) hown (mvT hZ (hw _ (List.mem_of_getElem? (i := 43) rfl))) (mvT hZ (hw _ (List.mem_of_getElem? (i := 44) rfl))) (notFace_of_selects (args := #[]) (mvT hZ (hw _ (List.mem_of_getElem? (i := 46) rfl)))) (mvT hZ (hw _ (List.mem_of_getElem? (i := 46) rfl))) (mvT hZ (hw _ (List.mem_of_getElem? (i := 45) rfl))) (by decide) (backOf (W := 0) (rm7 l Z a0 hw [] b3 (65540 : Int32) T13.heap n0 Zs17 F20) hZ (hw _ (List.mem_of_getElem? (i := 47) rfl)) (hw _ (List.mem_of_getElem? (i := 4) rfl)) (by decide) (by decide)) q18a q18c (g := (mkF m 75 #[.val (.int p0), .val (.int p1), .val (.int p2), .val (.int p3), .val (.int p4), .val (.int (65540 : Int32)), .val (.ref b1), .val (.ref b3), .val (.int (own_ix p0)), .val (.int (own_ix p1)), .val (.int (own_ix p2)), .unset, .unset, .unset] [(.ref b3)])) rfl (by rw [hml]; rfl) (Steps.refl _) (argsL := []) (rest := []) (lenOf pd___I rfl) rfl (by show 2 * 0 + _ ≤ _; exact Nat.le_of_eq rfl) (hb hby at_75) (fun _ _ => ⟨rfl, rfl, (by decide : 5 + 0 ≤ _), (by decide : 196630 + 0 ≤ _)⟩)
  dsimp only [Pt.U, Pt.locs, Pt.cells, Pt.slots] at X18 lz18 yz18 zz18 st18 hQ18
  subst lz18 yz18 zz18
  obtain ⟨rfl, N18q, eh18⟩ := hQ18
  have N18 := Fr.app N13 N18q
  refine own_go (b := (T18.setTop (mkF m 99 #[.val (.int p0), .val (.int p1), .val (.int p2), .val (.int p3), .val (.int p4), .val (.int (65540 : Int32)), .val (.ref b1), .val (.ref b3), .val (.int (own_ix p0)), .val (.int (own_ix p1)), .val (.int (own_ix p2)), .val (.int (1 : Int32)), .unset, .unset] [(.int (own_ix p0)), (.ref b3)]))) (fun _ k => st18.trans (XS.iload X18.here hx rfl (hb hby at_78) rfl (XS.icmpNo X18.here hx rfl (hb hby at_80) rfl (teq (rfl : (65540 : Int32) = (65540 : Int32))).2 (XS.iconst X18.here hx rfl (hb hby at_83) (XS.goto X18.here hx rfl (pc0 := 84) (pc' := 88) rfl (hb hby at_84) (by decide) (by decide) (XS.istore X18.here hx rfl (hb hby at_88) rfl (l' := #[.val (.int p0), .val (.int p1), .val (.int p2), .val (.int p3), .val (.int p4), .val (.int (65540 : Int32)), .val (.ref b1), .val (.ref b3), .val (.int (own_ix p0)), .val (.int (own_ix p1)), .val (.int (own_ix p2)), .val (.int (1 : Int32)), .unset, .unset]) rfl (XS.iload X18.here hx rfl (hb hby at_90) rfl (XS.ifNo X18.here hx rfl (hb hby at_92) rfl ((if0 _ _).trans (feq (by decide : ¬ ((1 : Int32) = (0 : Int32)))).1) (XS.aload X18.here hx rfl (hb hby at_95) rfl rfl (XS.iload X18.here hx rfl (hb hby at_97) rfl k)))))))))) ?_
  have F23 : Fld Z T13.heap b3 "com/example/arcwright/arcwright/parser/IntBlocks" "blocks" "[[I" (.ref bl_5) := F15.keep K13 (ninS (Nat.ne_of_lt (Nat.lt_of_lt_of_le A3.lt (Nat.le_trans K5.1 P7_3))) (ninS (Nat.ne_of_lt (Nat.lt_of_lt_of_le A3.lt (Nat.le_trans K5.1 P7_4))) nin0))
  have F24 : Arv Z T13.heap bl_5 kb_5 (.array .int) (16 : Int32) [(.ref c0_7), (.ref c1_7), .null, .null, .null, .null, .null, .null, .null, .null, .null, .null, .null, .null, .null, .null] .null := F16.keep K13 (ninS (Nat.ne_of_lt (Nat.lt_of_lt_of_le P5_4.lt (Nat.le_trans (Nat.le_refl _) P7_3))) (ninS (Nat.ne_of_lt (Nat.lt_of_lt_of_le P5_4.lt (Nat.le_trans (Nat.le_refl _) P7_4))) nin0))
  obtain ⟨cq22, kq22, q22a, q22b, q22c⟩ := isOf hZ eh18 F21
  obtain ⟨_, _, ⟨T22, Ll22, kz22, nz22⟩, -, X22, ⟨Lc22, hQ22, lz22, yz22, zz22⟩, st22⟩ := X18.virtualBack hx (y := (⟨"com/example/arcwright/arcwright/parser/IntBlocks", "get", "(I)I"⟩ : MethodName)) (z := (⟨"com/example/arcwright/arcwright/parser/IntBlocks", "get", "(I)I"⟩ : MethodName)) hown (mvT hZ (hw _ (List.mem_of_getElem? (i := 48) rfl))) (mvT hZ (hw _ (List.mem_of_getElem? (i := 49) rfl))) (notFace_of_selects (args := #[]) (mvT hZ (hw _ (List.mem_of_getElem? (i := 51) rfl)))) (mvT hZ (hw _ (List.mem_of_getElem? (i := 51) rfl))) (mvT hZ (hw _ (List.mem_of_getElem? (i := 50) rfl))) (by decide) (backOf (W := 0) (rm8 l Z a0 hw [] b3 (own_ix p0) bl_5 kb_5 c0_7 c1_7 (own_set (own_set (fun _ => (0 : Int32)) (own_ix p1).toNatClampNeg p4) (own_ix p0).toNatClampNeg p3) T13.heap n0 Zs17 F21 F23 F24 P13_0 P13_1 (own_ixb p0).1 (own_ixb p0).2) hZ (hw _ (List.mem_of_getElem? (i := 52) rfl)) (hw _ (List.mem_of_getElem? (i := 4) rfl)) (by decide) (by decide)) q22a q22c (g := (mkF m 99 #[.val (.int p0), .val (.int p1), .val (.int p2), .val (.int p3), .val (.int p4), .val (.int (65540 : Int32)), .val (.ref b1), .val (.ref b3), .val (.int (own_ix p0)), .val (.int (own_ix p1)), .val (.int (own_ix p2)), .val (.int (1 : Int32)), .unset, .unset] [(.int (own_ix p0)), (.ref b3)])) rfl (by rw [hml]; rfl) (Steps.refl _) (argsL := [(.int (own_ix p0))]) (rest := []) (lenOf pd__I_I rfl) rfl (by show 2 * 0 + _ ≤ _; exact Nat.le_of_eq rfl) (hb hby at_99) (fun _ _ => ⟨rfl, eh18, (by decide : 5 + 0 ≤ _), (by decide : 196630 + 0 ≤ _)⟩)
  dsimp only [Pt.U, Pt.locs, Pt.cells, Pt.slots] at X22 lz22 yz22 zz22 st22 hQ22
  subst lz22 yz22 zz22
  obtain ⟨rfl, N22q, eh22⟩ := hQ22
  have N22 := Fr.app N18 N22q
  refine own_go (b := (T22.setTop (mkF m 117 #[.val (.int p0), .val (.int p1), .val (.int p2), .val (.int p3), .val (.int p4), .val (.int (65540 : Int32)), .val (.ref b1), .val (.ref b3), .val (.int (own_ix p0)), .val (.int (own_ix p1)), .val (.int (own_ix p2)), .val (.int (1 : Int32)), .unset, .unset] [(.int (own_ix p0)), (.int (own_ix p1))]))) (fun _ k => st22.trans (XS.iloadN X22.here hx rfl (hb hby at_102) rfl (XS.icmpNo X22.here hx rfl (hb hby at_103) rfl (teq (own_s1 _ _ _)).2 (XS.iconst X22.here hx rfl (hb hby at_106) (XS.goto X22.here hx rfl (pc0 := 107) (pc' := 111) rfl (hb hby at_107) (by decide) (by decide) (XS.istore X22.here hx rfl (hb hby at_111) rfl (l' := #[.val (.int p0), .val (.int p1), .val (.int p2), .val (.int p3), .val (.int p4), .val (.int (65540 : Int32)), .val (.ref b1), .val (.ref b3), .val (.int (own_ix p0)), .val (.int (own_ix p1)), .val (.int (own_ix p2)), .val (.int (1 : Int32)), .unset, .unset]) rfl (XS.iload X22.here hx rfl (hb hby at_113) rfl (XS.iload X22.here hx rfl (hb hby at_115) rfl k)))))))) ?_
  by_cases hc117_25 : (own_ix p1) = (own_ix p0)
  · skip
    refine own_go (b := (T22.setTop (mkF m 137 #[.val (.int p0), .val (.int p1), .val (.int p2), .val (.int p3), .val (.int p4), .val (.int (65540 : Int32)), .val (.ref b1), .val (.ref b3), .val (.int (own_ix p0)), .val (.int (own_ix p1)), .val (.int (own_ix p2)), .val (.int (1 : Int32)), .val (.int p3), .unset] [(.int (own_ix p1)), (.ref b3)]))) (fun _ k => XS.icmpNo X22.here hx rfl (hb hby at_117) rfl (teq hc117_25).2 (XS.iloadN X22.here hx rfl (hb hby at_120) rfl (XS.goto X22.here hx rfl (pc0 := 121) (pc' := 126) rfl (hb hby at_121) (by decide) (by decide) (XS.istore X22.here hx rfl (hb hby at_126) rfl (l' := #[.val (.int p0), .val (.int p1), .val (.int p2), .val (.int p3), .val (.int p4), .val (.int (65540 : Int32)), .val (.ref b1), .val (.ref b3), .val (.int (own_ix p0)), .val (.int (own_ix p1)), .val (.int (own_ix p2)), .val (.int (1 : Int32)), .val (.int p3), .unset]) rfl (XS.iload X22.here hx rfl (hb hby at_128) rfl (XS.ifNo X22.here hx rfl (hb hby at_130) rfl ((if0 _ _).trans (feq (by decide : ¬ ((1 : Int32) = (0 : Int32)))).1) (XS.aload X22.here hx rfl (hb hby at_133) rfl rfl (XS.iload X22.here hx rfl (hb hby at_135) rfl k)))))))) ?_
    obtain ⟨cq26, kq26, q26a, q26b, q26c⟩ := isOf hZ eh22 F21
    obtain ⟨_, _, ⟨T26, Ll26, kz26, nz26⟩, -, X26, ⟨Lc26, hQ26, lz26, yz26, zz26⟩, st26⟩ := X22.virtualBack hx (y := (⟨"com/example/arcwright/arcwright/parser/IntBlocks", "get", "(I)I"⟩ : MethodName)) (z := (⟨"com/example/arcwright/arcwright/parser/IntBlocks", "get", "(I)I"⟩ : MethodName)) hown (mvT hZ (hw _ (List.mem_of_getElem? (i := 48) rfl))) (mvT hZ (hw _ (List.mem_of_getElem? (i := 49) rfl))) (notFace_of_selects (args := #[]) (mvT hZ (hw _ (List.mem_of_getElem? (i := 51) rfl)))) (mvT hZ (hw _ (List.mem_of_getElem? (i := 51) rfl))) (mvT hZ (hw _ (List.mem_of_getElem? (i := 50) rfl))) (by decide) (backOf (W := 0) (rm8 l Z a0 hw [] b3 (own_ix p1) bl_5 kb_5 c0_7 c1_7 (own_set (own_set (fun _ => (0 : Int32)) (own_ix p1).toNatClampNeg p4) (own_ix p0).toNatClampNeg p3) T13.heap n0 Zs17 F21 F23 F24 P13_0 P13_1 (own_ixb p1).1 (own_ixb p1).2) hZ (hw _ (List.mem_of_getElem? (i := 52) rfl)) (hw _ (List.mem_of_getElem? (i := 4) rfl)) (by decide) (by decide)) q26a q26c (g := (mkF m 137 #[.val (.int p0), .val (.int p1), .val (.int p2), .val (.int p3), .val (.int p4), .val (.int (65540 : Int32)), .val (.ref b1), .val (.ref b3), .val (.int (own_ix p0)), .val (.int (own_ix p1)), .val (.int (own_ix p2)), .val (.int (1 : Int32)), .val (.int p3), .unset] [(.int (own_ix p1)), (.ref b3)])) rfl (by rw [hml]; rfl) (Steps.refl _) (argsL := [(.int (own_ix p1))]) (rest := []) (lenOf pd__I_I rfl) rfl (by show 2 * 0 + _ ≤ _; exact Nat.le_of_eq rfl) (hb hby at_137) (fun _ _ => ⟨rfl, eh22, (by decide : 5 + 0 ≤ _), (by decide : 196630 + 0 ≤ _)⟩)
    dsimp only [Pt.U, Pt.locs, Pt.cells, Pt.slots] at X26 lz26 yz26 zz26 st26 hQ26
    subst lz26 yz26 zz26
    obtain ⟨rfl, N26q, eh26⟩ := hQ26
    have N26 := Fr.app N22 N26q
    refine own_go (b := (T26.setTop (mkF m 156 #[.val (.int p0), .val (.int p1), .val (.int p2), .val (.int p3), .val (.int p4), .val (.int (65540 : Int32)), .val (.ref b1), .val (.ref b3), .val (.int (own_ix p0)), .val (.int (own_ix p1)), .val (.int (own_ix p2)), .val (.int (1 : Int32)), .val (.int p3), .unset] [(.int (own_ix p0)), (.int (own_ix p2))]))) (fun _ k => st26.trans (XS.iload X26.here hx rfl (hb hby at_140) rfl (XS.icmpNo X26.here hx rfl (hb hby at_142) rfl (teq (by rw [hc117_25]; exact own_s1 _ _ _)).2 (XS.iconst X26.here hx rfl (hb hby at_145) (XS.goto X26.here hx rfl (pc0 := 146) (pc' := 150) rfl (hb hby at_146) (by decide) (by decide) (XS.istore X26.here hx rfl (hb hby at_150) rfl (l' := #[.val (.int p0), .val (.int p1), .val (.int p2), .val (.int p3), .val (.int p4), .val (.int (65540 : Int32)), .val (.ref b1), .val (.ref b3), .val (.int (own_ix p0)), .val (.int (own_ix p1)), .val (.int (own_ix p2)), .val (.int (1 : Int32)), .val (.int p3), .unset]) rfl (XS.iload X26.here hx rfl (hb hby at_152) rfl (XS.iload X26.here hx rfl (hb hby at_154) rfl k)))))))) ?_
    by_cases hc156_27 : (own_ix p2) = (own_ix p0)
    · skip
      refine own_go (b := (T26.setTop (mkF m 191 #[.val (.int p0), .val (.int p1), .val (.int p2), .val (.int p3), .val (.int p4), .val (.int (65540 : Int32)), .val (.ref b1), .val (.ref b3), .val (.int (own_ix p0)), .val (.int (own_ix p1)), .val (.int (own_ix p2)), .val (.int (1 : Int32)), .val (.int p3), .val (.int p3)] [(.int (own_ix p2)), (.ref b3)]))) (fun _ k => XS.icmpNo X26.here hx rfl (hb hby at_156) rfl (teq hc156_27).2 (XS.iloadN X26.here hx rfl (hb hby at_159) rfl (XS.istore X26.here hx rfl (hb hby at_160) rfl (l' := #[.val (.int p0), .val (.int p1), .val (.int p2), .val (.int p3), .val (.int p4), .val (.int (65540 : Int32)), .val (.ref b1), .val (.ref b3), .val (.int (own_ix p0)), .val (.int (own_ix p1)), .val (.int (own_ix p2)), .val (.int (1 : Int32)), .val (.int p3), .val (.int p3)]) rfl (XS.goto X26.here hx rfl (pc0 := 162) (pc' := 182) rfl (hb hby at_162) (by decide) (by decide) (XS.iload X26.here hx rfl (hb hby at_182) rfl (XS.ifNo X26.here hx rfl (hb hby at_184) rfl ((if0 _ _).trans (feq (by decide : ¬ ((1 : Int32) = (0 : Int32)))).1) (XS.aload X26.here hx rfl (hb hby at_187) rfl rfl (XS.iload X26.here hx rfl (hb hby at_189) rfl k)))))))) ?_
      obtain ⟨cq28, kq28, q28a, q28b, q28c⟩ := isOf hZ eh26 F21
      obtain ⟨_, _, ⟨T28, Ll28, kz28, nz28⟩, -, X28, ⟨Lc28, hQ28, lz28, yz28, zz28⟩, st28⟩ := X26.virtualBack hx (y := (⟨"com/example/arcwright/arcwright/parser/IntBlocks", "get", "(I)I"⟩ : MethodName)) (z := (⟨"com/example/arcwright/arcwright/parser/IntBlocks", "get", "(I)I"⟩ : MethodName)) hown (mvT hZ (hw _ (List.mem_of_getElem? (i := 48) rfl))) (mvT hZ (hw _ (List.mem_of_getElem? (i := 49) rfl))) (notFace_of_selects (args := #[]) (mvT hZ (hw _ (List.mem_of_getElem? (i := 51) rfl)))) (mvT hZ (hw _ (List.mem_of_getElem? (i := 51) rfl))) (mvT hZ (hw _ (List.mem_of_getElem? (i := 50) rfl))) (by decide) (backOf (W := 0) (rm8 l Z a0 hw [] b3 (own_ix p2) bl_5 kb_5 c0_7 c1_7 (own_set (own_set (fun _ => (0 : Int32)) (own_ix p1).toNatClampNeg p4) (own_ix p0).toNatClampNeg p3) T13.heap n0 Zs17 F21 F23 F24 P13_0 P13_1 (own_ixb p2).1 (own_ixb p2).2) hZ (hw _ (List.mem_of_getElem? (i := 52) rfl)) (hw _ (List.mem_of_getElem? (i := 4) rfl)) (by decide) (by decide)) q28a q28c (g := (mkF m 191 #[.val (.int p0), .val (.int p1), .val (.int p2), .val (.int p3), .val (.int p4), .val (.int (65540 : Int32)), .val (.ref b1), .val (.ref b3), .val (.int (own_ix p0)), .val (.int (own_ix p1)), .val (.int (own_ix p2)), .val (.int (1 : Int32)), .val (.int p3), .val (.int p3)] [(.int (own_ix p2)), (.ref b3)])) rfl (by rw [hml]; rfl) (Steps.refl _) (argsL := [(.int (own_ix p2))]) (rest := []) (lenOf pd__I_I rfl) rfl (by show 2 * 0 + _ ≤ _; exact Nat.le_of_eq rfl) (hb hby at_191) (fun _ _ => ⟨rfl, eh26, (by decide : 5 + 0 ≤ _), (by decide : 196630 + 0 ≤ _)⟩)
      dsimp only [Pt.U, Pt.locs, Pt.cells, Pt.slots] at X28 lz28 yz28 zz28 st28 hQ28
      subst lz28 yz28 zz28
      obtain ⟨rfl, N28q, eh28⟩ := hQ28
      have N28 := Fr.app N26 N28q
      refine own_go (b := (T28.setTop (mkF m 208 #[.val (.int p0), .val (.int p1), .val (.int p2), .val (.int p3), .val (.int p4), .val (.int (65540 : Int32)), .val (.ref b1), .val (.ref b3), .val (.int (own_ix p0)), .val (.int (own_ix p1)), .val (.int (own_ix p2)), .val (.int (1 : Int32)), .val (.int p3), .val (.int p3)] [(.int (1 : Int32))]))) (fun _ k => st28.trans (XS.iload X28.here hx rfl (hb hby at_194) rfl (XS.icmpNo X28.here hx rfl (hb hby at_196) rfl (teq (by rw [hc156_27]; exact own_s1 _ _ _)).2 (XS.iconst X28.here hx rfl (hb hby at_199) (XS.goto X28.here hx rfl (pc0 := 200) (pc' := 204) rfl (hb hby at_200) (by decide) (by decide) (XS.istore X28.here hx rfl (hb hby at_204) rfl (l' := #[.val (.int p0), .val (.int p1), .val (.int p2), .val (.int p3), .val (.int p4), .val (.int (65540 : Int32)), .val (.ref b1), .val (.ref b3), .val (.int (own_ix p0)), .val (.int (own_ix p1)), .val (.int (own_ix p2)), .val (.int (1 : Int32)), .val (.int p3), .val (.int p3)]) rfl (XS.iload X28.here hx rfl (hb hby at_206) rfl k))))))) ?_
      obtain ⟨fs, hr, hrun, hended, hW, hsame⟩ := X28.leave (v := some (.int (1 : Int32))) (fun h => by rw [Bd.returns] at h; cases h)
      exact ⟨_, _, retN X28 hx (t := .boolean) Bd.returns (by simp) (hb hby at_208) hr, hrun, hended, _, _, rfl, (show Qrm0 Z p0 p1 p2 p3 p4 h0 n0 _ T28.heap _ from (by rw [eh28]; exact ⟨rfl, N28⟩)), ⟨_, rfl⟩, hW, hsame.mono (by decide) (by decide)⟩
    · skip
      refine own_go (b := (T26.setTop (mkF m 169 #[.val (.int p0), .val (.int p1), .val (.int p2), .val (.int p3), .val (.int p4), .val (.int (65540 : Int32)), .val (.ref b1), .val (.ref b3), .val (.int (own_ix p0)), .val (.int (own_ix p1)), .val (.int (own_ix p2)), .val (.int (1 : Int32)), .val (.int p3), .unset] [(.int (own_ix p1)), (.int (own_ix p2))]))) (fun _ k => XS.icmpYes X26.here hx rfl (pc0 := 156) (pc' := 165) rfl (hb hby at_156) rfl (feq hc156_27).2 (by decide) (by decide) (XS.iload X26.here hx rfl (hb hby at_165) rfl (XS.iload X26.here hx rfl (hb hby at_167) rfl k))) ?_
      by_cases hc169_29 : (own_ix p2) = (own_ix p1)
      · skip
        refine own_go (b := (T26.setTop (mkF m 191 #[.val (.int p0), .val (.int p1), .val (.int p2), .val (.int p3), .val (.int p4), .val (.int (65540 : Int32)), .val (.ref b1), .val (.ref b3), .val (.int (own_ix p0)), .val (.int (own_ix p1)), .val (.int (own_ix p2)), .val (.int (1 : Int32)), .val (.int p3), .val (.int p4)] [(.int (own_ix p2)), (.ref b3)]))) (fun _ k => XS.icmpNo X26.here hx rfl (hb hby at_169) rfl (teq hc169_29).2 (XS.iload X26.here hx rfl (hb hby at_172) rfl (XS.istore X26.here hx rfl (hb hby at_174) rfl (l' := #[.val (.int p0), .val (.int p1), .val (.int p2), .val (.int p3), .val (.int p4), .val (.int (65540 : Int32)), .val (.ref b1), .val (.ref b3), .val (.int (own_ix p0)), .val (.int (own_ix p1)), .val (.int (own_ix p2)), .val (.int (1 : Int32)), .val (.int p3), .val (.int p4)]) rfl (XS.goto X26.here hx rfl (pc0 := 176) (pc' := 182) rfl (hb hby at_176) (by decide) (by decide) (XS.iload X26.here hx rfl (hb hby at_182) rfl (XS.ifNo X26.here hx rfl (hb hby at_184) rfl ((if0 _ _).trans (feq (by decide : ¬ ((1 : Int32) = (0 : Int32)))).1) (XS.aload X26.here hx rfl (hb hby at_187) rfl rfl (XS.iload X26.here hx rfl (hb hby at_189) rfl k)))))))) ?_
        obtain ⟨cq30, kq30, q30a, q30b, q30c⟩ := isOf hZ eh26 F21
        obtain ⟨_, _, ⟨T30, Ll30, kz30, nz30⟩, -, X30, ⟨Lc30, hQ30, lz30, yz30, zz30⟩, st30⟩ := X26.virtualBack hx (y := (⟨"com/example/arcwright/arcwright/parser/IntBlocks", "get", "(I)I"⟩ : MethodName)) (z := (⟨"com/example/arcwright/arcwright/parser/IntBlocks", "get", "(I)I"⟩ : MethodName)) hown (mvT hZ (hw _ (List.mem_of_getElem? (i := 48) rfl))) (mvT hZ (hw _ (List.mem_of_getElem? (i := 49) rfl))) (notFace_of_selects (args := #[]) (mvT hZ (hw _ (List.mem_of_getElem? (i := 51) rfl)))) (mvT hZ (hw _ (List.mem_of_getElem? (i := 51) rfl))) (mvT hZ (hw _ (List.mem_of_getElem? (i := 50) rfl))) (by decide) (backOf (W := 0) (rm8 l Z a0 hw [] b3 (own_ix p2) bl_5 kb_5 c0_7 c1_7 (own_set (own_set (fun _ => (0 : Int32)) (own_ix p1).toNatClampNeg p4) (own_ix p0).toNatClampNeg p3) T13.heap n0 Zs17 F21 F23 F24 P13_0 P13_1 (own_ixb p2).1 (own_ixb p2).2) hZ (hw _ (List.mem_of_getElem? (i := 52) rfl)) (hw _ (List.mem_of_getElem? (i := 4) rfl)) (by decide) (by decide)) q30a q30c (g := (mkF m 191 #[.val (.int p0), .val (.int p1), .val (.int p2), .val (.int p3), .val (.int p4), .val (.int (65540 : Int32)), .val (.ref b1), .val (.ref b3), .val (.int (own_ix p0)), .val (.int (own_ix p1)), .val (.int (own_ix p2)), .val (.int (1 : Int32)), .val (.int p3), .val (.int p4)] [(.int (own_ix p2)), (.ref b3)])) rfl (by rw [hml]; rfl) (Steps.refl _) (argsL := [(.int (own_ix p2))]) (rest := []) (lenOf pd__I_I rfl) rfl (by show 2 * 0 + _ ≤ _; exact Nat.le_of_eq rfl) (hb hby at_191) (fun _ _ => ⟨rfl, eh26, (by decide : 5 + 0 ≤ _), (by decide : 196630 + 0 ≤ _)⟩)
        dsimp only [Pt.U, Pt.locs, Pt.cells, Pt.slots] at X30 lz30 yz30 zz30 st30 hQ30
        subst lz30 yz30 zz30
        obtain ⟨rfl, N30q, eh30⟩ := hQ30
        have N30 := Fr.app N26 N30q
        refine own_go (b := (T30.setTop (mkF m 208 #[.val (.int p0), .val (.int p1), .val (.int p2), .val (.int p3), .val (.int p4), .val (.int (65540 : Int32)), .val (.ref b1), .val (.ref b3), .val (.int (own_ix p0)), .val (.int (own_ix p1)), .val (.int (own_ix p2)), .val (.int (1 : Int32)), .val (.int p3), .val (.int p4)] [(.int (1 : Int32))]))) (fun _ k => st30.trans (XS.iload X30.here hx rfl (hb hby at_194) rfl (XS.icmpNo X30.here hx rfl (hb hby at_196) rfl (teq ((own_s2 _ _ (own_inj (own_ixb p2).1 (own_ixb p0).1 hc156_27)).trans (by rw [hc169_29]; exact own_s1 _ _ _))).2 (XS.iconst X30.here hx rfl (hb hby at_199) (XS.goto X30.here hx rfl (pc0 := 200) (pc' := 204) rfl (hb hby at_200) (by decide) (by decide) (XS.istore X30.here hx rfl (hb hby at_204) rfl (l' := #[.val (.int p0), .val (.int p1), .val (.int p2), .val (.int p3), .val (.int p4), .val (.int (65540 : Int32)), .val (.ref b1), .val (.ref b3), .val (.int (own_ix p0)), .val (.int (own_ix p1)), .val (.int (own_ix p2)), .val (.int (1 : Int32)), .val (.int p3), .val (.int p4)]) rfl (XS.iload X30.here hx rfl (hb hby at_206) rfl k))))))) ?_
        obtain ⟨fs, hr, hrun, hended, hW, hsame⟩ := X30.leave (v := some (.int (1 : Int32))) (fun h => by rw [Bd.returns] at h; cases h)
        exact ⟨_, _, retN X30 hx (t := .boolean) Bd.returns (by simp) (hb hby at_208) hr, hrun, hended, _, _, rfl, (show Qrm0 Z p0 p1 p2 p3 p4 h0 n0 _ T30.heap _ from (by rw [eh30]; exact ⟨rfl, N30⟩)), ⟨_, rfl⟩, hW, hsame.mono (by decide) (by decide)⟩
      · skip
        refine own_go (b := (T26.setTop (mkF m 191 #[.val (.int p0), .val (.int p1), .val (.int p2), .val (.int p3), .val (.int p4), .val (.int (65540 : Int32)), .val (.ref b1), .val (.ref b3), .val (.int (own_ix p0)), .val (.int (own_ix p1)), .val (.int (own_ix p2)), .val (.int (1 : Int32)), .val (.int p3), .val (.int (0 : Int32))] [(.int (own_ix p2)), (.ref b3)]))) (fun _ k => XS.icmpYes X26.here hx rfl (pc0 := 169) (pc' := 179) rfl (hb hby at_169) rfl (feq hc169_29).2 (by decide) (by decide) (XS.iconst X26.here hx rfl (hb hby at_179) (XS.istore X26.here hx rfl (hb hby at_180) rfl (l' := #[.val (.int p0), .val (.int p1), .val (.int p2), .val (.int p3), .val (.int p4), .val (.int (65540 : Int32)), .val (.ref b1), .val (.ref b3), .val (.int (own_ix p0)), .val (.int (own_ix p1)), .val (.int (own_ix p2)), .val (.int (1 : Int32)), .val (.int p3), .val (.int (0 : Int32))]) rfl (XS.iload X26.here hx rfl (hb hby at_182) rfl (XS.ifNo X26.here hx rfl (hb hby at_184) rfl ((if0 _ _).trans (feq (by decide : ¬ ((1 : Int32) = (0 : Int32)))).1) (XS.aload X26.here hx rfl (hb hby at_187) rfl rfl (XS.iload X26.here hx rfl (hb hby at_189) rfl k))))))) ?_
        obtain ⟨cq31, kq31, q31a, q31b, q31c⟩ := isOf hZ eh26 F21
        obtain ⟨_, _, ⟨T31, Ll31, kz31, nz31⟩, -, X31, ⟨Lc31, hQ31, lz31, yz31, zz31⟩, st31⟩ := X26.virtualBack hx (y := (⟨"com/example/arcwright/arcwright/parser/IntBlocks", "get", "(I)I"⟩ : MethodName)) (z := (⟨"com/example/arcwright/arcwright/parser/IntBlocks", "get", "(I)I"⟩ : MethodName)) hown (mvT hZ (hw _ (List.mem_of_getElem? (i := 48) rfl))) (mvT hZ (hw _ (List.mem_of_getElem? (i := 49) rfl))) (notFace_of_selects (args := #[]) (mvT hZ (hw _ (List.mem_of_getElem? (i := 51) rfl)))) (mvT hZ (hw _ (List.mem_of_getElem? (i := 51) rfl))) (mvT hZ (hw _ (List.mem_of_getElem? (i := 50) rfl))) (by decide) (backOf (W := 0) (rm8 l Z a0 hw [] b3 (own_ix p2) bl_5 kb_5 c0_7 c1_7 (own_set (own_set (fun _ => (0 : Int32)) (own_ix p1).toNatClampNeg p4) (own_ix p0).toNatClampNeg p3) T13.heap n0 Zs17 F21 F23 F24 P13_0 P13_1 (own_ixb p2).1 (own_ixb p2).2) hZ (hw _ (List.mem_of_getElem? (i := 52) rfl)) (hw _ (List.mem_of_getElem? (i := 4) rfl)) (by decide) (by decide)) q31a q31c (g := (mkF m 191 #[.val (.int p0), .val (.int p1), .val (.int p2), .val (.int p3), .val (.int p4), .val (.int (65540 : Int32)), .val (.ref b1), .val (.ref b3), .val (.int (own_ix p0)), .val (.int (own_ix p1)), .val (.int (own_ix p2)), .val (.int (1 : Int32)), .val (.int p3), .val (.int (0 : Int32))] [(.int (own_ix p2)), (.ref b3)])) rfl (by rw [hml]; rfl) (Steps.refl _) (argsL := [(.int (own_ix p2))]) (rest := []) (lenOf pd__I_I rfl) rfl (by show 2 * 0 + _ ≤ _; exact Nat.le_of_eq rfl) (hb hby at_191) (fun _ _ => ⟨rfl, eh26, (by decide : 5 + 0 ≤ _), (by decide : 196630 + 0 ≤ _)⟩)
        dsimp only [Pt.U, Pt.locs, Pt.cells, Pt.slots] at X31 lz31 yz31 zz31 st31 hQ31
        subst lz31 yz31 zz31
        obtain ⟨rfl, N31q, eh31⟩ := hQ31
        have N31 := Fr.app N26 N31q
        refine own_go (b := (T31.setTop (mkF m 208 #[.val (.int p0), .val (.int p1), .val (.int p2), .val (.int p3), .val (.int p4), .val (.int (65540 : Int32)), .val (.ref b1), .val (.ref b3), .val (.int (own_ix p0)), .val (.int (own_ix p1)), .val (.int (own_ix p2)), .val (.int (1 : Int32)), .val (.int p3), .val (.int (0 : Int32))] [(.int (1 : Int32))]))) (fun _ k => st31.trans (XS.iload X31.here hx rfl (hb hby at_194) rfl (XS.icmpNo X31.here hx rfl (hb hby at_196) rfl (teq ((own_s2 _ _ (own_inj (own_ixb p2).1 (own_ixb p0).1 hc156_27)).trans (own_s2 _ _ (own_inj (own_ixb p2).1 (own_ixb p1).1 hc169_29)))).2 (XS.iconst X31.here hx rfl (hb hby at_199) (XS.goto X31.here hx rfl (pc0 := 200) (pc' := 204) rfl (hb hby at_200) (by decide) (by decide) (XS.istore X31.here hx rfl (hb hby at_204) rfl (l' := #[.val (.int p0), .val (.int p1), .val (.int p2), .val (.int p3), .val (.int p4), .val (.int (65540 : Int32)), .val (.ref b1), .val (.ref b3), .val (.int (own_ix p0)), .val (.int (own_ix p1)), .val (.int (own_ix p2)), .val (.int (1 : Int32)), .val (.int p3), .val (.int (0 : Int32))]) rfl (XS.iload X31.here hx rfl (hb hby at_206) rfl k))))))) ?_
        obtain ⟨fs, hr, hrun, hended, hW, hsame⟩ := X31.leave (v := some (.int (1 : Int32))) (fun h => by rw [Bd.returns] at h; cases h)
        exact ⟨_, _, retN X31 hx (t := .boolean) Bd.returns (by simp) (hb hby at_208) hr, hrun, hended, _, _, rfl, (show Qrm0 Z p0 p1 p2 p3 p4 h0 n0 _ T31.heap _ from (by rw [eh31]; exact ⟨rfl, N31⟩)), ⟨_, rfl⟩, hW, hsame.mono (by decide) (by decide)⟩
  · skip
    refine own_go (b := (T22.setTop (mkF m 137 #[.val (.int p0), .val (.int p1), .val (.int p2), .val (.int p3), .val (.int p4), .val (.int (65540 : Int32)), .val (.ref b1), .val (.ref b3), .val (.int (own_ix p0)), .val (.int (own_ix p1)), .val (.int (own_ix p2)), .val (.int (1 : Int32)), .val (.int p4), .unset] [(.int (own_ix p1)), (.ref b3)]))) (fun _ k => XS.icmpYes X22.here hx rfl (pc0 := 117) (pc' := 124) rfl (hb hby at_117) rfl (feq hc117_25).2 (by decide) (by decide) (XS.iload X22.here hx rfl (hb hby at_124) rfl (XS.istore X22.here hx rfl (hb hby at_126) rfl (l' := #[.val (.int p0), .val (.int p1), .val (.int p2), .val (.int p3), .val (.int p4), .val (.int (65540 : Int32)), .val (.ref b1), .val (.ref b3), .val (.int (own_ix p0)), .val (.int (own_ix p1)), .val (.int (own_ix p2)), .val (.int (1 : Int32)), .val (.int p4), .unset]) rfl (XS.iload X22.here hx rfl (hb hby at_128) rfl (XS.ifNo X22.here hx rfl (hb hby at_130) rfl ((if0 _ _).trans (feq (by decide : ¬ ((1 : Int32) = (0 : Int32)))).1) (XS.aload X22.here hx rfl (hb hby at_133) rfl rfl (XS.iload X22.here hx rfl (hb hby at_135) rfl k))))))) ?_
    obtain ⟨cq32, kq32, q32a, q32b, q32c⟩ := isOf hZ eh22 F21
    obtain ⟨_, _, ⟨T32, Ll32, kz32, nz32⟩, -, X32, ⟨Lc32, hQ32, lz32, yz32, zz32⟩, st32⟩ := X22.virtualBack hx (y := (⟨"com/example/arcwright/arcwright/parser/IntBlocks", "get", "(I)I"⟩ : MethodName)) (z := (⟨"com/example/arcwright/arcwright/parser/IntBlocks", "get", "(I)I"⟩ : MethodName)) hown (mvT hZ (hw _ (List.mem_of_getElem? (i := 48) rfl))) (mvT hZ (hw _ (List.mem_of_getElem? (i := 49) rfl))) (notFace_of_selects (args := #[]) (mvT hZ (hw _ (List.mem_of_getElem? (i := 51) rfl)))) (mvT hZ (hw _ (List.mem_of_getElem? (i := 51) rfl))) (mvT hZ (hw _ (List.mem_of_getElem? (i := 50) rfl))) (by decide) (backOf (W := 0) (rm8 l Z a0 hw [] b3 (own_ix p1) bl_5 kb_5 c0_7 c1_7 (own_set (own_set (fun _ => (0 : Int32)) (own_ix p1).toNatClampNeg p4) (own_ix p0).toNatClampNeg p3) T13.heap n0 Zs17 F21 F23 F24 P13_0 P13_1 (own_ixb p1).1 (own_ixb p1).2) hZ (hw _ (List.mem_of_getElem? (i := 52) rfl)) (hw _ (List.mem_of_getElem? (i := 4) rfl)) (by decide) (by decide)) q32a q32c (g := (mkF m 137 #[.val (.int p0), .val (.int p1), .val (.int p2), .val (.int p3), .val (.int p4), .val (.int (65540 : Int32)), .val (.ref b1), .val (.ref b3), .val (.int (own_ix p0)), .val (.int (own_ix p1)), .val (.int (own_ix p2)), .val (.int (1 : Int32)), .val (.int p4), .unset] [(.int (own_ix p1)), (.ref b3)])) rfl (by rw [hml]; rfl) (Steps.refl _) (argsL := [(.int (own_ix p1))]) (rest := []) (lenOf pd__I_I rfl) rfl (by show 2 * 0 + _ ≤ _; exact Nat.le_of_eq rfl) (hb hby at_137) (fun _ _ => ⟨rfl, eh22, (by decide : 5 + 0 ≤ _), (by decide : 196630 + 0 ≤ _)⟩)
    dsimp only [Pt.U, Pt.locs, Pt.cells, Pt.slots] at X32 lz32 yz32 zz32 st32 hQ32
    subst lz32 yz32 zz32
    obtain ⟨rfl, N32q, eh32⟩ := hQ32
    have N32 := Fr.app N22 N32q
    refine own_go (b := (T32.setTop (mkF m 156 #[.val (.int p0), .val (.int p1), .val (.int p2), .val (.int p3), .val (.int p4), .val (.int (65540 : Int32)), .val (.ref b1), .val (.ref b3), .val (.int (own_ix p0)), .val (.int (own_ix p1)), .val (.int (own_ix p2)), .val (.int (1 : Int32)), .val (.int p4), .unset] [(.int (own_ix p0)), (.int (own_ix p2))]))) (fun _ k => st32.trans (XS.iload X32.here hx rfl (hb hby at_140) rfl (XS.icmpNo X32.here hx rfl (hb hby at_142) rfl (teq ((own_s2 _ _ (own_inj (own_ixb p1).1 (own_ixb p0).1 hc117_25)).trans (own_s1 _ _ _))).2 (XS.iconst X32.here hx rfl (hb hby at_145) (XS.goto X32.here hx rfl (pc0 := 146) (pc' := 150) rfl (hb hby at_146) (by decide) (by decide) (XS.istore X32.here hx rfl (hb hby at_150) rfl (l' := #[.val (.int p0), .val (.int p1), .val (.int p2), .val (.int p3), .val (.int p4), .val (.int (65540 : Int32)), .val (.ref b1), .val (.ref b3), .val (.int (own_ix p0)), .val (.int (own_ix p1)), .val (.int (own_ix p2)), .val (.int (1 : Int32)), .val (.int p4), .unset]) rfl (XS.iload X32.here hx rfl (hb hby at_152) rfl (XS.iload X32.here hx rfl (hb hby at_154) rfl k)))))))) ?_
    by_cases hc156_33 : (own_ix p2) = (own_ix p0)
    · skip
      refine own_go (b := (T32.setTop (mkF m 191 #[.val (.int p0), .val (.int p1), .val (.int p2), .val (.int p3), .val (.int p4), .val (.int (65540 : Int32)), .val (.ref b1), .val (.ref b3), .val (.int (own_ix p0)), .val (.int (own_ix p1)), .val (.int (own_ix p2)), .val (.int (1 : Int32)), .val (.int p4), .val (.int p3)] [(.int (own_ix p2)), (.ref b3)]))) (fun _ k => XS.icmpNo X32.here hx rfl (hb hby at_156) rfl (teq hc156_33).2 (XS.iloadN X32.here hx rfl (hb hby at_159) rfl (XS.istore X32.here hx rfl (hb hby at_160) rfl (l' := #[.val (.int p0), .val (.int p1), .val (.int p2), .val (.int p3), .val (.int p4), .val (.int (65540 : Int32)), .val (.ref b1), .val (.ref b3), .val (.int (own_ix p0)), .val (.int (own_ix p1)), .val (.int (own_ix p2)), .val (.int (1 : Int32)), .val (.int p4), .val (.int p3)]) rfl (XS.goto X32.here hx rfl (pc0 := 162) (pc' := 182) rfl (hb hby at_162) (by decide) (by decide) (XS.iload X32.here hx rfl (hb hby at_182) rfl (XS.ifNo X32.here hx rfl (hb hby at_184) rfl ((if0 _ _).trans (feq (by decide : ¬ ((1 : Int32) = (0 : Int32)))).1) (XS.aload X32.here hx rfl (hb hby at_187) rfl rfl (XS.iload X32.here hx rfl (hb hby at_189) rfl k)))))))) ?_
      obtain ⟨cq34, kq34, q34a, q34b, q34c⟩ := isOf hZ eh32 F21
      obtain ⟨_, _, ⟨T34, Ll34, kz34, nz34⟩, -, X34, ⟨Lc34, hQ34, lz34, yz34, zz34⟩, st34⟩ := X32.virtualBack hx (y := (⟨"com/example/arcwright/arcwright/parser/IntBlocks", "get", "(I)I"⟩ : MethodName)) (z := (⟨"com/example/arcwright/arcwright/parser/IntBlocks", "get", "(I)I"⟩ : MethodName)) hown (mvT hZ (hw _ (List.mem_of_getElem? (i := 48) rfl))) (mvT hZ (hw _ (List.mem_of_getElem? (i := 49) rfl))) (notFace_of_selects (args := #[]) (mvT hZ (hw _ (List.mem_of_getElem? (i := 51) rfl)))) (mvT hZ (hw _ (List.mem_of_getElem? (i := 51) rfl))) (mvT hZ (hw _ (List.mem_of_getElem? (i := 50) rfl))) (by decide) (backOf (W := 0) (rm8 l Z a0 hw [] b3 (own_ix p2) bl_5 kb_5 c0_7 c1_7 (own_set (own_set (fun _ => (0 : Int32)) (own_ix p1).toNatClampNeg p4) (own_ix p0).toNatClampNeg p3) T13.heap n0 Zs17 F21 F23 F24 P13_0 P13_1 (own_ixb p2).1 (own_ixb p2).2) hZ (hw _ (List.mem_of_getElem? (i := 52) rfl)) (hw _ (List.mem_of_getElem? (i := 4) rfl)) (by decide) (by decide)) q34a q34c (g := (mkF m 191 #[.val (.int p0), .val (.int p1), .val (.int p2), .val (.int p3), .val (.int p4), .val (.int (65540 : Int32)), .val (.ref b1), .val (.ref b3), .val (.int (own_ix p0)), .val (.int (own_ix p1)), .val (.int (own_ix p2)), .val (.int (1 : Int32)), .val (.int p4), .val (.int p3)] [(.int (own_ix p2)), (.ref b3)])) rfl (by rw [hml]; rfl) (Steps.refl _) (argsL := [(.int (own_ix p2))]) (rest := []) (lenOf pd__I_I rfl) rfl (by show 2 * 0 + _ ≤ _; exact Nat.le_of_eq rfl) (hb hby at_191) (fun _ _ => ⟨rfl, eh32, (by decide : 5 + 0 ≤ _), (by decide : 196630 + 0 ≤ _)⟩)
      dsimp only [Pt.U, Pt.locs, Pt.cells, Pt.slots] at X34 lz34 yz34 zz34 st34 hQ34
      subst lz34 yz34 zz34
      obtain ⟨rfl, N34q, eh34⟩ := hQ34
      have N34 := Fr.app N32 N34q
      refine own_go (b := (T34.setTop (mkF m 208 #[.val (.int p0), .val (.int p1), .val (.int p2), .val (.int p3), .val (.int p4), .val (.int (65540 : Int32)), .val (.ref b1), .val (.ref b3), .val (.int (own_ix p0)), .val (.int (own_ix p1)), .val (.int (own_ix p2)), .val (.int (1 : Int32)), .val (.int p4), .val (.int p3)] [(.int (1 : Int32))]))) (fun _ k => st34.trans (XS.iload X34.here hx rfl (hb hby at_194) rfl (XS.icmpNo X34.here hx rfl (hb hby at_196) rfl (teq (by rw [hc156_33]; exact own_s1 _ _ _)).2 (XS.iconst X34.here hx rfl (hb hby at_199) (XS.goto X34.here hx rfl (pc0 := 200) (pc' := 204) rfl (hb hby at_200) (by decide) (by decide) (XS.istore X34.here hx rfl (hb hby at_204) rfl (l' := #[.val (.int p0), .val (.int p1), .val (.int p2), .val (.int p3), .val (.int p4), .val (.int (65540 : Int32)), .val (.ref b1), .val (.ref b3), .val (.int (own_ix p0)), .val (.int (own_ix p1)), .val (.int (own_ix p2)), .val (.int (1 : Int32)), .val (.int p4), .val (.int p3)]) rfl (XS.iload X34.here hx rfl (hb hby at_206) rfl k))))))) ?_
      obtain ⟨fs, hr, hrun, hended, hW, hsame⟩ := X34.leave (v := some (.int (1 : Int32))) (fun h => by rw [Bd.returns] at h; cases h)
      exact ⟨_, _, retN X34 hx (t := .boolean) Bd.returns (by simp) (hb hby at_208) hr, hrun, hended, _, _, rfl, (show Qrm0 Z p0 p1 p2 p3 p4 h0 n0 _ T34.heap _ from (by rw [eh34]; exact ⟨rfl, N34⟩)), ⟨_, rfl⟩, hW, hsame.mono (by decide) (by decide)⟩
    · skip
      refine own_go (b := (T32.setTop (mkF m 169 #[.val (.int p0), .val (.int p1), .val (.int p2), .val (.int p3), .val (.int p4), .val (.int (65540 : Int32)), .val (.ref b1), .val (.ref b3), .val (.int (own_ix p0)), .val (.int (own_ix p1)), .val (.int (own_ix p2)), .val (.int (1 : Int32)), .val (.int p4), .unset] [(.int (own_ix p1)), (.int (own_ix p2))]))) (fun _ k => XS.icmpYes X32.here hx rfl (pc0 := 156) (pc' := 165) rfl (hb hby at_156) rfl (feq hc156_33).2 (by decide) (by decide) (XS.iload X32.here hx rfl (hb hby at_165) rfl (XS.iload X32.here hx rfl (hb hby at_167) rfl k))) ?_
      by_cases hc169_35 : (own_ix p2) = (own_ix p1)
      · skip
        refine own_go (b := (T32.setTop (mkF m 191 #[.val (.int p0), .val (.int p1), .val (.int p2), .val (.int p3), .val (.int p4), .val (.int (65540 : Int32)), .val (.ref b1), .val (.ref b3), .val (.int (own_ix p0)), .val (.int (own_ix p1)), .val (.int (own_ix p2)), .val (.int (1 : Int32)), .val (.int p4), .val (.int p4)] [(.int (own_ix p2)), (.ref b3)]))) (fun _ k => XS.icmpNo X32.here hx rfl (hb hby at_169) rfl (teq hc169_35).2 (XS.iload X32.here hx rfl (hb hby at_172) rfl (XS.istore X32.here hx rfl (hb hby at_174) rfl (l' := #[.val (.int p0), .val (.int p1), .val (.int p2), .val (.int p3), .val (.int p4), .val (.int (65540 : Int32)), .val (.ref b1), .val (.ref b3), .val (.int (own_ix p0)), .val (.int (own_ix p1)), .val (.int (own_ix p2)), .val (.int (1 : Int32)), .val (.int p4), .val (.int p4)]) rfl (XS.goto X32.here hx rfl (pc0 := 176) (pc' := 182) rfl (hb hby at_176) (by decide) (by decide) (XS.iload X32.here hx rfl (hb hby at_182) rfl (XS.ifNo X32.here hx rfl (hb hby at_184) rfl ((if0 _ _).trans (feq (by decide : ¬ ((1 : Int32) = (0 : Int32)))).1) (XS.aload X32.here hx rfl (hb hby at_187) rfl rfl (XS.iload X32.here hx rfl (hb hby at_189) rfl k)))))))) ?_
        obtain ⟨cq36, kq36, q36a, q36b, q36c⟩ := isOf hZ eh32 F21
        obtain ⟨_, _, ⟨T36, Ll36, kz36, nz36⟩, -, X36, ⟨Lc36, hQ36, lz36, yz36, zz36⟩, st36⟩ := X32.virtualBack hx (y := (⟨"com/example/arcwright/arcwright/parser/IntBlocks", "get", "(I)I"⟩ : MethodName)) (z := (⟨"com/example/arcwright/arcwright/parser/IntBlocks", "get", "(I)I"⟩ : MethodName)) hown (mvT hZ (hw _ (List.mem_of_getElem? (i := 48) rfl))) (mvT hZ (hw _ (List.mem_of_getElem? (i := 49) rfl))) (notFace_of_selects (args := #[]) (mvT hZ (hw _ (List.mem_of_getElem? (i := 51) rfl)))) (mvT hZ (hw _ (List.mem_of_getElem? (i := 51) rfl))) (mvT hZ (hw _ (List.mem_of_getElem? (i := 50) rfl))) (by decide) (backOf (W := 0) (rm8 l Z a0 hw [] b3 (own_ix p2) bl_5 kb_5 c0_7 c1_7 (own_set (own_set (fun _ => (0 : Int32)) (own_ix p1).toNatClampNeg p4) (own_ix p0).toNatClampNeg p3) T13.heap n0 Zs17 F21 F23 F24 P13_0 P13_1 (own_ixb p2).1 (own_ixb p2).2) hZ (hw _ (List.mem_of_getElem? (i := 52) rfl)) (hw _ (List.mem_of_getElem? (i := 4) rfl)) (by decide) (by decide)) q36a q36c (g := (mkF m 191 #[.val (.int p0), .val (.int p1), .val (.int p2), .val (.int p3), .val (.int p4), .val (.int (65540 : Int32)), .val (.ref b1), .val (.ref b3), .val (.int (own_ix p0)), .val (.int (own_ix p1)), .val (.int (own_ix p2)), .val (.int (1 : Int32)), .val (.int p4), .val (.int p4)] [(.int (own_ix p2)), (.ref b3)])) rfl (by rw [hml]; rfl) (Steps.refl _) (argsL := [(.int (own_ix p2))]) (rest := []) (lenOf pd__I_I rfl) rfl (by show 2 * 0 + _ ≤ _; exact Nat.le_of_eq rfl) (hb hby at_191) (fun _ _ => ⟨rfl, eh32, (by decide : 5 + 0 ≤ _), (by decide : 196630 + 0 ≤ _)⟩)
        dsimp only [Pt.U, Pt.locs, Pt.cells, Pt.slots] at X36 lz36 yz36 zz36 st36 hQ36
        subst lz36 yz36 zz36
        obtain ⟨rfl, N36q, eh36⟩ := hQ36
        have N36 := Fr.app N32 N36q
        refine own_go (b := (T36.setTop (mkF m 208 #[.val (.int p0), .val (.int p1), .val (.int p2), .val (.int p3), .val (.int p4), .val (.int (65540 : Int32)), .val (.ref b1), .val (.ref b3), .val (.int (own_ix p0)), .val (.int (own_ix p1)), .val (.int (own_ix p2)), .val (.int (1 : Int32)), .val (.int p4), .val (.int p4)] [(.int (1 : Int32))]))) (fun _ k => st36.trans (XS.iload X36.here hx rfl (hb hby at_194) rfl (XS.icmpNo X36.here hx rfl (hb hby at_196) rfl (teq ((own_s2 _ _ (own_inj (own_ixb p2).1 (own_ixb p0).1 hc156_33)).trans (by rw [hc169_35]; exact own_s1 _ _ _))).2 (XS.iconst X36.here hx rfl (hb hby at_199) (XS.goto X36.here hx rfl (pc0 := 200) (pc' := 204) rfl (hb hby at_200) (by decide) (by decide) (XS.istore X36.here hx rfl (hb hby at_204) rfl (l' := #[.val (.int p0), .val (.int p1), .val (.int p2), .val (.int p3), .val (.int p4), .val (.int (65540 : Int32)), .val (.ref b1), .val (.ref b3), .val (.int (own_ix p0)), .val (.int (own_ix p1)), .val (.int (own_ix p2)), .val (.int (1 : Int32)), .val (.int p4), .val (.int p4)]) rfl (XS.iload X36.here hx rfl (hb hby at_206) rfl k))))))) ?_
        obtain ⟨fs, hr, hrun, hended, hW, hsame⟩ := X36.leave (v := some (.int (1 : Int32))) (fun h => by rw [Bd.returns] at h; cases h)
        exact ⟨_, _, retN X36 hx (t := .boolean) Bd.returns (by simp) (hb hby at_208) hr, hrun, hended, _, _, rfl, (show Qrm0 Z p0 p1 p2 p3 p4 h0 n0 _ T36.heap _ from (by rw [eh36]; exact ⟨rfl, N36⟩)), ⟨_, rfl⟩, hW, hsame.mono (by decide) (by decide)⟩
      · skip
        refine own_go (b := (T32.setTop (mkF m 191 #[.val (.int p0), .val (.int p1), .val (.int p2), .val (.int p3), .val (.int p4), .val (.int (65540 : Int32)), .val (.ref b1), .val (.ref b3), .val (.int (own_ix p0)), .val (.int (own_ix p1)), .val (.int (own_ix p2)), .val (.int (1 : Int32)), .val (.int p4), .val (.int (0 : Int32))] [(.int (own_ix p2)), (.ref b3)]))) (fun _ k => XS.icmpYes X32.here hx rfl (pc0 := 169) (pc' := 179) rfl (hb hby at_169) rfl (feq hc169_35).2 (by decide) (by decide) (XS.iconst X32.here hx rfl (hb hby at_179) (XS.istore X32.here hx rfl (hb hby at_180) rfl (l' := #[.val (.int p0), .val (.int p1), .val (.int p2), .val (.int p3), .val (.int p4), .val (.int (65540 : Int32)), .val (.ref b1), .val (.ref b3), .val (.int (own_ix p0)), .val (.int (own_ix p1)), .val (.int (own_ix p2)), .val (.int (1 : Int32)), .val (.int p4), .val (.int (0 : Int32))]) rfl (XS.iload X32.here hx rfl (hb hby at_182) rfl (XS.ifNo X32.here hx rfl (hb hby at_184) rfl ((if0 _ _).trans (feq (by decide : ¬ ((1 : Int32) = (0 : Int32)))).1) (XS.aload X32.here hx rfl (hb hby at_187) rfl rfl (XS.iload X32.here hx rfl (hb hby at_189) rfl k))))))) ?_
        obtain ⟨cq37, kq37, q37a, q37b, q37c⟩ := isOf hZ eh32 F21
        obtain ⟨_, _, ⟨T37, Ll37, kz37, nz37⟩, -, X37, ⟨Lc37, hQ37, lz37, yz37, zz37⟩, st37⟩ := X32.virtualBack hx (y := (⟨"com/example/arcwright/arcwright/parser/IntBlocks", "get", "(I)I"⟩ : MethodName)) (z := (⟨"com/example/arcwright/arcwright/parser/IntBlocks", "get", "(I)I"⟩ : MethodName)) hown (mvT hZ (hw _ (List.mem_of_getElem? (i := 48) rfl))) (mvT hZ (hw _ (List.mem_of_getElem? (i := 49) rfl))) (notFace_of_selects (args := #[]) (mvT hZ (hw _ (List.mem_of_getElem? (i := 51) rfl)))) (mvT hZ (hw _ (List.mem_of_getElem? (i := 51) rfl))) (mvT hZ (hw _ (List.mem_of_getElem? (i := 50) rfl))) (by decide) (backOf (W := 0) (rm8 l Z a0 hw [] b3 (own_ix p2) bl_5 kb_5 c0_7 c1_7 (own_set (own_set (fun _ => (0 : Int32)) (own_ix p1).toNatClampNeg p4) (own_ix p0).toNatClampNeg p3) T13.heap n0 Zs17 F21 F23 F24 P13_0 P13_1 (own_ixb p2).1 (own_ixb p2).2) hZ (hw _ (List.mem_of_getElem? (i := 52) rfl)) (hw _ (List.mem_of_getElem? (i := 4) rfl)) (by decide) (by decide)) q37a q37c (g := (mkF m 191 #[.val (.int p0), .val (.int p1), .val (.int p2), .val (.int p3), .val (.int p4), .val (.int (65540 : Int32)), .val (.ref b1), .val (.ref b3), .val (.int (own_ix p0)), .val (.int (own_ix p1)), .val (.int (own_ix p2)), .val (.int (1 : Int32)), .val (.int p4), .val (.int (0 : Int32))] [(.int (own_ix p2)), (.ref b3)])) rfl (by rw [hml]; rfl) (Steps.refl _) (argsL := [(.int (own_ix p2))]) (rest := []) (lenOf pd__I_I rfl) rfl (by show 2 * 0 + _ ≤ _; exact Nat.le_of_eq rfl) (hb hby at_191) (fun _ _ => ⟨rfl, eh32, (by decide : 5 + 0 ≤ _), (by decide : 196630 + 0 ≤ _)⟩)
        dsimp only [Pt.U, Pt.locs, Pt.cells, Pt.slots] at X37 lz37 yz37 zz37 st37 hQ37
        subst lz37 yz37 zz37
        obtain ⟨rfl, N37q, eh37⟩ := hQ37
        have N37 := Fr.app N32 N37q
        refine own_go (b := (T37.setTop (mkF m 208 #[.val (.int p0), .val (.int p1), .val (.int p2), .val (.int p3), .val (.int p4), .val (.int (65540 : Int32)), .val (.ref b1), .val (.ref b3), .val (.int (own_ix p0)), .val (.int (own_ix p1)), .val (.int (own_ix p2)), .val (.int (1 : Int32)), .val (.int p4), .val (.int (0 : Int32))] [(.int (1 : Int32))]))) (fun _ k => st37.trans (XS.iload X37.here hx rfl (hb hby at_194) rfl (XS.icmpNo X37.here hx rfl (hb hby at_196) rfl (teq ((own_s2 _ _ (own_inj (own_ixb p2).1 (own_ixb p0).1 hc156_33)).trans (own_s2 _ _ (own_inj (own_ixb p2).1 (own_ixb p1).1 hc169_35)))).2 (XS.iconst X37.here hx rfl (hb hby at_199) (XS.goto X37.here hx rfl (pc0 := 200) (pc' := 204) rfl (hb hby at_200) (by decide) (by decide) (XS.istore X37.here hx rfl (hb hby at_204) rfl (l' := #[.val (.int p0), .val (.int p1), .val (.int p2), .val (.int p3), .val (.int p4), .val (.int (65540 : Int32)), .val (.ref b1), .val (.ref b3), .val (.int (own_ix p0)), .val (.int (own_ix p1)), .val (.int (own_ix p2)), .val (.int (1 : Int32)), .val (.int p4), .val (.int (0 : Int32))]) rfl (XS.iload X37.here hx rfl (hb hby at_206) rfl k))))))) ?_
        obtain ⟨fs, hr, hrun, hended, hW, hsame⟩ := X37.leave (v := some (.int (1 : Int32))) (fun h => by rw [Bd.returns] at h; cases h)
        exact ⟨_, _, retN X37 hx (t := .boolean) Bd.returns (by simp) (hb hby at_208) hr, hrun, hended, _, _, rfl, (show Qrm0 Z p0 p1 p2 p3 p4 h0 n0 _ T37.heap _ from (by rw [eh37]; exact ⟨rfl, N37⟩)), ⟨_, rfl⟩, hW, hsame.mono (by decide) (by decide)⟩
set_option maxRecDepth 65536 in
set_option maxHeartbeats 40000000 in
theorem comes_1 {Post : Tables → Env → Array Value → State → Outcome → State → Prop} (hpost : ∀ tb e args s v u, (limb_1_1.after args s (.returned v) u = true ∧ limb_1_2.after args s (.returned v) u = true ∧ True) → FrameEnd s (.returned v) u (Jvm.fieldLocs frame_1_writes args s ++ Jvm.arrayLocs frame_1_arrays args s ++ Jvm.staticLocs frame_1_statics s) 24 235968 → Post tb e args s (.returned v) u) :
    ArmFor flags0 classFile x code maxLocals ret World_1 tables_1 room_1 Calls_1 rest_1 Pre_1 Post := by
  intro l hfl _ _ p e ha hc hk s m args below hf hA hF happ hP
  obtain ⟨hcalls, hrest, hpre⟩ := hP
  obtain ⟨-, -, -, hnamed, -, -, -, hat⟩ := (Spec.applies_iff hf).mp happ
  obtain ⟨hg, hn⟩ := and_e (Cond.before_iff.mp (show (Jvm.Cond.and given_1 narrow_1).before args s = true from hpre))
  obtain ⟨gc0, gr0⟩ := and_e hg
  obtain ⟨gc1, gr1⟩ := and_e gr0
  obtain ⟨gc2, gr2⟩ := and_e gr1
  obtain ⟨gc3, gr3⟩ := and_e gr2
  obtain ⟨gc4, gr4⟩ := and_e gr3
  obtain ⟨w0, w1, w2, w3, w4, rfl⟩ : ∃ w0 w1 w2 w3 w4 : Value, args = #[w0, w1, w2, w3, w4] := by
    have hs : args.size = 5 := by simpa [Cond.value, given_1] using gc0
    obtain ⟨L⟩ := args
    match L, hs with
    | [w0, w1, w2, w3, w4], _ => exact ⟨w0, w1, w2, w3, w4, rfl⟩
  have hw := fun d (hd : d ∈ tables_1) => atoms_spec (ws := Jvm.Cond.code x code maxLocals ret :: tables_1) hat d (List.mem_cons_of_mem _ hd)
  have hfit : Fit s := fun {y c} hc i hi => by
    obtain ⟨ha, rfl⟩ := Array.getElem?_eq_some_iff.mp hc
    have q := List.all_eq_true.mp ((Array.all_eq_true_iff_forall_mem.mp hF) _ (Array.getElem_mem ha)) i (List.mem_range.mpr hi)
    simpa [Array.getElem?_eq_getElem hi] using q
  obtain ⟨i0, ei0⟩ := is_v gc1
  obtain rfl : w0 = (.int i0) := Option.some.inj ei0
  obtain ⟨i1, ei1⟩ := is_v gc2
  obtain rfl : w1 = (.int i1) := Option.some.inj ei1
  obtain ⟨i2, ei2⟩ := is_v gc3
  obtain rfl : w2 = (.int i2) := Option.some.inj ei2
  obtain ⟨i3, ei3⟩ := is_v gc4
  obtain rfl : w3 = (.int i3) := Option.some.inj ei3
  obtain ⟨i4, ei4⟩ := is_v gr4
  obtain rfl : w4 = (.int i4) := Option.some.inj ei4
  obtain ⟨n, o, h1, h2, h3, _, L, rfl, ⟨rfl, N⟩, hq⟩ := rm0 l s _ hw tables_1 i0 i1 i2 i3 i4 s.heap s.heap.size (Nat.le_refl _) p e ha hc hk s m _ below hf ((Spec.applies_iff_loose hf).mp happ).1 ⟨rfl, State.Warmed39.refl s, rfl⟩ trivial
  refine ⟨n, _, h1, h2, h3, hpost _ _ _ _ _ _ ⟨Cond.after_iff.mpr rfl, Cond.after_iff.mpr (eq_i res_at (Term.int_eval (1)) rfl), trivial⟩ ⟨hq.1, hq.2.1, (hq.2.2.sift fun y hy => Or.inr (N y hy)).mono (by decide) (by decide)⟩⟩
theorem main_1_1 : Claimed_1_1 := comes_1 fun _ _ _ _ _ _ h hF => ⟨h.1, hF⟩
theorem main_1_2 : Claimed_1_2 := comes_1 fun _ _ _ _ _ _ h hF => ⟨h.2.1, hF⟩
end Jvm.Pilot.@@N@@
namespace Jvm.Pilot.@@N@@
open Jvm Jvm.ClassFile Sem Op Lib Jvm.Free Jvm.Stand Jvm.Pilot.@@N@@.Jvm.D
/-! MADE BY PROGRAM (witnessworld.py) out of the Statement's table words and the real class files: 11 classes; the members and pool entries that the words name. The judged class is class 1, her method 1. -/
namespace start1
open Jvm.ClassFile
def u (s : String) : CpInfo := .utf8 (stringToUtf16 s)
/-- a pool by its gaps: so many unusable entries, then the entry; so many at the end -/
def gap : Nat → List CpInfo → List CpInfo
  | 0, r => r
  | n + 1, r => .unusable :: gap n r
def poolList (es : List (Nat × CpInfo)) (last : Nat) : List CpInfo := es.foldr (fun e r => gap e.1 (e.2 :: r)) (gap last [])
def pool (es : List (Nat × CpInfo)) (last : Nat) : Array CpInfo := ⟨poolList es last⟩
def fileOf (pool : Array CpInfo) (this : Nat) (attrs : Array Attribute := #[]) (ms : Array MethodInfo := #[]) (fl : Nat := 33) (sup : Nat := 0) (ifs : Array Nat := #[]) (fds : Array FieldInfo := #[]) : ClassFile where
  minorVersion := 0
  majorVersion := 65
  constantPool := pool
  accessFlags := fl
  thisClass := this
  superClass := sup
  interfaces := ifs
  fields := fds
  methods := ms
  attributes := attrs
def plain (name : String) (sup : Option ClassId) : Class where
  name := name
  kind := .ordinary
  loader := none
  accessFlags := 33
  super := sup
  interfaces := #[]
  cf := none
  fields := #[]
  methods := #[]
  instanceTypes := #[]
  staticTypes := #[]
  resolved := #[]
  callSites := []
  init := .initialized
  statics := none
  mirror := none

def pool0 : Array CpInfo := pool [(5, u "<init>"), (0, u "()V"), (1, .class_ 10), (1, u "java/lang/Object")] 113

def k0c0 : Code := { maxStack := 0, maxLocals := 1, code := object_method_1_code, exceptionTable := #[], attributes := #[] }
def k0m0 : Method := { name := "<init>", desc := "()V", sig := { parameters := [], returnType := none }, accessFlags := 1, code := some k0c0 }
/-- java/lang/Object -/
def k0 : Class := { plain "java/lang/Object" none with
  accessFlags := 33
  interfaces := #[]
  cf := some (fileOf pool0 8 #[] #[{ accessFlags := 1, nameIndex := 5, descriptorIndex := 6, attributes := #[] }] 33 0 #[] #[])
  fields := #[]
  methods := #[k0m0]
  instanceTypes := #[]
  staticTypes := #[]
  resolved := Array.replicate 124 none
  statics := none }

def pool1 : Array CpInfo := pool [(2, .class_ 4), (0, .nameAndType 5 6), (0, u "java/lang/Object"), (0, u "<init>"), (0, u "()V"), (0, .class_ 8), (0, u "com/example/arcwright/arcwright/parser/IntBlocks"), (0, .integer 65540), (0, .methodref 7 3), (0, .methodref 7 12), (0, .nameAndType 13 14), (0, u "add"), (0, u "([III)V"), (0, .integer 2147483647), (0, .methodref 7 17), (0, .nameAndType 18 19), (0, u "set"), (0, u "(II)V"), (0, .methodref 7 21), (0, .nameAndType 22 23), (0, u "size"), (0, u "()I"), (0, .methodref 7 25), (0, .nameAndType 26 27), (0, u "get"), (0, u "(I)I"), (0, .class_ 29), (0, u "com/example/arcwright/arcwright/parser/IntBlocksSetPinLaw"), (2, u "law"), (0, u "(IIIII)Z")] 5

def k1m0 : Method := { name := "<init>", desc := "()V", sig := { parameters := [], returnType := none }, accessFlags := 1, code := none }
def k1c1 : Code := { maxStack := 4, maxLocals := 14, code := code, exceptionTable := #[], attributes := #[] }
def k1m1 : Method := { name := "law", desc := "(IIIII)Z", sig := { parameters := [.int, .int, .int, .int, .int], returnType := some .boolean }, accessFlags := 9, code := some k1c1 }
/-- com/example/arcwright/arcwright/parser/IntBlocksSetPinLaw -/
def k1 : Class := { plain "com/example/arcwright/arcwright/parser/IntBlocksSetPinLaw" (some 0) with
  accessFlags := 49
  interfaces := #[]
  cf := some (fileOf pool1 28 #[] #[{ accessFlags := 1, nameIndex := 5, descriptorIndex := 6, attributes := #[] }, { accessFlags := 9, nameIndex := 32, descriptorIndex := 33, attributes := #[] }] 49 2 #[] #[])
  fields := #[]
  methods := #[k1m0, k1m1]
  instanceTypes := #[]
  staticTypes := #[]
  resolved := Array.replicate 39 none
  statics := none }

def pool2 : Array CpInfo := pool [(1, .class_ 2), (0, u "com/example/arcwright/arcwright/parser/IntBlocks"), (0, .methodref 4 5), (0, .class_ 6), (0, .nameAndType 7 8), (0, u "java/lang/Object"), (0, u "<init>"), (0, u "()V"), (0, .class_ 10), (0, u "[I"), (0, .fieldref 1 12), (0, .nameAndType 13 14), (0, u "blocks"), (0, u "[[I"), (0, .fieldref 1 16), (0, .nameAndType 17 18), (0, u "size"), (0, u "I"), (0, .integer 65535), (0, .integer 65536), (2, u "get"), (0, u "(I)I"), (0, .methodref 1 26), (0, .nameAndType 27 28), (0, u "newBlock"), (0, u "(I)V"), (0, .methodref 30 31), (0, .class_ 32), (0, .nameAndType 33 34), (0, u "java/lang/Math"), (0, u "min"), (0, u "(II)I"), (0, .methodref 36 37), (0, .class_ 38), (0, .nameAndType 39 40), (0, u "java/lang/System"), (0, u "arraycopy"), (0, u "(Ljava/lang/Object;ILjava/lang/Object;II)V"), (7, u "BLOCK_BITS"), (2, u "BLOCK"), (0, u "MASK"), (2, u "()I"), (0, u "set"), (0, u "(II)V"), (3, u "add"), (0, u "([III)V")] 4

def k2c0 : Code := { maxStack := 2, maxLocals := 1, code := prog_29_method_1_code, exceptionTable := #[], attributes := #[] }
def k2m0 : Method := { name := "<init>", desc := "()V", sig := { parameters := [], returnType := none }, accessFlags := 0, code := some k2c0 }
def k2c1 : Code := { maxStack := 1, maxLocals := 1, code := prog_29_method_2_code, exceptionTable := #[], attributes := #[] }
def k2m1 : Method := { name := "size", desc := "()I", sig := { parameters := [], returnType := some .int }, accessFlags := 0, code := some k2c1 }
def k2c2 : Code := { maxStack := 3, maxLocals := 2, code := prog_29_method_3_code, exceptionTable := #[], attributes := #[] }
def k2m2 : Method := { name := "get", desc := "(I)I", sig := { parameters := [.int], returnType := some .int }, accessFlags := 0, code := some k2c2 }
def k2c3 : Code := { maxStack := 3, maxLocals := 3, code := prog_29_method_4_code, exceptionTable := #[], attributes := #[] }
def k2m3 : Method := { name := "set", desc := "(II)V", sig := { parameters := [.int, .int], returnType := none }, accessFlags := 0, code := some k2c3 }
def k2c4 : Code := { maxStack := 5, maxLocals := 7, code := prog_29_method_7_code, exceptionTable := #[], attributes := #[] }
def k2m4 : Method := { name := "add", desc := "([III)V", sig := { parameters := [(.array .int), .int, .int], returnType := none }, accessFlags := 0, code := some k2c4 }
def k2c5 : Code := { maxStack := 4, maxLocals := 2, code := prog_29_method_9_code, exceptionTable := #[], attributes := #[] }
def k2m5 : Method := { name := "newBlock", desc := "(I)V", sig := { parameters := [.int], returnType := none }, accessFlags := 2, code := some k2c5 }
/-- com/example/arcwright/arcwright/parser/IntBlocks -/
def k2 : Class := { plain "com/example/arcwright/arcwright/parser/IntBlocks" (some 0) with
  accessFlags := 48
  interfaces := #[]
  cf := some (fileOf pool2 1 #[] #[{ accessFlags := 0, nameIndex := 7, descriptorIndex := 8, attributes := #[] }, { accessFlags := 0, nameIndex := 17, descriptorIndex := 55, attributes := #[] }, { accessFlags := 0, nameIndex := 23, descriptorIndex := 24, attributes := #[] }, { accessFlags := 0, nameIndex := 56, descriptorIndex := 57, attributes := #[] }, { accessFlags := 0, nameIndex := 61, descriptorIndex := 62, attributes := #[] }, { accessFlags := 2, nameIndex := 27, descriptorIndex := 28, attributes := #[] }] 48 4 #[] #[{ accessFlags := 26, nameIndex := 48, descriptorIndex := 18, attributes := #[] }, { accessFlags := 24, nameIndex := 51, descriptorIndex := 18, attributes := #[] }, { accessFlags := 26, nameIndex := 52, descriptorIndex := 18, attributes := #[] }, { accessFlags := 2, nameIndex := 13, descriptorIndex := 14, attributes := #[] }, { accessFlags := 2, nameIndex := 17, descriptorIndex := 18, attributes := #[] }])
  fields := #[{ name := "BLOCK_BITS", type := .int, accessFlags := 26, slot := 0, constantValue := 0 }, { name := "BLOCK", type := .int, accessFlags := 24, slot := 1, constantValue := 0 }, { name := "MASK", type := .int, accessFlags := 26, slot := 2, constantValue := 0 }, { name := "blocks", type := (.array (.array .int)), accessFlags := 2, slot := 0, constantValue := 0 }, { name := "size", type := .int, accessFlags := 2, slot := 1, constantValue := 0 }]
  methods := #[k2m0, k2m1, k2m2, k2m3, k2m4, k2m5]
  instanceTypes := #[(.array (.array .int)), .int]
  staticTypes := #[.int, .int, .int]
  resolved := Array.replicate 67 none
  statics := none }

def pool3 : Array CpInfo := pool [(1, .class_ 2), (0, u "java/lang/Math"), (1, .class_ 6), (1, u "java/lang/Object"), (0, u "<init>"), (0, u "()V"), (89, .class_ 100), (1, u "java/lang/Math$RandomNumberGeneratorHolder"), (71, u "negativeZeroFloatBits"), (0, u "J"), (2, u "negativeZeroDoubleBits"), (24, u "min"), (43, u "$assertionsDisabled"), (0, u "Z"), (88, u "(II)I"), (2, u "twoToTheDoubleScaleDown"), (0, u "D"), (4, u "twoToTheDoubleScaleUp"), (9, u "E"), (3, u "PI"), (2, u "TAU"), (2, u "DEGREES_TO_RADIANS"), (0, u "RADIANS_TO_DEGREES")] 94

def k3m0 : Method := { name := "<init>", desc := "()V", sig := { parameters := [], returnType := none }, accessFlags := 2, code := none }
def k3c1 : Code := { maxStack := 2, maxLocals := 2, code := jdk_29_method_69_code, exceptionTable := #[], attributes := #[] }
def k3m1 : Method := { name := "min", desc := "(II)I", sig := { parameters := [.int, .int], returnType := some .int }, accessFlags := 9, code := some k3c1 }
/-- java/lang/Math -/
def k3 : Class := { plain "java/lang/Math" (some 0) with
  accessFlags := 49
  interfaces := #[]
  cf := some (fileOf pool3 1 #[.nestMembers #[98]] #[{ accessFlags := 2, nameIndex := 7, descriptorIndex := 8, attributes := #[] }, { accessFlags := 9, nameIndex := 201, descriptorIndex := 335, attributes := #[] }] 49 4 #[] #[{ accessFlags := 25, nameIndex := 354, descriptorIndex := 339, attributes := #[] }, { accessFlags := 25, nameIndex := 358, descriptorIndex := 339, attributes := #[] }, { accessFlags := 25, nameIndex := 361, descriptorIndex := 339, attributes := #[] }, { accessFlags := 26, nameIndex := 364, descriptorIndex := 339, attributes := #[] }, { accessFlags := 26, nameIndex := 365, descriptorIndex := 339, attributes := #[] }, { accessFlags := 26, nameIndex := 172, descriptorIndex := 173, attributes := #[] }, { accessFlags := 26, nameIndex := 176, descriptorIndex := 173, attributes := #[] }, { accessFlags := 8, nameIndex := 344, descriptorIndex := 339, attributes := #[] }, { accessFlags := 8, nameIndex := 338, descriptorIndex := 339, attributes := #[] }, { accessFlags := 4120, nameIndex := 245, descriptorIndex := 246, attributes := #[] }])
  fields := #[{ name := "E", type := .double, accessFlags := 25, slot := 0, constantValue := 0 }, { name := "PI", type := .double, accessFlags := 25, slot := 1, constantValue := 0 }, { name := "TAU", type := .double, accessFlags := 25, slot := 2, constantValue := 0 }, { name := "DEGREES_TO_RADIANS", type := .double, accessFlags := 26, slot := 3, constantValue := 0 }, { name := "RADIANS_TO_DEGREES", type := .double, accessFlags := 26, slot := 4, constantValue := 0 }, { name := "negativeZeroFloatBits", type := .long, accessFlags := 26, slot := 5, constantValue := 0 }, { name := "negativeZeroDoubleBits", type := .long, accessFlags := 26, slot := 6, constantValue := 0 }, { name := "twoToTheDoubleScaleUp", type := .double, accessFlags := 8, slot := 7, constantValue := 0 }, { name := "twoToTheDoubleScaleDown", type := .double, accessFlags := 8, slot := 8, constantValue := 0 }, { name := "$assertionsDisabled", type := .boolean, accessFlags := 4120, slot := 9, constantValue := 0 }]
  methods := #[k3m0, k3m1]
  instanceTypes := #[]
  staticTypes := #[.double, .double, .double, .double, .double, .long, .long, .double, .double, .boolean]
  resolved := Array.replicate 460 none
  statics := none }

def pool4 : Array CpInfo := pool [(2, .class_ 4), (1, u "java/lang/Object"), (0, u "<init>"), (0, u "()V"), (1, .class_ 10), (1, u "java/lang/System"), (0, u "allowSecurityManager"), (0, u "I"), (16, u "cons"), (0, u "Ljava/io/Console;"), (77, .class_ 110), (1, u "java/lang/System$CallersHolder"), (43, u "initialErrStream"), (0, u "Ljava/io/PrintStream;"), (19, u "security"), (0, u "Ljava/lang/SecurityManager;"), (31, .class_ 209), (0, u "java/lang/System$1"), (7, u "props"), (0, u "Ljava/util/Properties;"), (2, u "lineSeparator"), (0, u "Ljava/lang/String;"), (96, .class_ 321), (1, u "java/lang/System$LoggerFinder"), (5, .class_ 328), (0, u "java/lang/System$Logger"), (67, u "err"), (2, u "out"), (91, u "notSupportedJnuEncoding"), (15, u "in"), (17, u "initialIn"), (0, u "Ljava/io/InputStream;"), (35, u "bootLayer"), (0, u "Ljava/lang/ModuleLayer;"), (99, .class_ 664), (0, u "java/lang/System$2"), (9, u "NEVER"), (2, u "MAYBE"), (49, u "arraycopy"), (0, u "(Ljava/lang/Object;ILjava/lang/Object;II)V"), (72, .class_ 802), (0, u "java/lang/System$Logger$Level")] 31

def k4m0 : Method := { name := "<init>", desc := "()V", sig := { parameters := [], returnType := none }, accessFlags := 2, code := none }
def k4m1 : Method := { name := "arraycopy", desc := "(Ljava/lang/Object;ILjava/lang/Object;II)V", sig := { parameters := [(.object "java/lang/Object"), .int, (.object "java/lang/Object"), .int, .int], returnType := none }, accessFlags := 265, code := none }
/-- java/lang/System -/
def k4 : Class := { plain "java/lang/System" (some 0) with
  accessFlags := 49
  interfaces := #[]
  cf := some (fileOf pool4 8 #[.nestMembers #[319, 327, 801, 108, 663, 208]] #[{ accessFlags := 2, nameIndex := 5, descriptorIndex := 6, attributes := #[] }, { accessFlags := 265, nameIndex := 727, descriptorIndex := 728, attributes := #[] }] 49 2 #[] #[{ accessFlags := 25, nameIndex := 507, descriptorIndex := 526, attributes := #[] }, { accessFlags := 25, nameIndex := 399, descriptorIndex := 155, attributes := #[] }, { accessFlags := 25, nameIndex := 396, descriptorIndex := 155, attributes := #[] }, { accessFlags := 10, nameIndex := 525, descriptorIndex := 526, attributes := #[] }, { accessFlags := 26, nameIndex := 674, descriptorIndex := 12, attributes := #[] }, { accessFlags := 26, nameIndex := 677, descriptorIndex := 12, attributes := #[] }, { accessFlags := 10, nameIndex := 11, descriptorIndex := 12, attributes := #[] }, { accessFlags := 74, nameIndex := 175, descriptorIndex := 176, attributes := #[] }, { accessFlags := 10, nameIndex := 491, descriptorIndex := 222, attributes := #[] }, { accessFlags := 74, nameIndex := 29, descriptorIndex := 30, attributes := #[] }, { accessFlags := 74, nameIndex := 154, descriptorIndex := 155, attributes := #[] }, { accessFlags := 10, nameIndex := 217, descriptorIndex := 218, attributes := #[] }, { accessFlags := 10, nameIndex := 221, descriptorIndex := 222, attributes := #[] }, { accessFlags := 8, nameIndex := 562, descriptorIndex := 563, attributes := #[] }])
  fields := #[{ name := "in", type := (.object "java/io/InputStream"), accessFlags := 25, slot := 0, constantValue := 0 }, { name := "out", type := (.object "java/io/PrintStream"), accessFlags := 25, slot := 1, constantValue := 0 }, { name := "err", type := (.object "java/io/PrintStream"), accessFlags := 25, slot := 2, constantValue := 0 }, { name := "initialIn", type := (.object "java/io/InputStream"), accessFlags := 10, slot := 3, constantValue := 0 }, { name := "NEVER", type := .int, accessFlags := 26, slot := 4, constantValue := 0 }, { name := "MAYBE", type := .int, accessFlags := 26, slot := 5, constantValue := 0 }, { name := "allowSecurityManager", type := .int, accessFlags := 10, slot := 6, constantValue := 0 }, { name := "security", type := (.object "java/lang/SecurityManager"), accessFlags := 74, slot := 7, constantValue := 0 }, { name := "notSupportedJnuEncoding", type := (.object "java/lang/String"), accessFlags := 10, slot := 8, constantValue := 0 }, { name := "cons", type := (.object "java/io/Console"), accessFlags := 74, slot := 9, constantValue := 0 }, { name := "initialErrStream", type := (.object "java/io/PrintStream"), accessFlags := 74, slot := 10, constantValue := 0 }, { name := "props", type := (.object "java/util/Properties"), accessFlags := 10, slot := 11, constantValue := 0 }, { name := "lineSeparator", type := (.object "java/lang/String"), accessFlags := 10, slot := 12, constantValue := 0 }, { name := "bootLayer", type := (.object "java/lang/ModuleLayer"), accessFlags := 8, slot := 13, constantValue := 0 }]
  methods := #[k4m0, k4m1]
  instanceTypes := #[]
  staticTypes := #[(.object "java/io/InputStream"), (.object "java/io/PrintStream"), (.object "java/io/PrintStream"), (.object "java/io/InputStream"), .int, .int, .int, (.object "java/lang/SecurityManager"), (.object "java/lang/String"), (.object "java/io/Console"), (.object "java/io/PrintStream"), (.object "java/util/Properties"), (.object "java/lang/String"), (.object "java/lang/ModuleLayer")]
  resolved := Array.replicate 834 none
  statics := none }

def pool5 : Array CpInfo := pool [(1, u "java/lang/Cloneable"), (0, .class_ 1), (0, u "java/lang/Object"), (0, .class_ 3)] 3

/-- java/lang/Cloneable -/
def k5 : Class := { plain "java/lang/Cloneable" (some 0) with
  accessFlags := 1537
  interfaces := #[]
  cf := some (fileOf pool5 2 #[] #[] 1537 4 #[] #[])
  fields := #[]
  methods := #[]
  instanceTypes := #[]
  staticTypes := #[]
  resolved := Array.replicate 8 none
  statics := none }

def pool6 : Array CpInfo := pool [(1, u "java/io/Serializable"), (0, .class_ 1), (0, u "java/lang/Object"), (0, .class_ 3)] 3

/-- java/io/Serializable -/
def k6 : Class := { plain "java/io/Serializable" (some 0) with
  accessFlags := 1537
  interfaces := #[]
  cf := some (fileOf pool6 2 #[] #[] 1537 4 #[] #[])
  fields := #[]
  methods := #[]
  instanceTypes := #[]
  staticTypes := #[]
  resolved := Array.replicate 8 none
  statics := none }

/-- the primitive byte -/
def k7 : Class := { plain "byte" none with kind := .primitive 'B', accessFlags := 0x411 }
/-- [B -/
def k8 : Class := { plain "[B" (some 0) with kind := .array 7 .byte, interfaces := #[5, 6], accessFlags := 1041 }

/-- the primitive int -/
def k9 : Class := { plain "int" none with kind := .primitive 'I', accessFlags := 0x411 }
/-- [I -/
def k10 : Class := { plain "[I" (some 0) with kind := .array 9 .int, interfaces := #[5, 6], accessFlags := 1041 }

def k11 : Class := { plain "[[I" (some 0) with kind := .array 10 (.array .int), interfaces := #[5, 6], accessFlags := 1041 }
def heap : Heap := #[]
def classes : Array Class := #[k0, k1, k2, k3, k4, k5, k6, k7, k8, k9, k10, k11]
def interned : List (Array UInt16 × Addr) := []
def slotsUsed : Nat := 0
def theMethod : MethodId := ⟨1, 1⟩
def args0 : Array Value := #[.int 5, .int 6, .int 7, .int 8, .int 9]
def aboutOver (below : List Frame) : State where
  vm := { classes := classes, interned := interned.toArray }
  heap := heap
  slotsUsed := slotsUsed
  threads := #[{ frames := .invoking theMethod args0 :: below }]
def below0 : List Frame := [.native { method := ⟨0, 0⟩, args := #[] }]
def about1 : State := aboutOver below0
def p0 : Program := .bare "" "" ""
def e0 : Env := launch0.env 0 0 0
theorem w_frames : about1.frames = Frame.invoking theMethod args0 :: below0 := rfl
set_option maxRecDepth 65536 in
theorem w_args : argsFit about1.vm theMethod args0 = true := by decide +kernel
set_option maxRecDepth 65536 in
theorem w_heap : heapFits about1 = true := by decide +kernel
set_option maxRecDepth 65536 in
theorem w_runnable : about1.curStatus? = some .runnable := by decide +kernel
set_option maxRecDepth 65536 in
theorem w_alone : about1.alone = true := by decide +kernel
set_option maxRecDepth 65536 in
theorem w_named : about1.methodNamed? x = some theMethod := by decide +kernel
set_option maxRecDepth 65536 in
theorem w_hears : about1.hears theMethod below0 = true := by decide +kernel
set_option maxRecDepth 65536 in
theorem w_ripe : about1.ripe theMethod args0 below0 = true := by decide +kernel
theorem w_running : about1.status = .running := rfl
set_option maxRecDepth 65536 in
theorem w_room : about1.hasRoom e0.platform room_1 = true :=
  launch0.hasRoom_least _ room_1 (by decide +kernel) (by decide +kernel) (by decide +kernel) (by decide +kernel) (by decide +kernel) (by decide +kernel)
theorem allAtoms_all (ts : List Jvm.Cond) (a : Array Jvm.Value) (st : Jvm.State) : (allAtoms ts).before a st = ts.all (fun c => c.before a st) := by
  induction ts with
  | nil => rfl
  | cons c t ih =>
    show (Jvm.Cond.and c (allAtoms t)).before a st = _
    rw [Jvm.Cond.before_and, ih, List.all_cons]
def words1 : List Jvm.Cond := Jvm.Cond.code x code maxLocals ret :: tables_1
/-- a 'code' word, met by the world's own term for the bytes: nothing is compared byte by byte -/
theorem code_word {y : MethodName} {bytes : ByteArray} {mx : Nat} {rt : Option FieldType} {a : Array Value} {s : State} {m : MethodId} {meth : Method} {c : Code} (h1 : s.methodNamed? y = some m) (h2 : s.vm.method? m = some meth) (h3 : meth.code = some c) (h4 : c.code = bytes)
    (h5 : (c.maxLocals == mx && c.exceptionTable.isEmpty && decide (c.maxStack ≤ mostOperands) && decide (meth.sig.returnType = rt) && !meth.locks && decide (parseMethodDescriptor y.desc = some meth.sig)) = true) : (Jvm.Cond.code y bytes mx rt).before a s = true := by
  simp only [Bool.and_eq_true, beq_iff_eq, Bool.not_eq_true', decide_eq_true_eq] at h5
  obtain ⟨⟨⟨⟨⟨g1, g2⟩, g3⟩, g4⟩, g5⟩, g6⟩ := h5
  simp [Cond.before, Cond.holds, Cond.value, h1, h2, h3, h4, g1, g2, g3, g4, g5, g6]
def isCode : Jvm.Cond → Bool
  | .code _ _ _ _ => true
  | _ => false
theorem all_split {L : List Jvm.Cond} {P : Jvm.Cond → Bool} (h1 : L.all (fun c => isCode c || P c) = true) (h2 : ∀ c ∈ L.filter isCode, P c = true) : L.all P = true := by
  refine List.all_eq_true.mpr fun c hc => ?_
  have h := List.all_eq_true.mp h1 c hc
  rcases Bool.eq_false_or_eq_true (isCode c) with hi | hi
  · exact h2 c (List.mem_filter.mpr ⟨hc, hi⟩)
  · simpa [hi] using h
set_option maxRecDepth 65536 in
theorem w_c0 : (Jvm.Cond.code x code maxLocals ret).before args0 about1 = true := code_word (m := ⟨1, 1⟩) (meth := k1m1) (c := k1c1) (by decide +kernel) rfl rfl rfl (by decide +kernel)
set_option maxRecDepth 65536 in
theorem w_c1 : (Jvm.Cond.code ({ cls := "com/example/arcwright/arcwright/parser/IntBlocks", name := "<init>", desc := "()V" } : Jvm.MethodName) prog_29_method_1_code (1 : Nat) (Option.none : Option Jvm.ClassFile.FieldType)).before args0 about1 = true := code_word (m := ⟨2, 0⟩) (meth := k2m0) (c := k2c0) (by decide +kernel) rfl rfl rfl (by decide +kernel)
set_option maxRecDepth 65536 in
theorem w_c2 : (Jvm.Cond.code ({ cls := "java/lang/Object", name := "<init>", desc := "()V" } : Jvm.MethodName) object_method_1_code (1 : Nat) (Option.none : Option Jvm.ClassFile.FieldType)).before args0 about1 = true := code_word (m := ⟨0, 0⟩) (meth := k0m0) (c := k0c0) (by decide +kernel) rfl rfl rfl (by decide +kernel)
set_option maxRecDepth 65536 in
theorem w_c3 : (Jvm.Cond.code ({ cls := "com/example/arcwright/arcwright/parser/IntBlocks", name := "add", desc := "([III)V" } : Jvm.MethodName) prog_29_method_7_code (7 : Nat) (Option.none : Option Jvm.ClassFile.FieldType)).before args0 about1 = true := code_word (m := ⟨2, 4⟩) (meth := k2m4) (c := k2c4) (by decide +kernel) rfl rfl rfl (by decide +kernel)
set_option maxRecDepth 65536 in
theorem w_c4 : (Jvm.Cond.code ({ cls := "com/example/arcwright/arcwright/parser/IntBlocks", name := "newBlock", desc := "(I)V" } : Jvm.MethodName) prog_29_method_9_code (2 : Nat) (Option.none : Option Jvm.ClassFile.FieldType)).before args0 about1 = true := code_word (m := ⟨2, 5⟩) (meth := k2m5) (c := k2c5) (by decide +kernel) rfl rfl rfl (by decide +kernel)
set_option maxRecDepth 65536 in
theorem w_c5 : (Jvm.Cond.code ({ cls := "java/lang/Math", name := "min", desc := "(II)I" } : Jvm.MethodName) jdk_29_method_69_code (2 : Nat) (Option.some Jvm.ClassFile.FieldType.int)).before args0 about1 = true := code_word (m := ⟨3, 1⟩) (meth := k3m1) (c := k3c1) (by decide +kernel) rfl rfl rfl (by decide +kernel)
set_option maxRecDepth 65536 in
theorem w_c6 : (Jvm.Cond.code ({ cls := "com/example/arcwright/arcwright/parser/IntBlocks", name := "set", desc := "(II)V" } : Jvm.MethodName) prog_29_method_4_code (3 : Nat) (Option.none : Option Jvm.ClassFile.FieldType)).before args0 about1 = true := code_word (m := ⟨2, 3⟩) (meth := k2m3) (c := k2c3) (by decide +kernel) rfl rfl rfl (by decide +kernel)
set_option maxRecDepth 65536 in
theorem w_c7 : (Jvm.Cond.code ({ cls := "com/example/arcwright/arcwright/parser/IntBlocks", name := "size", desc := "()I" } : Jvm.MethodName) prog_29_method_2_code (1 : Nat) (Option.some Jvm.ClassFile.FieldType.int)).before args0 about1 = true := code_word (m := ⟨2, 1⟩) (meth := k2m1) (c := k2c1) (by decide +kernel) rfl rfl rfl (by decide +kernel)
set_option maxRecDepth 65536 in
theorem w_c8 : (Jvm.Cond.code ({ cls := "com/example/arcwright/arcwright/parser/IntBlocks", name := "get", desc := "(I)I" } : Jvm.MethodName) prog_29_method_3_code (2 : Nat) (Option.some Jvm.ClassFile.FieldType.int)).before args0 about1 = true := code_word (m := ⟨2, 2⟩) (meth := k2m2) (c := k2c2) (by decide +kernel) rfl rfl rfl (by decide +kernel)
def codes1 : List Jvm.Cond := [Jvm.Cond.code x code maxLocals ret, Jvm.Cond.code ({ cls := "com/example/arcwright/arcwright/parser/IntBlocks", name := "<init>", desc := "()V" } : Jvm.MethodName) prog_29_method_1_code (1 : Nat) (Option.none : Option Jvm.ClassFile.FieldType), Jvm.Cond.code ({ cls := "java/lang/Object", name := "<init>", desc := "()V" } : Jvm.MethodName) object_method_1_code (1 : Nat) (Option.none : Option Jvm.ClassFile.FieldType), Jvm.Cond.code ({ cls := "com/example/arcwright/arcwright/parser/IntBlocks", name := "add", desc := "([III)V" } : Jvm.MethodName) prog_29_method_7_code (7 : Nat) (Option.none : Option Jvm.ClassFile.FieldType), Jvm.Cond.code ({ cls := "com/example/arcwright/arcwright/parser/IntBlocks", name := "newBlock", desc := "(I)V" } : Jvm.MethodName) prog_29_method_9_code (2 : Nat) (Option.none : Option Jvm.ClassFile.FieldType), Jvm.Cond.code ({ cls := "java/lang/Math", name := "min", desc := "(II)I" } : Jvm.MethodName) jdk_29_method_69_code (2 : Nat) (Option.some Jvm.ClassFile.FieldType.int), Jvm.Cond.code ({ cls := "com/example/arcwright/arcwright/parser/IntBlocks", name := "set", desc := "(II)V" } : Jvm.MethodName) prog_29_method_4_code (3 : Nat) (Option.none : Option Jvm.ClassFile.FieldType), Jvm.Cond.code ({ cls := "com/example/arcwright/arcwright/parser/IntBlocks", name := "size", desc := "()I" } : Jvm.MethodName) prog_29_method_2_code (1 : Nat) (Option.some Jvm.ClassFile.FieldType.int), Jvm.Cond.code ({ cls := "com/example/arcwright/arcwright/parser/IntBlocks", name := "get", desc := "(I)I" } : Jvm.MethodName) prog_29_method_3_code (2 : Nat) (Option.some Jvm.ClassFile.FieldType.int)]
set_option maxRecDepth 65536 in
theorem codes_eq : words1.filter isCode = codes1 := rfl
theorem w_codes : ∀ c ∈ words1.filter isCode, c.before args0 about1 = true := by
  rw [codes_eq]
  intro c hc
  simp only [codes1, List.mem_cons, List.not_mem_nil, or_false] at hc
  rcases hc with rfl | rfl | rfl | rfl | rfl | rfl | rfl | rfl | rfl
  · exact w_c0
  · exact w_c1
  · exact w_c2
  · exact w_c3
  · exact w_c4
  · exact w_c5
  · exact w_c6
  · exact w_c7
  · exact w_c8
set_option maxRecDepth 65536 in
theorem w_t1 : (words1.take 24).all (fun c => isCode c || c.before args0 about1) = true := by decide +kernel
set_option maxRecDepth 65536 in
theorem w_t2 : ((words1.drop 24).take 24).all (fun c => isCode c || c.before args0 about1) = true := by decide +kernel
set_option maxRecDepth 65536 in
theorem w_t3 : ((words1.drop 24).drop 24).all (fun c => isCode c || c.before args0 about1) = true := by decide +kernel
theorem w_tables : (allAtoms (Jvm.Cond.code x code maxLocals ret :: tables_1)).before args0 about1 = true := by
  rw [allAtoms_all]
  show words1.all (fun c => c.before args0 about1) = true
  refine all_split ?_ w_codes
  rw [← List.take_append_drop 24 words1, List.all_append, w_t1, ← List.take_append_drop 24 (words1.drop 24), List.all_append, w_t2, w_t3]
  rfl
set_option maxRecDepth 65536 in
theorem w_case : (Jvm.Cond.and given_1 narrow_1).before args0 about1 = true := by decide +kernel
theorem w_applies : (headSpec (Jvm.Cond.code x code maxLocals ret :: tables_1) room_1).applies x e0.platform about1 = true :=
  (Spec.applies_iff w_frames).mpr ⟨w_running, w_runnable, w_alone, w_named, w_hears, w_ripe, w_room, w_tables⟩
theorem atStart : AtStart classFile x code maxLocals ret World_1 tables_1 room_1 Calls_1 rest_1 Pre_1 launch0 p0 e0 about1 theMethod args0 below0 :=
  ⟨lists_1, trivial, launch0.admits_env _ _ _, launch0.least_env, fairChoices_fair.cas, fairChoices_fair.clock, w_frames, w_args, w_heap, w_applies, trivial, trivial, w_case⟩
end start1
theorem witness_1 : WitnessClaimed_1 := ⟨start1.p0, start1.e0, start1.about1, start1.theMethod, start1.args0, start1.below0, start1.atStart⟩
end Jvm.Pilot.@@N@@
