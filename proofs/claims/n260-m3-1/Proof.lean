import JvmDerived
import JvmDerived.Pilot.@@N@@Statement
import JvmDerived.Pilot.@@N@@Code
set_option linter.unusedVariables false
set_option linter.unusedSimpArgs false
@@BLOCK:NumsL.lean.txt@@
namespace Jvm.RoadKit
open Sem ClassFile Op Lib Jvm.Stand Jvm.Free Jvm.LawKit
/-- a step taken in front of a run that ends well -/
theorem own_go {tb : Tables} {e : Env} {below : List Frame} {a b : State} {P : State → Outcome → Prop} (h : ∀ target, Steps tb e below b target → Steps tb e below a target) (k : ∃ t o, Steps tb e below b t ∧ P t o) : ∃ t o, Steps tb e below a t ∧ P t o := by
  obtain ⟨t, o, h1, h2⟩ := k
  exact ⟨t, o, h _ h1, h2⟩
theorem own_ne {a n m b : Nat} (h1 : a < n) (h2 : n ≤ m) (h3 : m ≤ b) : a ≠ b := Nat.ne_of_lt (Nat.lt_of_lt_of_le h1 (Nat.le_trans h2 h3))
theorem own_tr {a b c : Nat} (h1 : a ≤ b) (h2 : b ≤ c) : a ≤ c := Nat.le_trans h1 h2
/-- a word of the tables by its place -/
theorem ow {ws : List Jvm.Cond} {a0 : Array Value} {Z : State} (hw : ∀ d ∈ ws, d.before a0 Z = true) (i : Nat) {d : Jvm.Cond} (h : ws[i]? = some d) : d.before a0 Z = true := hw d (List.mem_of_getElem? h)
/-- several roads meet -/
theorem own_join {A : Type} {C : A → Prop} {tb : Tables} {e : Env} {below : List Frame} {P : State → Outcome → Prop} {f : A → State} {a : State} (body : ∀ x, C x → ∃ t o, Steps tb e below (f x) t ∧ P t o)
    (use : (∀ x, C x → ∃ t o, Steps tb e below (f x) t ∧ P t o) → ∃ t o, Steps tb e below a t ∧ P t o) : ∃ t o, Steps tb e below a t ∧ P t o := use body
/-- a private method is its own selection -/
theorem own_selp {args : Array Value} {s : State} {y : MethodName} {n : Nat} (wi : (Cond.instantiable y.cls n).before args s = true) (wp : (Cond.privateMethod y).before args s = true) (wm : (Cond.instanceMethod y).before args s = true) (ny : y.cls ≠ "java/lang/invoke/MethodHandle" ∧ y.cls ≠ "java/lang/invoke/VarHandle") :
    (Cond.selects y.cls y y).before args s = true := by
  obtain ⟨c, k, h1, h2, -, h4, -⟩ := Cond.instantiable_spec wi
  obtain ⟨m, meth, g1, g2, -⟩ := Cond.instanceMethod_spec wm
  have hp := Cond.privateMethod_at wp m meth g1 g2
  have hc : m.cls = c := by
    have := findClass_of_methodNamed g1
    rw [h1] at this; exact (Option.some.inj this).symm
  have hi : k.isInterface = false := by simp at h4; exact h4.1
  have hf : s.methodFound? y.cls y.name y.desc = some m := State.methodFound?_of_named g1 ny
  simp [Cond.before, Cond.holds, Cond.value, h1, hf, g1, selectMethod_private g2 hp, hc, h2, hi]
section OwnCalls
variable {p : Program} {l : Launch} {e : Env} {R : Room} {s : State} {m : MethodId} {args : Array Value} {below : List Frame} {meth : Method} {c : Code} {T : State} {locs : List Loc} {cells slots : Nat} {Z : State} {a0 : Array Value} {h : Heap} {P : State → Outcome → Prop}
  {own C : String} {index W : Nat} {y z : MethodName} {bytes : ByteArray} {maxL : Nat} {ret : Option FieldType} {rm : Room} {Q : Option Value → Heap → List Loc → Prop} {b : Addr} {g : JFrame} {argsL rest : List Value}
/-- a static call by its contract, taken in front of a run that ends well -/
theorem own_stat (X : Stand p l e R s m args below meth c T locs cells slots) (hx : p.tables.exec = Jvm.exec) (hZ : Z.Warmed39 s.vm) (hown : s.vm.findClass own = some m.cls) (E : T.heap = h)
    (w1 : (Cond.methodLink own index y).before a0 Z = true) (w2 : (Cond.static y).before a0 Z = true)
    (hM : MetFree l y (head1 [Cond.code y bytes maxL ret] rm) (fun a U => a = argsL.toArray ∧ Z.Warmed39 U.vm ∧ U.heap = h) (fun _ _ _ _ _ => True) (fun _ U o U' => ∃ v L, o = .returned v ∧ Q v U'.heap L ∧ FrameEnd U o U' L rm.cells rm.slots))
    (wc : (Cond.code y bytes maxL ret).before a0 Z = true) (wz : (Cond.initialized y.cls).before a0 Z = true)
    (hg : g.method = m) (hsize : g.locals.size = c.maxLocals) (hs : g.stack = argsL.reverse ++ rest) (hd : decode c.code g.pc = .ok (.invokestatic index, 3))
    (hlen : ∀ sig, parseMethodDescriptor y.desc = some sig → argsL.length = sig.parameters.length) (hW : 2 * g.monitorRoom + (rest.map fun v => v.category).sum = W)
    (hnum : (y.cls ≠ "java/lang/invoke/MethodHandle" ∧ y.cls ≠ "java/lang/invoke/VarHandle") ∧ rm.frames + 1 ≤ R.frames ∧ W + (maxL + 11) + rm.locals ≤ R.locals ∧ cells + rm.cells ≤ R.cells ∧ slots + rm.slots ≤ R.slots)
    (K : ∀ (T' : State) (v : Option Value) (L : List Loc), Stand p l e R s m args below meth c T' (locs ++ L) (cells + rm.cells) (slots + rm.slots) → Q v T'.heap L → ∃ t o, Steps p.tables e below (T'.setTop { g with pc := g.pc + 3, stack := v.toList ++ rest }) t ∧ P t o) :
    ∃ t o, Steps p.tables e below (T.setTop g) t ∧ P t o := by
  obtain ⟨hy, hf, hl, hc, hsl⟩ := hnum
  obtain ⟨v, _, ⟨T', L, kz, nz⟩, -, X', ⟨Lc, hQ, l1, y1, z1⟩, st⟩ := Jvm.LawKit.callS X hx (y := y) hown (mvT hZ w1) (mvT hZ w2) (mvT hZ wz) (mvT hZ wc) hy (backOf (W := W) hM hZ wc wz hf hl) (g := g) hg hsize (argsL := argsL) (rest := rest) hlen hs (Nat.le_of_eq hW) hd (fun _ _ => ⟨rfl, E, hc, hsl⟩)
  dsimp only [Pt.U, Pt.locs, Pt.cells, Pt.slots] at X' l1 y1 z1 st hQ
  subst l1 y1 z1
  obtain ⟨t, o, k1, k2⟩ := K T' v Lc X' hQ
  exact ⟨t, o, st _ k1, k2⟩
/-- a constructor by its contract -/
theorem own_spec (X : Stand p l e R s m args below meth c T locs cells slots) (hx : p.tables.exec = Jvm.exec) (hZ : Z.Warmed39 s.vm) (hown : s.vm.findClass own = some m.cls) (E : T.heap = h)
    (w1 : (Cond.methodLink own index y).before a0 Z = true) (w2 : (Cond.instanceMethod y).before a0 Z = true)
    (hM : MetFree l y (head1 [Cond.code y bytes maxL none] rm) (fun a U => a = (.ref b :: argsL).toArray ∧ Z.Warmed39 U.vm ∧ U.heap = h) (fun _ _ _ _ _ => True) (fun _ U o U' => ∃ v L, o = .returned v ∧ Q v U'.heap L ∧ FrameEnd U o U' L rm.cells rm.slots))
    (wc : (Cond.code y bytes maxL none).before a0 Z = true) (wz : (Cond.initialized y.cls).before a0 Z = true)
    (hg : g.method = m) (hsize : g.locals.size = c.maxLocals) (hs : g.stack = argsL.reverse ++ .ref b :: rest) (hd : decode c.code g.pc = .ok (.invokespecial index, 3))
    (hlen : ∀ sig, parseMethodDescriptor y.desc = some sig → argsL.length = sig.parameters.length) (hW : 2 * g.monitorRoom + (rest.map fun v => v.category).sum = W)
    (hy1 : y.name = "<init>") (hnum : (y.cls ≠ "java/lang/invoke/MethodHandle" ∧ y.cls ≠ "java/lang/invoke/VarHandle") ∧ rm.frames + 1 ≤ R.frames ∧ W + (maxL + 11) + rm.locals ≤ R.locals ∧ cells + rm.cells ≤ R.cells ∧ slots + rm.slots ≤ R.slots)
    (K : ∀ (T' : State) (v : Option Value) (L : List Loc), Stand p l e R s m args below meth c T' (locs ++ L) (cells + rm.cells) (slots + rm.slots) → Q v T'.heap L → ∃ t o, Steps p.tables e below (T'.setTop { g with pc := g.pc + 3, stack := v.toList ++ rest }) t ∧ P t o) :
    ∃ t o, Steps p.tables e below (T.setTop g) t ∧ P t o := by
  obtain ⟨hy, hf, hl, hc, hsl⟩ := hnum
  obtain ⟨v, _, ⟨T', L, kz, nz⟩, -, X', ⟨Lc, hQ, l1, y1, z1⟩, st⟩ := X.specialBack hx (y := y) hy1 hown (mvT hZ w1) (mvT hZ w2) (mvT hZ wc) hy (backOf (W := W) hM hZ wc wz hf hl) (g := g) hg hsize (Steps.refl _) (a := b) (argsL := argsL) (rest := rest) hlen hs (Nat.le_of_eq hW) hd (fun _ _ => ⟨rfl, E, hc, hsl⟩)
  dsimp only [Pt.U, Pt.locs, Pt.cells, Pt.slots] at X' l1 y1 z1 st hQ
  subst l1 y1 z1
  obtain ⟨t, o, k1, k2⟩ := K T' v Lc X' hQ
  exact ⟨t, o, st.trans k1, k2⟩
/-- a virtual call by the contract of what the receiver's class selects -/
theorem own_virt (X : Stand p l e R s m args below meth c T locs cells slots) (hx : p.tables.exec = Jvm.exec) (hZ : Z.Warmed39 s.vm) (hown : s.vm.findClass own = some m.cls) (E : T.heap = h)
    (w1 : (Cond.methodLink own index y).before a0 Z = true) (w2 : (Cond.declares y).before a0 Z = true) (w3 : (Cond.selects C y y).before a0 Z = true) (w4 : (Cond.instanceMethod y).before a0 Z = true)
    (hM : MetFree l y (head1 [Cond.code y bytes maxL ret] rm) (fun a U => a = (.ref b :: argsL).toArray ∧ Z.Warmed39 U.vm ∧ U.heap = h) (fun _ _ _ _ _ => True) (fun _ U o U' => ∃ v L, o = .returned v ∧ Q v U'.heap L ∧ FrameEnd U o U' L rm.cells rm.slots))
    (wc : (Cond.code y bytes maxL ret).before a0 Z = true) (wz : (Cond.initialized y.cls).before a0 Z = true) (Ex : Exa Z h b C)
    (hg : g.method = m) (hsize : g.locals.size = c.maxLocals) (hs : g.stack = argsL.reverse ++ .ref b :: rest) (hd : decode c.code g.pc = .ok (.invokevirtual index, 3))
    (hlen : ∀ sig, parseMethodDescriptor y.desc = some sig → argsL.length = sig.parameters.length) (hW : 2 * g.monitorRoom + (rest.map fun v => v.category).sum = W)
    (hnum : (y.cls ≠ "java/lang/invoke/MethodHandle" ∧ y.cls ≠ "java/lang/invoke/VarHandle") ∧ rm.frames + 1 ≤ R.frames ∧ W + (maxL + 11) + rm.locals ≤ R.locals ∧ cells + rm.cells ≤ R.cells ∧ slots + rm.slots ≤ R.slots)
    (K : ∀ (T' : State) (v : Option Value) (L : List Loc), Stand p l e R s m args below meth c T' (locs ++ L) (cells + rm.cells) (slots + rm.slots) → Q v T'.heap L → ∃ t o, Steps p.tables e below (T'.setTop { g with pc := g.pc + 3, stack := v.toList ++ rest }) t ∧ P t o) :
    ∃ t o, Steps p.tables e below (T.setTop g) t ∧ P t o := by
  obtain ⟨hy, hf, hl, hc, hsl⟩ := hnum
  obtain ⟨cq, kq, qa, qb, qc⟩ := isOf hZ E Ex
  obtain ⟨v, _, ⟨T', L, kz, nz⟩, -, X', ⟨Lc, hQ, l1, y1, z1⟩, st⟩ := X.virtualBack hx (y := y) (z := y) hown (mvT hZ w1) (mvT hZ w2) (notFace_of_selects (args := #[]) (mvT hZ w3)) (mvT hZ w3) (mvT hZ w4) hy (backOf (W := W) hM hZ wc wz hf hl) qa qc (g := g) hg hsize (Steps.refl _) (argsL := argsL) (rest := rest) hlen hs (Nat.le_of_eq hW) hd (fun _ _ => ⟨rfl, E, hc, hsl⟩)
  dsimp only [Pt.U, Pt.locs, Pt.cells, Pt.slots] at X' l1 y1 z1 st hQ
  subst l1 y1 z1
  obtain ⟨t, o, k1, k2⟩ := K T' v Lc X' hQ
  exact ⟨t, o, st.trans k1, k2⟩
/-- getfield -/
theorem own_getf (X : Stand p l e R s m args below meth c T locs cells slots) (hx : p.tables.exec = Jvm.exec) (hZ : Z.Warmed39 s.vm) {R0 O n d : String} (hown : s.vm.findClass own = some m.cls) (w : (Cond.fieldLink own index R0 n d).before a0 Z = true) (via : Via Z R0 O n d)
    (E : T.heap = h) {v : Value} (F : Fld Z h b O n d v) (hg : g.method = m) (hs : g.stack = .ref b :: rest) (hd : decode c.code g.pc = .ok (.getfield index, 3))
    (K : ∀ T' : State, Stand p l e R s m args below meth c T' locs cells slots → T'.heap = h → ∃ t o, Steps p.tables e below (T'.setTop { g with pc := g.pc + 3, stack := v :: rest }) t ∧ P t o) : ∃ t o, Steps p.tables e below (T.setTop g) t ∧ P t o := by
  obtain ⟨T', X', e', st⟩ := getF X hx hZ hown (host := "") (Or.inl w) via E F (g := g) hg hs hd
  obtain ⟨t, o, k1, k2⟩ := K T' X' e'
  exact ⟨t, o, st _ k1, k2⟩
end OwnCalls
/-- a field of an object of the start that the case fixes as an int -/
theorem own_fint {args : Array Value} {s : State} {t : Term} {C n d : String} {k : Int32} {x : Addr} (h : (Jvm.Cond.eq (Term.field t C n d) (Term.int k)).value args s none s [] = some true) (ht : t.eval args s none [] s = some (.ref x)) : Fld s s.heap x C n d (.int k) := by
  obtain ⟨u, v, h1, h2, h3, h4⟩ := cmp_v (Or.inl h)
  have e2 : v = .int k := by rw [Term.int_eval] at h2; exact (Option.some.inj h2).symm
  subst e2
  obtain ⟨z, rfl⟩ : ∃ z, u = .int z := h4
  have q := gotT (Cond.eq_ints h1 h2) h
  subst q
  exact Fld.start (by rw [← fld_at (C := C) (n := n) (dd := d) ht]; exact h1)
end Jvm.RoadKit
namespace Jvm.Pilot.@@N@@
open Jvm Jvm.ClassFile Sem Op Lib Jvm.Free Jvm.Stand Jvm.LawKit Jvm.RoadKit Bundle Jvm.Pilot.@@N@@.Jvm.D
def own_lt (c : Int32) : Int32 := nar .byte (c.toInt8.toInt32)
def own_lo (c : Int32) : Int32 := nar .byte ((c >>> ((0 : Int32) &&& 31)).toInt8.toInt32)
def own_hi (c : Int32) : Int32 := nar .byte ((c >>> ((8 : Int32) &&& 31)).toInt8.toInt32)
def own_gc (x y : Int32) : Int32 := nar .char ((((x &&& (255 : Int32)) <<< ((0 : Int32) &&& 31)) ||| ((y &&& (255 : Int32)) <<< ((8 : Int32) &&& 31))).toUInt32.toUInt16.toUInt32.toInt32)
def own_lc (x : Int32) : Int32 := nar .char ((x &&& (255 : Int32)).toUInt32.toUInt16.toUInt32.toInt32)
def own_ch (c : Int32) : Prop := c.toUInt32.toUInt16.toUInt32.toInt32 = c
def own_res (Z : State) (h : Heap) (b : Addr) (k : ClassId) (c0 c1 c2 c3 : Int32) : Prop :=
  (Arv Z h b k .byte (4 : Int32) [(.int (own_lt c0)), (.int (own_lt c1)), (.int (own_lt c2)), (.int (own_lt c3))] (.int (0 : Int32)) ∧ ¬ (255 : Int32) < c0 ∧ ¬ (255 : Int32) < c1 ∧ ¬ (255 : Int32) < c2 ∧ ¬ (255 : Int32) < c3) ∨ Arv Z h b k .byte (8 : Int32) [(.int (own_lo c0)), (.int (own_hi c0)), (.int (own_lo c1)), (.int (own_hi c1)), (.int (own_lo c2)), (.int (own_hi c2)), (.int (own_lo c3)), (.int (own_hi c3))] (.int (0 : Int32))
def own_str (Z : State) (h : Heap) (s : Addr) (c0 c1 c2 c3 : Int32) : Prop :=
  (own_ch c0 ∧ own_ch c1 ∧ own_ch c2 ∧ own_ch c3) ∧ ∃ (b : Addr) (k : ClassId), Exa Z h s "java/lang/String" ∧ Fld Z h s "java/lang/String" "value" "[B" (.ref b) ∧
    ((Fld Z h s "java/lang/String" "coder" "B" (.int (0 : Int32)) ∧ Arv Z h b k .byte (4 : Int32) [(.int (own_lt c0)), (.int (own_lt c1)), (.int (own_lt c2)), (.int (own_lt c3))] (.int (0 : Int32)) ∧ ¬ (255 : Int32) < c0 ∧ ¬ (255 : Int32) < c1 ∧ ¬ (255 : Int32) < c2 ∧ ¬ (255 : Int32) < c3)
      ∨ (Fld Z h s "java/lang/String" "coder" "B" (.int (1 : Int32)) ∧ Arv Z h b k .byte (8 : Int32) [(.int (own_lo c0)), (.int (own_hi c0)), (.int (own_lo c1)), (.int (own_hi c1)), (.int (own_lo c2)), (.int (own_hi c2)), (.int (own_lo c3)), (.int (own_hi c3))] (.int (0 : Int32))))
theorem own_str.lt {Z : State} {h : Heap} {s : Addr} {c0 c1 c2 c3 : Int32} (F : own_str Z h s c0 c1 c2 c3) : s < h.size := by
  obtain ⟨-, b, k, E, -⟩ := F; exact E.lt
theorem own_chb (x : Int32) : (x.toUInt32.toUInt16.toUInt32.toInt32).toBitVec = (x.toBitVec.setWidth 16).setWidth 32 := rfl
theorem own_chn (x : Int32) : own_ch (nar .char x) := by
  show (x.toUInt32.toUInt16.toUInt32.toInt32).toUInt32.toUInt16.toUInt32.toInt32 = x.toUInt32.toUInt16.toUInt32.toInt32
  apply Int32.toBitVec_inj.mp
  rw [own_chb, own_chb]
  apply BitVec.eq_of_getLsbD_eq
  intro i hi
  simp only [BitVec.getLsbD_setWidth]
  by_cases h : i < 16 <;> simp [h, hi]
theorem own_se8 (x : BitVec 32) : x.signExtend 8 = x.setWidth 8 := BitVec.signExtend_eq_setWidth_of_le _ (by decide)
theorem own_lob (c : Int32) : (own_lo c).toBitVec = ((c.toBitVec.setWidth 8).signExtend 32) := by
  have e : own_lo c = (c >>> ((0 : Int32) &&& 31)).toInt8.toInt32 := by
    unfold own_lo; show (_ : Int8).toInt32.toInt8.toInt32 = _; rw [Int8.toInt8_toInt32]
  have e0 : c >>> ((0 : Int32) &&& 31) = c := by
    apply Int32.toBitVec_inj.mp
    rw [Int32.toBitVec_shiftRight]
    show c.toBitVec.sshiftRight 0 = _
    exact BitVec.sshiftRight_zero
  rw [e, e0, Int8.toBitVec_toInt32, Int32.toBitVec_toInt8, own_se8]
theorem own_hib (c : Int32) : (own_hi c).toBitVec = (((c.toBitVec.sshiftRight 8).setWidth 8).signExtend 32) := by
  have e : own_hi c = (c >>> ((8 : Int32) &&& 31)).toInt8.toInt32 := by
    unfold own_hi; show (_ : Int8).toInt32.toInt8.toInt32 = _; rw [Int8.toInt8_toInt32]
  have e0 : (c >>> ((8 : Int32) &&& 31)).toBitVec = c.toBitVec.sshiftRight 8 := by
    rw [Int32.toBitVec_shiftRight]; rfl
  rw [e, ← e0, Int8.toBitVec_toInt32, Int32.toBitVec_toInt8, own_se8]
theorem own_shl32 (x : Int32) (k : Nat) (n : Int32) (hn : (n.toBitVec.smod 32).toNat = k) : (x <<< n).toBitVec = x.toBitVec <<< k := by
  rw [Int32.toBitVec_shiftLeft]
  show x.toBitVec <<< (n.toBitVec.smod 32).toNat = _
  rw [hn]
theorem own_mask8 (y : BitVec 8) : (y.signExtend 32) &&& 255#32 = y.setWidth 32 := by
  have : ∀ b : BitVec 8, b.signExtend 32 &&& 255#32 = b.setWidth 32 := by decide +kernel
  exact this y
theorem own_gce (c : Int32) : own_gc (own_lo c) (own_hi c) = c.toUInt32.toUInt16.toUInt32.toInt32 := by
  unfold own_gc
  rw [show ∀ z : Int32, nar .char z = z.toUInt32.toUInt16.toUInt32.toInt32 from fun _ => rfl, show ∀ z : Int32, (z.toUInt32.toUInt16.toUInt32.toInt32).toUInt32.toUInt16.toUInt32.toInt32 = z.toUInt32.toUInt16.toUInt32.toInt32 from fun z => own_chn z]
  have eA : ((own_lo c &&& (255 : Int32)) <<< ((0 : Int32) &&& 31)).toBitVec = ((c.toBitVec.setWidth 8).setWidth 32) <<< 0 := by
    rw [own_shl32 _ 0 _ (by decide), Int32.toBitVec_and, own_lob]; exact congrArg (fun z : BitVec 32 => z <<< 0) (own_mask8 _)
  have eB : ((own_hi c &&& (255 : Int32)) <<< ((8 : Int32) &&& 31)).toBitVec = (((c.toBitVec.sshiftRight 8).setWidth 8).setWidth 32) <<< 8 := by
    rw [own_shl32 _ 8 _ (by decide), Int32.toBitVec_and, own_hib]; exact congrArg (fun z : BitVec 32 => z <<< 8) (own_mask8 _)
  apply Int32.toBitVec_inj.mp
  rw [own_chb, own_chb, Int32.toBitVec_or, eA, eB]
  apply BitVec.eq_of_getLsbD_eq
  intro i hi
  simp only [BitVec.getLsbD_setWidth, BitVec.getLsbD_or, BitVec.getLsbD_shiftLeft, BitVec.getLsbD_sshiftRight]
  by_cases h1 : i < 8
  · have h2 : i < 16 := by omega
    simp [h1, h2, hi]
  · by_cases h2 : i < 16
    · have h3 : i - 8 < 8 := by omega
      have h4 : 8 + (i - 8) = i := by omega
      have h5 : i - 8 < 32 := by omega
      simp [h1, h2, h3, h4, h5, hi]
    · simp [h2]
theorem own_gch {c : Int32} (h : own_ch c) : own_gc (own_lo c) (own_hi c) = c := (own_gce c).trans h
theorem own_lce {c : Int32} (h : own_ch c) (hn : ¬ (255 : Int32) < c) : own_lc (own_lt c) = c := by
  have e : (own_lt c).toBitVec = ((c.toBitVec.setWidth 8).signExtend 32) := by
    have e1 : own_lt c = c.toInt8.toInt32 := by unfold own_lt; show (_ : Int8).toInt32.toInt8.toInt32 = _; rw [Int8.toInt8_toInt32]
    rw [e1, Int8.toBitVec_toInt32, Int32.toBitVec_toInt8, own_se8]
  have h2 : ((c.toBitVec.setWidth 16).setWidth 32) = c.toBitVec := by rw [← own_chb]; exact congrArg Int32.toBitVec h
  have h3 : c.toBitVec.toNat < 65536 := by
    rw [← h2, BitVec.toNat_setWidth, BitVec.toNat_setWidth]; omega
  have h4 : c.toBitVec.toNat < 256 := by
    rw [Int32.lt_iff_toInt_lt] at hn
    have e5 : (255 : Int32).toInt = 255 := by decide
    have e6 : c.toInt = c.toBitVec.toInt := rfl
    rw [BitVec.toInt_eq_toNat_cond] at e6
    split at e6 <;> omega
  unfold own_lc
  rw [show ∀ z : Int32, nar .char z = z.toUInt32.toUInt16.toUInt32.toInt32 from fun _ => rfl, show ∀ z : Int32, (z.toUInt32.toUInt16.toUInt32.toInt32).toUInt32.toUInt16.toUInt32.toInt32 = z.toUInt32.toUInt16.toUInt32.toInt32 from fun z => own_chn z]
  apply Int32.toBitVec_inj.mp
  rw [own_chb, Int32.toBitVec_and, e]
  show (BitVec.setWidth 16 ((c.toBitVec.setWidth 8).signExtend 32 &&& 255#32)).setWidth 32 = _
  rw [own_mask8]
  apply BitVec.eq_of_toNat_eq
  rw [BitVec.toNat_setWidth, BitVec.toNat_setWidth, BitVec.toNat_setWidth, BitVec.toNat_setWidth]
  omega
theorem own_u3 (x : Int32) : 0 ≤ ((x.toUInt32 >>> ((3 : Int32) &&& 31).toUInt32).toInt32).toInt := by
  have e : ((x.toUInt32 >>> ((3 : Int32) &&& 31).toUInt32).toInt32).toBitVec = x.toBitVec >>> 3 := by
    show (x.toUInt32 >>> ((3 : Int32) &&& 31).toUInt32).toBitVec = _
    rw [UInt32.toBitVec_shiftRight]; rfl
  have e2 : ((x.toUInt32 >>> ((3 : Int32) &&& 31).toUInt32).toInt32).toInt = (x.toBitVec >>> 3).toInt := by rw [← e]; rfl
  rw [e2, BitVec.toInt_eq_toNat_cond, BitVec.toNat_ushiftRight, Nat.shiftRight_eq_div_pow]
  have := x.toBitVec.isLt
  split <;> omega
theorem own_m31 (x : Int32) : 0 ≤ (x &&& 2147483647).toInt := by
  have e1 : (x &&& 2147483647).toInt = x.toInt % 2 ^ 31 := Jvm.Kit.i32_mask x 2147483647 (k := 31) (by decide) (by decide)
  omega
theorem own_mod1 (y : Int32) (hy : 0 ≤ y.toInt) : y % (1 : Int32) = (0 : Int32) := by
  have e2 : (y % (1 : Int32)).toInt = y.toInt % (1 : Int32).toInt := Jvm.Kit.i32_rem_nonneg hy
  have f0 : (0 : Int32).toInt = 0 := by decide
  have f1 : (1 : Int32).toInt = 1 := by decide
  rw [f1] at e2
  simp only [← Int32.toInt_inj]
  omega
theorem own_mod2 (y : Int32) (hy : 0 ≤ y.toInt) : y % (2 : Int32) = (0 : Int32) ∨ y % (2 : Int32) = (1 : Int32) := by
  have e2 : (y % (2 : Int32)).toInt = y.toInt % (2 : Int32).toInt := Jvm.Kit.i32_rem_nonneg hy
  have f0 : (0 : Int32).toInt = 0 := by decide
  have f1 : (1 : Int32).toInt = 1 := by decide
  have f2 : (2 : Int32).toInt = 2 := by decide
  rw [f2] at e2
  simp only [← Int32.toInt_inj]
  omega
theorem own_mod3 (y : Int32) (hy : 0 ≤ y.toInt) : y % (3 : Int32) = (0 : Int32) ∨ y % (3 : Int32) = (1 : Int32) ∨ y % (3 : Int32) = (2 : Int32) := by
  have e2 : (y % (3 : Int32)).toInt = y.toInt % (3 : Int32).toInt := Jvm.Kit.i32_rem_nonneg hy
  have f0 : (0 : Int32).toInt = 0 := by decide
  have f1 : (1 : Int32).toInt = 1 := by decide
  have f2 : (2 : Int32).toInt = 2 := by decide
  have f3 : (3 : Int32).toInt = 3 := by decide
  rw [f3] at e2
  simp only [← Int32.toInt_inj]
  omega
theorem own_mod4 (y : Int32) (hy : 0 ≤ y.toInt) : y % (4 : Int32) = (0 : Int32) ∨ y % (4 : Int32) = (1 : Int32) ∨ y % (4 : Int32) = (2 : Int32) ∨ y % (4 : Int32) = (3 : Int32) := by
  have e2 : (y % (4 : Int32)).toInt = y.toInt % (4 : Int32).toInt := Jvm.Kit.i32_rem_nonneg hy
  have f0 : (0 : Int32).toInt = 0 := by decide
  have f1 : (1 : Int32).toInt = 1 := by decide
  have f2 : (2 : Int32).toInt = 2 := by decide
  have f3 : (3 : Int32).toInt = 3 := by decide
  have f4 : (4 : Int32).toInt = 4 := by decide
  rw [f4] at e2
  simp only [← Int32.toInt_inj]
  omega
theorem own_mod5 (y : Int32) (hy : 0 ≤ y.toInt) : y % (5 : Int32) = (0 : Int32) ∨ y % (5 : Int32) = (1 : Int32) ∨ y % (5 : Int32) = (2 : Int32) ∨ y % (5 : Int32) = (3 : Int32) ∨ y % (5 : Int32) = (4 : Int32) := by
  have e2 : (y % (5 : Int32)).toInt = y.toInt % (5 : Int32).toInt := Jvm.Kit.i32_rem_nonneg hy
  have f0 : (0 : Int32).toInt = 0 := by decide
  have f1 : (1 : Int32).toInt = 1 := by decide
  have f2 : (2 : Int32).toInt = 2 := by decide
  have f3 : (3 : Int32).toInt = 3 := by decide
  have f4 : (4 : Int32).toInt = 4 := by decide
  have f5 : (5 : Int32).toInt = 5 := by decide
  rw [f5] at e2
  simp only [← Int32.toInt_inj]
  omega
theorem own_sint {args : Array Value} {s : State} {C n d : String} {k : Int32} (h : (Jvm.Cond.eq (Term.static C n d) (Term.int k)).value args s none s [] = some true) : (Term.static C n d).eval args s none [] s = some (.int k) := by
  obtain ⟨u, v, h1, h2, h3, h4⟩ := cmp_v (Or.inl h)
  have e2 : v = .int k := by rw [Term.int_eval] at h2; exact (Option.some.inj h2).symm
  subst e2
  obtain ⟨z, rfl⟩ : ∃ z, u = .int z := h4
  have q := gotT (Cond.eq_ints h1 h2) h
  subst q
  exact h1
theorem own_isr {args : Array Value} {s : State} {t : Term} (h : (Jvm.Cond.isRef t).value args s none s [] = some true) : ∃ v : Value, t.eval args s none [] s = some v ∧ (v = .null ∨ ∃ x : Addr, v = .ref x) := by
  simp only [Cond.value] at h
  cases e : t.eval args s none [] s with
  | none => rw [e] at h; simp at h
  | some v =>
    rw [e] at h
    refine ⟨v, rfl, ?_⟩
    cases v with
    | null => exact Or.inl rfl
    | ref x => exact Or.inr ⟨x, rfl⟩
    | _ => simp [Value.isRef] at h
abbrev cs0 : String := "com/example/ledgerspool/ledgerspool/FieldType"
abbrev cs1 : String := "com/example/ledgerspool/ledgerspool/FieldTypeTrailingSpacesPinLaw"
abbrev cs2 : String := "jdk/internal/util/Preconditions"
abbrev mn0 : MethodName := ⟨cs0, "trailingSpaces", "(Ljava/lang/String;II)I"⟩
abbrev mn1 : MethodName := ⟨cs1, "spaceOrOutside", "([CIII)Z"⟩
abbrev mn2 : MethodName := ⟨"java/lang/StringUTF16", "putChar", "([BII)V"⟩
abbrev mn3 : MethodName := ⟨"java/lang/StringUTF16", "getChar", "([BI)C"⟩
abbrev mn4 : MethodName := ⟨"java/lang/StringLatin1", "charAt", "([BI)C"⟩
abbrev mn5 : MethodName := ⟨"java/lang/StringUTF16", "charAt", "([BI)C"⟩
abbrev mn6 : MethodName := ⟨"java/lang/String", "charAt", "(I)C"⟩
abbrev mn7 : MethodName := ⟨cs2, "checkIndex", "(IILjava/util/function/BiFunction;)I"⟩
abbrev mn8 : MethodName := ⟨"java/lang/StringUTF16", "coderFromArrayLen", "([BI)B"⟩
abbrev mn9 : MethodName := ⟨"java/lang/String", "isLatin1", "()Z"⟩
theorem d1_0 : decode method_3_code 0 = .ok (.iload_n 0, 1) := by decide +kernel
theorem d1_1 : decode method_3_code 1 = .ok (.bipush 16, 2) := by decide +kernel
theorem d1_3 : decode method_3_code 3 = .ok (.iushr, 1) := by decide +kernel
theorem d1_4 : decode method_3_code 4 = .ok (.iconst 1, 1) := by decide +kernel
theorem d1_5 : decode method_3_code 5 = .ok (.iand, 1) := by decide +kernel
theorem d1_6 : decode method_3_code 6 = .ok (.ifCond .eq 8, 3) := by decide +kernel
theorem d1_9 : decode method_3_code 9 = .ok (.bipush 32, 2) := by decide +kernel
theorem d1_11 : decode method_3_code 11 = .ok (.goto 8, 3) := by decide +kernel
theorem d1_14 : decode method_3_code 14 = .ok (.iload_n 0, 1) := by decide +kernel
theorem d1_15 : decode method_3_code 15 = .ok (.ldc 29, 2) := by decide +kernel
theorem d1_17 : decode method_3_code 17 = .ok (.iand, 1) := by decide +kernel
theorem d1_18 : decode method_3_code 18 = .ok (.i2c, 1) := by decide +kernel
theorem d1_19 : decode method_3_code 19 = .ok (.ireturn, 1) := by decide +kernel
theorem pn_1 : plainName cs1 = true := by first | (simp [plainName, overriddenIn]; done) | decide +kernel
theorem ef_rmdraw (m : MethodId) (x0 : Int32) : entryFrame m #[(.int x0)] 1 = mkF m 0 #[iv x0] [] := by first | (simp [entryFrame, mkF, argsToLocals, Value.category]; done) | rfl
def Qrmdraw (Z : State) (pv : Int32) (h0 : Heap) (n0 : Nat) (v : Option Value) (h : Heap) (L : List Loc) : Prop := ∃ (rc : Int32), v = some (.int rc) ∧ Fr n0 L ∧ h = h0
set_option maxRecDepth 65536 in
set_option maxHeartbeats 40000000 in
theorem rmdraw (l : Launch) (Z : State) (a0 : Array Value) (hw : ∀ d ∈ tables_1, d.before a0 Z = true) (ws : List Jvm.Cond) (pv : Int32) (h0 : Heap) (n0 : Nat) (Z0 : n0 ≤ h0.size) :
    MetFree l (⟨cs1, "draw", "(I)C"⟩ : MethodName) (head1 (Jvm.Cond.code (⟨cs1, "draw", "(I)C"⟩ : MethodName) method_3_code 1 (some .char) :: ws) ({ frames := 0, cells := 0, slots := 0, locals := 0 } : Room)) (fun a U => a = #[(.int pv)] ∧ Z.Warmed39 U.vm ∧ U.heap = h0) (fun _ _ _ _ _ => True) (fun _ U o U' => ∃ v L, o = .returned v ∧ Qrmdraw Z pv h0 n0 v U'.heap L ∧ FrameEnd U o U' L ({ frames := 0, cells := 0, slots := 0, locals := 0 } : Room).cells ({ frames := 0, cells := 0, slots := 0, locals := 0 } : Room).slots) := by
 refine MetFree.of_bodySF (plainFor_of_name pn_1) hisR ?_
 intro p e s m args below meth c s₁ Bd hml0 hP hK
 obtain ⟨rfl, hZ, hh⟩ := hP
 have hx := Bd.exec
 have hby := Bd.bytes
 have hml : c.maxLocals = 1 := hml0
 have hown : s.vm.findClass cs1 = some m.cls := findClass_of_methodNamed Bd.named
 have hnm := (name_of_methodNamed Bd.named Bd.method).1
 have X0 : Stand p l e ({ frames := 0, cells := 0, slots := 0, locals := 0 } : Room) s m #[(.int pv)] below meth c s₁ [] 0 0 := Stand.of_body Bd
 have e0 : s₁.heap = h0 := by rw [← hh, Bd.state]; rfl
 have N0 := Fr.nil n0
 refine own_go (b := (s₁.setTop (mkF m 0 #[iv pv] []))) (fun _ k => castTop (ef_rmdraw m pv) k) ?_
 refine own_go (b := (s₁.setTop (mkF m 6 #[iv pv] [(.int (((pv.toUInt32 >>> ((16 : Int32) &&& 31).toUInt32).toInt32) &&& (1 : Int32)))]))) (fun _ k => XS.iloadN X0.here hx rfl (hb hby d1_0) rfl (XS.bipush X0.here hx rfl (hb hby d1_1) (XS.iushr X0.here hx rfl (hb hby d1_3) rfl (XS.iconst X0.here hx rfl (hb hby d1_4) (XS.iand X0.here hx rfl (hb hby d1_5) rfl k))))) ?_
 by_cases hc6_1 : (((pv.toUInt32 >>> ((16 : Int32) &&& 31).toUInt32).toInt32) &&& (1 : Int32)) = (0 : Int32)
 · skip
   refine own_go (b := (s₁.setTop (mkF m 19 #[iv pv] [(.int ((pv &&& (65535 : Int32)).toUInt32.toUInt16.toUInt32.toInt32))]))) (fun _ k => XS.ifYes X0.here hx rfl (pc0 := 6) (pc' := 14) rfl (hb hby d1_6) rfl ((if0 _ _).trans (teq hc6_1).1) (by decide) (by decide) (XS.iloadN X0.here hx rfl (hb hby d1_14) rfl (X0.ldcInt hx hown (mvT hZ (ow hw 5 rfl)) (g := (mkF m 15 #[iv pv] [(.int pv)])) rfl (hb hby d1_15) _ (XS.iand X0.here hx rfl (hb hby d1_17) rfl (XS.i2c X0.here hx rfl (hb hby d1_18) rfl k))))) ?_
   obtain ⟨fs, hr, hrun, hended, hW, hsame⟩ := X0.leave (v := some (.int (nar .char ((pv &&& (65535 : Int32)).toUInt32.toUInt16.toUInt32.toInt32)))) (fun h => by rw [Bd.returns] at h; cases h)
   exact ⟨_, _, retN X0 hx (t := .char) Bd.returns (by simp) (hb hby d1_19) hr, hrun, hended, _, _, rfl, (show Qrmdraw Z pv h0 n0 _ s₁.heap _ from (by rw [e0]; exact ⟨(nar .char ((pv &&& (65535 : Int32)).toUInt32.toUInt16.toUInt32.toInt32)), rfl, N0, rfl⟩)), ⟨_, rfl⟩, hW, hsame.mono (by decide) (by decide)⟩
 · skip
   refine own_go (b := (s₁.setTop (mkF m 19 #[iv pv] [(.int (32 : Int32))]))) (fun _ k => XS.ifNo X0.here hx rfl (hb hby d1_6) rfl ((if0 _ _).trans (feq hc6_1).1) (XS.bipush X0.here hx rfl (hb hby d1_9) (XS.goto X0.here hx rfl (pc0 := 11) (pc' := 19) rfl (hb hby d1_11) (by decide) (by decide) k))) ?_
   obtain ⟨fs, hr, hrun, hended, hW, hsame⟩ := X0.leave (v := some (.int (nar .char (32 : Int32)))) (fun h => by rw [Bd.returns] at h; cases h)
   exact ⟨_, _, retN X0 hx (t := .char) Bd.returns (by simp) (hb hby d1_19) hr, hrun, hended, _, _, rfl, (show Qrmdraw Z pv h0 n0 _ s₁.heap _ from (by rw [e0]; exact ⟨(nar .char (32 : Int32)), rfl, N0, rfl⟩)), ⟨_, rfl⟩, hW, hsame.mono (by decide) (by decide)⟩
theorem d6_0 : decode jdk_52_method_21_code 0 = .ok (.iconst 0, 1) := by decide +kernel
theorem d6_1 : decode jdk_52_method_21_code 1 = .ok (.istore 5, 2) := by decide +kernel
theorem d6_3 : decode jdk_52_method_21_code 3 = .ok (.iload 5, 2) := by decide +kernel
theorem d6_5 : decode jdk_52_method_21_code 5 = .ok (.iload 4, 2) := by decide +kernel
theorem d6_7 : decode jdk_52_method_21_code 7 = .ok (.if_icmp .ge 37, 3) := by decide +kernel
theorem d6_10 : decode jdk_52_method_21_code 10 = .ok (.aload_n 0, 1) := by decide +kernel
theorem d6_11 : decode jdk_52_method_21_code 11 = .ok (.iload_n 1, 1) := by decide +kernel
theorem d6_12 : decode jdk_52_method_21_code 12 = .ok (.caload, 1) := by decide +kernel
theorem d6_13 : decode jdk_52_method_21_code 13 = .ok (.istore 6, 2) := by decide +kernel
theorem d6_15 : decode jdk_52_method_21_code 15 = .ok (.iload 6, 2) := by decide +kernel
theorem d6_17 : decode jdk_52_method_21_code 17 = .ok (.sipush 255, 3) := by decide +kernel
theorem d6_20 : decode jdk_52_method_21_code 20 = .ok (.if_icmp .le 6, 3) := by decide +kernel
theorem d6_23 : decode jdk_52_method_21_code 23 = .ok (.iload 5, 2) := by decide +kernel
theorem d6_25 : decode jdk_52_method_21_code 25 = .ok (.ireturn, 1) := by decide +kernel
theorem d6_26 : decode jdk_52_method_21_code 26 = .ok (.aload_n 2, 1) := by decide +kernel
theorem d6_27 : decode jdk_52_method_21_code 27 = .ok (.iload_n 3, 1) := by decide +kernel
theorem d6_28 : decode jdk_52_method_21_code 28 = .ok (.iload 6, 2) := by decide +kernel
theorem d6_30 : decode jdk_52_method_21_code 30 = .ok (.i2b, 1) := by decide +kernel
theorem d6_31 : decode jdk_52_method_21_code 31 = .ok (.bastore, 1) := by decide +kernel
theorem d6_32 : decode jdk_52_method_21_code 32 = .ok (.iinc 1 1, 3) := by decide +kernel
theorem d6_35 : decode jdk_52_method_21_code 35 = .ok (.iinc 3 1, 3) := by decide +kernel
theorem d6_38 : decode jdk_52_method_21_code 38 = .ok (.iinc 5 1, 3) := by decide +kernel
theorem d6_41 : decode jdk_52_method_21_code 41 = .ok (.goto (-38), 3) := by decide +kernel
theorem d6_44 : decode jdk_52_method_21_code 44 = .ok (.iload 4, 2) := by decide +kernel
theorem d6_46 : decode jdk_52_method_21_code 46 = .ok (.ireturn, 1) := by decide +kernel
theorem pn_6 : plainName "java/lang/StringUTF16" = true := by first | (simp [plainName, overriddenIn]; done) | decide +kernel
theorem ef_rmc6 (m : MethodId) (x0 : Addr) (x1 : Int32) (x2 : Addr) (x3 : Int32) (x4 : Int32) : entryFrame m #[(.ref x0), (.int x1), (.ref x2), (.int x3), (.int x4)] 7 = mkF m 0 #[rv x0, iv x1, rv x2, iv x3, iv x4, .unset, .unset] [] := by first | (simp [entryFrame, mkF, argsToLocals, Value.category]; done) | rfl
def Qrmc6 (Z : State) (a2 : Addr) (k2 : ClassId) (a3 : Addr) (k3 : ClassId) (c0 : Int32) (c1 : Int32) (c2 : Int32) (c3 : Int32) (x0 : Int32) (x1 : Int32) (x2 : Int32) (x3 : Int32) (h0 : Heap) (n0 : Nat) (v : Option Value) (h : Heap) (L : List Loc) : Prop := ∃ (r : Int32) (vs : List Value), v = some (.int r) ∧ Fr n0 L ∧ Keep h0 h [a3] ∧ (Arv Z h a3 k3 .byte (4 : Int32) vs (.int (0 : Int32))) ∧ ((r = (0 : Int32) ∧ (255 : Int32) < c0) ∨ (r = (1 : Int32) ∧ (255 : Int32) < c1) ∨ (r = (2 : Int32) ∧ (255 : Int32) < c2) ∨ (r = (3 : Int32) ∧ (255 : Int32) < c3) ∨ (r = (4 : Int32) ∧ vs = [(.int (own_lt c0)), (.int (own_lt c1)), (.int (own_lt c2)), (.int (own_lt c3))] ∧ ¬ (255 : Int32) < c0 ∧ ¬ (255 : Int32) < c1 ∧ ¬ (255 : Int32) < c2 ∧ ¬ (255 : Int32) < c3))
set_option maxRecDepth 65536 in
set_option maxHeartbeats 40000000 in
theorem rmc6 (l : Launch) (Z : State) (a0 : Array Value) (hw : ∀ d ∈ tables_1, d.before a0 Z = true) (ws : List Jvm.Cond) (a2 : Addr) (k2 : ClassId) (a3 : Addr) (k3 : ClassId) (c0 : Int32) (c1 : Int32) (c2 : Int32) (c3 : Int32) (x0 : Int32) (x1 : Int32) (x2 : Int32) (x3 : Int32) (h0 : Heap) (n0 : Nat) (Z0 : n0 ≤ h0.size) (V_a2 : Arv Z h0 a2 k2 .char (4 : Int32) [(.int c0), (.int c1), (.int c2), (.int c3)] (.int (0 : Int32))) (V_a3 : Arv Z h0 a3 k3 .byte (4 : Int32) [(.int x0), (.int x1), (.int x2), (.int x3)] (.int (0 : Int32))) (g_a3 : n0 ≤ a3) (ne_a2_a3 : a2 ≠ a3) :
    MetFree l (⟨"java/lang/StringUTF16", "compress", "([CI[BII)I"⟩ : MethodName) (head1 (Jvm.Cond.code (⟨"java/lang/StringUTF16", "compress", "([CI[BII)I"⟩ : MethodName) jdk_52_method_21_code 7 (some .int) :: ws) ({ frames := 0, cells := 0, slots := 0, locals := 0 } : Room)) (fun a U => a = #[(.ref a2), (.int (0 : Int32)), (.ref a3), (.int (0 : Int32)), (.int (4 : Int32))] ∧ Z.Warmed39 U.vm ∧ U.heap = h0) (fun _ _ _ _ _ => True) (fun _ U o U' => ∃ v L, o = .returned v ∧ Qrmc6 Z a2 k2 a3 k3 c0 c1 c2 c3 x0 x1 x2 x3 h0 n0 v U'.heap L ∧ FrameEnd U o U' L ({ frames := 0, cells := 0, slots := 0, locals := 0 } : Room).cells ({ frames := 0, cells := 0, slots := 0, locals := 0 } : Room).slots) := by
 refine MetFree.of_bodySF (plainFor_of_name pn_6) hisR ?_
 intro p e s m args below meth c s₁ Bd hml0 hP hK
 obtain ⟨rfl, hZ, hh⟩ := hP
 have hx := Bd.exec
 have hby := Bd.bytes
 have hml : c.maxLocals = 7 := hml0
 have hown : s.vm.findClass "java/lang/StringUTF16" = some m.cls := findClass_of_methodNamed Bd.named
 have hnm := (name_of_methodNamed Bd.named Bd.method).1
 have X0 : Stand p l e ({ frames := 0, cells := 0, slots := 0, locals := 0 } : Room) s m #[(.ref a2), (.int (0 : Int32)), (.ref a3), (.int (0 : Int32)), (.int (4 : Int32))] below meth c s₁ [] 0 0 := Stand.of_body Bd
 have e0 : s₁.heap = h0 := by rw [← hh, Bd.state]; rfl
 have N0 := Fr.nil n0
 refine own_go (b := (s₁.setTop (mkF m 0 #[rv a2, iv (0 : Int32), rv a3, iv (0 : Int32), iv (4 : Int32), .unset, .unset] []))) (fun _ k => castTop (ef_rmc6 m a2 (0 : Int32) a3 (0 : Int32) (4 : Int32)) k) ?_
 refine own_go (b := (s₁.setTop (mkF m 12 #[rv a2, iv (0 : Int32), rv a3, iv (0 : Int32), iv (4 : Int32), iv (0 : Int32), .unset] [(.int (0 : Int32)), (.ref a2)]))) (fun _ k => XS.iconst X0.here hx rfl (hb hby d6_0) (XS.istore X0.here hx rfl (hb hby d6_1) rfl (l' := #[rv a2, iv (0 : Int32), rv a3, iv (0 : Int32), iv (4 : Int32), iv (0 : Int32), .unset]) rfl (XS.iload X0.here hx rfl (hb hby d6_3) rfl (XS.iload X0.here hx rfl (hb hby d6_5) rfl (XS.icmpNo X0.here hx rfl (hb hby d6_7) rfl (tlt (by decide : (0 : Int32) < (4 : Int32))).2.1 (XS.aloadN X0.here hx rfl (hb hby d6_10) rfl rfl (XS.iloadN X0.here hx rfl (hb hby d6_11) rfl k))))))) ?_
 obtain ⟨cl1, Ar1, ql1, Sz1, Nn1, Hl1, Gl1⟩ := id V_a2
 have hin1 : ¬ ((0 : Int32) < 0 ∨ cl1.slots.size ≤ ((0 : Int32)).toNatClampNeg) := inb_of Sz1 ⟨by decide, by decide⟩
 refine own_go (b := (s₁.setTop (mkF m 20 #[rv a2, iv (0 : Int32), rv a3, iv (0 : Int32), iv (4 : Int32), iv (0 : Int32), iv c0] [(.int (255 : Int32)), (.int c0)]))) (fun _ k => X0.caload hx (j := (0 : Int32)) (v := (.int c0)) (by rw [e0]; exact Ar1.1) (State.isArrayOf_alike hZ.alike Ar1.2.1) Ar1.2.2 hin1 (Hl1.at hin1 rfl) (g := (mkF m 12 #[rv a2, iv (0 : Int32), rv a3, iv (0 : Int32), iv (4 : Int32), iv (0 : Int32), .unset] [(.int (0 : Int32)), (.ref a2)])) rfl rfl (hb hby d6_12) _ (XS.istore X0.here hx rfl (hb hby d6_13) rfl (l' := #[rv a2, iv (0 : Int32), rv a3, iv (0 : Int32), iv (4 : Int32), iv (0 : Int32), iv c0]) rfl (XS.iload X0.here hx rfl (hb hby d6_15) rfl (XS.sipush X0.here hx rfl (hb hby d6_17) k)))) ?_
 by_cases hc20_2 : (255 : Int32) < c0
 · skip
   refine own_go (b := (s₁.setTop (mkF m 25 #[rv a2, iv (0 : Int32), rv a3, iv (0 : Int32), iv (4 : Int32), iv (0 : Int32), iv c0] [(.int (0 : Int32))]))) (fun _ k => XS.icmpNo X0.here hx rfl (hb hby d6_20) rfl (tlt hc20_2).2.2.2 (XS.iload X0.here hx rfl (hb hby d6_23) rfl k)) ?_
   obtain ⟨fs, hr, hrun, hended, hW, hsame⟩ := X0.leave (v := some (.int (0 : Int32))) (fun h => by rw [Bd.returns] at h; cases h)
   exact ⟨_, _, retOut X0 hx Bd.returns rfl (Or.inl ⟨rfl, Or.inl rfl, _, rfl⟩) (hb hby d6_25) hr, hrun, hended, _, _, rfl, (show Qrmc6 Z a2 k2 a3 k3 c0 c1 c2 c3 x0 x1 x2 x3 h0 n0 _ s₁.heap _ from (by rw [e0]; exact ⟨(0 : Int32), [(.int x0), (.int x1), (.int x2), (.int x3)], rfl, N0, (Keep.refl h0 [a3]), V_a3, (Or.inl ⟨rfl, hc20_2⟩)⟩)), ⟨_, rfl⟩, hW, hsame.mono (by decide) (by decide)⟩
 · skip
   refine own_go (b := (s₁.setTop (mkF m 31 #[rv a2, iv (0 : Int32), rv a3, iv (0 : Int32), iv (4 : Int32), iv (0 : Int32), iv c0] [(.int (c0.toInt8.toInt32)), (.int (0 : Int32)), (.ref a3)]))) (fun _ k => XS.icmpYes X0.here hx rfl (pc0 := 20) (pc' := 26) rfl (hb hby d6_20) rfl (flt hc20_2).2.2.2 (by decide) (by decide) (XS.aloadN X0.here hx rfl (hb hby d6_26) rfl rfl (XS.iloadN X0.here hx rfl (hb hby d6_27) rfl (XS.iload X0.here hx rfl (hb hby d6_28) rfl (XS.i2b X0.here hx rfl (hb hby d6_30) rfl k))))) ?_
   obtain ⟨cl3, Ar3, ql3, Sz3, Nn3, Hl3, Gl3⟩ := id V_a3
   have hin3 : ¬ ((0 : Int32) < 0 ∨ cl3.slots.size ≤ ((0 : Int32)).toNatClampNeg) := inb_of Sz3 ⟨by decide, by decide⟩
   obtain ⟨T3, h3, X3, e3, W3, st3⟩ := stB X0 hx hZ e0 Ar3 (j := (0 : Int32)) hin3 (g := (mkF m 31 #[rv a2, iv (0 : Int32), rv a3, iv (0 : Int32), iv (4 : Int32), iv (0 : Int32), iv c0] [(.int (c0.toInt8.toInt32)), (.int (0 : Int32)), (.ref a3)])) rfl rfl (hb hby d6_31)
   have N3 := Fr.snoc X3 N0 g_a3
   have Zs4 : n0 ≤ h3.size := Nat.le_trans Z0 (Keep.of_wr W3).1
   have V3 : Arv Z h3 a3 k3 .byte (4 : Int32) [(.int (own_lt c0)), (.int x1), (.int x2), (.int x3)] (.int (0 : Int32)) := Arv.set Ar3 ql3 Sz3 Nn3 Hl3 Gl3 (fits_nar_byte _) W3 0 rfl (Nat.le_of_ble_eq_true rfl)
   refine own_go (b := (T3.setTop (mkF m 12 #[rv a2, iv (1 : Int32), rv a3, iv (1 : Int32), iv (4 : Int32), iv (1 : Int32), iv c0] [(.int (1 : Int32)), (.ref a2)]))) (fun _ k => st3 _ (XS.iinc X3.here hx rfl (hb hby d6_32) rfl (l' := #[rv a2, iv (1 : Int32), rv a3, iv (0 : Int32), iv (4 : Int32), iv (0 : Int32), iv c0]) rfl (XS.iinc X3.here hx rfl (hb hby d6_35) rfl (l' := #[rv a2, iv (1 : Int32), rv a3, iv (1 : Int32), iv (4 : Int32), iv (0 : Int32), iv c0]) rfl (XS.iinc X3.here hx rfl (hb hby d6_38) rfl (l' := #[rv a2, iv (1 : Int32), rv a3, iv (1 : Int32), iv (4 : Int32), iv (1 : Int32), iv c0]) rfl (XS.goto X3.here hx rfl (pc0 := 41) (pc' := 3) rfl (hb hby d6_41) (by decide) (by decide) (XS.iload X3.here hx rfl (hb hby d6_3) rfl (XS.iload X3.here hx rfl (hb hby d6_5) rfl (XS.icmpNo X3.here hx rfl (hb hby d6_7) rfl (tlt (by decide : (1 : Int32) < (4 : Int32))).2.1 (XS.aloadN X3.here hx rfl (hb hby d6_10) rfl rfl (XS.iloadN X3.here hx rfl (hb hby d6_11) rfl k)))))))))) ?_
   have F6 := V_a2.other W3 ne_a2_a3
   obtain ⟨cl5, Ar5, ql5, Sz5, Nn5, Hl5, Gl5⟩ := id F6
   have hin5 : ¬ ((1 : Int32) < 0 ∨ cl5.slots.size ≤ ((1 : Int32)).toNatClampNeg) := inb_of Sz5 ⟨by decide, by decide⟩
   refine own_go (b := (T3.setTop (mkF m 20 #[rv a2, iv (1 : Int32), rv a3, iv (1 : Int32), iv (4 : Int32), iv (1 : Int32), iv c1] [(.int (255 : Int32)), (.int c1)]))) (fun _ k => X3.caload hx (j := (1 : Int32)) (v := (.int c1)) (by rw [e3]; exact Ar5.1) (State.isArrayOf_alike hZ.alike Ar5.2.1) Ar5.2.2 hin5 (Hl5.at hin5 rfl) (g := (mkF m 12 #[rv a2, iv (1 : Int32), rv a3, iv (1 : Int32), iv (4 : Int32), iv (1 : Int32), iv c0] [(.int (1 : Int32)), (.ref a2)])) rfl rfl (hb hby d6_12) _ (XS.istore X3.here hx rfl (hb hby d6_13) rfl (l' := #[rv a2, iv (1 : Int32), rv a3, iv (1 : Int32), iv (4 : Int32), iv (1 : Int32), iv c1]) rfl (XS.iload X3.here hx rfl (hb hby d6_15) rfl (XS.sipush X3.here hx rfl (hb hby d6_17) k)))) ?_
   by_cases hc20_7 : (255 : Int32) < c1
   · skip
     refine own_go (b := (T3.setTop (mkF m 25 #[rv a2, iv (1 : Int32), rv a3, iv (1 : Int32), iv (4 : Int32), iv (1 : Int32), iv c1] [(.int (1 : Int32))]))) (fun _ k => XS.icmpNo X3.here hx rfl (hb hby d6_20) rfl (tlt hc20_7).2.2.2 (XS.iload X3.here hx rfl (hb hby d6_23) rfl k)) ?_
     have K8 := (Keep.refl h0 [a3]).wr W3 (Or.inl (List.mem_of_getElem? (i := 0) rfl))
     obtain ⟨fs, hr, hrun, hended, hW, hsame⟩ := X3.leave (v := some (.int (1 : Int32))) (fun h => by rw [Bd.returns] at h; cases h)
     exact ⟨_, _, retOut X3 hx Bd.returns rfl (Or.inl ⟨rfl, Or.inl rfl, _, rfl⟩) (hb hby d6_25) hr, hrun, hended, _, _, rfl, (show Qrmc6 Z a2 k2 a3 k3 c0 c1 c2 c3 x0 x1 x2 x3 h0 n0 _ T3.heap _ from (by rw [e3]; exact ⟨(1 : Int32), [(.int (own_lt c0)), (.int x1), (.int x2), (.int x3)], rfl, N3, K8, V3, (Or.inr (Or.inl ⟨rfl, hc20_7⟩))⟩)), ⟨_, rfl⟩, hW, hsame.mono (by decide) (by decide)⟩
   · skip
     refine own_go (b := (T3.setTop (mkF m 31 #[rv a2, iv (1 : Int32), rv a3, iv (1 : Int32), iv (4 : Int32), iv (1 : Int32), iv c1] [(.int (c1.toInt8.toInt32)), (.int (1 : Int32)), (.ref a3)]))) (fun _ k => XS.icmpYes X3.here hx rfl (pc0 := 20) (pc' := 26) rfl (hb hby d6_20) rfl (flt hc20_7).2.2.2 (by decide) (by decide) (XS.aloadN X3.here hx rfl (hb hby d6_26) rfl rfl (XS.iloadN X3.here hx rfl (hb hby d6_27) rfl (XS.iload X3.here hx rfl (hb hby d6_28) rfl (XS.i2b X3.here hx rfl (hb hby d6_30) rfl k))))) ?_
     obtain ⟨cl9, Ar9, ql9, Sz9, Nn9, Hl9, Gl9⟩ := id V3
     have hin9 : ¬ ((1 : Int32) < 0 ∨ cl9.slots.size ≤ ((1 : Int32)).toNatClampNeg) := inb_of Sz9 ⟨by decide, by decide⟩
     obtain ⟨T9, h9, X9, e9, W9, st9⟩ := stB X3 hx hZ e3 Ar9 (j := (1 : Int32)) hin9 (g := (mkF m 31 #[rv a2, iv (1 : Int32), rv a3, iv (1 : Int32), iv (4 : Int32), iv (1 : Int32), iv c1] [(.int (c1.toInt8.toInt32)), (.int (1 : Int32)), (.ref a3)])) rfl rfl (hb hby d6_31)
     have N9 := Fr.snoc X9 N3 g_a3
     have Zs10 : n0 ≤ h9.size := Nat.le_trans Zs4 (Keep.of_wr W9).1
     have V9 : Arv Z h9 a3 k3 .byte (4 : Int32) [(.int (own_lt c0)), (.int (own_lt c1)), (.int x2), (.int x3)] (.int (0 : Int32)) := Arv.set Ar9 ql9 Sz9 Nn9 Hl9 Gl9 (fits_nar_byte _) W9 1 rfl (Nat.le_of_ble_eq_true rfl)
     refine own_go (b := (T9.setTop (mkF m 12 #[rv a2, iv (2 : Int32), rv a3, iv (2 : Int32), iv (4 : Int32), iv (2 : Int32), iv c1] [(.int (2 : Int32)), (.ref a2)]))) (fun _ k => st9 _ (XS.iinc X9.here hx rfl (hb hby d6_32) rfl (l' := #[rv a2, iv (2 : Int32), rv a3, iv (1 : Int32), iv (4 : Int32), iv (1 : Int32), iv c1]) rfl (XS.iinc X9.here hx rfl (hb hby d6_35) rfl (l' := #[rv a2, iv (2 : Int32), rv a3, iv (2 : Int32), iv (4 : Int32), iv (1 : Int32), iv c1]) rfl (XS.iinc X9.here hx rfl (hb hby d6_38) rfl (l' := #[rv a2, iv (2 : Int32), rv a3, iv (2 : Int32), iv (4 : Int32), iv (2 : Int32), iv c1]) rfl (XS.goto X9.here hx rfl (pc0 := 41) (pc' := 3) rfl (hb hby d6_41) (by decide) (by decide) (XS.iload X9.here hx rfl (hb hby d6_3) rfl (XS.iload X9.here hx rfl (hb hby d6_5) rfl (XS.icmpNo X9.here hx rfl (hb hby d6_7) rfl (tlt (by decide : (2 : Int32) < (4 : Int32))).2.1 (XS.aloadN X9.here hx rfl (hb hby d6_10) rfl rfl (XS.iloadN X9.here hx rfl (hb hby d6_11) rfl k)))))))))) ?_
     have F12 := F6.other W9 ne_a2_a3
     obtain ⟨cl11, Ar11, ql11, Sz11, Nn11, Hl11, Gl11⟩ := id F12
     have hin11 : ¬ ((2 : Int32) < 0 ∨ cl11.slots.size ≤ ((2 : Int32)).toNatClampNeg) := inb_of Sz11 ⟨by decide, by decide⟩
     refine own_go (b := (T9.setTop (mkF m 20 #[rv a2, iv (2 : Int32), rv a3, iv (2 : Int32), iv (4 : Int32), iv (2 : Int32), iv c2] [(.int (255 : Int32)), (.int c2)]))) (fun _ k => X9.caload hx (j := (2 : Int32)) (v := (.int c2)) (by rw [e9]; exact Ar11.1) (State.isArrayOf_alike hZ.alike Ar11.2.1) Ar11.2.2 hin11 (Hl11.at hin11 rfl) (g := (mkF m 12 #[rv a2, iv (2 : Int32), rv a3, iv (2 : Int32), iv (4 : Int32), iv (2 : Int32), iv c1] [(.int (2 : Int32)), (.ref a2)])) rfl rfl (hb hby d6_12) _ (XS.istore X9.here hx rfl (hb hby d6_13) rfl (l' := #[rv a2, iv (2 : Int32), rv a3, iv (2 : Int32), iv (4 : Int32), iv (2 : Int32), iv c2]) rfl (XS.iload X9.here hx rfl (hb hby d6_15) rfl (XS.sipush X9.here hx rfl (hb hby d6_17) k)))) ?_
     by_cases hc20_13 : (255 : Int32) < c2
     · skip
       refine own_go (b := (T9.setTop (mkF m 25 #[rv a2, iv (2 : Int32), rv a3, iv (2 : Int32), iv (4 : Int32), iv (2 : Int32), iv c2] [(.int (2 : Int32))]))) (fun _ k => XS.icmpNo X9.here hx rfl (hb hby d6_20) rfl (tlt hc20_13).2.2.2 (XS.iload X9.here hx rfl (hb hby d6_23) rfl k)) ?_
       have K14 := (Keep.refl h0 [a3]).wr W3 (Or.inl (List.mem_of_getElem? (i := 0) rfl))
       have K15 := K14.wr W9 (Or.inl (List.mem_of_getElem? (i := 0) rfl))
       obtain ⟨fs, hr, hrun, hended, hW, hsame⟩ := X9.leave (v := some (.int (2 : Int32))) (fun h => by rw [Bd.returns] at h; cases h)
       exact ⟨_, _, retOut X9 hx Bd.returns rfl (Or.inl ⟨rfl, Or.inl rfl, _, rfl⟩) (hb hby d6_25) hr, hrun, hended, _, _, rfl, (show Qrmc6 Z a2 k2 a3 k3 c0 c1 c2 c3 x0 x1 x2 x3 h0 n0 _ T9.heap _ from (by rw [e9]; exact ⟨(2 : Int32), [(.int (own_lt c0)), (.int (own_lt c1)), (.int x2), (.int x3)], rfl, N9, K15, V9, (Or.inr (Or.inr (Or.inl ⟨rfl, hc20_13⟩)))⟩)), ⟨_, rfl⟩, hW, hsame.mono (by decide) (by decide)⟩
     · skip
       refine own_go (b := (T9.setTop (mkF m 31 #[rv a2, iv (2 : Int32), rv a3, iv (2 : Int32), iv (4 : Int32), iv (2 : Int32), iv c2] [(.int (c2.toInt8.toInt32)), (.int (2 : Int32)), (.ref a3)]))) (fun _ k => XS.icmpYes X9.here hx rfl (pc0 := 20) (pc' := 26) rfl (hb hby d6_20) rfl (flt hc20_13).2.2.2 (by decide) (by decide) (XS.aloadN X9.here hx rfl (hb hby d6_26) rfl rfl (XS.iloadN X9.here hx rfl (hb hby d6_27) rfl (XS.iload X9.here hx rfl (hb hby d6_28) rfl (XS.i2b X9.here hx rfl (hb hby d6_30) rfl k))))) ?_
       obtain ⟨cl16, Ar16, ql16, Sz16, Nn16, Hl16, Gl16⟩ := id V9
       have hin16 : ¬ ((2 : Int32) < 0 ∨ cl16.slots.size ≤ ((2 : Int32)).toNatClampNeg) := inb_of Sz16 ⟨by decide, by decide⟩
       obtain ⟨T16, h16, X16, e16, W16, st16⟩ := stB X9 hx hZ e9 Ar16 (j := (2 : Int32)) hin16 (g := (mkF m 31 #[rv a2, iv (2 : Int32), rv a3, iv (2 : Int32), iv (4 : Int32), iv (2 : Int32), iv c2] [(.int (c2.toInt8.toInt32)), (.int (2 : Int32)), (.ref a3)])) rfl rfl (hb hby d6_31)
       have N16 := Fr.snoc X16 N9 g_a3
       have Zs17 : n0 ≤ h16.size := Nat.le_trans Zs10 (Keep.of_wr W16).1
       have V16 : Arv Z h16 a3 k3 .byte (4 : Int32) [(.int (own_lt c0)), (.int (own_lt c1)), (.int (own_lt c2)), (.int x3)] (.int (0 : Int32)) := Arv.set Ar16 ql16 Sz16 Nn16 Hl16 Gl16 (fits_nar_byte _) W16 2 rfl (Nat.le_of_ble_eq_true rfl)
       refine own_go (b := (T16.setTop (mkF m 12 #[rv a2, iv (3 : Int32), rv a3, iv (3 : Int32), iv (4 : Int32), iv (3 : Int32), iv c2] [(.int (3 : Int32)), (.ref a2)]))) (fun _ k => st16 _ (XS.iinc X16.here hx rfl (hb hby d6_32) rfl (l' := #[rv a2, iv (3 : Int32), rv a3, iv (2 : Int32), iv (4 : Int32), iv (2 : Int32), iv c2]) rfl (XS.iinc X16.here hx rfl (hb hby d6_35) rfl (l' := #[rv a2, iv (3 : Int32), rv a3, iv (3 : Int32), iv (4 : Int32), iv (2 : Int32), iv c2]) rfl (XS.iinc X16.here hx rfl (hb hby d6_38) rfl (l' := #[rv a2, iv (3 : Int32), rv a3, iv (3 : Int32), iv (4 : Int32), iv (3 : Int32), iv c2]) rfl (XS.goto X16.here hx rfl (pc0 := 41) (pc' := 3) rfl (hb hby d6_41) (by decide) (by decide) (XS.iload X16.here hx rfl (hb hby d6_3) rfl (XS.iload X16.here hx rfl (hb hby d6_5) rfl (XS.icmpNo X16.here hx rfl (hb hby d6_7) rfl (tlt (by decide : (3 : Int32) < (4 : Int32))).2.1 (XS.aloadN X16.here hx rfl (hb hby d6_10) rfl rfl (XS.iloadN X16.here hx rfl (hb hby d6_11) rfl k)))))))))) ?_
       have F19 := F12.other W16 ne_a2_a3
       obtain ⟨cl18, Ar18, ql18, Sz18, Nn18, Hl18, Gl18⟩ := id F19
       have hin18 : ¬ ((3 : Int32) < 0 ∨ cl18.slots.size ≤ ((3 : Int32)).toNatClampNeg) := inb_of Sz18 ⟨by decide, by decide⟩
       refine own_go (b := (T16.setTop (mkF m 20 #[rv a2, iv (3 : Int32), rv a3, iv (3 : Int32), iv (4 : Int32), iv (3 : Int32), iv c3] [(.int (255 : Int32)), (.int c3)]))) (fun _ k => X16.caload hx (j := (3 : Int32)) (v := (.int c3)) (by rw [e16]; exact Ar18.1) (State.isArrayOf_alike hZ.alike Ar18.2.1) Ar18.2.2 hin18 (Hl18.at hin18 rfl) (g := (mkF m 12 #[rv a2, iv (3 : Int32), rv a3, iv (3 : Int32), iv (4 : Int32), iv (3 : Int32), iv c2] [(.int (3 : Int32)), (.ref a2)])) rfl rfl (hb hby d6_12) _ (XS.istore X16.here hx rfl (hb hby d6_13) rfl (l' := #[rv a2, iv (3 : Int32), rv a3, iv (3 : Int32), iv (4 : Int32), iv (3 : Int32), iv c3]) rfl (XS.iload X16.here hx rfl (hb hby d6_15) rfl (XS.sipush X16.here hx rfl (hb hby d6_17) k)))) ?_
       by_cases hc20_20 : (255 : Int32) < c3
       · skip
         refine own_go (b := (T16.setTop (mkF m 25 #[rv a2, iv (3 : Int32), rv a3, iv (3 : Int32), iv (4 : Int32), iv (3 : Int32), iv c3] [(.int (3 : Int32))]))) (fun _ k => XS.icmpNo X16.here hx rfl (hb hby d6_20) rfl (tlt hc20_20).2.2.2 (XS.iload X16.here hx rfl (hb hby d6_23) rfl k)) ?_
         have K21 := (Keep.refl h0 [a3]).wr W3 (Or.inl (List.mem_of_getElem? (i := 0) rfl))
         have K22 := K21.wr W9 (Or.inl (List.mem_of_getElem? (i := 0) rfl))
         have K23 := K22.wr W16 (Or.inl (List.mem_of_getElem? (i := 0) rfl))
         obtain ⟨fs, hr, hrun, hended, hW, hsame⟩ := X16.leave (v := some (.int (3 : Int32))) (fun h => by rw [Bd.returns] at h; cases h)
         exact ⟨_, _, retOut X16 hx Bd.returns rfl (Or.inl ⟨rfl, Or.inl rfl, _, rfl⟩) (hb hby d6_25) hr, hrun, hended, _, _, rfl, (show Qrmc6 Z a2 k2 a3 k3 c0 c1 c2 c3 x0 x1 x2 x3 h0 n0 _ T16.heap _ from (by rw [e16]; exact ⟨(3 : Int32), [(.int (own_lt c0)), (.int (own_lt c1)), (.int (own_lt c2)), (.int x3)], rfl, N16, K23, V16, (Or.inr (Or.inr (Or.inr (Or.inl ⟨rfl, hc20_20⟩))))⟩)), ⟨_, rfl⟩, hW, hsame.mono (by decide) (by decide)⟩
       · skip
         refine own_go (b := (T16.setTop (mkF m 31 #[rv a2, iv (3 : Int32), rv a3, iv (3 : Int32), iv (4 : Int32), iv (3 : Int32), iv c3] [(.int (c3.toInt8.toInt32)), (.int (3 : Int32)), (.ref a3)]))) (fun _ k => XS.icmpYes X16.here hx rfl (pc0 := 20) (pc' := 26) rfl (hb hby d6_20) rfl (flt hc20_20).2.2.2 (by decide) (by decide) (XS.aloadN X16.here hx rfl (hb hby d6_26) rfl rfl (XS.iloadN X16.here hx rfl (hb hby d6_27) rfl (XS.iload X16.here hx rfl (hb hby d6_28) rfl (XS.i2b X16.here hx rfl (hb hby d6_30) rfl k))))) ?_
         obtain ⟨cl24, Ar24, ql24, Sz24, Nn24, Hl24, Gl24⟩ := id V16
         have hin24 : ¬ ((3 : Int32) < 0 ∨ cl24.slots.size ≤ ((3 : Int32)).toNatClampNeg) := inb_of Sz24 ⟨by decide, by decide⟩
         obtain ⟨T24, h24, X24, e24, W24, st24⟩ := stB X16 hx hZ e16 Ar24 (j := (3 : Int32)) hin24 (g := (mkF m 31 #[rv a2, iv (3 : Int32), rv a3, iv (3 : Int32), iv (4 : Int32), iv (3 : Int32), iv c3] [(.int (c3.toInt8.toInt32)), (.int (3 : Int32)), (.ref a3)])) rfl rfl (hb hby d6_31)
         have N24 := Fr.snoc X24 N16 g_a3
         have Zs25 : n0 ≤ h24.size := Nat.le_trans Zs17 (Keep.of_wr W24).1
         have V24 : Arv Z h24 a3 k3 .byte (4 : Int32) [(.int (own_lt c0)), (.int (own_lt c1)), (.int (own_lt c2)), (.int (own_lt c3))] (.int (0 : Int32)) := Arv.set Ar24 ql24 Sz24 Nn24 Hl24 Gl24 (fits_nar_byte _) W24 3 rfl (Nat.le_of_ble_eq_true rfl)
         refine own_go (b := (T24.setTop (mkF m 46 #[rv a2, iv (4 : Int32), rv a3, iv (4 : Int32), iv (4 : Int32), iv (4 : Int32), iv c3] [(.int (4 : Int32))]))) (fun _ k => st24 _ (XS.iinc X24.here hx rfl (hb hby d6_32) rfl (l' := #[rv a2, iv (4 : Int32), rv a3, iv (3 : Int32), iv (4 : Int32), iv (3 : Int32), iv c3]) rfl (XS.iinc X24.here hx rfl (hb hby d6_35) rfl (l' := #[rv a2, iv (4 : Int32), rv a3, iv (4 : Int32), iv (4 : Int32), iv (3 : Int32), iv c3]) rfl (XS.iinc X24.here hx rfl (hb hby d6_38) rfl (l' := #[rv a2, iv (4 : Int32), rv a3, iv (4 : Int32), iv (4 : Int32), iv (4 : Int32), iv c3]) rfl (XS.goto X24.here hx rfl (pc0 := 41) (pc' := 3) rfl (hb hby d6_41) (by decide) (by decide) (XS.iload X24.here hx rfl (hb hby d6_3) rfl (XS.iload X24.here hx rfl (hb hby d6_5) rfl (XS.icmpYes X24.here hx rfl (pc0 := 7) (pc' := 44) rfl (hb hby d6_7) rfl (flt (by decide : ¬ ((4 : Int32) < (4 : Int32)))).2.1 (by decide) (by decide) (XS.iload X24.here hx rfl (hb hby d6_44) rfl k))))))))) ?_
         have K26 := (Keep.refl h0 [a3]).wr W3 (Or.inl (List.mem_of_getElem? (i := 0) rfl))
         have K27 := K26.wr W9 (Or.inl (List.mem_of_getElem? (i := 0) rfl))
         have K28 := K27.wr W16 (Or.inl (List.mem_of_getElem? (i := 0) rfl))
         have K29 := K28.wr W24 (Or.inl (List.mem_of_getElem? (i := 0) rfl))
         obtain ⟨fs, hr, hrun, hended, hW, hsame⟩ := X24.leave (v := some (.int (4 : Int32))) (fun h => by rw [Bd.returns] at h; cases h)
         exact ⟨_, _, retOut X24 hx Bd.returns rfl (Or.inl ⟨rfl, Or.inl rfl, _, rfl⟩) (hb hby d6_46) hr, hrun, hended, _, _, rfl, (show Qrmc6 Z a2 k2 a3 k3 c0 c1 c2 c3 x0 x1 x2 x3 h0 n0 _ T24.heap _ from (by rw [e24]; exact ⟨(4 : Int32), [(.int (own_lt c0)), (.int (own_lt c1)), (.int (own_lt c2)), (.int (own_lt c3))], rfl, N24, K29, V24, (Or.inr (Or.inr (Or.inr (Or.inr ⟨rfl, rfl, hc20_2, hc20_7, hc20_13, hc20_20⟩))))⟩)), ⟨_, rfl⟩, hW, hsame.mono (by decide) (by decide)⟩
theorem d17_0 : decode jdk_52_method_3_code 0 = .ok (.iload_n 0, 1) := by decide +kernel
theorem d17_1 : decode jdk_52_method_3_code 1 = .ok (.ifCond .ge 11, 3) := by decide +kernel
theorem d17_4 : decode jdk_52_method_3_code 4 = .ok (.new 17, 3) := by decide +kernel
theorem d17_7 : decode jdk_52_method_3_code 7 = .ok (.dup, 1) := by decide +kernel
theorem d17_8 : decode jdk_52_method_3_code 8 = .ok (.invokespecial 19, 3) := by decide +kernel
theorem d17_11 : decode jdk_52_method_3_code 11 = .ok (.athrow, 1) := by decide +kernel
theorem d17_12 : decode jdk_52_method_3_code 12 = .ok (.iload_n 0, 1) := by decide +kernel
theorem d17_13 : decode jdk_52_method_3_code 13 = .ok (.ldc 20, 2) := by decide +kernel
theorem d17_15 : decode jdk_52_method_3_code 15 = .ok (.if_icmp .lt 40, 3) := by decide +kernel
theorem d17_18 : decode jdk_52_method_3_code 18 = .ok (.new 21, 3) := by decide +kernel
theorem d17_21 : decode jdk_52_method_3_code 21 = .ok (.dup, 1) := by decide +kernel
theorem d17_22 : decode jdk_52_method_3_code 22 = .ok (.new 23, 3) := by decide +kernel
theorem d17_25 : decode jdk_52_method_3_code 25 = .ok (.dup, 1) := by decide +kernel
theorem d17_26 : decode jdk_52_method_3_code 26 = .ok (.invokespecial 25, 3) := by decide +kernel
theorem d17_29 : decode jdk_52_method_3_code 29 = .ok (.ldc 26, 2) := by decide +kernel
theorem d17_31 : decode jdk_52_method_3_code 31 = .ok (.invokevirtual 28, 3) := by decide +kernel
theorem d17_34 : decode jdk_52_method_3_code 34 = .ok (.iload_n 0, 1) := by decide +kernel
theorem d17_35 : decode jdk_52_method_3_code 35 = .ok (.invokevirtual 32, 3) := by decide +kernel
theorem d17_38 : decode jdk_52_method_3_code 38 = .ok (.ldc 35, 2) := by decide +kernel
theorem d17_40 : decode jdk_52_method_3_code 40 = .ok (.invokevirtual 28, 3) := by decide +kernel
theorem d17_43 : decode jdk_52_method_3_code 43 = .ok (.ldc 20, 2) := by decide +kernel
theorem d17_45 : decode jdk_52_method_3_code 45 = .ok (.invokevirtual 32, 3) := by decide +kernel
theorem d17_48 : decode jdk_52_method_3_code 48 = .ok (.invokevirtual 37, 3) := by decide +kernel
theorem d17_51 : decode jdk_52_method_3_code 51 = .ok (.invokespecial 41, 3) := by decide +kernel
theorem d17_54 : decode jdk_52_method_3_code 54 = .ok (.athrow, 1) := by decide +kernel
theorem d17_55 : decode jdk_52_method_3_code 55 = .ok (.iload_n 0, 1) := by decide +kernel
theorem d17_56 : decode jdk_52_method_3_code 56 = .ok (.iconst 1, 1) := by decide +kernel
theorem d17_57 : decode jdk_52_method_3_code 57 = .ok (.ishl, 1) := by decide +kernel
theorem d17_58 : decode jdk_52_method_3_code 58 = .ok (.ireturn, 1) := by decide +kernel
theorem pn_17 : plainName "java/lang/StringUTF16" = true := by first | (simp [plainName, overriddenIn]; done) | decide +kernel
theorem ef_rmnl (m : MethodId) (x0 : Int32) : entryFrame m #[(.int x0)] 1 = mkF m 0 #[iv x0] [] := by first | (simp [entryFrame, mkF, argsToLocals, Value.category]; done) | rfl
def Qrmnl (Z : State)  (h0 : Heap) (n0 : Nat) (v : Option Value) (h : Heap) (L : List Loc) : Prop := v = some (.int (8 : Int32)) ∧ Fr n0 L ∧ h = h0
set_option maxRecDepth 65536 in
set_option maxHeartbeats 40000000 in
theorem rmnl (l : Launch) (Z : State) (a0 : Array Value) (hw : ∀ d ∈ tables_1, d.before a0 Z = true) (ws : List Jvm.Cond)  (h0 : Heap) (n0 : Nat) (Z0 : n0 ≤ h0.size) :
    MetFree l (⟨"java/lang/StringUTF16", "newBytesLength", "(I)I"⟩ : MethodName) (head1 (Jvm.Cond.code (⟨"java/lang/StringUTF16", "newBytesLength", "(I)I"⟩ : MethodName) jdk_52_method_3_code 1 (some .int) :: ws) ({ frames := 0, cells := 0, slots := 0, locals := 0 } : Room)) (fun a U => a = #[(.int (4 : Int32))] ∧ Z.Warmed39 U.vm ∧ U.heap = h0) (fun _ _ _ _ _ => True) (fun _ U o U' => ∃ v L, o = .returned v ∧ Qrmnl Z  h0 n0 v U'.heap L ∧ FrameEnd U o U' L ({ frames := 0, cells := 0, slots := 0, locals := 0 } : Room).cells ({ frames := 0, cells := 0, slots := 0, locals := 0 } : Room).slots) := by
 refine MetFree.of_bodySF (plainFor_of_name pn_17) hisR ?_
 intro p e s m args below meth c s₁ Bd hml0 hP hK
 obtain ⟨rfl, hZ, hh⟩ := hP
 have hx := Bd.exec
 have hby := Bd.bytes
 have hml : c.maxLocals = 1 := hml0
 have hown : s.vm.findClass "java/lang/StringUTF16" = some m.cls := findClass_of_methodNamed Bd.named
 have hnm := (name_of_methodNamed Bd.named Bd.method).1
 have X0 : Stand p l e ({ frames := 0, cells := 0, slots := 0, locals := 0 } : Room) s m #[(.int (4 : Int32))] below meth c s₁ [] 0 0 := Stand.of_body Bd
 have e0 : s₁.heap = h0 := by rw [← hh, Bd.state]; rfl
 have N0 := Fr.nil n0
 refine own_go (b := (s₁.setTop (mkF m 0 #[iv (4 : Int32)] []))) (fun _ k => castTop (ef_rmnl m (4 : Int32)) k) ?_
 refine own_go (b := (s₁.setTop (mkF m 58 #[iv (4 : Int32)] [(.int (8 : Int32))]))) (fun _ k => XS.iloadN X0.here hx rfl (hb hby d17_0) rfl (XS.ifYes X0.here hx rfl (pc0 := 1) (pc' := 12) rfl (hb hby d17_1) rfl ((if0 _ _).trans (flt (by decide : ¬ ((4 : Int32) < (0 : Int32)))).2.1) (by decide) (by decide) (XS.iloadN X0.here hx rfl (hb hby d17_12) rfl (X0.ldcInt hx hown (mvT hZ (ow hw 74 rfl)) (g := (mkF m 13 #[iv (4 : Int32)] [(.int (4 : Int32))])) rfl (hb hby d17_13) _ (XS.icmpYes X0.here hx rfl (pc0 := 15) (pc' := 55) rfl (hb hby d17_15) rfl (tlt (by decide : (4 : Int32) < (1073741823 : Int32))).1 (by decide) (by decide) (XS.iloadN X0.here hx rfl (hb hby d17_55) rfl (XS.iconst X0.here hx rfl (hb hby d17_56) (XS.ishl X0.here hx rfl (hb hby d17_57) rfl k)))))))) ?_
 obtain ⟨fs, hr, hrun, hended, hW, hsame⟩ := X0.leave (v := some (.int (8 : Int32))) (fun h => by rw [Bd.returns] at h; cases h)
 exact ⟨_, _, retOut X0 hx Bd.returns rfl (Or.inl ⟨rfl, Or.inl rfl, _, rfl⟩) (hb hby d17_58) hr, hrun, hended, _, _, rfl, (show Qrmnl Z  h0 n0 _ s₁.heap _ from (by rw [e0]; exact ⟨rfl, N0, rfl⟩)), ⟨_, rfl⟩, hW, hsame.mono (by decide) (by decide)⟩
theorem d16_0 : decode jdk_52_method_2_code 0 = .ok (.iload_n 0, 1) := by decide +kernel
theorem d16_1 : decode jdk_52_method_2_code 1 = .ok (.invokestatic 11, 3) := by decide +kernel
theorem d16_4 : decode jdk_52_method_2_code 4 = .ok (.newarray .byte, 2) := by decide +kernel
theorem d16_6 : decode jdk_52_method_2_code 6 = .ok (.areturn, 1) := by decide +kernel
theorem pd__I_I : parseMethodDescriptor "(I)I" = some ⟨[.int], some .int⟩ := by decide +kernel
theorem pn_16 : plainName "java/lang/StringUTF16" = true := by first | (simp [plainName, overriddenIn]; done) | decide +kernel
theorem ef_rmnf (m : MethodId) (x0 : Int32) : entryFrame m #[(.int x0)] 1 = mkF m 0 #[iv x0] [] := by first | (simp [entryFrame, mkF, argsToLocals, Value.category]; done) | rfl
def Qrmnf (Z : State)  (h0 : Heap) (n0 : Nat) (v : Option Value) (h : Heap) (L : List Loc) : Prop := ∃ (b : Addr) (kb : ClassId), v = some (.ref b) ∧ Fr n0 L ∧ Keep h0 h [] ∧ (h0.size ≤ b) ∧ (Arv Z h b kb .byte (8 : Int32) [(.int (0 : Int32)), (.int (0 : Int32)), (.int (0 : Int32)), (.int (0 : Int32)), (.int (0 : Int32)), (.int (0 : Int32)), (.int (0 : Int32)), (.int (0 : Int32))] (.int (0 : Int32)))
set_option maxRecDepth 65536 in
set_option maxHeartbeats 40000000 in
theorem rmnf (l : Launch) (Z : State) (a0 : Array Value) (hw : ∀ d ∈ tables_1, d.before a0 Z = true) (ws : List Jvm.Cond)  (h0 : Heap) (n0 : Nat) (Z0 : n0 ≤ h0.size) :
    MetFree l (⟨"java/lang/StringUTF16", "newBytesFor", "(I)[B"⟩ : MethodName) (head1 (Jvm.Cond.code (⟨"java/lang/StringUTF16", "newBytesFor", "(I)[B"⟩ : MethodName) jdk_52_method_2_code 1 (some (.array .byte)) :: ws) ({ frames := 1, cells := 1, slots := 8, locals := 12 } : Room)) (fun a U => a = #[(.int (4 : Int32))] ∧ Z.Warmed39 U.vm ∧ U.heap = h0) (fun _ _ _ _ _ => True) (fun _ U o U' => ∃ v L, o = .returned v ∧ Qrmnf Z  h0 n0 v U'.heap L ∧ FrameEnd U o U' L ({ frames := 1, cells := 1, slots := 8, locals := 12 } : Room).cells ({ frames := 1, cells := 1, slots := 8, locals := 12 } : Room).slots) := by
 refine MetFree.of_bodySF (plainFor_of_name pn_16) hisR ?_
 intro p e s m args below meth c s₁ Bd hml0 hP hK
 obtain ⟨rfl, hZ, hh⟩ := hP
 have hx := Bd.exec
 have hby := Bd.bytes
 have hml : c.maxLocals = 1 := hml0
 have hown : s.vm.findClass "java/lang/StringUTF16" = some m.cls := findClass_of_methodNamed Bd.named
 have hnm := (name_of_methodNamed Bd.named Bd.method).1
 have X0 : Stand p l e ({ frames := 1, cells := 1, slots := 8, locals := 12 } : Room) s m #[(.int (4 : Int32))] below meth c s₁ [] 0 0 := Stand.of_body Bd
 have e0 : s₁.heap = h0 := by rw [← hh, Bd.state]; rfl
 have N0 := Fr.nil n0
 refine own_go (b := (s₁.setTop (mkF m 0 #[iv (4 : Int32)] []))) (fun _ k => castTop (ef_rmnf m (4 : Int32)) k) ?_
 refine own_go (b := (s₁.setTop (mkF m 1 #[iv (4 : Int32)] [(.int (4 : Int32))]))) (fun _ k => XS.iloadN X0.here hx rfl (hb hby d16_0) rfl k) ?_
 refine own_stat (W := 0) X0 hx hZ hown e0 (ow hw 71 rfl) (ow hw 72 rfl) (rmnl l Z a0 hw []  h0 n0 Z0) (ow hw 73 rfl) (ow hw 22 rfl) rfl (by rw [hml]; rfl) rfl (hb hby d16_1) (lenOf pd__I_I rfl) rfl (by decide) (fun T1 v1 Ll1 X1 hQ1 => ?_)
 obtain ⟨rfl, N1q, eh1⟩ := hQ1
 have N1 := Fr.app N0 N1q
 obtain ⟨T2, h2, kl2, X2, e2, E2, A2, st2⟩ := newP X1 hx hZ (ow hw 24 rfl) eh1 (g := (mkF m 4 #[iv (4 : Int32)] [(.int (8 : Int32))])) rfl (hb hby d16_4) rfl (by decide) (cap := 8) (by decide) (by decide) (by decide) (by decide)
 obtain ⟨b2, g2⟩ : ∃ z, z = h0.size := ⟨_, rfl⟩
 rw [← g2] at A2 st2
 have Zs3 : n0 ≤ h2.size := Nat.le_trans Z0 E2.1
 have V2 : Arv Z h2 b2 kl2 .byte (8 : Int32) [(.int (0 : Int32)), (.int (0 : Int32)), (.int (0 : Int32)), (.int (0 : Int32)), (.int (0 : Int32)), (.int (0 : Int32)), (.int (0 : Int32)), (.int (0 : Int32))] (.int (0 : Int32)) := (Arv.new A2 (by decide)).pad (pad_rep [] (.int (0 : Int32)) 8)
 refine own_go (b := (T2.setTop (mkF m 6 #[iv (4 : Int32)] [(.ref b2)]))) (fun _ k => st2 _ k) ?_
 have K4 := (Keep.refl h0 []).ext E2
 obtain ⟨fs, hr, hrun, hended, hW, hsame⟩ := X2.leave (v := some (.ref b2)) (fun h => by rw [Bd.returns] at h; cases h)
 exact ⟨_, _, retOut X2 hx Bd.returns rfl (Or.inr (Or.inr (Or.inr (Or.inr ⟨rfl, rfl, rfl⟩)))) (hb hby d16_6) hr, hrun, hended, _, _, rfl, (show Qrmnf Z  h0 n0 _ T2.heap _ from (by rw [e2]; exact ⟨b2, kl2, rfl, N1, K4, (Nat.le_trans (Nat.le_refl _) (Nat.le_of_eq g2.symm)), V2⟩)), ⟨_, rfl⟩, hW, hsame.mono (by decide) (by decide)⟩
theorem d18_0 : decode jdk_52_method_4_code 0 = .ok (.getstatic 44, 3) := by decide +kernel
theorem d18_3 : decode jdk_52_method_4_code 3 = .ok (.ifCond .ne 25, 3) := by decide +kernel
theorem d18_6 : decode jdk_52_method_4_code 6 = .ok (.iload_n 1, 1) := by decide +kernel
theorem d18_7 : decode jdk_52_method_4_code 7 = .ok (.ifCond .lt 11, 3) := by decide +kernel
theorem d18_10 : decode jdk_52_method_4_code 10 = .ok (.iload_n 1, 1) := by decide +kernel
theorem d18_11 : decode jdk_52_method_4_code 11 = .ok (.aload_n 0, 1) := by decide +kernel
theorem d18_12 : decode jdk_52_method_4_code 12 = .ok (.invokestatic 48, 3) := by decide +kernel
theorem d18_15 : decode jdk_52_method_4_code 15 = .ok (.if_icmp .lt 13, 3) := by decide +kernel
theorem d18_18 : decode jdk_52_method_4_code 18 = .ok (.new 52, 3) := by decide +kernel
theorem d18_21 : decode jdk_52_method_4_code 21 = .ok (.dup, 1) := by decide +kernel
theorem d18_22 : decode jdk_52_method_4_code 22 = .ok (.ldc 54, 2) := by decide +kernel
theorem d18_24 : decode jdk_52_method_4_code 24 = .ok (.invokespecial 56, 3) := by decide +kernel
theorem d18_27 : decode jdk_52_method_4_code 27 = .ok (.athrow, 1) := by decide +kernel
theorem d18_28 : decode jdk_52_method_4_code 28 = .ok (.iload_n 1, 1) := by decide +kernel
theorem d18_29 : decode jdk_52_method_4_code 29 = .ok (.iconst 1, 1) := by decide +kernel
theorem d18_30 : decode jdk_52_method_4_code 30 = .ok (.ishl, 1) := by decide +kernel
theorem d18_31 : decode jdk_52_method_4_code 31 = .ok (.istore_n 1, 1) := by decide +kernel
theorem d18_32 : decode jdk_52_method_4_code 32 = .ok (.aload_n 0, 1) := by decide +kernel
theorem d18_33 : decode jdk_52_method_4_code 33 = .ok (.iload_n 1, 1) := by decide +kernel
theorem d18_34 : decode jdk_52_method_4_code 34 = .ok (.iinc 1 1, 3) := by decide +kernel
theorem d18_37 : decode jdk_52_method_4_code 37 = .ok (.iload_n 2, 1) := by decide +kernel
theorem d18_38 : decode jdk_52_method_4_code 38 = .ok (.getstatic 59, 3) := by decide +kernel
theorem d18_41 : decode jdk_52_method_4_code 41 = .ok (.ishr, 1) := by decide +kernel
theorem d18_42 : decode jdk_52_method_4_code 42 = .ok (.i2b, 1) := by decide +kernel
theorem d18_43 : decode jdk_52_method_4_code 43 = .ok (.bastore, 1) := by decide +kernel
theorem d18_44 : decode jdk_52_method_4_code 44 = .ok (.aload_n 0, 1) := by decide +kernel
theorem d18_45 : decode jdk_52_method_4_code 45 = .ok (.iload_n 1, 1) := by decide +kernel
theorem d18_46 : decode jdk_52_method_4_code 46 = .ok (.iload_n 2, 1) := by decide +kernel
theorem d18_47 : decode jdk_52_method_4_code 47 = .ok (.getstatic 63, 3) := by decide +kernel
theorem d18_50 : decode jdk_52_method_4_code 50 = .ok (.ishr, 1) := by decide +kernel
theorem d18_51 : decode jdk_52_method_4_code 51 = .ok (.i2b, 1) := by decide +kernel
theorem d18_52 : decode jdk_52_method_4_code 52 = .ok (.bastore, 1) := by decide +kernel
theorem d18_53 : decode jdk_52_method_4_code 53 = .ok (.return_, 1) := by decide +kernel
theorem pn_18 : plainName "java/lang/StringUTF16" = true := by first | (simp [plainName, overriddenIn]; done) | decide +kernel
theorem ef_rmput0 (m : MethodId) (x0 : Addr) (x1 : Int32) (x2 : Int32) : entryFrame m #[(.ref x0), (.int x1), (.int x2)] 3 = mkF m 0 #[rv x0, iv x1, iv x2] [] := by first | (simp [entryFrame, mkF, argsToLocals, Value.category]; done) | rfl
def Qrmput0 (Z : State) (a3 : Addr) (k3 : ClassId) (cv : Int32) (x0 : Int32) (x1 : Int32) (x2 : Int32) (x3 : Int32) (x4 : Int32) (x5 : Int32) (x6 : Int32) (x7 : Int32) (h0 : Heap) (n0 : Nat) (v : Option Value) (h : Heap) (L : List Loc) : Prop := v = none ∧ Fr n0 L ∧ Keep h0 h [a3] ∧ (Arv Z h a3 k3 .byte (8 : Int32) [(.int (own_lo cv)), (.int (own_hi cv)), (.int x2), (.int x3), (.int x4), (.int x5), (.int x6), (.int x7)] (.int (0 : Int32)))
set_option maxRecDepth 65536 in
set_option maxHeartbeats 40000000 in
theorem rmput0 (l : Launch) (Z : State) (a0 : Array Value) (hw : ∀ d ∈ tables_1, d.before a0 Z = true) (ws : List Jvm.Cond) (a3 : Addr) (k3 : ClassId) (cv : Int32) (x0 : Int32) (x1 : Int32) (x2 : Int32) (x3 : Int32) (x4 : Int32) (x5 : Int32) (x6 : Int32) (x7 : Int32) (h0 : Heap) (n0 : Nat) (Z0 : n0 ≤ h0.size) (O0 : Old Z n0 h0) (S__assertionsDisabled : Sta Z Z.heap "java/lang/StringUTF16" "$assertionsDisabled" "Z" (.int (1 : Int32))) (S_HI_BYTE_SHIFT : Sta Z Z.heap "java/lang/StringUTF16" "HI_BYTE_SHIFT" "I" (.int (0 : Int32))) (S_LO_BYTE_SHIFT : Sta Z Z.heap "java/lang/StringUTF16" "LO_BYTE_SHIFT" "I" (.int (8 : Int32))) (V_a3 : Arv Z h0 a3 k3 .byte (8 : Int32) [(.int x0), (.int x1), (.int x2), (.int x3), (.int x4), (.int x5), (.int x6), (.int x7)] (.int (0 : Int32))) (g_a3 : n0 ≤ a3) :
    MetFree l mn2 (head1 (Jvm.Cond.code mn2 jdk_52_method_4_code 3 none :: ws) ({ frames := 0, cells := 0, slots := 0, locals := 0 } : Room)) (fun a U => a = #[(.ref a3), (.int (0 : Int32)), (.int cv)] ∧ Z.Warmed39 U.vm ∧ U.heap = h0) (fun _ _ _ _ _ => True) (fun _ U o U' => ∃ v L, o = .returned v ∧ Qrmput0 Z a3 k3 cv x0 x1 x2 x3 x4 x5 x6 x7 h0 n0 v U'.heap L ∧ FrameEnd U o U' L ({ frames := 0, cells := 0, slots := 0, locals := 0 } : Room).cells ({ frames := 0, cells := 0, slots := 0, locals := 0 } : Room).slots) := by
 refine MetFree.of_bodySF (plainFor_of_name pn_18) hisR ?_
 intro p e s m args below meth c s₁ Bd hml0 hP hK
 obtain ⟨rfl, hZ, hh⟩ := hP
 have hx := Bd.exec
 have hby := Bd.bytes
 have hml : c.maxLocals = 3 := hml0
 have hown : s.vm.findClass "java/lang/StringUTF16" = some m.cls := findClass_of_methodNamed Bd.named
 have hnm := (name_of_methodNamed Bd.named Bd.method).1
 have X0 : Stand p l e ({ frames := 0, cells := 0, slots := 0, locals := 0 } : Room) s m #[(.ref a3), (.int (0 : Int32)), (.int cv)] below meth c s₁ [] 0 0 := Stand.of_body Bd
 have e0 : s₁.heap = h0 := by rw [← hh, Bd.state]; rfl
 have N0 := Fr.nil n0
 refine own_go (b := (s₁.setTop (mkF m 0 #[rv a3, iv (0 : Int32), iv cv] []))) (fun _ k => castTop (ef_rmput0 m a3 (0 : Int32) cv) k) ?_
 obtain ⟨T1, X1, e1, st1⟩ := getS2 X0 hx hZ hown (host := "") (Or.inl (ow hw 78 rfl)) Via.refl e0 (S__assertionsDisabled.ext O0.2) (g := (mkF m 0 #[rv a3, iv (0 : Int32), iv cv] [])) rfl (hb hby d18_0)
 refine own_go (b := (T1.setTop (mkF m 38 #[rv a3, iv (1 : Int32), iv cv] [(.int cv), (.int (0 : Int32)), (.ref a3)]))) (fun _ k => st1 _ (XS.ifYes X1.here hx rfl (pc0 := 3) (pc' := 28) rfl (hb hby d18_3) rfl ((if0 _ _).trans (feq (by decide : ¬ ((1 : Int32) = (0 : Int32)))).2) (by decide) (by decide) (XS.iloadN X1.here hx rfl (hb hby d18_28) rfl (XS.iconst X1.here hx rfl (hb hby d18_29) (XS.ishl X1.here hx rfl (hb hby d18_30) rfl (XS.istoreN X1.here hx rfl (hb hby d18_31) rfl (l' := #[rv a3, iv (0 : Int32), iv cv]) rfl (XS.aloadN X1.here hx rfl (hb hby d18_32) rfl rfl (XS.iloadN X1.here hx rfl (hb hby d18_33) rfl (XS.iinc X1.here hx rfl (hb hby d18_34) rfl (l' := #[rv a3, iv (1 : Int32), iv cv]) rfl (XS.iloadN X1.here hx rfl (hb hby d18_37) rfl k)))))))))) ?_
 obtain ⟨T2, X2, e2, st2⟩ := getS2 X1 hx hZ hown (host := "") (Or.inl (ow hw 79 rfl)) Via.refl e1 (S_HI_BYTE_SHIFT.ext O0.2) (g := (mkF m 38 #[rv a3, iv (1 : Int32), iv cv] [(.int cv), (.int (0 : Int32)), (.ref a3)])) rfl (hb hby d18_38)
 refine own_go (b := (T2.setTop (mkF m 43 #[rv a3, iv (1 : Int32), iv cv] [(.int ((cv >>> ((0 : Int32) &&& 31)).toInt8.toInt32)), (.int (0 : Int32)), (.ref a3)]))) (fun _ k => st2 _ (XS.ishr X2.here hx rfl (hb hby d18_41) rfl (XS.i2b X2.here hx rfl (hb hby d18_42) rfl k))) ?_
 obtain ⟨cl3, Ar3, ql3, Sz3, Nn3, Hl3, Gl3⟩ := id V_a3
 have hin3 : ¬ ((0 : Int32) < 0 ∨ cl3.slots.size ≤ ((0 : Int32)).toNatClampNeg) := inb_of Sz3 ⟨by decide, by decide⟩
 obtain ⟨T3, h3, X3, e3, W3, st3⟩ := stB X2 hx hZ e2 Ar3 (j := (0 : Int32)) hin3 (g := (mkF m 43 #[rv a3, iv (1 : Int32), iv cv] [(.int ((cv >>> ((0 : Int32) &&& 31)).toInt8.toInt32)), (.int (0 : Int32)), (.ref a3)])) rfl rfl (hb hby d18_43)
 have N3 := Fr.snoc X3 N0 g_a3
 have Zs4 : n0 ≤ h3.size := Nat.le_trans Z0 (Keep.of_wr W3).1
 have V3 : Arv Z h3 a3 k3 .byte (8 : Int32) [(.int (own_lo cv)), (.int x1), (.int x2), (.int x3), (.int x4), (.int x5), (.int x6), (.int x7)] (.int (0 : Int32)) := Arv.set Ar3 ql3 Sz3 Nn3 Hl3 Gl3 (fits_nar_byte _) W3 0 rfl (Nat.le_of_ble_eq_true rfl)
 refine own_go (b := (T3.setTop (mkF m 47 #[rv a3, iv (1 : Int32), iv cv] [(.int cv), (.int (1 : Int32)), (.ref a3)]))) (fun _ k => st3 _ (XS.aloadN X3.here hx rfl (hb hby d18_44) rfl rfl (XS.iloadN X3.here hx rfl (hb hby d18_45) rfl (XS.iloadN X3.here hx rfl (hb hby d18_46) rfl k)))) ?_
 have O5 := O0.wr W3 g_a3
 obtain ⟨T6, X6, e6, st6⟩ := getS2 X3 hx hZ hown (host := "") (Or.inl (ow hw 80 rfl)) Via.refl e3 (S_LO_BYTE_SHIFT.ext O5.2) (g := (mkF m 47 #[rv a3, iv (1 : Int32), iv cv] [(.int cv), (.int (1 : Int32)), (.ref a3)])) rfl (hb hby d18_47)
 refine own_go (b := (T6.setTop (mkF m 52 #[rv a3, iv (1 : Int32), iv cv] [(.int ((cv >>> ((8 : Int32) &&& 31)).toInt8.toInt32)), (.int (1 : Int32)), (.ref a3)]))) (fun _ k => st6 _ (XS.ishr X6.here hx rfl (hb hby d18_50) rfl (XS.i2b X6.here hx rfl (hb hby d18_51) rfl k))) ?_
 obtain ⟨cl7, Ar7, ql7, Sz7, Nn7, Hl7, Gl7⟩ := id V3
 have hin7 : ¬ ((1 : Int32) < 0 ∨ cl7.slots.size ≤ ((1 : Int32)).toNatClampNeg) := inb_of Sz7 ⟨by decide, by decide⟩
 obtain ⟨T7, h7, X7, e7, W7, st7⟩ := stB X6 hx hZ e6 Ar7 (j := (1 : Int32)) hin7 (g := (mkF m 52 #[rv a3, iv (1 : Int32), iv cv] [(.int ((cv >>> ((8 : Int32) &&& 31)).toInt8.toInt32)), (.int (1 : Int32)), (.ref a3)])) rfl rfl (hb hby d18_52)
 have N7 := Fr.snoc X7 N3 g_a3
 have Zs8 : n0 ≤ h7.size := Nat.le_trans Zs4 (Keep.of_wr W7).1
 have V7 : Arv Z h7 a3 k3 .byte (8 : Int32) [(.int (own_lo cv)), (.int (own_hi cv)), (.int x2), (.int x3), (.int x4), (.int x5), (.int x6), (.int x7)] (.int (0 : Int32)) := Arv.set Ar7 ql7 Sz7 Nn7 Hl7 Gl7 (fits_nar_byte _) W7 1 rfl (Nat.le_of_ble_eq_true rfl)
 refine own_go (b := (T7.setTop (mkF m 53 #[rv a3, iv (1 : Int32), iv cv] []))) (fun _ k => st7 _ k) ?_
 have K9 := (Keep.refl h0 [a3]).wr W3 (Or.inl (List.mem_of_getElem? (i := 0) rfl))
 have K10 := K9.wr W7 (Or.inl (List.mem_of_getElem? (i := 0) rfl))
 obtain ⟨fs, hr, hrun, hended, hW, hsame⟩ := X7.leave (v := none) (fun _ => rfl)
 exact ⟨_, _, X7.returnOut hx Bd.returns (hb hby d18_53) hr, hrun, hended, _, _, rfl, (show Qrmput0 Z a3 k3 cv x0 x1 x2 x3 x4 x5 x6 x7 h0 n0 _ T7.heap _ from (by rw [e7]; exact ⟨rfl, N7, K10, V7⟩)), ⟨_, rfl⟩, hW, hsame.mono (by decide) (by decide)⟩
theorem ef_rmput1 (m : MethodId) (x0 : Addr) (x1 : Int32) (x2 : Int32) : entryFrame m #[(.ref x0), (.int x1), (.int x2)] 3 = mkF m 0 #[rv x0, iv x1, iv x2] [] := by first | (simp [entryFrame, mkF, argsToLocals, Value.category]; done) | rfl
def Qrmput1 (Z : State) (a3 : Addr) (k3 : ClassId) (cv : Int32) (x0 : Int32) (x1 : Int32) (x2 : Int32) (x3 : Int32) (x4 : Int32) (x5 : Int32) (x6 : Int32) (x7 : Int32) (h0 : Heap) (n0 : Nat) (v : Option Value) (h : Heap) (L : List Loc) : Prop := v = none ∧ Fr n0 L ∧ Keep h0 h [a3] ∧ (Arv Z h a3 k3 .byte (8 : Int32) [(.int x0), (.int x1), (.int (own_lo cv)), (.int (own_hi cv)), (.int x4), (.int x5), (.int x6), (.int x7)] (.int (0 : Int32)))
set_option maxRecDepth 65536 in
set_option maxHeartbeats 40000000 in
theorem rmput1 (l : Launch) (Z : State) (a0 : Array Value) (hw : ∀ d ∈ tables_1, d.before a0 Z = true) (ws : List Jvm.Cond) (a3 : Addr) (k3 : ClassId) (cv : Int32) (x0 : Int32) (x1 : Int32) (x2 : Int32) (x3 : Int32) (x4 : Int32) (x5 : Int32) (x6 : Int32) (x7 : Int32) (h0 : Heap) (n0 : Nat) (Z0 : n0 ≤ h0.size) (O0 : Old Z n0 h0) (S__assertionsDisabled : Sta Z Z.heap "java/lang/StringUTF16" "$assertionsDisabled" "Z" (.int (1 : Int32))) (S_HI_BYTE_SHIFT : Sta Z Z.heap "java/lang/StringUTF16" "HI_BYTE_SHIFT" "I" (.int (0 : Int32))) (S_LO_BYTE_SHIFT : Sta Z Z.heap "java/lang/StringUTF16" "LO_BYTE_SHIFT" "I" (.int (8 : Int32))) (V_a3 : Arv Z h0 a3 k3 .byte (8 : Int32) [(.int x0), (.int x1), (.int x2), (.int x3), (.int x4), (.int x5), (.int x6), (.int x7)] (.int (0 : Int32))) (g_a3 : n0 ≤ a3) :
    MetFree l mn2 (head1 (Jvm.Cond.code mn2 jdk_52_method_4_code 3 none :: ws) ({ frames := 0, cells := 0, slots := 0, locals := 0 } : Room)) (fun a U => a = #[(.ref a3), (.int (1 : Int32)), (.int cv)] ∧ Z.Warmed39 U.vm ∧ U.heap = h0) (fun _ _ _ _ _ => True) (fun _ U o U' => ∃ v L, o = .returned v ∧ Qrmput1 Z a3 k3 cv x0 x1 x2 x3 x4 x5 x6 x7 h0 n0 v U'.heap L ∧ FrameEnd U o U' L ({ frames := 0, cells := 0, slots := 0, locals := 0 } : Room).cells ({ frames := 0, cells := 0, slots := 0, locals := 0 } : Room).slots) := by
 refine MetFree.of_bodySF (plainFor_of_name pn_18) hisR ?_
 intro p e s m args below meth c s₁ Bd hml0 hP hK
 obtain ⟨rfl, hZ, hh⟩ := hP
 have hx := Bd.exec
 have hby := Bd.bytes
 have hml : c.maxLocals = 3 := hml0
 have hown : s.vm.findClass "java/lang/StringUTF16" = some m.cls := findClass_of_methodNamed Bd.named
 have hnm := (name_of_methodNamed Bd.named Bd.method).1
 have X0 : Stand p l e ({ frames := 0, cells := 0, slots := 0, locals := 0 } : Room) s m #[(.ref a3), (.int (1 : Int32)), (.int cv)] below meth c s₁ [] 0 0 := Stand.of_body Bd
 have e0 : s₁.heap = h0 := by rw [← hh, Bd.state]; rfl
 have N0 := Fr.nil n0
 refine own_go (b := (s₁.setTop (mkF m 0 #[rv a3, iv (1 : Int32), iv cv] []))) (fun _ k => castTop (ef_rmput1 m a3 (1 : Int32) cv) k) ?_
 obtain ⟨T1, X1, e1, st1⟩ := getS2 X0 hx hZ hown (host := "") (Or.inl (ow hw 78 rfl)) Via.refl e0 (S__assertionsDisabled.ext O0.2) (g := (mkF m 0 #[rv a3, iv (1 : Int32), iv cv] [])) rfl (hb hby d18_0)
 refine own_go (b := (T1.setTop (mkF m 38 #[rv a3, iv (3 : Int32), iv cv] [(.int cv), (.int (2 : Int32)), (.ref a3)]))) (fun _ k => st1 _ (XS.ifYes X1.here hx rfl (pc0 := 3) (pc' := 28) rfl (hb hby d18_3) rfl ((if0 _ _).trans (feq (by decide : ¬ ((1 : Int32) = (0 : Int32)))).2) (by decide) (by decide) (XS.iloadN X1.here hx rfl (hb hby d18_28) rfl (XS.iconst X1.here hx rfl (hb hby d18_29) (XS.ishl X1.here hx rfl (hb hby d18_30) rfl (XS.istoreN X1.here hx rfl (hb hby d18_31) rfl (l' := #[rv a3, iv (2 : Int32), iv cv]) rfl (XS.aloadN X1.here hx rfl (hb hby d18_32) rfl rfl (XS.iloadN X1.here hx rfl (hb hby d18_33) rfl (XS.iinc X1.here hx rfl (hb hby d18_34) rfl (l' := #[rv a3, iv (3 : Int32), iv cv]) rfl (XS.iloadN X1.here hx rfl (hb hby d18_37) rfl k)))))))))) ?_
 obtain ⟨T2, X2, e2, st2⟩ := getS2 X1 hx hZ hown (host := "") (Or.inl (ow hw 79 rfl)) Via.refl e1 (S_HI_BYTE_SHIFT.ext O0.2) (g := (mkF m 38 #[rv a3, iv (3 : Int32), iv cv] [(.int cv), (.int (2 : Int32)), (.ref a3)])) rfl (hb hby d18_38)
 refine own_go (b := (T2.setTop (mkF m 43 #[rv a3, iv (3 : Int32), iv cv] [(.int ((cv >>> ((0 : Int32) &&& 31)).toInt8.toInt32)), (.int (2 : Int32)), (.ref a3)]))) (fun _ k => st2 _ (XS.ishr X2.here hx rfl (hb hby d18_41) rfl (XS.i2b X2.here hx rfl (hb hby d18_42) rfl k))) ?_
 obtain ⟨cl3, Ar3, ql3, Sz3, Nn3, Hl3, Gl3⟩ := id V_a3
 have hin3 : ¬ ((2 : Int32) < 0 ∨ cl3.slots.size ≤ ((2 : Int32)).toNatClampNeg) := inb_of Sz3 ⟨by decide, by decide⟩
 obtain ⟨T3, h3, X3, e3, W3, st3⟩ := stB X2 hx hZ e2 Ar3 (j := (2 : Int32)) hin3 (g := (mkF m 43 #[rv a3, iv (3 : Int32), iv cv] [(.int ((cv >>> ((0 : Int32) &&& 31)).toInt8.toInt32)), (.int (2 : Int32)), (.ref a3)])) rfl rfl (hb hby d18_43)
 have N3 := Fr.snoc X3 N0 g_a3
 have Zs4 : n0 ≤ h3.size := Nat.le_trans Z0 (Keep.of_wr W3).1
 have V3 : Arv Z h3 a3 k3 .byte (8 : Int32) [(.int x0), (.int x1), (.int (own_lo cv)), (.int x3), (.int x4), (.int x5), (.int x6), (.int x7)] (.int (0 : Int32)) := Arv.set Ar3 ql3 Sz3 Nn3 Hl3 Gl3 (fits_nar_byte _) W3 2 rfl (Nat.le_of_ble_eq_true rfl)
 refine own_go (b := (T3.setTop (mkF m 47 #[rv a3, iv (3 : Int32), iv cv] [(.int cv), (.int (3 : Int32)), (.ref a3)]))) (fun _ k => st3 _ (XS.aloadN X3.here hx rfl (hb hby d18_44) rfl rfl (XS.iloadN X3.here hx rfl (hb hby d18_45) rfl (XS.iloadN X3.here hx rfl (hb hby d18_46) rfl k)))) ?_
 have O5 := O0.wr W3 g_a3
 obtain ⟨T6, X6, e6, st6⟩ := getS2 X3 hx hZ hown (host := "") (Or.inl (ow hw 80 rfl)) Via.refl e3 (S_LO_BYTE_SHIFT.ext O5.2) (g := (mkF m 47 #[rv a3, iv (3 : Int32), iv cv] [(.int cv), (.int (3 : Int32)), (.ref a3)])) rfl (hb hby d18_47)
 refine own_go (b := (T6.setTop (mkF m 52 #[rv a3, iv (3 : Int32), iv cv] [(.int ((cv >>> ((8 : Int32) &&& 31)).toInt8.toInt32)), (.int (3 : Int32)), (.ref a3)]))) (fun _ k => st6 _ (XS.ishr X6.here hx rfl (hb hby d18_50) rfl (XS.i2b X6.here hx rfl (hb hby d18_51) rfl k))) ?_
 obtain ⟨cl7, Ar7, ql7, Sz7, Nn7, Hl7, Gl7⟩ := id V3
 have hin7 : ¬ ((3 : Int32) < 0 ∨ cl7.slots.size ≤ ((3 : Int32)).toNatClampNeg) := inb_of Sz7 ⟨by decide, by decide⟩
 obtain ⟨T7, h7, X7, e7, W7, st7⟩ := stB X6 hx hZ e6 Ar7 (j := (3 : Int32)) hin7 (g := (mkF m 52 #[rv a3, iv (3 : Int32), iv cv] [(.int ((cv >>> ((8 : Int32) &&& 31)).toInt8.toInt32)), (.int (3 : Int32)), (.ref a3)])) rfl rfl (hb hby d18_52)
 have N7 := Fr.snoc X7 N3 g_a3
 have Zs8 : n0 ≤ h7.size := Nat.le_trans Zs4 (Keep.of_wr W7).1
 have V7 : Arv Z h7 a3 k3 .byte (8 : Int32) [(.int x0), (.int x1), (.int (own_lo cv)), (.int (own_hi cv)), (.int x4), (.int x5), (.int x6), (.int x7)] (.int (0 : Int32)) := Arv.set Ar7 ql7 Sz7 Nn7 Hl7 Gl7 (fits_nar_byte _) W7 3 rfl (Nat.le_of_ble_eq_true rfl)
 refine own_go (b := (T7.setTop (mkF m 53 #[rv a3, iv (3 : Int32), iv cv] []))) (fun _ k => st7 _ k) ?_
 have K9 := (Keep.refl h0 [a3]).wr W3 (Or.inl (List.mem_of_getElem? (i := 0) rfl))
 have K10 := K9.wr W7 (Or.inl (List.mem_of_getElem? (i := 0) rfl))
 obtain ⟨fs, hr, hrun, hended, hW, hsame⟩ := X7.leave (v := none) (fun _ => rfl)
 exact ⟨_, _, X7.returnOut hx Bd.returns (hb hby d18_53) hr, hrun, hended, _, _, rfl, (show Qrmput1 Z a3 k3 cv x0 x1 x2 x3 x4 x5 x6 x7 h0 n0 _ T7.heap _ from (by rw [e7]; exact ⟨rfl, N7, K10, V7⟩)), ⟨_, rfl⟩, hW, hsame.mono (by decide) (by decide)⟩
theorem ef_rmput2 (m : MethodId) (x0 : Addr) (x1 : Int32) (x2 : Int32) : entryFrame m #[(.ref x0), (.int x1), (.int x2)] 3 = mkF m 0 #[rv x0, iv x1, iv x2] [] := by first | (simp [entryFrame, mkF, argsToLocals, Value.category]; done) | rfl
def Qrmput2 (Z : State) (a3 : Addr) (k3 : ClassId) (cv : Int32) (x0 : Int32) (x1 : Int32) (x2 : Int32) (x3 : Int32) (x4 : Int32) (x5 : Int32) (x6 : Int32) (x7 : Int32) (h0 : Heap) (n0 : Nat) (v : Option Value) (h : Heap) (L : List Loc) : Prop := v = none ∧ Fr n0 L ∧ Keep h0 h [a3] ∧ (Arv Z h a3 k3 .byte (8 : Int32) [(.int x0), (.int x1), (.int x2), (.int x3), (.int (own_lo cv)), (.int (own_hi cv)), (.int x6), (.int x7)] (.int (0 : Int32)))
set_option maxRecDepth 65536 in
set_option maxHeartbeats 40000000 in
theorem rmput2 (l : Launch) (Z : State) (a0 : Array Value) (hw : ∀ d ∈ tables_1, d.before a0 Z = true) (ws : List Jvm.Cond) (a3 : Addr) (k3 : ClassId) (cv : Int32) (x0 : Int32) (x1 : Int32) (x2 : Int32) (x3 : Int32) (x4 : Int32) (x5 : Int32) (x6 : Int32) (x7 : Int32) (h0 : Heap) (n0 : Nat) (Z0 : n0 ≤ h0.size) (O0 : Old Z n0 h0) (S__assertionsDisabled : Sta Z Z.heap "java/lang/StringUTF16" "$assertionsDisabled" "Z" (.int (1 : Int32))) (S_HI_BYTE_SHIFT : Sta Z Z.heap "java/lang/StringUTF16" "HI_BYTE_SHIFT" "I" (.int (0 : Int32))) (S_LO_BYTE_SHIFT : Sta Z Z.heap "java/lang/StringUTF16" "LO_BYTE_SHIFT" "I" (.int (8 : Int32))) (V_a3 : Arv Z h0 a3 k3 .byte (8 : Int32) [(.int x0), (.int x1), (.int x2), (.int x3), (.int x4), (.int x5), (.int x6), (.int x7)] (.int (0 : Int32))) (g_a3 : n0 ≤ a3) :
    MetFree l mn2 (head1 (Jvm.Cond.code mn2 jdk_52_method_4_code 3 none :: ws) ({ frames := 0, cells := 0, slots := 0, locals := 0 } : Room)) (fun a U => a = #[(.ref a3), (.int (2 : Int32)), (.int cv)] ∧ Z.Warmed39 U.vm ∧ U.heap = h0) (fun _ _ _ _ _ => True) (fun _ U o U' => ∃ v L, o = .returned v ∧ Qrmput2 Z a3 k3 cv x0 x1 x2 x3 x4 x5 x6 x7 h0 n0 v U'.heap L ∧ FrameEnd U o U' L ({ frames := 0, cells := 0, slots := 0, locals := 0 } : Room).cells ({ frames := 0, cells := 0, slots := 0, locals := 0 } : Room).slots) := by
 refine MetFree.of_bodySF (plainFor_of_name pn_18) hisR ?_
 intro p e s m args below meth c s₁ Bd hml0 hP hK
 obtain ⟨rfl, hZ, hh⟩ := hP
 have hx := Bd.exec
 have hby := Bd.bytes
 have hml : c.maxLocals = 3 := hml0
 have hown : s.vm.findClass "java/lang/StringUTF16" = some m.cls := findClass_of_methodNamed Bd.named
 have hnm := (name_of_methodNamed Bd.named Bd.method).1
 have X0 : Stand p l e ({ frames := 0, cells := 0, slots := 0, locals := 0 } : Room) s m #[(.ref a3), (.int (2 : Int32)), (.int cv)] below meth c s₁ [] 0 0 := Stand.of_body Bd
 have e0 : s₁.heap = h0 := by rw [← hh, Bd.state]; rfl
 have N0 := Fr.nil n0
 refine own_go (b := (s₁.setTop (mkF m 0 #[rv a3, iv (2 : Int32), iv cv] []))) (fun _ k => castTop (ef_rmput2 m a3 (2 : Int32) cv) k) ?_
 obtain ⟨T1, X1, e1, st1⟩ := getS2 X0 hx hZ hown (host := "") (Or.inl (ow hw 78 rfl)) Via.refl e0 (S__assertionsDisabled.ext O0.2) (g := (mkF m 0 #[rv a3, iv (2 : Int32), iv cv] [])) rfl (hb hby d18_0)
 refine own_go (b := (T1.setTop (mkF m 38 #[rv a3, iv (5 : Int32), iv cv] [(.int cv), (.int (4 : Int32)), (.ref a3)]))) (fun _ k => st1 _ (XS.ifYes X1.here hx rfl (pc0 := 3) (pc' := 28) rfl (hb hby d18_3) rfl ((if0 _ _).trans (feq (by decide : ¬ ((1 : Int32) = (0 : Int32)))).2) (by decide) (by decide) (XS.iloadN X1.here hx rfl (hb hby d18_28) rfl (XS.iconst X1.here hx rfl (hb hby d18_29) (XS.ishl X1.here hx rfl (hb hby d18_30) rfl (XS.istoreN X1.here hx rfl (hb hby d18_31) rfl (l' := #[rv a3, iv (4 : Int32), iv cv]) rfl (XS.aloadN X1.here hx rfl (hb hby d18_32) rfl rfl (XS.iloadN X1.here hx rfl (hb hby d18_33) rfl (XS.iinc X1.here hx rfl (hb hby d18_34) rfl (l' := #[rv a3, iv (5 : Int32), iv cv]) rfl (XS.iloadN X1.here hx rfl (hb hby d18_37) rfl k)))))))))) ?_
 obtain ⟨T2, X2, e2, st2⟩ := getS2 X1 hx hZ hown (host := "") (Or.inl (ow hw 79 rfl)) Via.refl e1 (S_HI_BYTE_SHIFT.ext O0.2) (g := (mkF m 38 #[rv a3, iv (5 : Int32), iv cv] [(.int cv), (.int (4 : Int32)), (.ref a3)])) rfl (hb hby d18_38)
 refine own_go (b := (T2.setTop (mkF m 43 #[rv a3, iv (5 : Int32), iv cv] [(.int ((cv >>> ((0 : Int32) &&& 31)).toInt8.toInt32)), (.int (4 : Int32)), (.ref a3)]))) (fun _ k => st2 _ (XS.ishr X2.here hx rfl (hb hby d18_41) rfl (XS.i2b X2.here hx rfl (hb hby d18_42) rfl k))) ?_
 obtain ⟨cl3, Ar3, ql3, Sz3, Nn3, Hl3, Gl3⟩ := id V_a3
 have hin3 : ¬ ((4 : Int32) < 0 ∨ cl3.slots.size ≤ ((4 : Int32)).toNatClampNeg) := inb_of Sz3 ⟨by decide, by decide⟩
 obtain ⟨T3, h3, X3, e3, W3, st3⟩ := stB X2 hx hZ e2 Ar3 (j := (4 : Int32)) hin3 (g := (mkF m 43 #[rv a3, iv (5 : Int32), iv cv] [(.int ((cv >>> ((0 : Int32) &&& 31)).toInt8.toInt32)), (.int (4 : Int32)), (.ref a3)])) rfl rfl (hb hby d18_43)
 have N3 := Fr.snoc X3 N0 g_a3
 have Zs4 : n0 ≤ h3.size := Nat.le_trans Z0 (Keep.of_wr W3).1
 have V3 : Arv Z h3 a3 k3 .byte (8 : Int32) [(.int x0), (.int x1), (.int x2), (.int x3), (.int (own_lo cv)), (.int x5), (.int x6), (.int x7)] (.int (0 : Int32)) := Arv.set Ar3 ql3 Sz3 Nn3 Hl3 Gl3 (fits_nar_byte _) W3 4 rfl (Nat.le_of_ble_eq_true rfl)
 refine own_go (b := (T3.setTop (mkF m 47 #[rv a3, iv (5 : Int32), iv cv] [(.int cv), (.int (5 : Int32)), (.ref a3)]))) (fun _ k => st3 _ (XS.aloadN X3.here hx rfl (hb hby d18_44) rfl rfl (XS.iloadN X3.here hx rfl (hb hby d18_45) rfl (XS.iloadN X3.here hx rfl (hb hby d18_46) rfl k)))) ?_
 have O5 := O0.wr W3 g_a3
 obtain ⟨T6, X6, e6, st6⟩ := getS2 X3 hx hZ hown (host := "") (Or.inl (ow hw 80 rfl)) Via.refl e3 (S_LO_BYTE_SHIFT.ext O5.2) (g := (mkF m 47 #[rv a3, iv (5 : Int32), iv cv] [(.int cv), (.int (5 : Int32)), (.ref a3)])) rfl (hb hby d18_47)
 refine own_go (b := (T6.setTop (mkF m 52 #[rv a3, iv (5 : Int32), iv cv] [(.int ((cv >>> ((8 : Int32) &&& 31)).toInt8.toInt32)), (.int (5 : Int32)), (.ref a3)]))) (fun _ k => st6 _ (XS.ishr X6.here hx rfl (hb hby d18_50) rfl (XS.i2b X6.here hx rfl (hb hby d18_51) rfl k))) ?_
 obtain ⟨cl7, Ar7, ql7, Sz7, Nn7, Hl7, Gl7⟩ := id V3
 have hin7 : ¬ ((5 : Int32) < 0 ∨ cl7.slots.size ≤ ((5 : Int32)).toNatClampNeg) := inb_of Sz7 ⟨by decide, by decide⟩
 obtain ⟨T7, h7, X7, e7, W7, st7⟩ := stB X6 hx hZ e6 Ar7 (j := (5 : Int32)) hin7 (g := (mkF m 52 #[rv a3, iv (5 : Int32), iv cv] [(.int ((cv >>> ((8 : Int32) &&& 31)).toInt8.toInt32)), (.int (5 : Int32)), (.ref a3)])) rfl rfl (hb hby d18_52)
 have N7 := Fr.snoc X7 N3 g_a3
 have Zs8 : n0 ≤ h7.size := Nat.le_trans Zs4 (Keep.of_wr W7).1
 have V7 : Arv Z h7 a3 k3 .byte (8 : Int32) [(.int x0), (.int x1), (.int x2), (.int x3), (.int (own_lo cv)), (.int (own_hi cv)), (.int x6), (.int x7)] (.int (0 : Int32)) := Arv.set Ar7 ql7 Sz7 Nn7 Hl7 Gl7 (fits_nar_byte _) W7 5 rfl (Nat.le_of_ble_eq_true rfl)
 refine own_go (b := (T7.setTop (mkF m 53 #[rv a3, iv (5 : Int32), iv cv] []))) (fun _ k => st7 _ k) ?_
 have K9 := (Keep.refl h0 [a3]).wr W3 (Or.inl (List.mem_of_getElem? (i := 0) rfl))
 have K10 := K9.wr W7 (Or.inl (List.mem_of_getElem? (i := 0) rfl))
 obtain ⟨fs, hr, hrun, hended, hW, hsame⟩ := X7.leave (v := none) (fun _ => rfl)
 exact ⟨_, _, X7.returnOut hx Bd.returns (hb hby d18_53) hr, hrun, hended, _, _, rfl, (show Qrmput2 Z a3 k3 cv x0 x1 x2 x3 x4 x5 x6 x7 h0 n0 _ T7.heap _ from (by rw [e7]; exact ⟨rfl, N7, K10, V7⟩)), ⟨_, rfl⟩, hW, hsame.mono (by decide) (by decide)⟩
theorem ef_rmput3 (m : MethodId) (x0 : Addr) (x1 : Int32) (x2 : Int32) : entryFrame m #[(.ref x0), (.int x1), (.int x2)] 3 = mkF m 0 #[rv x0, iv x1, iv x2] [] := by first | (simp [entryFrame, mkF, argsToLocals, Value.category]; done) | rfl
def Qrmput3 (Z : State) (a3 : Addr) (k3 : ClassId) (cv : Int32) (x0 : Int32) (x1 : Int32) (x2 : Int32) (x3 : Int32) (x4 : Int32) (x5 : Int32) (x6 : Int32) (x7 : Int32) (h0 : Heap) (n0 : Nat) (v : Option Value) (h : Heap) (L : List Loc) : Prop := v = none ∧ Fr n0 L ∧ Keep h0 h [a3] ∧ (Arv Z h a3 k3 .byte (8 : Int32) [(.int x0), (.int x1), (.int x2), (.int x3), (.int x4), (.int x5), (.int (own_lo cv)), (.int (own_hi cv))] (.int (0 : Int32)))
set_option maxRecDepth 65536 in
set_option maxHeartbeats 40000000 in
theorem rmput3 (l : Launch) (Z : State) (a0 : Array Value) (hw : ∀ d ∈ tables_1, d.before a0 Z = true) (ws : List Jvm.Cond) (a3 : Addr) (k3 : ClassId) (cv : Int32) (x0 : Int32) (x1 : Int32) (x2 : Int32) (x3 : Int32) (x4 : Int32) (x5 : Int32) (x6 : Int32) (x7 : Int32) (h0 : Heap) (n0 : Nat) (Z0 : n0 ≤ h0.size) (O0 : Old Z n0 h0) (S__assertionsDisabled : Sta Z Z.heap "java/lang/StringUTF16" "$assertionsDisabled" "Z" (.int (1 : Int32))) (S_HI_BYTE_SHIFT : Sta Z Z.heap "java/lang/StringUTF16" "HI_BYTE_SHIFT" "I" (.int (0 : Int32))) (S_LO_BYTE_SHIFT : Sta Z Z.heap "java/lang/StringUTF16" "LO_BYTE_SHIFT" "I" (.int (8 : Int32))) (V_a3 : Arv Z h0 a3 k3 .byte (8 : Int32) [(.int x0), (.int x1), (.int x2), (.int x3), (.int x4), (.int x5), (.int x6), (.int x7)] (.int (0 : Int32))) (g_a3 : n0 ≤ a3) :
    MetFree l mn2 (head1 (Jvm.Cond.code mn2 jdk_52_method_4_code 3 none :: ws) ({ frames := 0, cells := 0, slots := 0, locals := 0 } : Room)) (fun a U => a = #[(.ref a3), (.int (3 : Int32)), (.int cv)] ∧ Z.Warmed39 U.vm ∧ U.heap = h0) (fun _ _ _ _ _ => True) (fun _ U o U' => ∃ v L, o = .returned v ∧ Qrmput3 Z a3 k3 cv x0 x1 x2 x3 x4 x5 x6 x7 h0 n0 v U'.heap L ∧ FrameEnd U o U' L ({ frames := 0, cells := 0, slots := 0, locals := 0 } : Room).cells ({ frames := 0, cells := 0, slots := 0, locals := 0 } : Room).slots) := by
 refine MetFree.of_bodySF (plainFor_of_name pn_18) hisR ?_
 intro p e s m args below meth c s₁ Bd hml0 hP hK
 obtain ⟨rfl, hZ, hh⟩ := hP
 have hx := Bd.exec
 have hby := Bd.bytes
 have hml : c.maxLocals = 3 := hml0
 have hown : s.vm.findClass "java/lang/StringUTF16" = some m.cls := findClass_of_methodNamed Bd.named
 have hnm := (name_of_methodNamed Bd.named Bd.method).1
 have X0 : Stand p l e ({ frames := 0, cells := 0, slots := 0, locals := 0 } : Room) s m #[(.ref a3), (.int (3 : Int32)), (.int cv)] below meth c s₁ [] 0 0 := Stand.of_body Bd
 have e0 : s₁.heap = h0 := by rw [← hh, Bd.state]; rfl
 have N0 := Fr.nil n0
 refine own_go (b := (s₁.setTop (mkF m 0 #[rv a3, iv (3 : Int32), iv cv] []))) (fun _ k => castTop (ef_rmput3 m a3 (3 : Int32) cv) k) ?_
 obtain ⟨T1, X1, e1, st1⟩ := getS2 X0 hx hZ hown (host := "") (Or.inl (ow hw 78 rfl)) Via.refl e0 (S__assertionsDisabled.ext O0.2) (g := (mkF m 0 #[rv a3, iv (3 : Int32), iv cv] [])) rfl (hb hby d18_0)
 refine own_go (b := (T1.setTop (mkF m 38 #[rv a3, iv (7 : Int32), iv cv] [(.int cv), (.int (6 : Int32)), (.ref a3)]))) (fun _ k => st1 _ (XS.ifYes X1.here hx rfl (pc0 := 3) (pc' := 28) rfl (hb hby d18_3) rfl ((if0 _ _).trans (feq (by decide : ¬ ((1 : Int32) = (0 : Int32)))).2) (by decide) (by decide) (XS.iloadN X1.here hx rfl (hb hby d18_28) rfl (XS.iconst X1.here hx rfl (hb hby d18_29) (XS.ishl X1.here hx rfl (hb hby d18_30) rfl (XS.istoreN X1.here hx rfl (hb hby d18_31) rfl (l' := #[rv a3, iv (6 : Int32), iv cv]) rfl (XS.aloadN X1.here hx rfl (hb hby d18_32) rfl rfl (XS.iloadN X1.here hx rfl (hb hby d18_33) rfl (XS.iinc X1.here hx rfl (hb hby d18_34) rfl (l' := #[rv a3, iv (7 : Int32), iv cv]) rfl (XS.iloadN X1.here hx rfl (hb hby d18_37) rfl k)))))))))) ?_
 obtain ⟨T2, X2, e2, st2⟩ := getS2 X1 hx hZ hown (host := "") (Or.inl (ow hw 79 rfl)) Via.refl e1 (S_HI_BYTE_SHIFT.ext O0.2) (g := (mkF m 38 #[rv a3, iv (7 : Int32), iv cv] [(.int cv), (.int (6 : Int32)), (.ref a3)])) rfl (hb hby d18_38)
 refine own_go (b := (T2.setTop (mkF m 43 #[rv a3, iv (7 : Int32), iv cv] [(.int ((cv >>> ((0 : Int32) &&& 31)).toInt8.toInt32)), (.int (6 : Int32)), (.ref a3)]))) (fun _ k => st2 _ (XS.ishr X2.here hx rfl (hb hby d18_41) rfl (XS.i2b X2.here hx rfl (hb hby d18_42) rfl k))) ?_
 obtain ⟨cl3, Ar3, ql3, Sz3, Nn3, Hl3, Gl3⟩ := id V_a3
 have hin3 : ¬ ((6 : Int32) < 0 ∨ cl3.slots.size ≤ ((6 : Int32)).toNatClampNeg) := inb_of Sz3 ⟨by decide, by decide⟩
 obtain ⟨T3, h3, X3, e3, W3, st3⟩ := stB X2 hx hZ e2 Ar3 (j := (6 : Int32)) hin3 (g := (mkF m 43 #[rv a3, iv (7 : Int32), iv cv] [(.int ((cv >>> ((0 : Int32) &&& 31)).toInt8.toInt32)), (.int (6 : Int32)), (.ref a3)])) rfl rfl (hb hby d18_43)
 have N3 := Fr.snoc X3 N0 g_a3
 have Zs4 : n0 ≤ h3.size := Nat.le_trans Z0 (Keep.of_wr W3).1
 have V3 : Arv Z h3 a3 k3 .byte (8 : Int32) [(.int x0), (.int x1), (.int x2), (.int x3), (.int x4), (.int x5), (.int (own_lo cv)), (.int x7)] (.int (0 : Int32)) := Arv.set Ar3 ql3 Sz3 Nn3 Hl3 Gl3 (fits_nar_byte _) W3 6 rfl (Nat.le_of_ble_eq_true rfl)
 refine own_go (b := (T3.setTop (mkF m 47 #[rv a3, iv (7 : Int32), iv cv] [(.int cv), (.int (7 : Int32)), (.ref a3)]))) (fun _ k => st3 _ (XS.aloadN X3.here hx rfl (hb hby d18_44) rfl rfl (XS.iloadN X3.here hx rfl (hb hby d18_45) rfl (XS.iloadN X3.here hx rfl (hb hby d18_46) rfl k)))) ?_
 have O5 := O0.wr W3 g_a3
 obtain ⟨T6, X6, e6, st6⟩ := getS2 X3 hx hZ hown (host := "") (Or.inl (ow hw 80 rfl)) Via.refl e3 (S_LO_BYTE_SHIFT.ext O5.2) (g := (mkF m 47 #[rv a3, iv (7 : Int32), iv cv] [(.int cv), (.int (7 : Int32)), (.ref a3)])) rfl (hb hby d18_47)
 refine own_go (b := (T6.setTop (mkF m 52 #[rv a3, iv (7 : Int32), iv cv] [(.int ((cv >>> ((8 : Int32) &&& 31)).toInt8.toInt32)), (.int (7 : Int32)), (.ref a3)]))) (fun _ k => st6 _ (XS.ishr X6.here hx rfl (hb hby d18_50) rfl (XS.i2b X6.here hx rfl (hb hby d18_51) rfl k))) ?_
 obtain ⟨cl7, Ar7, ql7, Sz7, Nn7, Hl7, Gl7⟩ := id V3
 have hin7 : ¬ ((7 : Int32) < 0 ∨ cl7.slots.size ≤ ((7 : Int32)).toNatClampNeg) := inb_of Sz7 ⟨by decide, by decide⟩
 obtain ⟨T7, h7, X7, e7, W7, st7⟩ := stB X6 hx hZ e6 Ar7 (j := (7 : Int32)) hin7 (g := (mkF m 52 #[rv a3, iv (7 : Int32), iv cv] [(.int ((cv >>> ((8 : Int32) &&& 31)).toInt8.toInt32)), (.int (7 : Int32)), (.ref a3)])) rfl rfl (hb hby d18_52)
 have N7 := Fr.snoc X7 N3 g_a3
 have Zs8 : n0 ≤ h7.size := Nat.le_trans Zs4 (Keep.of_wr W7).1
 have V7 : Arv Z h7 a3 k3 .byte (8 : Int32) [(.int x0), (.int x1), (.int x2), (.int x3), (.int x4), (.int x5), (.int (own_lo cv)), (.int (own_hi cv))] (.int (0 : Int32)) := Arv.set Ar7 ql7 Sz7 Nn7 Hl7 Gl7 (fits_nar_byte _) W7 7 rfl (Nat.le_of_ble_eq_true rfl)
 refine own_go (b := (T7.setTop (mkF m 53 #[rv a3, iv (7 : Int32), iv cv] []))) (fun _ k => st7 _ k) ?_
 have K9 := (Keep.refl h0 [a3]).wr W3 (Or.inl (List.mem_of_getElem? (i := 0) rfl))
 have K10 := K9.wr W7 (Or.inl (List.mem_of_getElem? (i := 0) rfl))
 obtain ⟨fs, hr, hrun, hended, hW, hsame⟩ := X7.leave (v := none) (fun _ => rfl)
 exact ⟨_, _, X7.returnOut hx Bd.returns (hb hby d18_53) hr, hrun, hended, _, _, rfl, (show Qrmput3 Z a3 k3 cv x0 x1 x2 x3 x4 x5 x6 x7 h0 n0 _ T7.heap _ from (by rw [e7]; exact ⟨rfl, N7, K10, V7⟩)), ⟨_, rfl⟩, hW, hsame.mono (by decide) (by decide)⟩
theorem d15_0 : decode jdk_52_method_14_code 0 = .ok (.iload_n 2, 1) := by decide +kernel
theorem d15_1 : decode jdk_52_method_14_code 1 = .ok (.invokestatic 107, 3) := by decide +kernel
theorem d15_4 : decode jdk_52_method_14_code 4 = .ok (.astore_n 3, 1) := by decide +kernel
theorem d15_5 : decode jdk_52_method_14_code 5 = .ok (.iconst 0, 1) := by decide +kernel
theorem d15_6 : decode jdk_52_method_14_code 6 = .ok (.istore 4, 2) := by decide +kernel
theorem d15_8 : decode jdk_52_method_14_code 8 = .ok (.iload 4, 2) := by decide +kernel
theorem d15_10 : decode jdk_52_method_14_code 10 = .ok (.iload_n 2, 1) := by decide +kernel
theorem d15_11 : decode jdk_52_method_14_code 11 = .ok (.if_icmp .ge 21, 3) := by decide +kernel
theorem d15_14 : decode jdk_52_method_14_code 14 = .ok (.aload_n 3, 1) := by decide +kernel
theorem d15_15 : decode jdk_52_method_14_code 15 = .ok (.iload 4, 2) := by decide +kernel
theorem d15_17 : decode jdk_52_method_14_code 17 = .ok (.aload_n 0, 1) := by decide +kernel
theorem d15_18 : decode jdk_52_method_14_code 18 = .ok (.iload_n 1, 1) := by decide +kernel
theorem d15_19 : decode jdk_52_method_14_code 19 = .ok (.caload, 1) := by decide +kernel
theorem d15_20 : decode jdk_52_method_14_code 20 = .ok (.invokestatic 111, 3) := by decide +kernel
theorem d15_23 : decode jdk_52_method_14_code 23 = .ok (.iinc 1 1, 3) := by decide +kernel
theorem d15_26 : decode jdk_52_method_14_code 26 = .ok (.iinc 4 1, 3) := by decide +kernel
theorem d15_29 : decode jdk_52_method_14_code 29 = .ok (.goto (-21), 3) := by decide +kernel
theorem d15_32 : decode jdk_52_method_14_code 32 = .ok (.aload_n 3, 1) := by decide +kernel
theorem d15_33 : decode jdk_52_method_14_code 33 = .ok (.areturn, 1) := by decide +kernel
theorem pd__I__B : parseMethodDescriptor "(I)[B" = some ⟨[.int], some (.array .byte)⟩ := by decide +kernel
theorem pd___BII_V : parseMethodDescriptor "([BII)V" = some ⟨[(.array .byte), .int, .int], none⟩ := by decide +kernel
theorem pn_15 : plainName "java/lang/StringUTF16" = true := by first | (simp [plainName, overriddenIn]; done) | decide +kernel
theorem ef_rmtb (m : MethodId) (x0 : Addr) (x1 : Int32) (x2 : Int32) : entryFrame m #[(.ref x0), (.int x1), (.int x2)] 5 = mkF m 0 #[rv x0, iv x1, iv x2, .unset, .unset] [] := by first | (simp [entryFrame, mkF, argsToLocals, Value.category]; done) | rfl
def Qrmtb (Z : State) (a2 : Addr) (k2 : ClassId) (c0 : Int32) (c1 : Int32) (c2 : Int32) (c3 : Int32) (h0 : Heap) (n0 : Nat) (v : Option Value) (h : Heap) (L : List Loc) : Prop := ∃ (b : Addr) (kb : ClassId), v = some (.ref b) ∧ Fr n0 L ∧ Keep h0 h [] ∧ (h0.size ≤ b) ∧ (Arv Z h b kb .byte (8 : Int32) [(.int (own_lo c0)), (.int (own_hi c0)), (.int (own_lo c1)), (.int (own_hi c1)), (.int (own_lo c2)), (.int (own_hi c2)), (.int (own_lo c3)), (.int (own_hi c3))] (.int (0 : Int32)))
set_option maxRecDepth 65536 in
set_option maxHeartbeats 40000000 in
theorem rmtb (l : Launch) (Z : State) (a0 : Array Value) (hw : ∀ d ∈ tables_1, d.before a0 Z = true) (ws : List Jvm.Cond) (a2 : Addr) (k2 : ClassId) (c0 : Int32) (c1 : Int32) (c2 : Int32) (c3 : Int32) (h0 : Heap) (n0 : Nat) (Z0 : n0 ≤ h0.size) (O0 : Old Z n0 h0) (S__assertionsDisabled : Sta Z Z.heap "java/lang/StringUTF16" "$assertionsDisabled" "Z" (.int (1 : Int32))) (S_HI_BYTE_SHIFT : Sta Z Z.heap "java/lang/StringUTF16" "HI_BYTE_SHIFT" "I" (.int (0 : Int32))) (S_LO_BYTE_SHIFT : Sta Z Z.heap "java/lang/StringUTF16" "LO_BYTE_SHIFT" "I" (.int (8 : Int32))) (V_a2 : Arv Z h0 a2 k2 .char (4 : Int32) [(.int c0), (.int c1), (.int c2), (.int c3)] (.int (0 : Int32))) :
    MetFree l (⟨"java/lang/StringUTF16", "toBytes", "([CII)[B"⟩ : MethodName) (head1 (Jvm.Cond.code (⟨"java/lang/StringUTF16", "toBytes", "([CII)[B"⟩ : MethodName) jdk_52_method_14_code 5 (some (.array .byte)) :: ws) ({ frames := 2, cells := 1, slots := 8, locals := 24 } : Room)) (fun a U => a = #[(.ref a2), (.int (0 : Int32)), (.int (4 : Int32))] ∧ Z.Warmed39 U.vm ∧ U.heap = h0) (fun _ _ _ _ _ => True) (fun _ U o U' => ∃ v L, o = .returned v ∧ Qrmtb Z a2 k2 c0 c1 c2 c3 h0 n0 v U'.heap L ∧ FrameEnd U o U' L ({ frames := 2, cells := 1, slots := 8, locals := 24 } : Room).cells ({ frames := 2, cells := 1, slots := 8, locals := 24 } : Room).slots) := by
 refine MetFree.of_bodySF (plainFor_of_name pn_15) hisR ?_
 intro p e s m args below meth c s₁ Bd hml0 hP hK
 obtain ⟨rfl, hZ, hh⟩ := hP
 have hx := Bd.exec
 have hby := Bd.bytes
 have hml : c.maxLocals = 5 := hml0
 have hown : s.vm.findClass "java/lang/StringUTF16" = some m.cls := findClass_of_methodNamed Bd.named
 have hnm := (name_of_methodNamed Bd.named Bd.method).1
 have X0 : Stand p l e ({ frames := 2, cells := 1, slots := 8, locals := 24 } : Room) s m #[(.ref a2), (.int (0 : Int32)), (.int (4 : Int32))] below meth c s₁ [] 0 0 := Stand.of_body Bd
 have e0 : s₁.heap = h0 := by rw [← hh, Bd.state]; rfl
 have N0 := Fr.nil n0
 refine own_go (b := (s₁.setTop (mkF m 0 #[rv a2, iv (0 : Int32), iv (4 : Int32), .unset, .unset] []))) (fun _ k => castTop (ef_rmtb m a2 (0 : Int32) (4 : Int32)) k) ?_
 refine own_go (b := (s₁.setTop (mkF m 1 #[rv a2, iv (0 : Int32), iv (4 : Int32), .unset, .unset] [(.int (4 : Int32))]))) (fun _ k => XS.iloadN X0.here hx rfl (hb hby d15_0) rfl k) ?_
 refine own_stat (W := 0) X0 hx hZ hown e0 (ow hw 68 rfl) (ow hw 69 rfl) (rmnf l Z a0 hw []  h0 n0 Z0) (ow hw 70 rfl) (ow hw 22 rfl) rfl (by rw [hml]; rfl) rfl (hb hby d15_1) (lenOf pd__I__B rfl) rfl (by decide) (fun T1 v1 Ll1 X1 hQ1 => ?_)
 obtain ⟨b_1, kb_1, rfl, N1q, K1, P1_0, P1_1⟩ := hQ1
 have N1 := Fr.app N0 N1q
 have Zs2 : n0 ≤ T1.heap.size := Nat.le_trans Z0 K1.1
 refine own_go (b := (T1.setTop (mkF m 19 #[rv a2, iv (0 : Int32), iv (4 : Int32), rv b_1, iv (0 : Int32)] [(.int (0 : Int32)), (.ref a2), (.int (0 : Int32)), (.ref b_1)]))) (fun _ k => XS.astoreN X1.here hx rfl (hb hby d15_4) rfl rfl (l' := #[rv a2, iv (0 : Int32), iv (4 : Int32), rv b_1, .unset]) rfl (XS.iconst X1.here hx rfl (hb hby d15_5) (XS.istore X1.here hx rfl (hb hby d15_6) rfl (l' := #[rv a2, iv (0 : Int32), iv (4 : Int32), rv b_1, iv (0 : Int32)]) rfl (XS.iload X1.here hx rfl (hb hby d15_8) rfl (XS.iloadN X1.here hx rfl (hb hby d15_10) rfl (XS.icmpNo X1.here hx rfl (hb hby d15_11) rfl (tlt (by decide : (0 : Int32) < (4 : Int32))).2.1 (XS.aloadN X1.here hx rfl (hb hby d15_14) rfl rfl (XS.iload X1.here hx rfl (hb hby d15_15) rfl (XS.aloadN X1.here hx rfl (hb hby d15_17) rfl rfl (XS.iloadN X1.here hx rfl (hb hby d15_18) rfl k)))))))))) ?_
 have F4 := V_a2.keep K1 nin0
 obtain ⟨cl3, Ar3, ql3, Sz3, Nn3, Hl3, Gl3⟩ := id F4
 have hin3 : ¬ ((0 : Int32) < 0 ∨ cl3.slots.size ≤ ((0 : Int32)).toNatClampNeg) := inb_of Sz3 ⟨by decide, by decide⟩
 refine own_go (b := (T1.setTop (mkF m 20 #[rv a2, iv (0 : Int32), iv (4 : Int32), rv b_1, iv (0 : Int32)] [(.int c0), (.int (0 : Int32)), (.ref b_1)]))) (fun _ k => X1.caload hx (j := (0 : Int32)) (v := (.int c0)) Ar3.1 (State.isArrayOf_alike hZ.alike Ar3.2.1) Ar3.2.2 hin3 (Hl3.at hin3 rfl) (g := (mkF m 19 #[rv a2, iv (0 : Int32), iv (4 : Int32), rv b_1, iv (0 : Int32)] [(.int (0 : Int32)), (.ref a2), (.int (0 : Int32)), (.ref b_1)])) rfl rfl (hb hby d15_19) _ k) ?_
 have O6 := O0.keep K1 all0
 have gx7 : n0 ≤ b_1 := Nat.le_trans Z0 P1_0
 refine own_stat (W := 0) X1 hx hZ hown rfl (ow hw 75 rfl) (ow hw 76 rfl) (rmput0 l Z a0 hw [] b_1 kb_1 c0 (0 : Int32) (0 : Int32) (0 : Int32) (0 : Int32) (0 : Int32) (0 : Int32) (0 : Int32) (0 : Int32) T1.heap n0 Zs2 O6 S__assertionsDisabled S_HI_BYTE_SHIFT S_LO_BYTE_SHIFT P1_1 gx7) (ow hw 77 rfl) (ow hw 22 rfl) rfl (by rw [hml]; rfl) rfl (hb hby d15_20) (lenOf pd___BII_V rfl) rfl (by decide) (fun T5 v5 Ll5 X5 hQ5 => ?_)
 obtain ⟨rfl, N5q, K5, P5_0⟩ := hQ5
 have N5 := Fr.app N1 N5q
 have Zs8 : n0 ≤ T5.heap.size := Nat.le_trans Zs2 K5.1
 refine own_go (b := (T5.setTop (mkF m 19 #[rv a2, iv (1 : Int32), iv (4 : Int32), rv b_1, iv (1 : Int32)] [(.int (1 : Int32)), (.ref a2), (.int (1 : Int32)), (.ref b_1)]))) (fun _ k => XS.iinc X5.here hx rfl (hb hby d15_23) rfl (l' := #[rv a2, iv (1 : Int32), iv (4 : Int32), rv b_1, iv (0 : Int32)]) rfl (XS.iinc X5.here hx rfl (hb hby d15_26) rfl (l' := #[rv a2, iv (1 : Int32), iv (4 : Int32), rv b_1, iv (1 : Int32)]) rfl (XS.goto X5.here hx rfl (pc0 := 29) (pc' := 8) rfl (hb hby d15_29) (by decide) (by decide) (XS.iload X5.here hx rfl (hb hby d15_8) rfl (XS.iloadN X5.here hx rfl (hb hby d15_10) rfl (XS.icmpNo X5.here hx rfl (hb hby d15_11) rfl (tlt (by decide : (1 : Int32) < (4 : Int32))).2.1 (XS.aloadN X5.here hx rfl (hb hby d15_14) rfl rfl (XS.iload X5.here hx rfl (hb hby d15_15) rfl (XS.aloadN X5.here hx rfl (hb hby d15_17) rfl rfl (XS.iloadN X5.here hx rfl (hb hby d15_18) rfl k)))))))))) ?_
 have nx10 : a2 ≠ b_1 := (own_ne V_a2.lt (Nat.le_refl _) P1_0)
 have F11 := F4.keep K5 (ninS nx10 nin0)
 obtain ⟨cl9, Ar9, ql9, Sz9, Nn9, Hl9, Gl9⟩ := id F11
 have hin9 : ¬ ((1 : Int32) < 0 ∨ cl9.slots.size ≤ ((1 : Int32)).toNatClampNeg) := inb_of Sz9 ⟨by decide, by decide⟩
 refine own_go (b := (T5.setTop (mkF m 20 #[rv a2, iv (1 : Int32), iv (4 : Int32), rv b_1, iv (1 : Int32)] [(.int c1), (.int (1 : Int32)), (.ref b_1)]))) (fun _ k => X5.caload hx (j := (1 : Int32)) (v := (.int c1)) Ar9.1 (State.isArrayOf_alike hZ.alike Ar9.2.1) Ar9.2.2 hin9 (Hl9.at hin9 rfl) (g := (mkF m 19 #[rv a2, iv (1 : Int32), iv (4 : Int32), rv b_1, iv (1 : Int32)] [(.int (1 : Int32)), (.ref a2), (.int (1 : Int32)), (.ref b_1)])) rfl rfl (hb hby d15_19) _ k) ?_
 have O13 := O6.keep K5 (allS gx7 all0)
 refine own_stat (W := 0) X5 hx hZ hown rfl (ow hw 75 rfl) (ow hw 76 rfl) (rmput1 l Z a0 hw [] b_1 kb_1 c1 (own_lo c0) (own_hi c0) (0 : Int32) (0 : Int32) (0 : Int32) (0 : Int32) (0 : Int32) (0 : Int32) T5.heap n0 Zs8 O13 S__assertionsDisabled S_HI_BYTE_SHIFT S_LO_BYTE_SHIFT P5_0 gx7) (ow hw 77 rfl) (ow hw 22 rfl) rfl (by rw [hml]; rfl) rfl (hb hby d15_20) (lenOf pd___BII_V rfl) rfl (by decide) (fun T12 v12 Ll12 X12 hQ12 => ?_)
 obtain ⟨rfl, N12q, K12, P12_0⟩ := hQ12
 have N12 := Fr.app N5 N12q
 have Zs14 : n0 ≤ T12.heap.size := Nat.le_trans Zs8 K12.1
 refine own_go (b := (T12.setTop (mkF m 19 #[rv a2, iv (2 : Int32), iv (4 : Int32), rv b_1, iv (2 : Int32)] [(.int (2 : Int32)), (.ref a2), (.int (2 : Int32)), (.ref b_1)]))) (fun _ k => XS.iinc X12.here hx rfl (hb hby d15_23) rfl (l' := #[rv a2, iv (2 : Int32), iv (4 : Int32), rv b_1, iv (1 : Int32)]) rfl (XS.iinc X12.here hx rfl (hb hby d15_26) rfl (l' := #[rv a2, iv (2 : Int32), iv (4 : Int32), rv b_1, iv (2 : Int32)]) rfl (XS.goto X12.here hx rfl (pc0 := 29) (pc' := 8) rfl (hb hby d15_29) (by decide) (by decide) (XS.iload X12.here hx rfl (hb hby d15_8) rfl (XS.iloadN X12.here hx rfl (hb hby d15_10) rfl (XS.icmpNo X12.here hx rfl (hb hby d15_11) rfl (tlt (by decide : (2 : Int32) < (4 : Int32))).2.1 (XS.aloadN X12.here hx rfl (hb hby d15_14) rfl rfl (XS.iload X12.here hx rfl (hb hby d15_15) rfl (XS.aloadN X12.here hx rfl (hb hby d15_17) rfl rfl (XS.iloadN X12.here hx rfl (hb hby d15_18) rfl k)))))))))) ?_
 have F16 := F11.keep K12 (ninS nx10 nin0)
 obtain ⟨cl15, Ar15, ql15, Sz15, Nn15, Hl15, Gl15⟩ := id F16
 have hin15 : ¬ ((2 : Int32) < 0 ∨ cl15.slots.size ≤ ((2 : Int32)).toNatClampNeg) := inb_of Sz15 ⟨by decide, by decide⟩
 refine own_go (b := (T12.setTop (mkF m 20 #[rv a2, iv (2 : Int32), iv (4 : Int32), rv b_1, iv (2 : Int32)] [(.int c2), (.int (2 : Int32)), (.ref b_1)]))) (fun _ k => X12.caload hx (j := (2 : Int32)) (v := (.int c2)) Ar15.1 (State.isArrayOf_alike hZ.alike Ar15.2.1) Ar15.2.2 hin15 (Hl15.at hin15 rfl) (g := (mkF m 19 #[rv a2, iv (2 : Int32), iv (4 : Int32), rv b_1, iv (2 : Int32)] [(.int (2 : Int32)), (.ref a2), (.int (2 : Int32)), (.ref b_1)])) rfl rfl (hb hby d15_19) _ k) ?_
 have O18 := O13.keep K12 (allS gx7 all0)
 refine own_stat (W := 0) X12 hx hZ hown rfl (ow hw 75 rfl) (ow hw 76 rfl) (rmput2 l Z a0 hw [] b_1 kb_1 c2 (own_lo c0) (own_hi c0) (own_lo c1) (own_hi c1) (0 : Int32) (0 : Int32) (0 : Int32) (0 : Int32) T12.heap n0 Zs14 O18 S__assertionsDisabled S_HI_BYTE_SHIFT S_LO_BYTE_SHIFT P12_0 gx7) (ow hw 77 rfl) (ow hw 22 rfl) rfl (by rw [hml]; rfl) rfl (hb hby d15_20) (lenOf pd___BII_V rfl) rfl (by decide) (fun T17 v17 Ll17 X17 hQ17 => ?_)
 obtain ⟨rfl, N17q, K17, P17_0⟩ := hQ17
 have N17 := Fr.app N12 N17q
 have Zs19 : n0 ≤ T17.heap.size := Nat.le_trans Zs14 K17.1
 refine own_go (b := (T17.setTop (mkF m 19 #[rv a2, iv (3 : Int32), iv (4 : Int32), rv b_1, iv (3 : Int32)] [(.int (3 : Int32)), (.ref a2), (.int (3 : Int32)), (.ref b_1)]))) (fun _ k => XS.iinc X17.here hx rfl (hb hby d15_23) rfl (l' := #[rv a2, iv (3 : Int32), iv (4 : Int32), rv b_1, iv (2 : Int32)]) rfl (XS.iinc X17.here hx rfl (hb hby d15_26) rfl (l' := #[rv a2, iv (3 : Int32), iv (4 : Int32), rv b_1, iv (3 : Int32)]) rfl (XS.goto X17.here hx rfl (pc0 := 29) (pc' := 8) rfl (hb hby d15_29) (by decide) (by decide) (XS.iload X17.here hx rfl (hb hby d15_8) rfl (XS.iloadN X17.here hx rfl (hb hby d15_10) rfl (XS.icmpNo X17.here hx rfl (hb hby d15_11) rfl (tlt (by decide : (3 : Int32) < (4 : Int32))).2.1 (XS.aloadN X17.here hx rfl (hb hby d15_14) rfl rfl (XS.iload X17.here hx rfl (hb hby d15_15) rfl (XS.aloadN X17.here hx rfl (hb hby d15_17) rfl rfl (XS.iloadN X17.here hx rfl (hb hby d15_18) rfl k)))))))))) ?_
 have F21 := F16.keep K17 (ninS nx10 nin0)
 obtain ⟨cl20, Ar20, ql20, Sz20, Nn20, Hl20, Gl20⟩ := id F21
 have hin20 : ¬ ((3 : Int32) < 0 ∨ cl20.slots.size ≤ ((3 : Int32)).toNatClampNeg) := inb_of Sz20 ⟨by decide, by decide⟩
 refine own_go (b := (T17.setTop (mkF m 20 #[rv a2, iv (3 : Int32), iv (4 : Int32), rv b_1, iv (3 : Int32)] [(.int c3), (.int (3 : Int32)), (.ref b_1)]))) (fun _ k => X17.caload hx (j := (3 : Int32)) (v := (.int c3)) Ar20.1 (State.isArrayOf_alike hZ.alike Ar20.2.1) Ar20.2.2 hin20 (Hl20.at hin20 rfl) (g := (mkF m 19 #[rv a2, iv (3 : Int32), iv (4 : Int32), rv b_1, iv (3 : Int32)] [(.int (3 : Int32)), (.ref a2), (.int (3 : Int32)), (.ref b_1)])) rfl rfl (hb hby d15_19) _ k) ?_
 have O23 := O18.keep K17 (allS gx7 all0)
 refine own_stat (W := 0) X17 hx hZ hown rfl (ow hw 75 rfl) (ow hw 76 rfl) (rmput3 l Z a0 hw [] b_1 kb_1 c3 (own_lo c0) (own_hi c0) (own_lo c1) (own_hi c1) (own_lo c2) (own_hi c2) (0 : Int32) (0 : Int32) T17.heap n0 Zs19 O23 S__assertionsDisabled S_HI_BYTE_SHIFT S_LO_BYTE_SHIFT P17_0 gx7) (ow hw 77 rfl) (ow hw 22 rfl) rfl (by rw [hml]; rfl) rfl (hb hby d15_20) (lenOf pd___BII_V rfl) rfl (by decide) (fun T22 v22 Ll22 X22 hQ22 => ?_)
 obtain ⟨rfl, N22q, K22, P22_0⟩ := hQ22
 have N22 := Fr.app N17 N22q
 have Zs24 : n0 ≤ T22.heap.size := Nat.le_trans Zs19 K22.1
 refine own_go (b := (T22.setTop (mkF m 33 #[rv a2, iv (4 : Int32), iv (4 : Int32), rv b_1, iv (4 : Int32)] [(.ref b_1)]))) (fun _ k => XS.iinc X22.here hx rfl (hb hby d15_23) rfl (l' := #[rv a2, iv (4 : Int32), iv (4 : Int32), rv b_1, iv (3 : Int32)]) rfl (XS.iinc X22.here hx rfl (hb hby d15_26) rfl (l' := #[rv a2, iv (4 : Int32), iv (4 : Int32), rv b_1, iv (4 : Int32)]) rfl (XS.goto X22.here hx rfl (pc0 := 29) (pc' := 8) rfl (hb hby d15_29) (by decide) (by decide) (XS.iload X22.here hx rfl (hb hby d15_8) rfl (XS.iloadN X22.here hx rfl (hb hby d15_10) rfl (XS.icmpYes X22.here hx rfl (pc0 := 11) (pc' := 32) rfl (hb hby d15_11) rfl (flt (by decide : ¬ ((4 : Int32) < (4 : Int32)))).2.1 (by decide) (by decide) (XS.aloadN X22.here hx rfl (hb hby d15_32) rfl rfl k))))))) ?_
 have K25 := (Keep.refl h0 []).trans K1 all0
 have K26 := K25.trans K5 (allS (Or.inr (Nat.le_trans (Nat.le_refl _) P1_0)) all0)
 have K27 := K26.trans K12 (allS (Or.inr (Nat.le_trans (Nat.le_refl _) P1_0)) all0)
 have K28 := K27.trans K17 (allS (Or.inr (Nat.le_trans (Nat.le_refl _) P1_0)) all0)
 have K29 := K28.trans K22 (allS (Or.inr (Nat.le_trans (Nat.le_refl _) P1_0)) all0)
 obtain ⟨fs, hr, hrun, hended, hW, hsame⟩ := X22.leave (v := some (.ref b_1)) (fun h => by rw [Bd.returns] at h; cases h)
 exact ⟨_, _, retOut X22 hx Bd.returns rfl (Or.inr (Or.inr (Or.inr (Or.inr ⟨rfl, rfl, rfl⟩)))) (hb hby d15_33) hr, hrun, hended, _, _, rfl, (show Qrmtb Z a2 k2 c0 c1 c2 c3 h0 n0 _ T22.heap _ from (by exact ⟨b_1, kb_1, rfl, N22, K29, (Nat.le_trans (Nat.le_refl _) P1_0), P22_0⟩)), ⟨_, rfl⟩, hW, hsame.mono (by decide) (by decide)⟩
theorem d19_0 : decode jdk_52_method_5_code 0 = .ok (.getstatic 44, 3) := by decide +kernel
theorem d19_3 : decode jdk_52_method_5_code 3 = .ok (.ifCond .ne 25, 3) := by decide +kernel
theorem d19_6 : decode jdk_52_method_5_code 6 = .ok (.iload_n 1, 1) := by decide +kernel
theorem d19_7 : decode jdk_52_method_5_code 7 = .ok (.ifCond .lt 11, 3) := by decide +kernel
theorem d19_10 : decode jdk_52_method_5_code 10 = .ok (.iload_n 1, 1) := by decide +kernel
theorem d19_11 : decode jdk_52_method_5_code 11 = .ok (.aload_n 0, 1) := by decide +kernel
theorem d19_12 : decode jdk_52_method_5_code 12 = .ok (.invokestatic 48, 3) := by decide +kernel
theorem d19_15 : decode jdk_52_method_5_code 15 = .ok (.if_icmp .lt 13, 3) := by decide +kernel
theorem d19_18 : decode jdk_52_method_5_code 18 = .ok (.new 52, 3) := by decide +kernel
theorem d19_21 : decode jdk_52_method_5_code 21 = .ok (.dup, 1) := by decide +kernel
theorem d19_22 : decode jdk_52_method_5_code 22 = .ok (.ldc 54, 2) := by decide +kernel
theorem d19_24 : decode jdk_52_method_5_code 24 = .ok (.invokespecial 56, 3) := by decide +kernel
theorem d19_27 : decode jdk_52_method_5_code 27 = .ok (.athrow, 1) := by decide +kernel
theorem d19_28 : decode jdk_52_method_5_code 28 = .ok (.iload_n 1, 1) := by decide +kernel
theorem d19_29 : decode jdk_52_method_5_code 29 = .ok (.iconst 1, 1) := by decide +kernel
theorem d19_30 : decode jdk_52_method_5_code 30 = .ok (.ishl, 1) := by decide +kernel
theorem d19_31 : decode jdk_52_method_5_code 31 = .ok (.istore_n 1, 1) := by decide +kernel
theorem d19_32 : decode jdk_52_method_5_code 32 = .ok (.aload_n 0, 1) := by decide +kernel
theorem d19_33 : decode jdk_52_method_5_code 33 = .ok (.iload_n 1, 1) := by decide +kernel
theorem d19_34 : decode jdk_52_method_5_code 34 = .ok (.iinc 1 1, 3) := by decide +kernel
theorem d19_37 : decode jdk_52_method_5_code 37 = .ok (.baload, 1) := by decide +kernel
theorem d19_38 : decode jdk_52_method_5_code 38 = .ok (.sipush 255, 3) := by decide +kernel
theorem d19_41 : decode jdk_52_method_5_code 41 = .ok (.iand, 1) := by decide +kernel
theorem d19_42 : decode jdk_52_method_5_code 42 = .ok (.getstatic 59, 3) := by decide +kernel
theorem d19_45 : decode jdk_52_method_5_code 45 = .ok (.ishl, 1) := by decide +kernel
theorem d19_46 : decode jdk_52_method_5_code 46 = .ok (.aload_n 0, 1) := by decide +kernel
theorem d19_47 : decode jdk_52_method_5_code 47 = .ok (.iload_n 1, 1) := by decide +kernel
theorem d19_48 : decode jdk_52_method_5_code 48 = .ok (.baload, 1) := by decide +kernel
theorem d19_49 : decode jdk_52_method_5_code 49 = .ok (.sipush 255, 3) := by decide +kernel
theorem d19_52 : decode jdk_52_method_5_code 52 = .ok (.iand, 1) := by decide +kernel
theorem d19_53 : decode jdk_52_method_5_code 53 = .ok (.getstatic 63, 3) := by decide +kernel
theorem d19_56 : decode jdk_52_method_5_code 56 = .ok (.ishl, 1) := by decide +kernel
theorem d19_57 : decode jdk_52_method_5_code 57 = .ok (.ior, 1) := by decide +kernel
theorem d19_58 : decode jdk_52_method_5_code 58 = .ok (.i2c, 1) := by decide +kernel
theorem d19_59 : decode jdk_52_method_5_code 59 = .ok (.ireturn, 1) := by decide +kernel
theorem pn_19 : plainName "java/lang/StringUTF16" = true := by first | (simp [plainName, overriddenIn]; done) | decide +kernel
theorem ef_rmget0 (m : MethodId) (x0 : Addr) (x1 : Int32) : entryFrame m #[(.ref x0), (.int x1)] 2 = mkF m 0 #[rv x0, iv x1] [] := by first | (simp [entryFrame, mkF, argsToLocals, Value.category]; done) | rfl
def Qrmget0 (Z : State) (a3 : Addr) (k3 : ClassId) (x0 : Int32) (x1 : Int32) (x2 : Int32) (x3 : Int32) (x4 : Int32) (x5 : Int32) (x6 : Int32) (x7 : Int32) (h0 : Heap) (n0 : Nat) (v : Option Value) (h : Heap) (L : List Loc) : Prop := v = some (.int (own_gc x0 x1)) ∧ Fr n0 L ∧ h = h0
set_option maxRecDepth 65536 in
set_option maxHeartbeats 40000000 in
theorem rmget0 (l : Launch) (Z : State) (a0 : Array Value) (hw : ∀ d ∈ tables_1, d.before a0 Z = true) (ws : List Jvm.Cond) (a3 : Addr) (k3 : ClassId) (x0 : Int32) (x1 : Int32) (x2 : Int32) (x3 : Int32) (x4 : Int32) (x5 : Int32) (x6 : Int32) (x7 : Int32) (h0 : Heap) (n0 : Nat) (Z0 : n0 ≤ h0.size) (O0 : Old Z n0 h0) (S__assertionsDisabled : Sta Z Z.heap "java/lang/StringUTF16" "$assertionsDisabled" "Z" (.int (1 : Int32))) (S_HI_BYTE_SHIFT : Sta Z Z.heap "java/lang/StringUTF16" "HI_BYTE_SHIFT" "I" (.int (0 : Int32))) (S_LO_BYTE_SHIFT : Sta Z Z.heap "java/lang/StringUTF16" "LO_BYTE_SHIFT" "I" (.int (8 : Int32))) (V_a3 : Arv Z h0 a3 k3 .byte (8 : Int32) [(.int x0), (.int x1), (.int x2), (.int x3), (.int x4), (.int x5), (.int x6), (.int x7)] (.int (0 : Int32))) :
    MetFree l mn3 (head1 (Jvm.Cond.code mn3 jdk_52_method_5_code 2 (some .char) :: ws) ({ frames := 0, cells := 0, slots := 0, locals := 0 } : Room)) (fun a U => a = #[(.ref a3), (.int (0 : Int32))] ∧ Z.Warmed39 U.vm ∧ U.heap = h0) (fun _ _ _ _ _ => True) (fun _ U o U' => ∃ v L, o = .returned v ∧ Qrmget0 Z a3 k3 x0 x1 x2 x3 x4 x5 x6 x7 h0 n0 v U'.heap L ∧ FrameEnd U o U' L ({ frames := 0, cells := 0, slots := 0, locals := 0 } : Room).cells ({ frames := 0, cells := 0, slots := 0, locals := 0 } : Room).slots) := by
 refine MetFree.of_bodySF (plainFor_of_name pn_19) hisR ?_
 intro p e s m args below meth c s₁ Bd hml0 hP hK
 obtain ⟨rfl, hZ, hh⟩ := hP
 have hx := Bd.exec
 have hby := Bd.bytes
 have hml : c.maxLocals = 2 := hml0
 have hown : s.vm.findClass "java/lang/StringUTF16" = some m.cls := findClass_of_methodNamed Bd.named
 have hnm := (name_of_methodNamed Bd.named Bd.method).1
 have X0 : Stand p l e ({ frames := 0, cells := 0, slots := 0, locals := 0 } : Room) s m #[(.ref a3), (.int (0 : Int32))] below meth c s₁ [] 0 0 := Stand.of_body Bd
 have e0 : s₁.heap = h0 := by rw [← hh, Bd.state]; rfl
 have N0 := Fr.nil n0
 refine own_go (b := (s₁.setTop (mkF m 0 #[rv a3, iv (0 : Int32)] []))) (fun _ k => castTop (ef_rmget0 m a3 (0 : Int32)) k) ?_
 obtain ⟨T1, X1, e1, st1⟩ := getS2 X0 hx hZ hown (host := "") (Or.inl (ow hw 78 rfl)) Via.refl e0 (S__assertionsDisabled.ext O0.2) (g := (mkF m 0 #[rv a3, iv (0 : Int32)] [])) rfl (hb hby d19_0)
 refine own_go (b := (T1.setTop (mkF m 37 #[rv a3, iv (1 : Int32)] [(.int (0 : Int32)), (.ref a3)]))) (fun _ k => st1 _ (XS.ifYes X1.here hx rfl (pc0 := 3) (pc' := 28) rfl (hb hby d19_3) rfl ((if0 _ _).trans (feq (by decide : ¬ ((1 : Int32) = (0 : Int32)))).2) (by decide) (by decide) (XS.iloadN X1.here hx rfl (hb hby d19_28) rfl (XS.iconst X1.here hx rfl (hb hby d19_29) (XS.ishl X1.here hx rfl (hb hby d19_30) rfl (XS.istoreN X1.here hx rfl (hb hby d19_31) rfl (l' := #[rv a3, iv (0 : Int32)]) rfl (XS.aloadN X1.here hx rfl (hb hby d19_32) rfl rfl (XS.iloadN X1.here hx rfl (hb hby d19_33) rfl (XS.iinc X1.here hx rfl (hb hby d19_34) rfl (l' := #[rv a3, iv (1 : Int32)]) rfl k))))))))) ?_
 obtain ⟨cl2, Ar2, ql2, Sz2, Nn2, Hl2, Gl2⟩ := id V_a3
 have hin2 : ¬ ((0 : Int32) < 0 ∨ cl2.slots.size ≤ ((0 : Int32)).toNatClampNeg) := inb_of Sz2 ⟨by decide, by decide⟩
 refine own_go (b := (T1.setTop (mkF m 42 #[rv a3, iv (1 : Int32)] [(.int (x0 &&& (255 : Int32)))]))) (fun _ k => X1.baloadBytes hx (j := (0 : Int32)) (v := (.int x0)) (by rw [e1]; exact Ar2.1) (State.isArrayOf_alike hZ.alike Ar2.2.1) Ar2.2.2 hin2 (Hl2.at hin2 rfl) (g := (mkF m 37 #[rv a3, iv (1 : Int32)] [(.int (0 : Int32)), (.ref a3)])) rfl rfl (hb hby d19_37) _ (XS.sipush X1.here hx rfl (hb hby d19_38) (XS.iand X1.here hx rfl (hb hby d19_41) rfl k))) ?_
 obtain ⟨T3, X3, e3, st3⟩ := getS2 X1 hx hZ hown (host := "") (Or.inl (ow hw 79 rfl)) Via.refl e1 (S_HI_BYTE_SHIFT.ext O0.2) (g := (mkF m 42 #[rv a3, iv (1 : Int32)] [(.int (x0 &&& (255 : Int32)))])) rfl (hb hby d19_42)
 refine own_go (b := (T3.setTop (mkF m 48 #[rv a3, iv (1 : Int32)] [(.int (1 : Int32)), (.ref a3), (.int ((x0 &&& (255 : Int32)) <<< ((0 : Int32) &&& 31)))]))) (fun _ k => st3 _ (XS.ishl X3.here hx rfl (hb hby d19_45) rfl (XS.aloadN X3.here hx rfl (hb hby d19_46) rfl rfl (XS.iloadN X3.here hx rfl (hb hby d19_47) rfl k)))) ?_
 obtain ⟨cl4, Ar4, ql4, Sz4, Nn4, Hl4, Gl4⟩ := id V_a3
 have hin4 : ¬ ((1 : Int32) < 0 ∨ cl4.slots.size ≤ ((1 : Int32)).toNatClampNeg) := inb_of Sz4 ⟨by decide, by decide⟩
 refine own_go (b := (T3.setTop (mkF m 53 #[rv a3, iv (1 : Int32)] [(.int (x1 &&& (255 : Int32))), (.int ((x0 &&& (255 : Int32)) <<< ((0 : Int32) &&& 31)))]))) (fun _ k => X3.baloadBytes hx (j := (1 : Int32)) (v := (.int x1)) (by rw [e3]; exact Ar4.1) (State.isArrayOf_alike hZ.alike Ar4.2.1) Ar4.2.2 hin4 (Hl4.at hin4 rfl) (g := (mkF m 48 #[rv a3, iv (1 : Int32)] [(.int (1 : Int32)), (.ref a3), (.int ((x0 &&& (255 : Int32)) <<< ((0 : Int32) &&& 31)))])) rfl rfl (hb hby d19_48) _ (XS.sipush X3.here hx rfl (hb hby d19_49) (XS.iand X3.here hx rfl (hb hby d19_52) rfl k))) ?_
 obtain ⟨T5, X5, e5, st5⟩ := getS2 X3 hx hZ hown (host := "") (Or.inl (ow hw 80 rfl)) Via.refl e3 (S_LO_BYTE_SHIFT.ext O0.2) (g := (mkF m 53 #[rv a3, iv (1 : Int32)] [(.int (x1 &&& (255 : Int32))), (.int ((x0 &&& (255 : Int32)) <<< ((0 : Int32) &&& 31)))])) rfl (hb hby d19_53)
 refine own_go (b := (T5.setTop (mkF m 59 #[rv a3, iv (1 : Int32)] [(.int ((((x0 &&& (255 : Int32)) <<< ((0 : Int32) &&& 31)) ||| ((x1 &&& (255 : Int32)) <<< ((8 : Int32) &&& 31))).toUInt32.toUInt16.toUInt32.toInt32))]))) (fun _ k => st5 _ (XS.ishl X5.here hx rfl (hb hby d19_56) rfl (XS.ior X5.here hx rfl (hb hby d19_57) rfl (XS.i2c X5.here hx rfl (hb hby d19_58) rfl k)))) ?_
 obtain ⟨fs, hr, hrun, hended, hW, hsame⟩ := X5.leave (v := some (.int (nar .char ((((x0 &&& (255 : Int32)) <<< ((0 : Int32) &&& 31)) ||| ((x1 &&& (255 : Int32)) <<< ((8 : Int32) &&& 31))).toUInt32.toUInt16.toUInt32.toInt32)))) (fun h => by rw [Bd.returns] at h; cases h)
 exact ⟨_, _, retN X5 hx (t := .char) Bd.returns (by simp) (hb hby d19_59) hr, hrun, hended, _, _, rfl, (show Qrmget0 Z a3 k3 x0 x1 x2 x3 x4 x5 x6 x7 h0 n0 _ T5.heap _ from (by rw [e5]; exact ⟨rfl, N0, rfl⟩)), ⟨_, rfl⟩, hW, hsame.mono (by decide) (by decide)⟩
theorem ef_rmget1 (m : MethodId) (x0 : Addr) (x1 : Int32) : entryFrame m #[(.ref x0), (.int x1)] 2 = mkF m 0 #[rv x0, iv x1] [] := by first | (simp [entryFrame, mkF, argsToLocals, Value.category]; done) | rfl
def Qrmget1 (Z : State) (a3 : Addr) (k3 : ClassId) (x0 : Int32) (x1 : Int32) (x2 : Int32) (x3 : Int32) (x4 : Int32) (x5 : Int32) (x6 : Int32) (x7 : Int32) (h0 : Heap) (n0 : Nat) (v : Option Value) (h : Heap) (L : List Loc) : Prop := v = some (.int (own_gc x2 x3)) ∧ Fr n0 L ∧ h = h0
set_option maxRecDepth 65536 in
set_option maxHeartbeats 40000000 in
theorem rmget1 (l : Launch) (Z : State) (a0 : Array Value) (hw : ∀ d ∈ tables_1, d.before a0 Z = true) (ws : List Jvm.Cond) (a3 : Addr) (k3 : ClassId) (x0 : Int32) (x1 : Int32) (x2 : Int32) (x3 : Int32) (x4 : Int32) (x5 : Int32) (x6 : Int32) (x7 : Int32) (h0 : Heap) (n0 : Nat) (Z0 : n0 ≤ h0.size) (O0 : Old Z n0 h0) (S__assertionsDisabled : Sta Z Z.heap "java/lang/StringUTF16" "$assertionsDisabled" "Z" (.int (1 : Int32))) (S_HI_BYTE_SHIFT : Sta Z Z.heap "java/lang/StringUTF16" "HI_BYTE_SHIFT" "I" (.int (0 : Int32))) (S_LO_BYTE_SHIFT : Sta Z Z.heap "java/lang/StringUTF16" "LO_BYTE_SHIFT" "I" (.int (8 : Int32))) (V_a3 : Arv Z h0 a3 k3 .byte (8 : Int32) [(.int x0), (.int x1), (.int x2), (.int x3), (.int x4), (.int x5), (.int x6), (.int x7)] (.int (0 : Int32))) :
    MetFree l mn3 (head1 (Jvm.Cond.code mn3 jdk_52_method_5_code 2 (some .char) :: ws) ({ frames := 0, cells := 0, slots := 0, locals := 0 } : Room)) (fun a U => a = #[(.ref a3), (.int (1 : Int32))] ∧ Z.Warmed39 U.vm ∧ U.heap = h0) (fun _ _ _ _ _ => True) (fun _ U o U' => ∃ v L, o = .returned v ∧ Qrmget1 Z a3 k3 x0 x1 x2 x3 x4 x5 x6 x7 h0 n0 v U'.heap L ∧ FrameEnd U o U' L ({ frames := 0, cells := 0, slots := 0, locals := 0 } : Room).cells ({ frames := 0, cells := 0, slots := 0, locals := 0 } : Room).slots) := by
 refine MetFree.of_bodySF (plainFor_of_name pn_19) hisR ?_
 intro p e s m args below meth c s₁ Bd hml0 hP hK
 obtain ⟨rfl, hZ, hh⟩ := hP
 have hx := Bd.exec
 have hby := Bd.bytes
 have hml : c.maxLocals = 2 := hml0
 have hown : s.vm.findClass "java/lang/StringUTF16" = some m.cls := findClass_of_methodNamed Bd.named
 have hnm := (name_of_methodNamed Bd.named Bd.method).1
 have X0 : Stand p l e ({ frames := 0, cells := 0, slots := 0, locals := 0 } : Room) s m #[(.ref a3), (.int (1 : Int32))] below meth c s₁ [] 0 0 := Stand.of_body Bd
 have e0 : s₁.heap = h0 := by rw [← hh, Bd.state]; rfl
 have N0 := Fr.nil n0
 refine own_go (b := (s₁.setTop (mkF m 0 #[rv a3, iv (1 : Int32)] []))) (fun _ k => castTop (ef_rmget1 m a3 (1 : Int32)) k) ?_
 obtain ⟨T1, X1, e1, st1⟩ := getS2 X0 hx hZ hown (host := "") (Or.inl (ow hw 78 rfl)) Via.refl e0 (S__assertionsDisabled.ext O0.2) (g := (mkF m 0 #[rv a3, iv (1 : Int32)] [])) rfl (hb hby d19_0)
 refine own_go (b := (T1.setTop (mkF m 37 #[rv a3, iv (3 : Int32)] [(.int (2 : Int32)), (.ref a3)]))) (fun _ k => st1 _ (XS.ifYes X1.here hx rfl (pc0 := 3) (pc' := 28) rfl (hb hby d19_3) rfl ((if0 _ _).trans (feq (by decide : ¬ ((1 : Int32) = (0 : Int32)))).2) (by decide) (by decide) (XS.iloadN X1.here hx rfl (hb hby d19_28) rfl (XS.iconst X1.here hx rfl (hb hby d19_29) (XS.ishl X1.here hx rfl (hb hby d19_30) rfl (XS.istoreN X1.here hx rfl (hb hby d19_31) rfl (l' := #[rv a3, iv (2 : Int32)]) rfl (XS.aloadN X1.here hx rfl (hb hby d19_32) rfl rfl (XS.iloadN X1.here hx rfl (hb hby d19_33) rfl (XS.iinc X1.here hx rfl (hb hby d19_34) rfl (l' := #[rv a3, iv (3 : Int32)]) rfl k))))))))) ?_
 obtain ⟨cl2, Ar2, ql2, Sz2, Nn2, Hl2, Gl2⟩ := id V_a3
 have hin2 : ¬ ((2 : Int32) < 0 ∨ cl2.slots.size ≤ ((2 : Int32)).toNatClampNeg) := inb_of Sz2 ⟨by decide, by decide⟩
 refine own_go (b := (T1.setTop (mkF m 42 #[rv a3, iv (3 : Int32)] [(.int (x2 &&& (255 : Int32)))]))) (fun _ k => X1.baloadBytes hx (j := (2 : Int32)) (v := (.int x2)) (by rw [e1]; exact Ar2.1) (State.isArrayOf_alike hZ.alike Ar2.2.1) Ar2.2.2 hin2 (Hl2.at hin2 rfl) (g := (mkF m 37 #[rv a3, iv (3 : Int32)] [(.int (2 : Int32)), (.ref a3)])) rfl rfl (hb hby d19_37) _ (XS.sipush X1.here hx rfl (hb hby d19_38) (XS.iand X1.here hx rfl (hb hby d19_41) rfl k))) ?_
 obtain ⟨T3, X3, e3, st3⟩ := getS2 X1 hx hZ hown (host := "") (Or.inl (ow hw 79 rfl)) Via.refl e1 (S_HI_BYTE_SHIFT.ext O0.2) (g := (mkF m 42 #[rv a3, iv (3 : Int32)] [(.int (x2 &&& (255 : Int32)))])) rfl (hb hby d19_42)
 refine own_go (b := (T3.setTop (mkF m 48 #[rv a3, iv (3 : Int32)] [(.int (3 : Int32)), (.ref a3), (.int ((x2 &&& (255 : Int32)) <<< ((0 : Int32) &&& 31)))]))) (fun _ k => st3 _ (XS.ishl X3.here hx rfl (hb hby d19_45) rfl (XS.aloadN X3.here hx rfl (hb hby d19_46) rfl rfl (XS.iloadN X3.here hx rfl (hb hby d19_47) rfl k)))) ?_
 obtain ⟨cl4, Ar4, ql4, Sz4, Nn4, Hl4, Gl4⟩ := id V_a3
 have hin4 : ¬ ((3 : Int32) < 0 ∨ cl4.slots.size ≤ ((3 : Int32)).toNatClampNeg) := inb_of Sz4 ⟨by decide, by decide⟩
 refine own_go (b := (T3.setTop (mkF m 53 #[rv a3, iv (3 : Int32)] [(.int (x3 &&& (255 : Int32))), (.int ((x2 &&& (255 : Int32)) <<< ((0 : Int32) &&& 31)))]))) (fun _ k => X3.baloadBytes hx (j := (3 : Int32)) (v := (.int x3)) (by rw [e3]; exact Ar4.1) (State.isArrayOf_alike hZ.alike Ar4.2.1) Ar4.2.2 hin4 (Hl4.at hin4 rfl) (g := (mkF m 48 #[rv a3, iv (3 : Int32)] [(.int (3 : Int32)), (.ref a3), (.int ((x2 &&& (255 : Int32)) <<< ((0 : Int32) &&& 31)))])) rfl rfl (hb hby d19_48) _ (XS.sipush X3.here hx rfl (hb hby d19_49) (XS.iand X3.here hx rfl (hb hby d19_52) rfl k))) ?_
 obtain ⟨T5, X5, e5, st5⟩ := getS2 X3 hx hZ hown (host := "") (Or.inl (ow hw 80 rfl)) Via.refl e3 (S_LO_BYTE_SHIFT.ext O0.2) (g := (mkF m 53 #[rv a3, iv (3 : Int32)] [(.int (x3 &&& (255 : Int32))), (.int ((x2 &&& (255 : Int32)) <<< ((0 : Int32) &&& 31)))])) rfl (hb hby d19_53)
 refine own_go (b := (T5.setTop (mkF m 59 #[rv a3, iv (3 : Int32)] [(.int ((((x2 &&& (255 : Int32)) <<< ((0 : Int32) &&& 31)) ||| ((x3 &&& (255 : Int32)) <<< ((8 : Int32) &&& 31))).toUInt32.toUInt16.toUInt32.toInt32))]))) (fun _ k => st5 _ (XS.ishl X5.here hx rfl (hb hby d19_56) rfl (XS.ior X5.here hx rfl (hb hby d19_57) rfl (XS.i2c X5.here hx rfl (hb hby d19_58) rfl k)))) ?_
 obtain ⟨fs, hr, hrun, hended, hW, hsame⟩ := X5.leave (v := some (.int (nar .char ((((x2 &&& (255 : Int32)) <<< ((0 : Int32) &&& 31)) ||| ((x3 &&& (255 : Int32)) <<< ((8 : Int32) &&& 31))).toUInt32.toUInt16.toUInt32.toInt32)))) (fun h => by rw [Bd.returns] at h; cases h)
 exact ⟨_, _, retN X5 hx (t := .char) Bd.returns (by simp) (hb hby d19_59) hr, hrun, hended, _, _, rfl, (show Qrmget1 Z a3 k3 x0 x1 x2 x3 x4 x5 x6 x7 h0 n0 _ T5.heap _ from (by rw [e5]; exact ⟨rfl, N0, rfl⟩)), ⟨_, rfl⟩, hW, hsame.mono (by decide) (by decide)⟩
theorem ef_rmget2 (m : MethodId) (x0 : Addr) (x1 : Int32) : entryFrame m #[(.ref x0), (.int x1)] 2 = mkF m 0 #[rv x0, iv x1] [] := by first | (simp [entryFrame, mkF, argsToLocals, Value.category]; done) | rfl
def Qrmget2 (Z : State) (a3 : Addr) (k3 : ClassId) (x0 : Int32) (x1 : Int32) (x2 : Int32) (x3 : Int32) (x4 : Int32) (x5 : Int32) (x6 : Int32) (x7 : Int32) (h0 : Heap) (n0 : Nat) (v : Option Value) (h : Heap) (L : List Loc) : Prop := v = some (.int (own_gc x4 x5)) ∧ Fr n0 L ∧ h = h0
set_option maxRecDepth 65536 in
set_option maxHeartbeats 40000000 in
theorem rmget2 (l : Launch) (Z : State) (a0 : Array Value) (hw : ∀ d ∈ tables_1, d.before a0 Z = true) (ws : List Jvm.Cond) (a3 : Addr) (k3 : ClassId) (x0 : Int32) (x1 : Int32) (x2 : Int32) (x3 : Int32) (x4 : Int32) (x5 : Int32) (x6 : Int32) (x7 : Int32) (h0 : Heap) (n0 : Nat) (Z0 : n0 ≤ h0.size) (O0 : Old Z n0 h0) (S__assertionsDisabled : Sta Z Z.heap "java/lang/StringUTF16" "$assertionsDisabled" "Z" (.int (1 : Int32))) (S_HI_BYTE_SHIFT : Sta Z Z.heap "java/lang/StringUTF16" "HI_BYTE_SHIFT" "I" (.int (0 : Int32))) (S_LO_BYTE_SHIFT : Sta Z Z.heap "java/lang/StringUTF16" "LO_BYTE_SHIFT" "I" (.int (8 : Int32))) (V_a3 : Arv Z h0 a3 k3 .byte (8 : Int32) [(.int x0), (.int x1), (.int x2), (.int x3), (.int x4), (.int x5), (.int x6), (.int x7)] (.int (0 : Int32))) :
    MetFree l mn3 (head1 (Jvm.Cond.code mn3 jdk_52_method_5_code 2 (some .char) :: ws) ({ frames := 0, cells := 0, slots := 0, locals := 0 } : Room)) (fun a U => a = #[(.ref a3), (.int (2 : Int32))] ∧ Z.Warmed39 U.vm ∧ U.heap = h0) (fun _ _ _ _ _ => True) (fun _ U o U' => ∃ v L, o = .returned v ∧ Qrmget2 Z a3 k3 x0 x1 x2 x3 x4 x5 x6 x7 h0 n0 v U'.heap L ∧ FrameEnd U o U' L ({ frames := 0, cells := 0, slots := 0, locals := 0 } : Room).cells ({ frames := 0, cells := 0, slots := 0, locals := 0 } : Room).slots) := by
 refine MetFree.of_bodySF (plainFor_of_name pn_19) hisR ?_
 intro p e s m args below meth c s₁ Bd hml0 hP hK
 obtain ⟨rfl, hZ, hh⟩ := hP
 have hx := Bd.exec
 have hby := Bd.bytes
 have hml : c.maxLocals = 2 := hml0
 have hown : s.vm.findClass "java/lang/StringUTF16" = some m.cls := findClass_of_methodNamed Bd.named
 have hnm := (name_of_methodNamed Bd.named Bd.method).1
 have X0 : Stand p l e ({ frames := 0, cells := 0, slots := 0, locals := 0 } : Room) s m #[(.ref a3), (.int (2 : Int32))] below meth c s₁ [] 0 0 := Stand.of_body Bd
 have e0 : s₁.heap = h0 := by rw [← hh, Bd.state]; rfl
 have N0 := Fr.nil n0
 refine own_go (b := (s₁.setTop (mkF m 0 #[rv a3, iv (2 : Int32)] []))) (fun _ k => castTop (ef_rmget2 m a3 (2 : Int32)) k) ?_
 obtain ⟨T1, X1, e1, st1⟩ := getS2 X0 hx hZ hown (host := "") (Or.inl (ow hw 78 rfl)) Via.refl e0 (S__assertionsDisabled.ext O0.2) (g := (mkF m 0 #[rv a3, iv (2 : Int32)] [])) rfl (hb hby d19_0)
 refine own_go (b := (T1.setTop (mkF m 37 #[rv a3, iv (5 : Int32)] [(.int (4 : Int32)), (.ref a3)]))) (fun _ k => st1 _ (XS.ifYes X1.here hx rfl (pc0 := 3) (pc' := 28) rfl (hb hby d19_3) rfl ((if0 _ _).trans (feq (by decide : ¬ ((1 : Int32) = (0 : Int32)))).2) (by decide) (by decide) (XS.iloadN X1.here hx rfl (hb hby d19_28) rfl (XS.iconst X1.here hx rfl (hb hby d19_29) (XS.ishl X1.here hx rfl (hb hby d19_30) rfl (XS.istoreN X1.here hx rfl (hb hby d19_31) rfl (l' := #[rv a3, iv (4 : Int32)]) rfl (XS.aloadN X1.here hx rfl (hb hby d19_32) rfl rfl (XS.iloadN X1.here hx rfl (hb hby d19_33) rfl (XS.iinc X1.here hx rfl (hb hby d19_34) rfl (l' := #[rv a3, iv (5 : Int32)]) rfl k))))))))) ?_
 obtain ⟨cl2, Ar2, ql2, Sz2, Nn2, Hl2, Gl2⟩ := id V_a3
 have hin2 : ¬ ((4 : Int32) < 0 ∨ cl2.slots.size ≤ ((4 : Int32)).toNatClampNeg) := inb_of Sz2 ⟨by decide, by decide⟩
 refine own_go (b := (T1.setTop (mkF m 42 #[rv a3, iv (5 : Int32)] [(.int (x4 &&& (255 : Int32)))]))) (fun _ k => X1.baloadBytes hx (j := (4 : Int32)) (v := (.int x4)) (by rw [e1]; exact Ar2.1) (State.isArrayOf_alike hZ.alike Ar2.2.1) Ar2.2.2 hin2 (Hl2.at hin2 rfl) (g := (mkF m 37 #[rv a3, iv (5 : Int32)] [(.int (4 : Int32)), (.ref a3)])) rfl rfl (hb hby d19_37) _ (XS.sipush X1.here hx rfl (hb hby d19_38) (XS.iand X1.here hx rfl (hb hby d19_41) rfl k))) ?_
 obtain ⟨T3, X3, e3, st3⟩ := getS2 X1 hx hZ hown (host := "") (Or.inl (ow hw 79 rfl)) Via.refl e1 (S_HI_BYTE_SHIFT.ext O0.2) (g := (mkF m 42 #[rv a3, iv (5 : Int32)] [(.int (x4 &&& (255 : Int32)))])) rfl (hb hby d19_42)
 refine own_go (b := (T3.setTop (mkF m 48 #[rv a3, iv (5 : Int32)] [(.int (5 : Int32)), (.ref a3), (.int ((x4 &&& (255 : Int32)) <<< ((0 : Int32) &&& 31)))]))) (fun _ k => st3 _ (XS.ishl X3.here hx rfl (hb hby d19_45) rfl (XS.aloadN X3.here hx rfl (hb hby d19_46) rfl rfl (XS.iloadN X3.here hx rfl (hb hby d19_47) rfl k)))) ?_
 obtain ⟨cl4, Ar4, ql4, Sz4, Nn4, Hl4, Gl4⟩ := id V_a3
 have hin4 : ¬ ((5 : Int32) < 0 ∨ cl4.slots.size ≤ ((5 : Int32)).toNatClampNeg) := inb_of Sz4 ⟨by decide, by decide⟩
 refine own_go (b := (T3.setTop (mkF m 53 #[rv a3, iv (5 : Int32)] [(.int (x5 &&& (255 : Int32))), (.int ((x4 &&& (255 : Int32)) <<< ((0 : Int32) &&& 31)))]))) (fun _ k => X3.baloadBytes hx (j := (5 : Int32)) (v := (.int x5)) (by rw [e3]; exact Ar4.1) (State.isArrayOf_alike hZ.alike Ar4.2.1) Ar4.2.2 hin4 (Hl4.at hin4 rfl) (g := (mkF m 48 #[rv a3, iv (5 : Int32)] [(.int (5 : Int32)), (.ref a3), (.int ((x4 &&& (255 : Int32)) <<< ((0 : Int32) &&& 31)))])) rfl rfl (hb hby d19_48) _ (XS.sipush X3.here hx rfl (hb hby d19_49) (XS.iand X3.here hx rfl (hb hby d19_52) rfl k))) ?_
 obtain ⟨T5, X5, e5, st5⟩ := getS2 X3 hx hZ hown (host := "") (Or.inl (ow hw 80 rfl)) Via.refl e3 (S_LO_BYTE_SHIFT.ext O0.2) (g := (mkF m 53 #[rv a3, iv (5 : Int32)] [(.int (x5 &&& (255 : Int32))), (.int ((x4 &&& (255 : Int32)) <<< ((0 : Int32) &&& 31)))])) rfl (hb hby d19_53)
 refine own_go (b := (T5.setTop (mkF m 59 #[rv a3, iv (5 : Int32)] [(.int ((((x4 &&& (255 : Int32)) <<< ((0 : Int32) &&& 31)) ||| ((x5 &&& (255 : Int32)) <<< ((8 : Int32) &&& 31))).toUInt32.toUInt16.toUInt32.toInt32))]))) (fun _ k => st5 _ (XS.ishl X5.here hx rfl (hb hby d19_56) rfl (XS.ior X5.here hx rfl (hb hby d19_57) rfl (XS.i2c X5.here hx rfl (hb hby d19_58) rfl k)))) ?_
 obtain ⟨fs, hr, hrun, hended, hW, hsame⟩ := X5.leave (v := some (.int (nar .char ((((x4 &&& (255 : Int32)) <<< ((0 : Int32) &&& 31)) ||| ((x5 &&& (255 : Int32)) <<< ((8 : Int32) &&& 31))).toUInt32.toUInt16.toUInt32.toInt32)))) (fun h => by rw [Bd.returns] at h; cases h)
 exact ⟨_, _, retN X5 hx (t := .char) Bd.returns (by simp) (hb hby d19_59) hr, hrun, hended, _, _, rfl, (show Qrmget2 Z a3 k3 x0 x1 x2 x3 x4 x5 x6 x7 h0 n0 _ T5.heap _ from (by rw [e5]; exact ⟨rfl, N0, rfl⟩)), ⟨_, rfl⟩, hW, hsame.mono (by decide) (by decide)⟩
theorem ef_rmget3 (m : MethodId) (x0 : Addr) (x1 : Int32) : entryFrame m #[(.ref x0), (.int x1)] 2 = mkF m 0 #[rv x0, iv x1] [] := by first | (simp [entryFrame, mkF, argsToLocals, Value.category]; done) | rfl
def Qrmget3 (Z : State) (a3 : Addr) (k3 : ClassId) (x0 : Int32) (x1 : Int32) (x2 : Int32) (x3 : Int32) (x4 : Int32) (x5 : Int32) (x6 : Int32) (x7 : Int32) (h0 : Heap) (n0 : Nat) (v : Option Value) (h : Heap) (L : List Loc) : Prop := v = some (.int (own_gc x6 x7)) ∧ Fr n0 L ∧ h = h0
set_option maxRecDepth 65536 in
set_option maxHeartbeats 40000000 in
theorem rmget3 (l : Launch) (Z : State) (a0 : Array Value) (hw : ∀ d ∈ tables_1, d.before a0 Z = true) (ws : List Jvm.Cond) (a3 : Addr) (k3 : ClassId) (x0 : Int32) (x1 : Int32) (x2 : Int32) (x3 : Int32) (x4 : Int32) (x5 : Int32) (x6 : Int32) (x7 : Int32) (h0 : Heap) (n0 : Nat) (Z0 : n0 ≤ h0.size) (O0 : Old Z n0 h0) (S__assertionsDisabled : Sta Z Z.heap "java/lang/StringUTF16" "$assertionsDisabled" "Z" (.int (1 : Int32))) (S_HI_BYTE_SHIFT : Sta Z Z.heap "java/lang/StringUTF16" "HI_BYTE_SHIFT" "I" (.int (0 : Int32))) (S_LO_BYTE_SHIFT : Sta Z Z.heap "java/lang/StringUTF16" "LO_BYTE_SHIFT" "I" (.int (8 : Int32))) (V_a3 : Arv Z h0 a3 k3 .byte (8 : Int32) [(.int x0), (.int x1), (.int x2), (.int x3), (.int x4), (.int x5), (.int x6), (.int x7)] (.int (0 : Int32))) :
    MetFree l mn3 (head1 (Jvm.Cond.code mn3 jdk_52_method_5_code 2 (some .char) :: ws) ({ frames := 0, cells := 0, slots := 0, locals := 0 } : Room)) (fun a U => a = #[(.ref a3), (.int (3 : Int32))] ∧ Z.Warmed39 U.vm ∧ U.heap = h0) (fun _ _ _ _ _ => True) (fun _ U o U' => ∃ v L, o = .returned v ∧ Qrmget3 Z a3 k3 x0 x1 x2 x3 x4 x5 x6 x7 h0 n0 v U'.heap L ∧ FrameEnd U o U' L ({ frames := 0, cells := 0, slots := 0, locals := 0 } : Room).cells ({ frames := 0, cells := 0, slots := 0, locals := 0 } : Room).slots) := by
 refine MetFree.of_bodySF (plainFor_of_name pn_19) hisR ?_
 intro p e s m args below meth c s₁ Bd hml0 hP hK
 obtain ⟨rfl, hZ, hh⟩ := hP
 have hx := Bd.exec
 have hby := Bd.bytes
 have hml : c.maxLocals = 2 := hml0
 have hown : s.vm.findClass "java/lang/StringUTF16" = some m.cls := findClass_of_methodNamed Bd.named
 have hnm := (name_of_methodNamed Bd.named Bd.method).1
 have X0 : Stand p l e ({ frames := 0, cells := 0, slots := 0, locals := 0 } : Room) s m #[(.ref a3), (.int (3 : Int32))] below meth c s₁ [] 0 0 := Stand.of_body Bd
 have e0 : s₁.heap = h0 := by rw [← hh, Bd.state]; rfl
 have N0 := Fr.nil n0
 refine own_go (b := (s₁.setTop (mkF m 0 #[rv a3, iv (3 : Int32)] []))) (fun _ k => castTop (ef_rmget3 m a3 (3 : Int32)) k) ?_
 obtain ⟨T1, X1, e1, st1⟩ := getS2 X0 hx hZ hown (host := "") (Or.inl (ow hw 78 rfl)) Via.refl e0 (S__assertionsDisabled.ext O0.2) (g := (mkF m 0 #[rv a3, iv (3 : Int32)] [])) rfl (hb hby d19_0)
 refine own_go (b := (T1.setTop (mkF m 37 #[rv a3, iv (7 : Int32)] [(.int (6 : Int32)), (.ref a3)]))) (fun _ k => st1 _ (XS.ifYes X1.here hx rfl (pc0 := 3) (pc' := 28) rfl (hb hby d19_3) rfl ((if0 _ _).trans (feq (by decide : ¬ ((1 : Int32) = (0 : Int32)))).2) (by decide) (by decide) (XS.iloadN X1.here hx rfl (hb hby d19_28) rfl (XS.iconst X1.here hx rfl (hb hby d19_29) (XS.ishl X1.here hx rfl (hb hby d19_30) rfl (XS.istoreN X1.here hx rfl (hb hby d19_31) rfl (l' := #[rv a3, iv (6 : Int32)]) rfl (XS.aloadN X1.here hx rfl (hb hby d19_32) rfl rfl (XS.iloadN X1.here hx rfl (hb hby d19_33) rfl (XS.iinc X1.here hx rfl (hb hby d19_34) rfl (l' := #[rv a3, iv (7 : Int32)]) rfl k))))))))) ?_
 obtain ⟨cl2, Ar2, ql2, Sz2, Nn2, Hl2, Gl2⟩ := id V_a3
 have hin2 : ¬ ((6 : Int32) < 0 ∨ cl2.slots.size ≤ ((6 : Int32)).toNatClampNeg) := inb_of Sz2 ⟨by decide, by decide⟩
 refine own_go (b := (T1.setTop (mkF m 42 #[rv a3, iv (7 : Int32)] [(.int (x6 &&& (255 : Int32)))]))) (fun _ k => X1.baloadBytes hx (j := (6 : Int32)) (v := (.int x6)) (by rw [e1]; exact Ar2.1) (State.isArrayOf_alike hZ.alike Ar2.2.1) Ar2.2.2 hin2 (Hl2.at hin2 rfl) (g := (mkF m 37 #[rv a3, iv (7 : Int32)] [(.int (6 : Int32)), (.ref a3)])) rfl rfl (hb hby d19_37) _ (XS.sipush X1.here hx rfl (hb hby d19_38) (XS.iand X1.here hx rfl (hb hby d19_41) rfl k))) ?_
 obtain ⟨T3, X3, e3, st3⟩ := getS2 X1 hx hZ hown (host := "") (Or.inl (ow hw 79 rfl)) Via.refl e1 (S_HI_BYTE_SHIFT.ext O0.2) (g := (mkF m 42 #[rv a3, iv (7 : Int32)] [(.int (x6 &&& (255 : Int32)))])) rfl (hb hby d19_42)
 refine own_go (b := (T3.setTop (mkF m 48 #[rv a3, iv (7 : Int32)] [(.int (7 : Int32)), (.ref a3), (.int ((x6 &&& (255 : Int32)) <<< ((0 : Int32) &&& 31)))]))) (fun _ k => st3 _ (XS.ishl X3.here hx rfl (hb hby d19_45) rfl (XS.aloadN X3.here hx rfl (hb hby d19_46) rfl rfl (XS.iloadN X3.here hx rfl (hb hby d19_47) rfl k)))) ?_
 obtain ⟨cl4, Ar4, ql4, Sz4, Nn4, Hl4, Gl4⟩ := id V_a3
 have hin4 : ¬ ((7 : Int32) < 0 ∨ cl4.slots.size ≤ ((7 : Int32)).toNatClampNeg) := inb_of Sz4 ⟨by decide, by decide⟩
 refine own_go (b := (T3.setTop (mkF m 53 #[rv a3, iv (7 : Int32)] [(.int (x7 &&& (255 : Int32))), (.int ((x6 &&& (255 : Int32)) <<< ((0 : Int32) &&& 31)))]))) (fun _ k => X3.baloadBytes hx (j := (7 : Int32)) (v := (.int x7)) (by rw [e3]; exact Ar4.1) (State.isArrayOf_alike hZ.alike Ar4.2.1) Ar4.2.2 hin4 (Hl4.at hin4 rfl) (g := (mkF m 48 #[rv a3, iv (7 : Int32)] [(.int (7 : Int32)), (.ref a3), (.int ((x6 &&& (255 : Int32)) <<< ((0 : Int32) &&& 31)))])) rfl rfl (hb hby d19_48) _ (XS.sipush X3.here hx rfl (hb hby d19_49) (XS.iand X3.here hx rfl (hb hby d19_52) rfl k))) ?_
 obtain ⟨T5, X5, e5, st5⟩ := getS2 X3 hx hZ hown (host := "") (Or.inl (ow hw 80 rfl)) Via.refl e3 (S_LO_BYTE_SHIFT.ext O0.2) (g := (mkF m 53 #[rv a3, iv (7 : Int32)] [(.int (x7 &&& (255 : Int32))), (.int ((x6 &&& (255 : Int32)) <<< ((0 : Int32) &&& 31)))])) rfl (hb hby d19_53)
 refine own_go (b := (T5.setTop (mkF m 59 #[rv a3, iv (7 : Int32)] [(.int ((((x6 &&& (255 : Int32)) <<< ((0 : Int32) &&& 31)) ||| ((x7 &&& (255 : Int32)) <<< ((8 : Int32) &&& 31))).toUInt32.toUInt16.toUInt32.toInt32))]))) (fun _ k => st5 _ (XS.ishl X5.here hx rfl (hb hby d19_56) rfl (XS.ior X5.here hx rfl (hb hby d19_57) rfl (XS.i2c X5.here hx rfl (hb hby d19_58) rfl k)))) ?_
 obtain ⟨fs, hr, hrun, hended, hW, hsame⟩ := X5.leave (v := some (.int (nar .char ((((x6 &&& (255 : Int32)) <<< ((0 : Int32) &&& 31)) ||| ((x7 &&& (255 : Int32)) <<< ((8 : Int32) &&& 31))).toUInt32.toUInt16.toUInt32.toInt32)))) (fun h => by rw [Bd.returns] at h; cases h)
 exact ⟨_, _, retN X5 hx (t := .char) Bd.returns (by simp) (hb hby d19_59) hr, hrun, hended, _, _, rfl, (show Qrmget3 Z a3 k3 x0 x1 x2 x3 x4 x5 x6 x7 h0 n0 _ T5.heap _ from (by rw [e5]; exact ⟨rfl, N0, rfl⟩)), ⟨_, rfl⟩, hW, hsame.mono (by decide) (by decide)⟩
theorem d7_0 : decode jdk_52_method_15_code 0 = .ok (.iload_n 1, 1) := by decide +kernel
theorem d7_1 : decode jdk_52_method_15_code 1 = .ok (.aload_n 0, 1) := by decide +kernel
theorem d7_2 : decode jdk_52_method_15_code 2 = .ok (.arraylength, 1) := by decide +kernel
theorem d7_3 : decode jdk_52_method_15_code 3 = .ok (.isub, 1) := by decide +kernel
theorem d7_4 : decode jdk_52_method_15_code 4 = .ok (.bipush 31, 2) := by decide +kernel
theorem d7_6 : decode jdk_52_method_15_code 6 = .ok (.iushr, 1) := by decide +kernel
theorem d7_7 : decode jdk_52_method_15_code 7 = .ok (.i2b, 1) := by decide +kernel
theorem d7_8 : decode jdk_52_method_15_code 8 = .ok (.ireturn, 1) := by decide +kernel
theorem pn_7 : plainName "java/lang/StringUTF16" = true := by first | (simp [plainName, overriddenIn]; done) | decide +kernel
theorem ef_rmcd4 (m : MethodId) (x0 : Addr) (x1 : Int32) : entryFrame m #[(.ref x0), (.int x1)] 2 = mkF m 0 #[rv x0, iv x1] [] := by first | (simp [entryFrame, mkF, argsToLocals, Value.category]; done) | rfl
def Qrmcd4 (Z : State) (a3 : Addr) (k3 : ClassId) (x0 : Int32) (x1 : Int32) (x2 : Int32) (x3 : Int32) (h0 : Heap) (n0 : Nat) (v : Option Value) (h : Heap) (L : List Loc) : Prop := v = some (.int (0 : Int32)) ∧ Fr n0 L ∧ h = h0
set_option maxRecDepth 65536 in
set_option maxHeartbeats 40000000 in
theorem rmcd4 (l : Launch) (Z : State) (a0 : Array Value) (hw : ∀ d ∈ tables_1, d.before a0 Z = true) (ws : List Jvm.Cond) (a3 : Addr) (k3 : ClassId) (x0 : Int32) (x1 : Int32) (x2 : Int32) (x3 : Int32) (h0 : Heap) (n0 : Nat) (Z0 : n0 ≤ h0.size) (V_a3 : Arv Z h0 a3 k3 .byte (4 : Int32) [(.int x0), (.int x1), (.int x2), (.int x3)] (.int (0 : Int32))) :
    MetFree l mn8 (head1 (Jvm.Cond.code mn8 jdk_52_method_15_code 2 (some .byte) :: ws) ({ frames := 0, cells := 0, slots := 0, locals := 0 } : Room)) (fun a U => a = #[(.ref a3), (.int (4 : Int32))] ∧ Z.Warmed39 U.vm ∧ U.heap = h0) (fun _ _ _ _ _ => True) (fun _ U o U' => ∃ v L, o = .returned v ∧ Qrmcd4 Z a3 k3 x0 x1 x2 x3 h0 n0 v U'.heap L ∧ FrameEnd U o U' L ({ frames := 0, cells := 0, slots := 0, locals := 0 } : Room).cells ({ frames := 0, cells := 0, slots := 0, locals := 0 } : Room).slots) := by
 refine MetFree.of_bodySF (plainFor_of_name pn_7) hisR ?_
 intro p e s m args below meth c s₁ Bd hml0 hP hK
 obtain ⟨rfl, hZ, hh⟩ := hP
 have hx := Bd.exec
 have hby := Bd.bytes
 have hml : c.maxLocals = 2 := hml0
 have hown : s.vm.findClass "java/lang/StringUTF16" = some m.cls := findClass_of_methodNamed Bd.named
 have hnm := (name_of_methodNamed Bd.named Bd.method).1
 have X0 : Stand p l e ({ frames := 0, cells := 0, slots := 0, locals := 0 } : Room) s m #[(.ref a3), (.int (4 : Int32))] below meth c s₁ [] 0 0 := Stand.of_body Bd
 have e0 : s₁.heap = h0 := by rw [← hh, Bd.state]; rfl
 have N0 := Fr.nil n0
 refine own_go (b := (s₁.setTop (mkF m 0 #[rv a3, iv (4 : Int32)] []))) (fun _ k => castTop (ef_rmcd4 m a3 (4 : Int32)) k) ?_
 refine own_go (b := (s₁.setTop (mkF m 2 #[rv a3, iv (4 : Int32)] [(.ref a3), (.int (4 : Int32))]))) (fun _ k => XS.iloadN X0.here hx rfl (hb hby d7_0) rfl (XS.aloadN X0.here hx rfl (hb hby d7_1) rfl rfl k)) ?_
 obtain ⟨cl1, Ar1, -, Sz1, Nn1, -, -⟩ := id V_a3
 refine own_go (b := (s₁.setTop (mkF m 8 #[rv a3, iv (4 : Int32)] [(.int ((0 : Int32).toInt8.toInt32))]))) (fun _ k => X0.arraylength hx (by rw [e0]; exact Ar1.1) (State.isArrayOf_alike hZ.alike Ar1.2.1) (g := (mkF m 2 #[rv a3, iv (4 : Int32)] [(.ref a3), (.int (4 : Int32))])) rfl rfl (hb hby d7_2) _ (by rw [len_of Sz1 Nn1]; exact (XS.isub X0.here hx rfl (hb hby d7_3) rfl (XS.bipush X0.here hx rfl (hb hby d7_4) (XS.iushr X0.here hx rfl (hb hby d7_6) rfl (XS.i2b X0.here hx rfl (hb hby d7_7) rfl k)))))) ?_
 obtain ⟨fs, hr, hrun, hended, hW, hsame⟩ := X0.leave (v := some (.int (nar .byte ((0 : Int32).toInt8.toInt32)))) (fun h => by rw [Bd.returns] at h; cases h)
 exact ⟨_, _, retN X0 hx (t := .byte) Bd.returns (by simp) (hb hby d7_8) hr, hrun, hended, _, _, rfl, (show Qrmcd4 Z a3 k3 x0 x1 x2 x3 h0 n0 _ s₁.heap _ from (by rw [e0]; exact ⟨rfl, N0, rfl⟩)), ⟨_, rfl⟩, hW, hsame.mono (by decide) (by decide)⟩
theorem ef_rmcd8 (m : MethodId) (x0 : Addr) (x1 : Int32) : entryFrame m #[(.ref x0), (.int x1)] 2 = mkF m 0 #[rv x0, iv x1] [] := by first | (simp [entryFrame, mkF, argsToLocals, Value.category]; done) | rfl
def Qrmcd8 (Z : State) (a3 : Addr) (k3 : ClassId) (x0 : Int32) (x1 : Int32) (x2 : Int32) (x3 : Int32) (x4 : Int32) (x5 : Int32) (x6 : Int32) (x7 : Int32) (h0 : Heap) (n0 : Nat) (v : Option Value) (h : Heap) (L : List Loc) : Prop := v = some (.int (1 : Int32)) ∧ Fr n0 L ∧ h = h0
set_option maxRecDepth 65536 in
set_option maxHeartbeats 40000000 in
theorem rmcd8 (l : Launch) (Z : State) (a0 : Array Value) (hw : ∀ d ∈ tables_1, d.before a0 Z = true) (ws : List Jvm.Cond) (a3 : Addr) (k3 : ClassId) (x0 : Int32) (x1 : Int32) (x2 : Int32) (x3 : Int32) (x4 : Int32) (x5 : Int32) (x6 : Int32) (x7 : Int32) (h0 : Heap) (n0 : Nat) (Z0 : n0 ≤ h0.size) (V_a3 : Arv Z h0 a3 k3 .byte (8 : Int32) [(.int x0), (.int x1), (.int x2), (.int x3), (.int x4), (.int x5), (.int x6), (.int x7)] (.int (0 : Int32))) :
    MetFree l mn8 (head1 (Jvm.Cond.code mn8 jdk_52_method_15_code 2 (some .byte) :: ws) ({ frames := 0, cells := 0, slots := 0, locals := 0 } : Room)) (fun a U => a = #[(.ref a3), (.int (4 : Int32))] ∧ Z.Warmed39 U.vm ∧ U.heap = h0) (fun _ _ _ _ _ => True) (fun _ U o U' => ∃ v L, o = .returned v ∧ Qrmcd8 Z a3 k3 x0 x1 x2 x3 x4 x5 x6 x7 h0 n0 v U'.heap L ∧ FrameEnd U o U' L ({ frames := 0, cells := 0, slots := 0, locals := 0 } : Room).cells ({ frames := 0, cells := 0, slots := 0, locals := 0 } : Room).slots) := by
 refine MetFree.of_bodySF (plainFor_of_name pn_7) hisR ?_
 intro p e s m args below meth c s₁ Bd hml0 hP hK
 obtain ⟨rfl, hZ, hh⟩ := hP
 have hx := Bd.exec
 have hby := Bd.bytes
 have hml : c.maxLocals = 2 := hml0
 have hown : s.vm.findClass "java/lang/StringUTF16" = some m.cls := findClass_of_methodNamed Bd.named
 have hnm := (name_of_methodNamed Bd.named Bd.method).1
 have X0 : Stand p l e ({ frames := 0, cells := 0, slots := 0, locals := 0 } : Room) s m #[(.ref a3), (.int (4 : Int32))] below meth c s₁ [] 0 0 := Stand.of_body Bd
 have e0 : s₁.heap = h0 := by rw [← hh, Bd.state]; rfl
 have N0 := Fr.nil n0
 refine own_go (b := (s₁.setTop (mkF m 0 #[rv a3, iv (4 : Int32)] []))) (fun _ k => castTop (ef_rmcd8 m a3 (4 : Int32)) k) ?_
 refine own_go (b := (s₁.setTop (mkF m 2 #[rv a3, iv (4 : Int32)] [(.ref a3), (.int (4 : Int32))]))) (fun _ k => XS.iloadN X0.here hx rfl (hb hby d7_0) rfl (XS.aloadN X0.here hx rfl (hb hby d7_1) rfl rfl k)) ?_
 obtain ⟨cl1, Ar1, -, Sz1, Nn1, -, -⟩ := id V_a3
 refine own_go (b := (s₁.setTop (mkF m 8 #[rv a3, iv (4 : Int32)] [(.int ((((-4 : Int32).toUInt32 >>> ((31 : Int32) &&& 31).toUInt32).toInt32).toInt8.toInt32))]))) (fun _ k => X0.arraylength hx (by rw [e0]; exact Ar1.1) (State.isArrayOf_alike hZ.alike Ar1.2.1) (g := (mkF m 2 #[rv a3, iv (4 : Int32)] [(.ref a3), (.int (4 : Int32))])) rfl rfl (hb hby d7_2) _ (by rw [len_of Sz1 Nn1]; exact (XS.isub X0.here hx rfl (hb hby d7_3) rfl (XS.bipush X0.here hx rfl (hb hby d7_4) (XS.iushr X0.here hx rfl (hb hby d7_6) rfl (XS.i2b X0.here hx rfl (hb hby d7_7) rfl k)))))) ?_
 obtain ⟨fs, hr, hrun, hended, hW, hsame⟩ := X0.leave (v := some (.int (nar .byte ((((-4 : Int32).toUInt32 >>> ((31 : Int32) &&& 31).toUInt32).toInt32).toInt8.toInt32)))) (fun h => by rw [Bd.returns] at h; cases h)
 exact ⟨_, _, retN X0 hx (t := .byte) Bd.returns (by simp) (hb hby d7_8) hr, hrun, hended, _, _, rfl, (show Qrmcd8 Z a3 k3 x0 x1 x2 x3 x4 x5 x6 x7 h0 n0 _ s₁.heap _ from (by rw [e0]; exact ⟨rfl, N0, rfl⟩)), ⟨_, rfl⟩, hW, hsame.mono (by decide) (by decide)⟩
theorem d5_0 : decode jdk_52_method_16_code 0 = .ok (.iload_n 2, 1) := by decide +kernel
theorem d5_1 : decode jdk_52_method_16_code 1 = .ok (.newarray .byte, 2) := by decide +kernel
theorem d5_3 : decode jdk_52_method_16_code 3 = .ok (.astore_n 3, 1) := by decide +kernel
theorem d5_4 : decode jdk_52_method_16_code 4 = .ok (.aload_n 0, 1) := by decide +kernel
theorem d5_5 : decode jdk_52_method_16_code 5 = .ok (.iload_n 1, 1) := by decide +kernel
theorem d5_6 : decode jdk_52_method_16_code 6 = .ok (.aload_n 3, 1) := by decide +kernel
theorem d5_7 : decode jdk_52_method_16_code 7 = .ok (.iconst 0, 1) := by decide +kernel
theorem d5_8 : decode jdk_52_method_16_code 8 = .ok (.iload_n 2, 1) := by decide +kernel
theorem d5_9 : decode jdk_52_method_16_code 9 = .ok (.invokestatic 115, 3) := by decide +kernel
theorem d5_12 : decode jdk_52_method_16_code 12 = .ok (.istore 4, 2) := by decide +kernel
theorem d5_14 : decode jdk_52_method_16_code 14 = .ok (.iload 4, 2) := by decide +kernel
theorem d5_16 : decode jdk_52_method_16_code 16 = .ok (.iload_n 2, 1) := by decide +kernel
theorem d5_17 : decode jdk_52_method_16_code 17 = .ok (.if_icmp .eq 40, 3) := by decide +kernel
theorem d5_20 : decode jdk_52_method_16_code 20 = .ok (.aload_n 0, 1) := by decide +kernel
theorem d5_21 : decode jdk_52_method_16_code 21 = .ok (.iload_n 1, 1) := by decide +kernel
theorem d5_22 : decode jdk_52_method_16_code 22 = .ok (.iload_n 2, 1) := by decide +kernel
theorem d5_23 : decode jdk_52_method_16_code 23 = .ok (.invokestatic 119, 3) := by decide +kernel
theorem d5_26 : decode jdk_52_method_16_code 26 = .ok (.astore 5, 2) := by decide +kernel
theorem d5_28 : decode jdk_52_method_16_code 28 = .ok (.aload 5, 2) := by decide +kernel
theorem d5_30 : decode jdk_52_method_16_code 30 = .ok (.iload 4, 2) := by decide +kernel
theorem d5_32 : decode jdk_52_method_16_code 32 = .ok (.invokestatic 71, 3) := by decide +kernel
theorem d5_35 : decode jdk_52_method_16_code 35 = .ok (.sipush 255, 3) := by decide +kernel
theorem d5_38 : decode jdk_52_method_16_code 38 = .ok (.if_icmp .gt 16, 3) := by decide +kernel
theorem d5_41 : decode jdk_52_method_16_code 41 = .ok (.aload 5, 2) := by decide +kernel
theorem d5_43 : decode jdk_52_method_16_code 43 = .ok (.iconst 0, 1) := by decide +kernel
theorem d5_44 : decode jdk_52_method_16_code 44 = .ok (.aload_n 3, 1) := by decide +kernel
theorem d5_45 : decode jdk_52_method_16_code 45 = .ok (.iconst 0, 1) := by decide +kernel
theorem d5_46 : decode jdk_52_method_16_code 46 = .ok (.iload_n 2, 1) := by decide +kernel
theorem d5_47 : decode jdk_52_method_16_code 47 = .ok (.invokestatic 123, 3) := by decide +kernel
theorem d5_50 : decode jdk_52_method_16_code 50 = .ok (.iload_n 2, 1) := by decide +kernel
theorem d5_51 : decode jdk_52_method_16_code 51 = .ok (.if_icmp .eq 6, 3) := by decide +kernel
theorem d5_54 : decode jdk_52_method_16_code 54 = .ok (.aload 5, 2) := by decide +kernel
theorem d5_56 : decode jdk_52_method_16_code 56 = .ok (.areturn, 1) := by decide +kernel
theorem d5_57 : decode jdk_52_method_16_code 57 = .ok (.aload_n 3, 1) := by decide +kernel
theorem d5_58 : decode jdk_52_method_16_code 58 = .ok (.areturn, 1) := by decide +kernel
theorem pd___CI_BII_I : parseMethodDescriptor "([CI[BII)I" = some ⟨[(.array .char), .int, (.array .byte), .int, .int], some .int⟩ := by decide +kernel
theorem pd___CII__B : parseMethodDescriptor "([CII)[B" = some ⟨[(.array .char), .int, .int], some (.array .byte)⟩ := by decide +kernel
theorem pd___BI_C : parseMethodDescriptor "([BI)C" = some ⟨[(.array .byte), .int], some .char⟩ := by decide +kernel
theorem pn_5 : plainName "java/lang/StringUTF16" = true := by first | (simp [plainName, overriddenIn]; done) | decide +kernel
theorem ef_rmc5 (m : MethodId) (x0 : Addr) (x1 : Int32) (x2 : Int32) : entryFrame m #[(.ref x0), (.int x1), (.int x2)] 6 = mkF m 0 #[rv x0, iv x1, iv x2, .unset, .unset, .unset] [] := by first | (simp [entryFrame, mkF, argsToLocals, Value.category]; done) | rfl
def Qrmc5 (Z : State) (a2 : Addr) (k2 : ClassId) (c0 : Int32) (c1 : Int32) (c2 : Int32) (c3 : Int32) (h0 : Heap) (n0 : Nat) (v : Option Value) (h : Heap) (L : List Loc) : Prop := ∃ (b : Addr) (kb : ClassId), v = some (.ref b) ∧ Fr n0 L ∧ Keep h0 h [] ∧ (h0.size ≤ b) ∧ (own_res Z h b kb c0 c1 c2 c3)
set_option maxRecDepth 65536 in
set_option maxHeartbeats 40000000 in
theorem rmc5 (l : Launch) (Z : State) (a0 : Array Value) (hw : ∀ d ∈ tables_1, d.before a0 Z = true) (ws : List Jvm.Cond) (a2 : Addr) (k2 : ClassId) (c0 : Int32) (c1 : Int32) (c2 : Int32) (c3 : Int32) (h0 : Heap) (n0 : Nat) (Z0 : n0 ≤ h0.size) (O0 : Old Z n0 h0) (S__assertionsDisabled : Sta Z Z.heap "java/lang/StringUTF16" "$assertionsDisabled" "Z" (.int (1 : Int32))) (S_HI_BYTE_SHIFT : Sta Z Z.heap "java/lang/StringUTF16" "HI_BYTE_SHIFT" "I" (.int (0 : Int32))) (S_LO_BYTE_SHIFT : Sta Z Z.heap "java/lang/StringUTF16" "LO_BYTE_SHIFT" "I" (.int (8 : Int32))) (V_a2 : Arv Z h0 a2 k2 .char (4 : Int32) [(.int c0), (.int c1), (.int c2), (.int c3)] (.int (0 : Int32))) (hch0 : own_ch c0) (hch1 : own_ch c1) (hch2 : own_ch c2) (hch3 : own_ch c3) :
    MetFree l (⟨"java/lang/StringUTF16", "compress", "([CII)[B"⟩ : MethodName) (head1 (Jvm.Cond.code (⟨"java/lang/StringUTF16", "compress", "([CII)[B"⟩ : MethodName) jdk_52_method_16_code 6 (some (.array .byte)) :: ws) ({ frames := 3, cells := 2, slots := 12, locals := 40 } : Room)) (fun a U => a = #[(.ref a2), (.int (0 : Int32)), (.int (4 : Int32))] ∧ Z.Warmed39 U.vm ∧ U.heap = h0) (fun _ _ _ _ _ => True) (fun _ U o U' => ∃ v L, o = .returned v ∧ Qrmc5 Z a2 k2 c0 c1 c2 c3 h0 n0 v U'.heap L ∧ FrameEnd U o U' L ({ frames := 3, cells := 2, slots := 12, locals := 40 } : Room).cells ({ frames := 3, cells := 2, slots := 12, locals := 40 } : Room).slots) := by
 refine MetFree.of_bodySF (plainFor_of_name pn_5) hisR ?_
 intro p e s m args below meth c s₁ Bd hml0 hP hK
 obtain ⟨rfl, hZ, hh⟩ := hP
 have hx := Bd.exec
 have hby := Bd.bytes
 have hml : c.maxLocals = 6 := hml0
 have hown : s.vm.findClass "java/lang/StringUTF16" = some m.cls := findClass_of_methodNamed Bd.named
 have hnm := (name_of_methodNamed Bd.named Bd.method).1
 have X0 : Stand p l e ({ frames := 3, cells := 2, slots := 12, locals := 40 } : Room) s m #[(.ref a2), (.int (0 : Int32)), (.int (4 : Int32))] below meth c s₁ [] 0 0 := Stand.of_body Bd
 have e0 : s₁.heap = h0 := by rw [← hh, Bd.state]; rfl
 have N0 := Fr.nil n0
 refine own_go (b := (s₁.setTop (mkF m 0 #[rv a2, iv (0 : Int32), iv (4 : Int32), .unset, .unset, .unset] []))) (fun _ k => castTop (ef_rmc5 m a2 (0 : Int32) (4 : Int32)) k) ?_
 refine own_go (b := (s₁.setTop (mkF m 1 #[rv a2, iv (0 : Int32), iv (4 : Int32), .unset, .unset, .unset] [(.int (4 : Int32))]))) (fun _ k => XS.iloadN X0.here hx rfl (hb hby d5_0) rfl k) ?_
 obtain ⟨T1, h1, kl1, X1, e1, E1, A1, st1⟩ := newP X0 hx hZ (ow hw 24 rfl) e0 (g := (mkF m 1 #[rv a2, iv (0 : Int32), iv (4 : Int32), .unset, .unset, .unset] [(.int (4 : Int32))])) rfl (hb hby d5_1) rfl (by decide) (cap := 4) (by decide) (by decide) (by decide) (by decide)
 obtain ⟨b1, g1⟩ : ∃ z, z = h0.size := ⟨_, rfl⟩
 rw [← g1] at A1 st1
 have Zs2 : n0 ≤ h1.size := Nat.le_trans Z0 E1.1
 have V1 : Arv Z h1 b1 kl1 .byte (4 : Int32) [(.int (0 : Int32)), (.int (0 : Int32)), (.int (0 : Int32)), (.int (0 : Int32))] (.int (0 : Int32)) := (Arv.new A1 (by decide)).pad (pad_rep [] (.int (0 : Int32)) 4)
 refine own_go (b := (T1.setTop (mkF m 9 #[rv a2, iv (0 : Int32), iv (4 : Int32), rv b1, .unset, .unset] [(.int (4 : Int32)), (.int (0 : Int32)), (.ref b1), (.int (0 : Int32)), (.ref a2)]))) (fun _ k => st1 _ (XS.astoreN X1.here hx rfl (hb hby d5_3) rfl rfl (l' := #[rv a2, iv (0 : Int32), iv (4 : Int32), rv b1, .unset, .unset]) rfl (XS.aloadN X1.here hx rfl (hb hby d5_4) rfl rfl (XS.iloadN X1.here hx rfl (hb hby d5_5) rfl (XS.aloadN X1.here hx rfl (hb hby d5_6) rfl rfl (XS.iconst X1.here hx rfl (hb hby d5_7) (XS.iloadN X1.here hx rfl (hb hby d5_8) rfl k))))))) ?_
 have F4 := V_a2.ext E1
 have gx5 : n0 ≤ b1 := Nat.le_trans Z0 (Nat.le_of_eq g1.symm)
 have nx6 : a2 ≠ b1 := (own_ne V_a2.lt (Nat.le_refl _) (Nat.le_of_eq g1.symm))
 refine own_stat (W := 0) X1 hx hZ hown e1 (ow hw 25 rfl) (ow hw 26 rfl) (rmc6 l Z a0 hw [] a2 k2 b1 kl1 c0 c1 c2 c3 (0 : Int32) (0 : Int32) (0 : Int32) (0 : Int32) h1 n0 Zs2 F4 V1 gx5 nx6) (ow hw 27 rfl) (ow hw 22 rfl) rfl (by rw [hml]; rfl) rfl (hb hby d5_9) (lenOf pd___CI_BII_I rfl) rfl (by decide) (fun T3 v3 Ll3 X3 hQ3 => ?_)
 obtain ⟨r_3, vs_3, rfl, N3q, K3, P3_0, P3_1⟩ := hQ3
 have N3 := Fr.app N0 N3q
 have Zs7 : n0 ≤ T3.heap.size := Nat.le_trans Zs2 K3.1
 rcases P3_1 with ⟨rfl, hq⟩ | ⟨rfl, hq⟩ | ⟨rfl, hq⟩ | ⟨rfl, hq⟩ | ⟨rfl, rfl, hq⟩
 · skip
   refine own_go (b := (T3.setTop (mkF m 23 #[rv a2, iv (0 : Int32), iv (4 : Int32), rv b1, iv (0 : Int32), .unset] [(.int (4 : Int32)), (.int (0 : Int32)), (.ref a2)]))) (fun _ k => XS.istore X3.here hx rfl (hb hby d5_12) rfl (l' := #[rv a2, iv (0 : Int32), iv (4 : Int32), rv b1, iv (0 : Int32), .unset]) rfl (XS.iload X3.here hx rfl (hb hby d5_14) rfl (XS.iloadN X3.here hx rfl (hb hby d5_16) rfl (XS.icmpNo X3.here hx rfl (hb hby d5_17) rfl (feq (by decide : ¬ ((0 : Int32) = (4 : Int32)))).1 (XS.aloadN X3.here hx rfl (hb hby d5_20) rfl rfl (XS.iloadN X3.here hx rfl (hb hby d5_21) rfl (XS.iloadN X3.here hx rfl (hb hby d5_22) rfl k))))))) ?_
   have O9 := O0.ext E1
   have O10 := O9.keep K3 (allS gx5 all0)
   have F11 := F4.keep K3 (ninS nx6 nin0)
   refine own_stat (W := 0) X3 hx hZ hown rfl (ow hw 65 rfl) (ow hw 66 rfl) (rmtb l Z a0 hw [] a2 k2 c0 c1 c2 c3 T3.heap n0 Zs7 O10 S__assertionsDisabled S_HI_BYTE_SHIFT S_LO_BYTE_SHIFT F11) (ow hw 67 rfl) (ow hw 22 rfl) rfl (by rw [hml]; rfl) rfl (hb hby d5_23) (lenOf pd___CII__B rfl) rfl (by decide) (fun T8 v8 Ll8 X8 hQ8 => ?_)
   obtain ⟨b_8, kb_8, rfl, N8q, K8, P8_0, P8_1⟩ := hQ8
   have N8 := Fr.app N3 N8q
   have Zs12 : n0 ≤ T8.heap.size := Nat.le_trans Zs7 K8.1
   refine own_go (b := (T8.setTop (mkF m 32 #[rv a2, iv (0 : Int32), iv (4 : Int32), rv b1, iv (0 : Int32), rv b_8] [(.int (0 : Int32)), (.ref b_8)]))) (fun _ k => XS.astore X8.here hx rfl (hb hby d5_26) rfl rfl (l' := #[rv a2, iv (0 : Int32), iv (4 : Int32), rv b1, iv (0 : Int32), rv b_8]) rfl (XS.aload X8.here hx rfl (hb hby d5_28) rfl rfl (XS.iload X8.here hx rfl (hb hby d5_30) rfl k))) ?_
   have O14 := O10.keep K8 all0
   refine own_stat (W := 0) X8 hx hZ hown rfl (ow hw 81 rfl) (ow hw 82 rfl) (rmget0 l Z a0 hw [] b_8 kb_8 (own_lo c0) (own_hi c0) (own_lo c1) (own_hi c1) (own_lo c2) (own_hi c2) (own_lo c3) (own_hi c3) T8.heap n0 Zs12 O14 S__assertionsDisabled S_HI_BYTE_SHIFT S_LO_BYTE_SHIFT P8_1) (ow hw 83 rfl) (ow hw 22 rfl) rfl (by rw [hml]; rfl) rfl (hb hby d5_32) (lenOf pd___BI_C rfl) rfl (by decide) (fun T13 v13 Ll13 X13 hQ13 => ?_)
   obtain ⟨rfl, N13q, eh13⟩ := hQ13
   have N13 := Fr.app N8 N13q
   refine own_go (b := (T13.setTop (mkF m 56 #[rv a2, iv (0 : Int32), iv (4 : Int32), rv b1, iv (0 : Int32), rv b_8] [(.ref b_8)]))) (fun _ k => XS.sipush X13.here hx rfl (hb hby d5_35) (XS.icmpYes X13.here hx rfl (pc0 := 38) (pc' := 54) rfl (hb hby d5_38) rfl (tlt (by rw [own_gch hch0]; exact hq)).2.2.1 (by decide) (by decide) (XS.aload X13.here hx rfl (hb hby d5_54) rfl rfl k))) ?_
   have K15 := (Keep.refl h0 []).ext E1
   have K16 := K15.trans K3 (allS (Or.inr (Nat.le_trans (Nat.le_refl _) (Nat.le_of_eq g1.symm))) all0)
   have K17 := K16.trans K8 all0
   obtain ⟨fs, hr, hrun, hended, hW, hsame⟩ := X13.leave (v := some (.ref b_8)) (fun h => by rw [Bd.returns] at h; cases h)
   exact ⟨_, _, retOut X13 hx Bd.returns rfl (Or.inr (Or.inr (Or.inr (Or.inr ⟨rfl, rfl, rfl⟩)))) (hb hby d5_56) hr, hrun, hended, _, _, rfl, (show Qrmc5 Z a2 k2 c0 c1 c2 c3 h0 n0 _ T13.heap _ from (by rw [eh13]; exact ⟨b_8, kb_8, rfl, N13, K17, (Nat.le_trans (own_tr E1.1 K3.1) P8_0), (Or.inr P8_1)⟩)), ⟨_, rfl⟩, hW, hsame.mono (by decide) (by decide)⟩
 · skip
   refine own_go (b := (T3.setTop (mkF m 23 #[rv a2, iv (0 : Int32), iv (4 : Int32), rv b1, iv (1 : Int32), .unset] [(.int (4 : Int32)), (.int (0 : Int32)), (.ref a2)]))) (fun _ k => XS.istore X3.here hx rfl (hb hby d5_12) rfl (l' := #[rv a2, iv (0 : Int32), iv (4 : Int32), rv b1, iv (1 : Int32), .unset]) rfl (XS.iload X3.here hx rfl (hb hby d5_14) rfl (XS.iloadN X3.here hx rfl (hb hby d5_16) rfl (XS.icmpNo X3.here hx rfl (hb hby d5_17) rfl (feq (by decide : ¬ ((1 : Int32) = (4 : Int32)))).1 (XS.aloadN X3.here hx rfl (hb hby d5_20) rfl rfl (XS.iloadN X3.here hx rfl (hb hby d5_21) rfl (XS.iloadN X3.here hx rfl (hb hby d5_22) rfl k))))))) ?_
   have O19 := O0.ext E1
   have O20 := O19.keep K3 (allS gx5 all0)
   have F21 := F4.keep K3 (ninS nx6 nin0)
   refine own_stat (W := 0) X3 hx hZ hown rfl (ow hw 65 rfl) (ow hw 66 rfl) (rmtb l Z a0 hw [] a2 k2 c0 c1 c2 c3 T3.heap n0 Zs7 O20 S__assertionsDisabled S_HI_BYTE_SHIFT S_LO_BYTE_SHIFT F21) (ow hw 67 rfl) (ow hw 22 rfl) rfl (by rw [hml]; rfl) rfl (hb hby d5_23) (lenOf pd___CII__B rfl) rfl (by decide) (fun T18 v18 Ll18 X18 hQ18 => ?_)
   obtain ⟨b_18, kb_18, rfl, N18q, K18, P18_0, P18_1⟩ := hQ18
   have N18 := Fr.app N3 N18q
   have Zs22 : n0 ≤ T18.heap.size := Nat.le_trans Zs7 K18.1
   refine own_go (b := (T18.setTop (mkF m 32 #[rv a2, iv (0 : Int32), iv (4 : Int32), rv b1, iv (1 : Int32), rv b_18] [(.int (1 : Int32)), (.ref b_18)]))) (fun _ k => XS.astore X18.here hx rfl (hb hby d5_26) rfl rfl (l' := #[rv a2, iv (0 : Int32), iv (4 : Int32), rv b1, iv (1 : Int32), rv b_18]) rfl (XS.aload X18.here hx rfl (hb hby d5_28) rfl rfl (XS.iload X18.here hx rfl (hb hby d5_30) rfl k))) ?_
   have O24 := O20.keep K18 all0
   refine own_stat (W := 0) X18 hx hZ hown rfl (ow hw 81 rfl) (ow hw 82 rfl) (rmget1 l Z a0 hw [] b_18 kb_18 (own_lo c0) (own_hi c0) (own_lo c1) (own_hi c1) (own_lo c2) (own_hi c2) (own_lo c3) (own_hi c3) T18.heap n0 Zs22 O24 S__assertionsDisabled S_HI_BYTE_SHIFT S_LO_BYTE_SHIFT P18_1) (ow hw 83 rfl) (ow hw 22 rfl) rfl (by rw [hml]; rfl) rfl (hb hby d5_32) (lenOf pd___BI_C rfl) rfl (by decide) (fun T23 v23 Ll23 X23 hQ23 => ?_)
   obtain ⟨rfl, N23q, eh23⟩ := hQ23
   have N23 := Fr.app N18 N23q
   refine own_go (b := (T23.setTop (mkF m 56 #[rv a2, iv (0 : Int32), iv (4 : Int32), rv b1, iv (1 : Int32), rv b_18] [(.ref b_18)]))) (fun _ k => XS.sipush X23.here hx rfl (hb hby d5_35) (XS.icmpYes X23.here hx rfl (pc0 := 38) (pc' := 54) rfl (hb hby d5_38) rfl (tlt (by rw [own_gch hch1]; exact hq)).2.2.1 (by decide) (by decide) (XS.aload X23.here hx rfl (hb hby d5_54) rfl rfl k))) ?_
   have K25 := (Keep.refl h0 []).ext E1
   have K26 := K25.trans K3 (allS (Or.inr (Nat.le_trans (Nat.le_refl _) (Nat.le_of_eq g1.symm))) all0)
   have K27 := K26.trans K18 all0
   obtain ⟨fs, hr, hrun, hended, hW, hsame⟩ := X23.leave (v := some (.ref b_18)) (fun h => by rw [Bd.returns] at h; cases h)
   exact ⟨_, _, retOut X23 hx Bd.returns rfl (Or.inr (Or.inr (Or.inr (Or.inr ⟨rfl, rfl, rfl⟩)))) (hb hby d5_56) hr, hrun, hended, _, _, rfl, (show Qrmc5 Z a2 k2 c0 c1 c2 c3 h0 n0 _ T23.heap _ from (by rw [eh23]; exact ⟨b_18, kb_18, rfl, N23, K27, (Nat.le_trans (own_tr E1.1 K3.1) P18_0), (Or.inr P18_1)⟩)), ⟨_, rfl⟩, hW, hsame.mono (by decide) (by decide)⟩
 · skip
   refine own_go (b := (T3.setTop (mkF m 23 #[rv a2, iv (0 : Int32), iv (4 : Int32), rv b1, iv (2 : Int32), .unset] [(.int (4 : Int32)), (.int (0 : Int32)), (.ref a2)]))) (fun _ k => XS.istore X3.here hx rfl (hb hby d5_12) rfl (l' := #[rv a2, iv (0 : Int32), iv (4 : Int32), rv b1, iv (2 : Int32), .unset]) rfl (XS.iload X3.here hx rfl (hb hby d5_14) rfl (XS.iloadN X3.here hx rfl (hb hby d5_16) rfl (XS.icmpNo X3.here hx rfl (hb hby d5_17) rfl (feq (by decide : ¬ ((2 : Int32) = (4 : Int32)))).1 (XS.aloadN X3.here hx rfl (hb hby d5_20) rfl rfl (XS.iloadN X3.here hx rfl (hb hby d5_21) rfl (XS.iloadN X3.here hx rfl (hb hby d5_22) rfl k))))))) ?_
   have O29 := O0.ext E1
   have O30 := O29.keep K3 (allS gx5 all0)
   have F31 := F4.keep K3 (ninS nx6 nin0)
   refine own_stat (W := 0) X3 hx hZ hown rfl (ow hw 65 rfl) (ow hw 66 rfl) (rmtb l Z a0 hw [] a2 k2 c0 c1 c2 c3 T3.heap n0 Zs7 O30 S__assertionsDisabled S_HI_BYTE_SHIFT S_LO_BYTE_SHIFT F31) (ow hw 67 rfl) (ow hw 22 rfl) rfl (by rw [hml]; rfl) rfl (hb hby d5_23) (lenOf pd___CII__B rfl) rfl (by decide) (fun T28 v28 Ll28 X28 hQ28 => ?_)
   obtain ⟨b_28, kb_28, rfl, N28q, K28, P28_0, P28_1⟩ := hQ28
   have N28 := Fr.app N3 N28q
   have Zs32 : n0 ≤ T28.heap.size := Nat.le_trans Zs7 K28.1
   refine own_go (b := (T28.setTop (mkF m 32 #[rv a2, iv (0 : Int32), iv (4 : Int32), rv b1, iv (2 : Int32), rv b_28] [(.int (2 : Int32)), (.ref b_28)]))) (fun _ k => XS.astore X28.here hx rfl (hb hby d5_26) rfl rfl (l' := #[rv a2, iv (0 : Int32), iv (4 : Int32), rv b1, iv (2 : Int32), rv b_28]) rfl (XS.aload X28.here hx rfl (hb hby d5_28) rfl rfl (XS.iload X28.here hx rfl (hb hby d5_30) rfl k))) ?_
   have O34 := O30.keep K28 all0
   refine own_stat (W := 0) X28 hx hZ hown rfl (ow hw 81 rfl) (ow hw 82 rfl) (rmget2 l Z a0 hw [] b_28 kb_28 (own_lo c0) (own_hi c0) (own_lo c1) (own_hi c1) (own_lo c2) (own_hi c2) (own_lo c3) (own_hi c3) T28.heap n0 Zs32 O34 S__assertionsDisabled S_HI_BYTE_SHIFT S_LO_BYTE_SHIFT P28_1) (ow hw 83 rfl) (ow hw 22 rfl) rfl (by rw [hml]; rfl) rfl (hb hby d5_32) (lenOf pd___BI_C rfl) rfl (by decide) (fun T33 v33 Ll33 X33 hQ33 => ?_)
   obtain ⟨rfl, N33q, eh33⟩ := hQ33
   have N33 := Fr.app N28 N33q
   refine own_go (b := (T33.setTop (mkF m 56 #[rv a2, iv (0 : Int32), iv (4 : Int32), rv b1, iv (2 : Int32), rv b_28] [(.ref b_28)]))) (fun _ k => XS.sipush X33.here hx rfl (hb hby d5_35) (XS.icmpYes X33.here hx rfl (pc0 := 38) (pc' := 54) rfl (hb hby d5_38) rfl (tlt (by rw [own_gch hch2]; exact hq)).2.2.1 (by decide) (by decide) (XS.aload X33.here hx rfl (hb hby d5_54) rfl rfl k))) ?_
   have K35 := (Keep.refl h0 []).ext E1
   have K36 := K35.trans K3 (allS (Or.inr (Nat.le_trans (Nat.le_refl _) (Nat.le_of_eq g1.symm))) all0)
   have K37 := K36.trans K28 all0
   obtain ⟨fs, hr, hrun, hended, hW, hsame⟩ := X33.leave (v := some (.ref b_28)) (fun h => by rw [Bd.returns] at h; cases h)
   exact ⟨_, _, retOut X33 hx Bd.returns rfl (Or.inr (Or.inr (Or.inr (Or.inr ⟨rfl, rfl, rfl⟩)))) (hb hby d5_56) hr, hrun, hended, _, _, rfl, (show Qrmc5 Z a2 k2 c0 c1 c2 c3 h0 n0 _ T33.heap _ from (by rw [eh33]; exact ⟨b_28, kb_28, rfl, N33, K37, (Nat.le_trans (own_tr E1.1 K3.1) P28_0), (Or.inr P28_1)⟩)), ⟨_, rfl⟩, hW, hsame.mono (by decide) (by decide)⟩
 · skip
   refine own_go (b := (T3.setTop (mkF m 23 #[rv a2, iv (0 : Int32), iv (4 : Int32), rv b1, iv (3 : Int32), .unset] [(.int (4 : Int32)), (.int (0 : Int32)), (.ref a2)]))) (fun _ k => XS.istore X3.here hx rfl (hb hby d5_12) rfl (l' := #[rv a2, iv (0 : Int32), iv (4 : Int32), rv b1, iv (3 : Int32), .unset]) rfl (XS.iload X3.here hx rfl (hb hby d5_14) rfl (XS.iloadN X3.here hx rfl (hb hby d5_16) rfl (XS.icmpNo X3.here hx rfl (hb hby d5_17) rfl (feq (by decide : ¬ ((3 : Int32) = (4 : Int32)))).1 (XS.aloadN X3.here hx rfl (hb hby d5_20) rfl rfl (XS.iloadN X3.here hx rfl (hb hby d5_21) rfl (XS.iloadN X3.here hx rfl (hb hby d5_22) rfl k))))))) ?_
   have O39 := O0.ext E1
   have O40 := O39.keep K3 (allS gx5 all0)
   have F41 := F4.keep K3 (ninS nx6 nin0)
   refine own_stat (W := 0) X3 hx hZ hown rfl (ow hw 65 rfl) (ow hw 66 rfl) (rmtb l Z a0 hw [] a2 k2 c0 c1 c2 c3 T3.heap n0 Zs7 O40 S__assertionsDisabled S_HI_BYTE_SHIFT S_LO_BYTE_SHIFT F41) (ow hw 67 rfl) (ow hw 22 rfl) rfl (by rw [hml]; rfl) rfl (hb hby d5_23) (lenOf pd___CII__B rfl) rfl (by decide) (fun T38 v38 Ll38 X38 hQ38 => ?_)
   obtain ⟨b_38, kb_38, rfl, N38q, K38, P38_0, P38_1⟩ := hQ38
   have N38 := Fr.app N3 N38q
   have Zs42 : n0 ≤ T38.heap.size := Nat.le_trans Zs7 K38.1
   refine own_go (b := (T38.setTop (mkF m 32 #[rv a2, iv (0 : Int32), iv (4 : Int32), rv b1, iv (3 : Int32), rv b_38] [(.int (3 : Int32)), (.ref b_38)]))) (fun _ k => XS.astore X38.here hx rfl (hb hby d5_26) rfl rfl (l' := #[rv a2, iv (0 : Int32), iv (4 : Int32), rv b1, iv (3 : Int32), rv b_38]) rfl (XS.aload X38.here hx rfl (hb hby d5_28) rfl rfl (XS.iload X38.here hx rfl (hb hby d5_30) rfl k))) ?_
   have O44 := O40.keep K38 all0
   refine own_stat (W := 0) X38 hx hZ hown rfl (ow hw 81 rfl) (ow hw 82 rfl) (rmget3 l Z a0 hw [] b_38 kb_38 (own_lo c0) (own_hi c0) (own_lo c1) (own_hi c1) (own_lo c2) (own_hi c2) (own_lo c3) (own_hi c3) T38.heap n0 Zs42 O44 S__assertionsDisabled S_HI_BYTE_SHIFT S_LO_BYTE_SHIFT P38_1) (ow hw 83 rfl) (ow hw 22 rfl) rfl (by rw [hml]; rfl) rfl (hb hby d5_32) (lenOf pd___BI_C rfl) rfl (by decide) (fun T43 v43 Ll43 X43 hQ43 => ?_)
   obtain ⟨rfl, N43q, eh43⟩ := hQ43
   have N43 := Fr.app N38 N43q
   refine own_go (b := (T43.setTop (mkF m 56 #[rv a2, iv (0 : Int32), iv (4 : Int32), rv b1, iv (3 : Int32), rv b_38] [(.ref b_38)]))) (fun _ k => XS.sipush X43.here hx rfl (hb hby d5_35) (XS.icmpYes X43.here hx rfl (pc0 := 38) (pc' := 54) rfl (hb hby d5_38) rfl (tlt (by rw [own_gch hch3]; exact hq)).2.2.1 (by decide) (by decide) (XS.aload X43.here hx rfl (hb hby d5_54) rfl rfl k))) ?_
   have K45 := (Keep.refl h0 []).ext E1
   have K46 := K45.trans K3 (allS (Or.inr (Nat.le_trans (Nat.le_refl _) (Nat.le_of_eq g1.symm))) all0)
   have K47 := K46.trans K38 all0
   obtain ⟨fs, hr, hrun, hended, hW, hsame⟩ := X43.leave (v := some (.ref b_38)) (fun h => by rw [Bd.returns] at h; cases h)
   exact ⟨_, _, retOut X43 hx Bd.returns rfl (Or.inr (Or.inr (Or.inr (Or.inr ⟨rfl, rfl, rfl⟩)))) (hb hby d5_56) hr, hrun, hended, _, _, rfl, (show Qrmc5 Z a2 k2 c0 c1 c2 c3 h0 n0 _ T43.heap _ from (by rw [eh43]; exact ⟨b_38, kb_38, rfl, N43, K47, (Nat.le_trans (own_tr E1.1 K3.1) P38_0), (Or.inr P38_1)⟩)), ⟨_, rfl⟩, hW, hsame.mono (by decide) (by decide)⟩
 · skip
   refine own_go (b := (T3.setTop (mkF m 58 #[rv a2, iv (0 : Int32), iv (4 : Int32), rv b1, iv (4 : Int32), .unset] [(.ref b1)]))) (fun _ k => XS.istore X3.here hx rfl (hb hby d5_12) rfl (l' := #[rv a2, iv (0 : Int32), iv (4 : Int32), rv b1, iv (4 : Int32), .unset]) rfl (XS.iload X3.here hx rfl (hb hby d5_14) rfl (XS.iloadN X3.here hx rfl (hb hby d5_16) rfl (XS.icmpYes X3.here hx rfl (pc0 := 17) (pc' := 57) rfl (hb hby d5_17) rfl (teq (rfl : (4 : Int32) = (4 : Int32))).1 (by decide) (by decide) (XS.aloadN X3.here hx rfl (hb hby d5_57) rfl rfl k))))) ?_
   have K48 := (Keep.refl h0 []).ext E1
   have K49 := K48.trans K3 (allS (Or.inr (Nat.le_trans (Nat.le_refl _) (Nat.le_of_eq g1.symm))) all0)
   obtain ⟨fs, hr, hrun, hended, hW, hsame⟩ := X3.leave (v := some (.ref b1)) (fun h => by rw [Bd.returns] at h; cases h)
   exact ⟨_, _, retOut X3 hx Bd.returns rfl (Or.inr (Or.inr (Or.inr (Or.inr ⟨rfl, rfl, rfl⟩)))) (hb hby d5_58) hr, hrun, hended, _, _, rfl, (show Qrmc5 Z a2 k2 c0 c1 c2 c3 h0 n0 _ T3.heap _ from (by exact ⟨b1, kl1, rfl, N3, K49, (Nat.le_trans (Nat.le_refl _) (Nat.le_of_eq g1.symm)), (Or.inl ⟨P3_0, hq⟩)⟩)), ⟨_, rfl⟩, hW, hsame.mono (by decide) (by decide)⟩
theorem d3_0 : decode jdk_42_method_149_code 0 = .ok (.aload_n 0, 1) := by decide +kernel
theorem d3_1 : decode jdk_42_method_149_code 1 = .ok (.invokespecial 1, 3) := by decide +kernel
theorem d3_4 : decode jdk_42_method_149_code 4 = .ok (.iload_n 3, 1) := by decide +kernel
theorem d3_5 : decode jdk_42_method_149_code 5 = .ok (.ifCond .ne 22, 3) := by decide +kernel
theorem d3_8 : decode jdk_42_method_149_code 8 = .ok (.aload_n 0, 1) := by decide +kernel
theorem d3_9 : decode jdk_42_method_149_code 9 = .ok (.ldc 7, 2) := by decide +kernel
theorem d3_11 : decode jdk_42_method_149_code 11 = .ok (.getfield 9, 3) := by decide +kernel
theorem d3_14 : decode jdk_42_method_149_code 14 = .ok (.putfield 9, 3) := by decide +kernel
theorem d3_17 : decode jdk_42_method_149_code 17 = .ok (.aload_n 0, 1) := by decide +kernel
theorem d3_18 : decode jdk_42_method_149_code 18 = .ok (.ldc 7, 2) := by decide +kernel
theorem d3_20 : decode jdk_42_method_149_code 20 = .ok (.getfield 15, 3) := by decide +kernel
theorem d3_23 : decode jdk_42_method_149_code 23 = .ok (.putfield 15, 3) := by decide +kernel
theorem d3_26 : decode jdk_42_method_149_code 26 = .ok (.return_, 1) := by decide +kernel
theorem d3_27 : decode jdk_42_method_149_code 27 = .ok (.getstatic 38, 3) := by decide +kernel
theorem d3_30 : decode jdk_42_method_149_code 30 = .ok (.ifCond .eq 28, 3) := by decide +kernel
theorem d3_33 : decode jdk_42_method_149_code 33 = .ok (.aload_n 1, 1) := by decide +kernel
theorem d3_34 : decode jdk_42_method_149_code 34 = .ok (.iload_n 2, 1) := by decide +kernel
theorem d3_35 : decode jdk_42_method_149_code 35 = .ok (.iload_n 3, 1) := by decide +kernel
theorem d3_36 : decode jdk_42_method_149_code 36 = .ok (.invokestatic 177, 3) := by decide +kernel
theorem d3_39 : decode jdk_42_method_149_code 39 = .ok (.astore 5, 2) := by decide +kernel
theorem d3_41 : decode jdk_42_method_149_code 41 = .ok (.aload_n 0, 1) := by decide +kernel
theorem d3_42 : decode jdk_42_method_149_code 42 = .ok (.aload 5, 2) := by decide +kernel
theorem d3_44 : decode jdk_42_method_149_code 44 = .ok (.iload_n 3, 1) := by decide +kernel
theorem d3_45 : decode jdk_42_method_149_code 45 = .ok (.invokestatic 47, 3) := by decide +kernel
theorem d3_48 : decode jdk_42_method_149_code 48 = .ok (.putfield 15, 3) := by decide +kernel
theorem d3_51 : decode jdk_42_method_149_code 51 = .ok (.aload_n 0, 1) := by decide +kernel
theorem d3_52 : decode jdk_42_method_149_code 52 = .ok (.aload 5, 2) := by decide +kernel
theorem d3_54 : decode jdk_42_method_149_code 54 = .ok (.putfield 9, 3) := by decide +kernel
theorem d3_57 : decode jdk_42_method_149_code 57 = .ok (.return_, 1) := by decide +kernel
theorem d3_58 : decode jdk_42_method_149_code 58 = .ok (.aload_n 0, 1) := by decide +kernel
theorem d3_59 : decode jdk_42_method_149_code 59 = .ok (.iconst 1, 1) := by decide +kernel
theorem d3_60 : decode jdk_42_method_149_code 60 = .ok (.putfield 15, 3) := by decide +kernel
theorem d3_63 : decode jdk_42_method_149_code 63 = .ok (.aload_n 0, 1) := by decide +kernel
theorem d3_64 : decode jdk_42_method_149_code 64 = .ok (.aload_n 1, 1) := by decide +kernel
theorem d3_65 : decode jdk_42_method_149_code 65 = .ok (.iload_n 2, 1) := by decide +kernel
theorem d3_66 : decode jdk_42_method_149_code 66 = .ok (.iload_n 3, 1) := by decide +kernel
theorem d3_67 : decode jdk_42_method_149_code 67 = .ok (.invokestatic 180, 3) := by decide +kernel
theorem d3_70 : decode jdk_42_method_149_code 70 = .ok (.putfield 9, 3) := by decide +kernel
theorem d3_73 : decode jdk_42_method_149_code 73 = .ok (.return_, 1) := by decide +kernel
theorem pd___BI_B : parseMethodDescriptor "([BI)B" = some ⟨[(.array .byte), .int], some .byte⟩ := by decide +kernel
theorem pn_3 : plainName "java/lang/String" = true := by first | (simp [plainName, overriddenIn]; done) | decide +kernel
theorem ef_rms3 (m : MethodId) (x0 : Addr) (x1 : Addr) (x2 : Int32) (x3 : Int32) : entryFrame m #[(.ref x0), (.ref x1), (.int x2), (.int x3), .null] 6 = mkF m 0 #[rv x0, rv x1, iv x2, iv x3, .val .null, .unset] [] := by first | (simp [entryFrame, mkF, argsToLocals, Value.category]; done) | rfl
def Qrms3 (Z : State) (a1 : Addr) (a2 : Addr) (k2 : ClassId) (c0 : Int32) (c1 : Int32) (c2 : Int32) (c3 : Int32) (cs : Int32) (h0 : Heap) (n0 : Nat) (v : Option Value) (h : Heap) (L : List Loc) : Prop := v = none ∧ Fr n0 L ∧ Keep h0 h [a1] ∧ (own_str Z h a1 c0 c1 c2 c3)
set_option maxRecDepth 65536 in
set_option maxHeartbeats 40000000 in
theorem rms3 (l : Launch) (Z : State) (a0 : Array Value) (hw : ∀ d ∈ tables_1, d.before a0 Z = true) (ws : List Jvm.Cond) (a1 : Addr) (a2 : Addr) (k2 : ClassId) (c0 : Int32) (c1 : Int32) (c2 : Int32) (c3 : Int32) (cs : Int32) (h0 : Heap) (n0 : Nat) (Z0 : n0 ≤ h0.size) (O0 : Old Z n0 h0) (S_COMPACT_STRINGS : Sta Z Z.heap "java/lang/String" "COMPACT_STRINGS" "Z" (.int cs)) (hcs : ¬ (cs = (0 : Int32))) (S__assertionsDisabled : Sta Z Z.heap "java/lang/StringUTF16" "$assertionsDisabled" "Z" (.int (1 : Int32))) (S_HI_BYTE_SHIFT : Sta Z Z.heap "java/lang/StringUTF16" "HI_BYTE_SHIFT" "I" (.int (0 : Int32))) (S_LO_BYTE_SHIFT : Sta Z Z.heap "java/lang/StringUTF16" "LO_BYTE_SHIFT" "I" (.int (8 : Int32))) (E_a1 : Exa Z h0 a1 "java/lang/String") (Fld_a1_value : Fld Z h0 a1 "java/lang/String" "value" "[B" .null) (Fld_a1_coder : Fld Z h0 a1 "java/lang/String" "coder" "B" (.int (0 : Int32))) (g_a1 : n0 ≤ a1) (V_a2 : Arv Z h0 a2 k2 .char (4 : Int32) [(.int c0), (.int c1), (.int c2), (.int c3)] (.int (0 : Int32))) (hch0 : own_ch c0) (hch1 : own_ch c1) (hch2 : own_ch c2) (hch3 : own_ch c3) :
    MetFree l (⟨"java/lang/String", "<init>", "([CIILjava/lang/Void;)V"⟩ : MethodName) (head1 (Jvm.Cond.code (⟨"java/lang/String", "<init>", "([CIILjava/lang/Void;)V"⟩ : MethodName) jdk_42_method_149_code 6 none :: ws) ({ frames := 4, cells := 2, slots := 12, locals := 57 } : Room)) (fun a U => a = #[(.ref a1), (.ref a2), (.int (0 : Int32)), (.int (4 : Int32)), .null] ∧ Z.Warmed39 U.vm ∧ U.heap = h0) (fun _ _ _ _ _ => True) (fun _ U o U' => ∃ v L, o = .returned v ∧ Qrms3 Z a1 a2 k2 c0 c1 c2 c3 cs h0 n0 v U'.heap L ∧ FrameEnd U o U' L ({ frames := 4, cells := 2, slots := 12, locals := 57 } : Room).cells ({ frames := 4, cells := 2, slots := 12, locals := 57 } : Room).slots) := by
 refine MetFree.of_bodySF (plainFor_of_name pn_3) hisR ?_
 intro p e s m args below meth c s₁ Bd hml0 hP hK
 obtain ⟨rfl, hZ, hh⟩ := hP
 have hx := Bd.exec
 have hby := Bd.bytes
 have hml : c.maxLocals = 6 := hml0
 have hown : s.vm.findClass "java/lang/String" = some m.cls := findClass_of_methodNamed Bd.named
 have hnm := (name_of_methodNamed Bd.named Bd.method).1
 have X0 : Stand p l e ({ frames := 4, cells := 2, slots := 12, locals := 57 } : Room) s m #[(.ref a1), (.ref a2), (.int (0 : Int32)), (.int (4 : Int32)), .null] below meth c s₁ [] 0 0 := Stand.of_body Bd
 have e0 : s₁.heap = h0 := by rw [← hh, Bd.state]; rfl
 have N0 := Fr.nil n0
 refine own_go (b := (s₁.setTop (mkF m 0 #[rv a1, rv a2, iv (0 : Int32), iv (4 : Int32), .val .null, .unset] []))) (fun _ k => castTop (ef_rms3 m a1 a2 (0 : Int32) (4 : Int32)) k) ?_
 refine own_go (b := (s₁.setTop (mkF m 1 #[rv a1, rv a2, iv (0 : Int32), iv (4 : Int32), .val .null, .unset] [(.ref a1)]))) (fun _ k => XS.aloadN X0.here hx rfl (hb hby d3_0) rfl rfl k) ?_
 obtain ⟨T1, X1, e1, st1⟩ := initO X0 hx hZ hown (ow hw 16 rfl) (ow hw 17 rfl) (ow hw 18 rfl) e0 (g := (mkF m 1 #[rv a1, rv a2, iv (0 : Int32), iv (4 : Int32), .val .null, .unset] [(.ref a1)])) rfl (by rw [hml]; rfl) rfl (hb hby d3_1) (by decide) (W := 0) (by show 2 * 0 + _ ≤ _; exact Nat.le_of_eq rfl) (by decide)
 refine own_go (b := (T1.setTop (mkF m 27 #[rv a1, rv a2, iv (0 : Int32), iv (4 : Int32), .val .null, .unset] []))) (fun _ k => st1 _ (XS.iloadN X1.here hx rfl (hb hby d3_4) rfl (XS.ifYes X1.here hx rfl (pc0 := 5) (pc' := 27) rfl (hb hby d3_5) rfl ((if0 _ _).trans (feq (by decide : ¬ ((4 : Int32) = (0 : Int32)))).2) (by decide) (by decide) k))) ?_
 obtain ⟨T2, X2, e2, st2⟩ := getS2 X1 hx hZ hown (host := "") (Or.inl (ow hw 19 rfl)) Via.refl e1 (S_COMPACT_STRINGS.ext O0.2) (g := (mkF m 27 #[rv a1, rv a2, iv (0 : Int32), iv (4 : Int32), .val .null, .unset] [])) rfl (hb hby d3_27)
 refine own_go (b := (T2.setTop (mkF m 36 #[rv a1, rv a2, iv (0 : Int32), iv (4 : Int32), .val .null, .unset] [(.int (4 : Int32)), (.int (0 : Int32)), (.ref a2)]))) (fun _ k => st2 _ (XS.ifNo X2.here hx rfl (hb hby d3_30) rfl ((if0 _ _).trans (feq hcs).1) (XS.aloadN X2.here hx rfl (hb hby d3_33) rfl rfl (XS.iloadN X2.here hx rfl (hb hby d3_34) rfl (XS.iloadN X2.here hx rfl (hb hby d3_35) rfl k))))) ?_
 refine own_stat (W := 0) X2 hx hZ hown e2 (ow hw 20 rfl) (ow hw 21 rfl) (rmc5 l Z a0 hw [] a2 k2 c0 c1 c2 c3 h0 n0 Z0 O0 S__assertionsDisabled S_HI_BYTE_SHIFT S_LO_BYTE_SHIFT V_a2 hch0 hch1 hch2 hch3) (ow hw 23 rfl) (ow hw 22 rfl) rfl (by rw [hml]; rfl) rfl (hb hby d3_36) (lenOf pd___CII__B rfl) rfl (by decide) (fun T3 v3 Ll3 X3 hQ3 => ?_)
 obtain ⟨b_3, kb_3, rfl, N3q, K3, P3_0, P3_1⟩ := hQ3
 have N3 := Fr.app N0 N3q
 have Zs4 : n0 ≤ T3.heap.size := Nat.le_trans Z0 K3.1
 rcases P3_1 with ⟨Vq, hq⟩ | Vq
 · skip
   refine own_go (b := (T3.setTop (mkF m 45 #[rv a1, rv a2, iv (0 : Int32), iv (4 : Int32), .val .null, rv b_3] [(.int (4 : Int32)), (.ref b_3), (.ref a1)]))) (fun _ k => XS.astore X3.here hx rfl (hb hby d3_39) rfl rfl (l' := #[rv a1, rv a2, iv (0 : Int32), iv (4 : Int32), .val .null, rv b_3]) rfl (XS.aloadN X3.here hx rfl (hb hby d3_41) rfl rfl (XS.aload X3.here hx rfl (hb hby d3_42) rfl rfl (XS.iloadN X3.here hx rfl (hb hby d3_44) rfl k)))) ?_
   refine own_stat (W := 1) X3 hx hZ hown rfl (ow hw 28 rfl) (ow hw 29 rfl) (rmcd4 l Z a0 hw [] b_3 kb_3 (own_lt c0) (own_lt c1) (own_lt c2) (own_lt c3) T3.heap n0 Zs4 Vq) (ow hw 30 rfl) (ow hw 22 rfl) rfl (by rw [hml]; rfl) rfl (hb hby d3_45) (lenOf pd___BI_B rfl) rfl (by decide) (fun T5 v5 Ll5 X5 hQ5 => ?_)
   obtain ⟨rfl, N5q, eh5⟩ := hQ5
   have N5 := Fr.app N3 N5q
   have F6 := E_a1.keep K3
   have F7 := Fld_a1_coder.keep K3 nin0
   obtain ⟨T8, h8, X8, e8, W8, st8⟩ := putFN X5 hx hZ hown (ow hw 31 rfl) Via.refl eh5 F7 F6 (Or.inr ⟨(ow hw 32 rfl), rfl, hnm⟩) (ow hw 7 rfl) (ty := .byte) (v' := (.int (0 : Int32))) (by decide) rfl (by decide) (g := (mkF m 48 #[rv a1, rv a2, iv (0 : Int32), iv (4 : Int32), .val .null, rv b_3] [(.int (0 : Int32)), (.ref a1)])) rfl rfl (hb hby d3_48)
   have N8 := Fr.snoc X8 N5 g_a1
   have Zs9 : n0 ≤ h8.size := Nat.le_trans Zs4 (Keep.of_wr W8).1
   have F8 : Fld Z h8 a1 "java/lang/String" "coder" "B" (.int (0 : Int32)) := F7.same W8
   refine own_go (b := (T8.setTop (mkF m 54 #[rv a1, rv a2, iv (0 : Int32), iv (4 : Int32), .val .null, rv b_3] [(.ref b_3), (.ref a1)]))) (fun _ k => st8 _ (XS.aloadN X8.here hx rfl (hb hby d3_51) rfl rfl (XS.aload X8.here hx rfl (hb hby d3_52) rfl rfl k))) ?_
   have F10 := F6.wr W8
   have F11 := Fld_a1_value.keep K3 nin0
   have F12 := F11.other W8 (Or.inr (slot_ne (Or.inr (ow hw 34 rfl)) (Or.inr (ow hw 32 rfl)) (by decide) (t := (.array .byte)) (t' := .byte) (by decide) (by decide)))
   obtain ⟨T13, h13, X13, e13, W13, st13⟩ := putF X8 hx hZ hown (host := "") (Or.inl (ow hw 33 rfl)) Via.refl e8 F12 F10 (Or.inr ⟨(ow hw 34 rfl), rfl, hnm⟩) (ow hw 7 rfl) (ty := (.array .byte)) (by decide) rfl rfl (g := (mkF m 54 #[rv a1, rv a2, iv (0 : Int32), iv (4 : Int32), .val .null, rv b_3] [(.ref b_3), (.ref a1)])) rfl rfl (hb hby d3_54)
   have N13 := Fr.snoc X13 N8 g_a1
   have Zs14 : n0 ≤ h13.size := Nat.le_trans Zs9 (Keep.of_wr W13).1
   have F13 : Fld Z h13 a1 "java/lang/String" "value" "[B" (.ref b_3) := F12.same W13
   refine own_go (b := (T13.setTop (mkF m 57 #[rv a1, rv a2, iv (0 : Int32), iv (4 : Int32), .val .null, rv b_3] []))) (fun _ k => st13 _ k) ?_
   have F15 := F10.wr W13
   have F16 := F8.other W13 (Or.inr (slot_ne (Or.inr (ow hw 32 rfl)) (Or.inr (ow hw 34 rfl)) (by decide) (t := .byte) (t' := (.array .byte)) (by decide) (by decide)))
   have nx17 : b_3 ≠ a1 := (Ne.symm (own_ne E_a1.lt (Nat.le_refl _) P3_0))
   have F18 := Vq.other W8 nx17
   have F19 := F18.other W13 nx17
   have K20 := (Keep.refl h0 [a1]).trans K3 all0
   have K21 := K20.wr W8 (Or.inl (List.mem_of_getElem? (i := 0) rfl))
   have K22 := K21.wr W13 (Or.inl (List.mem_of_getElem? (i := 0) rfl))
   obtain ⟨fs, hr, hrun, hended, hW, hsame⟩ := X13.leave (v := none) (fun _ => rfl)
   exact ⟨_, _, X13.returnOut hx Bd.returns (hb hby d3_57) hr, hrun, hended, _, _, rfl, (show Qrms3 Z a1 a2 k2 c0 c1 c2 c3 cs h0 n0 _ T13.heap _ from (by rw [e13]; exact ⟨rfl, N13, K22, ⟨⟨hch0, hch1, hch2, hch3⟩, b_3, kb_3, F15, F13, Or.inl ⟨F16, F19, hq⟩⟩⟩)), ⟨_, rfl⟩, hW, hsame.mono (by decide) (by decide)⟩
 · skip
   refine own_go (b := (T3.setTop (mkF m 45 #[rv a1, rv a2, iv (0 : Int32), iv (4 : Int32), .val .null, rv b_3] [(.int (4 : Int32)), (.ref b_3), (.ref a1)]))) (fun _ k => XS.astore X3.here hx rfl (hb hby d3_39) rfl rfl (l' := #[rv a1, rv a2, iv (0 : Int32), iv (4 : Int32), .val .null, rv b_3]) rfl (XS.aloadN X3.here hx rfl (hb hby d3_41) rfl rfl (XS.aload X3.here hx rfl (hb hby d3_42) rfl rfl (XS.iloadN X3.here hx rfl (hb hby d3_44) rfl k)))) ?_
   refine own_stat (W := 1) X3 hx hZ hown rfl (ow hw 28 rfl) (ow hw 29 rfl) (rmcd8 l Z a0 hw [] b_3 kb_3 (own_lo c0) (own_hi c0) (own_lo c1) (own_hi c1) (own_lo c2) (own_hi c2) (own_lo c3) (own_hi c3) T3.heap n0 Zs4 Vq) (ow hw 30 rfl) (ow hw 22 rfl) rfl (by rw [hml]; rfl) rfl (hb hby d3_45) (lenOf pd___BI_B rfl) rfl (by decide) (fun T23 v23 Ll23 X23 hQ23 => ?_)
   obtain ⟨rfl, N23q, eh23⟩ := hQ23
   have N23 := Fr.app N3 N23q
   have F24 := E_a1.keep K3
   have F25 := Fld_a1_coder.keep K3 nin0
   obtain ⟨T26, h26, X26, e26, W26, st26⟩ := putFN X23 hx hZ hown (ow hw 31 rfl) Via.refl eh23 F25 F24 (Or.inr ⟨(ow hw 32 rfl), rfl, hnm⟩) (ow hw 7 rfl) (ty := .byte) (v' := (.int (1 : Int32))) (by decide) rfl (by decide) (g := (mkF m 48 #[rv a1, rv a2, iv (0 : Int32), iv (4 : Int32), .val .null, rv b_3] [(.int (1 : Int32)), (.ref a1)])) rfl rfl (hb hby d3_48)
   have N26 := Fr.snoc X26 N23 g_a1
   have Zs27 : n0 ≤ h26.size := Nat.le_trans Zs4 (Keep.of_wr W26).1
   have F26 : Fld Z h26 a1 "java/lang/String" "coder" "B" (.int (1 : Int32)) := F25.same W26
   refine own_go (b := (T26.setTop (mkF m 54 #[rv a1, rv a2, iv (0 : Int32), iv (4 : Int32), .val .null, rv b_3] [(.ref b_3), (.ref a1)]))) (fun _ k => st26 _ (XS.aloadN X26.here hx rfl (hb hby d3_51) rfl rfl (XS.aload X26.here hx rfl (hb hby d3_52) rfl rfl k))) ?_
   have F28 := F24.wr W26
   have F29 := Fld_a1_value.keep K3 nin0
   have F30 := F29.other W26 (Or.inr (slot_ne (Or.inr (ow hw 34 rfl)) (Or.inr (ow hw 32 rfl)) (by decide) (t := (.array .byte)) (t' := .byte) (by decide) (by decide)))
   obtain ⟨T31, h31, X31, e31, W31, st31⟩ := putF X26 hx hZ hown (host := "") (Or.inl (ow hw 33 rfl)) Via.refl e26 F30 F28 (Or.inr ⟨(ow hw 34 rfl), rfl, hnm⟩) (ow hw 7 rfl) (ty := (.array .byte)) (by decide) rfl rfl (g := (mkF m 54 #[rv a1, rv a2, iv (0 : Int32), iv (4 : Int32), .val .null, rv b_3] [(.ref b_3), (.ref a1)])) rfl rfl (hb hby d3_54)
   have N31 := Fr.snoc X31 N26 g_a1
   have Zs32 : n0 ≤ h31.size := Nat.le_trans Zs27 (Keep.of_wr W31).1
   have F31 : Fld Z h31 a1 "java/lang/String" "value" "[B" (.ref b_3) := F30.same W31
   refine own_go (b := (T31.setTop (mkF m 57 #[rv a1, rv a2, iv (0 : Int32), iv (4 : Int32), .val .null, rv b_3] []))) (fun _ k => st31 _ k) ?_
   have F33 := F28.wr W31
   have F34 := F26.other W31 (Or.inr (slot_ne (Or.inr (ow hw 32 rfl)) (Or.inr (ow hw 34 rfl)) (by decide) (t := .byte) (t' := (.array .byte)) (by decide) (by decide)))
   have nx35 : b_3 ≠ a1 := (Ne.symm (own_ne E_a1.lt (Nat.le_refl _) P3_0))
   have F36 := Vq.other W26 nx35
   have F37 := F36.other W31 nx35
   have K38 := (Keep.refl h0 [a1]).trans K3 all0
   have K39 := K38.wr W26 (Or.inl (List.mem_of_getElem? (i := 0) rfl))
   have K40 := K39.wr W31 (Or.inl (List.mem_of_getElem? (i := 0) rfl))
   obtain ⟨fs, hr, hrun, hended, hW, hsame⟩ := X31.leave (v := none) (fun _ => rfl)
   exact ⟨_, _, X31.returnOut hx Bd.returns (hb hby d3_57) hr, hrun, hended, _, _, rfl, (show Qrms3 Z a1 a2 k2 c0 c1 c2 c3 cs h0 n0 _ T31.heap _ from (by rw [e31]; exact ⟨rfl, N31, K40, ⟨⟨hch0, hch1, hch2, hch3⟩, b_3, kb_3, F33, F31, Or.inr ⟨F34, F37⟩⟩⟩)), ⟨_, rfl⟩, hW, hsame.mono (by decide) (by decide)⟩
theorem d2_0 : decode jdk_42_method_3_code 0 = .ok (.aload_n 0, 1) := by decide +kernel
theorem d2_1 : decode jdk_42_method_3_code 1 = .ok (.aload_n 1, 1) := by decide +kernel
theorem d2_2 : decode jdk_42_method_3_code 2 = .ok (.iconst 0, 1) := by decide +kernel
theorem d2_3 : decode jdk_42_method_3_code 3 = .ok (.aload_n 1, 1) := by decide +kernel
theorem d2_4 : decode jdk_42_method_3_code 4 = .ok (.arraylength, 1) := by decide +kernel
theorem d2_5 : decode jdk_42_method_3_code 5 = .ok (.aconst_null, 1) := by decide +kernel
theorem d2_6 : decode jdk_42_method_3_code 6 = .ok (.invokespecial 27, 3) := by decide +kernel
theorem d2_9 : decode jdk_42_method_3_code 9 = .ok (.return_, 1) := by decide +kernel
theorem pd___CIILjava_lang_Void__V : parseMethodDescriptor "([CIILjava/lang/Void;)V" = some ⟨[(.array .char), .int, .int, (.object "java/lang/Void")], none⟩ := by decide +kernel
theorem pn_2 : plainName "java/lang/String" = true := by first | (simp [plainName, overriddenIn]; done) | decide +kernel
theorem ef_rms2 (m : MethodId) (x0 : Addr) (x1 : Addr) : entryFrame m #[(.ref x0), (.ref x1)] 2 = mkF m 0 #[rv x0, rv x1] [] := by first | (simp [entryFrame, mkF, argsToLocals, Value.category]; done) | rfl
def Qrms2 (Z : State) (a1 : Addr) (a2 : Addr) (k2 : ClassId) (c0 : Int32) (c1 : Int32) (c2 : Int32) (c3 : Int32) (cs : Int32) (h0 : Heap) (n0 : Nat) (v : Option Value) (h : Heap) (L : List Loc) : Prop := v = none ∧ Fr n0 L ∧ Keep h0 h [a1] ∧ (own_str Z h a1 c0 c1 c2 c3)
set_option maxRecDepth 65536 in
set_option maxHeartbeats 40000000 in
theorem rms2 (l : Launch) (Z : State) (a0 : Array Value) (hw : ∀ d ∈ tables_1, d.before a0 Z = true) (ws : List Jvm.Cond) (a1 : Addr) (a2 : Addr) (k2 : ClassId) (c0 : Int32) (c1 : Int32) (c2 : Int32) (c3 : Int32) (cs : Int32) (h0 : Heap) (n0 : Nat) (Z0 : n0 ≤ h0.size) (O0 : Old Z n0 h0) (S_COMPACT_STRINGS : Sta Z Z.heap "java/lang/String" "COMPACT_STRINGS" "Z" (.int cs)) (hcs : ¬ (cs = (0 : Int32))) (S__assertionsDisabled : Sta Z Z.heap "java/lang/StringUTF16" "$assertionsDisabled" "Z" (.int (1 : Int32))) (S_HI_BYTE_SHIFT : Sta Z Z.heap "java/lang/StringUTF16" "HI_BYTE_SHIFT" "I" (.int (0 : Int32))) (S_LO_BYTE_SHIFT : Sta Z Z.heap "java/lang/StringUTF16" "LO_BYTE_SHIFT" "I" (.int (8 : Int32))) (E_a1 : Exa Z h0 a1 "java/lang/String") (Fld_a1_value : Fld Z h0 a1 "java/lang/String" "value" "[B" .null) (Fld_a1_coder : Fld Z h0 a1 "java/lang/String" "coder" "B" (.int (0 : Int32))) (g_a1 : n0 ≤ a1) (V_a2 : Arv Z h0 a2 k2 .char (4 : Int32) [(.int c0), (.int c1), (.int c2), (.int c3)] (.int (0 : Int32))) (hch0 : own_ch c0) (hch1 : own_ch c1) (hch2 : own_ch c2) (hch3 : own_ch c3) :
    MetFree l (⟨"java/lang/String", "<init>", "([C)V"⟩ : MethodName) (head1 (Jvm.Cond.code (⟨"java/lang/String", "<init>", "([C)V"⟩ : MethodName) jdk_42_method_3_code 2 none :: ws) ({ frames := 5, cells := 2, slots := 12, locals := 74 } : Room)) (fun a U => a = #[(.ref a1), (.ref a2)] ∧ Z.Warmed39 U.vm ∧ U.heap = h0) (fun _ _ _ _ _ => True) (fun _ U o U' => ∃ v L, o = .returned v ∧ Qrms2 Z a1 a2 k2 c0 c1 c2 c3 cs h0 n0 v U'.heap L ∧ FrameEnd U o U' L ({ frames := 5, cells := 2, slots := 12, locals := 74 } : Room).cells ({ frames := 5, cells := 2, slots := 12, locals := 74 } : Room).slots) := by
 refine MetFree.of_bodySF (plainFor_of_name pn_2) hisR ?_
 intro p e s m args below meth c s₁ Bd hml0 hP hK
 obtain ⟨rfl, hZ, hh⟩ := hP
 have hx := Bd.exec
 have hby := Bd.bytes
 have hml : c.maxLocals = 2 := hml0
 have hown : s.vm.findClass "java/lang/String" = some m.cls := findClass_of_methodNamed Bd.named
 have hnm := (name_of_methodNamed Bd.named Bd.method).1
 have X0 : Stand p l e ({ frames := 5, cells := 2, slots := 12, locals := 74 } : Room) s m #[(.ref a1), (.ref a2)] below meth c s₁ [] 0 0 := Stand.of_body Bd
 have e0 : s₁.heap = h0 := by rw [← hh, Bd.state]; rfl
 have N0 := Fr.nil n0
 refine own_go (b := (s₁.setTop (mkF m 0 #[rv a1, rv a2] []))) (fun _ k => castTop (ef_rms2 m a1 a2) k) ?_
 refine own_go (b := (s₁.setTop (mkF m 4 #[rv a1, rv a2] [(.ref a2), (.int (0 : Int32)), (.ref a2), (.ref a1)]))) (fun _ k => XS.aloadN X0.here hx rfl (hb hby d2_0) rfl rfl (XS.aloadN X0.here hx rfl (hb hby d2_1) rfl rfl (XS.iconst X0.here hx rfl (hb hby d2_2) (XS.aloadN X0.here hx rfl (hb hby d2_3) rfl rfl k)))) ?_
 obtain ⟨cl1, Ar1, -, Sz1, Nn1, -, -⟩ := id V_a2
 refine own_go (b := (s₁.setTop (mkF m 6 #[rv a1, rv a2] [.null, (.int (4 : Int32)), (.int (0 : Int32)), (.ref a2), (.ref a1)]))) (fun _ k => X0.arraylength hx (by rw [e0]; exact Ar1.1) (State.isArrayOf_alike hZ.alike Ar1.2.1) (g := (mkF m 4 #[rv a1, rv a2] [(.ref a2), (.int (0 : Int32)), (.ref a2), (.ref a1)])) rfl rfl (hb hby d2_4) _ (by rw [len_of Sz1 Nn1]; exact (XS.aconstNull X0.here hx rfl (hb hby d2_5) k))) ?_
 refine own_spec (W := 0) X0 hx hZ hown e0 (ow hw 12 rfl) (ow hw 13 rfl) (rms3 l Z a0 hw [] a1 a2 k2 c0 c1 c2 c3 cs h0 n0 Z0 O0 S_COMPACT_STRINGS hcs S__assertionsDisabled S_HI_BYTE_SHIFT S_LO_BYTE_SHIFT E_a1 Fld_a1_value Fld_a1_coder g_a1 V_a2 hch0 hch1 hch2 hch3) (ow hw 15 rfl) (ow hw 8 rfl) rfl (by rw [hml]; rfl) rfl (hb hby d2_6) (lenOf pd___CIILjava_lang_Void__V rfl) rfl rfl (by decide) (fun T2 v2 Ll2 X2 hQ2 => ?_)
 obtain ⟨rfl, N2q, K2, P2_0⟩ := hQ2
 have N2 := Fr.app N0 N2q
 have Zs3 : n0 ≤ T2.heap.size := Nat.le_trans Z0 K2.1
 have K4 := (Keep.refl h0 [a1]).trans K2 (allS (Or.inl (List.mem_of_getElem? (i := 0) rfl)) all0)
 obtain ⟨fs, hr, hrun, hended, hW, hsame⟩ := X2.leave (v := none) (fun _ => rfl)
 exact ⟨_, _, X2.returnOut hx Bd.returns (hb hby d2_9) hr, hrun, hended, _, _, rfl, (show Qrms2 Z a1 a2 k2 c0 c1 c2 c3 cs h0 n0 _ T2.heap _ from (by exact ⟨rfl, N2, K4, P2_0⟩)), ⟨_, rfl⟩, hW, hsame.mono (by decide) (by decide)⟩
theorem d11_0 : decode jdk_42_method_154_code 0 = .ok (.getstatic 38, 3) := by decide +kernel
theorem d11_3 : decode jdk_42_method_154_code 3 = .ok (.ifCond .eq 14, 3) := by decide +kernel
theorem d11_6 : decode jdk_42_method_154_code 6 = .ok (.aload_n 0, 1) := by decide +kernel
theorem d11_7 : decode jdk_42_method_154_code 7 = .ok (.getfield 15, 3) := by decide +kernel
theorem d11_10 : decode jdk_42_method_154_code 10 = .ok (.ifCond .ne 7, 3) := by decide +kernel
theorem d11_13 : decode jdk_42_method_154_code 13 = .ok (.iconst 1, 1) := by decide +kernel
theorem d11_14 : decode jdk_42_method_154_code 14 = .ok (.goto 4, 3) := by decide +kernel
theorem d11_17 : decode jdk_42_method_154_code 17 = .ok (.iconst 0, 1) := by decide +kernel
theorem d11_18 : decode jdk_42_method_154_code 18 = .ok (.ireturn, 1) := by decide +kernel
theorem pn_11 : plainName "java/lang/String" = true := by first | (simp [plainName, overriddenIn]; done) | decide +kernel
theorem ef_rmil0 (m : MethodId) (x0 : Addr) : entryFrame m #[(.ref x0)] 1 = mkF m 0 #[rv x0] [] := by first | (simp [entryFrame, mkF, argsToLocals, Value.category]; done) | rfl
def Qrmil0 (Z : State) (a1 : Addr) (cs : Int32) (h0 : Heap) (n0 : Nat) (v : Option Value) (h : Heap) (L : List Loc) : Prop := v = some (.int (1 : Int32)) ∧ Fr n0 L ∧ h = h0
set_option maxRecDepth 65536 in
set_option maxHeartbeats 40000000 in
theorem rmil0 (l : Launch) (Z : State) (a0 : Array Value) (hw : ∀ d ∈ tables_1, d.before a0 Z = true) (ws : List Jvm.Cond) (a1 : Addr) (cs : Int32) (h0 : Heap) (n0 : Nat) (Z0 : n0 ≤ h0.size) (O0 : Old Z n0 h0) (S_COMPACT_STRINGS : Sta Z Z.heap "java/lang/String" "COMPACT_STRINGS" "Z" (.int cs)) (hcs : ¬ (cs = (0 : Int32))) (Fld_a1_coder : Fld Z h0 a1 "java/lang/String" "coder" "B" (.int (0 : Int32))) :
    MetFree l mn9 (head1 (Jvm.Cond.code mn9 jdk_42_method_154_code 1 (some .boolean) :: ws) ({ frames := 0, cells := 0, slots := 0, locals := 0 } : Room)) (fun a U => a = #[(.ref a1)] ∧ Z.Warmed39 U.vm ∧ U.heap = h0) (fun _ _ _ _ _ => True) (fun _ U o U' => ∃ v L, o = .returned v ∧ Qrmil0 Z a1 cs h0 n0 v U'.heap L ∧ FrameEnd U o U' L ({ frames := 0, cells := 0, slots := 0, locals := 0 } : Room).cells ({ frames := 0, cells := 0, slots := 0, locals := 0 } : Room).slots) := by
 refine MetFree.of_bodySF (plainFor_of_name pn_11) hisR ?_
 intro p e s m args below meth c s₁ Bd hml0 hP hK
 obtain ⟨rfl, hZ, hh⟩ := hP
 have hx := Bd.exec
 have hby := Bd.bytes
 have hml : c.maxLocals = 1 := hml0
 have hown : s.vm.findClass "java/lang/String" = some m.cls := findClass_of_methodNamed Bd.named
 have hnm := (name_of_methodNamed Bd.named Bd.method).1
 have X0 : Stand p l e ({ frames := 0, cells := 0, slots := 0, locals := 0 } : Room) s m #[(.ref a1)] below meth c s₁ [] 0 0 := Stand.of_body Bd
 have e0 : s₁.heap = h0 := by rw [← hh, Bd.state]; rfl
 have N0 := Fr.nil n0
 refine own_go (b := (s₁.setTop (mkF m 0 #[rv a1] []))) (fun _ k => castTop (ef_rmil0 m a1) k) ?_
 obtain ⟨T1, X1, e1, st1⟩ := getS2 X0 hx hZ hown (host := "") (Or.inl (ow hw 19 rfl)) Via.refl e0 (S_COMPACT_STRINGS.ext O0.2) (g := (mkF m 0 #[rv a1] [])) rfl (hb hby d11_0)
 refine own_go (b := (T1.setTop (mkF m 7 #[rv a1] [(.ref a1)]))) (fun _ k => st1 _ (XS.ifNo X1.here hx rfl (hb hby d11_3) rfl ((if0 _ _).trans (feq hcs).1) (XS.aloadN X1.here hx rfl (hb hby d11_6) rfl rfl k))) ?_
 refine own_getf X1 hx hZ hown (ow hw 31 rfl) Via.refl e1 Fld_a1_coder rfl rfl (hb hby d11_7) (fun T2 X2 e2 => ?_)
 refine own_go (b := (T2.setTop (mkF m 18 #[rv a1] [(.int (1 : Int32))]))) (fun _ k => XS.ifNo X2.here hx rfl (hb hby d11_10) rfl ((if0 _ _).trans (teq (rfl : (0 : Int32) = (0 : Int32))).2) (XS.iconst X2.here hx rfl (hb hby d11_13) (XS.goto X2.here hx rfl (pc0 := 14) (pc' := 18) rfl (hb hby d11_14) (by decide) (by decide) k))) ?_
 obtain ⟨fs, hr, hrun, hended, hW, hsame⟩ := X2.leave (v := some (.int (1 : Int32))) (fun h => by rw [Bd.returns] at h; cases h)
 exact ⟨_, _, retN X2 hx (t := .boolean) Bd.returns (by simp) (hb hby d11_18) hr, hrun, hended, _, _, rfl, (show Qrmil0 Z a1 cs h0 n0 _ T2.heap _ from (by rw [e2]; exact ⟨rfl, N0, rfl⟩)), ⟨_, rfl⟩, hW, hsame.mono (by decide) (by decide)⟩
theorem ef_rmil1 (m : MethodId) (x0 : Addr) : entryFrame m #[(.ref x0)] 1 = mkF m 0 #[rv x0] [] := by first | (simp [entryFrame, mkF, argsToLocals, Value.category]; done) | rfl
def Qrmil1 (Z : State) (a1 : Addr) (cs : Int32) (h0 : Heap) (n0 : Nat) (v : Option Value) (h : Heap) (L : List Loc) : Prop := v = some (.int (0 : Int32)) ∧ Fr n0 L ∧ h = h0
set_option maxRecDepth 65536 in
set_option maxHeartbeats 40000000 in
theorem rmil1 (l : Launch) (Z : State) (a0 : Array Value) (hw : ∀ d ∈ tables_1, d.before a0 Z = true) (ws : List Jvm.Cond) (a1 : Addr) (cs : Int32) (h0 : Heap) (n0 : Nat) (Z0 : n0 ≤ h0.size) (O0 : Old Z n0 h0) (S_COMPACT_STRINGS : Sta Z Z.heap "java/lang/String" "COMPACT_STRINGS" "Z" (.int cs)) (hcs : ¬ (cs = (0 : Int32))) (Fld_a1_coder : Fld Z h0 a1 "java/lang/String" "coder" "B" (.int (1 : Int32))) :
    MetFree l mn9 (head1 (Jvm.Cond.code mn9 jdk_42_method_154_code 1 (some .boolean) :: ws) ({ frames := 0, cells := 0, slots := 0, locals := 0 } : Room)) (fun a U => a = #[(.ref a1)] ∧ Z.Warmed39 U.vm ∧ U.heap = h0) (fun _ _ _ _ _ => True) (fun _ U o U' => ∃ v L, o = .returned v ∧ Qrmil1 Z a1 cs h0 n0 v U'.heap L ∧ FrameEnd U o U' L ({ frames := 0, cells := 0, slots := 0, locals := 0 } : Room).cells ({ frames := 0, cells := 0, slots := 0, locals := 0 } : Room).slots) := by
 refine MetFree.of_bodySF (plainFor_of_name pn_11) hisR ?_
 intro p e s m args below meth c s₁ Bd hml0 hP hK
 obtain ⟨rfl, hZ, hh⟩ := hP
 have hx := Bd.exec
 have hby := Bd.bytes
 have hml : c.maxLocals = 1 := hml0
 have hown : s.vm.findClass "java/lang/String" = some m.cls := findClass_of_methodNamed Bd.named
 have hnm := (name_of_methodNamed Bd.named Bd.method).1
 have X0 : Stand p l e ({ frames := 0, cells := 0, slots := 0, locals := 0 } : Room) s m #[(.ref a1)] below meth c s₁ [] 0 0 := Stand.of_body Bd
 have e0 : s₁.heap = h0 := by rw [← hh, Bd.state]; rfl
 have N0 := Fr.nil n0
 refine own_go (b := (s₁.setTop (mkF m 0 #[rv a1] []))) (fun _ k => castTop (ef_rmil1 m a1) k) ?_
 obtain ⟨T1, X1, e1, st1⟩ := getS2 X0 hx hZ hown (host := "") (Or.inl (ow hw 19 rfl)) Via.refl e0 (S_COMPACT_STRINGS.ext O0.2) (g := (mkF m 0 #[rv a1] [])) rfl (hb hby d11_0)
 refine own_go (b := (T1.setTop (mkF m 7 #[rv a1] [(.ref a1)]))) (fun _ k => st1 _ (XS.ifNo X1.here hx rfl (hb hby d11_3) rfl ((if0 _ _).trans (feq hcs).1) (XS.aloadN X1.here hx rfl (hb hby d11_6) rfl rfl k))) ?_
 refine own_getf X1 hx hZ hown (ow hw 31 rfl) Via.refl e1 Fld_a1_coder rfl rfl (hb hby d11_7) (fun T2 X2 e2 => ?_)
 refine own_go (b := (T2.setTop (mkF m 18 #[rv a1] [(.int (0 : Int32))]))) (fun _ k => XS.ifYes X2.here hx rfl (pc0 := 10) (pc' := 17) rfl (hb hby d11_10) rfl ((if0 _ _).trans (feq (by decide : ¬ ((1 : Int32) = (0 : Int32)))).2) (by decide) (by decide) (XS.iconst X2.here hx rfl (hb hby d11_17) k)) ?_
 obtain ⟨fs, hr, hrun, hended, hW, hsame⟩ := X2.leave (v := some (.int (0 : Int32))) (fun h => by rw [Bd.returns] at h; cases h)
 exact ⟨_, _, retN X2 hx (t := .boolean) Bd.returns (by simp) (hb hby d11_18) hr, hrun, hended, _, _, rfl, (show Qrmil1 Z a1 cs h0 n0 _ T2.heap _ from (by rw [e2]; exact ⟨rfl, N0, rfl⟩)), ⟨_, rfl⟩, hW, hsame.mono (by decide) (by decide)⟩
theorem d14_0 : decode jdk_41_method_11_code 0 = .ok (.iload_n 0, 1) := by decide +kernel
theorem d14_1 : decode jdk_41_method_11_code 1 = .ok (.ifCond .lt 8, 3) := by decide +kernel
theorem d14_4 : decode jdk_41_method_11_code 4 = .ok (.iload_n 0, 1) := by decide +kernel
theorem d14_5 : decode jdk_41_method_11_code 5 = .ok (.iload_n 1, 1) := by decide +kernel
theorem d14_6 : decode jdk_41_method_11_code 6 = .ok (.if_icmp .lt 10, 3) := by decide +kernel
theorem d14_9 : decode jdk_41_method_11_code 9 = .ok (.aload_n 2, 1) := by decide +kernel
theorem d14_10 : decode jdk_41_method_11_code 10 = .ok (.iload_n 0, 1) := by decide +kernel
theorem d14_11 : decode jdk_41_method_11_code 11 = .ok (.iload_n 1, 1) := by decide +kernel
theorem d14_12 : decode jdk_41_method_11_code 12 = .ok (.invokestatic 95, 3) := by decide +kernel
theorem d14_15 : decode jdk_41_method_11_code 15 = .ok (.athrow, 1) := by decide +kernel
theorem d14_16 : decode jdk_41_method_11_code 16 = .ok (.iload_n 0, 1) := by decide +kernel
theorem d14_17 : decode jdk_41_method_11_code 17 = .ok (.ireturn, 1) := by decide +kernel
theorem pn_14 : plainName cs2 = true := by first | (simp [plainName, overriddenIn]; done) | decide +kernel
theorem ef_rmpn (m : MethodId) (x0 : Int32) (x1 : Int32) : entryFrame m #[(.int x0), (.int x1), .null] 3 = mkF m 0 #[iv x0, iv x1, .val .null] [] := by first | (simp [entryFrame, mkF, argsToLocals, Value.category]; done) | rfl
def Qrmpn (Z : State) (ij : Int32) (nn : Int32) (h0 : Heap) (n0 : Nat) (v : Option Value) (h : Heap) (L : List Loc) : Prop := v = some (.int ij) ∧ Fr n0 L ∧ h = h0
set_option maxRecDepth 65536 in
set_option maxHeartbeats 40000000 in
theorem rmpn (l : Launch) (Z : State) (a0 : Array Value) (hw : ∀ d ∈ tables_1, d.before a0 Z = true) (ws : List Jvm.Cond) (ij : Int32) (nn : Int32) (h0 : Heap) (n0 : Nat) (Z0 : n0 ≤ h0.size) (hp0 : ¬ (ij < (0 : Int32))) (hp1 : ij < nn) :
    MetFree l mn7 (head1 (Jvm.Cond.code mn7 jdk_41_method_11_code 3 (some .int) :: ws) ({ frames := 0, cells := 0, slots := 0, locals := 0 } : Room)) (fun a U => a = #[(.int ij), (.int nn), .null] ∧ Z.Warmed39 U.vm ∧ U.heap = h0) (fun _ _ _ _ _ => True) (fun _ U o U' => ∃ v L, o = .returned v ∧ Qrmpn Z ij nn h0 n0 v U'.heap L ∧ FrameEnd U o U' L ({ frames := 0, cells := 0, slots := 0, locals := 0 } : Room).cells ({ frames := 0, cells := 0, slots := 0, locals := 0 } : Room).slots) := by
 refine MetFree.of_bodySF (plainFor_of_name pn_14) hisR ?_
 intro p e s m args below meth c s₁ Bd hml0 hP hK
 obtain ⟨rfl, hZ, hh⟩ := hP
 have hx := Bd.exec
 have hby := Bd.bytes
 have hml : c.maxLocals = 3 := hml0
 have hown : s.vm.findClass cs2 = some m.cls := findClass_of_methodNamed Bd.named
 have hnm := (name_of_methodNamed Bd.named Bd.method).1
 have X0 : Stand p l e ({ frames := 0, cells := 0, slots := 0, locals := 0 } : Room) s m #[(.int ij), (.int nn), .null] below meth c s₁ [] 0 0 := Stand.of_body Bd
 have e0 : s₁.heap = h0 := by rw [← hh, Bd.state]; rfl
 have N0 := Fr.nil n0
 refine own_go (b := (s₁.setTop (mkF m 0 #[iv ij, iv nn, .val .null] []))) (fun _ k => castTop (ef_rmpn m ij nn) k) ?_
 refine own_go (b := (s₁.setTop (mkF m 17 #[iv ij, iv nn, .val .null] [(.int ij)]))) (fun _ k => XS.iloadN X0.here hx rfl (hb hby d14_0) rfl (XS.ifNo X0.here hx rfl (hb hby d14_1) rfl ((if0 _ _).trans (flt hp0).1) (XS.iloadN X0.here hx rfl (hb hby d14_4) rfl (XS.iloadN X0.here hx rfl (hb hby d14_5) rfl (XS.icmpYes X0.here hx rfl (pc0 := 6) (pc' := 16) rfl (hb hby d14_6) rfl (tlt hp1).1 (by decide) (by decide) (XS.iloadN X0.here hx rfl (hb hby d14_16) rfl k)))))) ?_
 obtain ⟨fs, hr, hrun, hended, hW, hsame⟩ := X0.leave (v := some (.int ij)) (fun h => by rw [Bd.returns] at h; cases h)
 exact ⟨_, _, retOut X0 hx Bd.returns rfl (Or.inl ⟨rfl, Or.inl rfl, _, rfl⟩) (hb hby d14_17) hr, hrun, hended, _, _, rfl, (show Qrmpn Z ij nn h0 n0 _ s₁.heap _ from (by rw [e0]; exact ⟨rfl, N0, rfl⟩)), ⟨_, rfl⟩, hW, hsame.mono (by decide) (by decide)⟩
theorem ef_rmpr (m : MethodId) (x0 : Int32) (x1 : Int32) (x2 : Addr) : entryFrame m #[(.int x0), (.int x1), (.ref x2)] 3 = mkF m 0 #[iv x0, iv x1, rv x2] [] := by first | (simp [entryFrame, mkF, argsToLocals, Value.category]; done) | rfl
def Qrmpr (Z : State) (ij : Int32) (nn : Int32) (xf : Addr) (h0 : Heap) (n0 : Nat) (v : Option Value) (h : Heap) (L : List Loc) : Prop := v = some (.int ij) ∧ Fr n0 L ∧ h = h0
set_option maxRecDepth 65536 in
set_option maxHeartbeats 40000000 in
theorem rmpr (l : Launch) (Z : State) (a0 : Array Value) (hw : ∀ d ∈ tables_1, d.before a0 Z = true) (ws : List Jvm.Cond) (ij : Int32) (nn : Int32) (xf : Addr) (h0 : Heap) (n0 : Nat) (Z0 : n0 ≤ h0.size) (hp0 : ¬ (ij < (0 : Int32))) (hp1 : ij < nn) :
    MetFree l mn7 (head1 (Jvm.Cond.code mn7 jdk_41_method_11_code 3 (some .int) :: ws) ({ frames := 0, cells := 0, slots := 0, locals := 0 } : Room)) (fun a U => a = #[(.int ij), (.int nn), (.ref xf)] ∧ Z.Warmed39 U.vm ∧ U.heap = h0) (fun _ _ _ _ _ => True) (fun _ U o U' => ∃ v L, o = .returned v ∧ Qrmpr Z ij nn xf h0 n0 v U'.heap L ∧ FrameEnd U o U' L ({ frames := 0, cells := 0, slots := 0, locals := 0 } : Room).cells ({ frames := 0, cells := 0, slots := 0, locals := 0 } : Room).slots) := by
 refine MetFree.of_bodySF (plainFor_of_name pn_14) hisR ?_
 intro p e s m args below meth c s₁ Bd hml0 hP hK
 obtain ⟨rfl, hZ, hh⟩ := hP
 have hx := Bd.exec
 have hby := Bd.bytes
 have hml : c.maxLocals = 3 := hml0
 have hown : s.vm.findClass cs2 = some m.cls := findClass_of_methodNamed Bd.named
 have hnm := (name_of_methodNamed Bd.named Bd.method).1
 have X0 : Stand p l e ({ frames := 0, cells := 0, slots := 0, locals := 0 } : Room) s m #[(.int ij), (.int nn), (.ref xf)] below meth c s₁ [] 0 0 := Stand.of_body Bd
 have e0 : s₁.heap = h0 := by rw [← hh, Bd.state]; rfl
 have N0 := Fr.nil n0
 refine own_go (b := (s₁.setTop (mkF m 0 #[iv ij, iv nn, rv xf] []))) (fun _ k => castTop (ef_rmpr m ij nn xf) k) ?_
 refine own_go (b := (s₁.setTop (mkF m 17 #[iv ij, iv nn, rv xf] [(.int ij)]))) (fun _ k => XS.iloadN X0.here hx rfl (hb hby d14_0) rfl (XS.ifNo X0.here hx rfl (hb hby d14_1) rfl ((if0 _ _).trans (flt hp0).1) (XS.iloadN X0.here hx rfl (hb hby d14_4) rfl (XS.iloadN X0.here hx rfl (hb hby d14_5) rfl (XS.icmpYes X0.here hx rfl (pc0 := 6) (pc' := 16) rfl (hb hby d14_6) rfl (tlt hp1).1 (by decide) (by decide) (XS.iloadN X0.here hx rfl (hb hby d14_16) rfl k)))))) ?_
 obtain ⟨fs, hr, hrun, hended, hW, hsame⟩ := X0.leave (v := some (.int ij)) (fun h => by rw [Bd.returns] at h; cases h)
 exact ⟨_, _, retOut X0 hx Bd.returns rfl (Or.inl ⟨rfl, Or.inl rfl, _, rfl⟩) (hb hby d14_17) hr, hrun, hended, _, _, rfl, (show Qrmpr Z ij nn xf h0 n0 _ s₁.heap _ from (by rw [e0]; exact ⟨rfl, N0, rfl⟩)), ⟨_, rfl⟩, hW, hsame.mono (by decide) (by decide)⟩
theorem d13_0 : decode jdk_42_method_155_code 0 = .ok (.iload_n 0, 1) := by decide +kernel
theorem d13_1 : decode jdk_42_method_155_code 1 = .ok (.iload_n 1, 1) := by decide +kernel
theorem d13_2 : decode jdk_42_method_155_code 2 = .ok (.getstatic 1053, 3) := by decide +kernel
theorem d13_5 : decode jdk_42_method_155_code 5 = .ok (.invokestatic 1059, 3) := by decide +kernel
theorem d13_8 : decode jdk_42_method_155_code 8 = .ok (.pop, 1) := by decide +kernel
theorem d13_9 : decode jdk_42_method_155_code 9 = .ok (.return_, 1) := by decide +kernel
theorem pd__IILjava_util_function_BiFunction__I : parseMethodDescriptor "(IILjava/util/function/BiFunction;)I" = some ⟨[.int, .int, (.object "java/util/function/BiFunction")], some .int⟩ := by decide +kernel
theorem pn_13 : plainName "java/lang/String" = true := by first | (simp [plainName, overriddenIn]; done) | decide +kernel
theorem ef_rmci (m : MethodId) (x0 : Int32) (x1 : Int32) : entryFrame m #[(.int x0), (.int x1)] 2 = mkF m 0 #[iv x0, iv x1] [] := by first | (simp [entryFrame, mkF, argsToLocals, Value.category]; done) | rfl
def Qrmci (Z : State) (ij : Int32) (nn : Int32) (fv : Value) (h0 : Heap) (n0 : Nat) (v : Option Value) (h : Heap) (L : List Loc) : Prop := v = none ∧ Fr n0 L ∧ h = h0
set_option maxRecDepth 65536 in
set_option maxHeartbeats 40000000 in
theorem rmci (l : Launch) (Z : State) (a0 : Array Value) (hw : ∀ d ∈ tables_1, d.before a0 Z = true) (ws : List Jvm.Cond) (ij : Int32) (nn : Int32) (fv : Value) (h0 : Heap) (n0 : Nat) (Z0 : n0 ≤ h0.size) (O0 : Old Z n0 h0) (S_SIOOBE_FORMATTER : Sta Z Z.heap cs2 "SIOOBE_FORMATTER" "Ljava/util/function/BiFunction;" fv) (hfv : fv = .null ∨ ∃ x : Addr, fv = .ref x) (hp0 : ¬ (ij < (0 : Int32))) (hp1 : ij < nn) :
    MetFree l (⟨"java/lang/String", "checkIndex", "(II)V"⟩ : MethodName) (head1 (Jvm.Cond.code (⟨"java/lang/String", "checkIndex", "(II)V"⟩ : MethodName) jdk_42_method_155_code 2 none :: ws) ({ frames := 1, cells := 0, slots := 0, locals := 14 } : Room)) (fun a U => a = #[(.int ij), (.int nn)] ∧ Z.Warmed39 U.vm ∧ U.heap = h0) (fun _ _ _ _ _ => True) (fun _ U o U' => ∃ v L, o = .returned v ∧ Qrmci Z ij nn fv h0 n0 v U'.heap L ∧ FrameEnd U o U' L ({ frames := 1, cells := 0, slots := 0, locals := 14 } : Room).cells ({ frames := 1, cells := 0, slots := 0, locals := 14 } : Room).slots) := by
 refine MetFree.of_bodySF (plainFor_of_name pn_13) hisR ?_
 intro p e s m args below meth c s₁ Bd hml0 hP hK
 obtain ⟨rfl, hZ, hh⟩ := hP
 have hx := Bd.exec
 have hby := Bd.bytes
 have hml : c.maxLocals = 2 := hml0
 have hown : s.vm.findClass "java/lang/String" = some m.cls := findClass_of_methodNamed Bd.named
 have hnm := (name_of_methodNamed Bd.named Bd.method).1
 have X0 : Stand p l e ({ frames := 1, cells := 0, slots := 0, locals := 14 } : Room) s m #[(.int ij), (.int nn)] below meth c s₁ [] 0 0 := Stand.of_body Bd
 have e0 : s₁.heap = h0 := by rw [← hh, Bd.state]; rfl
 have N0 := Fr.nil n0
 refine own_go (b := (s₁.setTop (mkF m 0 #[iv ij, iv nn] []))) (fun _ k => castTop (ef_rmci m ij nn) k) ?_
 rcases hfv with hf | ⟨xf, hf⟩
 · rw [hf] at S_SIOOBE_FORMATTER
   refine own_go (b := (s₁.setTop (mkF m 2 #[iv ij, iv nn] [(.int nn), (.int ij)]))) (fun _ k => XS.iloadN X0.here hx rfl (hb hby d13_0) rfl (XS.iloadN X0.here hx rfl (hb hby d13_1) rfl k)) ?_
   obtain ⟨T1, X1, e1, st1⟩ := getS2 X0 hx hZ hown (host := "") (Or.inl (ow hw 60 rfl)) Via.refl e0 (S_SIOOBE_FORMATTER.ext O0.2) (g := (mkF m 2 #[iv ij, iv nn] [(.int nn), (.int ij)])) rfl (hb hby d13_2)
   refine own_go (b := (T1.setTop (mkF m 5 #[iv ij, iv nn] [.null, (.int nn), (.int ij)]))) (fun _ k => st1 _ k) ?_
   refine own_stat (W := 0) X1 hx hZ hown e1 (ow hw 62 rfl) (ow hw 63 rfl) (rmpn l Z a0 hw [] ij nn h0 n0 Z0 hp0 hp1) (ow hw 64 rfl) (ow hw 61 rfl) rfl (by rw [hml]; rfl) rfl (hb hby d13_5) (lenOf pd__IILjava_util_function_BiFunction__I rfl) rfl (by decide) (fun T2 v2 Ll2 X2 hQ2 => ?_)
   obtain ⟨rfl, N2q, eh2⟩ := hQ2
   have N2 := Fr.app N0 N2q
   refine own_go (b := (T2.setTop (mkF m 9 #[iv ij, iv nn] []))) (fun _ k => XS.pop X2.here hx rfl (hb hby d13_8) rfl rfl k) ?_
   obtain ⟨fs, hr, hrun, hended, hW, hsame⟩ := X2.leave (v := none) (fun _ => rfl)
   exact ⟨_, _, X2.returnOut hx Bd.returns (hb hby d13_9) hr, hrun, hended, _, _, rfl, (show Qrmci Z ij nn fv h0 n0 _ T2.heap _ from (by rw [eh2]; exact ⟨rfl, N2, rfl⟩)), ⟨_, rfl⟩, hW, hsame.mono (by decide) (by decide)⟩
 · rw [hf] at S_SIOOBE_FORMATTER
   refine own_go (b := (s₁.setTop (mkF m 2 #[iv ij, iv nn] [(.int nn), (.int ij)]))) (fun _ k => XS.iloadN X0.here hx rfl (hb hby d13_0) rfl (XS.iloadN X0.here hx rfl (hb hby d13_1) rfl k)) ?_
   obtain ⟨T3, X3, e3, st3⟩ := getS2 X0 hx hZ hown (host := "") (Or.inl (ow hw 60 rfl)) Via.refl e0 (S_SIOOBE_FORMATTER.ext O0.2) (g := (mkF m 2 #[iv ij, iv nn] [(.int nn), (.int ij)])) rfl (hb hby d13_2)
   refine own_go (b := (T3.setTop (mkF m 5 #[iv ij, iv nn] [(.ref xf), (.int nn), (.int ij)]))) (fun _ k => st3 _ k) ?_
   refine own_stat (W := 0) X3 hx hZ hown e3 (ow hw 62 rfl) (ow hw 63 rfl) (rmpr l Z a0 hw [] ij nn xf h0 n0 Z0 hp0 hp1) (ow hw 64 rfl) (ow hw 61 rfl) rfl (by rw [hml]; rfl) rfl (hb hby d13_5) (lenOf pd__IILjava_util_function_BiFunction__I rfl) rfl (by decide) (fun T4 v4 Ll4 X4 hQ4 => ?_)
   obtain ⟨rfl, N4q, eh4⟩ := hQ4
   have N4 := Fr.app N0 N4q
   refine own_go (b := (T4.setTop (mkF m 9 #[iv ij, iv nn] []))) (fun _ k => XS.pop X4.here hx rfl (hb hby d13_8) rfl rfl k) ?_
   obtain ⟨fs, hr, hrun, hended, hW, hsame⟩ := X4.leave (v := none) (fun _ => rfl)
   exact ⟨_, _, X4.returnOut hx Bd.returns (hb hby d13_9) hr, hrun, hended, _, _, rfl, (show Qrmci Z ij nn fv h0 n0 _ T4.heap _ from (by rw [eh4]; exact ⟨rfl, N4, rfl⟩)), ⟨_, rfl⟩, hW, hsame.mono (by decide) (by decide)⟩
theorem d22_0 : decode jdk_52_method_6_code 0 = .ok (.aload_n 0, 1) := by decide +kernel
theorem d22_1 : decode jdk_52_method_6_code 1 = .ok (.arraylength, 1) := by decide +kernel
theorem d22_2 : decode jdk_52_method_6_code 2 = .ok (.iconst 1, 1) := by decide +kernel
theorem d22_3 : decode jdk_52_method_6_code 3 = .ok (.ishr, 1) := by decide +kernel
theorem d22_4 : decode jdk_52_method_6_code 4 = .ok (.ireturn, 1) := by decide +kernel
theorem pn_22 : plainName "java/lang/StringUTF16" = true := by first | (simp [plainName, overriddenIn]; done) | decide +kernel
theorem ef_rmul (m : MethodId) (x0 : Addr) : entryFrame m #[(.ref x0)] 1 = mkF m 0 #[rv x0] [] := by first | (simp [entryFrame, mkF, argsToLocals, Value.category]; done) | rfl
def Qrmul (Z : State) (a3 : Addr) (k3 : ClassId) (x0 : Int32) (x1 : Int32) (x2 : Int32) (x3 : Int32) (x4 : Int32) (x5 : Int32) (x6 : Int32) (x7 : Int32) (h0 : Heap) (n0 : Nat) (v : Option Value) (h : Heap) (L : List Loc) : Prop := v = some (.int (4 : Int32)) ∧ Fr n0 L ∧ h = h0
set_option maxRecDepth 65536 in
set_option maxHeartbeats 40000000 in
theorem rmul (l : Launch) (Z : State) (a0 : Array Value) (hw : ∀ d ∈ tables_1, d.before a0 Z = true) (ws : List Jvm.Cond) (a3 : Addr) (k3 : ClassId) (x0 : Int32) (x1 : Int32) (x2 : Int32) (x3 : Int32) (x4 : Int32) (x5 : Int32) (x6 : Int32) (x7 : Int32) (h0 : Heap) (n0 : Nat) (Z0 : n0 ≤ h0.size) (V_a3 : Arv Z h0 a3 k3 .byte (8 : Int32) [(.int x0), (.int x1), (.int x2), (.int x3), (.int x4), (.int x5), (.int x6), (.int x7)] (.int (0 : Int32))) :
    MetFree l (⟨"java/lang/StringUTF16", "length", "([B)I"⟩ : MethodName) (head1 (Jvm.Cond.code (⟨"java/lang/StringUTF16", "length", "([B)I"⟩ : MethodName) jdk_52_method_6_code 1 (some .int) :: ws) ({ frames := 0, cells := 0, slots := 0, locals := 0 } : Room)) (fun a U => a = #[(.ref a3)] ∧ Z.Warmed39 U.vm ∧ U.heap = h0) (fun _ _ _ _ _ => True) (fun _ U o U' => ∃ v L, o = .returned v ∧ Qrmul Z a3 k3 x0 x1 x2 x3 x4 x5 x6 x7 h0 n0 v U'.heap L ∧ FrameEnd U o U' L ({ frames := 0, cells := 0, slots := 0, locals := 0 } : Room).cells ({ frames := 0, cells := 0, slots := 0, locals := 0 } : Room).slots) := by
 refine MetFree.of_bodySF (plainFor_of_name pn_22) hisR ?_
 intro p e s m args below meth c s₁ Bd hml0 hP hK
 obtain ⟨rfl, hZ, hh⟩ := hP
 have hx := Bd.exec
 have hby := Bd.bytes
 have hml : c.maxLocals = 1 := hml0
 have hown : s.vm.findClass "java/lang/StringUTF16" = some m.cls := findClass_of_methodNamed Bd.named
 have hnm := (name_of_methodNamed Bd.named Bd.method).1
 have X0 : Stand p l e ({ frames := 0, cells := 0, slots := 0, locals := 0 } : Room) s m #[(.ref a3)] below meth c s₁ [] 0 0 := Stand.of_body Bd
 have e0 : s₁.heap = h0 := by rw [← hh, Bd.state]; rfl
 have N0 := Fr.nil n0
 refine own_go (b := (s₁.setTop (mkF m 0 #[rv a3] []))) (fun _ k => castTop (ef_rmul m a3) k) ?_
 refine own_go (b := (s₁.setTop (mkF m 1 #[rv a3] [(.ref a3)]))) (fun _ k => XS.aloadN X0.here hx rfl (hb hby d22_0) rfl rfl k) ?_
 obtain ⟨cl1, Ar1, -, Sz1, Nn1, -, -⟩ := id V_a3
 refine own_go (b := (s₁.setTop (mkF m 4 #[rv a3] [(.int (4 : Int32))]))) (fun _ k => X0.arraylength hx (by rw [e0]; exact Ar1.1) (State.isArrayOf_alike hZ.alike Ar1.2.1) (g := (mkF m 1 #[rv a3] [(.ref a3)])) rfl rfl (hb hby d22_1) _ (by rw [len_of Sz1 Nn1]; exact (XS.iconst X0.here hx rfl (hb hby d22_2) (XS.ishr X0.here hx rfl (hb hby d22_3) rfl k)))) ?_
 obtain ⟨fs, hr, hrun, hended, hW, hsame⟩ := X0.leave (v := some (.int (4 : Int32))) (fun h => by rw [Bd.returns] at h; cases h)
 exact ⟨_, _, retOut X0 hx Bd.returns rfl (Or.inl ⟨rfl, Or.inl rfl, _, rfl⟩) (hb hby d22_4) hr, hrun, hended, _, _, rfl, (show Qrmul Z a3 k3 x0 x1 x2 x3 x4 x5 x6 x7 h0 n0 _ s₁.heap _ from (by rw [e0]; exact ⟨rfl, N0, rfl⟩)), ⟨_, rfl⟩, hW, hsame.mono (by decide) (by decide)⟩
theorem d21_0 : decode jdk_52_method_91_code 0 = .ok (.iload_n 0, 1) := by decide +kernel
theorem d21_1 : decode jdk_52_method_91_code 1 = .ok (.aload_n 1, 1) := by decide +kernel
theorem d21_2 : decode jdk_52_method_91_code 2 = .ok (.invokestatic 48, 3) := by decide +kernel
theorem d21_5 : decode jdk_52_method_91_code 5 = .ok (.invokestatic 414, 3) := by decide +kernel
theorem d21_8 : decode jdk_52_method_91_code 8 = .ok (.return_, 1) := by decide +kernel
theorem pd___B_I : parseMethodDescriptor "([B)I" = some ⟨[(.array .byte)], some .int⟩ := by decide +kernel
theorem pd__II_V : parseMethodDescriptor "(II)V" = some ⟨[.int, .int], none⟩ := by decide +kernel
theorem pn_21 : plainName "java/lang/StringUTF16" = true := by first | (simp [plainName, overriddenIn]; done) | decide +kernel
theorem ef_rmuc (m : MethodId) (x0 : Int32) (x1 : Addr) : entryFrame m #[(.int x0), (.ref x1)] 2 = mkF m 0 #[iv x0, rv x1] [] := by first | (simp [entryFrame, mkF, argsToLocals, Value.category]; done) | rfl
def Qrmuc (Z : State) (ij : Int32) (a3 : Addr) (k3 : ClassId) (x0 : Int32) (x1 : Int32) (x2 : Int32) (x3 : Int32) (x4 : Int32) (x5 : Int32) (x6 : Int32) (x7 : Int32) (fv : Value) (h0 : Heap) (n0 : Nat) (v : Option Value) (h : Heap) (L : List Loc) : Prop := v = none ∧ Fr n0 L ∧ h = h0
set_option maxRecDepth 65536 in
set_option maxHeartbeats 40000000 in
theorem rmuc (l : Launch) (Z : State) (a0 : Array Value) (hw : ∀ d ∈ tables_1, d.before a0 Z = true) (ws : List Jvm.Cond) (ij : Int32) (a3 : Addr) (k3 : ClassId) (x0 : Int32) (x1 : Int32) (x2 : Int32) (x3 : Int32) (x4 : Int32) (x5 : Int32) (x6 : Int32) (x7 : Int32) (fv : Value) (h0 : Heap) (n0 : Nat) (Z0 : n0 ≤ h0.size) (O0 : Old Z n0 h0) (S_SIOOBE_FORMATTER : Sta Z Z.heap cs2 "SIOOBE_FORMATTER" "Ljava/util/function/BiFunction;" fv) (hfv : fv = .null ∨ ∃ x : Addr, fv = .ref x) (V_a3 : Arv Z h0 a3 k3 .byte (8 : Int32) [(.int x0), (.int x1), (.int x2), (.int x3), (.int x4), (.int x5), (.int x6), (.int x7)] (.int (0 : Int32))) (hp0 : ¬ (ij < (0 : Int32))) (hp1 : ij < (4 : Int32)) :
    MetFree l (⟨"java/lang/StringUTF16", "checkIndex", "(I[B)V"⟩ : MethodName) (head1 (Jvm.Cond.code (⟨"java/lang/StringUTF16", "checkIndex", "(I[B)V"⟩ : MethodName) jdk_52_method_91_code 2 none :: ws) ({ frames := 2, cells := 0, slots := 0, locals := 27 } : Room)) (fun a U => a = #[(.int ij), (.ref a3)] ∧ Z.Warmed39 U.vm ∧ U.heap = h0) (fun _ _ _ _ _ => True) (fun _ U o U' => ∃ v L, o = .returned v ∧ Qrmuc Z ij a3 k3 x0 x1 x2 x3 x4 x5 x6 x7 fv h0 n0 v U'.heap L ∧ FrameEnd U o U' L ({ frames := 2, cells := 0, slots := 0, locals := 27 } : Room).cells ({ frames := 2, cells := 0, slots := 0, locals := 27 } : Room).slots) := by
 refine MetFree.of_bodySF (plainFor_of_name pn_21) hisR ?_
 intro p e s m args below meth c s₁ Bd hml0 hP hK
 obtain ⟨rfl, hZ, hh⟩ := hP
 have hx := Bd.exec
 have hby := Bd.bytes
 have hml : c.maxLocals = 2 := hml0
 have hown : s.vm.findClass "java/lang/StringUTF16" = some m.cls := findClass_of_methodNamed Bd.named
 have hnm := (name_of_methodNamed Bd.named Bd.method).1
 have X0 : Stand p l e ({ frames := 2, cells := 0, slots := 0, locals := 27 } : Room) s m #[(.int ij), (.ref a3)] below meth c s₁ [] 0 0 := Stand.of_body Bd
 have e0 : s₁.heap = h0 := by rw [← hh, Bd.state]; rfl
 have N0 := Fr.nil n0
 refine own_go (b := (s₁.setTop (mkF m 0 #[iv ij, rv a3] []))) (fun _ k => castTop (ef_rmuc m ij a3) k) ?_
 refine own_go (b := (s₁.setTop (mkF m 2 #[iv ij, rv a3] [(.ref a3), (.int ij)]))) (fun _ k => XS.iloadN X0.here hx rfl (hb hby d21_0) rfl (XS.aloadN X0.here hx rfl (hb hby d21_1) rfl rfl k)) ?_
 refine own_stat (W := 1) X0 hx hZ hown e0 (ow hw 90 rfl) (ow hw 91 rfl) (rmul l Z a0 hw [] a3 k3 x0 x1 x2 x3 x4 x5 x6 x7 h0 n0 Z0 V_a3) (ow hw 92 rfl) (ow hw 22 rfl) rfl (by rw [hml]; rfl) rfl (hb hby d21_2) (lenOf pd___B_I rfl) rfl (by decide) (fun T1 v1 Ll1 X1 hQ1 => ?_)
 obtain ⟨rfl, N1q, eh1⟩ := hQ1
 have N1 := Fr.app N0 N1q
 refine own_stat (W := 0) X1 hx hZ hown eh1 (ow hw 93 rfl) (ow hw 58 rfl) (rmci l Z a0 hw [] ij (4 : Int32) fv h0 n0 Z0 O0 S_SIOOBE_FORMATTER hfv hp0 hp1) (ow hw 59 rfl) (ow hw 8 rfl) rfl (by rw [hml]; rfl) rfl (hb hby d21_5) (lenOf pd__II_V rfl) rfl (by decide) (fun T2 v2 Ll2 X2 hQ2 => ?_)
 obtain ⟨rfl, N2q, eh2⟩ := hQ2
 have N2 := Fr.app N1 N2q
 obtain ⟨fs, hr, hrun, hended, hW, hsame⟩ := X2.leave (v := none) (fun _ => rfl)
 exact ⟨_, _, X2.returnOut hx Bd.returns (hb hby d21_8) hr, hrun, hended, _, _, rfl, (show Qrmuc Z ij a3 k3 x0 x1 x2 x3 x4 x5 x6 x7 fv h0 n0 _ T2.heap _ from (by rw [eh2]; exact ⟨rfl, N2, rfl⟩)), ⟨_, rfl⟩, hW, hsame.mono (by decide) (by decide)⟩
theorem d20_0 : decode jdk_52_method_83_code 0 = .ok (.iload_n 1, 1) := by decide +kernel
theorem d20_1 : decode jdk_52_method_83_code 1 = .ok (.aload_n 0, 1) := by decide +kernel
theorem d20_2 : decode jdk_52_method_83_code 2 = .ok (.invokestatic 67, 3) := by decide +kernel
theorem d20_5 : decode jdk_52_method_83_code 5 = .ok (.aload_n 0, 1) := by decide +kernel
theorem d20_6 : decode jdk_52_method_83_code 6 = .ok (.iload_n 1, 1) := by decide +kernel
theorem d20_7 : decode jdk_52_method_83_code 7 = .ok (.invokestatic 71, 3) := by decide +kernel
theorem d20_10 : decode jdk_52_method_83_code 10 = .ok (.ireturn, 1) := by decide +kernel
theorem pd__I_B_V : parseMethodDescriptor "(I[B)V" = some ⟨[.int, (.array .byte)], none⟩ := by decide +kernel
theorem pn_20 : plainName "java/lang/StringUTF16" = true := by first | (simp [plainName, overriddenIn]; done) | decide +kernel
theorem ef_rmua0 (m : MethodId) (x0 : Addr) (x1 : Int32) : entryFrame m #[(.ref x0), (.int x1)] 2 = mkF m 0 #[rv x0, iv x1] [] := by first | (simp [entryFrame, mkF, argsToLocals, Value.category]; done) | rfl
def Qrmua0 (Z : State) (a3 : Addr) (k3 : ClassId) (x0 : Int32) (x1 : Int32) (x2 : Int32) (x3 : Int32) (x4 : Int32) (x5 : Int32) (x6 : Int32) (x7 : Int32) (fv : Value) (h0 : Heap) (n0 : Nat) (v : Option Value) (h : Heap) (L : List Loc) : Prop := v = some (.int (own_gc x0 x1)) ∧ Fr n0 L ∧ h = h0
set_option maxRecDepth 65536 in
set_option maxHeartbeats 40000000 in
theorem rmua0 (l : Launch) (Z : State) (a0 : Array Value) (hw : ∀ d ∈ tables_1, d.before a0 Z = true) (ws : List Jvm.Cond) (a3 : Addr) (k3 : ClassId) (x0 : Int32) (x1 : Int32) (x2 : Int32) (x3 : Int32) (x4 : Int32) (x5 : Int32) (x6 : Int32) (x7 : Int32) (fv : Value) (h0 : Heap) (n0 : Nat) (Z0 : n0 ≤ h0.size) (O0 : Old Z n0 h0) (S_SIOOBE_FORMATTER : Sta Z Z.heap cs2 "SIOOBE_FORMATTER" "Ljava/util/function/BiFunction;" fv) (hfv : fv = .null ∨ ∃ x : Addr, fv = .ref x) (S__assertionsDisabled : Sta Z Z.heap "java/lang/StringUTF16" "$assertionsDisabled" "Z" (.int (1 : Int32))) (S_HI_BYTE_SHIFT : Sta Z Z.heap "java/lang/StringUTF16" "HI_BYTE_SHIFT" "I" (.int (0 : Int32))) (S_LO_BYTE_SHIFT : Sta Z Z.heap "java/lang/StringUTF16" "LO_BYTE_SHIFT" "I" (.int (8 : Int32))) (V_a3 : Arv Z h0 a3 k3 .byte (8 : Int32) [(.int x0), (.int x1), (.int x2), (.int x3), (.int x4), (.int x5), (.int x6), (.int x7)] (.int (0 : Int32))) :
    MetFree l mn5 (head1 (Jvm.Cond.code mn5 jdk_52_method_83_code 2 (some .char) :: ws) ({ frames := 3, cells := 0, slots := 0, locals := 40 } : Room)) (fun a U => a = #[(.ref a3), (.int (0 : Int32))] ∧ Z.Warmed39 U.vm ∧ U.heap = h0) (fun _ _ _ _ _ => True) (fun _ U o U' => ∃ v L, o = .returned v ∧ Qrmua0 Z a3 k3 x0 x1 x2 x3 x4 x5 x6 x7 fv h0 n0 v U'.heap L ∧ FrameEnd U o U' L ({ frames := 3, cells := 0, slots := 0, locals := 40 } : Room).cells ({ frames := 3, cells := 0, slots := 0, locals := 40 } : Room).slots) := by
 refine MetFree.of_bodySF (plainFor_of_name pn_20) hisR ?_
 intro p e s m args below meth c s₁ Bd hml0 hP hK
 obtain ⟨rfl, hZ, hh⟩ := hP
 have hx := Bd.exec
 have hby := Bd.bytes
 have hml : c.maxLocals = 2 := hml0
 have hown : s.vm.findClass "java/lang/StringUTF16" = some m.cls := findClass_of_methodNamed Bd.named
 have hnm := (name_of_methodNamed Bd.named Bd.method).1
 have X0 : Stand p l e ({ frames := 3, cells := 0, slots := 0, locals := 40 } : Room) s m #[(.ref a3), (.int (0 : Int32))] below meth c s₁ [] 0 0 := Stand.of_body Bd
 have e0 : s₁.heap = h0 := by rw [← hh, Bd.state]; rfl
 have N0 := Fr.nil n0
 refine own_go (b := (s₁.setTop (mkF m 0 #[rv a3, iv (0 : Int32)] []))) (fun _ k => castTop (ef_rmua0 m a3 (0 : Int32)) k) ?_
 refine own_go (b := (s₁.setTop (mkF m 2 #[rv a3, iv (0 : Int32)] [(.ref a3), (.int (0 : Int32))]))) (fun _ k => XS.iloadN X0.here hx rfl (hb hby d20_0) rfl (XS.aloadN X0.here hx rfl (hb hby d20_1) rfl rfl k)) ?_
 refine own_stat (W := 0) X0 hx hZ hown e0 (ow hw 87 rfl) (ow hw 88 rfl) (rmuc l Z a0 hw [] (0 : Int32) a3 k3 x0 x1 x2 x3 x4 x5 x6 x7 fv h0 n0 Z0 O0 S_SIOOBE_FORMATTER hfv V_a3 (by decide) (by decide)) (ow hw 89 rfl) (ow hw 22 rfl) rfl (by rw [hml]; rfl) rfl (hb hby d20_2) (lenOf pd__I_B_V rfl) rfl (by decide) (fun T1 v1 Ll1 X1 hQ1 => ?_)
 obtain ⟨rfl, N1q, eh1⟩ := hQ1
 have N1 := Fr.app N0 N1q
 refine own_go (b := (T1.setTop (mkF m 7 #[rv a3, iv (0 : Int32)] [(.int (0 : Int32)), (.ref a3)]))) (fun _ k => XS.aloadN X1.here hx rfl (hb hby d20_5) rfl rfl (XS.iloadN X1.here hx rfl (hb hby d20_6) rfl k)) ?_
 refine own_stat (W := 0) X1 hx hZ hown eh1 (ow hw 81 rfl) (ow hw 82 rfl) (rmget0 l Z a0 hw [] a3 k3 x0 x1 x2 x3 x4 x5 x6 x7 h0 n0 Z0 O0 S__assertionsDisabled S_HI_BYTE_SHIFT S_LO_BYTE_SHIFT V_a3) (ow hw 83 rfl) (ow hw 22 rfl) rfl (by rw [hml]; rfl) rfl (hb hby d20_7) (lenOf pd___BI_C rfl) rfl (by decide) (fun T2 v2 Ll2 X2 hQ2 => ?_)
 obtain ⟨rfl, N2q, eh2⟩ := hQ2
 have N2 := Fr.app N1 N2q
 obtain ⟨fs, hr, hrun, hended, hW, hsame⟩ := X2.leave (v := some (.int (nar .char (own_gc x0 x1)))) (fun h => by rw [Bd.returns] at h; cases h)
 exact ⟨_, _, retN X2 hx (t := .char) Bd.returns (by simp) (hb hby d20_10) hr, hrun, hended, _, _, rfl, (show Qrmua0 Z a3 k3 x0 x1 x2 x3 x4 x5 x6 x7 fv h0 n0 _ T2.heap _ from (by rw [eh2]; exact ⟨(congrArg (fun z => some (Value.int z)) (own_chn _)), N2, rfl⟩)), ⟨_, rfl⟩, hW, hsame.mono (by decide) (by decide)⟩
theorem d12_0 : decode jdk_43_method_2_code 0 = .ok (.iload_n 1, 1) := by decide +kernel
theorem d12_1 : decode jdk_43_method_2_code 1 = .ok (.aload_n 0, 1) := by decide +kernel
theorem d12_2 : decode jdk_43_method_2_code 2 = .ok (.arraylength, 1) := by decide +kernel
theorem d12_3 : decode jdk_43_method_2_code 3 = .ok (.invokestatic 9, 3) := by decide +kernel
theorem d12_6 : decode jdk_43_method_2_code 6 = .ok (.aload_n 0, 1) := by decide +kernel
theorem d12_7 : decode jdk_43_method_2_code 7 = .ok (.iload_n 1, 1) := by decide +kernel
theorem d12_8 : decode jdk_43_method_2_code 8 = .ok (.baload, 1) := by decide +kernel
theorem d12_9 : decode jdk_43_method_2_code 9 = .ok (.sipush 255, 3) := by decide +kernel
theorem d12_12 : decode jdk_43_method_2_code 12 = .ok (.iand, 1) := by decide +kernel
theorem d12_13 : decode jdk_43_method_2_code 13 = .ok (.i2c, 1) := by decide +kernel
theorem d12_14 : decode jdk_43_method_2_code 14 = .ok (.ireturn, 1) := by decide +kernel
theorem pn_12 : plainName "java/lang/StringLatin1" = true := by first | (simp [plainName, overriddenIn]; done) | decide +kernel
theorem ef_rmla0 (m : MethodId) (x0 : Addr) (x1 : Int32) : entryFrame m #[(.ref x0), (.int x1)] 2 = mkF m 0 #[rv x0, iv x1] [] := by first | (simp [entryFrame, mkF, argsToLocals, Value.category]; done) | rfl
def Qrmla0 (Z : State) (a3 : Addr) (k3 : ClassId) (x0 : Int32) (x1 : Int32) (x2 : Int32) (x3 : Int32) (fv : Value) (h0 : Heap) (n0 : Nat) (v : Option Value) (h : Heap) (L : List Loc) : Prop := v = some (.int (own_lc x0)) ∧ Fr n0 L ∧ h = h0
set_option maxRecDepth 65536 in
set_option maxHeartbeats 40000000 in
theorem rmla0 (l : Launch) (Z : State) (a0 : Array Value) (hw : ∀ d ∈ tables_1, d.before a0 Z = true) (ws : List Jvm.Cond) (a3 : Addr) (k3 : ClassId) (x0 : Int32) (x1 : Int32) (x2 : Int32) (x3 : Int32) (fv : Value) (h0 : Heap) (n0 : Nat) (Z0 : n0 ≤ h0.size) (O0 : Old Z n0 h0) (S_SIOOBE_FORMATTER : Sta Z Z.heap cs2 "SIOOBE_FORMATTER" "Ljava/util/function/BiFunction;" fv) (hfv : fv = .null ∨ ∃ x : Addr, fv = .ref x) (V_a3 : Arv Z h0 a3 k3 .byte (4 : Int32) [(.int x0), (.int x1), (.int x2), (.int x3)] (.int (0 : Int32))) :
    MetFree l mn4 (head1 (Jvm.Cond.code mn4 jdk_43_method_2_code 2 (some .char) :: ws) ({ frames := 2, cells := 0, slots := 0, locals := 27 } : Room)) (fun a U => a = #[(.ref a3), (.int (0 : Int32))] ∧ Z.Warmed39 U.vm ∧ U.heap = h0) (fun _ _ _ _ _ => True) (fun _ U o U' => ∃ v L, o = .returned v ∧ Qrmla0 Z a3 k3 x0 x1 x2 x3 fv h0 n0 v U'.heap L ∧ FrameEnd U o U' L ({ frames := 2, cells := 0, slots := 0, locals := 27 } : Room).cells ({ frames := 2, cells := 0, slots := 0, locals := 27 } : Room).slots) := by
 refine MetFree.of_bodySF (plainFor_of_name pn_12) hisR ?_
 intro p e s m args below meth c s₁ Bd hml0 hP hK
 obtain ⟨rfl, hZ, hh⟩ := hP
 have hx := Bd.exec
 have hby := Bd.bytes
 have hml : c.maxLocals = 2 := hml0
 have hown : s.vm.findClass "java/lang/StringLatin1" = some m.cls := findClass_of_methodNamed Bd.named
 have hnm := (name_of_methodNamed Bd.named Bd.method).1
 have X0 : Stand p l e ({ frames := 2, cells := 0, slots := 0, locals := 27 } : Room) s m #[(.ref a3), (.int (0 : Int32))] below meth c s₁ [] 0 0 := Stand.of_body Bd
 have e0 : s₁.heap = h0 := by rw [← hh, Bd.state]; rfl
 have N0 := Fr.nil n0
 refine own_go (b := (s₁.setTop (mkF m 0 #[rv a3, iv (0 : Int32)] []))) (fun _ k => castTop (ef_rmla0 m a3 (0 : Int32)) k) ?_
 refine own_go (b := (s₁.setTop (mkF m 2 #[rv a3, iv (0 : Int32)] [(.ref a3), (.int (0 : Int32))]))) (fun _ k => XS.iloadN X0.here hx rfl (hb hby d12_0) rfl (XS.aloadN X0.here hx rfl (hb hby d12_1) rfl rfl k)) ?_
 obtain ⟨cl1, Ar1, -, Sz1, Nn1, -, -⟩ := id V_a3
 refine own_go (b := (s₁.setTop (mkF m 3 #[rv a3, iv (0 : Int32)] [(.int (4 : Int32)), (.int (0 : Int32))]))) (fun _ k => X0.arraylength hx (by rw [e0]; exact Ar1.1) (State.isArrayOf_alike hZ.alike Ar1.2.1) (g := (mkF m 2 #[rv a3, iv (0 : Int32)] [(.ref a3), (.int (0 : Int32))])) rfl rfl (hb hby d12_2) _ (by rw [len_of Sz1 Nn1]; exact k)) ?_
 refine own_stat (W := 0) X0 hx hZ hown e0 (ow hw 57 rfl) (ow hw 58 rfl) (rmci l Z a0 hw [] (0 : Int32) (4 : Int32) fv h0 n0 Z0 O0 S_SIOOBE_FORMATTER hfv (by decide) (by decide)) (ow hw 59 rfl) (ow hw 8 rfl) rfl (by rw [hml]; rfl) rfl (hb hby d12_3) (lenOf pd__II_V rfl) rfl (by decide) (fun T2 v2 Ll2 X2 hQ2 => ?_)
 obtain ⟨rfl, N2q, eh2⟩ := hQ2
 have N2 := Fr.app N0 N2q
 refine own_go (b := (T2.setTop (mkF m 8 #[rv a3, iv (0 : Int32)] [(.int (0 : Int32)), (.ref a3)]))) (fun _ k => XS.aloadN X2.here hx rfl (hb hby d12_6) rfl rfl (XS.iloadN X2.here hx rfl (hb hby d12_7) rfl k)) ?_
 obtain ⟨cl3, Ar3, ql3, Sz3, Nn3, Hl3, Gl3⟩ := id V_a3
 have hin3 : ¬ ((0 : Int32) < 0 ∨ cl3.slots.size ≤ ((0 : Int32)).toNatClampNeg) := inb_of Sz3 ⟨by decide, by decide⟩
 refine own_go (b := (T2.setTop (mkF m 14 #[rv a3, iv (0 : Int32)] [(.int ((x0 &&& (255 : Int32)).toUInt32.toUInt16.toUInt32.toInt32))]))) (fun _ k => X2.baloadBytes hx (j := (0 : Int32)) (v := (.int x0)) (by rw [eh2]; exact Ar3.1) (State.isArrayOf_alike hZ.alike Ar3.2.1) Ar3.2.2 hin3 (Hl3.at hin3 rfl) (g := (mkF m 8 #[rv a3, iv (0 : Int32)] [(.int (0 : Int32)), (.ref a3)])) rfl rfl (hb hby d12_8) _ (XS.sipush X2.here hx rfl (hb hby d12_9) (XS.iand X2.here hx rfl (hb hby d12_12) rfl (XS.i2c X2.here hx rfl (hb hby d12_13) rfl k)))) ?_
 obtain ⟨fs, hr, hrun, hended, hW, hsame⟩ := X2.leave (v := some (.int (nar .char ((x0 &&& (255 : Int32)).toUInt32.toUInt16.toUInt32.toInt32)))) (fun h => by rw [Bd.returns] at h; cases h)
 exact ⟨_, _, retN X2 hx (t := .char) Bd.returns (by simp) (hb hby d12_14) hr, hrun, hended, _, _, rfl, (show Qrmla0 Z a3 k3 x0 x1 x2 x3 fv h0 n0 _ T2.heap _ from (by rw [eh2]; exact ⟨rfl, N2, rfl⟩)), ⟨_, rfl⟩, hW, hsame.mono (by decide) (by decide)⟩
theorem d10_0 : decode jdk_42_method_56_code 0 = .ok (.aload_n 0, 1) := by decide +kernel
theorem d10_1 : decode jdk_42_method_56_code 1 = .ok (.invokevirtual 492, 3) := by decide +kernel
theorem d10_4 : decode jdk_42_method_56_code 4 = .ok (.ifCond .eq 12, 3) := by decide +kernel
theorem d10_7 : decode jdk_42_method_56_code 7 = .ok (.aload_n 0, 1) := by decide +kernel
theorem d10_8 : decode jdk_42_method_56_code 8 = .ok (.getfield 9, 3) := by decide +kernel
theorem d10_11 : decode jdk_42_method_56_code 11 = .ok (.iload_n 1, 1) := by decide +kernel
theorem d10_12 : decode jdk_42_method_56_code 12 = .ok (.invokestatic 495, 3) := by decide +kernel
theorem d10_15 : decode jdk_42_method_56_code 15 = .ok (.ireturn, 1) := by decide +kernel
theorem d10_16 : decode jdk_42_method_56_code 16 = .ok (.aload_n 0, 1) := by decide +kernel
theorem d10_17 : decode jdk_42_method_56_code 17 = .ok (.getfield 9, 3) := by decide +kernel
theorem d10_20 : decode jdk_42_method_56_code 20 = .ok (.iload_n 1, 1) := by decide +kernel
theorem d10_21 : decode jdk_42_method_56_code 21 = .ok (.invokestatic 498, 3) := by decide +kernel
theorem d10_24 : decode jdk_42_method_56_code 24 = .ok (.ireturn, 1) := by decide +kernel
theorem pd___Z : parseMethodDescriptor "()Z" = some ⟨[], some .boolean⟩ := by decide +kernel
theorem pn_10 : plainName "java/lang/String" = true := by first | (simp [plainName, overriddenIn]; done) | decide +kernel
theorem ef_rmca0 (m : MethodId) (x0 : Addr) (x1 : Int32) : entryFrame m #[(.ref x0), (.int x1)] 2 = mkF m 0 #[rv x0, iv x1] [] := by first | (simp [entryFrame, mkF, argsToLocals, Value.category]; done) | rfl
def Qrmca0 (Z : State) (a1 : Addr) (c0 : Int32) (c1 : Int32) (c2 : Int32) (c3 : Int32) (cs : Int32) (fv : Value) (h0 : Heap) (n0 : Nat) (v : Option Value) (h : Heap) (L : List Loc) : Prop := v = some (.int c0) ∧ Fr n0 L ∧ h = h0
set_option maxRecDepth 65536 in
set_option maxHeartbeats 40000000 in
theorem rmca0 (l : Launch) (Z : State) (a0 : Array Value) (hw : ∀ d ∈ tables_1, d.before a0 Z = true) (ws : List Jvm.Cond) (a1 : Addr) (c0 : Int32) (c1 : Int32) (c2 : Int32) (c3 : Int32) (cs : Int32) (fv : Value) (h0 : Heap) (n0 : Nat) (Z0 : n0 ≤ h0.size) (O0 : Old Z n0 h0) (S_COMPACT_STRINGS : Sta Z Z.heap "java/lang/String" "COMPACT_STRINGS" "Z" (.int cs)) (hcs : ¬ (cs = (0 : Int32))) (S__assertionsDisabled : Sta Z Z.heap "java/lang/StringUTF16" "$assertionsDisabled" "Z" (.int (1 : Int32))) (S_HI_BYTE_SHIFT : Sta Z Z.heap "java/lang/StringUTF16" "HI_BYTE_SHIFT" "I" (.int (0 : Int32))) (S_LO_BYTE_SHIFT : Sta Z Z.heap "java/lang/StringUTF16" "LO_BYTE_SHIFT" "I" (.int (8 : Int32))) (S_SIOOBE_FORMATTER : Sta Z Z.heap cs2 "SIOOBE_FORMATTER" "Ljava/util/function/BiFunction;" fv) (hfv : fv = .null ∨ ∃ x : Addr, fv = .ref x) (own_str_a1 : own_str Z h0 a1 c0 c1 c2 c3) :
    MetFree l mn6 (head1 (Jvm.Cond.code mn6 jdk_42_method_56_code 2 (some .char) :: ws) ({ frames := 4, cells := 0, slots := 0, locals := 53 } : Room)) (fun a U => a = #[(.ref a1), (.int (0 : Int32))] ∧ Z.Warmed39 U.vm ∧ U.heap = h0) (fun _ _ _ _ _ => True) (fun _ U o U' => ∃ v L, o = .returned v ∧ Qrmca0 Z a1 c0 c1 c2 c3 cs fv h0 n0 v U'.heap L ∧ FrameEnd U o U' L ({ frames := 4, cells := 0, slots := 0, locals := 53 } : Room).cells ({ frames := 4, cells := 0, slots := 0, locals := 53 } : Room).slots) := by
 refine MetFree.of_bodySF (plainFor_of_name pn_10) hisR ?_
 intro p e s m args below meth c s₁ Bd hml0 hP hK
 obtain ⟨rfl, hZ, hh⟩ := hP
 have hx := Bd.exec
 have hby := Bd.bytes
 have hml : c.maxLocals = 2 := hml0
 have hown : s.vm.findClass "java/lang/String" = some m.cls := findClass_of_methodNamed Bd.named
 have hnm := (name_of_methodNamed Bd.named Bd.method).1
 have X0 : Stand p l e ({ frames := 4, cells := 0, slots := 0, locals := 53 } : Room) s m #[(.ref a1), (.int (0 : Int32))] below meth c s₁ [] 0 0 := Stand.of_body Bd
 have e0 : s₁.heap = h0 := by rw [← hh, Bd.state]; rfl
 have N0 := Fr.nil n0
 refine own_go (b := (s₁.setTop (mkF m 0 #[rv a1, iv (0 : Int32)] []))) (fun _ k => castTop (ef_rmca0 m a1 (0 : Int32)) k) ?_
 obtain ⟨⟨hch0, hch1, hch2, hch3⟩, b, kb, E_a1, Fv, hcd⟩ := own_str_a1
 rcases hcd with ⟨Fc, Vb, hn0, hn1, hn2, hn3⟩ | ⟨Fc, Vb⟩
 · skip
   refine own_go (b := (s₁.setTop (mkF m 1 #[rv a1, iv (0 : Int32)] [(.ref a1)]))) (fun _ k => XS.aloadN X0.here hx rfl (hb hby d10_0) rfl rfl k) ?_
   refine own_virt (W := 0) X0 hx hZ hown e0 (ow hw 48 rfl) (ow hw 49 rfl) (ow hw 51 rfl) (ow hw 50 rfl) (rmil0 l Z a0 hw [] a1 cs h0 n0 Z0 O0 S_COMPACT_STRINGS hcs Fc) (ow hw 52 rfl) (ow hw 8 rfl) E_a1 rfl (by rw [hml]; rfl) rfl (hb hby d10_1) (lenOf pd___Z rfl) rfl (by decide) (fun T1 v1 Ll1 X1 hQ1 => ?_)
   obtain ⟨rfl, N1q, eh1⟩ := hQ1
   have N1 := Fr.app N0 N1q
   refine own_go (b := (T1.setTop (mkF m 8 #[rv a1, iv (0 : Int32)] [(.ref a1)]))) (fun _ k => XS.ifNo X1.here hx rfl (hb hby d10_4) rfl ((if0 _ _).trans (feq (by decide : ¬ ((1 : Int32) = (0 : Int32)))).1) (XS.aloadN X1.here hx rfl (hb hby d10_7) rfl rfl k)) ?_
   refine own_getf X1 hx hZ hown (ow hw 33 rfl) Via.refl eh1 Fv rfl rfl (hb hby d10_8) (fun T2 X2 e2 => ?_)
   refine own_go (b := (T2.setTop (mkF m 12 #[rv a1, iv (0 : Int32)] [(.int (0 : Int32)), (.ref b)]))) (fun _ k => XS.iloadN X2.here hx rfl (hb hby d10_11) rfl k) ?_
   refine own_stat (W := 0) X2 hx hZ hown e2 (ow hw 53 rfl) (ow hw 54 rfl) (rmla0 l Z a0 hw [] b kb (own_lt c0) (own_lt c1) (own_lt c2) (own_lt c3) fv h0 n0 Z0 O0 S_SIOOBE_FORMATTER hfv Vb) (ow hw 56 rfl) (ow hw 55 rfl) rfl (by rw [hml]; rfl) rfl (hb hby d10_12) (lenOf pd___BI_C rfl) rfl (by decide) (fun T3 v3 Ll3 X3 hQ3 => ?_)
   obtain ⟨rfl, N3q, eh3⟩ := hQ3
   have N3 := Fr.app N1 N3q
   obtain ⟨fs, hr, hrun, hended, hW, hsame⟩ := X3.leave (v := some (.int (nar .char (own_lc (own_lt c0))))) (fun h => by rw [Bd.returns] at h; cases h)
   exact ⟨_, _, retN X3 hx (t := .char) Bd.returns (by simp) (hb hby d10_15) hr, hrun, hended, _, _, rfl, (show Qrmca0 Z a1 c0 c1 c2 c3 cs fv h0 n0 _ T3.heap _ from (by rw [eh3]; exact ⟨(congrArg (fun z => some (Value.int z)) ((own_chn _).trans (own_lce hch0 hn0))), N3, rfl⟩)), ⟨_, rfl⟩, hW, hsame.mono (by decide) (by decide)⟩
 · skip
   refine own_go (b := (s₁.setTop (mkF m 1 #[rv a1, iv (0 : Int32)] [(.ref a1)]))) (fun _ k => XS.aloadN X0.here hx rfl (hb hby d10_0) rfl rfl k) ?_
   refine own_virt (W := 0) X0 hx hZ hown e0 (ow hw 48 rfl) (ow hw 49 rfl) (ow hw 51 rfl) (ow hw 50 rfl) (rmil1 l Z a0 hw [] a1 cs h0 n0 Z0 O0 S_COMPACT_STRINGS hcs Fc) (ow hw 52 rfl) (ow hw 8 rfl) E_a1 rfl (by rw [hml]; rfl) rfl (hb hby d10_1) (lenOf pd___Z rfl) rfl (by decide) (fun T4 v4 Ll4 X4 hQ4 => ?_)
   obtain ⟨rfl, N4q, eh4⟩ := hQ4
   have N4 := Fr.app N0 N4q
   refine own_go (b := (T4.setTop (mkF m 17 #[rv a1, iv (0 : Int32)] [(.ref a1)]))) (fun _ k => XS.ifYes X4.here hx rfl (pc0 := 4) (pc' := 16) rfl (hb hby d10_4) rfl ((if0 _ _).trans (teq (rfl : (0 : Int32) = (0 : Int32))).1) (by decide) (by decide) (XS.aloadN X4.here hx rfl (hb hby d10_16) rfl rfl k)) ?_
   refine own_getf X4 hx hZ hown (ow hw 33 rfl) Via.refl eh4 Fv rfl rfl (hb hby d10_17) (fun T5 X5 e5 => ?_)
   refine own_go (b := (T5.setTop (mkF m 21 #[rv a1, iv (0 : Int32)] [(.int (0 : Int32)), (.ref b)]))) (fun _ k => XS.iloadN X5.here hx rfl (hb hby d10_20) rfl k) ?_
   refine own_stat (W := 0) X5 hx hZ hown e5 (ow hw 84 rfl) (ow hw 85 rfl) (rmua0 l Z a0 hw [] b kb (own_lo c0) (own_hi c0) (own_lo c1) (own_hi c1) (own_lo c2) (own_hi c2) (own_lo c3) (own_hi c3) fv h0 n0 Z0 O0 S_SIOOBE_FORMATTER hfv S__assertionsDisabled S_HI_BYTE_SHIFT S_LO_BYTE_SHIFT Vb) (ow hw 86 rfl) (ow hw 22 rfl) rfl (by rw [hml]; rfl) rfl (hb hby d10_21) (lenOf pd___BI_C rfl) rfl (by decide) (fun T6 v6 Ll6 X6 hQ6 => ?_)
   obtain ⟨rfl, N6q, eh6⟩ := hQ6
   have N6 := Fr.app N4 N6q
   obtain ⟨fs, hr, hrun, hended, hW, hsame⟩ := X6.leave (v := some (.int (nar .char (own_gc (own_lo c0) (own_hi c0))))) (fun h => by rw [Bd.returns] at h; cases h)
   exact ⟨_, _, retN X6 hx (t := .char) Bd.returns (by simp) (hb hby d10_24) hr, hrun, hended, _, _, rfl, (show Qrmca0 Z a1 c0 c1 c2 c3 cs fv h0 n0 _ T6.heap _ from (by rw [eh6]; exact ⟨(congrArg (fun z => some (Value.int z)) ((own_chn _).trans (own_gch hch0))), N6, rfl⟩)), ⟨_, rfl⟩, hW, hsame.mono (by decide) (by decide)⟩
theorem ef_rmua1 (m : MethodId) (x0 : Addr) (x1 : Int32) : entryFrame m #[(.ref x0), (.int x1)] 2 = mkF m 0 #[rv x0, iv x1] [] := by first | (simp [entryFrame, mkF, argsToLocals, Value.category]; done) | rfl
def Qrmua1 (Z : State) (a3 : Addr) (k3 : ClassId) (x0 : Int32) (x1 : Int32) (x2 : Int32) (x3 : Int32) (x4 : Int32) (x5 : Int32) (x6 : Int32) (x7 : Int32) (fv : Value) (h0 : Heap) (n0 : Nat) (v : Option Value) (h : Heap) (L : List Loc) : Prop := v = some (.int (own_gc x2 x3)) ∧ Fr n0 L ∧ h = h0
set_option maxRecDepth 65536 in
set_option maxHeartbeats 40000000 in
theorem rmua1 (l : Launch) (Z : State) (a0 : Array Value) (hw : ∀ d ∈ tables_1, d.before a0 Z = true) (ws : List Jvm.Cond) (a3 : Addr) (k3 : ClassId) (x0 : Int32) (x1 : Int32) (x2 : Int32) (x3 : Int32) (x4 : Int32) (x5 : Int32) (x6 : Int32) (x7 : Int32) (fv : Value) (h0 : Heap) (n0 : Nat) (Z0 : n0 ≤ h0.size) (O0 : Old Z n0 h0) (S_SIOOBE_FORMATTER : Sta Z Z.heap cs2 "SIOOBE_FORMATTER" "Ljava/util/function/BiFunction;" fv) (hfv : fv = .null ∨ ∃ x : Addr, fv = .ref x) (S__assertionsDisabled : Sta Z Z.heap "java/lang/StringUTF16" "$assertionsDisabled" "Z" (.int (1 : Int32))) (S_HI_BYTE_SHIFT : Sta Z Z.heap "java/lang/StringUTF16" "HI_BYTE_SHIFT" "I" (.int (0 : Int32))) (S_LO_BYTE_SHIFT : Sta Z Z.heap "java/lang/StringUTF16" "LO_BYTE_SHIFT" "I" (.int (8 : Int32))) (V_a3 : Arv Z h0 a3 k3 .byte (8 : Int32) [(.int x0), (.int x1), (.int x2), (.int x3), (.int x4), (.int x5), (.int x6), (.int x7)] (.int (0 : Int32))) :
    MetFree l mn5 (head1 (Jvm.Cond.code mn5 jdk_52_method_83_code 2 (some .char) :: ws) ({ frames := 3, cells := 0, slots := 0, locals := 40 } : Room)) (fun a U => a = #[(.ref a3), (.int (1 : Int32))] ∧ Z.Warmed39 U.vm ∧ U.heap = h0) (fun _ _ _ _ _ => True) (fun _ U o U' => ∃ v L, o = .returned v ∧ Qrmua1 Z a3 k3 x0 x1 x2 x3 x4 x5 x6 x7 fv h0 n0 v U'.heap L ∧ FrameEnd U o U' L ({ frames := 3, cells := 0, slots := 0, locals := 40 } : Room).cells ({ frames := 3, cells := 0, slots := 0, locals := 40 } : Room).slots) := by
 refine MetFree.of_bodySF (plainFor_of_name pn_20) hisR ?_
 intro p e s m args below meth c s₁ Bd hml0 hP hK
 obtain ⟨rfl, hZ, hh⟩ := hP
 have hx := Bd.exec
 have hby := Bd.bytes
 have hml : c.maxLocals = 2 := hml0
 have hown : s.vm.findClass "java/lang/StringUTF16" = some m.cls := findClass_of_methodNamed Bd.named
 have hnm := (name_of_methodNamed Bd.named Bd.method).1
 have X0 : Stand p l e ({ frames := 3, cells := 0, slots := 0, locals := 40 } : Room) s m #[(.ref a3), (.int (1 : Int32))] below meth c s₁ [] 0 0 := Stand.of_body Bd
 have e0 : s₁.heap = h0 := by rw [← hh, Bd.state]; rfl
 have N0 := Fr.nil n0
 refine own_go (b := (s₁.setTop (mkF m 0 #[rv a3, iv (1 : Int32)] []))) (fun _ k => castTop (ef_rmua1 m a3 (1 : Int32)) k) ?_
 refine own_go (b := (s₁.setTop (mkF m 2 #[rv a3, iv (1 : Int32)] [(.ref a3), (.int (1 : Int32))]))) (fun _ k => XS.iloadN X0.here hx rfl (hb hby d20_0) rfl (XS.aloadN X0.here hx rfl (hb hby d20_1) rfl rfl k)) ?_
 refine own_stat (W := 0) X0 hx hZ hown e0 (ow hw 87 rfl) (ow hw 88 rfl) (rmuc l Z a0 hw [] (1 : Int32) a3 k3 x0 x1 x2 x3 x4 x5 x6 x7 fv h0 n0 Z0 O0 S_SIOOBE_FORMATTER hfv V_a3 (by decide) (by decide)) (ow hw 89 rfl) (ow hw 22 rfl) rfl (by rw [hml]; rfl) rfl (hb hby d20_2) (lenOf pd__I_B_V rfl) rfl (by decide) (fun T1 v1 Ll1 X1 hQ1 => ?_)
 obtain ⟨rfl, N1q, eh1⟩ := hQ1
 have N1 := Fr.app N0 N1q
 refine own_go (b := (T1.setTop (mkF m 7 #[rv a3, iv (1 : Int32)] [(.int (1 : Int32)), (.ref a3)]))) (fun _ k => XS.aloadN X1.here hx rfl (hb hby d20_5) rfl rfl (XS.iloadN X1.here hx rfl (hb hby d20_6) rfl k)) ?_
 refine own_stat (W := 0) X1 hx hZ hown eh1 (ow hw 81 rfl) (ow hw 82 rfl) (rmget1 l Z a0 hw [] a3 k3 x0 x1 x2 x3 x4 x5 x6 x7 h0 n0 Z0 O0 S__assertionsDisabled S_HI_BYTE_SHIFT S_LO_BYTE_SHIFT V_a3) (ow hw 83 rfl) (ow hw 22 rfl) rfl (by rw [hml]; rfl) rfl (hb hby d20_7) (lenOf pd___BI_C rfl) rfl (by decide) (fun T2 v2 Ll2 X2 hQ2 => ?_)
 obtain ⟨rfl, N2q, eh2⟩ := hQ2
 have N2 := Fr.app N1 N2q
 obtain ⟨fs, hr, hrun, hended, hW, hsame⟩ := X2.leave (v := some (.int (nar .char (own_gc x2 x3)))) (fun h => by rw [Bd.returns] at h; cases h)
 exact ⟨_, _, retN X2 hx (t := .char) Bd.returns (by simp) (hb hby d20_10) hr, hrun, hended, _, _, rfl, (show Qrmua1 Z a3 k3 x0 x1 x2 x3 x4 x5 x6 x7 fv h0 n0 _ T2.heap _ from (by rw [eh2]; exact ⟨(congrArg (fun z => some (Value.int z)) (own_chn _)), N2, rfl⟩)), ⟨_, rfl⟩, hW, hsame.mono (by decide) (by decide)⟩
theorem ef_rmla1 (m : MethodId) (x0 : Addr) (x1 : Int32) : entryFrame m #[(.ref x0), (.int x1)] 2 = mkF m 0 #[rv x0, iv x1] [] := by first | (simp [entryFrame, mkF, argsToLocals, Value.category]; done) | rfl
def Qrmla1 (Z : State) (a3 : Addr) (k3 : ClassId) (x0 : Int32) (x1 : Int32) (x2 : Int32) (x3 : Int32) (fv : Value) (h0 : Heap) (n0 : Nat) (v : Option Value) (h : Heap) (L : List Loc) : Prop := v = some (.int (own_lc x1)) ∧ Fr n0 L ∧ h = h0
set_option maxRecDepth 65536 in
set_option maxHeartbeats 40000000 in
theorem rmla1 (l : Launch) (Z : State) (a0 : Array Value) (hw : ∀ d ∈ tables_1, d.before a0 Z = true) (ws : List Jvm.Cond) (a3 : Addr) (k3 : ClassId) (x0 : Int32) (x1 : Int32) (x2 : Int32) (x3 : Int32) (fv : Value) (h0 : Heap) (n0 : Nat) (Z0 : n0 ≤ h0.size) (O0 : Old Z n0 h0) (S_SIOOBE_FORMATTER : Sta Z Z.heap cs2 "SIOOBE_FORMATTER" "Ljava/util/function/BiFunction;" fv) (hfv : fv = .null ∨ ∃ x : Addr, fv = .ref x) (V_a3 : Arv Z h0 a3 k3 .byte (4 : Int32) [(.int x0), (.int x1), (.int x2), (.int x3)] (.int (0 : Int32))) :
    MetFree l mn4 (head1 (Jvm.Cond.code mn4 jdk_43_method_2_code 2 (some .char) :: ws) ({ frames := 2, cells := 0, slots := 0, locals := 27 } : Room)) (fun a U => a = #[(.ref a3), (.int (1 : Int32))] ∧ Z.Warmed39 U.vm ∧ U.heap = h0) (fun _ _ _ _ _ => True) (fun _ U o U' => ∃ v L, o = .returned v ∧ Qrmla1 Z a3 k3 x0 x1 x2 x3 fv h0 n0 v U'.heap L ∧ FrameEnd U o U' L ({ frames := 2, cells := 0, slots := 0, locals := 27 } : Room).cells ({ frames := 2, cells := 0, slots := 0, locals := 27 } : Room).slots) := by
 refine MetFree.of_bodySF (plainFor_of_name pn_12) hisR ?_
 intro p e s m args below meth c s₁ Bd hml0 hP hK
 obtain ⟨rfl, hZ, hh⟩ := hP
 have hx := Bd.exec
 have hby := Bd.bytes
 have hml : c.maxLocals = 2 := hml0
 have hown : s.vm.findClass "java/lang/StringLatin1" = some m.cls := findClass_of_methodNamed Bd.named
 have hnm := (name_of_methodNamed Bd.named Bd.method).1
 have X0 : Stand p l e ({ frames := 2, cells := 0, slots := 0, locals := 27 } : Room) s m #[(.ref a3), (.int (1 : Int32))] below meth c s₁ [] 0 0 := Stand.of_body Bd
 have e0 : s₁.heap = h0 := by rw [← hh, Bd.state]; rfl
 have N0 := Fr.nil n0
 refine own_go (b := (s₁.setTop (mkF m 0 #[rv a3, iv (1 : Int32)] []))) (fun _ k => castTop (ef_rmla1 m a3 (1 : Int32)) k) ?_
 refine own_go (b := (s₁.setTop (mkF m 2 #[rv a3, iv (1 : Int32)] [(.ref a3), (.int (1 : Int32))]))) (fun _ k => XS.iloadN X0.here hx rfl (hb hby d12_0) rfl (XS.aloadN X0.here hx rfl (hb hby d12_1) rfl rfl k)) ?_
 obtain ⟨cl1, Ar1, -, Sz1, Nn1, -, -⟩ := id V_a3
 refine own_go (b := (s₁.setTop (mkF m 3 #[rv a3, iv (1 : Int32)] [(.int (4 : Int32)), (.int (1 : Int32))]))) (fun _ k => X0.arraylength hx (by rw [e0]; exact Ar1.1) (State.isArrayOf_alike hZ.alike Ar1.2.1) (g := (mkF m 2 #[rv a3, iv (1 : Int32)] [(.ref a3), (.int (1 : Int32))])) rfl rfl (hb hby d12_2) _ (by rw [len_of Sz1 Nn1]; exact k)) ?_
 refine own_stat (W := 0) X0 hx hZ hown e0 (ow hw 57 rfl) (ow hw 58 rfl) (rmci l Z a0 hw [] (1 : Int32) (4 : Int32) fv h0 n0 Z0 O0 S_SIOOBE_FORMATTER hfv (by decide) (by decide)) (ow hw 59 rfl) (ow hw 8 rfl) rfl (by rw [hml]; rfl) rfl (hb hby d12_3) (lenOf pd__II_V rfl) rfl (by decide) (fun T2 v2 Ll2 X2 hQ2 => ?_)
 obtain ⟨rfl, N2q, eh2⟩ := hQ2
 have N2 := Fr.app N0 N2q
 refine own_go (b := (T2.setTop (mkF m 8 #[rv a3, iv (1 : Int32)] [(.int (1 : Int32)), (.ref a3)]))) (fun _ k => XS.aloadN X2.here hx rfl (hb hby d12_6) rfl rfl (XS.iloadN X2.here hx rfl (hb hby d12_7) rfl k)) ?_
 obtain ⟨cl3, Ar3, ql3, Sz3, Nn3, Hl3, Gl3⟩ := id V_a3
 have hin3 : ¬ ((1 : Int32) < 0 ∨ cl3.slots.size ≤ ((1 : Int32)).toNatClampNeg) := inb_of Sz3 ⟨by decide, by decide⟩
 refine own_go (b := (T2.setTop (mkF m 14 #[rv a3, iv (1 : Int32)] [(.int ((x1 &&& (255 : Int32)).toUInt32.toUInt16.toUInt32.toInt32))]))) (fun _ k => X2.baloadBytes hx (j := (1 : Int32)) (v := (.int x1)) (by rw [eh2]; exact Ar3.1) (State.isArrayOf_alike hZ.alike Ar3.2.1) Ar3.2.2 hin3 (Hl3.at hin3 rfl) (g := (mkF m 8 #[rv a3, iv (1 : Int32)] [(.int (1 : Int32)), (.ref a3)])) rfl rfl (hb hby d12_8) _ (XS.sipush X2.here hx rfl (hb hby d12_9) (XS.iand X2.here hx rfl (hb hby d12_12) rfl (XS.i2c X2.here hx rfl (hb hby d12_13) rfl k)))) ?_
 obtain ⟨fs, hr, hrun, hended, hW, hsame⟩ := X2.leave (v := some (.int (nar .char ((x1 &&& (255 : Int32)).toUInt32.toUInt16.toUInt32.toInt32)))) (fun h => by rw [Bd.returns] at h; cases h)
 exact ⟨_, _, retN X2 hx (t := .char) Bd.returns (by simp) (hb hby d12_14) hr, hrun, hended, _, _, rfl, (show Qrmla1 Z a3 k3 x0 x1 x2 x3 fv h0 n0 _ T2.heap _ from (by rw [eh2]; exact ⟨rfl, N2, rfl⟩)), ⟨_, rfl⟩, hW, hsame.mono (by decide) (by decide)⟩
theorem ef_rmca1 (m : MethodId) (x0 : Addr) (x1 : Int32) : entryFrame m #[(.ref x0), (.int x1)] 2 = mkF m 0 #[rv x0, iv x1] [] := by first | (simp [entryFrame, mkF, argsToLocals, Value.category]; done) | rfl
def Qrmca1 (Z : State) (a1 : Addr) (c0 : Int32) (c1 : Int32) (c2 : Int32) (c3 : Int32) (cs : Int32) (fv : Value) (h0 : Heap) (n0 : Nat) (v : Option Value) (h : Heap) (L : List Loc) : Prop := v = some (.int c1) ∧ Fr n0 L ∧ h = h0
set_option maxRecDepth 65536 in
set_option maxHeartbeats 40000000 in
theorem rmca1 (l : Launch) (Z : State) (a0 : Array Value) (hw : ∀ d ∈ tables_1, d.before a0 Z = true) (ws : List Jvm.Cond) (a1 : Addr) (c0 : Int32) (c1 : Int32) (c2 : Int32) (c3 : Int32) (cs : Int32) (fv : Value) (h0 : Heap) (n0 : Nat) (Z0 : n0 ≤ h0.size) (O0 : Old Z n0 h0) (S_COMPACT_STRINGS : Sta Z Z.heap "java/lang/String" "COMPACT_STRINGS" "Z" (.int cs)) (hcs : ¬ (cs = (0 : Int32))) (S__assertionsDisabled : Sta Z Z.heap "java/lang/StringUTF16" "$assertionsDisabled" "Z" (.int (1 : Int32))) (S_HI_BYTE_SHIFT : Sta Z Z.heap "java/lang/StringUTF16" "HI_BYTE_SHIFT" "I" (.int (0 : Int32))) (S_LO_BYTE_SHIFT : Sta Z Z.heap "java/lang/StringUTF16" "LO_BYTE_SHIFT" "I" (.int (8 : Int32))) (S_SIOOBE_FORMATTER : Sta Z Z.heap cs2 "SIOOBE_FORMATTER" "Ljava/util/function/BiFunction;" fv) (hfv : fv = .null ∨ ∃ x : Addr, fv = .ref x) (own_str_a1 : own_str Z h0 a1 c0 c1 c2 c3) :
    MetFree l mn6 (head1 (Jvm.Cond.code mn6 jdk_42_method_56_code 2 (some .char) :: ws) ({ frames := 4, cells := 0, slots := 0, locals := 53 } : Room)) (fun a U => a = #[(.ref a1), (.int (1 : Int32))] ∧ Z.Warmed39 U.vm ∧ U.heap = h0) (fun _ _ _ _ _ => True) (fun _ U o U' => ∃ v L, o = .returned v ∧ Qrmca1 Z a1 c0 c1 c2 c3 cs fv h0 n0 v U'.heap L ∧ FrameEnd U o U' L ({ frames := 4, cells := 0, slots := 0, locals := 53 } : Room).cells ({ frames := 4, cells := 0, slots := 0, locals := 53 } : Room).slots) := by
 refine MetFree.of_bodySF (plainFor_of_name pn_10) hisR ?_
 intro p e s m args below meth c s₁ Bd hml0 hP hK
 obtain ⟨rfl, hZ, hh⟩ := hP
 have hx := Bd.exec
 have hby := Bd.bytes
 have hml : c.maxLocals = 2 := hml0
 have hown : s.vm.findClass "java/lang/String" = some m.cls := findClass_of_methodNamed Bd.named
 have hnm := (name_of_methodNamed Bd.named Bd.method).1
 have X0 : Stand p l e ({ frames := 4, cells := 0, slots := 0, locals := 53 } : Room) s m #[(.ref a1), (.int (1 : Int32))] below meth c s₁ [] 0 0 := Stand.of_body Bd
 have e0 : s₁.heap = h0 := by rw [← hh, Bd.state]; rfl
 have N0 := Fr.nil n0
 refine own_go (b := (s₁.setTop (mkF m 0 #[rv a1, iv (1 : Int32)] []))) (fun _ k => castTop (ef_rmca1 m a1 (1 : Int32)) k) ?_
 obtain ⟨⟨hch0, hch1, hch2, hch3⟩, b, kb, E_a1, Fv, hcd⟩ := own_str_a1
 rcases hcd with ⟨Fc, Vb, hn0, hn1, hn2, hn3⟩ | ⟨Fc, Vb⟩
 · skip
   refine own_go (b := (s₁.setTop (mkF m 1 #[rv a1, iv (1 : Int32)] [(.ref a1)]))) (fun _ k => XS.aloadN X0.here hx rfl (hb hby d10_0) rfl rfl k) ?_
   refine own_virt (W := 0) X0 hx hZ hown e0 (ow hw 48 rfl) (ow hw 49 rfl) (ow hw 51 rfl) (ow hw 50 rfl) (rmil0 l Z a0 hw [] a1 cs h0 n0 Z0 O0 S_COMPACT_STRINGS hcs Fc) (ow hw 52 rfl) (ow hw 8 rfl) E_a1 rfl (by rw [hml]; rfl) rfl (hb hby d10_1) (lenOf pd___Z rfl) rfl (by decide) (fun T1 v1 Ll1 X1 hQ1 => ?_)
   obtain ⟨rfl, N1q, eh1⟩ := hQ1
   have N1 := Fr.app N0 N1q
   refine own_go (b := (T1.setTop (mkF m 8 #[rv a1, iv (1 : Int32)] [(.ref a1)]))) (fun _ k => XS.ifNo X1.here hx rfl (hb hby d10_4) rfl ((if0 _ _).trans (feq (by decide : ¬ ((1 : Int32) = (0 : Int32)))).1) (XS.aloadN X1.here hx rfl (hb hby d10_7) rfl rfl k)) ?_
   refine own_getf X1 hx hZ hown (ow hw 33 rfl) Via.refl eh1 Fv rfl rfl (hb hby d10_8) (fun T2 X2 e2 => ?_)
   refine own_go (b := (T2.setTop (mkF m 12 #[rv a1, iv (1 : Int32)] [(.int (1 : Int32)), (.ref b)]))) (fun _ k => XS.iloadN X2.here hx rfl (hb hby d10_11) rfl k) ?_
   refine own_stat (W := 0) X2 hx hZ hown e2 (ow hw 53 rfl) (ow hw 54 rfl) (rmla1 l Z a0 hw [] b kb (own_lt c0) (own_lt c1) (own_lt c2) (own_lt c3) fv h0 n0 Z0 O0 S_SIOOBE_FORMATTER hfv Vb) (ow hw 56 rfl) (ow hw 55 rfl) rfl (by rw [hml]; rfl) rfl (hb hby d10_12) (lenOf pd___BI_C rfl) rfl (by decide) (fun T3 v3 Ll3 X3 hQ3 => ?_)
   obtain ⟨rfl, N3q, eh3⟩ := hQ3
   have N3 := Fr.app N1 N3q
   obtain ⟨fs, hr, hrun, hended, hW, hsame⟩ := X3.leave (v := some (.int (nar .char (own_lc (own_lt c1))))) (fun h => by rw [Bd.returns] at h; cases h)
   exact ⟨_, _, retN X3 hx (t := .char) Bd.returns (by simp) (hb hby d10_15) hr, hrun, hended, _, _, rfl, (show Qrmca1 Z a1 c0 c1 c2 c3 cs fv h0 n0 _ T3.heap _ from (by rw [eh3]; exact ⟨(congrArg (fun z => some (Value.int z)) ((own_chn _).trans (own_lce hch1 hn1))), N3, rfl⟩)), ⟨_, rfl⟩, hW, hsame.mono (by decide) (by decide)⟩
 · skip
   refine own_go (b := (s₁.setTop (mkF m 1 #[rv a1, iv (1 : Int32)] [(.ref a1)]))) (fun _ k => XS.aloadN X0.here hx rfl (hb hby d10_0) rfl rfl k) ?_
   refine own_virt (W := 0) X0 hx hZ hown e0 (ow hw 48 rfl) (ow hw 49 rfl) (ow hw 51 rfl) (ow hw 50 rfl) (rmil1 l Z a0 hw [] a1 cs h0 n0 Z0 O0 S_COMPACT_STRINGS hcs Fc) (ow hw 52 rfl) (ow hw 8 rfl) E_a1 rfl (by rw [hml]; rfl) rfl (hb hby d10_1) (lenOf pd___Z rfl) rfl (by decide) (fun T4 v4 Ll4 X4 hQ4 => ?_)
   obtain ⟨rfl, N4q, eh4⟩ := hQ4
   have N4 := Fr.app N0 N4q
   refine own_go (b := (T4.setTop (mkF m 17 #[rv a1, iv (1 : Int32)] [(.ref a1)]))) (fun _ k => XS.ifYes X4.here hx rfl (pc0 := 4) (pc' := 16) rfl (hb hby d10_4) rfl ((if0 _ _).trans (teq (rfl : (0 : Int32) = (0 : Int32))).1) (by decide) (by decide) (XS.aloadN X4.here hx rfl (hb hby d10_16) rfl rfl k)) ?_
   refine own_getf X4 hx hZ hown (ow hw 33 rfl) Via.refl eh4 Fv rfl rfl (hb hby d10_17) (fun T5 X5 e5 => ?_)
   refine own_go (b := (T5.setTop (mkF m 21 #[rv a1, iv (1 : Int32)] [(.int (1 : Int32)), (.ref b)]))) (fun _ k => XS.iloadN X5.here hx rfl (hb hby d10_20) rfl k) ?_
   refine own_stat (W := 0) X5 hx hZ hown e5 (ow hw 84 rfl) (ow hw 85 rfl) (rmua1 l Z a0 hw [] b kb (own_lo c0) (own_hi c0) (own_lo c1) (own_hi c1) (own_lo c2) (own_hi c2) (own_lo c3) (own_hi c3) fv h0 n0 Z0 O0 S_SIOOBE_FORMATTER hfv S__assertionsDisabled S_HI_BYTE_SHIFT S_LO_BYTE_SHIFT Vb) (ow hw 86 rfl) (ow hw 22 rfl) rfl (by rw [hml]; rfl) rfl (hb hby d10_21) (lenOf pd___BI_C rfl) rfl (by decide) (fun T6 v6 Ll6 X6 hQ6 => ?_)
   obtain ⟨rfl, N6q, eh6⟩ := hQ6
   have N6 := Fr.app N4 N6q
   obtain ⟨fs, hr, hrun, hended, hW, hsame⟩ := X6.leave (v := some (.int (nar .char (own_gc (own_lo c1) (own_hi c1))))) (fun h => by rw [Bd.returns] at h; cases h)
   exact ⟨_, _, retN X6 hx (t := .char) Bd.returns (by simp) (hb hby d10_24) hr, hrun, hended, _, _, rfl, (show Qrmca1 Z a1 c0 c1 c2 c3 cs fv h0 n0 _ T6.heap _ from (by rw [eh6]; exact ⟨(congrArg (fun z => some (Value.int z)) ((own_chn _).trans (own_gch hch1))), N6, rfl⟩)), ⟨_, rfl⟩, hW, hsame.mono (by decide) (by decide)⟩
theorem ef_rmua2 (m : MethodId) (x0 : Addr) (x1 : Int32) : entryFrame m #[(.ref x0), (.int x1)] 2 = mkF m 0 #[rv x0, iv x1] [] := by first | (simp [entryFrame, mkF, argsToLocals, Value.category]; done) | rfl
def Qrmua2 (Z : State) (a3 : Addr) (k3 : ClassId) (x0 : Int32) (x1 : Int32) (x2 : Int32) (x3 : Int32) (x4 : Int32) (x5 : Int32) (x6 : Int32) (x7 : Int32) (fv : Value) (h0 : Heap) (n0 : Nat) (v : Option Value) (h : Heap) (L : List Loc) : Prop := v = some (.int (own_gc x4 x5)) ∧ Fr n0 L ∧ h = h0
set_option maxRecDepth 65536 in
set_option maxHeartbeats 40000000 in
theorem rmua2 (l : Launch) (Z : State) (a0 : Array Value) (hw : ∀ d ∈ tables_1, d.before a0 Z = true) (ws : List Jvm.Cond) (a3 : Addr) (k3 : ClassId) (x0 : Int32) (x1 : Int32) (x2 : Int32) (x3 : Int32) (x4 : Int32) (x5 : Int32) (x6 : Int32) (x7 : Int32) (fv : Value) (h0 : Heap) (n0 : Nat) (Z0 : n0 ≤ h0.size) (O0 : Old Z n0 h0) (S_SIOOBE_FORMATTER : Sta Z Z.heap cs2 "SIOOBE_FORMATTER" "Ljava/util/function/BiFunction;" fv) (hfv : fv = .null ∨ ∃ x : Addr, fv = .ref x) (S__assertionsDisabled : Sta Z Z.heap "java/lang/StringUTF16" "$assertionsDisabled" "Z" (.int (1 : Int32))) (S_HI_BYTE_SHIFT : Sta Z Z.heap "java/lang/StringUTF16" "HI_BYTE_SHIFT" "I" (.int (0 : Int32))) (S_LO_BYTE_SHIFT : Sta Z Z.heap "java/lang/StringUTF16" "LO_BYTE_SHIFT" "I" (.int (8 : Int32))) (V_a3 : Arv Z h0 a3 k3 .byte (8 : Int32) [(.int x0), (.int x1), (.int x2), (.int x3), (.int x4), (.int x5), (.int x6), (.int x7)] (.int (0 : Int32))) :
    MetFree l mn5 (head1 (Jvm.Cond.code mn5 jdk_52_method_83_code 2 (some .char) :: ws) ({ frames := 3, cells := 0, slots := 0, locals := 40 } : Room)) (fun a U => a = #[(.ref a3), (.int (2 : Int32))] ∧ Z.Warmed39 U.vm ∧ U.heap = h0) (fun _ _ _ _ _ => True) (fun _ U o U' => ∃ v L, o = .returned v ∧ Qrmua2 Z a3 k3 x0 x1 x2 x3 x4 x5 x6 x7 fv h0 n0 v U'.heap L ∧ FrameEnd U o U' L ({ frames := 3, cells := 0, slots := 0, locals := 40 } : Room).cells ({ frames := 3, cells := 0, slots := 0, locals := 40 } : Room).slots) := by
 refine MetFree.of_bodySF (plainFor_of_name pn_20) hisR ?_
 intro p e s m args below meth c s₁ Bd hml0 hP hK
 obtain ⟨rfl, hZ, hh⟩ := hP
 have hx := Bd.exec
 have hby := Bd.bytes
 have hml : c.maxLocals = 2 := hml0
 have hown : s.vm.findClass "java/lang/StringUTF16" = some m.cls := findClass_of_methodNamed Bd.named
 have hnm := (name_of_methodNamed Bd.named Bd.method).1
 have X0 : Stand p l e ({ frames := 3, cells := 0, slots := 0, locals := 40 } : Room) s m #[(.ref a3), (.int (2 : Int32))] below meth c s₁ [] 0 0 := Stand.of_body Bd
 have e0 : s₁.heap = h0 := by rw [← hh, Bd.state]; rfl
 have N0 := Fr.nil n0
 refine own_go (b := (s₁.setTop (mkF m 0 #[rv a3, iv (2 : Int32)] []))) (fun _ k => castTop (ef_rmua2 m a3 (2 : Int32)) k) ?_
 refine own_go (b := (s₁.setTop (mkF m 2 #[rv a3, iv (2 : Int32)] [(.ref a3), (.int (2 : Int32))]))) (fun _ k => XS.iloadN X0.here hx rfl (hb hby d20_0) rfl (XS.aloadN X0.here hx rfl (hb hby d20_1) rfl rfl k)) ?_
 refine own_stat (W := 0) X0 hx hZ hown e0 (ow hw 87 rfl) (ow hw 88 rfl) (rmuc l Z a0 hw [] (2 : Int32) a3 k3 x0 x1 x2 x3 x4 x5 x6 x7 fv h0 n0 Z0 O0 S_SIOOBE_FORMATTER hfv V_a3 (by decide) (by decide)) (ow hw 89 rfl) (ow hw 22 rfl) rfl (by rw [hml]; rfl) rfl (hb hby d20_2) (lenOf pd__I_B_V rfl) rfl (by decide) (fun T1 v1 Ll1 X1 hQ1 => ?_)
 obtain ⟨rfl, N1q, eh1⟩ := hQ1
 have N1 := Fr.app N0 N1q
 refine own_go (b := (T1.setTop (mkF m 7 #[rv a3, iv (2 : Int32)] [(.int (2 : Int32)), (.ref a3)]))) (fun _ k => XS.aloadN X1.here hx rfl (hb hby d20_5) rfl rfl (XS.iloadN X1.here hx rfl (hb hby d20_6) rfl k)) ?_
 refine own_stat (W := 0) X1 hx hZ hown eh1 (ow hw 81 rfl) (ow hw 82 rfl) (rmget2 l Z a0 hw [] a3 k3 x0 x1 x2 x3 x4 x5 x6 x7 h0 n0 Z0 O0 S__assertionsDisabled S_HI_BYTE_SHIFT S_LO_BYTE_SHIFT V_a3) (ow hw 83 rfl) (ow hw 22 rfl) rfl (by rw [hml]; rfl) rfl (hb hby d20_7) (lenOf pd___BI_C rfl) rfl (by decide) (fun T2 v2 Ll2 X2 hQ2 => ?_)
 obtain ⟨rfl, N2q, eh2⟩ := hQ2
 have N2 := Fr.app N1 N2q
 obtain ⟨fs, hr, hrun, hended, hW, hsame⟩ := X2.leave (v := some (.int (nar .char (own_gc x4 x5)))) (fun h => by rw [Bd.returns] at h; cases h)
 exact ⟨_, _, retN X2 hx (t := .char) Bd.returns (by simp) (hb hby d20_10) hr, hrun, hended, _, _, rfl, (show Qrmua2 Z a3 k3 x0 x1 x2 x3 x4 x5 x6 x7 fv h0 n0 _ T2.heap _ from (by rw [eh2]; exact ⟨(congrArg (fun z => some (Value.int z)) (own_chn _)), N2, rfl⟩)), ⟨_, rfl⟩, hW, hsame.mono (by decide) (by decide)⟩
theorem ef_rmla2 (m : MethodId) (x0 : Addr) (x1 : Int32) : entryFrame m #[(.ref x0), (.int x1)] 2 = mkF m 0 #[rv x0, iv x1] [] := by first | (simp [entryFrame, mkF, argsToLocals, Value.category]; done) | rfl
def Qrmla2 (Z : State) (a3 : Addr) (k3 : ClassId) (x0 : Int32) (x1 : Int32) (x2 : Int32) (x3 : Int32) (fv : Value) (h0 : Heap) (n0 : Nat) (v : Option Value) (h : Heap) (L : List Loc) : Prop := v = some (.int (own_lc x2)) ∧ Fr n0 L ∧ h = h0
set_option maxRecDepth 65536 in
set_option maxHeartbeats 40000000 in
theorem rmla2 (l : Launch) (Z : State) (a0 : Array Value) (hw : ∀ d ∈ tables_1, d.before a0 Z = true) (ws : List Jvm.Cond) (a3 : Addr) (k3 : ClassId) (x0 : Int32) (x1 : Int32) (x2 : Int32) (x3 : Int32) (fv : Value) (h0 : Heap) (n0 : Nat) (Z0 : n0 ≤ h0.size) (O0 : Old Z n0 h0) (S_SIOOBE_FORMATTER : Sta Z Z.heap cs2 "SIOOBE_FORMATTER" "Ljava/util/function/BiFunction;" fv) (hfv : fv = .null ∨ ∃ x : Addr, fv = .ref x) (V_a3 : Arv Z h0 a3 k3 .byte (4 : Int32) [(.int x0), (.int x1), (.int x2), (.int x3)] (.int (0 : Int32))) :
    MetFree l mn4 (head1 (Jvm.Cond.code mn4 jdk_43_method_2_code 2 (some .char) :: ws) ({ frames := 2, cells := 0, slots := 0, locals := 27 } : Room)) (fun a U => a = #[(.ref a3), (.int (2 : Int32))] ∧ Z.Warmed39 U.vm ∧ U.heap = h0) (fun _ _ _ _ _ => True) (fun _ U o U' => ∃ v L, o = .returned v ∧ Qrmla2 Z a3 k3 x0 x1 x2 x3 fv h0 n0 v U'.heap L ∧ FrameEnd U o U' L ({ frames := 2, cells := 0, slots := 0, locals := 27 } : Room).cells ({ frames := 2, cells := 0, slots := 0, locals := 27 } : Room).slots) := by
 refine MetFree.of_bodySF (plainFor_of_name pn_12) hisR ?_
 intro p e s m args below meth c s₁ Bd hml0 hP hK
 obtain ⟨rfl, hZ, hh⟩ := hP
 have hx := Bd.exec
 have hby := Bd.bytes
 have hml : c.maxLocals = 2 := hml0
 have hown : s.vm.findClass "java/lang/StringLatin1" = some m.cls := findClass_of_methodNamed Bd.named
 have hnm := (name_of_methodNamed Bd.named Bd.method).1
 have X0 : Stand p l e ({ frames := 2, cells := 0, slots := 0, locals := 27 } : Room) s m #[(.ref a3), (.int (2 : Int32))] below meth c s₁ [] 0 0 := Stand.of_body Bd
 have e0 : s₁.heap = h0 := by rw [← hh, Bd.state]; rfl
 have N0 := Fr.nil n0
 refine own_go (b := (s₁.setTop (mkF m 0 #[rv a3, iv (2 : Int32)] []))) (fun _ k => castTop (ef_rmla2 m a3 (2 : Int32)) k) ?_
 refine own_go (b := (s₁.setTop (mkF m 2 #[rv a3, iv (2 : Int32)] [(.ref a3), (.int (2 : Int32))]))) (fun _ k => XS.iloadN X0.here hx rfl (hb hby d12_0) rfl (XS.aloadN X0.here hx rfl (hb hby d12_1) rfl rfl k)) ?_
 obtain ⟨cl1, Ar1, -, Sz1, Nn1, -, -⟩ := id V_a3
 refine own_go (b := (s₁.setTop (mkF m 3 #[rv a3, iv (2 : Int32)] [(.int (4 : Int32)), (.int (2 : Int32))]))) (fun _ k => X0.arraylength hx (by rw [e0]; exact Ar1.1) (State.isArrayOf_alike hZ.alike Ar1.2.1) (g := (mkF m 2 #[rv a3, iv (2 : Int32)] [(.ref a3), (.int (2 : Int32))])) rfl rfl (hb hby d12_2) _ (by rw [len_of Sz1 Nn1]; exact k)) ?_
 refine own_stat (W := 0) X0 hx hZ hown e0 (ow hw 57 rfl) (ow hw 58 rfl) (rmci l Z a0 hw [] (2 : Int32) (4 : Int32) fv h0 n0 Z0 O0 S_SIOOBE_FORMATTER hfv (by decide) (by decide)) (ow hw 59 rfl) (ow hw 8 rfl) rfl (by rw [hml]; rfl) rfl (hb hby d12_3) (lenOf pd__II_V rfl) rfl (by decide) (fun T2 v2 Ll2 X2 hQ2 => ?_)
 obtain ⟨rfl, N2q, eh2⟩ := hQ2
 have N2 := Fr.app N0 N2q
 refine own_go (b := (T2.setTop (mkF m 8 #[rv a3, iv (2 : Int32)] [(.int (2 : Int32)), (.ref a3)]))) (fun _ k => XS.aloadN X2.here hx rfl (hb hby d12_6) rfl rfl (XS.iloadN X2.here hx rfl (hb hby d12_7) rfl k)) ?_
 obtain ⟨cl3, Ar3, ql3, Sz3, Nn3, Hl3, Gl3⟩ := id V_a3
 have hin3 : ¬ ((2 : Int32) < 0 ∨ cl3.slots.size ≤ ((2 : Int32)).toNatClampNeg) := inb_of Sz3 ⟨by decide, by decide⟩
 refine own_go (b := (T2.setTop (mkF m 14 #[rv a3, iv (2 : Int32)] [(.int ((x2 &&& (255 : Int32)).toUInt32.toUInt16.toUInt32.toInt32))]))) (fun _ k => X2.baloadBytes hx (j := (2 : Int32)) (v := (.int x2)) (by rw [eh2]; exact Ar3.1) (State.isArrayOf_alike hZ.alike Ar3.2.1) Ar3.2.2 hin3 (Hl3.at hin3 rfl) (g := (mkF m 8 #[rv a3, iv (2 : Int32)] [(.int (2 : Int32)), (.ref a3)])) rfl rfl (hb hby d12_8) _ (XS.sipush X2.here hx rfl (hb hby d12_9) (XS.iand X2.here hx rfl (hb hby d12_12) rfl (XS.i2c X2.here hx rfl (hb hby d12_13) rfl k)))) ?_
 obtain ⟨fs, hr, hrun, hended, hW, hsame⟩ := X2.leave (v := some (.int (nar .char ((x2 &&& (255 : Int32)).toUInt32.toUInt16.toUInt32.toInt32)))) (fun h => by rw [Bd.returns] at h; cases h)
 exact ⟨_, _, retN X2 hx (t := .char) Bd.returns (by simp) (hb hby d12_14) hr, hrun, hended, _, _, rfl, (show Qrmla2 Z a3 k3 x0 x1 x2 x3 fv h0 n0 _ T2.heap _ from (by rw [eh2]; exact ⟨rfl, N2, rfl⟩)), ⟨_, rfl⟩, hW, hsame.mono (by decide) (by decide)⟩
theorem ef_rmca2 (m : MethodId) (x0 : Addr) (x1 : Int32) : entryFrame m #[(.ref x0), (.int x1)] 2 = mkF m 0 #[rv x0, iv x1] [] := by first | (simp [entryFrame, mkF, argsToLocals, Value.category]; done) | rfl
def Qrmca2 (Z : State) (a1 : Addr) (c0 : Int32) (c1 : Int32) (c2 : Int32) (c3 : Int32) (cs : Int32) (fv : Value) (h0 : Heap) (n0 : Nat) (v : Option Value) (h : Heap) (L : List Loc) : Prop := v = some (.int c2) ∧ Fr n0 L ∧ h = h0
set_option maxRecDepth 65536 in
set_option maxHeartbeats 40000000 in
theorem rmca2 (l : Launch) (Z : State) (a0 : Array Value) (hw : ∀ d ∈ tables_1, d.before a0 Z = true) (ws : List Jvm.Cond) (a1 : Addr) (c0 : Int32) (c1 : Int32) (c2 : Int32) (c3 : Int32) (cs : Int32) (fv : Value) (h0 : Heap) (n0 : Nat) (Z0 : n0 ≤ h0.size) (O0 : Old Z n0 h0) (S_COMPACT_STRINGS : Sta Z Z.heap "java/lang/String" "COMPACT_STRINGS" "Z" (.int cs)) (hcs : ¬ (cs = (0 : Int32))) (S__assertionsDisabled : Sta Z Z.heap "java/lang/StringUTF16" "$assertionsDisabled" "Z" (.int (1 : Int32))) (S_HI_BYTE_SHIFT : Sta Z Z.heap "java/lang/StringUTF16" "HI_BYTE_SHIFT" "I" (.int (0 : Int32))) (S_LO_BYTE_SHIFT : Sta Z Z.heap "java/lang/StringUTF16" "LO_BYTE_SHIFT" "I" (.int (8 : Int32))) (S_SIOOBE_FORMATTER : Sta Z Z.heap cs2 "SIOOBE_FORMATTER" "Ljava/util/function/BiFunction;" fv) (hfv : fv = .null ∨ ∃ x : Addr, fv = .ref x) (own_str_a1 : own_str Z h0 a1 c0 c1 c2 c3) :
    MetFree l mn6 (head1 (Jvm.Cond.code mn6 jdk_42_method_56_code 2 (some .char) :: ws) ({ frames := 4, cells := 0, slots := 0, locals := 53 } : Room)) (fun a U => a = #[(.ref a1), (.int (2 : Int32))] ∧ Z.Warmed39 U.vm ∧ U.heap = h0) (fun _ _ _ _ _ => True) (fun _ U o U' => ∃ v L, o = .returned v ∧ Qrmca2 Z a1 c0 c1 c2 c3 cs fv h0 n0 v U'.heap L ∧ FrameEnd U o U' L ({ frames := 4, cells := 0, slots := 0, locals := 53 } : Room).cells ({ frames := 4, cells := 0, slots := 0, locals := 53 } : Room).slots) := by
 refine MetFree.of_bodySF (plainFor_of_name pn_10) hisR ?_
 intro p e s m args below meth c s₁ Bd hml0 hP hK
 obtain ⟨rfl, hZ, hh⟩ := hP
 have hx := Bd.exec
 have hby := Bd.bytes
 have hml : c.maxLocals = 2 := hml0
 have hown : s.vm.findClass "java/lang/String" = some m.cls := findClass_of_methodNamed Bd.named
 have hnm := (name_of_methodNamed Bd.named Bd.method).1
 have X0 : Stand p l e ({ frames := 4, cells := 0, slots := 0, locals := 53 } : Room) s m #[(.ref a1), (.int (2 : Int32))] below meth c s₁ [] 0 0 := Stand.of_body Bd
 have e0 : s₁.heap = h0 := by rw [← hh, Bd.state]; rfl
 have N0 := Fr.nil n0
 refine own_go (b := (s₁.setTop (mkF m 0 #[rv a1, iv (2 : Int32)] []))) (fun _ k => castTop (ef_rmca2 m a1 (2 : Int32)) k) ?_
 obtain ⟨⟨hch0, hch1, hch2, hch3⟩, b, kb, E_a1, Fv, hcd⟩ := own_str_a1
 rcases hcd with ⟨Fc, Vb, hn0, hn1, hn2, hn3⟩ | ⟨Fc, Vb⟩
 · skip
   refine own_go (b := (s₁.setTop (mkF m 1 #[rv a1, iv (2 : Int32)] [(.ref a1)]))) (fun _ k => XS.aloadN X0.here hx rfl (hb hby d10_0) rfl rfl k) ?_
   refine own_virt (W := 0) X0 hx hZ hown e0 (ow hw 48 rfl) (ow hw 49 rfl) (ow hw 51 rfl) (ow hw 50 rfl) (rmil0 l Z a0 hw [] a1 cs h0 n0 Z0 O0 S_COMPACT_STRINGS hcs Fc) (ow hw 52 rfl) (ow hw 8 rfl) E_a1 rfl (by rw [hml]; rfl) rfl (hb hby d10_1) (lenOf pd___Z rfl) rfl (by decide) (fun T1 v1 Ll1 X1 hQ1 => ?_)
   obtain ⟨rfl, N1q, eh1⟩ := hQ1
   have N1 := Fr.app N0 N1q
   refine own_go (b := (T1.setTop (mkF m 8 #[rv a1, iv (2 : Int32)] [(.ref a1)]))) (fun _ k => XS.ifNo X1.here hx rfl (hb hby d10_4) rfl ((if0 _ _).trans (feq (by decide : ¬ ((1 : Int32) = (0 : Int32)))).1) (XS.aloadN X1.here hx rfl (hb hby d10_7) rfl rfl k)) ?_
   refine own_getf X1 hx hZ hown (ow hw 33 rfl) Via.refl eh1 Fv rfl rfl (hb hby d10_8) (fun T2 X2 e2 => ?_)
   refine own_go (b := (T2.setTop (mkF m 12 #[rv a1, iv (2 : Int32)] [(.int (2 : Int32)), (.ref b)]))) (fun _ k => XS.iloadN X2.here hx rfl (hb hby d10_11) rfl k) ?_
   refine own_stat (W := 0) X2 hx hZ hown e2 (ow hw 53 rfl) (ow hw 54 rfl) (rmla2 l Z a0 hw [] b kb (own_lt c0) (own_lt c1) (own_lt c2) (own_lt c3) fv h0 n0 Z0 O0 S_SIOOBE_FORMATTER hfv Vb) (ow hw 56 rfl) (ow hw 55 rfl) rfl (by rw [hml]; rfl) rfl (hb hby d10_12) (lenOf pd___BI_C rfl) rfl (by decide) (fun T3 v3 Ll3 X3 hQ3 => ?_)
   obtain ⟨rfl, N3q, eh3⟩ := hQ3
   have N3 := Fr.app N1 N3q
   obtain ⟨fs, hr, hrun, hended, hW, hsame⟩ := X3.leave (v := some (.int (nar .char (own_lc (own_lt c2))))) (fun h => by rw [Bd.returns] at h; cases h)
   exact ⟨_, _, retN X3 hx (t := .char) Bd.returns (by simp) (hb hby d10_15) hr, hrun, hended, _, _, rfl, (show Qrmca2 Z a1 c0 c1 c2 c3 cs fv h0 n0 _ T3.heap _ from (by rw [eh3]; exact ⟨(congrArg (fun z => some (Value.int z)) ((own_chn _).trans (own_lce hch2 hn2))), N3, rfl⟩)), ⟨_, rfl⟩, hW, hsame.mono (by decide) (by decide)⟩
 · skip
   refine own_go (b := (s₁.setTop (mkF m 1 #[rv a1, iv (2 : Int32)] [(.ref a1)]))) (fun _ k => XS.aloadN X0.here hx rfl (hb hby d10_0) rfl rfl k) ?_
   refine own_virt (W := 0) X0 hx hZ hown e0 (ow hw 48 rfl) (ow hw 49 rfl) (ow hw 51 rfl) (ow hw 50 rfl) (rmil1 l Z a0 hw [] a1 cs h0 n0 Z0 O0 S_COMPACT_STRINGS hcs Fc) (ow hw 52 rfl) (ow hw 8 rfl) E_a1 rfl (by rw [hml]; rfl) rfl (hb hby d10_1) (lenOf pd___Z rfl) rfl (by decide) (fun T4 v4 Ll4 X4 hQ4 => ?_)
   obtain ⟨rfl, N4q, eh4⟩ := hQ4
   have N4 := Fr.app N0 N4q
   refine own_go (b := (T4.setTop (mkF m 17 #[rv a1, iv (2 : Int32)] [(.ref a1)]))) (fun _ k => XS.ifYes X4.here hx rfl (pc0 := 4) (pc' := 16) rfl (hb hby d10_4) rfl ((if0 _ _).trans (teq (rfl : (0 : Int32) = (0 : Int32))).1) (by decide) (by decide) (XS.aloadN X4.here hx rfl (hb hby d10_16) rfl rfl k)) ?_
   refine own_getf X4 hx hZ hown (ow hw 33 rfl) Via.refl eh4 Fv rfl rfl (hb hby d10_17) (fun T5 X5 e5 => ?_)
   refine own_go (b := (T5.setTop (mkF m 21 #[rv a1, iv (2 : Int32)] [(.int (2 : Int32)), (.ref b)]))) (fun _ k => XS.iloadN X5.here hx rfl (hb hby d10_20) rfl k) ?_
   refine own_stat (W := 0) X5 hx hZ hown e5 (ow hw 84 rfl) (ow hw 85 rfl) (rmua2 l Z a0 hw [] b kb (own_lo c0) (own_hi c0) (own_lo c1) (own_hi c1) (own_lo c2) (own_hi c2) (own_lo c3) (own_hi c3) fv h0 n0 Z0 O0 S_SIOOBE_FORMATTER hfv S__assertionsDisabled S_HI_BYTE_SHIFT S_LO_BYTE_SHIFT Vb) (ow hw 86 rfl) (ow hw 22 rfl) rfl (by rw [hml]; rfl) rfl (hb hby d10_21) (lenOf pd___BI_C rfl) rfl (by decide) (fun T6 v6 Ll6 X6 hQ6 => ?_)
   obtain ⟨rfl, N6q, eh6⟩ := hQ6
   have N6 := Fr.app N4 N6q
   obtain ⟨fs, hr, hrun, hended, hW, hsame⟩ := X6.leave (v := some (.int (nar .char (own_gc (own_lo c2) (own_hi c2))))) (fun h => by rw [Bd.returns] at h; cases h)
   exact ⟨_, _, retN X6 hx (t := .char) Bd.returns (by simp) (hb hby d10_24) hr, hrun, hended, _, _, rfl, (show Qrmca2 Z a1 c0 c1 c2 c3 cs fv h0 n0 _ T6.heap _ from (by rw [eh6]; exact ⟨(congrArg (fun z => some (Value.int z)) ((own_chn _).trans (own_gch hch2))), N6, rfl⟩)), ⟨_, rfl⟩, hW, hsame.mono (by decide) (by decide)⟩
theorem ef_rmua3 (m : MethodId) (x0 : Addr) (x1 : Int32) : entryFrame m #[(.ref x0), (.int x1)] 2 = mkF m 0 #[rv x0, iv x1] [] := by first | (simp [entryFrame, mkF, argsToLocals, Value.category]; done) | rfl
def Qrmua3 (Z : State) (a3 : Addr) (k3 : ClassId) (x0 : Int32) (x1 : Int32) (x2 : Int32) (x3 : Int32) (x4 : Int32) (x5 : Int32) (x6 : Int32) (x7 : Int32) (fv : Value) (h0 : Heap) (n0 : Nat) (v : Option Value) (h : Heap) (L : List Loc) : Prop := v = some (.int (own_gc x6 x7)) ∧ Fr n0 L ∧ h = h0
set_option maxRecDepth 65536 in
set_option maxHeartbeats 40000000 in
theorem rmua3 (l : Launch) (Z : State) (a0 : Array Value) (hw : ∀ d ∈ tables_1, d.before a0 Z = true) (ws : List Jvm.Cond) (a3 : Addr) (k3 : ClassId) (x0 : Int32) (x1 : Int32) (x2 : Int32) (x3 : Int32) (x4 : Int32) (x5 : Int32) (x6 : Int32) (x7 : Int32) (fv : Value) (h0 : Heap) (n0 : Nat) (Z0 : n0 ≤ h0.size) (O0 : Old Z n0 h0) (S_SIOOBE_FORMATTER : Sta Z Z.heap cs2 "SIOOBE_FORMATTER" "Ljava/util/function/BiFunction;" fv) (hfv : fv = .null ∨ ∃ x : Addr, fv = .ref x) (S__assertionsDisabled : Sta Z Z.heap "java/lang/StringUTF16" "$assertionsDisabled" "Z" (.int (1 : Int32))) (S_HI_BYTE_SHIFT : Sta Z Z.heap "java/lang/StringUTF16" "HI_BYTE_SHIFT" "I" (.int (0 : Int32))) (S_LO_BYTE_SHIFT : Sta Z Z.heap "java/lang/StringUTF16" "LO_BYTE_SHIFT" "I" (.int (8 : Int32))) (V_a3 : Arv Z h0 a3 k3 .byte (8 : Int32) [(.int x0), (.int x1), (.int x2), (.int x3), (.int x4), (.int x5), (.int x6), (.int x7)] (.int (0 : Int32))) :
    MetFree l mn5 (head1 (Jvm.Cond.code mn5 jdk_52_method_83_code 2 (some .char) :: ws) ({ frames := 3, cells := 0, slots := 0, locals := 40 } : Room)) (fun a U => a = #[(.ref a3), (.int (3 : Int32))] ∧ Z.Warmed39 U.vm ∧ U.heap = h0) (fun _ _ _ _ _ => True) (fun _ U o U' => ∃ v L, o = .returned v ∧ Qrmua3 Z a3 k3 x0 x1 x2 x3 x4 x5 x6 x7 fv h0 n0 v U'.heap L ∧ FrameEnd U o U' L ({ frames := 3, cells := 0, slots := 0, locals := 40 } : Room).cells ({ frames := 3, cells := 0, slots := 0, locals := 40 } : Room).slots) := by
 refine MetFree.of_bodySF (plainFor_of_name pn_20) hisR ?_
 intro p e s m args below meth c s₁ Bd hml0 hP hK
 obtain ⟨rfl, hZ, hh⟩ := hP
 have hx := Bd.exec
 have hby := Bd.bytes
 have hml : c.maxLocals = 2 := hml0
 have hown : s.vm.findClass "java/lang/StringUTF16" = some m.cls := findClass_of_methodNamed Bd.named
 have hnm := (name_of_methodNamed Bd.named Bd.method).1
 have X0 : Stand p l e ({ frames := 3, cells := 0, slots := 0, locals := 40 } : Room) s m #[(.ref a3), (.int (3 : Int32))] below meth c s₁ [] 0 0 := Stand.of_body Bd
 have e0 : s₁.heap = h0 := by rw [← hh, Bd.state]; rfl
 have N0 := Fr.nil n0
 refine own_go (b := (s₁.setTop (mkF m 0 #[rv a3, iv (3 : Int32)] []))) (fun _ k => castTop (ef_rmua3 m a3 (3 : Int32)) k) ?_
 refine own_go (b := (s₁.setTop (mkF m 2 #[rv a3, iv (3 : Int32)] [(.ref a3), (.int (3 : Int32))]))) (fun _ k => XS.iloadN X0.here hx rfl (hb hby d20_0) rfl (XS.aloadN X0.here hx rfl (hb hby d20_1) rfl rfl k)) ?_
 refine own_stat (W := 0) X0 hx hZ hown e0 (ow hw 87 rfl) (ow hw 88 rfl) (rmuc l Z a0 hw [] (3 : Int32) a3 k3 x0 x1 x2 x3 x4 x5 x6 x7 fv h0 n0 Z0 O0 S_SIOOBE_FORMATTER hfv V_a3 (by decide) (by decide)) (ow hw 89 rfl) (ow hw 22 rfl) rfl (by rw [hml]; rfl) rfl (hb hby d20_2) (lenOf pd__I_B_V rfl) rfl (by decide) (fun T1 v1 Ll1 X1 hQ1 => ?_)
 obtain ⟨rfl, N1q, eh1⟩ := hQ1
 have N1 := Fr.app N0 N1q
 refine own_go (b := (T1.setTop (mkF m 7 #[rv a3, iv (3 : Int32)] [(.int (3 : Int32)), (.ref a3)]))) (fun _ k => XS.aloadN X1.here hx rfl (hb hby d20_5) rfl rfl (XS.iloadN X1.here hx rfl (hb hby d20_6) rfl k)) ?_
 refine own_stat (W := 0) X1 hx hZ hown eh1 (ow hw 81 rfl) (ow hw 82 rfl) (rmget3 l Z a0 hw [] a3 k3 x0 x1 x2 x3 x4 x5 x6 x7 h0 n0 Z0 O0 S__assertionsDisabled S_HI_BYTE_SHIFT S_LO_BYTE_SHIFT V_a3) (ow hw 83 rfl) (ow hw 22 rfl) rfl (by rw [hml]; rfl) rfl (hb hby d20_7) (lenOf pd___BI_C rfl) rfl (by decide) (fun T2 v2 Ll2 X2 hQ2 => ?_)
 obtain ⟨rfl, N2q, eh2⟩ := hQ2
 have N2 := Fr.app N1 N2q
 obtain ⟨fs, hr, hrun, hended, hW, hsame⟩ := X2.leave (v := some (.int (nar .char (own_gc x6 x7)))) (fun h => by rw [Bd.returns] at h; cases h)
 exact ⟨_, _, retN X2 hx (t := .char) Bd.returns (by simp) (hb hby d20_10) hr, hrun, hended, _, _, rfl, (show Qrmua3 Z a3 k3 x0 x1 x2 x3 x4 x5 x6 x7 fv h0 n0 _ T2.heap _ from (by rw [eh2]; exact ⟨(congrArg (fun z => some (Value.int z)) (own_chn _)), N2, rfl⟩)), ⟨_, rfl⟩, hW, hsame.mono (by decide) (by decide)⟩
theorem ef_rmla3 (m : MethodId) (x0 : Addr) (x1 : Int32) : entryFrame m #[(.ref x0), (.int x1)] 2 = mkF m 0 #[rv x0, iv x1] [] := by first | (simp [entryFrame, mkF, argsToLocals, Value.category]; done) | rfl
def Qrmla3 (Z : State) (a3 : Addr) (k3 : ClassId) (x0 : Int32) (x1 : Int32) (x2 : Int32) (x3 : Int32) (fv : Value) (h0 : Heap) (n0 : Nat) (v : Option Value) (h : Heap) (L : List Loc) : Prop := v = some (.int (own_lc x3)) ∧ Fr n0 L ∧ h = h0
set_option maxRecDepth 65536 in
set_option maxHeartbeats 40000000 in
theorem rmla3 (l : Launch) (Z : State) (a0 : Array Value) (hw : ∀ d ∈ tables_1, d.before a0 Z = true) (ws : List Jvm.Cond) (a3 : Addr) (k3 : ClassId) (x0 : Int32) (x1 : Int32) (x2 : Int32) (x3 : Int32) (fv : Value) (h0 : Heap) (n0 : Nat) (Z0 : n0 ≤ h0.size) (O0 : Old Z n0 h0) (S_SIOOBE_FORMATTER : Sta Z Z.heap cs2 "SIOOBE_FORMATTER" "Ljava/util/function/BiFunction;" fv) (hfv : fv = .null ∨ ∃ x : Addr, fv = .ref x) (V_a3 : Arv Z h0 a3 k3 .byte (4 : Int32) [(.int x0), (.int x1), (.int x2), (.int x3)] (.int (0 : Int32))) :
    MetFree l mn4 (head1 (Jvm.Cond.code mn4 jdk_43_method_2_code 2 (some .char) :: ws) ({ frames := 2, cells := 0, slots := 0, locals := 27 } : Room)) (fun a U => a = #[(.ref a3), (.int (3 : Int32))] ∧ Z.Warmed39 U.vm ∧ U.heap = h0) (fun _ _ _ _ _ => True) (fun _ U o U' => ∃ v L, o = .returned v ∧ Qrmla3 Z a3 k3 x0 x1 x2 x3 fv h0 n0 v U'.heap L ∧ FrameEnd U o U' L ({ frames := 2, cells := 0, slots := 0, locals := 27 } : Room).cells ({ frames := 2, cells := 0, slots := 0, locals := 27 } : Room).slots) := by
 refine MetFree.of_bodySF (plainFor_of_name pn_12) hisR ?_
 intro p e s m args below meth c s₁ Bd hml0 hP hK
 obtain ⟨rfl, hZ, hh⟩ := hP
 have hx := Bd.exec
 have hby := Bd.bytes
 have hml : c.maxLocals = 2 := hml0
 have hown : s.vm.findClass "java/lang/StringLatin1" = some m.cls := findClass_of_methodNamed Bd.named
 have hnm := (name_of_methodNamed Bd.named Bd.method).1
 have X0 : Stand p l e ({ frames := 2, cells := 0, slots := 0, locals := 27 } : Room) s m #[(.ref a3), (.int (3 : Int32))] below meth c s₁ [] 0 0 := Stand.of_body Bd
 have e0 : s₁.heap = h0 := by rw [← hh, Bd.state]; rfl
 have N0 := Fr.nil n0
 refine own_go (b := (s₁.setTop (mkF m 0 #[rv a3, iv (3 : Int32)] []))) (fun _ k => castTop (ef_rmla3 m a3 (3 : Int32)) k) ?_
 refine own_go (b := (s₁.setTop (mkF m 2 #[rv a3, iv (3 : Int32)] [(.ref a3), (.int (3 : Int32))]))) (fun _ k => XS.iloadN X0.here hx rfl (hb hby d12_0) rfl (XS.aloadN X0.here hx rfl (hb hby d12_1) rfl rfl k)) ?_
 obtain ⟨cl1, Ar1, -, Sz1, Nn1, -, -⟩ := id V_a3
 refine own_go (b := (s₁.setTop (mkF m 3 #[rv a3, iv (3 : Int32)] [(.int (4 : Int32)), (.int (3 : Int32))]))) (fun _ k => X0.arraylength hx (by rw [e0]; exact Ar1.1) (State.isArrayOf_alike hZ.alike Ar1.2.1) (g := (mkF m 2 #[rv a3, iv (3 : Int32)] [(.ref a3), (.int (3 : Int32))])) rfl rfl (hb hby d12_2) _ (by rw [len_of Sz1 Nn1]; exact k)) ?_
 refine own_stat (W := 0) X0 hx hZ hown e0 (ow hw 57 rfl) (ow hw 58 rfl) (rmci l Z a0 hw [] (3 : Int32) (4 : Int32) fv h0 n0 Z0 O0 S_SIOOBE_FORMATTER hfv (by decide) (by decide)) (ow hw 59 rfl) (ow hw 8 rfl) rfl (by rw [hml]; rfl) rfl (hb hby d12_3) (lenOf pd__II_V rfl) rfl (by decide) (fun T2 v2 Ll2 X2 hQ2 => ?_)
 obtain ⟨rfl, N2q, eh2⟩ := hQ2
 have N2 := Fr.app N0 N2q
 refine own_go (b := (T2.setTop (mkF m 8 #[rv a3, iv (3 : Int32)] [(.int (3 : Int32)), (.ref a3)]))) (fun _ k => XS.aloadN X2.here hx rfl (hb hby d12_6) rfl rfl (XS.iloadN X2.here hx rfl (hb hby d12_7) rfl k)) ?_
 obtain ⟨cl3, Ar3, ql3, Sz3, Nn3, Hl3, Gl3⟩ := id V_a3
 have hin3 : ¬ ((3 : Int32) < 0 ∨ cl3.slots.size ≤ ((3 : Int32)).toNatClampNeg) := inb_of Sz3 ⟨by decide, by decide⟩
 refine own_go (b := (T2.setTop (mkF m 14 #[rv a3, iv (3 : Int32)] [(.int ((x3 &&& (255 : Int32)).toUInt32.toUInt16.toUInt32.toInt32))]))) (fun _ k => X2.baloadBytes hx (j := (3 : Int32)) (v := (.int x3)) (by rw [eh2]; exact Ar3.1) (State.isArrayOf_alike hZ.alike Ar3.2.1) Ar3.2.2 hin3 (Hl3.at hin3 rfl) (g := (mkF m 8 #[rv a3, iv (3 : Int32)] [(.int (3 : Int32)), (.ref a3)])) rfl rfl (hb hby d12_8) _ (XS.sipush X2.here hx rfl (hb hby d12_9) (XS.iand X2.here hx rfl (hb hby d12_12) rfl (XS.i2c X2.here hx rfl (hb hby d12_13) rfl k)))) ?_
 obtain ⟨fs, hr, hrun, hended, hW, hsame⟩ := X2.leave (v := some (.int (nar .char ((x3 &&& (255 : Int32)).toUInt32.toUInt16.toUInt32.toInt32)))) (fun h => by rw [Bd.returns] at h; cases h)
 exact ⟨_, _, retN X2 hx (t := .char) Bd.returns (by simp) (hb hby d12_14) hr, hrun, hended, _, _, rfl, (show Qrmla3 Z a3 k3 x0 x1 x2 x3 fv h0 n0 _ T2.heap _ from (by rw [eh2]; exact ⟨rfl, N2, rfl⟩)), ⟨_, rfl⟩, hW, hsame.mono (by decide) (by decide)⟩
theorem ef_rmca3 (m : MethodId) (x0 : Addr) (x1 : Int32) : entryFrame m #[(.ref x0), (.int x1)] 2 = mkF m 0 #[rv x0, iv x1] [] := by first | (simp [entryFrame, mkF, argsToLocals, Value.category]; done) | rfl
def Qrmca3 (Z : State) (a1 : Addr) (c0 : Int32) (c1 : Int32) (c2 : Int32) (c3 : Int32) (cs : Int32) (fv : Value) (h0 : Heap) (n0 : Nat) (v : Option Value) (h : Heap) (L : List Loc) : Prop := v = some (.int c3) ∧ Fr n0 L ∧ h = h0
set_option maxRecDepth 65536 in
set_option maxHeartbeats 40000000 in
theorem rmca3 (l : Launch) (Z : State) (a0 : Array Value) (hw : ∀ d ∈ tables_1, d.before a0 Z = true) (ws : List Jvm.Cond) (a1 : Addr) (c0 : Int32) (c1 : Int32) (c2 : Int32) (c3 : Int32) (cs : Int32) (fv : Value) (h0 : Heap) (n0 : Nat) (Z0 : n0 ≤ h0.size) (O0 : Old Z n0 h0) (S_COMPACT_STRINGS : Sta Z Z.heap "java/lang/String" "COMPACT_STRINGS" "Z" (.int cs)) (hcs : ¬ (cs = (0 : Int32))) (S__assertionsDisabled : Sta Z Z.heap "java/lang/StringUTF16" "$assertionsDisabled" "Z" (.int (1 : Int32))) (S_HI_BYTE_SHIFT : Sta Z Z.heap "java/lang/StringUTF16" "HI_BYTE_SHIFT" "I" (.int (0 : Int32))) (S_LO_BYTE_SHIFT : Sta Z Z.heap "java/lang/StringUTF16" "LO_BYTE_SHIFT" "I" (.int (8 : Int32))) (S_SIOOBE_FORMATTER : Sta Z Z.heap cs2 "SIOOBE_FORMATTER" "Ljava/util/function/BiFunction;" fv) (hfv : fv = .null ∨ ∃ x : Addr, fv = .ref x) (own_str_a1 : own_str Z h0 a1 c0 c1 c2 c3) :
    MetFree l mn6 (head1 (Jvm.Cond.code mn6 jdk_42_method_56_code 2 (some .char) :: ws) ({ frames := 4, cells := 0, slots := 0, locals := 53 } : Room)) (fun a U => a = #[(.ref a1), (.int (3 : Int32))] ∧ Z.Warmed39 U.vm ∧ U.heap = h0) (fun _ _ _ _ _ => True) (fun _ U o U' => ∃ v L, o = .returned v ∧ Qrmca3 Z a1 c0 c1 c2 c3 cs fv h0 n0 v U'.heap L ∧ FrameEnd U o U' L ({ frames := 4, cells := 0, slots := 0, locals := 53 } : Room).cells ({ frames := 4, cells := 0, slots := 0, locals := 53 } : Room).slots) := by
 refine MetFree.of_bodySF (plainFor_of_name pn_10) hisR ?_
 intro p e s m args below meth c s₁ Bd hml0 hP hK
 obtain ⟨rfl, hZ, hh⟩ := hP
 have hx := Bd.exec
 have hby := Bd.bytes
 have hml : c.maxLocals = 2 := hml0
 have hown : s.vm.findClass "java/lang/String" = some m.cls := findClass_of_methodNamed Bd.named
 have hnm := (name_of_methodNamed Bd.named Bd.method).1
 have X0 : Stand p l e ({ frames := 4, cells := 0, slots := 0, locals := 53 } : Room) s m #[(.ref a1), (.int (3 : Int32))] below meth c s₁ [] 0 0 := Stand.of_body Bd
 have e0 : s₁.heap = h0 := by rw [← hh, Bd.state]; rfl
 have N0 := Fr.nil n0
 refine own_go (b := (s₁.setTop (mkF m 0 #[rv a1, iv (3 : Int32)] []))) (fun _ k => castTop (ef_rmca3 m a1 (3 : Int32)) k) ?_
 obtain ⟨⟨hch0, hch1, hch2, hch3⟩, b, kb, E_a1, Fv, hcd⟩ := own_str_a1
 rcases hcd with ⟨Fc, Vb, hn0, hn1, hn2, hn3⟩ | ⟨Fc, Vb⟩
 · skip
   refine own_go (b := (s₁.setTop (mkF m 1 #[rv a1, iv (3 : Int32)] [(.ref a1)]))) (fun _ k => XS.aloadN X0.here hx rfl (hb hby d10_0) rfl rfl k) ?_
   refine own_virt (W := 0) X0 hx hZ hown e0 (ow hw 48 rfl) (ow hw 49 rfl) (ow hw 51 rfl) (ow hw 50 rfl) (rmil0 l Z a0 hw [] a1 cs h0 n0 Z0 O0 S_COMPACT_STRINGS hcs Fc) (ow hw 52 rfl) (ow hw 8 rfl) E_a1 rfl (by rw [hml]; rfl) rfl (hb hby d10_1) (lenOf pd___Z rfl) rfl (by decide) (fun T1 v1 Ll1 X1 hQ1 => ?_)
   obtain ⟨rfl, N1q, eh1⟩ := hQ1
   have N1 := Fr.app N0 N1q
   refine own_go (b := (T1.setTop (mkF m 8 #[rv a1, iv (3 : Int32)] [(.ref a1)]))) (fun _ k => XS.ifNo X1.here hx rfl (hb hby d10_4) rfl ((if0 _ _).trans (feq (by decide : ¬ ((1 : Int32) = (0 : Int32)))).1) (XS.aloadN X1.here hx rfl (hb hby d10_7) rfl rfl k)) ?_
   refine own_getf X1 hx hZ hown (ow hw 33 rfl) Via.refl eh1 Fv rfl rfl (hb hby d10_8) (fun T2 X2 e2 => ?_)
   refine own_go (b := (T2.setTop (mkF m 12 #[rv a1, iv (3 : Int32)] [(.int (3 : Int32)), (.ref b)]))) (fun _ k => XS.iloadN X2.here hx rfl (hb hby d10_11) rfl k) ?_
   refine own_stat (W := 0) X2 hx hZ hown e2 (ow hw 53 rfl) (ow hw 54 rfl) (rmla3 l Z a0 hw [] b kb (own_lt c0) (own_lt c1) (own_lt c2) (own_lt c3) fv h0 n0 Z0 O0 S_SIOOBE_FORMATTER hfv Vb) (ow hw 56 rfl) (ow hw 55 rfl) rfl (by rw [hml]; rfl) rfl (hb hby d10_12) (lenOf pd___BI_C rfl) rfl (by decide) (fun T3 v3 Ll3 X3 hQ3 => ?_)
   obtain ⟨rfl, N3q, eh3⟩ := hQ3
   have N3 := Fr.app N1 N3q
   obtain ⟨fs, hr, hrun, hended, hW, hsame⟩ := X3.leave (v := some (.int (nar .char (own_lc (own_lt c3))))) (fun h => by rw [Bd.returns] at h; cases h)
   exact ⟨_, _, retN X3 hx (t := .char) Bd.returns (by simp) (hb hby d10_15) hr, hrun, hended, _, _, rfl, (show Qrmca3 Z a1 c0 c1 c2 c3 cs fv h0 n0 _ T3.heap _ from (by rw [eh3]; exact ⟨(congrArg (fun z => some (Value.int z)) ((own_chn _).trans (own_lce hch3 hn3))), N3, rfl⟩)), ⟨_, rfl⟩, hW, hsame.mono (by decide) (by decide)⟩
 · skip
   refine own_go (b := (s₁.setTop (mkF m 1 #[rv a1, iv (3 : Int32)] [(.ref a1)]))) (fun _ k => XS.aloadN X0.here hx rfl (hb hby d10_0) rfl rfl k) ?_
   refine own_virt (W := 0) X0 hx hZ hown e0 (ow hw 48 rfl) (ow hw 49 rfl) (ow hw 51 rfl) (ow hw 50 rfl) (rmil1 l Z a0 hw [] a1 cs h0 n0 Z0 O0 S_COMPACT_STRINGS hcs Fc) (ow hw 52 rfl) (ow hw 8 rfl) E_a1 rfl (by rw [hml]; rfl) rfl (hb hby d10_1) (lenOf pd___Z rfl) rfl (by decide) (fun T4 v4 Ll4 X4 hQ4 => ?_)
   obtain ⟨rfl, N4q, eh4⟩ := hQ4
   have N4 := Fr.app N0 N4q
   refine own_go (b := (T4.setTop (mkF m 17 #[rv a1, iv (3 : Int32)] [(.ref a1)]))) (fun _ k => XS.ifYes X4.here hx rfl (pc0 := 4) (pc' := 16) rfl (hb hby d10_4) rfl ((if0 _ _).trans (teq (rfl : (0 : Int32) = (0 : Int32))).1) (by decide) (by decide) (XS.aloadN X4.here hx rfl (hb hby d10_16) rfl rfl k)) ?_
   refine own_getf X4 hx hZ hown (ow hw 33 rfl) Via.refl eh4 Fv rfl rfl (hb hby d10_17) (fun T5 X5 e5 => ?_)
   refine own_go (b := (T5.setTop (mkF m 21 #[rv a1, iv (3 : Int32)] [(.int (3 : Int32)), (.ref b)]))) (fun _ k => XS.iloadN X5.here hx rfl (hb hby d10_20) rfl k) ?_
   refine own_stat (W := 0) X5 hx hZ hown e5 (ow hw 84 rfl) (ow hw 85 rfl) (rmua3 l Z a0 hw [] b kb (own_lo c0) (own_hi c0) (own_lo c1) (own_hi c1) (own_lo c2) (own_hi c2) (own_lo c3) (own_hi c3) fv h0 n0 Z0 O0 S_SIOOBE_FORMATTER hfv S__assertionsDisabled S_HI_BYTE_SHIFT S_LO_BYTE_SHIFT Vb) (ow hw 86 rfl) (ow hw 22 rfl) rfl (by rw [hml]; rfl) rfl (hb hby d10_21) (lenOf pd___BI_C rfl) rfl (by decide) (fun T6 v6 Ll6 X6 hQ6 => ?_)
   obtain ⟨rfl, N6q, eh6⟩ := hQ6
   have N6 := Fr.app N4 N6q
   obtain ⟨fs, hr, hrun, hended, hW, hsame⟩ := X6.leave (v := some (.int (nar .char (own_gc (own_lo c3) (own_hi c3))))) (fun h => by rw [Bd.returns] at h; cases h)
   exact ⟨_, _, retN X6 hx (t := .char) Bd.returns (by simp) (hb hby d10_24) hr, hrun, hended, _, _, rfl, (show Qrmca3 Z a1 c0 c1 c2 c3 cs fv h0 n0 _ T6.heap _ from (by rw [eh6]; exact ⟨(congrArg (fun z => some (Value.int z)) ((own_chn _).trans (own_gch hch3))), N6, rfl⟩)), ⟨_, rfl⟩, hW, hsame.mono (by decide) (by decide)⟩
theorem d8_0 : decode prog_5_method_32_code 0 = .ok (.iload_n 2, 1) := by decide +kernel
theorem d8_1 : decode prog_5_method_32_code 1 = .ok (.istore_n 3, 1) := by decide +kernel
theorem d8_2 : decode prog_5_method_32_code 2 = .ok (.iload_n 3, 1) := by decide +kernel
theorem d8_3 : decode prog_5_method_32_code 3 = .ok (.iload_n 1, 1) := by decide +kernel
theorem d8_4 : decode prog_5_method_32_code 4 = .ok (.if_icmp .le 21, 3) := by decide +kernel
theorem d8_7 : decode prog_5_method_32_code 7 = .ok (.aload_n 0, 1) := by decide +kernel
theorem d8_8 : decode prog_5_method_32_code 8 = .ok (.iload_n 3, 1) := by decide +kernel
theorem d8_9 : decode prog_5_method_32_code 9 = .ok (.iconst 1, 1) := by decide +kernel
theorem d8_10 : decode prog_5_method_32_code 10 = .ok (.isub, 1) := by decide +kernel
theorem d8_11 : decode prog_5_method_32_code 11 = .ok (.invokevirtual 128, 3) := by decide +kernel
theorem d8_14 : decode prog_5_method_32_code 14 = .ok (.bipush 32, 2) := by decide +kernel
theorem d8_16 : decode prog_5_method_32_code 16 = .ok (.if_icmp .ne 9, 3) := by decide +kernel
theorem d8_19 : decode prog_5_method_32_code 19 = .ok (.iinc 3 (-1), 3) := by decide +kernel
theorem d8_22 : decode prog_5_method_32_code 22 = .ok (.goto (-20), 3) := by decide +kernel
theorem d8_25 : decode prog_5_method_32_code 25 = .ok (.iload_n 3, 1) := by decide +kernel
theorem d8_26 : decode prog_5_method_32_code 26 = .ok (.ireturn, 1) := by decide +kernel
theorem pn_8 : plainName cs0 = true := by first | (simp [plainName, overriddenIn]; done) | decide +kernel
theorem ef_rmts0_0 (m : MethodId) (x0 : Addr) (x1 : Int32) (x2 : Int32) : entryFrame m #[(.ref x0), (.int x1), (.int x2)] 4 = mkF m 0 #[rv x0, iv x1, iv x2, .unset] [] := by first | (simp [entryFrame, mkF, argsToLocals, Value.category]; done) | rfl
def Qrmts0_0 (Z : State) (a1 : Addr) (c0 : Int32) (c1 : Int32) (c2 : Int32) (c3 : Int32) (cs : Int32) (fv : Value) (h0 : Heap) (n0 : Nat) (v : Option Value) (h : Heap) (L : List Loc) : Prop := ∃ (r : Int32), v = some (.int r) ∧ Fr n0 L ∧ h = h0 ∧ ((r = (0 : Int32)))
set_option maxRecDepth 65536 in
set_option maxHeartbeats 40000000 in
theorem rmts0_0 (l : Launch) (Z : State) (a0 : Array Value) (hw : ∀ d ∈ tables_1, d.before a0 Z = true) (ws : List Jvm.Cond) (a1 : Addr) (c0 : Int32) (c1 : Int32) (c2 : Int32) (c3 : Int32) (cs : Int32) (fv : Value) (h0 : Heap) (n0 : Nat) (Z0 : n0 ≤ h0.size) (O0 : Old Z n0 h0) (S_COMPACT_STRINGS : Sta Z Z.heap "java/lang/String" "COMPACT_STRINGS" "Z" (.int cs)) (hcs : ¬ (cs = (0 : Int32))) (S__assertionsDisabled : Sta Z Z.heap "java/lang/StringUTF16" "$assertionsDisabled" "Z" (.int (1 : Int32))) (S_HI_BYTE_SHIFT : Sta Z Z.heap "java/lang/StringUTF16" "HI_BYTE_SHIFT" "I" (.int (0 : Int32))) (S_LO_BYTE_SHIFT : Sta Z Z.heap "java/lang/StringUTF16" "LO_BYTE_SHIFT" "I" (.int (8 : Int32))) (S_SIOOBE_FORMATTER : Sta Z Z.heap cs2 "SIOOBE_FORMATTER" "Ljava/util/function/BiFunction;" fv) (hfv : fv = .null ∨ ∃ x : Addr, fv = .ref x) (E_a1 : Exa Z h0 a1 "java/lang/String") (own_str_a1 : own_str Z h0 a1 c0 c1 c2 c3) :
    MetFree l mn0 (head1 (Jvm.Cond.code mn0 prog_5_method_32_code 4 (some .int) :: ws) ({ frames := 0, cells := 0, slots := 0, locals := 0 } : Room)) (fun a U => a = #[(.ref a1), (.int (0 : Int32)), (.int (0 : Int32))] ∧ Z.Warmed39 U.vm ∧ U.heap = h0) (fun _ _ _ _ _ => True) (fun _ U o U' => ∃ v L, o = .returned v ∧ Qrmts0_0 Z a1 c0 c1 c2 c3 cs fv h0 n0 v U'.heap L ∧ FrameEnd U o U' L ({ frames := 0, cells := 0, slots := 0, locals := 0 } : Room).cells ({ frames := 0, cells := 0, slots := 0, locals := 0 } : Room).slots) := by
 refine MetFree.of_bodySF (plainFor_of_name pn_8) hisR ?_
 intro p e s m args below meth c s₁ Bd hml0 hP hK
 obtain ⟨rfl, hZ, hh⟩ := hP
 have hx := Bd.exec
 have hby := Bd.bytes
 have hml : c.maxLocals = 4 := hml0
 have hown : s.vm.findClass cs0 = some m.cls := findClass_of_methodNamed Bd.named
 have hnm := (name_of_methodNamed Bd.named Bd.method).1
 have X0 : Stand p l e ({ frames := 0, cells := 0, slots := 0, locals := 0 } : Room) s m #[(.ref a1), (.int (0 : Int32)), (.int (0 : Int32))] below meth c s₁ [] 0 0 := Stand.of_body Bd
 have e0 : s₁.heap = h0 := by rw [← hh, Bd.state]; rfl
 have N0 := Fr.nil n0
 refine own_go (b := (s₁.setTop (mkF m 0 #[rv a1, iv (0 : Int32), iv (0 : Int32), .unset] []))) (fun _ k => castTop (ef_rmts0_0 m a1 (0 : Int32) (0 : Int32)) k) ?_
 refine own_go (b := (s₁.setTop (mkF m 26 #[rv a1, iv (0 : Int32), iv (0 : Int32), iv (0 : Int32)] [(.int (0 : Int32))]))) (fun _ k => XS.iloadN X0.here hx rfl (hb hby d8_0) rfl (XS.istoreN X0.here hx rfl (hb hby d8_1) rfl (l' := #[rv a1, iv (0 : Int32), iv (0 : Int32), iv (0 : Int32)]) rfl (XS.iloadN X0.here hx rfl (hb hby d8_2) rfl (XS.iloadN X0.here hx rfl (hb hby d8_3) rfl (XS.icmpYes X0.here hx rfl (pc0 := 4) (pc' := 25) rfl (hb hby d8_4) rfl (flt (by decide : ¬ ((0 : Int32) < (0 : Int32)))).2.2.2 (by decide) (by decide) (XS.iloadN X0.here hx rfl (hb hby d8_25) rfl k)))))) ?_
 obtain ⟨fs, hr, hrun, hended, hW, hsame⟩ := X0.leave (v := some (.int (0 : Int32))) (fun h => by rw [Bd.returns] at h; cases h)
 exact ⟨_, _, retOut X0 hx Bd.returns rfl (Or.inl ⟨rfl, Or.inl rfl, _, rfl⟩) (hb hby d8_26) hr, hrun, hended, _, _, rfl, (show Qrmts0_0 Z a1 c0 c1 c2 c3 cs fv h0 n0 _ s₁.heap _ from (by rw [e0]; exact ⟨(0 : Int32), rfl, N0, rfl, (rfl)⟩)), ⟨_, rfl⟩, hW, hsame.mono (by decide) (by decide)⟩
theorem pd__I_C : parseMethodDescriptor "(I)C" = some ⟨[.int], some .char⟩ := by decide +kernel
theorem ef_rmts0_1 (m : MethodId) (x0 : Addr) (x1 : Int32) (x2 : Int32) : entryFrame m #[(.ref x0), (.int x1), (.int x2)] 4 = mkF m 0 #[rv x0, iv x1, iv x2, .unset] [] := by first | (simp [entryFrame, mkF, argsToLocals, Value.category]; done) | rfl
def Qrmts0_1 (Z : State) (a1 : Addr) (c0 : Int32) (c1 : Int32) (c2 : Int32) (c3 : Int32) (cs : Int32) (fv : Value) (h0 : Heap) (n0 : Nat) (v : Option Value) (h : Heap) (L : List Loc) : Prop := ∃ (r : Int32), v = some (.int r) ∧ Fr n0 L ∧ h = h0 ∧ ((r = (1 : Int32) ∧ ¬ (c0 = (32 : Int32))) ∨ (r = (0 : Int32) ∧ c0 = (32 : Int32)))
set_option maxRecDepth 65536 in
set_option maxHeartbeats 40000000 in
theorem rmts0_1 (l : Launch) (Z : State) (a0 : Array Value) (hw : ∀ d ∈ tables_1, d.before a0 Z = true) (ws : List Jvm.Cond) (a1 : Addr) (c0 : Int32) (c1 : Int32) (c2 : Int32) (c3 : Int32) (cs : Int32) (fv : Value) (h0 : Heap) (n0 : Nat) (Z0 : n0 ≤ h0.size) (O0 : Old Z n0 h0) (S_COMPACT_STRINGS : Sta Z Z.heap "java/lang/String" "COMPACT_STRINGS" "Z" (.int cs)) (hcs : ¬ (cs = (0 : Int32))) (S__assertionsDisabled : Sta Z Z.heap "java/lang/StringUTF16" "$assertionsDisabled" "Z" (.int (1 : Int32))) (S_HI_BYTE_SHIFT : Sta Z Z.heap "java/lang/StringUTF16" "HI_BYTE_SHIFT" "I" (.int (0 : Int32))) (S_LO_BYTE_SHIFT : Sta Z Z.heap "java/lang/StringUTF16" "LO_BYTE_SHIFT" "I" (.int (8 : Int32))) (S_SIOOBE_FORMATTER : Sta Z Z.heap cs2 "SIOOBE_FORMATTER" "Ljava/util/function/BiFunction;" fv) (hfv : fv = .null ∨ ∃ x : Addr, fv = .ref x) (E_a1 : Exa Z h0 a1 "java/lang/String") (own_str_a1 : own_str Z h0 a1 c0 c1 c2 c3) :
    MetFree l mn0 (head1 (Jvm.Cond.code mn0 prog_5_method_32_code 4 (some .int) :: ws) ({ frames := 5, cells := 0, slots := 0, locals := 66 } : Room)) (fun a U => a = #[(.ref a1), (.int (0 : Int32)), (.int (1 : Int32))] ∧ Z.Warmed39 U.vm ∧ U.heap = h0) (fun _ _ _ _ _ => True) (fun _ U o U' => ∃ v L, o = .returned v ∧ Qrmts0_1 Z a1 c0 c1 c2 c3 cs fv h0 n0 v U'.heap L ∧ FrameEnd U o U' L ({ frames := 5, cells := 0, slots := 0, locals := 66 } : Room).cells ({ frames := 5, cells := 0, slots := 0, locals := 66 } : Room).slots) := by
 refine MetFree.of_bodySF (plainFor_of_name pn_8) hisR ?_
 intro p e s m args below meth c s₁ Bd hml0 hP hK
 obtain ⟨rfl, hZ, hh⟩ := hP
 have hx := Bd.exec
 have hby := Bd.bytes
 have hml : c.maxLocals = 4 := hml0
 have hown : s.vm.findClass cs0 = some m.cls := findClass_of_methodNamed Bd.named
 have hnm := (name_of_methodNamed Bd.named Bd.method).1
 have X0 : Stand p l e ({ frames := 5, cells := 0, slots := 0, locals := 66 } : Room) s m #[(.ref a1), (.int (0 : Int32)), (.int (1 : Int32))] below meth c s₁ [] 0 0 := Stand.of_body Bd
 have e0 : s₁.heap = h0 := by rw [← hh, Bd.state]; rfl
 have N0 := Fr.nil n0
 refine own_go (b := (s₁.setTop (mkF m 0 #[rv a1, iv (0 : Int32), iv (1 : Int32), .unset] []))) (fun _ k => castTop (ef_rmts0_1 m a1 (0 : Int32) (1 : Int32)) k) ?_
 refine own_go (b := (s₁.setTop (mkF m 11 #[rv a1, iv (0 : Int32), iv (1 : Int32), iv (1 : Int32)] [(.int (0 : Int32)), (.ref a1)]))) (fun _ k => XS.iloadN X0.here hx rfl (hb hby d8_0) rfl (XS.istoreN X0.here hx rfl (hb hby d8_1) rfl (l' := #[rv a1, iv (0 : Int32), iv (1 : Int32), iv (1 : Int32)]) rfl (XS.iloadN X0.here hx rfl (hb hby d8_2) rfl (XS.iloadN X0.here hx rfl (hb hby d8_3) rfl (XS.icmpNo X0.here hx rfl (hb hby d8_4) rfl (tlt (by decide : (0 : Int32) < (1 : Int32))).2.2.2 (XS.aloadN X0.here hx rfl (hb hby d8_7) rfl rfl (XS.iloadN X0.here hx rfl (hb hby d8_8) rfl (XS.iconst X0.here hx rfl (hb hby d8_9) (XS.isub X0.here hx rfl (hb hby d8_10) rfl k))))))))) ?_
 refine own_virt (W := 0) X0 hx hZ hown e0 (ow hw 43 rfl) (ow hw 44 rfl) (ow hw 46 rfl) (ow hw 45 rfl) (rmca0 l Z a0 hw [] a1 c0 c1 c2 c3 cs fv h0 n0 Z0 O0 S_COMPACT_STRINGS hcs S__assertionsDisabled S_HI_BYTE_SHIFT S_LO_BYTE_SHIFT S_SIOOBE_FORMATTER hfv own_str_a1) (ow hw 47 rfl) (ow hw 8 rfl) E_a1 rfl (by rw [hml]; rfl) rfl (hb hby d8_11) (lenOf pd__I_C rfl) rfl (by decide) (fun T1 v1 Ll1 X1 hQ1 => ?_)
 obtain ⟨rfl, N1q, eh1⟩ := hQ1
 have N1 := Fr.app N0 N1q
 refine own_go (b := (T1.setTop (mkF m 16 #[rv a1, iv (0 : Int32), iv (1 : Int32), iv (1 : Int32)] [(.int (32 : Int32)), (.int c0)]))) (fun _ k => XS.bipush X1.here hx rfl (hb hby d8_14) k) ?_
 by_cases hc16_2 : c0 = (32 : Int32)
 · skip
   refine own_go (b := (T1.setTop (mkF m 26 #[rv a1, iv (0 : Int32), iv (1 : Int32), iv (0 : Int32)] [(.int (0 : Int32))]))) (fun _ k => XS.icmpNo X1.here hx rfl (hb hby d8_16) rfl (teq hc16_2).2 (XS.iinc X1.here hx rfl (hb hby d8_19) rfl (l' := #[rv a1, iv (0 : Int32), iv (1 : Int32), iv (0 : Int32)]) rfl (XS.goto X1.here hx rfl (pc0 := 22) (pc' := 2) rfl (hb hby d8_22) (by decide) (by decide) (XS.iloadN X1.here hx rfl (hb hby d8_2) rfl (XS.iloadN X1.here hx rfl (hb hby d8_3) rfl (XS.icmpYes X1.here hx rfl (pc0 := 4) (pc' := 25) rfl (hb hby d8_4) rfl (flt (by decide : ¬ ((0 : Int32) < (0 : Int32)))).2.2.2 (by decide) (by decide) (XS.iloadN X1.here hx rfl (hb hby d8_25) rfl k))))))) ?_
   obtain ⟨fs, hr, hrun, hended, hW, hsame⟩ := X1.leave (v := some (.int (0 : Int32))) (fun h => by rw [Bd.returns] at h; cases h)
   exact ⟨_, _, retOut X1 hx Bd.returns rfl (Or.inl ⟨rfl, Or.inl rfl, _, rfl⟩) (hb hby d8_26) hr, hrun, hended, _, _, rfl, (show Qrmts0_1 Z a1 c0 c1 c2 c3 cs fv h0 n0 _ T1.heap _ from (by rw [eh1]; exact ⟨(0 : Int32), rfl, N1, rfl, (Or.inr (⟨rfl, hc16_2⟩))⟩)), ⟨_, rfl⟩, hW, hsame.mono (by decide) (by decide)⟩
 · skip
   refine own_go (b := (T1.setTop (mkF m 26 #[rv a1, iv (0 : Int32), iv (1 : Int32), iv (1 : Int32)] [(.int (1 : Int32))]))) (fun _ k => XS.icmpYes X1.here hx rfl (pc0 := 16) (pc' := 25) rfl (hb hby d8_16) rfl (feq hc16_2).2 (by decide) (by decide) (XS.iloadN X1.here hx rfl (hb hby d8_25) rfl k)) ?_
   obtain ⟨fs, hr, hrun, hended, hW, hsame⟩ := X1.leave (v := some (.int (1 : Int32))) (fun h => by rw [Bd.returns] at h; cases h)
   exact ⟨_, _, retOut X1 hx Bd.returns rfl (Or.inl ⟨rfl, Or.inl rfl, _, rfl⟩) (hb hby d8_26) hr, hrun, hended, _, _, rfl, (show Qrmts0_1 Z a1 c0 c1 c2 c3 cs fv h0 n0 _ T1.heap _ from (by rw [eh1]; exact ⟨(1 : Int32), rfl, N1, rfl, (Or.inl ⟨rfl, hc16_2⟩)⟩)), ⟨_, rfl⟩, hW, hsame.mono (by decide) (by decide)⟩
theorem ef_rmts0_2 (m : MethodId) (x0 : Addr) (x1 : Int32) (x2 : Int32) : entryFrame m #[(.ref x0), (.int x1), (.int x2)] 4 = mkF m 0 #[rv x0, iv x1, iv x2, .unset] [] := by first | (simp [entryFrame, mkF, argsToLocals, Value.category]; done) | rfl
def Qrmts0_2 (Z : State) (a1 : Addr) (c0 : Int32) (c1 : Int32) (c2 : Int32) (c3 : Int32) (cs : Int32) (fv : Value) (h0 : Heap) (n0 : Nat) (v : Option Value) (h : Heap) (L : List Loc) : Prop := ∃ (r : Int32), v = some (.int r) ∧ Fr n0 L ∧ h = h0 ∧ ((r = (2 : Int32) ∧ ¬ (c1 = (32 : Int32))) ∨ (r = (1 : Int32) ∧ c1 = (32 : Int32) ∧ ¬ (c0 = (32 : Int32))) ∨ (r = (0 : Int32) ∧ c1 = (32 : Int32) ∧ c0 = (32 : Int32)))
set_option maxRecDepth 65536 in
set_option maxHeartbeats 40000000 in
theorem rmts0_2 (l : Launch) (Z : State) (a0 : Array Value) (hw : ∀ d ∈ tables_1, d.before a0 Z = true) (ws : List Jvm.Cond) (a1 : Addr) (c0 : Int32) (c1 : Int32) (c2 : Int32) (c3 : Int32) (cs : Int32) (fv : Value) (h0 : Heap) (n0 : Nat) (Z0 : n0 ≤ h0.size) (O0 : Old Z n0 h0) (S_COMPACT_STRINGS : Sta Z Z.heap "java/lang/String" "COMPACT_STRINGS" "Z" (.int cs)) (hcs : ¬ (cs = (0 : Int32))) (S__assertionsDisabled : Sta Z Z.heap "java/lang/StringUTF16" "$assertionsDisabled" "Z" (.int (1 : Int32))) (S_HI_BYTE_SHIFT : Sta Z Z.heap "java/lang/StringUTF16" "HI_BYTE_SHIFT" "I" (.int (0 : Int32))) (S_LO_BYTE_SHIFT : Sta Z Z.heap "java/lang/StringUTF16" "LO_BYTE_SHIFT" "I" (.int (8 : Int32))) (S_SIOOBE_FORMATTER : Sta Z Z.heap cs2 "SIOOBE_FORMATTER" "Ljava/util/function/BiFunction;" fv) (hfv : fv = .null ∨ ∃ x : Addr, fv = .ref x) (E_a1 : Exa Z h0 a1 "java/lang/String") (own_str_a1 : own_str Z h0 a1 c0 c1 c2 c3) :
    MetFree l mn0 (head1 (Jvm.Cond.code mn0 prog_5_method_32_code 4 (some .int) :: ws) ({ frames := 5, cells := 0, slots := 0, locals := 66 } : Room)) (fun a U => a = #[(.ref a1), (.int (0 : Int32)), (.int (2 : Int32))] ∧ Z.Warmed39 U.vm ∧ U.heap = h0) (fun _ _ _ _ _ => True) (fun _ U o U' => ∃ v L, o = .returned v ∧ Qrmts0_2 Z a1 c0 c1 c2 c3 cs fv h0 n0 v U'.heap L ∧ FrameEnd U o U' L ({ frames := 5, cells := 0, slots := 0, locals := 66 } : Room).cells ({ frames := 5, cells := 0, slots := 0, locals := 66 } : Room).slots) := by
 refine MetFree.of_bodySF (plainFor_of_name pn_8) hisR ?_
 intro p e s m args below meth c s₁ Bd hml0 hP hK
 obtain ⟨rfl, hZ, hh⟩ := hP
 have hx := Bd.exec
 have hby := Bd.bytes
 have hml : c.maxLocals = 4 := hml0
 have hown : s.vm.findClass cs0 = some m.cls := findClass_of_methodNamed Bd.named
 have hnm := (name_of_methodNamed Bd.named Bd.method).1
 have X0 : Stand p l e ({ frames := 5, cells := 0, slots := 0, locals := 66 } : Room) s m #[(.ref a1), (.int (0 : Int32)), (.int (2 : Int32))] below meth c s₁ [] 0 0 := Stand.of_body Bd
 have e0 : s₁.heap = h0 := by rw [← hh, Bd.state]; rfl
 have N0 := Fr.nil n0
 refine own_go (b := (s₁.setTop (mkF m 0 #[rv a1, iv (0 : Int32), iv (2 : Int32), .unset] []))) (fun _ k => castTop (ef_rmts0_2 m a1 (0 : Int32) (2 : Int32)) k) ?_
 refine own_go (b := (s₁.setTop (mkF m 11 #[rv a1, iv (0 : Int32), iv (2 : Int32), iv (2 : Int32)] [(.int (1 : Int32)), (.ref a1)]))) (fun _ k => XS.iloadN X0.here hx rfl (hb hby d8_0) rfl (XS.istoreN X0.here hx rfl (hb hby d8_1) rfl (l' := #[rv a1, iv (0 : Int32), iv (2 : Int32), iv (2 : Int32)]) rfl (XS.iloadN X0.here hx rfl (hb hby d8_2) rfl (XS.iloadN X0.here hx rfl (hb hby d8_3) rfl (XS.icmpNo X0.here hx rfl (hb hby d8_4) rfl (tlt (by decide : (0 : Int32) < (2 : Int32))).2.2.2 (XS.aloadN X0.here hx rfl (hb hby d8_7) rfl rfl (XS.iloadN X0.here hx rfl (hb hby d8_8) rfl (XS.iconst X0.here hx rfl (hb hby d8_9) (XS.isub X0.here hx rfl (hb hby d8_10) rfl k))))))))) ?_
 refine own_virt (W := 0) X0 hx hZ hown e0 (ow hw 43 rfl) (ow hw 44 rfl) (ow hw 46 rfl) (ow hw 45 rfl) (rmca1 l Z a0 hw [] a1 c0 c1 c2 c3 cs fv h0 n0 Z0 O0 S_COMPACT_STRINGS hcs S__assertionsDisabled S_HI_BYTE_SHIFT S_LO_BYTE_SHIFT S_SIOOBE_FORMATTER hfv own_str_a1) (ow hw 47 rfl) (ow hw 8 rfl) E_a1 rfl (by rw [hml]; rfl) rfl (hb hby d8_11) (lenOf pd__I_C rfl) rfl (by decide) (fun T1 v1 Ll1 X1 hQ1 => ?_)
 obtain ⟨rfl, N1q, eh1⟩ := hQ1
 have N1 := Fr.app N0 N1q
 refine own_go (b := (T1.setTop (mkF m 16 #[rv a1, iv (0 : Int32), iv (2 : Int32), iv (2 : Int32)] [(.int (32 : Int32)), (.int c1)]))) (fun _ k => XS.bipush X1.here hx rfl (hb hby d8_14) k) ?_
 by_cases hc16_2 : c1 = (32 : Int32)
 · skip
   refine own_go (b := (T1.setTop (mkF m 11 #[rv a1, iv (0 : Int32), iv (2 : Int32), iv (1 : Int32)] [(.int (0 : Int32)), (.ref a1)]))) (fun _ k => XS.icmpNo X1.here hx rfl (hb hby d8_16) rfl (teq hc16_2).2 (XS.iinc X1.here hx rfl (hb hby d8_19) rfl (l' := #[rv a1, iv (0 : Int32), iv (2 : Int32), iv (1 : Int32)]) rfl (XS.goto X1.here hx rfl (pc0 := 22) (pc' := 2) rfl (hb hby d8_22) (by decide) (by decide) (XS.iloadN X1.here hx rfl (hb hby d8_2) rfl (XS.iloadN X1.here hx rfl (hb hby d8_3) rfl (XS.icmpNo X1.here hx rfl (hb hby d8_4) rfl (tlt (by decide : (0 : Int32) < (1 : Int32))).2.2.2 (XS.aloadN X1.here hx rfl (hb hby d8_7) rfl rfl (XS.iloadN X1.here hx rfl (hb hby d8_8) rfl (XS.iconst X1.here hx rfl (hb hby d8_9) (XS.isub X1.here hx rfl (hb hby d8_10) rfl k)))))))))) ?_
   refine own_virt (W := 0) X1 hx hZ hown eh1 (ow hw 43 rfl) (ow hw 44 rfl) (ow hw 46 rfl) (ow hw 45 rfl) (rmca0 l Z a0 hw [] a1 c0 c1 c2 c3 cs fv h0 n0 Z0 O0 S_COMPACT_STRINGS hcs S__assertionsDisabled S_HI_BYTE_SHIFT S_LO_BYTE_SHIFT S_SIOOBE_FORMATTER hfv own_str_a1) (ow hw 47 rfl) (ow hw 8 rfl) E_a1 rfl (by rw [hml]; rfl) rfl (hb hby d8_11) (lenOf pd__I_C rfl) rfl (by decide) (fun T3 v3 Ll3 X3 hQ3 => ?_)
   obtain ⟨rfl, N3q, eh3⟩ := hQ3
   have N3 := Fr.app N1 N3q
   refine own_go (b := (T3.setTop (mkF m 16 #[rv a1, iv (0 : Int32), iv (2 : Int32), iv (1 : Int32)] [(.int (32 : Int32)), (.int c0)]))) (fun _ k => XS.bipush X3.here hx rfl (hb hby d8_14) k) ?_
   by_cases hc16_4 : c0 = (32 : Int32)
   · skip
     refine own_go (b := (T3.setTop (mkF m 26 #[rv a1, iv (0 : Int32), iv (2 : Int32), iv (0 : Int32)] [(.int (0 : Int32))]))) (fun _ k => XS.icmpNo X3.here hx rfl (hb hby d8_16) rfl (teq hc16_4).2 (XS.iinc X3.here hx rfl (hb hby d8_19) rfl (l' := #[rv a1, iv (0 : Int32), iv (2 : Int32), iv (0 : Int32)]) rfl (XS.goto X3.here hx rfl (pc0 := 22) (pc' := 2) rfl (hb hby d8_22) (by decide) (by decide) (XS.iloadN X3.here hx rfl (hb hby d8_2) rfl (XS.iloadN X3.here hx rfl (hb hby d8_3) rfl (XS.icmpYes X3.here hx rfl (pc0 := 4) (pc' := 25) rfl (hb hby d8_4) rfl (flt (by decide : ¬ ((0 : Int32) < (0 : Int32)))).2.2.2 (by decide) (by decide) (XS.iloadN X3.here hx rfl (hb hby d8_25) rfl k))))))) ?_
     obtain ⟨fs, hr, hrun, hended, hW, hsame⟩ := X3.leave (v := some (.int (0 : Int32))) (fun h => by rw [Bd.returns] at h; cases h)
     exact ⟨_, _, retOut X3 hx Bd.returns rfl (Or.inl ⟨rfl, Or.inl rfl, _, rfl⟩) (hb hby d8_26) hr, hrun, hended, _, _, rfl, (show Qrmts0_2 Z a1 c0 c1 c2 c3 cs fv h0 n0 _ T3.heap _ from (by rw [eh3]; exact ⟨(0 : Int32), rfl, N3, rfl, (Or.inr (Or.inr (⟨rfl, hc16_2, hc16_4⟩)))⟩)), ⟨_, rfl⟩, hW, hsame.mono (by decide) (by decide)⟩
   · skip
     refine own_go (b := (T3.setTop (mkF m 26 #[rv a1, iv (0 : Int32), iv (2 : Int32), iv (1 : Int32)] [(.int (1 : Int32))]))) (fun _ k => XS.icmpYes X3.here hx rfl (pc0 := 16) (pc' := 25) rfl (hb hby d8_16) rfl (feq hc16_4).2 (by decide) (by decide) (XS.iloadN X3.here hx rfl (hb hby d8_25) rfl k)) ?_
     obtain ⟨fs, hr, hrun, hended, hW, hsame⟩ := X3.leave (v := some (.int (1 : Int32))) (fun h => by rw [Bd.returns] at h; cases h)
     exact ⟨_, _, retOut X3 hx Bd.returns rfl (Or.inl ⟨rfl, Or.inl rfl, _, rfl⟩) (hb hby d8_26) hr, hrun, hended, _, _, rfl, (show Qrmts0_2 Z a1 c0 c1 c2 c3 cs fv h0 n0 _ T3.heap _ from (by rw [eh3]; exact ⟨(1 : Int32), rfl, N3, rfl, (Or.inr (Or.inl ⟨rfl, hc16_2, hc16_4⟩))⟩)), ⟨_, rfl⟩, hW, hsame.mono (by decide) (by decide)⟩
 · skip
   refine own_go (b := (T1.setTop (mkF m 26 #[rv a1, iv (0 : Int32), iv (2 : Int32), iv (2 : Int32)] [(.int (2 : Int32))]))) (fun _ k => XS.icmpYes X1.here hx rfl (pc0 := 16) (pc' := 25) rfl (hb hby d8_16) rfl (feq hc16_2).2 (by decide) (by decide) (XS.iloadN X1.here hx rfl (hb hby d8_25) rfl k)) ?_
   obtain ⟨fs, hr, hrun, hended, hW, hsame⟩ := X1.leave (v := some (.int (2 : Int32))) (fun h => by rw [Bd.returns] at h; cases h)
   exact ⟨_, _, retOut X1 hx Bd.returns rfl (Or.inl ⟨rfl, Or.inl rfl, _, rfl⟩) (hb hby d8_26) hr, hrun, hended, _, _, rfl, (show Qrmts0_2 Z a1 c0 c1 c2 c3 cs fv h0 n0 _ T1.heap _ from (by rw [eh1]; exact ⟨(2 : Int32), rfl, N1, rfl, (Or.inl ⟨rfl, hc16_2⟩)⟩)), ⟨_, rfl⟩, hW, hsame.mono (by decide) (by decide)⟩
theorem ef_rmts0_3 (m : MethodId) (x0 : Addr) (x1 : Int32) (x2 : Int32) : entryFrame m #[(.ref x0), (.int x1), (.int x2)] 4 = mkF m 0 #[rv x0, iv x1, iv x2, .unset] [] := by first | (simp [entryFrame, mkF, argsToLocals, Value.category]; done) | rfl
def Qrmts0_3 (Z : State) (a1 : Addr) (c0 : Int32) (c1 : Int32) (c2 : Int32) (c3 : Int32) (cs : Int32) (fv : Value) (h0 : Heap) (n0 : Nat) (v : Option Value) (h : Heap) (L : List Loc) : Prop := ∃ (r : Int32), v = some (.int r) ∧ Fr n0 L ∧ h = h0 ∧ ((r = (3 : Int32) ∧ ¬ (c2 = (32 : Int32))) ∨ (r = (2 : Int32) ∧ c2 = (32 : Int32) ∧ ¬ (c1 = (32 : Int32))) ∨ (r = (1 : Int32) ∧ c2 = (32 : Int32) ∧ c1 = (32 : Int32) ∧ ¬ (c0 = (32 : Int32))) ∨ (r = (0 : Int32) ∧ c2 = (32 : Int32) ∧ c1 = (32 : Int32) ∧ c0 = (32 : Int32)))
set_option maxRecDepth 65536 in
set_option maxHeartbeats 40000000 in
theorem rmts0_3 (l : Launch) (Z : State) (a0 : Array Value) (hw : ∀ d ∈ tables_1, d.before a0 Z = true) (ws : List Jvm.Cond) (a1 : Addr) (c0 : Int32) (c1 : Int32) (c2 : Int32) (c3 : Int32) (cs : Int32) (fv : Value) (h0 : Heap) (n0 : Nat) (Z0 : n0 ≤ h0.size) (O0 : Old Z n0 h0) (S_COMPACT_STRINGS : Sta Z Z.heap "java/lang/String" "COMPACT_STRINGS" "Z" (.int cs)) (hcs : ¬ (cs = (0 : Int32))) (S__assertionsDisabled : Sta Z Z.heap "java/lang/StringUTF16" "$assertionsDisabled" "Z" (.int (1 : Int32))) (S_HI_BYTE_SHIFT : Sta Z Z.heap "java/lang/StringUTF16" "HI_BYTE_SHIFT" "I" (.int (0 : Int32))) (S_LO_BYTE_SHIFT : Sta Z Z.heap "java/lang/StringUTF16" "LO_BYTE_SHIFT" "I" (.int (8 : Int32))) (S_SIOOBE_FORMATTER : Sta Z Z.heap cs2 "SIOOBE_FORMATTER" "Ljava/util/function/BiFunction;" fv) (hfv : fv = .null ∨ ∃ x : Addr, fv = .ref x) (E_a1 : Exa Z h0 a1 "java/lang/String") (own_str_a1 : own_str Z h0 a1 c0 c1 c2 c3) :
    MetFree l mn0 (head1 (Jvm.Cond.code mn0 prog_5_method_32_code 4 (some .int) :: ws) ({ frames := 5, cells := 0, slots := 0, locals := 66 } : Room)) (fun a U => a = #[(.ref a1), (.int (0 : Int32)), (.int (3 : Int32))] ∧ Z.Warmed39 U.vm ∧ U.heap = h0) (fun _ _ _ _ _ => True) (fun _ U o U' => ∃ v L, o = .returned v ∧ Qrmts0_3 Z a1 c0 c1 c2 c3 cs fv h0 n0 v U'.heap L ∧ FrameEnd U o U' L ({ frames := 5, cells := 0, slots := 0, locals := 66 } : Room).cells ({ frames := 5, cells := 0, slots := 0, locals := 66 } : Room).slots) := by
 refine MetFree.of_bodySF (plainFor_of_name pn_8) hisR ?_
 intro p e s m args below meth c s₁ Bd hml0 hP hK
 obtain ⟨rfl, hZ, hh⟩ := hP
 have hx := Bd.exec
 have hby := Bd.bytes
 have hml : c.maxLocals = 4 := hml0
 have hown : s.vm.findClass cs0 = some m.cls := findClass_of_methodNamed Bd.named
 have hnm := (name_of_methodNamed Bd.named Bd.method).1
 have X0 : Stand p l e ({ frames := 5, cells := 0, slots := 0, locals := 66 } : Room) s m #[(.ref a1), (.int (0 : Int32)), (.int (3 : Int32))] below meth c s₁ [] 0 0 := Stand.of_body Bd
 have e0 : s₁.heap = h0 := by rw [← hh, Bd.state]; rfl
 have N0 := Fr.nil n0
 refine own_go (b := (s₁.setTop (mkF m 0 #[rv a1, iv (0 : Int32), iv (3 : Int32), .unset] []))) (fun _ k => castTop (ef_rmts0_3 m a1 (0 : Int32) (3 : Int32)) k) ?_
 refine own_go (b := (s₁.setTop (mkF m 11 #[rv a1, iv (0 : Int32), iv (3 : Int32), iv (3 : Int32)] [(.int (2 : Int32)), (.ref a1)]))) (fun _ k => XS.iloadN X0.here hx rfl (hb hby d8_0) rfl (XS.istoreN X0.here hx rfl (hb hby d8_1) rfl (l' := #[rv a1, iv (0 : Int32), iv (3 : Int32), iv (3 : Int32)]) rfl (XS.iloadN X0.here hx rfl (hb hby d8_2) rfl (XS.iloadN X0.here hx rfl (hb hby d8_3) rfl (XS.icmpNo X0.here hx rfl (hb hby d8_4) rfl (tlt (by decide : (0 : Int32) < (3 : Int32))).2.2.2 (XS.aloadN X0.here hx rfl (hb hby d8_7) rfl rfl (XS.iloadN X0.here hx rfl (hb hby d8_8) rfl (XS.iconst X0.here hx rfl (hb hby d8_9) (XS.isub X0.here hx rfl (hb hby d8_10) rfl k))))))))) ?_
 refine own_virt (W := 0) X0 hx hZ hown e0 (ow hw 43 rfl) (ow hw 44 rfl) (ow hw 46 rfl) (ow hw 45 rfl) (rmca2 l Z a0 hw [] a1 c0 c1 c2 c3 cs fv h0 n0 Z0 O0 S_COMPACT_STRINGS hcs S__assertionsDisabled S_HI_BYTE_SHIFT S_LO_BYTE_SHIFT S_SIOOBE_FORMATTER hfv own_str_a1) (ow hw 47 rfl) (ow hw 8 rfl) E_a1 rfl (by rw [hml]; rfl) rfl (hb hby d8_11) (lenOf pd__I_C rfl) rfl (by decide) (fun T1 v1 Ll1 X1 hQ1 => ?_)
 obtain ⟨rfl, N1q, eh1⟩ := hQ1
 have N1 := Fr.app N0 N1q
 refine own_go (b := (T1.setTop (mkF m 16 #[rv a1, iv (0 : Int32), iv (3 : Int32), iv (3 : Int32)] [(.int (32 : Int32)), (.int c2)]))) (fun _ k => XS.bipush X1.here hx rfl (hb hby d8_14) k) ?_
 by_cases hc16_2 : c2 = (32 : Int32)
 · skip
   refine own_go (b := (T1.setTop (mkF m 11 #[rv a1, iv (0 : Int32), iv (3 : Int32), iv (2 : Int32)] [(.int (1 : Int32)), (.ref a1)]))) (fun _ k => XS.icmpNo X1.here hx rfl (hb hby d8_16) rfl (teq hc16_2).2 (XS.iinc X1.here hx rfl (hb hby d8_19) rfl (l' := #[rv a1, iv (0 : Int32), iv (3 : Int32), iv (2 : Int32)]) rfl (XS.goto X1.here hx rfl (pc0 := 22) (pc' := 2) rfl (hb hby d8_22) (by decide) (by decide) (XS.iloadN X1.here hx rfl (hb hby d8_2) rfl (XS.iloadN X1.here hx rfl (hb hby d8_3) rfl (XS.icmpNo X1.here hx rfl (hb hby d8_4) rfl (tlt (by decide : (0 : Int32) < (2 : Int32))).2.2.2 (XS.aloadN X1.here hx rfl (hb hby d8_7) rfl rfl (XS.iloadN X1.here hx rfl (hb hby d8_8) rfl (XS.iconst X1.here hx rfl (hb hby d8_9) (XS.isub X1.here hx rfl (hb hby d8_10) rfl k)))))))))) ?_
   refine own_virt (W := 0) X1 hx hZ hown eh1 (ow hw 43 rfl) (ow hw 44 rfl) (ow hw 46 rfl) (ow hw 45 rfl) (rmca1 l Z a0 hw [] a1 c0 c1 c2 c3 cs fv h0 n0 Z0 O0 S_COMPACT_STRINGS hcs S__assertionsDisabled S_HI_BYTE_SHIFT S_LO_BYTE_SHIFT S_SIOOBE_FORMATTER hfv own_str_a1) (ow hw 47 rfl) (ow hw 8 rfl) E_a1 rfl (by rw [hml]; rfl) rfl (hb hby d8_11) (lenOf pd__I_C rfl) rfl (by decide) (fun T3 v3 Ll3 X3 hQ3 => ?_)
   obtain ⟨rfl, N3q, eh3⟩ := hQ3
   have N3 := Fr.app N1 N3q
   refine own_go (b := (T3.setTop (mkF m 16 #[rv a1, iv (0 : Int32), iv (3 : Int32), iv (2 : Int32)] [(.int (32 : Int32)), (.int c1)]))) (fun _ k => XS.bipush X3.here hx rfl (hb hby d8_14) k) ?_
   by_cases hc16_4 : c1 = (32 : Int32)
   · skip
     refine own_go (b := (T3.setTop (mkF m 11 #[rv a1, iv (0 : Int32), iv (3 : Int32), iv (1 : Int32)] [(.int (0 : Int32)), (.ref a1)]))) (fun _ k => XS.icmpNo X3.here hx rfl (hb hby d8_16) rfl (teq hc16_4).2 (XS.iinc X3.here hx rfl (hb hby d8_19) rfl (l' := #[rv a1, iv (0 : Int32), iv (3 : Int32), iv (1 : Int32)]) rfl (XS.goto X3.here hx rfl (pc0 := 22) (pc' := 2) rfl (hb hby d8_22) (by decide) (by decide) (XS.iloadN X3.here hx rfl (hb hby d8_2) rfl (XS.iloadN X3.here hx rfl (hb hby d8_3) rfl (XS.icmpNo X3.here hx rfl (hb hby d8_4) rfl (tlt (by decide : (0 : Int32) < (1 : Int32))).2.2.2 (XS.aloadN X3.here hx rfl (hb hby d8_7) rfl rfl (XS.iloadN X3.here hx rfl (hb hby d8_8) rfl (XS.iconst X3.here hx rfl (hb hby d8_9) (XS.isub X3.here hx rfl (hb hby d8_10) rfl k)))))))))) ?_
     refine own_virt (W := 0) X3 hx hZ hown eh3 (ow hw 43 rfl) (ow hw 44 rfl) (ow hw 46 rfl) (ow hw 45 rfl) (rmca0 l Z a0 hw [] a1 c0 c1 c2 c3 cs fv h0 n0 Z0 O0 S_COMPACT_STRINGS hcs S__assertionsDisabled S_HI_BYTE_SHIFT S_LO_BYTE_SHIFT S_SIOOBE_FORMATTER hfv own_str_a1) (ow hw 47 rfl) (ow hw 8 rfl) E_a1 rfl (by rw [hml]; rfl) rfl (hb hby d8_11) (lenOf pd__I_C rfl) rfl (by decide) (fun T5 v5 Ll5 X5 hQ5 => ?_)
     obtain ⟨rfl, N5q, eh5⟩ := hQ5
     have N5 := Fr.app N3 N5q
     refine own_go (b := (T5.setTop (mkF m 16 #[rv a1, iv (0 : Int32), iv (3 : Int32), iv (1 : Int32)] [(.int (32 : Int32)), (.int c0)]))) (fun _ k => XS.bipush X5.here hx rfl (hb hby d8_14) k) ?_
     by_cases hc16_6 : c0 = (32 : Int32)
     · skip
       refine own_go (b := (T5.setTop (mkF m 26 #[rv a1, iv (0 : Int32), iv (3 : Int32), iv (0 : Int32)] [(.int (0 : Int32))]))) (fun _ k => XS.icmpNo X5.here hx rfl (hb hby d8_16) rfl (teq hc16_6).2 (XS.iinc X5.here hx rfl (hb hby d8_19) rfl (l' := #[rv a1, iv (0 : Int32), iv (3 : Int32), iv (0 : Int32)]) rfl (XS.goto X5.here hx rfl (pc0 := 22) (pc' := 2) rfl (hb hby d8_22) (by decide) (by decide) (XS.iloadN X5.here hx rfl (hb hby d8_2) rfl (XS.iloadN X5.here hx rfl (hb hby d8_3) rfl (XS.icmpYes X5.here hx rfl (pc0 := 4) (pc' := 25) rfl (hb hby d8_4) rfl (flt (by decide : ¬ ((0 : Int32) < (0 : Int32)))).2.2.2 (by decide) (by decide) (XS.iloadN X5.here hx rfl (hb hby d8_25) rfl k))))))) ?_
       obtain ⟨fs, hr, hrun, hended, hW, hsame⟩ := X5.leave (v := some (.int (0 : Int32))) (fun h => by rw [Bd.returns] at h; cases h)
       exact ⟨_, _, retOut X5 hx Bd.returns rfl (Or.inl ⟨rfl, Or.inl rfl, _, rfl⟩) (hb hby d8_26) hr, hrun, hended, _, _, rfl, (show Qrmts0_3 Z a1 c0 c1 c2 c3 cs fv h0 n0 _ T5.heap _ from (by rw [eh5]; exact ⟨(0 : Int32), rfl, N5, rfl, (Or.inr (Or.inr (Or.inr (⟨rfl, hc16_2, hc16_4, hc16_6⟩))))⟩)), ⟨_, rfl⟩, hW, hsame.mono (by decide) (by decide)⟩
     · skip
       refine own_go (b := (T5.setTop (mkF m 26 #[rv a1, iv (0 : Int32), iv (3 : Int32), iv (1 : Int32)] [(.int (1 : Int32))]))) (fun _ k => XS.icmpYes X5.here hx rfl (pc0 := 16) (pc' := 25) rfl (hb hby d8_16) rfl (feq hc16_6).2 (by decide) (by decide) (XS.iloadN X5.here hx rfl (hb hby d8_25) rfl k)) ?_
       obtain ⟨fs, hr, hrun, hended, hW, hsame⟩ := X5.leave (v := some (.int (1 : Int32))) (fun h => by rw [Bd.returns] at h; cases h)
       exact ⟨_, _, retOut X5 hx Bd.returns rfl (Or.inl ⟨rfl, Or.inl rfl, _, rfl⟩) (hb hby d8_26) hr, hrun, hended, _, _, rfl, (show Qrmts0_3 Z a1 c0 c1 c2 c3 cs fv h0 n0 _ T5.heap _ from (by rw [eh5]; exact ⟨(1 : Int32), rfl, N5, rfl, (Or.inr (Or.inr (Or.inl ⟨rfl, hc16_2, hc16_4, hc16_6⟩)))⟩)), ⟨_, rfl⟩, hW, hsame.mono (by decide) (by decide)⟩
   · skip
     refine own_go (b := (T3.setTop (mkF m 26 #[rv a1, iv (0 : Int32), iv (3 : Int32), iv (2 : Int32)] [(.int (2 : Int32))]))) (fun _ k => XS.icmpYes X3.here hx rfl (pc0 := 16) (pc' := 25) rfl (hb hby d8_16) rfl (feq hc16_4).2 (by decide) (by decide) (XS.iloadN X3.here hx rfl (hb hby d8_25) rfl k)) ?_
     obtain ⟨fs, hr, hrun, hended, hW, hsame⟩ := X3.leave (v := some (.int (2 : Int32))) (fun h => by rw [Bd.returns] at h; cases h)
     exact ⟨_, _, retOut X3 hx Bd.returns rfl (Or.inl ⟨rfl, Or.inl rfl, _, rfl⟩) (hb hby d8_26) hr, hrun, hended, _, _, rfl, (show Qrmts0_3 Z a1 c0 c1 c2 c3 cs fv h0 n0 _ T3.heap _ from (by rw [eh3]; exact ⟨(2 : Int32), rfl, N3, rfl, (Or.inr (Or.inl ⟨rfl, hc16_2, hc16_4⟩))⟩)), ⟨_, rfl⟩, hW, hsame.mono (by decide) (by decide)⟩
 · skip
   refine own_go (b := (T1.setTop (mkF m 26 #[rv a1, iv (0 : Int32), iv (3 : Int32), iv (3 : Int32)] [(.int (3 : Int32))]))) (fun _ k => XS.icmpYes X1.here hx rfl (pc0 := 16) (pc' := 25) rfl (hb hby d8_16) rfl (feq hc16_2).2 (by decide) (by decide) (XS.iloadN X1.here hx rfl (hb hby d8_25) rfl k)) ?_
   obtain ⟨fs, hr, hrun, hended, hW, hsame⟩ := X1.leave (v := some (.int (3 : Int32))) (fun h => by rw [Bd.returns] at h; cases h)
   exact ⟨_, _, retOut X1 hx Bd.returns rfl (Or.inl ⟨rfl, Or.inl rfl, _, rfl⟩) (hb hby d8_26) hr, hrun, hended, _, _, rfl, (show Qrmts0_3 Z a1 c0 c1 c2 c3 cs fv h0 n0 _ T1.heap _ from (by rw [eh1]; exact ⟨(3 : Int32), rfl, N1, rfl, (Or.inl ⟨rfl, hc16_2⟩)⟩)), ⟨_, rfl⟩, hW, hsame.mono (by decide) (by decide)⟩
theorem ef_rmts0_4 (m : MethodId) (x0 : Addr) (x1 : Int32) (x2 : Int32) : entryFrame m #[(.ref x0), (.int x1), (.int x2)] 4 = mkF m 0 #[rv x0, iv x1, iv x2, .unset] [] := by first | (simp [entryFrame, mkF, argsToLocals, Value.category]; done) | rfl
def Qrmts0_4 (Z : State) (a1 : Addr) (c0 : Int32) (c1 : Int32) (c2 : Int32) (c3 : Int32) (cs : Int32) (fv : Value) (h0 : Heap) (n0 : Nat) (v : Option Value) (h : Heap) (L : List Loc) : Prop := ∃ (r : Int32), v = some (.int r) ∧ Fr n0 L ∧ h = h0 ∧ ((r = (4 : Int32) ∧ ¬ (c3 = (32 : Int32))) ∨ (r = (3 : Int32) ∧ c3 = (32 : Int32) ∧ ¬ (c2 = (32 : Int32))) ∨ (r = (2 : Int32) ∧ c3 = (32 : Int32) ∧ c2 = (32 : Int32) ∧ ¬ (c1 = (32 : Int32))) ∨ (r = (1 : Int32) ∧ c3 = (32 : Int32) ∧ c2 = (32 : Int32) ∧ c1 = (32 : Int32) ∧ ¬ (c0 = (32 : Int32))) ∨ (r = (0 : Int32) ∧ c3 = (32 : Int32) ∧ c2 = (32 : Int32) ∧ c1 = (32 : Int32) ∧ c0 = (32 : Int32)))
set_option maxRecDepth 65536 in
set_option maxHeartbeats 40000000 in
theorem rmts0_4 (l : Launch) (Z : State) (a0 : Array Value) (hw : ∀ d ∈ tables_1, d.before a0 Z = true) (ws : List Jvm.Cond) (a1 : Addr) (c0 : Int32) (c1 : Int32) (c2 : Int32) (c3 : Int32) (cs : Int32) (fv : Value) (h0 : Heap) (n0 : Nat) (Z0 : n0 ≤ h0.size) (O0 : Old Z n0 h0) (S_COMPACT_STRINGS : Sta Z Z.heap "java/lang/String" "COMPACT_STRINGS" "Z" (.int cs)) (hcs : ¬ (cs = (0 : Int32))) (S__assertionsDisabled : Sta Z Z.heap "java/lang/StringUTF16" "$assertionsDisabled" "Z" (.int (1 : Int32))) (S_HI_BYTE_SHIFT : Sta Z Z.heap "java/lang/StringUTF16" "HI_BYTE_SHIFT" "I" (.int (0 : Int32))) (S_LO_BYTE_SHIFT : Sta Z Z.heap "java/lang/StringUTF16" "LO_BYTE_SHIFT" "I" (.int (8 : Int32))) (S_SIOOBE_FORMATTER : Sta Z Z.heap cs2 "SIOOBE_FORMATTER" "Ljava/util/function/BiFunction;" fv) (hfv : fv = .null ∨ ∃ x : Addr, fv = .ref x) (E_a1 : Exa Z h0 a1 "java/lang/String") (own_str_a1 : own_str Z h0 a1 c0 c1 c2 c3) :
    MetFree l mn0 (head1 (Jvm.Cond.code mn0 prog_5_method_32_code 4 (some .int) :: ws) ({ frames := 5, cells := 0, slots := 0, locals := 66 } : Room)) (fun a U => a = #[(.ref a1), (.int (0 : Int32)), (.int (4 : Int32))] ∧ Z.Warmed39 U.vm ∧ U.heap = h0) (fun _ _ _ _ _ => True) (fun _ U o U' => ∃ v L, o = .returned v ∧ Qrmts0_4 Z a1 c0 c1 c2 c3 cs fv h0 n0 v U'.heap L ∧ FrameEnd U o U' L ({ frames := 5, cells := 0, slots := 0, locals := 66 } : Room).cells ({ frames := 5, cells := 0, slots := 0, locals := 66 } : Room).slots) := by
 refine MetFree.of_bodySF (plainFor_of_name pn_8) hisR ?_
 intro p e s m args below meth c s₁ Bd hml0 hP hK
 obtain ⟨rfl, hZ, hh⟩ := hP
 have hx := Bd.exec
 have hby := Bd.bytes
 have hml : c.maxLocals = 4 := hml0
 have hown : s.vm.findClass cs0 = some m.cls := findClass_of_methodNamed Bd.named
 have hnm := (name_of_methodNamed Bd.named Bd.method).1
 have X0 : Stand p l e ({ frames := 5, cells := 0, slots := 0, locals := 66 } : Room) s m #[(.ref a1), (.int (0 : Int32)), (.int (4 : Int32))] below meth c s₁ [] 0 0 := Stand.of_body Bd
 have e0 : s₁.heap = h0 := by rw [← hh, Bd.state]; rfl
 have N0 := Fr.nil n0
 refine own_go (b := (s₁.setTop (mkF m 0 #[rv a1, iv (0 : Int32), iv (4 : Int32), .unset] []))) (fun _ k => castTop (ef_rmts0_4 m a1 (0 : Int32) (4 : Int32)) k) ?_
 refine own_go (b := (s₁.setTop (mkF m 11 #[rv a1, iv (0 : Int32), iv (4 : Int32), iv (4 : Int32)] [(.int (3 : Int32)), (.ref a1)]))) (fun _ k => XS.iloadN X0.here hx rfl (hb hby d8_0) rfl (XS.istoreN X0.here hx rfl (hb hby d8_1) rfl (l' := #[rv a1, iv (0 : Int32), iv (4 : Int32), iv (4 : Int32)]) rfl (XS.iloadN X0.here hx rfl (hb hby d8_2) rfl (XS.iloadN X0.here hx rfl (hb hby d8_3) rfl (XS.icmpNo X0.here hx rfl (hb hby d8_4) rfl (tlt (by decide : (0 : Int32) < (4 : Int32))).2.2.2 (XS.aloadN X0.here hx rfl (hb hby d8_7) rfl rfl (XS.iloadN X0.here hx rfl (hb hby d8_8) rfl (XS.iconst X0.here hx rfl (hb hby d8_9) (XS.isub X0.here hx rfl (hb hby d8_10) rfl k))))))))) ?_
 refine own_virt (W := 0) X0 hx hZ hown e0 (ow hw 43 rfl) (ow hw 44 rfl) (ow hw 46 rfl) (ow hw 45 rfl) (rmca3 l Z a0 hw [] a1 c0 c1 c2 c3 cs fv h0 n0 Z0 O0 S_COMPACT_STRINGS hcs S__assertionsDisabled S_HI_BYTE_SHIFT S_LO_BYTE_SHIFT S_SIOOBE_FORMATTER hfv own_str_a1) (ow hw 47 rfl) (ow hw 8 rfl) E_a1 rfl (by rw [hml]; rfl) rfl (hb hby d8_11) (lenOf pd__I_C rfl) rfl (by decide) (fun T1 v1 Ll1 X1 hQ1 => ?_)
 obtain ⟨rfl, N1q, eh1⟩ := hQ1
 have N1 := Fr.app N0 N1q
 refine own_go (b := (T1.setTop (mkF m 16 #[rv a1, iv (0 : Int32), iv (4 : Int32), iv (4 : Int32)] [(.int (32 : Int32)), (.int c3)]))) (fun _ k => XS.bipush X1.here hx rfl (hb hby d8_14) k) ?_
 by_cases hc16_2 : c3 = (32 : Int32)
 · skip
   refine own_go (b := (T1.setTop (mkF m 11 #[rv a1, iv (0 : Int32), iv (4 : Int32), iv (3 : Int32)] [(.int (2 : Int32)), (.ref a1)]))) (fun _ k => XS.icmpNo X1.here hx rfl (hb hby d8_16) rfl (teq hc16_2).2 (XS.iinc X1.here hx rfl (hb hby d8_19) rfl (l' := #[rv a1, iv (0 : Int32), iv (4 : Int32), iv (3 : Int32)]) rfl (XS.goto X1.here hx rfl (pc0 := 22) (pc' := 2) rfl (hb hby d8_22) (by decide) (by decide) (XS.iloadN X1.here hx rfl (hb hby d8_2) rfl (XS.iloadN X1.here hx rfl (hb hby d8_3) rfl (XS.icmpNo X1.here hx rfl (hb hby d8_4) rfl (tlt (by decide : (0 : Int32) < (3 : Int32))).2.2.2 (XS.aloadN X1.here hx rfl (hb hby d8_7) rfl rfl (XS.iloadN X1.here hx rfl (hb hby d8_8) rfl (XS.iconst X1.here hx rfl (hb hby d8_9) (XS.isub X1.here hx rfl (hb hby d8_10) rfl k)))))))))) ?_
   refine own_virt (W := 0) X1 hx hZ hown eh1 (ow hw 43 rfl) (ow hw 44 rfl) (ow hw 46 rfl) (ow hw 45 rfl) (rmca2 l Z a0 hw [] a1 c0 c1 c2 c3 cs fv h0 n0 Z0 O0 S_COMPACT_STRINGS hcs S__assertionsDisabled S_HI_BYTE_SHIFT S_LO_BYTE_SHIFT S_SIOOBE_FORMATTER hfv own_str_a1) (ow hw 47 rfl) (ow hw 8 rfl) E_a1 rfl (by rw [hml]; rfl) rfl (hb hby d8_11) (lenOf pd__I_C rfl) rfl (by decide) (fun T3 v3 Ll3 X3 hQ3 => ?_)
   obtain ⟨rfl, N3q, eh3⟩ := hQ3
   have N3 := Fr.app N1 N3q
   refine own_go (b := (T3.setTop (mkF m 16 #[rv a1, iv (0 : Int32), iv (4 : Int32), iv (3 : Int32)] [(.int (32 : Int32)), (.int c2)]))) (fun _ k => XS.bipush X3.here hx rfl (hb hby d8_14) k) ?_
   by_cases hc16_4 : c2 = (32 : Int32)
   · skip
     refine own_go (b := (T3.setTop (mkF m 11 #[rv a1, iv (0 : Int32), iv (4 : Int32), iv (2 : Int32)] [(.int (1 : Int32)), (.ref a1)]))) (fun _ k => XS.icmpNo X3.here hx rfl (hb hby d8_16) rfl (teq hc16_4).2 (XS.iinc X3.here hx rfl (hb hby d8_19) rfl (l' := #[rv a1, iv (0 : Int32), iv (4 : Int32), iv (2 : Int32)]) rfl (XS.goto X3.here hx rfl (pc0 := 22) (pc' := 2) rfl (hb hby d8_22) (by decide) (by decide) (XS.iloadN X3.here hx rfl (hb hby d8_2) rfl (XS.iloadN X3.here hx rfl (hb hby d8_3) rfl (XS.icmpNo X3.here hx rfl (hb hby d8_4) rfl (tlt (by decide : (0 : Int32) < (2 : Int32))).2.2.2 (XS.aloadN X3.here hx rfl (hb hby d8_7) rfl rfl (XS.iloadN X3.here hx rfl (hb hby d8_8) rfl (XS.iconst X3.here hx rfl (hb hby d8_9) (XS.isub X3.here hx rfl (hb hby d8_10) rfl k)))))))))) ?_
     refine own_virt (W := 0) X3 hx hZ hown eh3 (ow hw 43 rfl) (ow hw 44 rfl) (ow hw 46 rfl) (ow hw 45 rfl) (rmca1 l Z a0 hw [] a1 c0 c1 c2 c3 cs fv h0 n0 Z0 O0 S_COMPACT_STRINGS hcs S__assertionsDisabled S_HI_BYTE_SHIFT S_LO_BYTE_SHIFT S_SIOOBE_FORMATTER hfv own_str_a1) (ow hw 47 rfl) (ow hw 8 rfl) E_a1 rfl (by rw [hml]; rfl) rfl (hb hby d8_11) (lenOf pd__I_C rfl) rfl (by decide) (fun T5 v5 Ll5 X5 hQ5 => ?_)
     obtain ⟨rfl, N5q, eh5⟩ := hQ5
     have N5 := Fr.app N3 N5q
     refine own_go (b := (T5.setTop (mkF m 16 #[rv a1, iv (0 : Int32), iv (4 : Int32), iv (2 : Int32)] [(.int (32 : Int32)), (.int c1)]))) (fun _ k => XS.bipush X5.here hx rfl (hb hby d8_14) k) ?_
     by_cases hc16_6 : c1 = (32 : Int32)
     · skip
       refine own_go (b := (T5.setTop (mkF m 11 #[rv a1, iv (0 : Int32), iv (4 : Int32), iv (1 : Int32)] [(.int (0 : Int32)), (.ref a1)]))) (fun _ k => XS.icmpNo X5.here hx rfl (hb hby d8_16) rfl (teq hc16_6).2 (XS.iinc X5.here hx rfl (hb hby d8_19) rfl (l' := #[rv a1, iv (0 : Int32), iv (4 : Int32), iv (1 : Int32)]) rfl (XS.goto X5.here hx rfl (pc0 := 22) (pc' := 2) rfl (hb hby d8_22) (by decide) (by decide) (XS.iloadN X5.here hx rfl (hb hby d8_2) rfl (XS.iloadN X5.here hx rfl (hb hby d8_3) rfl (XS.icmpNo X5.here hx rfl (hb hby d8_4) rfl (tlt (by decide : (0 : Int32) < (1 : Int32))).2.2.2 (XS.aloadN X5.here hx rfl (hb hby d8_7) rfl rfl (XS.iloadN X5.here hx rfl (hb hby d8_8) rfl (XS.iconst X5.here hx rfl (hb hby d8_9) (XS.isub X5.here hx rfl (hb hby d8_10) rfl k)))))))))) ?_
       refine own_virt (W := 0) X5 hx hZ hown eh5 (ow hw 43 rfl) (ow hw 44 rfl) (ow hw 46 rfl) (ow hw 45 rfl) (rmca0 l Z a0 hw [] a1 c0 c1 c2 c3 cs fv h0 n0 Z0 O0 S_COMPACT_STRINGS hcs S__assertionsDisabled S_HI_BYTE_SHIFT S_LO_BYTE_SHIFT S_SIOOBE_FORMATTER hfv own_str_a1) (ow hw 47 rfl) (ow hw 8 rfl) E_a1 rfl (by rw [hml]; rfl) rfl (hb hby d8_11) (lenOf pd__I_C rfl) rfl (by decide) (fun T7 v7 Ll7 X7 hQ7 => ?_)
       obtain ⟨rfl, N7q, eh7⟩ := hQ7
       have N7 := Fr.app N5 N7q
       refine own_go (b := (T7.setTop (mkF m 16 #[rv a1, iv (0 : Int32), iv (4 : Int32), iv (1 : Int32)] [(.int (32 : Int32)), (.int c0)]))) (fun _ k => XS.bipush X7.here hx rfl (hb hby d8_14) k) ?_
       by_cases hc16_8 : c0 = (32 : Int32)
       · skip
         refine own_go (b := (T7.setTop (mkF m 26 #[rv a1, iv (0 : Int32), iv (4 : Int32), iv (0 : Int32)] [(.int (0 : Int32))]))) (fun _ k => XS.icmpNo X7.here hx rfl (hb hby d8_16) rfl (teq hc16_8).2 (XS.iinc X7.here hx rfl (hb hby d8_19) rfl (l' := #[rv a1, iv (0 : Int32), iv (4 : Int32), iv (0 : Int32)]) rfl (XS.goto X7.here hx rfl (pc0 := 22) (pc' := 2) rfl (hb hby d8_22) (by decide) (by decide) (XS.iloadN X7.here hx rfl (hb hby d8_2) rfl (XS.iloadN X7.here hx rfl (hb hby d8_3) rfl (XS.icmpYes X7.here hx rfl (pc0 := 4) (pc' := 25) rfl (hb hby d8_4) rfl (flt (by decide : ¬ ((0 : Int32) < (0 : Int32)))).2.2.2 (by decide) (by decide) (XS.iloadN X7.here hx rfl (hb hby d8_25) rfl k))))))) ?_
         obtain ⟨fs, hr, hrun, hended, hW, hsame⟩ := X7.leave (v := some (.int (0 : Int32))) (fun h => by rw [Bd.returns] at h; cases h)
         exact ⟨_, _, retOut X7 hx Bd.returns rfl (Or.inl ⟨rfl, Or.inl rfl, _, rfl⟩) (hb hby d8_26) hr, hrun, hended, _, _, rfl, (show Qrmts0_4 Z a1 c0 c1 c2 c3 cs fv h0 n0 _ T7.heap _ from (by rw [eh7]; exact ⟨(0 : Int32), rfl, N7, rfl, (Or.inr (Or.inr (Or.inr (Or.inr (⟨rfl, hc16_2, hc16_4, hc16_6, hc16_8⟩)))))⟩)), ⟨_, rfl⟩, hW, hsame.mono (by decide) (by decide)⟩
       · skip
         refine own_go (b := (T7.setTop (mkF m 26 #[rv a1, iv (0 : Int32), iv (4 : Int32), iv (1 : Int32)] [(.int (1 : Int32))]))) (fun _ k => XS.icmpYes X7.here hx rfl (pc0 := 16) (pc' := 25) rfl (hb hby d8_16) rfl (feq hc16_8).2 (by decide) (by decide) (XS.iloadN X7.here hx rfl (hb hby d8_25) rfl k)) ?_
         obtain ⟨fs, hr, hrun, hended, hW, hsame⟩ := X7.leave (v := some (.int (1 : Int32))) (fun h => by rw [Bd.returns] at h; cases h)
         exact ⟨_, _, retOut X7 hx Bd.returns rfl (Or.inl ⟨rfl, Or.inl rfl, _, rfl⟩) (hb hby d8_26) hr, hrun, hended, _, _, rfl, (show Qrmts0_4 Z a1 c0 c1 c2 c3 cs fv h0 n0 _ T7.heap _ from (by rw [eh7]; exact ⟨(1 : Int32), rfl, N7, rfl, (Or.inr (Or.inr (Or.inr (Or.inl ⟨rfl, hc16_2, hc16_4, hc16_6, hc16_8⟩))))⟩)), ⟨_, rfl⟩, hW, hsame.mono (by decide) (by decide)⟩
     · skip
       refine own_go (b := (T5.setTop (mkF m 26 #[rv a1, iv (0 : Int32), iv (4 : Int32), iv (2 : Int32)] [(.int (2 : Int32))]))) (fun _ k => XS.icmpYes X5.here hx rfl (pc0 := 16) (pc' := 25) rfl (hb hby d8_16) rfl (feq hc16_6).2 (by decide) (by decide) (XS.iloadN X5.here hx rfl (hb hby d8_25) rfl k)) ?_
       obtain ⟨fs, hr, hrun, hended, hW, hsame⟩ := X5.leave (v := some (.int (2 : Int32))) (fun h => by rw [Bd.returns] at h; cases h)
       exact ⟨_, _, retOut X5 hx Bd.returns rfl (Or.inl ⟨rfl, Or.inl rfl, _, rfl⟩) (hb hby d8_26) hr, hrun, hended, _, _, rfl, (show Qrmts0_4 Z a1 c0 c1 c2 c3 cs fv h0 n0 _ T5.heap _ from (by rw [eh5]; exact ⟨(2 : Int32), rfl, N5, rfl, (Or.inr (Or.inr (Or.inl ⟨rfl, hc16_2, hc16_4, hc16_6⟩)))⟩)), ⟨_, rfl⟩, hW, hsame.mono (by decide) (by decide)⟩
   · skip
     refine own_go (b := (T3.setTop (mkF m 26 #[rv a1, iv (0 : Int32), iv (4 : Int32), iv (3 : Int32)] [(.int (3 : Int32))]))) (fun _ k => XS.icmpYes X3.here hx rfl (pc0 := 16) (pc' := 25) rfl (hb hby d8_16) rfl (feq hc16_4).2 (by decide) (by decide) (XS.iloadN X3.here hx rfl (hb hby d8_25) rfl k)) ?_
     obtain ⟨fs, hr, hrun, hended, hW, hsame⟩ := X3.leave (v := some (.int (3 : Int32))) (fun h => by rw [Bd.returns] at h; cases h)
     exact ⟨_, _, retOut X3 hx Bd.returns rfl (Or.inl ⟨rfl, Or.inl rfl, _, rfl⟩) (hb hby d8_26) hr, hrun, hended, _, _, rfl, (show Qrmts0_4 Z a1 c0 c1 c2 c3 cs fv h0 n0 _ T3.heap _ from (by rw [eh3]; exact ⟨(3 : Int32), rfl, N3, rfl, (Or.inr (Or.inl ⟨rfl, hc16_2, hc16_4⟩))⟩)), ⟨_, rfl⟩, hW, hsame.mono (by decide) (by decide)⟩
 · skip
   refine own_go (b := (T1.setTop (mkF m 26 #[rv a1, iv (0 : Int32), iv (4 : Int32), iv (4 : Int32)] [(.int (4 : Int32))]))) (fun _ k => XS.icmpYes X1.here hx rfl (pc0 := 16) (pc' := 25) rfl (hb hby d8_16) rfl (feq hc16_2).2 (by decide) (by decide) (XS.iloadN X1.here hx rfl (hb hby d8_25) rfl k)) ?_
   obtain ⟨fs, hr, hrun, hended, hW, hsame⟩ := X1.leave (v := some (.int (4 : Int32))) (fun h => by rw [Bd.returns] at h; cases h)
   exact ⟨_, _, retOut X1 hx Bd.returns rfl (Or.inl ⟨rfl, Or.inl rfl, _, rfl⟩) (hb hby d8_26) hr, hrun, hended, _, _, rfl, (show Qrmts0_4 Z a1 c0 c1 c2 c3 cs fv h0 n0 _ T1.heap _ from (by rw [eh1]; exact ⟨(4 : Int32), rfl, N1, rfl, (Or.inl ⟨rfl, hc16_2⟩)⟩)), ⟨_, rfl⟩, hW, hsame.mono (by decide) (by decide)⟩
theorem ef_rmts1_1 (m : MethodId) (x0 : Addr) (x1 : Int32) (x2 : Int32) : entryFrame m #[(.ref x0), (.int x1), (.int x2)] 4 = mkF m 0 #[rv x0, iv x1, iv x2, .unset] [] := by first | (simp [entryFrame, mkF, argsToLocals, Value.category]; done) | rfl
def Qrmts1_1 (Z : State) (a1 : Addr) (c0 : Int32) (c1 : Int32) (c2 : Int32) (c3 : Int32) (cs : Int32) (fv : Value) (h0 : Heap) (n0 : Nat) (v : Option Value) (h : Heap) (L : List Loc) : Prop := ∃ (r : Int32), v = some (.int r) ∧ Fr n0 L ∧ h = h0 ∧ ((r = (1 : Int32)))
set_option maxRecDepth 65536 in
set_option maxHeartbeats 40000000 in
theorem rmts1_1 (l : Launch) (Z : State) (a0 : Array Value) (hw : ∀ d ∈ tables_1, d.before a0 Z = true) (ws : List Jvm.Cond) (a1 : Addr) (c0 : Int32) (c1 : Int32) (c2 : Int32) (c3 : Int32) (cs : Int32) (fv : Value) (h0 : Heap) (n0 : Nat) (Z0 : n0 ≤ h0.size) (O0 : Old Z n0 h0) (S_COMPACT_STRINGS : Sta Z Z.heap "java/lang/String" "COMPACT_STRINGS" "Z" (.int cs)) (hcs : ¬ (cs = (0 : Int32))) (S__assertionsDisabled : Sta Z Z.heap "java/lang/StringUTF16" "$assertionsDisabled" "Z" (.int (1 : Int32))) (S_HI_BYTE_SHIFT : Sta Z Z.heap "java/lang/StringUTF16" "HI_BYTE_SHIFT" "I" (.int (0 : Int32))) (S_LO_BYTE_SHIFT : Sta Z Z.heap "java/lang/StringUTF16" "LO_BYTE_SHIFT" "I" (.int (8 : Int32))) (S_SIOOBE_FORMATTER : Sta Z Z.heap cs2 "SIOOBE_FORMATTER" "Ljava/util/function/BiFunction;" fv) (hfv : fv = .null ∨ ∃ x : Addr, fv = .ref x) (E_a1 : Exa Z h0 a1 "java/lang/String") (own_str_a1 : own_str Z h0 a1 c0 c1 c2 c3) :
    MetFree l mn0 (head1 (Jvm.Cond.code mn0 prog_5_method_32_code 4 (some .int) :: ws) ({ frames := 0, cells := 0, slots := 0, locals := 0 } : Room)) (fun a U => a = #[(.ref a1), (.int (1 : Int32)), (.int (1 : Int32))] ∧ Z.Warmed39 U.vm ∧ U.heap = h0) (fun _ _ _ _ _ => True) (fun _ U o U' => ∃ v L, o = .returned v ∧ Qrmts1_1 Z a1 c0 c1 c2 c3 cs fv h0 n0 v U'.heap L ∧ FrameEnd U o U' L ({ frames := 0, cells := 0, slots := 0, locals := 0 } : Room).cells ({ frames := 0, cells := 0, slots := 0, locals := 0 } : Room).slots) := by
 refine MetFree.of_bodySF (plainFor_of_name pn_8) hisR ?_
 intro p e s m args below meth c s₁ Bd hml0 hP hK
 obtain ⟨rfl, hZ, hh⟩ := hP
 have hx := Bd.exec
 have hby := Bd.bytes
 have hml : c.maxLocals = 4 := hml0
 have hown : s.vm.findClass cs0 = some m.cls := findClass_of_methodNamed Bd.named
 have hnm := (name_of_methodNamed Bd.named Bd.method).1
 have X0 : Stand p l e ({ frames := 0, cells := 0, slots := 0, locals := 0 } : Room) s m #[(.ref a1), (.int (1 : Int32)), (.int (1 : Int32))] below meth c s₁ [] 0 0 := Stand.of_body Bd
 have e0 : s₁.heap = h0 := by rw [← hh, Bd.state]; rfl
 have N0 := Fr.nil n0
 refine own_go (b := (s₁.setTop (mkF m 0 #[rv a1, iv (1 : Int32), iv (1 : Int32), .unset] []))) (fun _ k => castTop (ef_rmts1_1 m a1 (1 : Int32) (1 : Int32)) k) ?_
 refine own_go (b := (s₁.setTop (mkF m 26 #[rv a1, iv (1 : Int32), iv (1 : Int32), iv (1 : Int32)] [(.int (1 : Int32))]))) (fun _ k => XS.iloadN X0.here hx rfl (hb hby d8_0) rfl (XS.istoreN X0.here hx rfl (hb hby d8_1) rfl (l' := #[rv a1, iv (1 : Int32), iv (1 : Int32), iv (1 : Int32)]) rfl (XS.iloadN X0.here hx rfl (hb hby d8_2) rfl (XS.iloadN X0.here hx rfl (hb hby d8_3) rfl (XS.icmpYes X0.here hx rfl (pc0 := 4) (pc' := 25) rfl (hb hby d8_4) rfl (flt (by decide : ¬ ((1 : Int32) < (1 : Int32)))).2.2.2 (by decide) (by decide) (XS.iloadN X0.here hx rfl (hb hby d8_25) rfl k)))))) ?_
 obtain ⟨fs, hr, hrun, hended, hW, hsame⟩ := X0.leave (v := some (.int (1 : Int32))) (fun h => by rw [Bd.returns] at h; cases h)
 exact ⟨_, _, retOut X0 hx Bd.returns rfl (Or.inl ⟨rfl, Or.inl rfl, _, rfl⟩) (hb hby d8_26) hr, hrun, hended, _, _, rfl, (show Qrmts1_1 Z a1 c0 c1 c2 c3 cs fv h0 n0 _ s₁.heap _ from (by rw [e0]; exact ⟨(1 : Int32), rfl, N0, rfl, (rfl)⟩)), ⟨_, rfl⟩, hW, hsame.mono (by decide) (by decide)⟩
theorem ef_rmts1_2 (m : MethodId) (x0 : Addr) (x1 : Int32) (x2 : Int32) : entryFrame m #[(.ref x0), (.int x1), (.int x2)] 4 = mkF m 0 #[rv x0, iv x1, iv x2, .unset] [] := by first | (simp [entryFrame, mkF, argsToLocals, Value.category]; done) | rfl
def Qrmts1_2 (Z : State) (a1 : Addr) (c0 : Int32) (c1 : Int32) (c2 : Int32) (c3 : Int32) (cs : Int32) (fv : Value) (h0 : Heap) (n0 : Nat) (v : Option Value) (h : Heap) (L : List Loc) : Prop := ∃ (r : Int32), v = some (.int r) ∧ Fr n0 L ∧ h = h0 ∧ ((r = (2 : Int32) ∧ ¬ (c1 = (32 : Int32))) ∨ (r = (1 : Int32) ∧ c1 = (32 : Int32)))
set_option maxRecDepth 65536 in
set_option maxHeartbeats 40000000 in
theorem rmts1_2 (l : Launch) (Z : State) (a0 : Array Value) (hw : ∀ d ∈ tables_1, d.before a0 Z = true) (ws : List Jvm.Cond) (a1 : Addr) (c0 : Int32) (c1 : Int32) (c2 : Int32) (c3 : Int32) (cs : Int32) (fv : Value) (h0 : Heap) (n0 : Nat) (Z0 : n0 ≤ h0.size) (O0 : Old Z n0 h0) (S_COMPACT_STRINGS : Sta Z Z.heap "java/lang/String" "COMPACT_STRINGS" "Z" (.int cs)) (hcs : ¬ (cs = (0 : Int32))) (S__assertionsDisabled : Sta Z Z.heap "java/lang/StringUTF16" "$assertionsDisabled" "Z" (.int (1 : Int32))) (S_HI_BYTE_SHIFT : Sta Z Z.heap "java/lang/StringUTF16" "HI_BYTE_SHIFT" "I" (.int (0 : Int32))) (S_LO_BYTE_SHIFT : Sta Z Z.heap "java/lang/StringUTF16" "LO_BYTE_SHIFT" "I" (.int (8 : Int32))) (S_SIOOBE_FORMATTER : Sta Z Z.heap cs2 "SIOOBE_FORMATTER" "Ljava/util/function/BiFunction;" fv) (hfv : fv = .null ∨ ∃ x : Addr, fv = .ref x) (E_a1 : Exa Z h0 a1 "java/lang/String") (own_str_a1 : own_str Z h0 a1 c0 c1 c2 c3) :
    MetFree l mn0 (head1 (Jvm.Cond.code mn0 prog_5_method_32_code 4 (some .int) :: ws) ({ frames := 5, cells := 0, slots := 0, locals := 66 } : Room)) (fun a U => a = #[(.ref a1), (.int (1 : Int32)), (.int (2 : Int32))] ∧ Z.Warmed39 U.vm ∧ U.heap = h0) (fun _ _ _ _ _ => True) (fun _ U o U' => ∃ v L, o = .returned v ∧ Qrmts1_2 Z a1 c0 c1 c2 c3 cs fv h0 n0 v U'.heap L ∧ FrameEnd U o U' L ({ frames := 5, cells := 0, slots := 0, locals := 66 } : Room).cells ({ frames := 5, cells := 0, slots := 0, locals := 66 } : Room).slots) := by
 refine MetFree.of_bodySF (plainFor_of_name pn_8) hisR ?_
 intro p e s m args below meth c s₁ Bd hml0 hP hK
 obtain ⟨rfl, hZ, hh⟩ := hP
 have hx := Bd.exec
 have hby := Bd.bytes
 have hml : c.maxLocals = 4 := hml0
 have hown : s.vm.findClass cs0 = some m.cls := findClass_of_methodNamed Bd.named
 have hnm := (name_of_methodNamed Bd.named Bd.method).1
 have X0 : Stand p l e ({ frames := 5, cells := 0, slots := 0, locals := 66 } : Room) s m #[(.ref a1), (.int (1 : Int32)), (.int (2 : Int32))] below meth c s₁ [] 0 0 := Stand.of_body Bd
 have e0 : s₁.heap = h0 := by rw [← hh, Bd.state]; rfl
 have N0 := Fr.nil n0
 refine own_go (b := (s₁.setTop (mkF m 0 #[rv a1, iv (1 : Int32), iv (2 : Int32), .unset] []))) (fun _ k => castTop (ef_rmts1_2 m a1 (1 : Int32) (2 : Int32)) k) ?_
 refine own_go (b := (s₁.setTop (mkF m 11 #[rv a1, iv (1 : Int32), iv (2 : Int32), iv (2 : Int32)] [(.int (1 : Int32)), (.ref a1)]))) (fun _ k => XS.iloadN X0.here hx rfl (hb hby d8_0) rfl (XS.istoreN X0.here hx rfl (hb hby d8_1) rfl (l' := #[rv a1, iv (1 : Int32), iv (2 : Int32), iv (2 : Int32)]) rfl (XS.iloadN X0.here hx rfl (hb hby d8_2) rfl (XS.iloadN X0.here hx rfl (hb hby d8_3) rfl (XS.icmpNo X0.here hx rfl (hb hby d8_4) rfl (tlt (by decide : (1 : Int32) < (2 : Int32))).2.2.2 (XS.aloadN X0.here hx rfl (hb hby d8_7) rfl rfl (XS.iloadN X0.here hx rfl (hb hby d8_8) rfl (XS.iconst X0.here hx rfl (hb hby d8_9) (XS.isub X0.here hx rfl (hb hby d8_10) rfl k))))))))) ?_
 refine own_virt (W := 0) X0 hx hZ hown e0 (ow hw 43 rfl) (ow hw 44 rfl) (ow hw 46 rfl) (ow hw 45 rfl) (rmca1 l Z a0 hw [] a1 c0 c1 c2 c3 cs fv h0 n0 Z0 O0 S_COMPACT_STRINGS hcs S__assertionsDisabled S_HI_BYTE_SHIFT S_LO_BYTE_SHIFT S_SIOOBE_FORMATTER hfv own_str_a1) (ow hw 47 rfl) (ow hw 8 rfl) E_a1 rfl (by rw [hml]; rfl) rfl (hb hby d8_11) (lenOf pd__I_C rfl) rfl (by decide) (fun T1 v1 Ll1 X1 hQ1 => ?_)
 obtain ⟨rfl, N1q, eh1⟩ := hQ1
 have N1 := Fr.app N0 N1q
 refine own_go (b := (T1.setTop (mkF m 16 #[rv a1, iv (1 : Int32), iv (2 : Int32), iv (2 : Int32)] [(.int (32 : Int32)), (.int c1)]))) (fun _ k => XS.bipush X1.here hx rfl (hb hby d8_14) k) ?_
 by_cases hc16_2 : c1 = (32 : Int32)
 · skip
   refine own_go (b := (T1.setTop (mkF m 26 #[rv a1, iv (1 : Int32), iv (2 : Int32), iv (1 : Int32)] [(.int (1 : Int32))]))) (fun _ k => XS.icmpNo X1.here hx rfl (hb hby d8_16) rfl (teq hc16_2).2 (XS.iinc X1.here hx rfl (hb hby d8_19) rfl (l' := #[rv a1, iv (1 : Int32), iv (2 : Int32), iv (1 : Int32)]) rfl (XS.goto X1.here hx rfl (pc0 := 22) (pc' := 2) rfl (hb hby d8_22) (by decide) (by decide) (XS.iloadN X1.here hx rfl (hb hby d8_2) rfl (XS.iloadN X1.here hx rfl (hb hby d8_3) rfl (XS.icmpYes X1.here hx rfl (pc0 := 4) (pc' := 25) rfl (hb hby d8_4) rfl (flt (by decide : ¬ ((1 : Int32) < (1 : Int32)))).2.2.2 (by decide) (by decide) (XS.iloadN X1.here hx rfl (hb hby d8_25) rfl k))))))) ?_
   obtain ⟨fs, hr, hrun, hended, hW, hsame⟩ := X1.leave (v := some (.int (1 : Int32))) (fun h => by rw [Bd.returns] at h; cases h)
   exact ⟨_, _, retOut X1 hx Bd.returns rfl (Or.inl ⟨rfl, Or.inl rfl, _, rfl⟩) (hb hby d8_26) hr, hrun, hended, _, _, rfl, (show Qrmts1_2 Z a1 c0 c1 c2 c3 cs fv h0 n0 _ T1.heap _ from (by rw [eh1]; exact ⟨(1 : Int32), rfl, N1, rfl, (Or.inr (⟨rfl, hc16_2⟩))⟩)), ⟨_, rfl⟩, hW, hsame.mono (by decide) (by decide)⟩
 · skip
   refine own_go (b := (T1.setTop (mkF m 26 #[rv a1, iv (1 : Int32), iv (2 : Int32), iv (2 : Int32)] [(.int (2 : Int32))]))) (fun _ k => XS.icmpYes X1.here hx rfl (pc0 := 16) (pc' := 25) rfl (hb hby d8_16) rfl (feq hc16_2).2 (by decide) (by decide) (XS.iloadN X1.here hx rfl (hb hby d8_25) rfl k)) ?_
   obtain ⟨fs, hr, hrun, hended, hW, hsame⟩ := X1.leave (v := some (.int (2 : Int32))) (fun h => by rw [Bd.returns] at h; cases h)
   exact ⟨_, _, retOut X1 hx Bd.returns rfl (Or.inl ⟨rfl, Or.inl rfl, _, rfl⟩) (hb hby d8_26) hr, hrun, hended, _, _, rfl, (show Qrmts1_2 Z a1 c0 c1 c2 c3 cs fv h0 n0 _ T1.heap _ from (by rw [eh1]; exact ⟨(2 : Int32), rfl, N1, rfl, (Or.inl ⟨rfl, hc16_2⟩)⟩)), ⟨_, rfl⟩, hW, hsame.mono (by decide) (by decide)⟩
theorem ef_rmts1_3 (m : MethodId) (x0 : Addr) (x1 : Int32) (x2 : Int32) : entryFrame m #[(.ref x0), (.int x1), (.int x2)] 4 = mkF m 0 #[rv x0, iv x1, iv x2, .unset] [] := by first | (simp [entryFrame, mkF, argsToLocals, Value.category]; done) | rfl
def Qrmts1_3 (Z : State) (a1 : Addr) (c0 : Int32) (c1 : Int32) (c2 : Int32) (c3 : Int32) (cs : Int32) (fv : Value) (h0 : Heap) (n0 : Nat) (v : Option Value) (h : Heap) (L : List Loc) : Prop := ∃ (r : Int32), v = some (.int r) ∧ Fr n0 L ∧ h = h0 ∧ ((r = (3 : Int32) ∧ ¬ (c2 = (32 : Int32))) ∨ (r = (2 : Int32) ∧ c2 = (32 : Int32) ∧ ¬ (c1 = (32 : Int32))) ∨ (r = (1 : Int32) ∧ c2 = (32 : Int32) ∧ c1 = (32 : Int32)))
set_option maxRecDepth 65536 in
set_option maxHeartbeats 40000000 in
theorem rmts1_3 (l : Launch) (Z : State) (a0 : Array Value) (hw : ∀ d ∈ tables_1, d.before a0 Z = true) (ws : List Jvm.Cond) (a1 : Addr) (c0 : Int32) (c1 : Int32) (c2 : Int32) (c3 : Int32) (cs : Int32) (fv : Value) (h0 : Heap) (n0 : Nat) (Z0 : n0 ≤ h0.size) (O0 : Old Z n0 h0) (S_COMPACT_STRINGS : Sta Z Z.heap "java/lang/String" "COMPACT_STRINGS" "Z" (.int cs)) (hcs : ¬ (cs = (0 : Int32))) (S__assertionsDisabled : Sta Z Z.heap "java/lang/StringUTF16" "$assertionsDisabled" "Z" (.int (1 : Int32))) (S_HI_BYTE_SHIFT : Sta Z Z.heap "java/lang/StringUTF16" "HI_BYTE_SHIFT" "I" (.int (0 : Int32))) (S_LO_BYTE_SHIFT : Sta Z Z.heap "java/lang/StringUTF16" "LO_BYTE_SHIFT" "I" (.int (8 : Int32))) (S_SIOOBE_FORMATTER : Sta Z Z.heap cs2 "SIOOBE_FORMATTER" "Ljava/util/function/BiFunction;" fv) (hfv : fv = .null ∨ ∃ x : Addr, fv = .ref x) (E_a1 : Exa Z h0 a1 "java/lang/String") (own_str_a1 : own_str Z h0 a1 c0 c1 c2 c3) :
    MetFree l mn0 (head1 (Jvm.Cond.code mn0 prog_5_method_32_code 4 (some .int) :: ws) ({ frames := 5, cells := 0, slots := 0, locals := 66 } : Room)) (fun a U => a = #[(.ref a1), (.int (1 : Int32)), (.int (3 : Int32))] ∧ Z.Warmed39 U.vm ∧ U.heap = h0) (fun _ _ _ _ _ => True) (fun _ U o U' => ∃ v L, o = .returned v ∧ Qrmts1_3 Z a1 c0 c1 c2 c3 cs fv h0 n0 v U'.heap L ∧ FrameEnd U o U' L ({ frames := 5, cells := 0, slots := 0, locals := 66 } : Room).cells ({ frames := 5, cells := 0, slots := 0, locals := 66 } : Room).slots) := by
 refine MetFree.of_bodySF (plainFor_of_name pn_8) hisR ?_
 intro p e s m args below meth c s₁ Bd hml0 hP hK
 obtain ⟨rfl, hZ, hh⟩ := hP
 have hx := Bd.exec
 have hby := Bd.bytes
 have hml : c.maxLocals = 4 := hml0
 have hown : s.vm.findClass cs0 = some m.cls := findClass_of_methodNamed Bd.named
 have hnm := (name_of_methodNamed Bd.named Bd.method).1
 have X0 : Stand p l e ({ frames := 5, cells := 0, slots := 0, locals := 66 } : Room) s m #[(.ref a1), (.int (1 : Int32)), (.int (3 : Int32))] below meth c s₁ [] 0 0 := Stand.of_body Bd
 have e0 : s₁.heap = h0 := by rw [← hh, Bd.state]; rfl
 have N0 := Fr.nil n0
 refine own_go (b := (s₁.setTop (mkF m 0 #[rv a1, iv (1 : Int32), iv (3 : Int32), .unset] []))) (fun _ k => castTop (ef_rmts1_3 m a1 (1 : Int32) (3 : Int32)) k) ?_
 refine own_go (b := (s₁.setTop (mkF m 11 #[rv a1, iv (1 : Int32), iv (3 : Int32), iv (3 : Int32)] [(.int (2 : Int32)), (.ref a1)]))) (fun _ k => XS.iloadN X0.here hx rfl (hb hby d8_0) rfl (XS.istoreN X0.here hx rfl (hb hby d8_1) rfl (l' := #[rv a1, iv (1 : Int32), iv (3 : Int32), iv (3 : Int32)]) rfl (XS.iloadN X0.here hx rfl (hb hby d8_2) rfl (XS.iloadN X0.here hx rfl (hb hby d8_3) rfl (XS.icmpNo X0.here hx rfl (hb hby d8_4) rfl (tlt (by decide : (1 : Int32) < (3 : Int32))).2.2.2 (XS.aloadN X0.here hx rfl (hb hby d8_7) rfl rfl (XS.iloadN X0.here hx rfl (hb hby d8_8) rfl (XS.iconst X0.here hx rfl (hb hby d8_9) (XS.isub X0.here hx rfl (hb hby d8_10) rfl k))))))))) ?_
 refine own_virt (W := 0) X0 hx hZ hown e0 (ow hw 43 rfl) (ow hw 44 rfl) (ow hw 46 rfl) (ow hw 45 rfl) (rmca2 l Z a0 hw [] a1 c0 c1 c2 c3 cs fv h0 n0 Z0 O0 S_COMPACT_STRINGS hcs S__assertionsDisabled S_HI_BYTE_SHIFT S_LO_BYTE_SHIFT S_SIOOBE_FORMATTER hfv own_str_a1) (ow hw 47 rfl) (ow hw 8 rfl) E_a1 rfl (by rw [hml]; rfl) rfl (hb hby d8_11) (lenOf pd__I_C rfl) rfl (by decide) (fun T1 v1 Ll1 X1 hQ1 => ?_)
 obtain ⟨rfl, N1q, eh1⟩ := hQ1
 have N1 := Fr.app N0 N1q
 refine own_go (b := (T1.setTop (mkF m 16 #[rv a1, iv (1 : Int32), iv (3 : Int32), iv (3 : Int32)] [(.int (32 : Int32)), (.int c2)]))) (fun _ k => XS.bipush X1.here hx rfl (hb hby d8_14) k) ?_
 by_cases hc16_2 : c2 = (32 : Int32)
 · skip
   refine own_go (b := (T1.setTop (mkF m 11 #[rv a1, iv (1 : Int32), iv (3 : Int32), iv (2 : Int32)] [(.int (1 : Int32)), (.ref a1)]))) (fun _ k => XS.icmpNo X1.here hx rfl (hb hby d8_16) rfl (teq hc16_2).2 (XS.iinc X1.here hx rfl (hb hby d8_19) rfl (l' := #[rv a1, iv (1 : Int32), iv (3 : Int32), iv (2 : Int32)]) rfl (XS.goto X1.here hx rfl (pc0 := 22) (pc' := 2) rfl (hb hby d8_22) (by decide) (by decide) (XS.iloadN X1.here hx rfl (hb hby d8_2) rfl (XS.iloadN X1.here hx rfl (hb hby d8_3) rfl (XS.icmpNo X1.here hx rfl (hb hby d8_4) rfl (tlt (by decide : (1 : Int32) < (2 : Int32))).2.2.2 (XS.aloadN X1.here hx rfl (hb hby d8_7) rfl rfl (XS.iloadN X1.here hx rfl (hb hby d8_8) rfl (XS.iconst X1.here hx rfl (hb hby d8_9) (XS.isub X1.here hx rfl (hb hby d8_10) rfl k)))))))))) ?_
   refine own_virt (W := 0) X1 hx hZ hown eh1 (ow hw 43 rfl) (ow hw 44 rfl) (ow hw 46 rfl) (ow hw 45 rfl) (rmca1 l Z a0 hw [] a1 c0 c1 c2 c3 cs fv h0 n0 Z0 O0 S_COMPACT_STRINGS hcs S__assertionsDisabled S_HI_BYTE_SHIFT S_LO_BYTE_SHIFT S_SIOOBE_FORMATTER hfv own_str_a1) (ow hw 47 rfl) (ow hw 8 rfl) E_a1 rfl (by rw [hml]; rfl) rfl (hb hby d8_11) (lenOf pd__I_C rfl) rfl (by decide) (fun T3 v3 Ll3 X3 hQ3 => ?_)
   obtain ⟨rfl, N3q, eh3⟩ := hQ3
   have N3 := Fr.app N1 N3q
   refine own_go (b := (T3.setTop (mkF m 16 #[rv a1, iv (1 : Int32), iv (3 : Int32), iv (2 : Int32)] [(.int (32 : Int32)), (.int c1)]))) (fun _ k => XS.bipush X3.here hx rfl (hb hby d8_14) k) ?_
   by_cases hc16_4 : c1 = (32 : Int32)
   · skip
     refine own_go (b := (T3.setTop (mkF m 26 #[rv a1, iv (1 : Int32), iv (3 : Int32), iv (1 : Int32)] [(.int (1 : Int32))]))) (fun _ k => XS.icmpNo X3.here hx rfl (hb hby d8_16) rfl (teq hc16_4).2 (XS.iinc X3.here hx rfl (hb hby d8_19) rfl (l' := #[rv a1, iv (1 : Int32), iv (3 : Int32), iv (1 : Int32)]) rfl (XS.goto X3.here hx rfl (pc0 := 22) (pc' := 2) rfl (hb hby d8_22) (by decide) (by decide) (XS.iloadN X3.here hx rfl (hb hby d8_2) rfl (XS.iloadN X3.here hx rfl (hb hby d8_3) rfl (XS.icmpYes X3.here hx rfl (pc0 := 4) (pc' := 25) rfl (hb hby d8_4) rfl (flt (by decide : ¬ ((1 : Int32) < (1 : Int32)))).2.2.2 (by decide) (by decide) (XS.iloadN X3.here hx rfl (hb hby d8_25) rfl k))))))) ?_
     obtain ⟨fs, hr, hrun, hended, hW, hsame⟩ := X3.leave (v := some (.int (1 : Int32))) (fun h => by rw [Bd.returns] at h; cases h)
     exact ⟨_, _, retOut X3 hx Bd.returns rfl (Or.inl ⟨rfl, Or.inl rfl, _, rfl⟩) (hb hby d8_26) hr, hrun, hended, _, _, rfl, (show Qrmts1_3 Z a1 c0 c1 c2 c3 cs fv h0 n0 _ T3.heap _ from (by rw [eh3]; exact ⟨(1 : Int32), rfl, N3, rfl, (Or.inr (Or.inr (⟨rfl, hc16_2, hc16_4⟩)))⟩)), ⟨_, rfl⟩, hW, hsame.mono (by decide) (by decide)⟩
   · skip
     refine own_go (b := (T3.setTop (mkF m 26 #[rv a1, iv (1 : Int32), iv (3 : Int32), iv (2 : Int32)] [(.int (2 : Int32))]))) (fun _ k => XS.icmpYes X3.here hx rfl (pc0 := 16) (pc' := 25) rfl (hb hby d8_16) rfl (feq hc16_4).2 (by decide) (by decide) (XS.iloadN X3.here hx rfl (hb hby d8_25) rfl k)) ?_
     obtain ⟨fs, hr, hrun, hended, hW, hsame⟩ := X3.leave (v := some (.int (2 : Int32))) (fun h => by rw [Bd.returns] at h; cases h)
     exact ⟨_, _, retOut X3 hx Bd.returns rfl (Or.inl ⟨rfl, Or.inl rfl, _, rfl⟩) (hb hby d8_26) hr, hrun, hended, _, _, rfl, (show Qrmts1_3 Z a1 c0 c1 c2 c3 cs fv h0 n0 _ T3.heap _ from (by rw [eh3]; exact ⟨(2 : Int32), rfl, N3, rfl, (Or.inr (Or.inl ⟨rfl, hc16_2, hc16_4⟩))⟩)), ⟨_, rfl⟩, hW, hsame.mono (by decide) (by decide)⟩
 · skip
   refine own_go (b := (T1.setTop (mkF m 26 #[rv a1, iv (1 : Int32), iv (3 : Int32), iv (3 : Int32)] [(.int (3 : Int32))]))) (fun _ k => XS.icmpYes X1.here hx rfl (pc0 := 16) (pc' := 25) rfl (hb hby d8_16) rfl (feq hc16_2).2 (by decide) (by decide) (XS.iloadN X1.here hx rfl (hb hby d8_25) rfl k)) ?_
   obtain ⟨fs, hr, hrun, hended, hW, hsame⟩ := X1.leave (v := some (.int (3 : Int32))) (fun h => by rw [Bd.returns] at h; cases h)
   exact ⟨_, _, retOut X1 hx Bd.returns rfl (Or.inl ⟨rfl, Or.inl rfl, _, rfl⟩) (hb hby d8_26) hr, hrun, hended, _, _, rfl, (show Qrmts1_3 Z a1 c0 c1 c2 c3 cs fv h0 n0 _ T1.heap _ from (by rw [eh1]; exact ⟨(3 : Int32), rfl, N1, rfl, (Or.inl ⟨rfl, hc16_2⟩)⟩)), ⟨_, rfl⟩, hW, hsame.mono (by decide) (by decide)⟩
theorem ef_rmts1_4 (m : MethodId) (x0 : Addr) (x1 : Int32) (x2 : Int32) : entryFrame m #[(.ref x0), (.int x1), (.int x2)] 4 = mkF m 0 #[rv x0, iv x1, iv x2, .unset] [] := by first | (simp [entryFrame, mkF, argsToLocals, Value.category]; done) | rfl
def Qrmts1_4 (Z : State) (a1 : Addr) (c0 : Int32) (c1 : Int32) (c2 : Int32) (c3 : Int32) (cs : Int32) (fv : Value) (h0 : Heap) (n0 : Nat) (v : Option Value) (h : Heap) (L : List Loc) : Prop := ∃ (r : Int32), v = some (.int r) ∧ Fr n0 L ∧ h = h0 ∧ ((r = (4 : Int32) ∧ ¬ (c3 = (32 : Int32))) ∨ (r = (3 : Int32) ∧ c3 = (32 : Int32) ∧ ¬ (c2 = (32 : Int32))) ∨ (r = (2 : Int32) ∧ c3 = (32 : Int32) ∧ c2 = (32 : Int32) ∧ ¬ (c1 = (32 : Int32))) ∨ (r = (1 : Int32) ∧ c3 = (32 : Int32) ∧ c2 = (32 : Int32) ∧ c1 = (32 : Int32)))
set_option maxRecDepth 65536 in
set_option maxHeartbeats 40000000 in
theorem rmts1_4 (l : Launch) (Z : State) (a0 : Array Value) (hw : ∀ d ∈ tables_1, d.before a0 Z = true) (ws : List Jvm.Cond) (a1 : Addr) (c0 : Int32) (c1 : Int32) (c2 : Int32) (c3 : Int32) (cs : Int32) (fv : Value) (h0 : Heap) (n0 : Nat) (Z0 : n0 ≤ h0.size) (O0 : Old Z n0 h0) (S_COMPACT_STRINGS : Sta Z Z.heap "java/lang/String" "COMPACT_STRINGS" "Z" (.int cs)) (hcs : ¬ (cs = (0 : Int32))) (S__assertionsDisabled : Sta Z Z.heap "java/lang/StringUTF16" "$assertionsDisabled" "Z" (.int (1 : Int32))) (S_HI_BYTE_SHIFT : Sta Z Z.heap "java/lang/StringUTF16" "HI_BYTE_SHIFT" "I" (.int (0 : Int32))) (S_LO_BYTE_SHIFT : Sta Z Z.heap "java/lang/StringUTF16" "LO_BYTE_SHIFT" "I" (.int (8 : Int32))) (S_SIOOBE_FORMATTER : Sta Z Z.heap cs2 "SIOOBE_FORMATTER" "Ljava/util/function/BiFunction;" fv) (hfv : fv = .null ∨ ∃ x : Addr, fv = .ref x) (E_a1 : Exa Z h0 a1 "java/lang/String") (own_str_a1 : own_str Z h0 a1 c0 c1 c2 c3) :
    MetFree l mn0 (head1 (Jvm.Cond.code mn0 prog_5_method_32_code 4 (some .int) :: ws) ({ frames := 5, cells := 0, slots := 0, locals := 66 } : Room)) (fun a U => a = #[(.ref a1), (.int (1 : Int32)), (.int (4 : Int32))] ∧ Z.Warmed39 U.vm ∧ U.heap = h0) (fun _ _ _ _ _ => True) (fun _ U o U' => ∃ v L, o = .returned v ∧ Qrmts1_4 Z a1 c0 c1 c2 c3 cs fv h0 n0 v U'.heap L ∧ FrameEnd U o U' L ({ frames := 5, cells := 0, slots := 0, locals := 66 } : Room).cells ({ frames := 5, cells := 0, slots := 0, locals := 66 } : Room).slots) := by
 refine MetFree.of_bodySF (plainFor_of_name pn_8) hisR ?_
 intro p e s m args below meth c s₁ Bd hml0 hP hK
 obtain ⟨rfl, hZ, hh⟩ := hP
 have hx := Bd.exec
 have hby := Bd.bytes
 have hml : c.maxLocals = 4 := hml0
 have hown : s.vm.findClass cs0 = some m.cls := findClass_of_methodNamed Bd.named
 have hnm := (name_of_methodNamed Bd.named Bd.method).1
 have X0 : Stand p l e ({ frames := 5, cells := 0, slots := 0, locals := 66 } : Room) s m #[(.ref a1), (.int (1 : Int32)), (.int (4 : Int32))] below meth c s₁ [] 0 0 := Stand.of_body Bd
 have e0 : s₁.heap = h0 := by rw [← hh, Bd.state]; rfl
 have N0 := Fr.nil n0
 refine own_go (b := (s₁.setTop (mkF m 0 #[rv a1, iv (1 : Int32), iv (4 : Int32), .unset] []))) (fun _ k => castTop (ef_rmts1_4 m a1 (1 : Int32) (4 : Int32)) k) ?_
 refine own_go (b := (s₁.setTop (mkF m 11 #[rv a1, iv (1 : Int32), iv (4 : Int32), iv (4 : Int32)] [(.int (3 : Int32)), (.ref a1)]))) (fun _ k => XS.iloadN X0.here hx rfl (hb hby d8_0) rfl (XS.istoreN X0.here hx rfl (hb hby d8_1) rfl (l' := #[rv a1, iv (1 : Int32), iv (4 : Int32), iv (4 : Int32)]) rfl (XS.iloadN X0.here hx rfl (hb hby d8_2) rfl (XS.iloadN X0.here hx rfl (hb hby d8_3) rfl (XS.icmpNo X0.here hx rfl (hb hby d8_4) rfl (tlt (by decide : (1 : Int32) < (4 : Int32))).2.2.2 (XS.aloadN X0.here hx rfl (hb hby d8_7) rfl rfl (XS.iloadN X0.here hx rfl (hb hby d8_8) rfl (XS.iconst X0.here hx rfl (hb hby d8_9) (XS.isub X0.here hx rfl (hb hby d8_10) rfl k))))))))) ?_
 refine own_virt (W := 0) X0 hx hZ hown e0 (ow hw 43 rfl) (ow hw 44 rfl) (ow hw 46 rfl) (ow hw 45 rfl) (rmca3 l Z a0 hw [] a1 c0 c1 c2 c3 cs fv h0 n0 Z0 O0 S_COMPACT_STRINGS hcs S__assertionsDisabled S_HI_BYTE_SHIFT S_LO_BYTE_SHIFT S_SIOOBE_FORMATTER hfv own_str_a1) (ow hw 47 rfl) (ow hw 8 rfl) E_a1 rfl (by rw [hml]; rfl) rfl (hb hby d8_11) (lenOf pd__I_C rfl) rfl (by decide) (fun T1 v1 Ll1 X1 hQ1 => ?_)
 obtain ⟨rfl, N1q, eh1⟩ := hQ1
 have N1 := Fr.app N0 N1q
 refine own_go (b := (T1.setTop (mkF m 16 #[rv a1, iv (1 : Int32), iv (4 : Int32), iv (4 : Int32)] [(.int (32 : Int32)), (.int c3)]))) (fun _ k => XS.bipush X1.here hx rfl (hb hby d8_14) k) ?_
 by_cases hc16_2 : c3 = (32 : Int32)
 · skip
   refine own_go (b := (T1.setTop (mkF m 11 #[rv a1, iv (1 : Int32), iv (4 : Int32), iv (3 : Int32)] [(.int (2 : Int32)), (.ref a1)]))) (fun _ k => XS.icmpNo X1.here hx rfl (hb hby d8_16) rfl (teq hc16_2).2 (XS.iinc X1.here hx rfl (hb hby d8_19) rfl (l' := #[rv a1, iv (1 : Int32), iv (4 : Int32), iv (3 : Int32)]) rfl (XS.goto X1.here hx rfl (pc0 := 22) (pc' := 2) rfl (hb hby d8_22) (by decide) (by decide) (XS.iloadN X1.here hx rfl (hb hby d8_2) rfl (XS.iloadN X1.here hx rfl (hb hby d8_3) rfl (XS.icmpNo X1.here hx rfl (hb hby d8_4) rfl (tlt (by decide : (1 : Int32) < (3 : Int32))).2.2.2 (XS.aloadN X1.here hx rfl (hb hby d8_7) rfl rfl (XS.iloadN X1.here hx rfl (hb hby d8_8) rfl (XS.iconst X1.here hx rfl (hb hby d8_9) (XS.isub X1.here hx rfl (hb hby d8_10) rfl k)))))))))) ?_
   refine own_virt (W := 0) X1 hx hZ hown eh1 (ow hw 43 rfl) (ow hw 44 rfl) (ow hw 46 rfl) (ow hw 45 rfl) (rmca2 l Z a0 hw [] a1 c0 c1 c2 c3 cs fv h0 n0 Z0 O0 S_COMPACT_STRINGS hcs S__assertionsDisabled S_HI_BYTE_SHIFT S_LO_BYTE_SHIFT S_SIOOBE_FORMATTER hfv own_str_a1) (ow hw 47 rfl) (ow hw 8 rfl) E_a1 rfl (by rw [hml]; rfl) rfl (hb hby d8_11) (lenOf pd__I_C rfl) rfl (by decide) (fun T3 v3 Ll3 X3 hQ3 => ?_)
   obtain ⟨rfl, N3q, eh3⟩ := hQ3
   have N3 := Fr.app N1 N3q
   refine own_go (b := (T3.setTop (mkF m 16 #[rv a1, iv (1 : Int32), iv (4 : Int32), iv (3 : Int32)] [(.int (32 : Int32)), (.int c2)]))) (fun _ k => XS.bipush X3.here hx rfl (hb hby d8_14) k) ?_
   by_cases hc16_4 : c2 = (32 : Int32)
   · skip
     refine own_go (b := (T3.setTop (mkF m 11 #[rv a1, iv (1 : Int32), iv (4 : Int32), iv (2 : Int32)] [(.int (1 : Int32)), (.ref a1)]))) (fun _ k => XS.icmpNo X3.here hx rfl (hb hby d8_16) rfl (teq hc16_4).2 (XS.iinc X3.here hx rfl (hb hby d8_19) rfl (l' := #[rv a1, iv (1 : Int32), iv (4 : Int32), iv (2 : Int32)]) rfl (XS.goto X3.here hx rfl (pc0 := 22) (pc' := 2) rfl (hb hby d8_22) (by decide) (by decide) (XS.iloadN X3.here hx rfl (hb hby d8_2) rfl (XS.iloadN X3.here hx rfl (hb hby d8_3) rfl (XS.icmpNo X3.here hx rfl (hb hby d8_4) rfl (tlt (by decide : (1 : Int32) < (2 : Int32))).2.2.2 (XS.aloadN X3.here hx rfl (hb hby d8_7) rfl rfl (XS.iloadN X3.here hx rfl (hb hby d8_8) rfl (XS.iconst X3.here hx rfl (hb hby d8_9) (XS.isub X3.here hx rfl (hb hby d8_10) rfl k)))))))))) ?_
     refine own_virt (W := 0) X3 hx hZ hown eh3 (ow hw 43 rfl) (ow hw 44 rfl) (ow hw 46 rfl) (ow hw 45 rfl) (rmca1 l Z a0 hw [] a1 c0 c1 c2 c3 cs fv h0 n0 Z0 O0 S_COMPACT_STRINGS hcs S__assertionsDisabled S_HI_BYTE_SHIFT S_LO_BYTE_SHIFT S_SIOOBE_FORMATTER hfv own_str_a1) (ow hw 47 rfl) (ow hw 8 rfl) E_a1 rfl (by rw [hml]; rfl) rfl (hb hby d8_11) (lenOf pd__I_C rfl) rfl (by decide) (fun T5 v5 Ll5 X5 hQ5 => ?_)
     obtain ⟨rfl, N5q, eh5⟩ := hQ5
     have N5 := Fr.app N3 N5q
     refine own_go (b := (T5.setTop (mkF m 16 #[rv a1, iv (1 : Int32), iv (4 : Int32), iv (2 : Int32)] [(.int (32 : Int32)), (.int c1)]))) (fun _ k => XS.bipush X5.here hx rfl (hb hby d8_14) k) ?_
     by_cases hc16_6 : c1 = (32 : Int32)
     · skip
       refine own_go (b := (T5.setTop (mkF m 26 #[rv a1, iv (1 : Int32), iv (4 : Int32), iv (1 : Int32)] [(.int (1 : Int32))]))) (fun _ k => XS.icmpNo X5.here hx rfl (hb hby d8_16) rfl (teq hc16_6).2 (XS.iinc X5.here hx rfl (hb hby d8_19) rfl (l' := #[rv a1, iv (1 : Int32), iv (4 : Int32), iv (1 : Int32)]) rfl (XS.goto X5.here hx rfl (pc0 := 22) (pc' := 2) rfl (hb hby d8_22) (by decide) (by decide) (XS.iloadN X5.here hx rfl (hb hby d8_2) rfl (XS.iloadN X5.here hx rfl (hb hby d8_3) rfl (XS.icmpYes X5.here hx rfl (pc0 := 4) (pc' := 25) rfl (hb hby d8_4) rfl (flt (by decide : ¬ ((1 : Int32) < (1 : Int32)))).2.2.2 (by decide) (by decide) (XS.iloadN X5.here hx rfl (hb hby d8_25) rfl k))))))) ?_
       obtain ⟨fs, hr, hrun, hended, hW, hsame⟩ := X5.leave (v := some (.int (1 : Int32))) (fun h => by rw [Bd.returns] at h; cases h)
       exact ⟨_, _, retOut X5 hx Bd.returns rfl (Or.inl ⟨rfl, Or.inl rfl, _, rfl⟩) (hb hby d8_26) hr, hrun, hended, _, _, rfl, (show Qrmts1_4 Z a1 c0 c1 c2 c3 cs fv h0 n0 _ T5.heap _ from (by rw [eh5]; exact ⟨(1 : Int32), rfl, N5, rfl, (Or.inr (Or.inr (Or.inr (⟨rfl, hc16_2, hc16_4, hc16_6⟩))))⟩)), ⟨_, rfl⟩, hW, hsame.mono (by decide) (by decide)⟩
     · skip
       refine own_go (b := (T5.setTop (mkF m 26 #[rv a1, iv (1 : Int32), iv (4 : Int32), iv (2 : Int32)] [(.int (2 : Int32))]))) (fun _ k => XS.icmpYes X5.here hx rfl (pc0 := 16) (pc' := 25) rfl (hb hby d8_16) rfl (feq hc16_6).2 (by decide) (by decide) (XS.iloadN X5.here hx rfl (hb hby d8_25) rfl k)) ?_
       obtain ⟨fs, hr, hrun, hended, hW, hsame⟩ := X5.leave (v := some (.int (2 : Int32))) (fun h => by rw [Bd.returns] at h; cases h)
       exact ⟨_, _, retOut X5 hx Bd.returns rfl (Or.inl ⟨rfl, Or.inl rfl, _, rfl⟩) (hb hby d8_26) hr, hrun, hended, _, _, rfl, (show Qrmts1_4 Z a1 c0 c1 c2 c3 cs fv h0 n0 _ T5.heap _ from (by rw [eh5]; exact ⟨(2 : Int32), rfl, N5, rfl, (Or.inr (Or.inr (Or.inl ⟨rfl, hc16_2, hc16_4, hc16_6⟩)))⟩)), ⟨_, rfl⟩, hW, hsame.mono (by decide) (by decide)⟩
   · skip
     refine own_go (b := (T3.setTop (mkF m 26 #[rv a1, iv (1 : Int32), iv (4 : Int32), iv (3 : Int32)] [(.int (3 : Int32))]))) (fun _ k => XS.icmpYes X3.here hx rfl (pc0 := 16) (pc' := 25) rfl (hb hby d8_16) rfl (feq hc16_4).2 (by decide) (by decide) (XS.iloadN X3.here hx rfl (hb hby d8_25) rfl k)) ?_
     obtain ⟨fs, hr, hrun, hended, hW, hsame⟩ := X3.leave (v := some (.int (3 : Int32))) (fun h => by rw [Bd.returns] at h; cases h)
     exact ⟨_, _, retOut X3 hx Bd.returns rfl (Or.inl ⟨rfl, Or.inl rfl, _, rfl⟩) (hb hby d8_26) hr, hrun, hended, _, _, rfl, (show Qrmts1_4 Z a1 c0 c1 c2 c3 cs fv h0 n0 _ T3.heap _ from (by rw [eh3]; exact ⟨(3 : Int32), rfl, N3, rfl, (Or.inr (Or.inl ⟨rfl, hc16_2, hc16_4⟩))⟩)), ⟨_, rfl⟩, hW, hsame.mono (by decide) (by decide)⟩
 · skip
   refine own_go (b := (T1.setTop (mkF m 26 #[rv a1, iv (1 : Int32), iv (4 : Int32), iv (4 : Int32)] [(.int (4 : Int32))]))) (fun _ k => XS.icmpYes X1.here hx rfl (pc0 := 16) (pc' := 25) rfl (hb hby d8_16) rfl (feq hc16_2).2 (by decide) (by decide) (XS.iloadN X1.here hx rfl (hb hby d8_25) rfl k)) ?_
   obtain ⟨fs, hr, hrun, hended, hW, hsame⟩ := X1.leave (v := some (.int (4 : Int32))) (fun h => by rw [Bd.returns] at h; cases h)
   exact ⟨_, _, retOut X1 hx Bd.returns rfl (Or.inl ⟨rfl, Or.inl rfl, _, rfl⟩) (hb hby d8_26) hr, hrun, hended, _, _, rfl, (show Qrmts1_4 Z a1 c0 c1 c2 c3 cs fv h0 n0 _ T1.heap _ from (by rw [eh1]; exact ⟨(4 : Int32), rfl, N1, rfl, (Or.inl ⟨rfl, hc16_2⟩)⟩)), ⟨_, rfl⟩, hW, hsame.mono (by decide) (by decide)⟩
theorem ef_rmts2_2 (m : MethodId) (x0 : Addr) (x1 : Int32) (x2 : Int32) : entryFrame m #[(.ref x0), (.int x1), (.int x2)] 4 = mkF m 0 #[rv x0, iv x1, iv x2, .unset] [] := by first | (simp [entryFrame, mkF, argsToLocals, Value.category]; done) | rfl
def Qrmts2_2 (Z : State) (a1 : Addr) (c0 : Int32) (c1 : Int32) (c2 : Int32) (c3 : Int32) (cs : Int32) (fv : Value) (h0 : Heap) (n0 : Nat) (v : Option Value) (h : Heap) (L : List Loc) : Prop := ∃ (r : Int32), v = some (.int r) ∧ Fr n0 L ∧ h = h0 ∧ ((r = (2 : Int32)))
set_option maxRecDepth 65536 in
set_option maxHeartbeats 40000000 in
theorem rmts2_2 (l : Launch) (Z : State) (a0 : Array Value) (hw : ∀ d ∈ tables_1, d.before a0 Z = true) (ws : List Jvm.Cond) (a1 : Addr) (c0 : Int32) (c1 : Int32) (c2 : Int32) (c3 : Int32) (cs : Int32) (fv : Value) (h0 : Heap) (n0 : Nat) (Z0 : n0 ≤ h0.size) (O0 : Old Z n0 h0) (S_COMPACT_STRINGS : Sta Z Z.heap "java/lang/String" "COMPACT_STRINGS" "Z" (.int cs)) (hcs : ¬ (cs = (0 : Int32))) (S__assertionsDisabled : Sta Z Z.heap "java/lang/StringUTF16" "$assertionsDisabled" "Z" (.int (1 : Int32))) (S_HI_BYTE_SHIFT : Sta Z Z.heap "java/lang/StringUTF16" "HI_BYTE_SHIFT" "I" (.int (0 : Int32))) (S_LO_BYTE_SHIFT : Sta Z Z.heap "java/lang/StringUTF16" "LO_BYTE_SHIFT" "I" (.int (8 : Int32))) (S_SIOOBE_FORMATTER : Sta Z Z.heap cs2 "SIOOBE_FORMATTER" "Ljava/util/function/BiFunction;" fv) (hfv : fv = .null ∨ ∃ x : Addr, fv = .ref x) (E_a1 : Exa Z h0 a1 "java/lang/String") (own_str_a1 : own_str Z h0 a1 c0 c1 c2 c3) :
    MetFree l mn0 (head1 (Jvm.Cond.code mn0 prog_5_method_32_code 4 (some .int) :: ws) ({ frames := 0, cells := 0, slots := 0, locals := 0 } : Room)) (fun a U => a = #[(.ref a1), (.int (2 : Int32)), (.int (2 : Int32))] ∧ Z.Warmed39 U.vm ∧ U.heap = h0) (fun _ _ _ _ _ => True) (fun _ U o U' => ∃ v L, o = .returned v ∧ Qrmts2_2 Z a1 c0 c1 c2 c3 cs fv h0 n0 v U'.heap L ∧ FrameEnd U o U' L ({ frames := 0, cells := 0, slots := 0, locals := 0 } : Room).cells ({ frames := 0, cells := 0, slots := 0, locals := 0 } : Room).slots) := by
 refine MetFree.of_bodySF (plainFor_of_name pn_8) hisR ?_
 intro p e s m args below meth c s₁ Bd hml0 hP hK
 obtain ⟨rfl, hZ, hh⟩ := hP
 have hx := Bd.exec
 have hby := Bd.bytes
 have hml : c.maxLocals = 4 := hml0
 have hown : s.vm.findClass cs0 = some m.cls := findClass_of_methodNamed Bd.named
 have hnm := (name_of_methodNamed Bd.named Bd.method).1
 have X0 : Stand p l e ({ frames := 0, cells := 0, slots := 0, locals := 0 } : Room) s m #[(.ref a1), (.int (2 : Int32)), (.int (2 : Int32))] below meth c s₁ [] 0 0 := Stand.of_body Bd
 have e0 : s₁.heap = h0 := by rw [← hh, Bd.state]; rfl
 have N0 := Fr.nil n0
 refine own_go (b := (s₁.setTop (mkF m 0 #[rv a1, iv (2 : Int32), iv (2 : Int32), .unset] []))) (fun _ k => castTop (ef_rmts2_2 m a1 (2 : Int32) (2 : Int32)) k) ?_
 refine own_go (b := (s₁.setTop (mkF m 26 #[rv a1, iv (2 : Int32), iv (2 : Int32), iv (2 : Int32)] [(.int (2 : Int32))]))) (fun _ k => XS.iloadN X0.here hx rfl (hb hby d8_0) rfl (XS.istoreN X0.here hx rfl (hb hby d8_1) rfl (l' := #[rv a1, iv (2 : Int32), iv (2 : Int32), iv (2 : Int32)]) rfl (XS.iloadN X0.here hx rfl (hb hby d8_2) rfl (XS.iloadN X0.here hx rfl (hb hby d8_3) rfl (XS.icmpYes X0.here hx rfl (pc0 := 4) (pc' := 25) rfl (hb hby d8_4) rfl (flt (by decide : ¬ ((2 : Int32) < (2 : Int32)))).2.2.2 (by decide) (by decide) (XS.iloadN X0.here hx rfl (hb hby d8_25) rfl k)))))) ?_
 obtain ⟨fs, hr, hrun, hended, hW, hsame⟩ := X0.leave (v := some (.int (2 : Int32))) (fun h => by rw [Bd.returns] at h; cases h)
 exact ⟨_, _, retOut X0 hx Bd.returns rfl (Or.inl ⟨rfl, Or.inl rfl, _, rfl⟩) (hb hby d8_26) hr, hrun, hended, _, _, rfl, (show Qrmts2_2 Z a1 c0 c1 c2 c3 cs fv h0 n0 _ s₁.heap _ from (by rw [e0]; exact ⟨(2 : Int32), rfl, N0, rfl, (rfl)⟩)), ⟨_, rfl⟩, hW, hsame.mono (by decide) (by decide)⟩
theorem ef_rmts2_3 (m : MethodId) (x0 : Addr) (x1 : Int32) (x2 : Int32) : entryFrame m #[(.ref x0), (.int x1), (.int x2)] 4 = mkF m 0 #[rv x0, iv x1, iv x2, .unset] [] := by first | (simp [entryFrame, mkF, argsToLocals, Value.category]; done) | rfl
def Qrmts2_3 (Z : State) (a1 : Addr) (c0 : Int32) (c1 : Int32) (c2 : Int32) (c3 : Int32) (cs : Int32) (fv : Value) (h0 : Heap) (n0 : Nat) (v : Option Value) (h : Heap) (L : List Loc) : Prop := ∃ (r : Int32), v = some (.int r) ∧ Fr n0 L ∧ h = h0 ∧ ((r = (3 : Int32) ∧ ¬ (c2 = (32 : Int32))) ∨ (r = (2 : Int32) ∧ c2 = (32 : Int32)))
set_option maxRecDepth 65536 in
set_option maxHeartbeats 40000000 in
theorem rmts2_3 (l : Launch) (Z : State) (a0 : Array Value) (hw : ∀ d ∈ tables_1, d.before a0 Z = true) (ws : List Jvm.Cond) (a1 : Addr) (c0 : Int32) (c1 : Int32) (c2 : Int32) (c3 : Int32) (cs : Int32) (fv : Value) (h0 : Heap) (n0 : Nat) (Z0 : n0 ≤ h0.size) (O0 : Old Z n0 h0) (S_COMPACT_STRINGS : Sta Z Z.heap "java/lang/String" "COMPACT_STRINGS" "Z" (.int cs)) (hcs : ¬ (cs = (0 : Int32))) (S__assertionsDisabled : Sta Z Z.heap "java/lang/StringUTF16" "$assertionsDisabled" "Z" (.int (1 : Int32))) (S_HI_BYTE_SHIFT : Sta Z Z.heap "java/lang/StringUTF16" "HI_BYTE_SHIFT" "I" (.int (0 : Int32))) (S_LO_BYTE_SHIFT : Sta Z Z.heap "java/lang/StringUTF16" "LO_BYTE_SHIFT" "I" (.int (8 : Int32))) (S_SIOOBE_FORMATTER : Sta Z Z.heap cs2 "SIOOBE_FORMATTER" "Ljava/util/function/BiFunction;" fv) (hfv : fv = .null ∨ ∃ x : Addr, fv = .ref x) (E_a1 : Exa Z h0 a1 "java/lang/String") (own_str_a1 : own_str Z h0 a1 c0 c1 c2 c3) :
    MetFree l mn0 (head1 (Jvm.Cond.code mn0 prog_5_method_32_code 4 (some .int) :: ws) ({ frames := 5, cells := 0, slots := 0, locals := 66 } : Room)) (fun a U => a = #[(.ref a1), (.int (2 : Int32)), (.int (3 : Int32))] ∧ Z.Warmed39 U.vm ∧ U.heap = h0) (fun _ _ _ _ _ => True) (fun _ U o U' => ∃ v L, o = .returned v ∧ Qrmts2_3 Z a1 c0 c1 c2 c3 cs fv h0 n0 v U'.heap L ∧ FrameEnd U o U' L ({ frames := 5, cells := 0, slots := 0, locals := 66 } : Room).cells ({ frames := 5, cells := 0, slots := 0, locals := 66 } : Room).slots) := by
 refine MetFree.of_bodySF (plainFor_of_name pn_8) hisR ?_
 intro p e s m args below meth c s₁ Bd hml0 hP hK
 obtain ⟨rfl, hZ, hh⟩ := hP
 have hx := Bd.exec
 have hby := Bd.bytes
 have hml : c.maxLocals = 4 := hml0
 have hown : s.vm.findClass cs0 = some m.cls := findClass_of_methodNamed Bd.named
 have hnm := (name_of_methodNamed Bd.named Bd.method).1
 have X0 : Stand p l e ({ frames := 5, cells := 0, slots := 0, locals := 66 } : Room) s m #[(.ref a1), (.int (2 : Int32)), (.int (3 : Int32))] below meth c s₁ [] 0 0 := Stand.of_body Bd
 have e0 : s₁.heap = h0 := by rw [← hh, Bd.state]; rfl
 have N0 := Fr.nil n0
 refine own_go (b := (s₁.setTop (mkF m 0 #[rv a1, iv (2 : Int32), iv (3 : Int32), .unset] []))) (fun _ k => castTop (ef_rmts2_3 m a1 (2 : Int32) (3 : Int32)) k) ?_
 refine own_go (b := (s₁.setTop (mkF m 11 #[rv a1, iv (2 : Int32), iv (3 : Int32), iv (3 : Int32)] [(.int (2 : Int32)), (.ref a1)]))) (fun _ k => XS.iloadN X0.here hx rfl (hb hby d8_0) rfl (XS.istoreN X0.here hx rfl (hb hby d8_1) rfl (l' := #[rv a1, iv (2 : Int32), iv (3 : Int32), iv (3 : Int32)]) rfl (XS.iloadN X0.here hx rfl (hb hby d8_2) rfl (XS.iloadN X0.here hx rfl (hb hby d8_3) rfl (XS.icmpNo X0.here hx rfl (hb hby d8_4) rfl (tlt (by decide : (2 : Int32) < (3 : Int32))).2.2.2 (XS.aloadN X0.here hx rfl (hb hby d8_7) rfl rfl (XS.iloadN X0.here hx rfl (hb hby d8_8) rfl (XS.iconst X0.here hx rfl (hb hby d8_9) (XS.isub X0.here hx rfl (hb hby d8_10) rfl k))))))))) ?_
 refine own_virt (W := 0) X0 hx hZ hown e0 (ow hw 43 rfl) (ow hw 44 rfl) (ow hw 46 rfl) (ow hw 45 rfl) (rmca2 l Z a0 hw [] a1 c0 c1 c2 c3 cs fv h0 n0 Z0 O0 S_COMPACT_STRINGS hcs S__assertionsDisabled S_HI_BYTE_SHIFT S_LO_BYTE_SHIFT S_SIOOBE_FORMATTER hfv own_str_a1) (ow hw 47 rfl) (ow hw 8 rfl) E_a1 rfl (by rw [hml]; rfl) rfl (hb hby d8_11) (lenOf pd__I_C rfl) rfl (by decide) (fun T1 v1 Ll1 X1 hQ1 => ?_)
 obtain ⟨rfl, N1q, eh1⟩ := hQ1
 have N1 := Fr.app N0 N1q
 refine own_go (b := (T1.setTop (mkF m 16 #[rv a1, iv (2 : Int32), iv (3 : Int32), iv (3 : Int32)] [(.int (32 : Int32)), (.int c2)]))) (fun _ k => XS.bipush X1.here hx rfl (hb hby d8_14) k) ?_
 by_cases hc16_2 : c2 = (32 : Int32)
 · skip
   refine own_go (b := (T1.setTop (mkF m 26 #[rv a1, iv (2 : Int32), iv (3 : Int32), iv (2 : Int32)] [(.int (2 : Int32))]))) (fun _ k => XS.icmpNo X1.here hx rfl (hb hby d8_16) rfl (teq hc16_2).2 (XS.iinc X1.here hx rfl (hb hby d8_19) rfl (l' := #[rv a1, iv (2 : Int32), iv (3 : Int32), iv (2 : Int32)]) rfl (XS.goto X1.here hx rfl (pc0 := 22) (pc' := 2) rfl (hb hby d8_22) (by decide) (by decide) (XS.iloadN X1.here hx rfl (hb hby d8_2) rfl (XS.iloadN X1.here hx rfl (hb hby d8_3) rfl (XS.icmpYes X1.here hx rfl (pc0 := 4) (pc' := 25) rfl (hb hby d8_4) rfl (flt (by decide : ¬ ((2 : Int32) < (2 : Int32)))).2.2.2 (by decide) (by decide) (XS.iloadN X1.here hx rfl (hb hby d8_25) rfl k))))))) ?_
   obtain ⟨fs, hr, hrun, hended, hW, hsame⟩ := X1.leave (v := some (.int (2 : Int32))) (fun h => by rw [Bd.returns] at h; cases h)
   exact ⟨_, _, retOut X1 hx Bd.returns rfl (Or.inl ⟨rfl, Or.inl rfl, _, rfl⟩) (hb hby d8_26) hr, hrun, hended, _, _, rfl, (show Qrmts2_3 Z a1 c0 c1 c2 c3 cs fv h0 n0 _ T1.heap _ from (by rw [eh1]; exact ⟨(2 : Int32), rfl, N1, rfl, (Or.inr (⟨rfl, hc16_2⟩))⟩)), ⟨_, rfl⟩, hW, hsame.mono (by decide) (by decide)⟩
 · skip
   refine own_go (b := (T1.setTop (mkF m 26 #[rv a1, iv (2 : Int32), iv (3 : Int32), iv (3 : Int32)] [(.int (3 : Int32))]))) (fun _ k => XS.icmpYes X1.here hx rfl (pc0 := 16) (pc' := 25) rfl (hb hby d8_16) rfl (feq hc16_2).2 (by decide) (by decide) (XS.iloadN X1.here hx rfl (hb hby d8_25) rfl k)) ?_
   obtain ⟨fs, hr, hrun, hended, hW, hsame⟩ := X1.leave (v := some (.int (3 : Int32))) (fun h => by rw [Bd.returns] at h; cases h)
   exact ⟨_, _, retOut X1 hx Bd.returns rfl (Or.inl ⟨rfl, Or.inl rfl, _, rfl⟩) (hb hby d8_26) hr, hrun, hended, _, _, rfl, (show Qrmts2_3 Z a1 c0 c1 c2 c3 cs fv h0 n0 _ T1.heap _ from (by rw [eh1]; exact ⟨(3 : Int32), rfl, N1, rfl, (Or.inl ⟨rfl, hc16_2⟩)⟩)), ⟨_, rfl⟩, hW, hsame.mono (by decide) (by decide)⟩
theorem ef_rmts2_4 (m : MethodId) (x0 : Addr) (x1 : Int32) (x2 : Int32) : entryFrame m #[(.ref x0), (.int x1), (.int x2)] 4 = mkF m 0 #[rv x0, iv x1, iv x2, .unset] [] := by first | (simp [entryFrame, mkF, argsToLocals, Value.category]; done) | rfl
def Qrmts2_4 (Z : State) (a1 : Addr) (c0 : Int32) (c1 : Int32) (c2 : Int32) (c3 : Int32) (cs : Int32) (fv : Value) (h0 : Heap) (n0 : Nat) (v : Option Value) (h : Heap) (L : List Loc) : Prop := ∃ (r : Int32), v = some (.int r) ∧ Fr n0 L ∧ h = h0 ∧ ((r = (4 : Int32) ∧ ¬ (c3 = (32 : Int32))) ∨ (r = (3 : Int32) ∧ c3 = (32 : Int32) ∧ ¬ (c2 = (32 : Int32))) ∨ (r = (2 : Int32) ∧ c3 = (32 : Int32) ∧ c2 = (32 : Int32)))
set_option maxRecDepth 65536 in
set_option maxHeartbeats 40000000 in
theorem rmts2_4 (l : Launch) (Z : State) (a0 : Array Value) (hw : ∀ d ∈ tables_1, d.before a0 Z = true) (ws : List Jvm.Cond) (a1 : Addr) (c0 : Int32) (c1 : Int32) (c2 : Int32) (c3 : Int32) (cs : Int32) (fv : Value) (h0 : Heap) (n0 : Nat) (Z0 : n0 ≤ h0.size) (O0 : Old Z n0 h0) (S_COMPACT_STRINGS : Sta Z Z.heap "java/lang/String" "COMPACT_STRINGS" "Z" (.int cs)) (hcs : ¬ (cs = (0 : Int32))) (S__assertionsDisabled : Sta Z Z.heap "java/lang/StringUTF16" "$assertionsDisabled" "Z" (.int (1 : Int32))) (S_HI_BYTE_SHIFT : Sta Z Z.heap "java/lang/StringUTF16" "HI_BYTE_SHIFT" "I" (.int (0 : Int32))) (S_LO_BYTE_SHIFT : Sta Z Z.heap "java/lang/StringUTF16" "LO_BYTE_SHIFT" "I" (.int (8 : Int32))) (S_SIOOBE_FORMATTER : Sta Z Z.heap cs2 "SIOOBE_FORMATTER" "Ljava/util/function/BiFunction;" fv) (hfv : fv = .null ∨ ∃ x : Addr, fv = .ref x) (E_a1 : Exa Z h0 a1 "java/lang/String") (own_str_a1 : own_str Z h0 a1 c0 c1 c2 c3) :
    MetFree l mn0 (head1 (Jvm.Cond.code mn0 prog_5_method_32_code 4 (some .int) :: ws) ({ frames := 5, cells := 0, slots := 0, locals := 66 } : Room)) (fun a U => a = #[(.ref a1), (.int (2 : Int32)), (.int (4 : Int32))] ∧ Z.Warmed39 U.vm ∧ U.heap = h0) (fun _ _ _ _ _ => True) (fun _ U o U' => ∃ v L, o = .returned v ∧ Qrmts2_4 Z a1 c0 c1 c2 c3 cs fv h0 n0 v U'.heap L ∧ FrameEnd U o U' L ({ frames := 5, cells := 0, slots := 0, locals := 66 } : Room).cells ({ frames := 5, cells := 0, slots := 0, locals := 66 } : Room).slots) := by
 refine MetFree.of_bodySF (plainFor_of_name pn_8) hisR ?_
 intro p e s m args below meth c s₁ Bd hml0 hP hK
 obtain ⟨rfl, hZ, hh⟩ := hP
 have hx := Bd.exec
 have hby := Bd.bytes
 have hml : c.maxLocals = 4 := hml0
 have hown : s.vm.findClass cs0 = some m.cls := findClass_of_methodNamed Bd.named
 have hnm := (name_of_methodNamed Bd.named Bd.method).1
 have X0 : Stand p l e ({ frames := 5, cells := 0, slots := 0, locals := 66 } : Room) s m #[(.ref a1), (.int (2 : Int32)), (.int (4 : Int32))] below meth c s₁ [] 0 0 := Stand.of_body Bd
 have e0 : s₁.heap = h0 := by rw [← hh, Bd.state]; rfl
 have N0 := Fr.nil n0
 refine own_go (b := (s₁.setTop (mkF m 0 #[rv a1, iv (2 : Int32), iv (4 : Int32), .unset] []))) (fun _ k => castTop (ef_rmts2_4 m a1 (2 : Int32) (4 : Int32)) k) ?_
 refine own_go (b := (s₁.setTop (mkF m 11 #[rv a1, iv (2 : Int32), iv (4 : Int32), iv (4 : Int32)] [(.int (3 : Int32)), (.ref a1)]))) (fun _ k => XS.iloadN X0.here hx rfl (hb hby d8_0) rfl (XS.istoreN X0.here hx rfl (hb hby d8_1) rfl (l' := #[rv a1, iv (2 : Int32), iv (4 : Int32), iv (4 : Int32)]) rfl (XS.iloadN X0.here hx rfl (hb hby d8_2) rfl (XS.iloadN X0.here hx rfl (hb hby d8_3) rfl (XS.icmpNo X0.here hx rfl (hb hby d8_4) rfl (tlt (by decide : (2 : Int32) < (4 : Int32))).2.2.2 (XS.aloadN X0.here hx rfl (hb hby d8_7) rfl rfl (XS.iloadN X0.here hx rfl (hb hby d8_8) rfl (XS.iconst X0.here hx rfl (hb hby d8_9) (XS.isub X0.here hx rfl (hb hby d8_10) rfl k))))))))) ?_
 refine own_virt (W := 0) X0 hx hZ hown e0 (ow hw 43 rfl) (ow hw 44 rfl) (ow hw 46 rfl) (ow hw 45 rfl) (rmca3 l Z a0 hw [] a1 c0 c1 c2 c3 cs fv h0 n0 Z0 O0 S_COMPACT_STRINGS hcs S__assertionsDisabled S_HI_BYTE_SHIFT S_LO_BYTE_SHIFT S_SIOOBE_FORMATTER hfv own_str_a1) (ow hw 47 rfl) (ow hw 8 rfl) E_a1 rfl (by rw [hml]; rfl) rfl (hb hby d8_11) (lenOf pd__I_C rfl) rfl (by decide) (fun T1 v1 Ll1 X1 hQ1 => ?_)
 obtain ⟨rfl, N1q, eh1⟩ := hQ1
 have N1 := Fr.app N0 N1q
 refine own_go (b := (T1.setTop (mkF m 16 #[rv a1, iv (2 : Int32), iv (4 : Int32), iv (4 : Int32)] [(.int (32 : Int32)), (.int c3)]))) (fun _ k => XS.bipush X1.here hx rfl (hb hby d8_14) k) ?_
 by_cases hc16_2 : c3 = (32 : Int32)
 · skip
   refine own_go (b := (T1.setTop (mkF m 11 #[rv a1, iv (2 : Int32), iv (4 : Int32), iv (3 : Int32)] [(.int (2 : Int32)), (.ref a1)]))) (fun _ k => XS.icmpNo X1.here hx rfl (hb hby d8_16) rfl (teq hc16_2).2 (XS.iinc X1.here hx rfl (hb hby d8_19) rfl (l' := #[rv a1, iv (2 : Int32), iv (4 : Int32), iv (3 : Int32)]) rfl (XS.goto X1.here hx rfl (pc0 := 22) (pc' := 2) rfl (hb hby d8_22) (by decide) (by decide) (XS.iloadN X1.here hx rfl (hb hby d8_2) rfl (XS.iloadN X1.here hx rfl (hb hby d8_3) rfl (XS.icmpNo X1.here hx rfl (hb hby d8_4) rfl (tlt (by decide : (2 : Int32) < (3 : Int32))).2.2.2 (XS.aloadN X1.here hx rfl (hb hby d8_7) rfl rfl (XS.iloadN X1.here hx rfl (hb hby d8_8) rfl (XS.iconst X1.here hx rfl (hb hby d8_9) (XS.isub X1.here hx rfl (hb hby d8_10) rfl k)))))))))) ?_
   refine own_virt (W := 0) X1 hx hZ hown eh1 (ow hw 43 rfl) (ow hw 44 rfl) (ow hw 46 rfl) (ow hw 45 rfl) (rmca2 l Z a0 hw [] a1 c0 c1 c2 c3 cs fv h0 n0 Z0 O0 S_COMPACT_STRINGS hcs S__assertionsDisabled S_HI_BYTE_SHIFT S_LO_BYTE_SHIFT S_SIOOBE_FORMATTER hfv own_str_a1) (ow hw 47 rfl) (ow hw 8 rfl) E_a1 rfl (by rw [hml]; rfl) rfl (hb hby d8_11) (lenOf pd__I_C rfl) rfl (by decide) (fun T3 v3 Ll3 X3 hQ3 => ?_)
   obtain ⟨rfl, N3q, eh3⟩ := hQ3
   have N3 := Fr.app N1 N3q
   refine own_go (b := (T3.setTop (mkF m 16 #[rv a1, iv (2 : Int32), iv (4 : Int32), iv (3 : Int32)] [(.int (32 : Int32)), (.int c2)]))) (fun _ k => XS.bipush X3.here hx rfl (hb hby d8_14) k) ?_
   by_cases hc16_4 : c2 = (32 : Int32)
   · skip
     refine own_go (b := (T3.setTop (mkF m 26 #[rv a1, iv (2 : Int32), iv (4 : Int32), iv (2 : Int32)] [(.int (2 : Int32))]))) (fun _ k => XS.icmpNo X3.here hx rfl (hb hby d8_16) rfl (teq hc16_4).2 (XS.iinc X3.here hx rfl (hb hby d8_19) rfl (l' := #[rv a1, iv (2 : Int32), iv (4 : Int32), iv (2 : Int32)]) rfl (XS.goto X3.here hx rfl (pc0 := 22) (pc' := 2) rfl (hb hby d8_22) (by decide) (by decide) (XS.iloadN X3.here hx rfl (hb hby d8_2) rfl (XS.iloadN X3.here hx rfl (hb hby d8_3) rfl (XS.icmpYes X3.here hx rfl (pc0 := 4) (pc' := 25) rfl (hb hby d8_4) rfl (flt (by decide : ¬ ((2 : Int32) < (2 : Int32)))).2.2.2 (by decide) (by decide) (XS.iloadN X3.here hx rfl (hb hby d8_25) rfl k))))))) ?_
     obtain ⟨fs, hr, hrun, hended, hW, hsame⟩ := X3.leave (v := some (.int (2 : Int32))) (fun h => by rw [Bd.returns] at h; cases h)
     exact ⟨_, _, retOut X3 hx Bd.returns rfl (Or.inl ⟨rfl, Or.inl rfl, _, rfl⟩) (hb hby d8_26) hr, hrun, hended, _, _, rfl, (show Qrmts2_4 Z a1 c0 c1 c2 c3 cs fv h0 n0 _ T3.heap _ from (by rw [eh3]; exact ⟨(2 : Int32), rfl, N3, rfl, (Or.inr (Or.inr (⟨rfl, hc16_2, hc16_4⟩)))⟩)), ⟨_, rfl⟩, hW, hsame.mono (by decide) (by decide)⟩
   · skip
     refine own_go (b := (T3.setTop (mkF m 26 #[rv a1, iv (2 : Int32), iv (4 : Int32), iv (3 : Int32)] [(.int (3 : Int32))]))) (fun _ k => XS.icmpYes X3.here hx rfl (pc0 := 16) (pc' := 25) rfl (hb hby d8_16) rfl (feq hc16_4).2 (by decide) (by decide) (XS.iloadN X3.here hx rfl (hb hby d8_25) rfl k)) ?_
     obtain ⟨fs, hr, hrun, hended, hW, hsame⟩ := X3.leave (v := some (.int (3 : Int32))) (fun h => by rw [Bd.returns] at h; cases h)
     exact ⟨_, _, retOut X3 hx Bd.returns rfl (Or.inl ⟨rfl, Or.inl rfl, _, rfl⟩) (hb hby d8_26) hr, hrun, hended, _, _, rfl, (show Qrmts2_4 Z a1 c0 c1 c2 c3 cs fv h0 n0 _ T3.heap _ from (by rw [eh3]; exact ⟨(3 : Int32), rfl, N3, rfl, (Or.inr (Or.inl ⟨rfl, hc16_2, hc16_4⟩))⟩)), ⟨_, rfl⟩, hW, hsame.mono (by decide) (by decide)⟩
 · skip
   refine own_go (b := (T1.setTop (mkF m 26 #[rv a1, iv (2 : Int32), iv (4 : Int32), iv (4 : Int32)] [(.int (4 : Int32))]))) (fun _ k => XS.icmpYes X1.here hx rfl (pc0 := 16) (pc' := 25) rfl (hb hby d8_16) rfl (feq hc16_2).2 (by decide) (by decide) (XS.iloadN X1.here hx rfl (hb hby d8_25) rfl k)) ?_
   obtain ⟨fs, hr, hrun, hended, hW, hsame⟩ := X1.leave (v := some (.int (4 : Int32))) (fun h => by rw [Bd.returns] at h; cases h)
   exact ⟨_, _, retOut X1 hx Bd.returns rfl (Or.inl ⟨rfl, Or.inl rfl, _, rfl⟩) (hb hby d8_26) hr, hrun, hended, _, _, rfl, (show Qrmts2_4 Z a1 c0 c1 c2 c3 cs fv h0 n0 _ T1.heap _ from (by rw [eh1]; exact ⟨(4 : Int32), rfl, N1, rfl, (Or.inl ⟨rfl, hc16_2⟩)⟩)), ⟨_, rfl⟩, hW, hsame.mono (by decide) (by decide)⟩
theorem ef_rmts3_3 (m : MethodId) (x0 : Addr) (x1 : Int32) (x2 : Int32) : entryFrame m #[(.ref x0), (.int x1), (.int x2)] 4 = mkF m 0 #[rv x0, iv x1, iv x2, .unset] [] := by first | (simp [entryFrame, mkF, argsToLocals, Value.category]; done) | rfl
def Qrmts3_3 (Z : State) (a1 : Addr) (c0 : Int32) (c1 : Int32) (c2 : Int32) (c3 : Int32) (cs : Int32) (fv : Value) (h0 : Heap) (n0 : Nat) (v : Option Value) (h : Heap) (L : List Loc) : Prop := ∃ (r : Int32), v = some (.int r) ∧ Fr n0 L ∧ h = h0 ∧ ((r = (3 : Int32)))
set_option maxRecDepth 65536 in
set_option maxHeartbeats 40000000 in
theorem rmts3_3 (l : Launch) (Z : State) (a0 : Array Value) (hw : ∀ d ∈ tables_1, d.before a0 Z = true) (ws : List Jvm.Cond) (a1 : Addr) (c0 : Int32) (c1 : Int32) (c2 : Int32) (c3 : Int32) (cs : Int32) (fv : Value) (h0 : Heap) (n0 : Nat) (Z0 : n0 ≤ h0.size) (O0 : Old Z n0 h0) (S_COMPACT_STRINGS : Sta Z Z.heap "java/lang/String" "COMPACT_STRINGS" "Z" (.int cs)) (hcs : ¬ (cs = (0 : Int32))) (S__assertionsDisabled : Sta Z Z.heap "java/lang/StringUTF16" "$assertionsDisabled" "Z" (.int (1 : Int32))) (S_HI_BYTE_SHIFT : Sta Z Z.heap "java/lang/StringUTF16" "HI_BYTE_SHIFT" "I" (.int (0 : Int32))) (S_LO_BYTE_SHIFT : Sta Z Z.heap "java/lang/StringUTF16" "LO_BYTE_SHIFT" "I" (.int (8 : Int32))) (S_SIOOBE_FORMATTER : Sta Z Z.heap cs2 "SIOOBE_FORMATTER" "Ljava/util/function/BiFunction;" fv) (hfv : fv = .null ∨ ∃ x : Addr, fv = .ref x) (E_a1 : Exa Z h0 a1 "java/lang/String") (own_str_a1 : own_str Z h0 a1 c0 c1 c2 c3) :
    MetFree l mn0 (head1 (Jvm.Cond.code mn0 prog_5_method_32_code 4 (some .int) :: ws) ({ frames := 0, cells := 0, slots := 0, locals := 0 } : Room)) (fun a U => a = #[(.ref a1), (.int (3 : Int32)), (.int (3 : Int32))] ∧ Z.Warmed39 U.vm ∧ U.heap = h0) (fun _ _ _ _ _ => True) (fun _ U o U' => ∃ v L, o = .returned v ∧ Qrmts3_3 Z a1 c0 c1 c2 c3 cs fv h0 n0 v U'.heap L ∧ FrameEnd U o U' L ({ frames := 0, cells := 0, slots := 0, locals := 0 } : Room).cells ({ frames := 0, cells := 0, slots := 0, locals := 0 } : Room).slots) := by
 refine MetFree.of_bodySF (plainFor_of_name pn_8) hisR ?_
 intro p e s m args below meth c s₁ Bd hml0 hP hK
 obtain ⟨rfl, hZ, hh⟩ := hP
 have hx := Bd.exec
 have hby := Bd.bytes
 have hml : c.maxLocals = 4 := hml0
 have hown : s.vm.findClass cs0 = some m.cls := findClass_of_methodNamed Bd.named
 have hnm := (name_of_methodNamed Bd.named Bd.method).1
 have X0 : Stand p l e ({ frames := 0, cells := 0, slots := 0, locals := 0 } : Room) s m #[(.ref a1), (.int (3 : Int32)), (.int (3 : Int32))] below meth c s₁ [] 0 0 := Stand.of_body Bd
 have e0 : s₁.heap = h0 := by rw [← hh, Bd.state]; rfl
 have N0 := Fr.nil n0
 refine own_go (b := (s₁.setTop (mkF m 0 #[rv a1, iv (3 : Int32), iv (3 : Int32), .unset] []))) (fun _ k => castTop (ef_rmts3_3 m a1 (3 : Int32) (3 : Int32)) k) ?_
 refine own_go (b := (s₁.setTop (mkF m 26 #[rv a1, iv (3 : Int32), iv (3 : Int32), iv (3 : Int32)] [(.int (3 : Int32))]))) (fun _ k => XS.iloadN X0.here hx rfl (hb hby d8_0) rfl (XS.istoreN X0.here hx rfl (hb hby d8_1) rfl (l' := #[rv a1, iv (3 : Int32), iv (3 : Int32), iv (3 : Int32)]) rfl (XS.iloadN X0.here hx rfl (hb hby d8_2) rfl (XS.iloadN X0.here hx rfl (hb hby d8_3) rfl (XS.icmpYes X0.here hx rfl (pc0 := 4) (pc' := 25) rfl (hb hby d8_4) rfl (flt (by decide : ¬ ((3 : Int32) < (3 : Int32)))).2.2.2 (by decide) (by decide) (XS.iloadN X0.here hx rfl (hb hby d8_25) rfl k)))))) ?_
 obtain ⟨fs, hr, hrun, hended, hW, hsame⟩ := X0.leave (v := some (.int (3 : Int32))) (fun h => by rw [Bd.returns] at h; cases h)
 exact ⟨_, _, retOut X0 hx Bd.returns rfl (Or.inl ⟨rfl, Or.inl rfl, _, rfl⟩) (hb hby d8_26) hr, hrun, hended, _, _, rfl, (show Qrmts3_3 Z a1 c0 c1 c2 c3 cs fv h0 n0 _ s₁.heap _ from (by rw [e0]; exact ⟨(3 : Int32), rfl, N0, rfl, (rfl)⟩)), ⟨_, rfl⟩, hW, hsame.mono (by decide) (by decide)⟩
theorem ef_rmts3_4 (m : MethodId) (x0 : Addr) (x1 : Int32) (x2 : Int32) : entryFrame m #[(.ref x0), (.int x1), (.int x2)] 4 = mkF m 0 #[rv x0, iv x1, iv x2, .unset] [] := by first | (simp [entryFrame, mkF, argsToLocals, Value.category]; done) | rfl
def Qrmts3_4 (Z : State) (a1 : Addr) (c0 : Int32) (c1 : Int32) (c2 : Int32) (c3 : Int32) (cs : Int32) (fv : Value) (h0 : Heap) (n0 : Nat) (v : Option Value) (h : Heap) (L : List Loc) : Prop := ∃ (r : Int32), v = some (.int r) ∧ Fr n0 L ∧ h = h0 ∧ ((r = (4 : Int32) ∧ ¬ (c3 = (32 : Int32))) ∨ (r = (3 : Int32) ∧ c3 = (32 : Int32)))
set_option maxRecDepth 65536 in
set_option maxHeartbeats 40000000 in
theorem rmts3_4 (l : Launch) (Z : State) (a0 : Array Value) (hw : ∀ d ∈ tables_1, d.before a0 Z = true) (ws : List Jvm.Cond) (a1 : Addr) (c0 : Int32) (c1 : Int32) (c2 : Int32) (c3 : Int32) (cs : Int32) (fv : Value) (h0 : Heap) (n0 : Nat) (Z0 : n0 ≤ h0.size) (O0 : Old Z n0 h0) (S_COMPACT_STRINGS : Sta Z Z.heap "java/lang/String" "COMPACT_STRINGS" "Z" (.int cs)) (hcs : ¬ (cs = (0 : Int32))) (S__assertionsDisabled : Sta Z Z.heap "java/lang/StringUTF16" "$assertionsDisabled" "Z" (.int (1 : Int32))) (S_HI_BYTE_SHIFT : Sta Z Z.heap "java/lang/StringUTF16" "HI_BYTE_SHIFT" "I" (.int (0 : Int32))) (S_LO_BYTE_SHIFT : Sta Z Z.heap "java/lang/StringUTF16" "LO_BYTE_SHIFT" "I" (.int (8 : Int32))) (S_SIOOBE_FORMATTER : Sta Z Z.heap cs2 "SIOOBE_FORMATTER" "Ljava/util/function/BiFunction;" fv) (hfv : fv = .null ∨ ∃ x : Addr, fv = .ref x) (E_a1 : Exa Z h0 a1 "java/lang/String") (own_str_a1 : own_str Z h0 a1 c0 c1 c2 c3) :
    MetFree l mn0 (head1 (Jvm.Cond.code mn0 prog_5_method_32_code 4 (some .int) :: ws) ({ frames := 5, cells := 0, slots := 0, locals := 66 } : Room)) (fun a U => a = #[(.ref a1), (.int (3 : Int32)), (.int (4 : Int32))] ∧ Z.Warmed39 U.vm ∧ U.heap = h0) (fun _ _ _ _ _ => True) (fun _ U o U' => ∃ v L, o = .returned v ∧ Qrmts3_4 Z a1 c0 c1 c2 c3 cs fv h0 n0 v U'.heap L ∧ FrameEnd U o U' L ({ frames := 5, cells := 0, slots := 0, locals := 66 } : Room).cells ({ frames := 5, cells := 0, slots := 0, locals := 66 } : Room).slots) := by
 refine MetFree.of_bodySF (plainFor_of_name pn_8) hisR ?_
 intro p e s m args below meth c s₁ Bd hml0 hP hK
 obtain ⟨rfl, hZ, hh⟩ := hP
 have hx := Bd.exec
 have hby := Bd.bytes
 have hml : c.maxLocals = 4 := hml0
 have hown : s.vm.findClass cs0 = some m.cls := findClass_of_methodNamed Bd.named
 have hnm := (name_of_methodNamed Bd.named Bd.method).1
 have X0 : Stand p l e ({ frames := 5, cells := 0, slots := 0, locals := 66 } : Room) s m #[(.ref a1), (.int (3 : Int32)), (.int (4 : Int32))] below meth c s₁ [] 0 0 := Stand.of_body Bd
 have e0 : s₁.heap = h0 := by rw [← hh, Bd.state]; rfl
 have N0 := Fr.nil n0
 refine own_go (b := (s₁.setTop (mkF m 0 #[rv a1, iv (3 : Int32), iv (4 : Int32), .unset] []))) (fun _ k => castTop (ef_rmts3_4 m a1 (3 : Int32) (4 : Int32)) k) ?_
 refine own_go (b := (s₁.setTop (mkF m 11 #[rv a1, iv (3 : Int32), iv (4 : Int32), iv (4 : Int32)] [(.int (3 : Int32)), (.ref a1)]))) (fun _ k => XS.iloadN X0.here hx rfl (hb hby d8_0) rfl (XS.istoreN X0.here hx rfl (hb hby d8_1) rfl (l' := #[rv a1, iv (3 : Int32), iv (4 : Int32), iv (4 : Int32)]) rfl (XS.iloadN X0.here hx rfl (hb hby d8_2) rfl (XS.iloadN X0.here hx rfl (hb hby d8_3) rfl (XS.icmpNo X0.here hx rfl (hb hby d8_4) rfl (tlt (by decide : (3 : Int32) < (4 : Int32))).2.2.2 (XS.aloadN X0.here hx rfl (hb hby d8_7) rfl rfl (XS.iloadN X0.here hx rfl (hb hby d8_8) rfl (XS.iconst X0.here hx rfl (hb hby d8_9) (XS.isub X0.here hx rfl (hb hby d8_10) rfl k))))))))) ?_
 refine own_virt (W := 0) X0 hx hZ hown e0 (ow hw 43 rfl) (ow hw 44 rfl) (ow hw 46 rfl) (ow hw 45 rfl) (rmca3 l Z a0 hw [] a1 c0 c1 c2 c3 cs fv h0 n0 Z0 O0 S_COMPACT_STRINGS hcs S__assertionsDisabled S_HI_BYTE_SHIFT S_LO_BYTE_SHIFT S_SIOOBE_FORMATTER hfv own_str_a1) (ow hw 47 rfl) (ow hw 8 rfl) E_a1 rfl (by rw [hml]; rfl) rfl (hb hby d8_11) (lenOf pd__I_C rfl) rfl (by decide) (fun T1 v1 Ll1 X1 hQ1 => ?_)
 obtain ⟨rfl, N1q, eh1⟩ := hQ1
 have N1 := Fr.app N0 N1q
 refine own_go (b := (T1.setTop (mkF m 16 #[rv a1, iv (3 : Int32), iv (4 : Int32), iv (4 : Int32)] [(.int (32 : Int32)), (.int c3)]))) (fun _ k => XS.bipush X1.here hx rfl (hb hby d8_14) k) ?_
 by_cases hc16_2 : c3 = (32 : Int32)
 · skip
   refine own_go (b := (T1.setTop (mkF m 26 #[rv a1, iv (3 : Int32), iv (4 : Int32), iv (3 : Int32)] [(.int (3 : Int32))]))) (fun _ k => XS.icmpNo X1.here hx rfl (hb hby d8_16) rfl (teq hc16_2).2 (XS.iinc X1.here hx rfl (hb hby d8_19) rfl (l' := #[rv a1, iv (3 : Int32), iv (4 : Int32), iv (3 : Int32)]) rfl (XS.goto X1.here hx rfl (pc0 := 22) (pc' := 2) rfl (hb hby d8_22) (by decide) (by decide) (XS.iloadN X1.here hx rfl (hb hby d8_2) rfl (XS.iloadN X1.here hx rfl (hb hby d8_3) rfl (XS.icmpYes X1.here hx rfl (pc0 := 4) (pc' := 25) rfl (hb hby d8_4) rfl (flt (by decide : ¬ ((3 : Int32) < (3 : Int32)))).2.2.2 (by decide) (by decide) (XS.iloadN X1.here hx rfl (hb hby d8_25) rfl k))))))) ?_
   obtain ⟨fs, hr, hrun, hended, hW, hsame⟩ := X1.leave (v := some (.int (3 : Int32))) (fun h => by rw [Bd.returns] at h; cases h)
   exact ⟨_, _, retOut X1 hx Bd.returns rfl (Or.inl ⟨rfl, Or.inl rfl, _, rfl⟩) (hb hby d8_26) hr, hrun, hended, _, _, rfl, (show Qrmts3_4 Z a1 c0 c1 c2 c3 cs fv h0 n0 _ T1.heap _ from (by rw [eh1]; exact ⟨(3 : Int32), rfl, N1, rfl, (Or.inr (⟨rfl, hc16_2⟩))⟩)), ⟨_, rfl⟩, hW, hsame.mono (by decide) (by decide)⟩
 · skip
   refine own_go (b := (T1.setTop (mkF m 26 #[rv a1, iv (3 : Int32), iv (4 : Int32), iv (4 : Int32)] [(.int (4 : Int32))]))) (fun _ k => XS.icmpYes X1.here hx rfl (pc0 := 16) (pc' := 25) rfl (hb hby d8_16) rfl (feq hc16_2).2 (by decide) (by decide) (XS.iloadN X1.here hx rfl (hb hby d8_25) rfl k)) ?_
   obtain ⟨fs, hr, hrun, hended, hW, hsame⟩ := X1.leave (v := some (.int (4 : Int32))) (fun h => by rw [Bd.returns] at h; cases h)
   exact ⟨_, _, retOut X1 hx Bd.returns rfl (Or.inl ⟨rfl, Or.inl rfl, _, rfl⟩) (hb hby d8_26) hr, hrun, hended, _, _, rfl, (show Qrmts3_4 Z a1 c0 c1 c2 c3 cs fv h0 n0 _ T1.heap _ from (by rw [eh1]; exact ⟨(4 : Int32), rfl, N1, rfl, (Or.inl ⟨rfl, hc16_2⟩)⟩)), ⟨_, rfl⟩, hW, hsame.mono (by decide) (by decide)⟩
theorem ef_rmts4_4 (m : MethodId) (x0 : Addr) (x1 : Int32) (x2 : Int32) : entryFrame m #[(.ref x0), (.int x1), (.int x2)] 4 = mkF m 0 #[rv x0, iv x1, iv x2, .unset] [] := by first | (simp [entryFrame, mkF, argsToLocals, Value.category]; done) | rfl
def Qrmts4_4 (Z : State) (a1 : Addr) (c0 : Int32) (c1 : Int32) (c2 : Int32) (c3 : Int32) (cs : Int32) (fv : Value) (h0 : Heap) (n0 : Nat) (v : Option Value) (h : Heap) (L : List Loc) : Prop := ∃ (r : Int32), v = some (.int r) ∧ Fr n0 L ∧ h = h0 ∧ ((r = (4 : Int32)))
set_option maxRecDepth 65536 in
set_option maxHeartbeats 40000000 in
theorem rmts4_4 (l : Launch) (Z : State) (a0 : Array Value) (hw : ∀ d ∈ tables_1, d.before a0 Z = true) (ws : List Jvm.Cond) (a1 : Addr) (c0 : Int32) (c1 : Int32) (c2 : Int32) (c3 : Int32) (cs : Int32) (fv : Value) (h0 : Heap) (n0 : Nat) (Z0 : n0 ≤ h0.size) (O0 : Old Z n0 h0) (S_COMPACT_STRINGS : Sta Z Z.heap "java/lang/String" "COMPACT_STRINGS" "Z" (.int cs)) (hcs : ¬ (cs = (0 : Int32))) (S__assertionsDisabled : Sta Z Z.heap "java/lang/StringUTF16" "$assertionsDisabled" "Z" (.int (1 : Int32))) (S_HI_BYTE_SHIFT : Sta Z Z.heap "java/lang/StringUTF16" "HI_BYTE_SHIFT" "I" (.int (0 : Int32))) (S_LO_BYTE_SHIFT : Sta Z Z.heap "java/lang/StringUTF16" "LO_BYTE_SHIFT" "I" (.int (8 : Int32))) (S_SIOOBE_FORMATTER : Sta Z Z.heap cs2 "SIOOBE_FORMATTER" "Ljava/util/function/BiFunction;" fv) (hfv : fv = .null ∨ ∃ x : Addr, fv = .ref x) (E_a1 : Exa Z h0 a1 "java/lang/String") (own_str_a1 : own_str Z h0 a1 c0 c1 c2 c3) :
    MetFree l mn0 (head1 (Jvm.Cond.code mn0 prog_5_method_32_code 4 (some .int) :: ws) ({ frames := 0, cells := 0, slots := 0, locals := 0 } : Room)) (fun a U => a = #[(.ref a1), (.int (4 : Int32)), (.int (4 : Int32))] ∧ Z.Warmed39 U.vm ∧ U.heap = h0) (fun _ _ _ _ _ => True) (fun _ U o U' => ∃ v L, o = .returned v ∧ Qrmts4_4 Z a1 c0 c1 c2 c3 cs fv h0 n0 v U'.heap L ∧ FrameEnd U o U' L ({ frames := 0, cells := 0, slots := 0, locals := 0 } : Room).cells ({ frames := 0, cells := 0, slots := 0, locals := 0 } : Room).slots) := by
 refine MetFree.of_bodySF (plainFor_of_name pn_8) hisR ?_
 intro p e s m args below meth c s₁ Bd hml0 hP hK
 obtain ⟨rfl, hZ, hh⟩ := hP
 have hx := Bd.exec
 have hby := Bd.bytes
 have hml : c.maxLocals = 4 := hml0
 have hown : s.vm.findClass cs0 = some m.cls := findClass_of_methodNamed Bd.named
 have hnm := (name_of_methodNamed Bd.named Bd.method).1
 have X0 : Stand p l e ({ frames := 0, cells := 0, slots := 0, locals := 0 } : Room) s m #[(.ref a1), (.int (4 : Int32)), (.int (4 : Int32))] below meth c s₁ [] 0 0 := Stand.of_body Bd
 have e0 : s₁.heap = h0 := by rw [← hh, Bd.state]; rfl
 have N0 := Fr.nil n0
 refine own_go (b := (s₁.setTop (mkF m 0 #[rv a1, iv (4 : Int32), iv (4 : Int32), .unset] []))) (fun _ k => castTop (ef_rmts4_4 m a1 (4 : Int32) (4 : Int32)) k) ?_
 refine own_go (b := (s₁.setTop (mkF m 26 #[rv a1, iv (4 : Int32), iv (4 : Int32), iv (4 : Int32)] [(.int (4 : Int32))]))) (fun _ k => XS.iloadN X0.here hx rfl (hb hby d8_0) rfl (XS.istoreN X0.here hx rfl (hb hby d8_1) rfl (l' := #[rv a1, iv (4 : Int32), iv (4 : Int32), iv (4 : Int32)]) rfl (XS.iloadN X0.here hx rfl (hb hby d8_2) rfl (XS.iloadN X0.here hx rfl (hb hby d8_3) rfl (XS.icmpYes X0.here hx rfl (pc0 := 4) (pc' := 25) rfl (hb hby d8_4) rfl (flt (by decide : ¬ ((4 : Int32) < (4 : Int32)))).2.2.2 (by decide) (by decide) (XS.iloadN X0.here hx rfl (hb hby d8_25) rfl k)))))) ?_
 obtain ⟨fs, hr, hrun, hended, hW, hsame⟩ := X0.leave (v := some (.int (4 : Int32))) (fun h => by rw [Bd.returns] at h; cases h)
 exact ⟨_, _, retOut X0 hx Bd.returns rfl (Or.inl ⟨rfl, Or.inl rfl, _, rfl⟩) (hb hby d8_26) hr, hrun, hended, _, _, rfl, (show Qrmts4_4 Z a1 c0 c1 c2 c3 cs fv h0 n0 _ s₁.heap _ from (by rw [e0]; exact ⟨(4 : Int32), rfl, N0, rfl, (rfl)⟩)), ⟨_, rfl⟩, hW, hsame.mono (by decide) (by decide)⟩
theorem d9_0 : decode method_4_code 0 = .ok (.iload_n 1, 1) := by decide +kernel
theorem d9_1 : decode method_4_code 1 = .ok (.iload_n 2, 1) := by decide +kernel
theorem d9_2 : decode method_4_code 2 = .ok (.if_icmp .lt 16, 3) := by decide +kernel
theorem d9_5 : decode method_4_code 5 = .ok (.iload_n 1, 1) := by decide +kernel
theorem d9_6 : decode method_4_code 6 = .ok (.iload_n 3, 1) := by decide +kernel
theorem d9_7 : decode method_4_code 7 = .ok (.if_icmp .ge 11, 3) := by decide +kernel
theorem d9_10 : decode method_4_code 10 = .ok (.aload_n 0, 1) := by decide +kernel
theorem d9_11 : decode method_4_code 11 = .ok (.iload_n 1, 1) := by decide +kernel
theorem d9_12 : decode method_4_code 12 = .ok (.caload, 1) := by decide +kernel
theorem d9_13 : decode method_4_code 13 = .ok (.bipush 32, 2) := by decide +kernel
theorem d9_15 : decode method_4_code 15 = .ok (.if_icmp .ne 7, 3) := by decide +kernel
theorem d9_18 : decode method_4_code 18 = .ok (.iconst 1, 1) := by decide +kernel
theorem d9_19 : decode method_4_code 19 = .ok (.goto 4, 3) := by decide +kernel
theorem d9_22 : decode method_4_code 22 = .ok (.iconst 0, 1) := by decide +kernel
theorem d9_23 : decode method_4_code 23 = .ok (.ireturn, 1) := by decide +kernel
theorem pn_9 : plainName cs1 = true := by first | (simp [plainName, overriddenIn]; done) | decide +kernel
theorem ef_rmsoA (m : MethodId) (x0 : Addr) (x1 : Int32) (x2 : Int32) (x3 : Int32) : entryFrame m #[(.ref x0), (.int x1), (.int x2), (.int x3)] 4 = mkF m 0 #[rv x0, iv x1, iv x2, iv x3] [] := by first | (simp [entryFrame, mkF, argsToLocals, Value.category]; done) | rfl
def QrmsoA (Z : State) (a2 : Addr) (ij : Int32) (rj : Int32) (tj : Int32) (h0 : Heap) (n0 : Nat) (v : Option Value) (h : Heap) (L : List Loc) : Prop := v = some (.int (1 : Int32)) ∧ Fr n0 L ∧ h = h0
set_option maxRecDepth 65536 in
set_option maxHeartbeats 40000000 in
theorem rmsoA (l : Launch) (Z : State) (a0 : Array Value) (hw : ∀ d ∈ tables_1, d.before a0 Z = true) (ws : List Jvm.Cond) (a2 : Addr) (ij : Int32) (rj : Int32) (tj : Int32) (h0 : Heap) (n0 : Nat) (Z0 : n0 ≤ h0.size) (hp0 : ij < rj) :
    MetFree l mn1 (head1 (Jvm.Cond.code mn1 method_4_code 4 (some .boolean) :: ws) ({ frames := 0, cells := 0, slots := 0, locals := 0 } : Room)) (fun a U => a = #[(.ref a2), (.int ij), (.int rj), (.int tj)] ∧ Z.Warmed39 U.vm ∧ U.heap = h0) (fun _ _ _ _ _ => True) (fun _ U o U' => ∃ v L, o = .returned v ∧ QrmsoA Z a2 ij rj tj h0 n0 v U'.heap L ∧ FrameEnd U o U' L ({ frames := 0, cells := 0, slots := 0, locals := 0 } : Room).cells ({ frames := 0, cells := 0, slots := 0, locals := 0 } : Room).slots) := by
 refine MetFree.of_bodySF (plainFor_of_name pn_9) hisR ?_
 intro p e s m args below meth c s₁ Bd hml0 hP hK
 obtain ⟨rfl, hZ, hh⟩ := hP
 have hx := Bd.exec
 have hby := Bd.bytes
 have hml : c.maxLocals = 4 := hml0
 have hown : s.vm.findClass cs1 = some m.cls := findClass_of_methodNamed Bd.named
 have hnm := (name_of_methodNamed Bd.named Bd.method).1
 have X0 : Stand p l e ({ frames := 0, cells := 0, slots := 0, locals := 0 } : Room) s m #[(.ref a2), (.int ij), (.int rj), (.int tj)] below meth c s₁ [] 0 0 := Stand.of_body Bd
 have e0 : s₁.heap = h0 := by rw [← hh, Bd.state]; rfl
 have N0 := Fr.nil n0
 refine own_go (b := (s₁.setTop (mkF m 0 #[rv a2, iv ij, iv rj, iv tj] []))) (fun _ k => castTop (ef_rmsoA m a2 ij rj tj) k) ?_
 refine own_go (b := (s₁.setTop (mkF m 23 #[rv a2, iv ij, iv rj, iv tj] [(.int (1 : Int32))]))) (fun _ k => XS.iloadN X0.here hx rfl (hb hby d9_0) rfl (XS.iloadN X0.here hx rfl (hb hby d9_1) rfl (XS.icmpYes X0.here hx rfl (pc0 := 2) (pc' := 18) rfl (hb hby d9_2) rfl (tlt hp0).1 (by decide) (by decide) (XS.iconst X0.here hx rfl (hb hby d9_18) (XS.goto X0.here hx rfl (pc0 := 19) (pc' := 23) rfl (hb hby d9_19) (by decide) (by decide) k))))) ?_
 obtain ⟨fs, hr, hrun, hended, hW, hsame⟩ := X0.leave (v := some (.int (1 : Int32))) (fun h => by rw [Bd.returns] at h; cases h)
 exact ⟨_, _, retN X0 hx (t := .boolean) Bd.returns (by simp) (hb hby d9_23) hr, hrun, hended, _, _, rfl, (show QrmsoA Z a2 ij rj tj h0 n0 _ s₁.heap _ from (by rw [e0]; exact ⟨rfl, N0, rfl⟩)), ⟨_, rfl⟩, hW, hsame.mono (by decide) (by decide)⟩
theorem ef_rmsoB (m : MethodId) (x0 : Addr) (x1 : Int32) (x2 : Int32) (x3 : Int32) : entryFrame m #[(.ref x0), (.int x1), (.int x2), (.int x3)] 4 = mkF m 0 #[rv x0, iv x1, iv x2, iv x3] [] := by first | (simp [entryFrame, mkF, argsToLocals, Value.category]; done) | rfl
def QrmsoB (Z : State) (a2 : Addr) (ij : Int32) (rj : Int32) (tj : Int32) (h0 : Heap) (n0 : Nat) (v : Option Value) (h : Heap) (L : List Loc) : Prop := v = some (.int (1 : Int32)) ∧ Fr n0 L ∧ h = h0
set_option maxRecDepth 65536 in
set_option maxHeartbeats 40000000 in
theorem rmsoB (l : Launch) (Z : State) (a0 : Array Value) (hw : ∀ d ∈ tables_1, d.before a0 Z = true) (ws : List Jvm.Cond) (a2 : Addr) (ij : Int32) (rj : Int32) (tj : Int32) (h0 : Heap) (n0 : Nat) (Z0 : n0 ≤ h0.size) (hp0 : ¬ (ij < rj)) (hp1 : ¬ (ij < tj)) :
    MetFree l mn1 (head1 (Jvm.Cond.code mn1 method_4_code 4 (some .boolean) :: ws) ({ frames := 0, cells := 0, slots := 0, locals := 0 } : Room)) (fun a U => a = #[(.ref a2), (.int ij), (.int rj), (.int tj)] ∧ Z.Warmed39 U.vm ∧ U.heap = h0) (fun _ _ _ _ _ => True) (fun _ U o U' => ∃ v L, o = .returned v ∧ QrmsoB Z a2 ij rj tj h0 n0 v U'.heap L ∧ FrameEnd U o U' L ({ frames := 0, cells := 0, slots := 0, locals := 0 } : Room).cells ({ frames := 0, cells := 0, slots := 0, locals := 0 } : Room).slots) := by
 refine MetFree.of_bodySF (plainFor_of_name pn_9) hisR ?_
 intro p e s m args below meth c s₁ Bd hml0 hP hK
 obtain ⟨rfl, hZ, hh⟩ := hP
 have hx := Bd.exec
 have hby := Bd.bytes
 have hml : c.maxLocals = 4 := hml0
 have hown : s.vm.findClass cs1 = some m.cls := findClass_of_methodNamed Bd.named
 have hnm := (name_of_methodNamed Bd.named Bd.method).1
 have X0 : Stand p l e ({ frames := 0, cells := 0, slots := 0, locals := 0 } : Room) s m #[(.ref a2), (.int ij), (.int rj), (.int tj)] below meth c s₁ [] 0 0 := Stand.of_body Bd
 have e0 : s₁.heap = h0 := by rw [← hh, Bd.state]; rfl
 have N0 := Fr.nil n0
 refine own_go (b := (s₁.setTop (mkF m 0 #[rv a2, iv ij, iv rj, iv tj] []))) (fun _ k => castTop (ef_rmsoB m a2 ij rj tj) k) ?_
 refine own_go (b := (s₁.setTop (mkF m 23 #[rv a2, iv ij, iv rj, iv tj] [(.int (1 : Int32))]))) (fun _ k => XS.iloadN X0.here hx rfl (hb hby d9_0) rfl (XS.iloadN X0.here hx rfl (hb hby d9_1) rfl (XS.icmpNo X0.here hx rfl (hb hby d9_2) rfl (flt hp0).1 (XS.iloadN X0.here hx rfl (hb hby d9_5) rfl (XS.iloadN X0.here hx rfl (hb hby d9_6) rfl (XS.icmpYes X0.here hx rfl (pc0 := 7) (pc' := 18) rfl (hb hby d9_7) rfl (flt hp1).2.1 (by decide) (by decide) (XS.iconst X0.here hx rfl (hb hby d9_18) (XS.goto X0.here hx rfl (pc0 := 19) (pc' := 23) rfl (hb hby d9_19) (by decide) (by decide) k)))))))) ?_
 obtain ⟨fs, hr, hrun, hended, hW, hsame⟩ := X0.leave (v := some (.int (1 : Int32))) (fun h => by rw [Bd.returns] at h; cases h)
 exact ⟨_, _, retN X0 hx (t := .boolean) Bd.returns (by simp) (hb hby d9_23) hr, hrun, hended, _, _, rfl, (show QrmsoB Z a2 ij rj tj h0 n0 _ s₁.heap _ from (by rw [e0]; exact ⟨rfl, N0, rfl⟩)), ⟨_, rfl⟩, hW, hsame.mono (by decide) (by decide)⟩
theorem ef_rmsoC0 (m : MethodId) (x0 : Addr) (x1 : Int32) (x2 : Int32) (x3 : Int32) : entryFrame m #[(.ref x0), (.int x1), (.int x2), (.int x3)] 4 = mkF m 0 #[rv x0, iv x1, iv x2, iv x3] [] := by first | (simp [entryFrame, mkF, argsToLocals, Value.category]; done) | rfl
def QrmsoC0 (Z : State) (a2 : Addr) (k2 : ClassId) (c0 : Int32) (c1 : Int32) (c2 : Int32) (c3 : Int32) (rj : Int32) (tj : Int32) (h0 : Heap) (n0 : Nat) (v : Option Value) (h : Heap) (L : List Loc) : Prop := v = some (.int (1 : Int32)) ∧ Fr n0 L ∧ h = h0
set_option maxRecDepth 65536 in
set_option maxHeartbeats 40000000 in
theorem rmsoC0 (l : Launch) (Z : State) (a0 : Array Value) (hw : ∀ d ∈ tables_1, d.before a0 Z = true) (ws : List Jvm.Cond) (a2 : Addr) (k2 : ClassId) (c0 : Int32) (c1 : Int32) (c2 : Int32) (c3 : Int32) (rj : Int32) (tj : Int32) (h0 : Heap) (n0 : Nat) (Z0 : n0 ≤ h0.size) (V_a2 : Arv Z h0 a2 k2 .char (4 : Int32) [(.int c0), (.int c1), (.int c2), (.int c3)] (.int (0 : Int32))) (hp0 : ¬ ((0 : Int32) < rj)) (hp1 : (0 : Int32) < tj) (hp2 : c0 = (32 : Int32)) :
    MetFree l mn1 (head1 (Jvm.Cond.code mn1 method_4_code 4 (some .boolean) :: ws) ({ frames := 0, cells := 0, slots := 0, locals := 0 } : Room)) (fun a U => a = #[(.ref a2), (.int (0 : Int32)), (.int rj), (.int tj)] ∧ Z.Warmed39 U.vm ∧ U.heap = h0) (fun _ _ _ _ _ => True) (fun _ U o U' => ∃ v L, o = .returned v ∧ QrmsoC0 Z a2 k2 c0 c1 c2 c3 rj tj h0 n0 v U'.heap L ∧ FrameEnd U o U' L ({ frames := 0, cells := 0, slots := 0, locals := 0 } : Room).cells ({ frames := 0, cells := 0, slots := 0, locals := 0 } : Room).slots) := by
 refine MetFree.of_bodySF (plainFor_of_name pn_9) hisR ?_
 intro p e s m args below meth c s₁ Bd hml0 hP hK
 obtain ⟨rfl, hZ, hh⟩ := hP
 have hx := Bd.exec
 have hby := Bd.bytes
 have hml : c.maxLocals = 4 := hml0
 have hown : s.vm.findClass cs1 = some m.cls := findClass_of_methodNamed Bd.named
 have hnm := (name_of_methodNamed Bd.named Bd.method).1
 have X0 : Stand p l e ({ frames := 0, cells := 0, slots := 0, locals := 0 } : Room) s m #[(.ref a2), (.int (0 : Int32)), (.int rj), (.int tj)] below meth c s₁ [] 0 0 := Stand.of_body Bd
 have e0 : s₁.heap = h0 := by rw [← hh, Bd.state]; rfl
 have N0 := Fr.nil n0
 refine own_go (b := (s₁.setTop (mkF m 0 #[rv a2, iv (0 : Int32), iv rj, iv tj] []))) (fun _ k => castTop (ef_rmsoC0 m a2 (0 : Int32) rj tj) k) ?_
 refine own_go (b := (s₁.setTop (mkF m 12 #[rv a2, iv (0 : Int32), iv rj, iv tj] [(.int (0 : Int32)), (.ref a2)]))) (fun _ k => XS.iloadN X0.here hx rfl (hb hby d9_0) rfl (XS.iloadN X0.here hx rfl (hb hby d9_1) rfl (XS.icmpNo X0.here hx rfl (hb hby d9_2) rfl (flt hp0).1 (XS.iloadN X0.here hx rfl (hb hby d9_5) rfl (XS.iloadN X0.here hx rfl (hb hby d9_6) rfl (XS.icmpNo X0.here hx rfl (hb hby d9_7) rfl (tlt hp1).2.1 (XS.aloadN X0.here hx rfl (hb hby d9_10) rfl rfl (XS.iloadN X0.here hx rfl (hb hby d9_11) rfl k)))))))) ?_
 obtain ⟨cl1, Ar1, ql1, Sz1, Nn1, Hl1, Gl1⟩ := id V_a2
 have hin1 : ¬ ((0 : Int32) < 0 ∨ cl1.slots.size ≤ ((0 : Int32)).toNatClampNeg) := inb_of Sz1 ⟨by decide, by decide⟩
 refine own_go (b := (s₁.setTop (mkF m 23 #[rv a2, iv (0 : Int32), iv rj, iv tj] [(.int (1 : Int32))]))) (fun _ k => X0.caload hx (j := (0 : Int32)) (v := (.int c0)) (by rw [e0]; exact Ar1.1) (State.isArrayOf_alike hZ.alike Ar1.2.1) Ar1.2.2 hin1 (Hl1.at hin1 rfl) (g := (mkF m 12 #[rv a2, iv (0 : Int32), iv rj, iv tj] [(.int (0 : Int32)), (.ref a2)])) rfl rfl (hb hby d9_12) _ (XS.bipush X0.here hx rfl (hb hby d9_13) (XS.icmpNo X0.here hx rfl (hb hby d9_15) rfl (teq hp2).2 (XS.iconst X0.here hx rfl (hb hby d9_18) (XS.goto X0.here hx rfl (pc0 := 19) (pc' := 23) rfl (hb hby d9_19) (by decide) (by decide) k))))) ?_
 obtain ⟨fs, hr, hrun, hended, hW, hsame⟩ := X0.leave (v := some (.int (1 : Int32))) (fun h => by rw [Bd.returns] at h; cases h)
 exact ⟨_, _, retN X0 hx (t := .boolean) Bd.returns (by simp) (hb hby d9_23) hr, hrun, hended, _, _, rfl, (show QrmsoC0 Z a2 k2 c0 c1 c2 c3 rj tj h0 n0 _ s₁.heap _ from (by rw [e0]; exact ⟨rfl, N0, rfl⟩)), ⟨_, rfl⟩, hW, hsame.mono (by decide) (by decide)⟩
theorem ef_rmsoC1 (m : MethodId) (x0 : Addr) (x1 : Int32) (x2 : Int32) (x3 : Int32) : entryFrame m #[(.ref x0), (.int x1), (.int x2), (.int x3)] 4 = mkF m 0 #[rv x0, iv x1, iv x2, iv x3] [] := by first | (simp [entryFrame, mkF, argsToLocals, Value.category]; done) | rfl
def QrmsoC1 (Z : State) (a2 : Addr) (k2 : ClassId) (c0 : Int32) (c1 : Int32) (c2 : Int32) (c3 : Int32) (rj : Int32) (tj : Int32) (h0 : Heap) (n0 : Nat) (v : Option Value) (h : Heap) (L : List Loc) : Prop := v = some (.int (1 : Int32)) ∧ Fr n0 L ∧ h = h0
set_option maxRecDepth 65536 in
set_option maxHeartbeats 40000000 in
theorem rmsoC1 (l : Launch) (Z : State) (a0 : Array Value) (hw : ∀ d ∈ tables_1, d.before a0 Z = true) (ws : List Jvm.Cond) (a2 : Addr) (k2 : ClassId) (c0 : Int32) (c1 : Int32) (c2 : Int32) (c3 : Int32) (rj : Int32) (tj : Int32) (h0 : Heap) (n0 : Nat) (Z0 : n0 ≤ h0.size) (V_a2 : Arv Z h0 a2 k2 .char (4 : Int32) [(.int c0), (.int c1), (.int c2), (.int c3)] (.int (0 : Int32))) (hp0 : ¬ ((1 : Int32) < rj)) (hp1 : (1 : Int32) < tj) (hp2 : c1 = (32 : Int32)) :
    MetFree l mn1 (head1 (Jvm.Cond.code mn1 method_4_code 4 (some .boolean) :: ws) ({ frames := 0, cells := 0, slots := 0, locals := 0 } : Room)) (fun a U => a = #[(.ref a2), (.int (1 : Int32)), (.int rj), (.int tj)] ∧ Z.Warmed39 U.vm ∧ U.heap = h0) (fun _ _ _ _ _ => True) (fun _ U o U' => ∃ v L, o = .returned v ∧ QrmsoC1 Z a2 k2 c0 c1 c2 c3 rj tj h0 n0 v U'.heap L ∧ FrameEnd U o U' L ({ frames := 0, cells := 0, slots := 0, locals := 0 } : Room).cells ({ frames := 0, cells := 0, slots := 0, locals := 0 } : Room).slots) := by
 refine MetFree.of_bodySF (plainFor_of_name pn_9) hisR ?_
 intro p e s m args below meth c s₁ Bd hml0 hP hK
 obtain ⟨rfl, hZ, hh⟩ := hP
 have hx := Bd.exec
 have hby := Bd.bytes
 have hml : c.maxLocals = 4 := hml0
 have hown : s.vm.findClass cs1 = some m.cls := findClass_of_methodNamed Bd.named
 have hnm := (name_of_methodNamed Bd.named Bd.method).1
 have X0 : Stand p l e ({ frames := 0, cells := 0, slots := 0, locals := 0 } : Room) s m #[(.ref a2), (.int (1 : Int32)), (.int rj), (.int tj)] below meth c s₁ [] 0 0 := Stand.of_body Bd
 have e0 : s₁.heap = h0 := by rw [← hh, Bd.state]; rfl
 have N0 := Fr.nil n0
 refine own_go (b := (s₁.setTop (mkF m 0 #[rv a2, iv (1 : Int32), iv rj, iv tj] []))) (fun _ k => castTop (ef_rmsoC1 m a2 (1 : Int32) rj tj) k) ?_
 refine own_go (b := (s₁.setTop (mkF m 12 #[rv a2, iv (1 : Int32), iv rj, iv tj] [(.int (1 : Int32)), (.ref a2)]))) (fun _ k => XS.iloadN X0.here hx rfl (hb hby d9_0) rfl (XS.iloadN X0.here hx rfl (hb hby d9_1) rfl (XS.icmpNo X0.here hx rfl (hb hby d9_2) rfl (flt hp0).1 (XS.iloadN X0.here hx rfl (hb hby d9_5) rfl (XS.iloadN X0.here hx rfl (hb hby d9_6) rfl (XS.icmpNo X0.here hx rfl (hb hby d9_7) rfl (tlt hp1).2.1 (XS.aloadN X0.here hx rfl (hb hby d9_10) rfl rfl (XS.iloadN X0.here hx rfl (hb hby d9_11) rfl k)))))))) ?_
 obtain ⟨cl1, Ar1, ql1, Sz1, Nn1, Hl1, Gl1⟩ := id V_a2
 have hin1 : ¬ ((1 : Int32) < 0 ∨ cl1.slots.size ≤ ((1 : Int32)).toNatClampNeg) := inb_of Sz1 ⟨by decide, by decide⟩
 refine own_go (b := (s₁.setTop (mkF m 23 #[rv a2, iv (1 : Int32), iv rj, iv tj] [(.int (1 : Int32))]))) (fun _ k => X0.caload hx (j := (1 : Int32)) (v := (.int c1)) (by rw [e0]; exact Ar1.1) (State.isArrayOf_alike hZ.alike Ar1.2.1) Ar1.2.2 hin1 (Hl1.at hin1 rfl) (g := (mkF m 12 #[rv a2, iv (1 : Int32), iv rj, iv tj] [(.int (1 : Int32)), (.ref a2)])) rfl rfl (hb hby d9_12) _ (XS.bipush X0.here hx rfl (hb hby d9_13) (XS.icmpNo X0.here hx rfl (hb hby d9_15) rfl (teq hp2).2 (XS.iconst X0.here hx rfl (hb hby d9_18) (XS.goto X0.here hx rfl (pc0 := 19) (pc' := 23) rfl (hb hby d9_19) (by decide) (by decide) k))))) ?_
 obtain ⟨fs, hr, hrun, hended, hW, hsame⟩ := X0.leave (v := some (.int (1 : Int32))) (fun h => by rw [Bd.returns] at h; cases h)
 exact ⟨_, _, retN X0 hx (t := .boolean) Bd.returns (by simp) (hb hby d9_23) hr, hrun, hended, _, _, rfl, (show QrmsoC1 Z a2 k2 c0 c1 c2 c3 rj tj h0 n0 _ s₁.heap _ from (by rw [e0]; exact ⟨rfl, N0, rfl⟩)), ⟨_, rfl⟩, hW, hsame.mono (by decide) (by decide)⟩
theorem ef_rmsoC2 (m : MethodId) (x0 : Addr) (x1 : Int32) (x2 : Int32) (x3 : Int32) : entryFrame m #[(.ref x0), (.int x1), (.int x2), (.int x3)] 4 = mkF m 0 #[rv x0, iv x1, iv x2, iv x3] [] := by first | (simp [entryFrame, mkF, argsToLocals, Value.category]; done) | rfl
def QrmsoC2 (Z : State) (a2 : Addr) (k2 : ClassId) (c0 : Int32) (c1 : Int32) (c2 : Int32) (c3 : Int32) (rj : Int32) (tj : Int32) (h0 : Heap) (n0 : Nat) (v : Option Value) (h : Heap) (L : List Loc) : Prop := v = some (.int (1 : Int32)) ∧ Fr n0 L ∧ h = h0
set_option maxRecDepth 65536 in
set_option maxHeartbeats 40000000 in
theorem rmsoC2 (l : Launch) (Z : State) (a0 : Array Value) (hw : ∀ d ∈ tables_1, d.before a0 Z = true) (ws : List Jvm.Cond) (a2 : Addr) (k2 : ClassId) (c0 : Int32) (c1 : Int32) (c2 : Int32) (c3 : Int32) (rj : Int32) (tj : Int32) (h0 : Heap) (n0 : Nat) (Z0 : n0 ≤ h0.size) (V_a2 : Arv Z h0 a2 k2 .char (4 : Int32) [(.int c0), (.int c1), (.int c2), (.int c3)] (.int (0 : Int32))) (hp0 : ¬ ((2 : Int32) < rj)) (hp1 : (2 : Int32) < tj) (hp2 : c2 = (32 : Int32)) :
    MetFree l mn1 (head1 (Jvm.Cond.code mn1 method_4_code 4 (some .boolean) :: ws) ({ frames := 0, cells := 0, slots := 0, locals := 0 } : Room)) (fun a U => a = #[(.ref a2), (.int (2 : Int32)), (.int rj), (.int tj)] ∧ Z.Warmed39 U.vm ∧ U.heap = h0) (fun _ _ _ _ _ => True) (fun _ U o U' => ∃ v L, o = .returned v ∧ QrmsoC2 Z a2 k2 c0 c1 c2 c3 rj tj h0 n0 v U'.heap L ∧ FrameEnd U o U' L ({ frames := 0, cells := 0, slots := 0, locals := 0 } : Room).cells ({ frames := 0, cells := 0, slots := 0, locals := 0 } : Room).slots) := by
 refine MetFree.of_bodySF (plainFor_of_name pn_9) hisR ?_
 intro p e s m args below meth c s₁ Bd hml0 hP hK
 obtain ⟨rfl, hZ, hh⟩ := hP
 have hx := Bd.exec
 have hby := Bd.bytes
 have hml : c.maxLocals = 4 := hml0
 have hown : s.vm.findClass cs1 = some m.cls := findClass_of_methodNamed Bd.named
 have hnm := (name_of_methodNamed Bd.named Bd.method).1
 have X0 : Stand p l e ({ frames := 0, cells := 0, slots := 0, locals := 0 } : Room) s m #[(.ref a2), (.int (2 : Int32)), (.int rj), (.int tj)] below meth c s₁ [] 0 0 := Stand.of_body Bd
 have e0 : s₁.heap = h0 := by rw [← hh, Bd.state]; rfl
 have N0 := Fr.nil n0
 refine own_go (b := (s₁.setTop (mkF m 0 #[rv a2, iv (2 : Int32), iv rj, iv tj] []))) (fun _ k => castTop (ef_rmsoC2 m a2 (2 : Int32) rj tj) k) ?_
 refine own_go (b := (s₁.setTop (mkF m 12 #[rv a2, iv (2 : Int32), iv rj, iv tj] [(.int (2 : Int32)), (.ref a2)]))) (fun _ k => XS.iloadN X0.here hx rfl (hb hby d9_0) rfl (XS.iloadN X0.here hx rfl (hb hby d9_1) rfl (XS.icmpNo X0.here hx rfl (hb hby d9_2) rfl (flt hp0).1 (XS.iloadN X0.here hx rfl (hb hby d9_5) rfl (XS.iloadN X0.here hx rfl (hb hby d9_6) rfl (XS.icmpNo X0.here hx rfl (hb hby d9_7) rfl (tlt hp1).2.1 (XS.aloadN X0.here hx rfl (hb hby d9_10) rfl rfl (XS.iloadN X0.here hx rfl (hb hby d9_11) rfl k)))))))) ?_
 obtain ⟨cl1, Ar1, ql1, Sz1, Nn1, Hl1, Gl1⟩ := id V_a2
 have hin1 : ¬ ((2 : Int32) < 0 ∨ cl1.slots.size ≤ ((2 : Int32)).toNatClampNeg) := inb_of Sz1 ⟨by decide, by decide⟩
 refine own_go (b := (s₁.setTop (mkF m 23 #[rv a2, iv (2 : Int32), iv rj, iv tj] [(.int (1 : Int32))]))) (fun _ k => X0.caload hx (j := (2 : Int32)) (v := (.int c2)) (by rw [e0]; exact Ar1.1) (State.isArrayOf_alike hZ.alike Ar1.2.1) Ar1.2.2 hin1 (Hl1.at hin1 rfl) (g := (mkF m 12 #[rv a2, iv (2 : Int32), iv rj, iv tj] [(.int (2 : Int32)), (.ref a2)])) rfl rfl (hb hby d9_12) _ (XS.bipush X0.here hx rfl (hb hby d9_13) (XS.icmpNo X0.here hx rfl (hb hby d9_15) rfl (teq hp2).2 (XS.iconst X0.here hx rfl (hb hby d9_18) (XS.goto X0.here hx rfl (pc0 := 19) (pc' := 23) rfl (hb hby d9_19) (by decide) (by decide) k))))) ?_
 obtain ⟨fs, hr, hrun, hended, hW, hsame⟩ := X0.leave (v := some (.int (1 : Int32))) (fun h => by rw [Bd.returns] at h; cases h)
 exact ⟨_, _, retN X0 hx (t := .boolean) Bd.returns (by simp) (hb hby d9_23) hr, hrun, hended, _, _, rfl, (show QrmsoC2 Z a2 k2 c0 c1 c2 c3 rj tj h0 n0 _ s₁.heap _ from (by rw [e0]; exact ⟨rfl, N0, rfl⟩)), ⟨_, rfl⟩, hW, hsame.mono (by decide) (by decide)⟩
theorem ef_rmsoC3 (m : MethodId) (x0 : Addr) (x1 : Int32) (x2 : Int32) (x3 : Int32) : entryFrame m #[(.ref x0), (.int x1), (.int x2), (.int x3)] 4 = mkF m 0 #[rv x0, iv x1, iv x2, iv x3] [] := by first | (simp [entryFrame, mkF, argsToLocals, Value.category]; done) | rfl
def QrmsoC3 (Z : State) (a2 : Addr) (k2 : ClassId) (c0 : Int32) (c1 : Int32) (c2 : Int32) (c3 : Int32) (rj : Int32) (tj : Int32) (h0 : Heap) (n0 : Nat) (v : Option Value) (h : Heap) (L : List Loc) : Prop := v = some (.int (1 : Int32)) ∧ Fr n0 L ∧ h = h0
set_option maxRecDepth 65536 in
set_option maxHeartbeats 40000000 in
theorem rmsoC3 (l : Launch) (Z : State) (a0 : Array Value) (hw : ∀ d ∈ tables_1, d.before a0 Z = true) (ws : List Jvm.Cond) (a2 : Addr) (k2 : ClassId) (c0 : Int32) (c1 : Int32) (c2 : Int32) (c3 : Int32) (rj : Int32) (tj : Int32) (h0 : Heap) (n0 : Nat) (Z0 : n0 ≤ h0.size) (V_a2 : Arv Z h0 a2 k2 .char (4 : Int32) [(.int c0), (.int c1), (.int c2), (.int c3)] (.int (0 : Int32))) (hp0 : ¬ ((3 : Int32) < rj)) (hp1 : (3 : Int32) < tj) (hp2 : c3 = (32 : Int32)) :
    MetFree l mn1 (head1 (Jvm.Cond.code mn1 method_4_code 4 (some .boolean) :: ws) ({ frames := 0, cells := 0, slots := 0, locals := 0 } : Room)) (fun a U => a = #[(.ref a2), (.int (3 : Int32)), (.int rj), (.int tj)] ∧ Z.Warmed39 U.vm ∧ U.heap = h0) (fun _ _ _ _ _ => True) (fun _ U o U' => ∃ v L, o = .returned v ∧ QrmsoC3 Z a2 k2 c0 c1 c2 c3 rj tj h0 n0 v U'.heap L ∧ FrameEnd U o U' L ({ frames := 0, cells := 0, slots := 0, locals := 0 } : Room).cells ({ frames := 0, cells := 0, slots := 0, locals := 0 } : Room).slots) := by
 refine MetFree.of_bodySF (plainFor_of_name pn_9) hisR ?_
 intro p e s m args below meth c s₁ Bd hml0 hP hK
 obtain ⟨rfl, hZ, hh⟩ := hP
 have hx := Bd.exec
 have hby := Bd.bytes
 have hml : c.maxLocals = 4 := hml0
 have hown : s.vm.findClass cs1 = some m.cls := findClass_of_methodNamed Bd.named
 have hnm := (name_of_methodNamed Bd.named Bd.method).1
 have X0 : Stand p l e ({ frames := 0, cells := 0, slots := 0, locals := 0 } : Room) s m #[(.ref a2), (.int (3 : Int32)), (.int rj), (.int tj)] below meth c s₁ [] 0 0 := Stand.of_body Bd
 have e0 : s₁.heap = h0 := by rw [← hh, Bd.state]; rfl
 have N0 := Fr.nil n0
 refine own_go (b := (s₁.setTop (mkF m 0 #[rv a2, iv (3 : Int32), iv rj, iv tj] []))) (fun _ k => castTop (ef_rmsoC3 m a2 (3 : Int32) rj tj) k) ?_
 refine own_go (b := (s₁.setTop (mkF m 12 #[rv a2, iv (3 : Int32), iv rj, iv tj] [(.int (3 : Int32)), (.ref a2)]))) (fun _ k => XS.iloadN X0.here hx rfl (hb hby d9_0) rfl (XS.iloadN X0.here hx rfl (hb hby d9_1) rfl (XS.icmpNo X0.here hx rfl (hb hby d9_2) rfl (flt hp0).1 (XS.iloadN X0.here hx rfl (hb hby d9_5) rfl (XS.iloadN X0.here hx rfl (hb hby d9_6) rfl (XS.icmpNo X0.here hx rfl (hb hby d9_7) rfl (tlt hp1).2.1 (XS.aloadN X0.here hx rfl (hb hby d9_10) rfl rfl (XS.iloadN X0.here hx rfl (hb hby d9_11) rfl k)))))))) ?_
 obtain ⟨cl1, Ar1, ql1, Sz1, Nn1, Hl1, Gl1⟩ := id V_a2
 have hin1 : ¬ ((3 : Int32) < 0 ∨ cl1.slots.size ≤ ((3 : Int32)).toNatClampNeg) := inb_of Sz1 ⟨by decide, by decide⟩
 refine own_go (b := (s₁.setTop (mkF m 23 #[rv a2, iv (3 : Int32), iv rj, iv tj] [(.int (1 : Int32))]))) (fun _ k => X0.caload hx (j := (3 : Int32)) (v := (.int c3)) (by rw [e0]; exact Ar1.1) (State.isArrayOf_alike hZ.alike Ar1.2.1) Ar1.2.2 hin1 (Hl1.at hin1 rfl) (g := (mkF m 12 #[rv a2, iv (3 : Int32), iv rj, iv tj] [(.int (3 : Int32)), (.ref a2)])) rfl rfl (hb hby d9_12) _ (XS.bipush X0.here hx rfl (hb hby d9_13) (XS.icmpNo X0.here hx rfl (hb hby d9_15) rfl (teq hp2).2 (XS.iconst X0.here hx rfl (hb hby d9_18) (XS.goto X0.here hx rfl (pc0 := 19) (pc' := 23) rfl (hb hby d9_19) (by decide) (by decide) k))))) ?_
 obtain ⟨fs, hr, hrun, hended, hW, hsame⟩ := X0.leave (v := some (.int (1 : Int32))) (fun h => by rw [Bd.returns] at h; cases h)
 exact ⟨_, _, retN X0 hx (t := .boolean) Bd.returns (by simp) (hb hby d9_23) hr, hrun, hended, _, _, rfl, (show QrmsoC3 Z a2 k2 c0 c1 c2 c3 rj tj h0 n0 _ s₁.heap _ from (by rw [e0]; exact ⟨rfl, N0, rfl⟩)), ⟨_, rfl⟩, hW, hsame.mono (by decide) (by decide)⟩
theorem pd___C_V : parseMethodDescriptor "([C)V" = some ⟨[(.array .char)], none⟩ := by decide +kernel
theorem pd__Ljava_lang_String_II_I : parseMethodDescriptor "(Ljava/lang/String;II)I" = some ⟨[(.object "java/lang/String"), .int, .int], some .int⟩ := by decide +kernel
theorem pd___CIII_Z : parseMethodDescriptor "([CIII)Z" = some ⟨[(.array .char), .int, .int, .int], some .boolean⟩ := by decide +kernel
theorem pn_0 : plainName cs1 = true := by first | (simp [plainName, overriddenIn]; done) | decide +kernel
theorem ef_rm0 (m : MethodId) (x0 : Int32) (x1 : Int32) (x2 : Int32) (x3 : Int32) (x4 : Int32) : entryFrame m #[(.int x0), (.int x1), (.int x2), (.int x3), (.int x4)] maxLocals = mkF m 0 #[iv x0, iv x1, iv x2, iv x3, iv x4, .unset, .unset, .unset, .unset, .unset, .unset, .unset] [] := by first | (simp [entryFrame, mkF, argsToLocals, Value.category, maxLocals]; done) | rfl
def Qrm0 (Z : State) (p0 : Int32) (p1 : Int32) (p2 : Int32) (p3 : Int32) (p4 : Int32) (cs : Int32) (fv : Value) (h0 : Heap) (n0 : Nat) (v : Option Value) (h : Heap) (L : List Loc) : Prop := v = some (.int (1 : Int32)) ∧ Fr n0 L
set_option maxRecDepth 65536 in
set_option maxHeartbeats 40000000 in
theorem rm0 (l : Launch) (Z : State) (a0 : Array Value) (hw : ∀ d ∈ tables_1, d.before a0 Z = true) (ws : List Jvm.Cond) (p0 : Int32) (p1 : Int32) (p2 : Int32) (p3 : Int32) (p4 : Int32) (cs : Int32) (fv : Value) (h0 : Heap) (n0 : Nat) (Z0 : n0 ≤ h0.size) (O0 : Old Z n0 h0) (S_COMPACT_STRINGS : Sta Z Z.heap "java/lang/String" "COMPACT_STRINGS" "Z" (.int cs)) (hcs : ¬ (cs = (0 : Int32))) (S__assertionsDisabled : Sta Z Z.heap "java/lang/StringUTF16" "$assertionsDisabled" "Z" (.int (1 : Int32))) (S_HI_BYTE_SHIFT : Sta Z Z.heap "java/lang/StringUTF16" "HI_BYTE_SHIFT" "I" (.int (0 : Int32))) (S_LO_BYTE_SHIFT : Sta Z Z.heap "java/lang/StringUTF16" "LO_BYTE_SHIFT" "I" (.int (8 : Int32))) (S_SIOOBE_FORMATTER : Sta Z Z.heap cs2 "SIOOBE_FORMATTER" "Ljava/util/function/BiFunction;" fv) (hfv : fv = .null ∨ ∃ x : Addr, fv = .ref x) :
    MetFree l x (head1 (Jvm.Cond.code x code maxLocals ret :: ws) room_1) (fun a U => a = #[(.int p0), (.int p1), (.int p2), (.int p3), (.int p4)] ∧ Z.Warmed39 U.vm ∧ U.heap = h0) (fun _ _ _ _ _ => True) (fun _ U o U' => ∃ v L, o = .returned v ∧ Qrm0 Z p0 p1 p2 p3 p4 cs fv h0 n0 v U'.heap L ∧ FrameEnd U o U' L room_1.cells room_1.slots) := by
 refine MetFree.of_bodySF (plainFor_of_name pn_0) hisR ?_
 intro p e s m args below meth c s₁ Bd hml0 hP hK
 obtain ⟨rfl, hZ, hh⟩ := hP
 have hx := Bd.exec
 have hby := Bd.bytes
 have hml : c.maxLocals = 12 := hml0
 have hown : s.vm.findClass cs1 = some m.cls := findClass_of_methodNamed Bd.named
 have hnm := (name_of_methodNamed Bd.named Bd.method).1
 have X0 : Stand p l e room_1 s m #[(.int p0), (.int p1), (.int p2), (.int p3), (.int p4)] below meth c s₁ [] 0 0 := Stand.of_body Bd
 have e0 : s₁.heap = h0 := by rw [← hh, Bd.state]; rfl
 have N0 := Fr.nil n0
 refine own_go (b := (s₁.setTop (mkF m 0 #[iv p0, iv p1, iv p2, iv p3, iv p4, .unset, .unset, .unset, .unset, .unset, .unset, .unset] []))) (fun _ k => castTop (ef_rm0 m p0 p1 p2 p3 p4) k) ?_
 refine own_go (b := (s₁.setTop (mkF m 1 #[iv p0, iv p1, iv p2, iv p3, iv p4, .unset, .unset, .unset, .unset, .unset, .unset, .unset] [(.int (4 : Int32))]))) (fun _ k => XS.iconst X0.here hx rfl (hb hby at_0) k) ?_
 obtain ⟨T1, h1, kl1, X1, e1, E1, A1, st1⟩ := newP X0 hx hZ (ow hw 0 rfl) e0 (g := (mkF m 1 #[iv p0, iv p1, iv p2, iv p3, iv p4, .unset, .unset, .unset, .unset, .unset, .unset, .unset] [(.int (4 : Int32))])) rfl (hb hby at_1) rfl (by decide) (cap := 4) (by decide) (by decide) (by decide) (by decide)
 obtain ⟨b1, g1⟩ : ∃ z, z = h0.size := ⟨_, rfl⟩
 rw [← g1] at A1 st1
 have Zs2 : n0 ≤ h1.size := Nat.le_trans Z0 E1.1
 have V1 : Arv Z h1 b1 kl1 .char (4 : Int32) [(.int (0 : Int32)), (.int (0 : Int32)), (.int (0 : Int32)), (.int (0 : Int32))] (.int (0 : Int32)) := (Arv.new A1 (by decide)).pad (pad_rep [] (.int (0 : Int32)) 4)
 refine own_go (b := (T1.setTop (mkF m 9 #[iv p0, iv p1, iv p2, iv p3, iv p4, rv b1, .unset, .unset, .unset, .unset, .unset, .unset] [(.int p0), (.int (0 : Int32)), (.ref b1)]))) (fun _ k => st1 _ (XS.astore X1.here hx rfl (hb hby at_3) rfl rfl (l' := #[iv p0, iv p1, iv p2, iv p3, iv p4, rv b1, .unset, .unset, .unset, .unset, .unset, .unset]) rfl (XS.aload X1.here hx rfl (hb hby at_5) rfl rfl (XS.iconst X1.here hx rfl (hb hby at_7) (XS.iloadN X1.here hx rfl (hb hby at_8) rfl k))))) ?_
 refine own_stat (W := 2) X1 hx hZ hown e1 (ow hw 1 rfl) (ow hw 2 rfl) (rmdraw l Z a0 hw [] p0 h1 n0 Zs2) (ow hw 4 rfl) (ow hw 3 rfl) rfl (by rw [hml]; rfl) rfl (hb hby at_9) (lenOf pd__I_C rfl) rfl (by decide) (fun T3 v3 Ll3 X3 hQ3 => ?_)
 obtain ⟨rc_3, rfl, N3q, eh3⟩ := hQ3
 have N3 := Fr.app N0 N3q
 obtain ⟨cl4, Ar4, ql4, Sz4, Nn4, Hl4, Gl4⟩ := id V1
 have hin4 : ¬ ((0 : Int32) < 0 ∨ cl4.slots.size ≤ ((0 : Int32)).toNatClampNeg) := inb_of Sz4 ⟨by decide, by decide⟩
 obtain ⟨T4, h4, X4, e4, W4, st4⟩ := stC X3 hx hZ eh3 Ar4 (j := (0 : Int32)) hin4 (g := (mkF m 12 #[iv p0, iv p1, iv p2, iv p3, iv p4, rv b1, .unset, .unset, .unset, .unset, .unset, .unset] [(.int rc_3), (.int (0 : Int32)), (.ref b1)])) rfl rfl (hb hby at_12)
 have gx5 : n0 ≤ b1 := Nat.le_trans Z0 (Nat.le_of_eq g1.symm)
 have N4 := Fr.snoc X4 N3 gx5
 have Zs6 : n0 ≤ h4.size := Nat.le_trans Zs2 (Keep.of_wr W4).1
 have V4 : Arv Z h4 b1 kl1 .char (4 : Int32) [(.int (nar .char rc_3)), (.int (0 : Int32)), (.int (0 : Int32)), (.int (0 : Int32))] (.int (0 : Int32)) := Arv.set Ar4 ql4 Sz4 Nn4 Hl4 Gl4 (fits_nar_char _) W4 0 rfl (Nat.le_of_ble_eq_true rfl)
 refine own_go (b := (T4.setTop (mkF m 17 #[iv p0, iv p1, iv p2, iv p3, iv p4, rv b1, .unset, .unset, .unset, .unset, .unset, .unset] [(.int p1), (.int (1 : Int32)), (.ref b1)]))) (fun _ k => st4 _ (XS.aload X4.here hx rfl (hb hby at_13) rfl rfl (XS.iconst X4.here hx rfl (hb hby at_15) (XS.iloadN X4.here hx rfl (hb hby at_16) rfl k)))) ?_
 refine own_stat (W := 2) X4 hx hZ hown e4 (ow hw 1 rfl) (ow hw 2 rfl) (rmdraw l Z a0 hw [] p1 h4 n0 Zs6) (ow hw 4 rfl) (ow hw 3 rfl) rfl (by rw [hml]; rfl) rfl (hb hby at_17) (lenOf pd__I_C rfl) rfl (by decide) (fun T7 v7 Ll7 X7 hQ7 => ?_)
 obtain ⟨rc_7, rfl, N7q, eh7⟩ := hQ7
 have N7 := Fr.app N4 N7q
 obtain ⟨cl8, Ar8, ql8, Sz8, Nn8, Hl8, Gl8⟩ := id V4
 have hin8 : ¬ ((1 : Int32) < 0 ∨ cl8.slots.size ≤ ((1 : Int32)).toNatClampNeg) := inb_of Sz8 ⟨by decide, by decide⟩
 obtain ⟨T8, h8, X8, e8, W8, st8⟩ := stC X7 hx hZ eh7 Ar8 (j := (1 : Int32)) hin8 (g := (mkF m 20 #[iv p0, iv p1, iv p2, iv p3, iv p4, rv b1, .unset, .unset, .unset, .unset, .unset, .unset] [(.int rc_7), (.int (1 : Int32)), (.ref b1)])) rfl rfl (hb hby at_20)
 have N8 := Fr.snoc X8 N7 gx5
 have Zs9 : n0 ≤ h8.size := Nat.le_trans Zs6 (Keep.of_wr W8).1
 have V8 : Arv Z h8 b1 kl1 .char (4 : Int32) [(.int (nar .char rc_3)), (.int (nar .char rc_7)), (.int (0 : Int32)), (.int (0 : Int32))] (.int (0 : Int32)) := Arv.set Ar8 ql8 Sz8 Nn8 Hl8 Gl8 (fits_nar_char _) W8 1 rfl (Nat.le_of_ble_eq_true rfl)
 refine own_go (b := (T8.setTop (mkF m 25 #[iv p0, iv p1, iv p2, iv p3, iv p4, rv b1, .unset, .unset, .unset, .unset, .unset, .unset] [(.int p2), (.int (2 : Int32)), (.ref b1)]))) (fun _ k => st8 _ (XS.aload X8.here hx rfl (hb hby at_21) rfl rfl (XS.iconst X8.here hx rfl (hb hby at_23) (XS.iloadN X8.here hx rfl (hb hby at_24) rfl k)))) ?_
 refine own_stat (W := 2) X8 hx hZ hown e8 (ow hw 1 rfl) (ow hw 2 rfl) (rmdraw l Z a0 hw [] p2 h8 n0 Zs9) (ow hw 4 rfl) (ow hw 3 rfl) rfl (by rw [hml]; rfl) rfl (hb hby at_25) (lenOf pd__I_C rfl) rfl (by decide) (fun T10 v10 Ll10 X10 hQ10 => ?_)
 obtain ⟨rc_10, rfl, N10q, eh10⟩ := hQ10
 have N10 := Fr.app N8 N10q
 obtain ⟨cl11, Ar11, ql11, Sz11, Nn11, Hl11, Gl11⟩ := id V8
 have hin11 : ¬ ((2 : Int32) < 0 ∨ cl11.slots.size ≤ ((2 : Int32)).toNatClampNeg) := inb_of Sz11 ⟨by decide, by decide⟩
 obtain ⟨T11, h11, X11, e11, W11, st11⟩ := stC X10 hx hZ eh10 Ar11 (j := (2 : Int32)) hin11 (g := (mkF m 28 #[iv p0, iv p1, iv p2, iv p3, iv p4, rv b1, .unset, .unset, .unset, .unset, .unset, .unset] [(.int rc_10), (.int (2 : Int32)), (.ref b1)])) rfl rfl (hb hby at_28)
 have N11 := Fr.snoc X11 N10 gx5
 have Zs12 : n0 ≤ h11.size := Nat.le_trans Zs9 (Keep.of_wr W11).1
 have V11 : Arv Z h11 b1 kl1 .char (4 : Int32) [(.int (nar .char rc_3)), (.int (nar .char rc_7)), (.int (nar .char rc_10)), (.int (0 : Int32))] (.int (0 : Int32)) := Arv.set Ar11 ql11 Sz11 Nn11 Hl11 Gl11 (fits_nar_char _) W11 2 rfl (Nat.le_of_ble_eq_true rfl)
 refine own_go (b := (T11.setTop (mkF m 33 #[iv p0, iv p1, iv p2, iv p3, iv p4, rv b1, .unset, .unset, .unset, .unset, .unset, .unset] [(.int p3), (.int (3 : Int32)), (.ref b1)]))) (fun _ k => st11 _ (XS.aload X11.here hx rfl (hb hby at_29) rfl rfl (XS.iconst X11.here hx rfl (hb hby at_31) (XS.iloadN X11.here hx rfl (hb hby at_32) rfl k)))) ?_
 refine own_stat (W := 2) X11 hx hZ hown e11 (ow hw 1 rfl) (ow hw 2 rfl) (rmdraw l Z a0 hw [] p3 h11 n0 Zs12) (ow hw 4 rfl) (ow hw 3 rfl) rfl (by rw [hml]; rfl) rfl (hb hby at_33) (lenOf pd__I_C rfl) rfl (by decide) (fun T13 v13 Ll13 X13 hQ13 => ?_)
 obtain ⟨rc_13, rfl, N13q, eh13⟩ := hQ13
 have N13 := Fr.app N11 N13q
 obtain ⟨cl14, Ar14, ql14, Sz14, Nn14, Hl14, Gl14⟩ := id V11
 have hin14 : ¬ ((3 : Int32) < 0 ∨ cl14.slots.size ≤ ((3 : Int32)).toNatClampNeg) := inb_of Sz14 ⟨by decide, by decide⟩
 obtain ⟨T14, h14, X14, e14, W14, st14⟩ := stC X13 hx hZ eh13 Ar14 (j := (3 : Int32)) hin14 (g := (mkF m 36 #[iv p0, iv p1, iv p2, iv p3, iv p4, rv b1, .unset, .unset, .unset, .unset, .unset, .unset] [(.int rc_13), (.int (3 : Int32)), (.ref b1)])) rfl rfl (hb hby at_36)
 have N14 := Fr.snoc X14 N13 gx5
 have Zs15 : n0 ≤ h14.size := Nat.le_trans Zs12 (Keep.of_wr W14).1
 have V14 : Arv Z h14 b1 kl1 .char (4 : Int32) [(.int (nar .char rc_3)), (.int (nar .char rc_7)), (.int (nar .char rc_10)), (.int (nar .char rc_13))] (.int (0 : Int32)) := Arv.set Ar14 ql14 Sz14 Nn14 Hl14 Gl14 (fits_nar_char _) W14 3 rfl (Nat.le_of_ble_eq_true rfl)
 refine own_go (b := (T14.setTop (mkF m 37 #[iv p0, iv p1, iv p2, iv p3, iv p4, rv b1, .unset, .unset, .unset, .unset, .unset, .unset] []))) (fun _ k => st14 _ k) ?_
 obtain ⟨T16, h16, X16, e16, E16, A16, D16, Un16, st16⟩ := newO X14 hx hZ hown (ow hw 6 rfl) (ow hw 7 rfl) (ow hw 8 rfl) e14 (g := (mkF m 37 #[iv p0, iv p1, iv p2, iv p3, iv p4, rv b1, .unset, .unset, .unset, .unset, .unset, .unset] [])) rfl (hb hby at_37) (by decide) (by decide)
 obtain ⟨b16, g16⟩ : ∃ z, z = h14.size := ⟨_, rfl⟩
 rw [← g16] at A16 D16 Un16 st16
 have Zs17 : n0 ≤ h16.size := Nat.le_trans Zs15 E16.1
 have F16_coder : Fld Z h16 b16 "java/lang/String" "coder" "B" (.int (0 : Int32)) := D16 (Or.inr (ow hw 32 rfl)) (ty := .byte) (by decide)
 have F16_value : Fld Z h16 b16 "java/lang/String" "value" "[B" .null := D16 (Or.inr (ow hw 34 rfl)) (ty := (.array .byte)) (by decide)
 refine own_go (b := (T16.setTop (mkF m 43 #[iv p0, iv p1, iv p2, iv p3, iv p4, rv b1, .unset, .unset, .unset, .unset, .unset, .unset] [(.ref b1), (.ref b16), (.ref b16)]))) (fun _ k => st16 _ (XS.dup X16.here hx rfl (hb hby at_40) rfl rfl (XS.aload X16.here hx rfl (hb hby at_41) rfl rfl k))) ?_
 have O19 := O0.ext E1
 have O20 := O19.wr W4 gx5
 have O21 := O20.wr W8 gx5
 have O22 := O21.wr W11 gx5
 have O23 := O22.wr W14 gx5
 have O24 := O23.ext E16
 have gx25 : n0 ≤ b16 := Nat.le_trans Zs15 (Nat.le_of_eq g16.symm)
 have F26 := V14.ext E16
 refine own_spec (W := 1) X16 hx hZ hown e16 (ow hw 9 rfl) (ow hw 10 rfl) (rms2 l Z a0 hw [] b16 b1 kl1 (nar .char rc_3) (nar .char rc_7) (nar .char rc_10) (nar .char rc_13) cs h16 n0 Zs17 O24 S_COMPACT_STRINGS hcs S__assertionsDisabled S_HI_BYTE_SHIFT S_LO_BYTE_SHIFT A16 F16_value F16_coder gx25 F26 (own_chn _) (own_chn _) (own_chn _) (own_chn _)) (ow hw 11 rfl) (ow hw 8 rfl) rfl (by rw [hml]; rfl) rfl (hb hby at_43) (lenOf pd___C_V rfl) rfl rfl (by decide) (fun T18 v18 Ll18 X18 hQ18 => ?_)
 obtain ⟨rfl, N18q, K18, P18_0⟩ := hQ18
 have N18 := Fr.app N14 N18q
 have Zs27 : n0 ≤ T18.heap.size := Nat.le_trans Zs17 K18.1
 refine own_go (b := (T18.setTop (mkF m 55 #[iv p0, iv p1, iv p2, iv p3, iv p4, rv b1, rv b16, .unset, .unset, .unset, .unset, .unset] [(.int ((p4 &&& (2147483647 : Int32)) % (5 : Int32)))]))) (fun _ k => XS.astore X18.here hx rfl (hb hby at_46) rfl rfl (l' := #[iv p0, iv p1, iv p2, iv p3, iv p4, rv b1, rv b16, .unset, .unset, .unset, .unset, .unset]) rfl (XS.iload X18.here hx rfl (hb hby at_48) rfl (X18.ldcInt hx hown (mvT hZ (ow hw 35 rfl)) (g := (mkF m 50 #[iv p0, iv p1, iv p2, iv p3, iv p4, rv b1, rv b16, .unset, .unset, .unset, .unset, .unset] [(.int p4)])) rfl (hb hby at_50) _ (XS.iand X18.here hx rfl (hb hby at_52) rfl (XS.iconst X18.here hx rfl (hb hby at_53) (iremM (g := (mkF m 54 #[iv p0, iv p1, iv p2, iv p3, iv p4, rv b1, rv b16, .unset, .unset, .unset, .unset, .unset] [(.int (5 : Int32)), (.int (p4 &&& (2147483647 : Int32)))])) X18 hx rfl (hb hby at_54) rfl (by decide) k)))))) ?_
 rcases own_mod5 _ (own_m31 p4) with hk | hk | hk | hk | hk
 · rw [hk]
   refine own_go (b := (T18.setTop (mkF m 68 #[iv p0, iv p1, iv p2, iv p3, iv p4, rv b1, rv b16, iv (0 : Int32), .unset, .unset, .unset, .unset] [(.int (((p4.toUInt32 >>> ((3 : Int32) &&& 31).toUInt32).toInt32) % (5 : Int32))), (.int (0 : Int32))]))) (fun _ k => XS.istore X18.here hx rfl (hb hby at_55) rfl (l' := #[iv p0, iv p1, iv p2, iv p3, iv p4, rv b1, rv b16, iv (0 : Int32), .unset, .unset, .unset, .unset]) rfl (XS.iload X18.here hx rfl (hb hby at_57) rfl (XS.iload X18.here hx rfl (hb hby at_59) rfl (XS.iconst X18.here hx rfl (hb hby at_61) (XS.iushr X18.here hx rfl (hb hby at_62) rfl (XS.iconst X18.here hx rfl (hb hby at_63) (XS.iload X18.here hx rfl (hb hby at_64) rfl (XS.isub X18.here hx rfl (hb hby at_66) rfl (iremM (g := (mkF m 67 #[iv p0, iv p1, iv p2, iv p3, iv p4, rv b1, rv b16, iv (0 : Int32), .unset, .unset, .unset, .unset] [(.int (5 : Int32)), (.int ((p4.toUInt32 >>> ((3 : Int32) &&& 31).toUInt32).toInt32)), (.int (0 : Int32))])) X18 hx rfl (hb hby at_67) rfl (by decide) k))))))))) ?_
   rcases own_mod5 _ (own_u3 p4) with hl | hl | hl | hl | hl
   · rw [hl]
     refine own_go (b := (T18.setTop (mkF m 77 #[iv p0, iv p1, iv p2, iv p3, iv p4, rv b1, rv b16, iv (0 : Int32), iv (0 : Int32), .unset, .unset, .unset] [(.int (0 : Int32)), (.int (0 : Int32)), (.ref b16)]))) (fun _ k => XS.iadd X18.here hx rfl (hb hby at_68) rfl (XS.istore X18.here hx rfl (hb hby at_69) rfl (l' := #[iv p0, iv p1, iv p2, iv p3, iv p4, rv b1, rv b16, iv (0 : Int32), iv (0 : Int32), .unset, .unset, .unset]) rfl (XS.aload X18.here hx rfl (hb hby at_71) rfl rfl (XS.iload X18.here hx rfl (hb hby at_73) rfl (XS.iload X18.here hx rfl (hb hby at_75) rfl k))))) ?_
     have O29 := O24.keep K18 (allS gx25 all0)
     have F30 := A16.keep K18
     refine own_stat (W := 0) X18 hx hZ hown rfl (ow hw 36 rfl) (ow hw 37 rfl) (rmts0_0 l Z a0 hw [] b16 (nar .char rc_3) (nar .char rc_7) (nar .char rc_10) (nar .char rc_13) cs fv T18.heap n0 Zs27 O29 S_COMPACT_STRINGS hcs S__assertionsDisabled S_HI_BYTE_SHIFT S_LO_BYTE_SHIFT S_SIOOBE_FORMATTER hfv F30 P18_0) (ow hw 39 rfl) (ow hw 38 rfl) rfl (by rw [hml]; rfl) rfl (hb hby at_77) (lenOf pd__Ljava_lang_String_II_I rfl) rfl (by decide) (fun T28 v28 Ll28 X28 hQ28 => ?_)
     obtain ⟨r_28, rfl, N28q, eh28, P28_0⟩ := hQ28
     have N28 := Fr.app N18 N28q
     obtain rfl := P28_0
     refine own_go (b := (T28.setTop (mkF m 105 #[iv p0, iv p1, iv p2, iv p3, iv p4, rv b1, rv b16, iv (0 : Int32), iv (0 : Int32), iv (0 : Int32), .unset, .unset] [(.int (0 : Int32)), (.int (0 : Int32)), (.int (0 : Int32)), (.ref b1)]))) (fun _ k => XS.istore X28.here hx rfl (hb hby at_80) rfl (l' := #[iv p0, iv p1, iv p2, iv p3, iv p4, rv b1, rv b16, iv (0 : Int32), iv (0 : Int32), iv (0 : Int32), .unset, .unset]) rfl (XS.iload X28.here hx rfl (hb hby at_82) rfl (XS.iload X28.here hx rfl (hb hby at_84) rfl (XS.icmpNo X28.here hx rfl (hb hby at_86) rfl (flt (by decide : ¬ ((0 : Int32) < (0 : Int32)))).1 (XS.iload X28.here hx rfl (hb hby at_89) rfl (XS.iload X28.here hx rfl (hb hby at_91) rfl (XS.icmpYes X28.here hx rfl (pc0 := 93) (pc' := 98) rfl (hb hby at_93) rfl (flt (by decide : ¬ ((0 : Int32) < (0 : Int32)))).2.2.2 (by decide) (by decide) (XS.aload X28.here hx rfl (hb hby at_98) rfl rfl (XS.iconst X28.here hx rfl (hb hby at_100) (XS.iload X28.here hx rfl (hb hby at_101) rfl (XS.iload X28.here hx rfl (hb hby at_103) rfl k))))))))))) ?_
     refine own_stat (W := 0) X28 hx hZ hown eh28 (ow hw 40 rfl) (ow hw 41 rfl) (rmsoB l Z a0 hw [] b1 (0 : Int32) (0 : Int32) (0 : Int32) T18.heap n0 Zs27 (by decide : ¬ ((0 : Int32) < (0 : Int32))) (by decide : ¬ ((0 : Int32) < (0 : Int32)))) (ow hw 42 rfl) (ow hw 3 rfl) rfl (by rw [hml]; rfl) rfl (hb hby at_105) (lenOf pd___CIII_Z rfl) rfl (by decide) (fun T31 v31 Ll31 X31 hQ31 => ?_)
     obtain ⟨rfl, N31q, eh31⟩ := hQ31
     have N31 := Fr.app N28 N31q
     refine own_go (b := (T31.setTop (mkF m 118 #[iv p0, iv p1, iv p2, iv p3, iv p4, rv b1, rv b16, iv (0 : Int32), iv (0 : Int32), iv (0 : Int32), .unset, .unset] [(.int (0 : Int32)), (.int (0 : Int32)), (.int (1 : Int32)), (.ref b1)]))) (fun _ k => XS.ifNo X31.here hx rfl (hb hby at_108) rfl ((if0 _ _).trans (feq (by decide : ¬ ((1 : Int32) = (0 : Int32)))).1) (XS.aload X31.here hx rfl (hb hby at_111) rfl rfl (XS.iconst X31.here hx rfl (hb hby at_113) (XS.iload X31.here hx rfl (hb hby at_114) rfl (XS.iload X31.here hx rfl (hb hby at_116) rfl k))))) ?_
     refine own_stat (W := 0) X31 hx hZ hown eh31 (ow hw 40 rfl) (ow hw 41 rfl) (rmsoB l Z a0 hw [] b1 (1 : Int32) (0 : Int32) (0 : Int32) T18.heap n0 Zs27 (by decide) (by decide)) (ow hw 42 rfl) (ow hw 3 rfl) rfl (by rw [hml]; rfl) rfl (hb hby at_118) (lenOf pd___CIII_Z rfl) rfl (by decide) (fun T32 v32 Ll32 X32 hQ32 => ?_)
     obtain ⟨rfl, N32q, eh32⟩ := hQ32
     have N32 := Fr.app N31 N32q
     refine own_go (b := (T32.setTop (mkF m 131 #[iv p0, iv p1, iv p2, iv p3, iv p4, rv b1, rv b16, iv (0 : Int32), iv (0 : Int32), iv (0 : Int32), .unset, .unset] [(.int (0 : Int32)), (.int (0 : Int32)), (.int (2 : Int32)), (.ref b1)]))) (fun _ k => XS.ifNo X32.here hx rfl (hb hby at_121) rfl ((if0 _ _).trans (feq (by decide : ¬ ((1 : Int32) = (0 : Int32)))).1) (XS.aload X32.here hx rfl (hb hby at_124) rfl rfl (XS.iconst X32.here hx rfl (hb hby at_126) (XS.iload X32.here hx rfl (hb hby at_127) rfl (XS.iload X32.here hx rfl (hb hby at_129) rfl k))))) ?_
     refine own_stat (W := 0) X32 hx hZ hown eh32 (ow hw 40 rfl) (ow hw 41 rfl) (rmsoB l Z a0 hw [] b1 (2 : Int32) (0 : Int32) (0 : Int32) T18.heap n0 Zs27 (by decide) (by decide)) (ow hw 42 rfl) (ow hw 3 rfl) rfl (by rw [hml]; rfl) rfl (hb hby at_131) (lenOf pd___CIII_Z rfl) rfl (by decide) (fun T33 v33 Ll33 X33 hQ33 => ?_)
     obtain ⟨rfl, N33q, eh33⟩ := hQ33
     have N33 := Fr.app N32 N33q
     refine own_go (b := (T33.setTop (mkF m 144 #[iv p0, iv p1, iv p2, iv p3, iv p4, rv b1, rv b16, iv (0 : Int32), iv (0 : Int32), iv (0 : Int32), .unset, .unset] [(.int (0 : Int32)), (.int (0 : Int32)), (.int (3 : Int32)), (.ref b1)]))) (fun _ k => XS.ifNo X33.here hx rfl (hb hby at_134) rfl ((if0 _ _).trans (feq (by decide : ¬ ((1 : Int32) = (0 : Int32)))).1) (XS.aload X33.here hx rfl (hb hby at_137) rfl rfl (XS.iconst X33.here hx rfl (hb hby at_139) (XS.iload X33.here hx rfl (hb hby at_140) rfl (XS.iload X33.here hx rfl (hb hby at_142) rfl k))))) ?_
     refine own_stat (W := 0) X33 hx hZ hown eh33 (ow hw 40 rfl) (ow hw 41 rfl) (rmsoB l Z a0 hw [] b1 (3 : Int32) (0 : Int32) (0 : Int32) T18.heap n0 Zs27 (by decide) (by decide)) (ow hw 42 rfl) (ow hw 3 rfl) rfl (by rw [hml]; rfl) rfl (hb hby at_144) (lenOf pd___CIII_Z rfl) rfl (by decide) (fun T34 v34 Ll34 X34 hQ34 => ?_)
     obtain ⟨rfl, N34q, eh34⟩ := hQ34
     have N34 := Fr.app N33 N34q
     refine own_go (b := (T34.setTop (mkF m 198 #[iv p0, iv p1, iv p2, iv p3, iv p4, rv b1, rv b16, iv (0 : Int32), iv (0 : Int32), iv (0 : Int32), iv (1 : Int32), iv (1 : Int32)] [(.int (1 : Int32))]))) (fun _ k => XS.ifNo X34.here hx rfl (hb hby at_147) rfl ((if0 _ _).trans (feq (by decide : ¬ ((1 : Int32) = (0 : Int32)))).1) (XS.iconst X34.here hx rfl (hb hby at_150) (XS.goto X34.here hx rfl (pc0 := 151) (pc' := 155) rfl (hb hby at_151) (by decide) (by decide) (XS.istore X34.here hx rfl (hb hby at_155) rfl (l' := #[iv p0, iv p1, iv p2, iv p3, iv p4, rv b1, rv b16, iv (0 : Int32), iv (0 : Int32), iv (0 : Int32), iv (1 : Int32), .unset]) rfl (XS.iload X34.here hx rfl (hb hby at_157) rfl (XS.iload X34.here hx rfl (hb hby at_159) rfl (XS.icmpYes X34.here hx rfl (pc0 := 161) (pc' := 176) rfl (hb hby at_161) rfl (teq (rfl : (0 : Int32) = (0 : Int32))).1 (by decide) (by decide) (XS.iconst X34.here hx rfl (hb hby at_176) (XS.goto X34.here hx rfl (pc0 := 177) (pc' := 181) rfl (hb hby at_177) (by decide) (by decide) (XS.istore X34.here hx rfl (hb hby at_181) rfl (l' := #[iv p0, iv p1, iv p2, iv p3, iv p4, rv b1, rv b16, iv (0 : Int32), iv (0 : Int32), iv (0 : Int32), iv (1 : Int32), iv (1 : Int32)]) rfl (XS.iload X34.here hx rfl (hb hby at_183) rfl (XS.ifNo X34.here hx rfl (hb hby at_185) rfl ((if0 _ _).trans (feq (by decide : ¬ ((1 : Int32) = (0 : Int32)))).1) (XS.iload X34.here hx rfl (hb hby at_188) rfl (XS.ifNo X34.here hx rfl (hb hby at_190) rfl ((if0 _ _).trans (feq (by decide : ¬ ((1 : Int32) = (0 : Int32)))).1) (XS.iconst X34.here hx rfl (hb hby at_193) (XS.goto X34.here hx rfl (pc0 := 194) (pc' := 198) rfl (hb hby at_194) (by decide) (by decide) k)))))))))))))))) ?_
     obtain ⟨fs, hr, hrun, hended, hW, hsame⟩ := X34.leave (v := some (.int (1 : Int32))) (fun h => by rw [Bd.returns] at h; cases h)
     exact ⟨_, _, retN X34 hx (t := .boolean) Bd.returns (by simp) (hb hby at_198) hr, hrun, hended, _, _, rfl, (show Qrm0 Z p0 p1 p2 p3 p4 cs fv h0 n0 _ T34.heap _ from (by rw [eh34]; exact ⟨rfl, N34⟩)), ⟨_, rfl⟩, hW, hsame.mono (by decide) (by decide)⟩
   · rw [hl]
     refine own_go (b := (T18.setTop (mkF m 77 #[iv p0, iv p1, iv p2, iv p3, iv p4, rv b1, rv b16, iv (0 : Int32), iv (1 : Int32), .unset, .unset, .unset] [(.int (1 : Int32)), (.int (0 : Int32)), (.ref b16)]))) (fun _ k => XS.iadd X18.here hx rfl (hb hby at_68) rfl (XS.istore X18.here hx rfl (hb hby at_69) rfl (l' := #[iv p0, iv p1, iv p2, iv p3, iv p4, rv b1, rv b16, iv (0 : Int32), iv (1 : Int32), .unset, .unset, .unset]) rfl (XS.aload X18.here hx rfl (hb hby at_71) rfl rfl (XS.iload X18.here hx rfl (hb hby at_73) rfl (XS.iload X18.here hx rfl (hb hby at_75) rfl k))))) ?_
     have O36 := O24.keep K18 (allS gx25 all0)
     have F37 := A16.keep K18
     refine own_stat (W := 0) X18 hx hZ hown rfl (ow hw 36 rfl) (ow hw 37 rfl) (rmts0_1 l Z a0 hw [] b16 (nar .char rc_3) (nar .char rc_7) (nar .char rc_10) (nar .char rc_13) cs fv T18.heap n0 Zs27 O36 S_COMPACT_STRINGS hcs S__assertionsDisabled S_HI_BYTE_SHIFT S_LO_BYTE_SHIFT S_SIOOBE_FORMATTER hfv F37 P18_0) (ow hw 39 rfl) (ow hw 38 rfl) rfl (by rw [hml]; rfl) rfl (hb hby at_77) (lenOf pd__Ljava_lang_String_II_I rfl) rfl (by decide) (fun T35 v35 Ll35 X35 hQ35 => ?_)
     obtain ⟨r_35, rfl, N35q, eh35, P35_0⟩ := hQ35
     have N35 := Fr.app N18 N35q
     rcases P35_0 with ⟨rfl, hs0⟩ | ⟨rfl, hs0⟩
     · skip
       refine own_go (b := (T35.setTop (mkF m 105 #[iv p0, iv p1, iv p2, iv p3, iv p4, rv b1, rv b16, iv (0 : Int32), iv (1 : Int32), iv (1 : Int32), .unset, .unset] [(.int (1 : Int32)), (.int (1 : Int32)), (.int (0 : Int32)), (.ref b1)]))) (fun _ k => XS.istore X35.here hx rfl (hb hby at_80) rfl (l' := #[iv p0, iv p1, iv p2, iv p3, iv p4, rv b1, rv b16, iv (0 : Int32), iv (1 : Int32), iv (1 : Int32), .unset, .unset]) rfl (XS.iload X35.here hx rfl (hb hby at_82) rfl (XS.iload X35.here hx rfl (hb hby at_84) rfl (XS.icmpNo X35.here hx rfl (hb hby at_86) rfl (flt (by decide : ¬ ((1 : Int32) < (0 : Int32)))).1 (XS.iload X35.here hx rfl (hb hby at_89) rfl (XS.iload X35.here hx rfl (hb hby at_91) rfl (XS.icmpYes X35.here hx rfl (pc0 := 93) (pc' := 98) rfl (hb hby at_93) rfl (flt (by decide : ¬ ((1 : Int32) < (1 : Int32)))).2.2.2 (by decide) (by decide) (XS.aload X35.here hx rfl (hb hby at_98) rfl rfl (XS.iconst X35.here hx rfl (hb hby at_100) (XS.iload X35.here hx rfl (hb hby at_101) rfl (XS.iload X35.here hx rfl (hb hby at_103) rfl k))))))))))) ?_
       refine own_stat (W := 0) X35 hx hZ hown eh35 (ow hw 40 rfl) (ow hw 41 rfl) (rmsoA l Z a0 hw [] b1 (0 : Int32) (1 : Int32) (1 : Int32) T18.heap n0 Zs27 (by decide)) (ow hw 42 rfl) (ow hw 3 rfl) rfl (by rw [hml]; rfl) rfl (hb hby at_105) (lenOf pd___CIII_Z rfl) rfl (by decide) (fun T38 v38 Ll38 X38 hQ38 => ?_)
       obtain ⟨rfl, N38q, eh38⟩ := hQ38
       have N38 := Fr.app N35 N38q
       refine own_go (b := (T38.setTop (mkF m 118 #[iv p0, iv p1, iv p2, iv p3, iv p4, rv b1, rv b16, iv (0 : Int32), iv (1 : Int32), iv (1 : Int32), .unset, .unset] [(.int (1 : Int32)), (.int (1 : Int32)), (.int (1 : Int32)), (.ref b1)]))) (fun _ k => XS.ifNo X38.here hx rfl (hb hby at_108) rfl ((if0 _ _).trans (feq (by decide : ¬ ((1 : Int32) = (0 : Int32)))).1) (XS.aload X38.here hx rfl (hb hby at_111) rfl rfl (XS.iconst X38.here hx rfl (hb hby at_113) (XS.iload X38.here hx rfl (hb hby at_114) rfl (XS.iload X38.here hx rfl (hb hby at_116) rfl k))))) ?_
       refine own_stat (W := 0) X38 hx hZ hown eh38 (ow hw 40 rfl) (ow hw 41 rfl) (rmsoB l Z a0 hw [] b1 (1 : Int32) (1 : Int32) (1 : Int32) T18.heap n0 Zs27 (by decide : ¬ ((1 : Int32) < (1 : Int32))) (by decide : ¬ ((1 : Int32) < (1 : Int32)))) (ow hw 42 rfl) (ow hw 3 rfl) rfl (by rw [hml]; rfl) rfl (hb hby at_118) (lenOf pd___CIII_Z rfl) rfl (by decide) (fun T39 v39 Ll39 X39 hQ39 => ?_)
       obtain ⟨rfl, N39q, eh39⟩ := hQ39
       have N39 := Fr.app N38 N39q
       refine own_go (b := (T39.setTop (mkF m 131 #[iv p0, iv p1, iv p2, iv p3, iv p4, rv b1, rv b16, iv (0 : Int32), iv (1 : Int32), iv (1 : Int32), .unset, .unset] [(.int (1 : Int32)), (.int (1 : Int32)), (.int (2 : Int32)), (.ref b1)]))) (fun _ k => XS.ifNo X39.here hx rfl (hb hby at_121) rfl ((if0 _ _).trans (feq (by decide : ¬ ((1 : Int32) = (0 : Int32)))).1) (XS.aload X39.here hx rfl (hb hby at_124) rfl rfl (XS.iconst X39.here hx rfl (hb hby at_126) (XS.iload X39.here hx rfl (hb hby at_127) rfl (XS.iload X39.here hx rfl (hb hby at_129) rfl k))))) ?_
       refine own_stat (W := 0) X39 hx hZ hown eh39 (ow hw 40 rfl) (ow hw 41 rfl) (rmsoB l Z a0 hw [] b1 (2 : Int32) (1 : Int32) (1 : Int32) T18.heap n0 Zs27 (by decide) (by decide)) (ow hw 42 rfl) (ow hw 3 rfl) rfl (by rw [hml]; rfl) rfl (hb hby at_131) (lenOf pd___CIII_Z rfl) rfl (by decide) (fun T40 v40 Ll40 X40 hQ40 => ?_)
       obtain ⟨rfl, N40q, eh40⟩ := hQ40
       have N40 := Fr.app N39 N40q
       refine own_go (b := (T40.setTop (mkF m 144 #[iv p0, iv p1, iv p2, iv p3, iv p4, rv b1, rv b16, iv (0 : Int32), iv (1 : Int32), iv (1 : Int32), .unset, .unset] [(.int (1 : Int32)), (.int (1 : Int32)), (.int (3 : Int32)), (.ref b1)]))) (fun _ k => XS.ifNo X40.here hx rfl (hb hby at_134) rfl ((if0 _ _).trans (feq (by decide : ¬ ((1 : Int32) = (0 : Int32)))).1) (XS.aload X40.here hx rfl (hb hby at_137) rfl rfl (XS.iconst X40.here hx rfl (hb hby at_139) (XS.iload X40.here hx rfl (hb hby at_140) rfl (XS.iload X40.here hx rfl (hb hby at_142) rfl k))))) ?_
       refine own_stat (W := 0) X40 hx hZ hown eh40 (ow hw 40 rfl) (ow hw 41 rfl) (rmsoB l Z a0 hw [] b1 (3 : Int32) (1 : Int32) (1 : Int32) T18.heap n0 Zs27 (by decide) (by decide)) (ow hw 42 rfl) (ow hw 3 rfl) rfl (by rw [hml]; rfl) rfl (hb hby at_144) (lenOf pd___CIII_Z rfl) rfl (by decide) (fun T41 v41 Ll41 X41 hQ41 => ?_)
       obtain ⟨rfl, N41q, eh41⟩ := hQ41
       have N41 := Fr.app N40 N41q
       refine own_go (b := (T41.setTop (mkF m 170 #[iv p0, iv p1, iv p2, iv p3, iv p4, rv b1, rv b16, iv (0 : Int32), iv (1 : Int32), iv (1 : Int32), iv (1 : Int32), .unset] [(.int (0 : Int32)), (.ref b1)]))) (fun _ k => XS.ifNo X41.here hx rfl (hb hby at_147) rfl ((if0 _ _).trans (feq (by decide : ¬ ((1 : Int32) = (0 : Int32)))).1) (XS.iconst X41.here hx rfl (hb hby at_150) (XS.goto X41.here hx rfl (pc0 := 151) (pc' := 155) rfl (hb hby at_151) (by decide) (by decide) (XS.istore X41.here hx rfl (hb hby at_155) rfl (l' := #[iv p0, iv p1, iv p2, iv p3, iv p4, rv b1, rv b16, iv (0 : Int32), iv (1 : Int32), iv (1 : Int32), iv (1 : Int32), .unset]) rfl (XS.iload X41.here hx rfl (hb hby at_157) rfl (XS.iload X41.here hx rfl (hb hby at_159) rfl (XS.icmpNo X41.here hx rfl (hb hby at_161) rfl (feq (by decide : ¬ ((1 : Int32) = (0 : Int32)))).1 (XS.aload X41.here hx rfl (hb hby at_164) rfl rfl (XS.iload X41.here hx rfl (hb hby at_166) rfl (XS.iconst X41.here hx rfl (hb hby at_168) (XS.isub X41.here hx rfl (hb hby at_169) rfl k))))))))))) ?_
       have nx43 : b1 ≠ b16 := (own_ne V1.lt (own_tr (own_tr (own_tr (Keep.of_wr W4).1 (Keep.of_wr W8).1) (Keep.of_wr W11).1) (Keep.of_wr W14).1) (Nat.le_of_eq g16.symm))
       have F44 := F26.keep K18 (ninS nx43 nin0)
       obtain ⟨cl42, Ar42, ql42, Sz42, Nn42, Hl42, Gl42⟩ := id F44
       have hin42 : ¬ ((0 : Int32) < 0 ∨ cl42.slots.size ≤ ((0 : Int32)).toNatClampNeg) := inb_of Sz42 ⟨by decide, by decide⟩
       refine own_go (b := (T41.setTop (mkF m 198 #[iv p0, iv p1, iv p2, iv p3, iv p4, rv b1, rv b16, iv (0 : Int32), iv (1 : Int32), iv (1 : Int32), iv (1 : Int32), iv (1 : Int32)] [(.int (1 : Int32))]))) (fun _ k => X41.caload hx (j := (0 : Int32)) (v := (.int (nar .char rc_3))) (by rw [eh41]; exact Ar42.1) (State.isArrayOf_alike hZ.alike Ar42.2.1) Ar42.2.2 hin42 (Hl42.at hin42 rfl) (g := (mkF m 170 #[iv p0, iv p1, iv p2, iv p3, iv p4, rv b1, rv b16, iv (0 : Int32), iv (1 : Int32), iv (1 : Int32), iv (1 : Int32), .unset] [(.int (0 : Int32)), (.ref b1)])) rfl rfl (hb hby at_170) _ (XS.bipush X41.here hx rfl (hb hby at_171) (XS.icmpNo X41.here hx rfl (hb hby at_173) rfl (feq hs0).1 (XS.iconst X41.here hx rfl (hb hby at_176) (XS.goto X41.here hx rfl (pc0 := 177) (pc' := 181) rfl (hb hby at_177) (by decide) (by decide) (XS.istore X41.here hx rfl (hb hby at_181) rfl (l' := #[iv p0, iv p1, iv p2, iv p3, iv p4, rv b1, rv b16, iv (0 : Int32), iv (1 : Int32), iv (1 : Int32), iv (1 : Int32), iv (1 : Int32)]) rfl (XS.iload X41.here hx rfl (hb hby at_183) rfl (XS.ifNo X41.here hx rfl (hb hby at_185) rfl ((if0 _ _).trans (feq (by decide : ¬ ((1 : Int32) = (0 : Int32)))).1) (XS.iload X41.here hx rfl (hb hby at_188) rfl (XS.ifNo X41.here hx rfl (hb hby at_190) rfl ((if0 _ _).trans (feq (by decide : ¬ ((1 : Int32) = (0 : Int32)))).1) (XS.iconst X41.here hx rfl (hb hby at_193) (XS.goto X41.here hx rfl (pc0 := 194) (pc' := 198) rfl (hb hby at_194) (by decide) (by decide) k)))))))))))) ?_
       obtain ⟨fs, hr, hrun, hended, hW, hsame⟩ := X41.leave (v := some (.int (1 : Int32))) (fun h => by rw [Bd.returns] at h; cases h)
       exact ⟨_, _, retN X41 hx (t := .boolean) Bd.returns (by simp) (hb hby at_198) hr, hrun, hended, _, _, rfl, (show Qrm0 Z p0 p1 p2 p3 p4 cs fv h0 n0 _ T41.heap _ from (by rw [eh41]; exact ⟨rfl, N41⟩)), ⟨_, rfl⟩, hW, hsame.mono (by decide) (by decide)⟩
     · skip
       refine own_go (b := (T35.setTop (mkF m 105 #[iv p0, iv p1, iv p2, iv p3, iv p4, rv b1, rv b16, iv (0 : Int32), iv (1 : Int32), iv (0 : Int32), .unset, .unset] [(.int (1 : Int32)), (.int (0 : Int32)), (.int (0 : Int32)), (.ref b1)]))) (fun _ k => XS.istore X35.here hx rfl (hb hby at_80) rfl (l' := #[iv p0, iv p1, iv p2, iv p3, iv p4, rv b1, rv b16, iv (0 : Int32), iv (1 : Int32), iv (0 : Int32), .unset, .unset]) rfl (XS.iload X35.here hx rfl (hb hby at_82) rfl (XS.iload X35.here hx rfl (hb hby at_84) rfl (XS.icmpNo X35.here hx rfl (hb hby at_86) rfl (flt (by decide : ¬ ((0 : Int32) < (0 : Int32)))).1 (XS.iload X35.here hx rfl (hb hby at_89) rfl (XS.iload X35.here hx rfl (hb hby at_91) rfl (XS.icmpYes X35.here hx rfl (pc0 := 93) (pc' := 98) rfl (hb hby at_93) rfl (flt (by decide : ¬ ((1 : Int32) < (0 : Int32)))).2.2.2 (by decide) (by decide) (XS.aload X35.here hx rfl (hb hby at_98) rfl rfl (XS.iconst X35.here hx rfl (hb hby at_100) (XS.iload X35.here hx rfl (hb hby at_101) rfl (XS.iload X35.here hx rfl (hb hby at_103) rfl k))))))))))) ?_
       have nx46 : b1 ≠ b16 := (own_ne V1.lt (own_tr (own_tr (own_tr (Keep.of_wr W4).1 (Keep.of_wr W8).1) (Keep.of_wr W11).1) (Keep.of_wr W14).1) (Nat.le_of_eq g16.symm))
       have F47 := F26.keep K18 (ninS nx46 nin0)
       refine own_stat (W := 0) X35 hx hZ hown eh35 (ow hw 40 rfl) (ow hw 41 rfl) (rmsoC0 l Z a0 hw [] b1 kl1 (nar .char rc_3) (nar .char rc_7) (nar .char rc_10) (nar .char rc_13) (0 : Int32) (1 : Int32) T18.heap n0 Zs27 F47 (by decide : ¬ ((0 : Int32) < (0 : Int32))) (by decide) hs0) (ow hw 42 rfl) (ow hw 3 rfl) rfl (by rw [hml]; rfl) rfl (hb hby at_105) (lenOf pd___CIII_Z rfl) rfl (by decide) (fun T45 v45 Ll45 X45 hQ45 => ?_)
       obtain ⟨rfl, N45q, eh45⟩ := hQ45
       have N45 := Fr.app N35 N45q
       refine own_go (b := (T45.setTop (mkF m 118 #[iv p0, iv p1, iv p2, iv p3, iv p4, rv b1, rv b16, iv (0 : Int32), iv (1 : Int32), iv (0 : Int32), .unset, .unset] [(.int (1 : Int32)), (.int (0 : Int32)), (.int (1 : Int32)), (.ref b1)]))) (fun _ k => XS.ifNo X45.here hx rfl (hb hby at_108) rfl ((if0 _ _).trans (feq (by decide : ¬ ((1 : Int32) = (0 : Int32)))).1) (XS.aload X45.here hx rfl (hb hby at_111) rfl rfl (XS.iconst X45.here hx rfl (hb hby at_113) (XS.iload X45.here hx rfl (hb hby at_114) rfl (XS.iload X45.here hx rfl (hb hby at_116) rfl k))))) ?_
       refine own_stat (W := 0) X45 hx hZ hown eh45 (ow hw 40 rfl) (ow hw 41 rfl) (rmsoB l Z a0 hw [] b1 (1 : Int32) (0 : Int32) (1 : Int32) T18.heap n0 Zs27 (by decide : ¬ ((1 : Int32) < (0 : Int32))) (by decide)) (ow hw 42 rfl) (ow hw 3 rfl) rfl (by rw [hml]; rfl) rfl (hb hby at_118) (lenOf pd___CIII_Z rfl) rfl (by decide) (fun T48 v48 Ll48 X48 hQ48 => ?_)
       obtain ⟨rfl, N48q, eh48⟩ := hQ48
       have N48 := Fr.app N45 N48q
       refine own_go (b := (T48.setTop (mkF m 131 #[iv p0, iv p1, iv p2, iv p3, iv p4, rv b1, rv b16, iv (0 : Int32), iv (1 : Int32), iv (0 : Int32), .unset, .unset] [(.int (1 : Int32)), (.int (0 : Int32)), (.int (2 : Int32)), (.ref b1)]))) (fun _ k => XS.ifNo X48.here hx rfl (hb hby at_121) rfl ((if0 _ _).trans (feq (by decide : ¬ ((1 : Int32) = (0 : Int32)))).1) (XS.aload X48.here hx rfl (hb hby at_124) rfl rfl (XS.iconst X48.here hx rfl (hb hby at_126) (XS.iload X48.here hx rfl (hb hby at_127) rfl (XS.iload X48.here hx rfl (hb hby at_129) rfl k))))) ?_
       refine own_stat (W := 0) X48 hx hZ hown eh48 (ow hw 40 rfl) (ow hw 41 rfl) (rmsoB l Z a0 hw [] b1 (2 : Int32) (0 : Int32) (1 : Int32) T18.heap n0 Zs27 (by decide) (by decide)) (ow hw 42 rfl) (ow hw 3 rfl) rfl (by rw [hml]; rfl) rfl (hb hby at_131) (lenOf pd___CIII_Z rfl) rfl (by decide) (fun T49 v49 Ll49 X49 hQ49 => ?_)
       obtain ⟨rfl, N49q, eh49⟩ := hQ49
       have N49 := Fr.app N48 N49q
       refine own_go (b := (T49.setTop (mkF m 144 #[iv p0, iv p1, iv p2, iv p3, iv p4, rv b1, rv b16, iv (0 : Int32), iv (1 : Int32), iv (0 : Int32), .unset, .unset] [(.int (1 : Int32)), (.int (0 : Int32)), (.int (3 : Int32)), (.ref b1)]))) (fun _ k => XS.ifNo X49.here hx rfl (hb hby at_134) rfl ((if0 _ _).trans (feq (by decide : ¬ ((1 : Int32) = (0 : Int32)))).1) (XS.aload X49.here hx rfl (hb hby at_137) rfl rfl (XS.iconst X49.here hx rfl (hb hby at_139) (XS.iload X49.here hx rfl (hb hby at_140) rfl (XS.iload X49.here hx rfl (hb hby at_142) rfl k))))) ?_
       refine own_stat (W := 0) X49 hx hZ hown eh49 (ow hw 40 rfl) (ow hw 41 rfl) (rmsoB l Z a0 hw [] b1 (3 : Int32) (0 : Int32) (1 : Int32) T18.heap n0 Zs27 (by decide) (by decide)) (ow hw 42 rfl) (ow hw 3 rfl) rfl (by rw [hml]; rfl) rfl (hb hby at_144) (lenOf pd___CIII_Z rfl) rfl (by decide) (fun T50 v50 Ll50 X50 hQ50 => ?_)
       obtain ⟨rfl, N50q, eh50⟩ := hQ50
       have N50 := Fr.app N49 N50q
       refine own_go (b := (T50.setTop (mkF m 198 #[iv p0, iv p1, iv p2, iv p3, iv p4, rv b1, rv b16, iv (0 : Int32), iv (1 : Int32), iv (0 : Int32), iv (1 : Int32), iv (1 : Int32)] [(.int (1 : Int32))]))) (fun _ k => XS.ifNo X50.here hx rfl (hb hby at_147) rfl ((if0 _ _).trans (feq (by decide : ¬ ((1 : Int32) = (0 : Int32)))).1) (XS.iconst X50.here hx rfl (hb hby at_150) (XS.goto X50.here hx rfl (pc0 := 151) (pc' := 155) rfl (hb hby at_151) (by decide) (by decide) (XS.istore X50.here hx rfl (hb hby at_155) rfl (l' := #[iv p0, iv p1, iv p2, iv p3, iv p4, rv b1, rv b16, iv (0 : Int32), iv (1 : Int32), iv (0 : Int32), iv (1 : Int32), .unset]) rfl (XS.iload X50.here hx rfl (hb hby at_157) rfl (XS.iload X50.here hx rfl (hb hby at_159) rfl (XS.icmpYes X50.here hx rfl (pc0 := 161) (pc' := 176) rfl (hb hby at_161) rfl (teq (rfl : (0 : Int32) = (0 : Int32))).1 (by decide) (by decide) (XS.iconst X50.here hx rfl (hb hby at_176) (XS.goto X50.here hx rfl (pc0 := 177) (pc' := 181) rfl (hb hby at_177) (by decide) (by decide) (XS.istore X50.here hx rfl (hb hby at_181) rfl (l' := #[iv p0, iv p1, iv p2, iv p3, iv p4, rv b1, rv b16, iv (0 : Int32), iv (1 : Int32), iv (0 : Int32), iv (1 : Int32), iv (1 : Int32)]) rfl (XS.iload X50.here hx rfl (hb hby at_183) rfl (XS.ifNo X50.here hx rfl (hb hby at_185) rfl ((if0 _ _).trans (feq (by decide : ¬ ((1 : Int32) = (0 : Int32)))).1) (XS.iload X50.here hx rfl (hb hby at_188) rfl (XS.ifNo X50.here hx rfl (hb hby at_190) rfl ((if0 _ _).trans (feq (by decide : ¬ ((1 : Int32) = (0 : Int32)))).1) (XS.iconst X50.here hx rfl (hb hby at_193) (XS.goto X50.here hx rfl (pc0 := 194) (pc' := 198) rfl (hb hby at_194) (by decide) (by decide) k)))))))))))))))) ?_
       obtain ⟨fs, hr, hrun, hended, hW, hsame⟩ := X50.leave (v := some (.int (1 : Int32))) (fun h => by rw [Bd.returns] at h; cases h)
       exact ⟨_, _, retN X50 hx (t := .boolean) Bd.returns (by simp) (hb hby at_198) hr, hrun, hended, _, _, rfl, (show Qrm0 Z p0 p1 p2 p3 p4 cs fv h0 n0 _ T50.heap _ from (by rw [eh50]; exact ⟨rfl, N50⟩)), ⟨_, rfl⟩, hW, hsame.mono (by decide) (by decide)⟩
   · rw [hl]
     refine own_go (b := (T18.setTop (mkF m 77 #[iv p0, iv p1, iv p2, iv p3, iv p4, rv b1, rv b16, iv (0 : Int32), iv (2 : Int32), .unset, .unset, .unset] [(.int (2 : Int32)), (.int (0 : Int32)), (.ref b16)]))) (fun _ k => XS.iadd X18.here hx rfl (hb hby at_68) rfl (XS.istore X18.here hx rfl (hb hby at_69) rfl (l' := #[iv p0, iv p1, iv p2, iv p3, iv p4, rv b1, rv b16, iv (0 : Int32), iv (2 : Int32), .unset, .unset, .unset]) rfl (XS.aload X18.here hx rfl (hb hby at_71) rfl rfl (XS.iload X18.here hx rfl (hb hby at_73) rfl (XS.iload X18.here hx rfl (hb hby at_75) rfl k))))) ?_
     have O52 := O24.keep K18 (allS gx25 all0)
     have F53 := A16.keep K18
     refine own_stat (W := 0) X18 hx hZ hown rfl (ow hw 36 rfl) (ow hw 37 rfl) (rmts0_2 l Z a0 hw [] b16 (nar .char rc_3) (nar .char rc_7) (nar .char rc_10) (nar .char rc_13) cs fv T18.heap n0 Zs27 O52 S_COMPACT_STRINGS hcs S__assertionsDisabled S_HI_BYTE_SHIFT S_LO_BYTE_SHIFT S_SIOOBE_FORMATTER hfv F53 P18_0) (ow hw 39 rfl) (ow hw 38 rfl) rfl (by rw [hml]; rfl) rfl (hb hby at_77) (lenOf pd__Ljava_lang_String_II_I rfl) rfl (by decide) (fun T51 v51 Ll51 X51 hQ51 => ?_)
     obtain ⟨r_51, rfl, N51q, eh51, P51_0⟩ := hQ51
     have N51 := Fr.app N18 N51q
     rcases P51_0 with ⟨rfl, hs1⟩ | ⟨rfl, hs1, hs0⟩ | ⟨rfl, hs1, hs0⟩
     · skip
       refine own_go (b := (T51.setTop (mkF m 105 #[iv p0, iv p1, iv p2, iv p3, iv p4, rv b1, rv b16, iv (0 : Int32), iv (2 : Int32), iv (2 : Int32), .unset, .unset] [(.int (2 : Int32)), (.int (2 : Int32)), (.int (0 : Int32)), (.ref b1)]))) (fun _ k => XS.istore X51.here hx rfl (hb hby at_80) rfl (l' := #[iv p0, iv p1, iv p2, iv p3, iv p4, rv b1, rv b16, iv (0 : Int32), iv (2 : Int32), iv (2 : Int32), .unset, .unset]) rfl (XS.iload X51.here hx rfl (hb hby at_82) rfl (XS.iload X51.here hx rfl (hb hby at_84) rfl (XS.icmpNo X51.here hx rfl (hb hby at_86) rfl (flt (by decide : ¬ ((2 : Int32) < (0 : Int32)))).1 (XS.iload X51.here hx rfl (hb hby at_89) rfl (XS.iload X51.here hx rfl (hb hby at_91) rfl (XS.icmpYes X51.here hx rfl (pc0 := 93) (pc' := 98) rfl (hb hby at_93) rfl (flt (by decide : ¬ ((2 : Int32) < (2 : Int32)))).2.2.2 (by decide) (by decide) (XS.aload X51.here hx rfl (hb hby at_98) rfl rfl (XS.iconst X51.here hx rfl (hb hby at_100) (XS.iload X51.here hx rfl (hb hby at_101) rfl (XS.iload X51.here hx rfl (hb hby at_103) rfl k))))))))))) ?_
       refine own_stat (W := 0) X51 hx hZ hown eh51 (ow hw 40 rfl) (ow hw 41 rfl) (rmsoA l Z a0 hw [] b1 (0 : Int32) (2 : Int32) (2 : Int32) T18.heap n0 Zs27 (by decide)) (ow hw 42 rfl) (ow hw 3 rfl) rfl (by rw [hml]; rfl) rfl (hb hby at_105) (lenOf pd___CIII_Z rfl) rfl (by decide) (fun T54 v54 Ll54 X54 hQ54 => ?_)
       obtain ⟨rfl, N54q, eh54⟩ := hQ54
       have N54 := Fr.app N51 N54q
       refine own_go (b := (T54.setTop (mkF m 118 #[iv p0, iv p1, iv p2, iv p3, iv p4, rv b1, rv b16, iv (0 : Int32), iv (2 : Int32), iv (2 : Int32), .unset, .unset] [(.int (2 : Int32)), (.int (2 : Int32)), (.int (1 : Int32)), (.ref b1)]))) (fun _ k => XS.ifNo X54.here hx rfl (hb hby at_108) rfl ((if0 _ _).trans (feq (by decide : ¬ ((1 : Int32) = (0 : Int32)))).1) (XS.aload X54.here hx rfl (hb hby at_111) rfl rfl (XS.iconst X54.here hx rfl (hb hby at_113) (XS.iload X54.here hx rfl (hb hby at_114) rfl (XS.iload X54.here hx rfl (hb hby at_116) rfl k))))) ?_
       refine own_stat (W := 0) X54 hx hZ hown eh54 (ow hw 40 rfl) (ow hw 41 rfl) (rmsoA l Z a0 hw [] b1 (1 : Int32) (2 : Int32) (2 : Int32) T18.heap n0 Zs27 (by decide)) (ow hw 42 rfl) (ow hw 3 rfl) rfl (by rw [hml]; rfl) rfl (hb hby at_118) (lenOf pd___CIII_Z rfl) rfl (by decide) (fun T55 v55 Ll55 X55 hQ55 => ?_)
       obtain ⟨rfl, N55q, eh55⟩ := hQ55
       have N55 := Fr.app N54 N55q
       refine own_go (b := (T55.setTop (mkF m 131 #[iv p0, iv p1, iv p2, iv p3, iv p4, rv b1, rv b16, iv (0 : Int32), iv (2 : Int32), iv (2 : Int32), .unset, .unset] [(.int (2 : Int32)), (.int (2 : Int32)), (.int (2 : Int32)), (.ref b1)]))) (fun _ k => XS.ifNo X55.here hx rfl (hb hby at_121) rfl ((if0 _ _).trans (feq (by decide : ¬ ((1 : Int32) = (0 : Int32)))).1) (XS.aload X55.here hx rfl (hb hby at_124) rfl rfl (XS.iconst X55.here hx rfl (hb hby at_126) (XS.iload X55.here hx rfl (hb hby at_127) rfl (XS.iload X55.here hx rfl (hb hby at_129) rfl k))))) ?_
       refine own_stat (W := 0) X55 hx hZ hown eh55 (ow hw 40 rfl) (ow hw 41 rfl) (rmsoB l Z a0 hw [] b1 (2 : Int32) (2 : Int32) (2 : Int32) T18.heap n0 Zs27 (by decide : ¬ ((2 : Int32) < (2 : Int32))) (by decide : ¬ ((2 : Int32) < (2 : Int32)))) (ow hw 42 rfl) (ow hw 3 rfl) rfl (by rw [hml]; rfl) rfl (hb hby at_131) (lenOf pd___CIII_Z rfl) rfl (by decide) (fun T56 v56 Ll56 X56 hQ56 => ?_)
       obtain ⟨rfl, N56q, eh56⟩ := hQ56
       have N56 := Fr.app N55 N56q
       refine own_go (b := (T56.setTop (mkF m 144 #[iv p0, iv p1, iv p2, iv p3, iv p4, rv b1, rv b16, iv (0 : Int32), iv (2 : Int32), iv (2 : Int32), .unset, .unset] [(.int (2 : Int32)), (.int (2 : Int32)), (.int (3 : Int32)), (.ref b1)]))) (fun _ k => XS.ifNo X56.here hx rfl (hb hby at_134) rfl ((if0 _ _).trans (feq (by decide : ¬ ((1 : Int32) = (0 : Int32)))).1) (XS.aload X56.here hx rfl (hb hby at_137) rfl rfl (XS.iconst X56.here hx rfl (hb hby at_139) (XS.iload X56.here hx rfl (hb hby at_140) rfl (XS.iload X56.here hx rfl (hb hby at_142) rfl k))))) ?_
       refine own_stat (W := 0) X56 hx hZ hown eh56 (ow hw 40 rfl) (ow hw 41 rfl) (rmsoB l Z a0 hw [] b1 (3 : Int32) (2 : Int32) (2 : Int32) T18.heap n0 Zs27 (by decide) (by decide)) (ow hw 42 rfl) (ow hw 3 rfl) rfl (by rw [hml]; rfl) rfl (hb hby at_144) (lenOf pd___CIII_Z rfl) rfl (by decide) (fun T57 v57 Ll57 X57 hQ57 => ?_)
       obtain ⟨rfl, N57q, eh57⟩ := hQ57
       have N57 := Fr.app N56 N57q
       refine own_go (b := (T57.setTop (mkF m 170 #[iv p0, iv p1, iv p2, iv p3, iv p4, rv b1, rv b16, iv (0 : Int32), iv (2 : Int32), iv (2 : Int32), iv (1 : Int32), .unset] [(.int (1 : Int32)), (.ref b1)]))) (fun _ k => XS.ifNo X57.here hx rfl (hb hby at_147) rfl ((if0 _ _).trans (feq (by decide : ¬ ((1 : Int32) = (0 : Int32)))).1) (XS.iconst X57.here hx rfl (hb hby at_150) (XS.goto X57.here hx rfl (pc0 := 151) (pc' := 155) rfl (hb hby at_151) (by decide) (by decide) (XS.istore X57.here hx rfl (hb hby at_155) rfl (l' := #[iv p0, iv p1, iv p2, iv p3, iv p4, rv b1, rv b16, iv (0 : Int32), iv (2 : Int32), iv (2 : Int32), iv (1 : Int32), .unset]) rfl (XS.iload X57.here hx rfl (hb hby at_157) rfl (XS.iload X57.here hx rfl (hb hby at_159) rfl (XS.icmpNo X57.here hx rfl (hb hby at_161) rfl (feq (by decide : ¬ ((2 : Int32) = (0 : Int32)))).1 (XS.aload X57.here hx rfl (hb hby at_164) rfl rfl (XS.iload X57.here hx rfl (hb hby at_166) rfl (XS.iconst X57.here hx rfl (hb hby at_168) (XS.isub X57.here hx rfl (hb hby at_169) rfl k))))))))))) ?_
       have nx59 : b1 ≠ b16 := (own_ne V1.lt (own_tr (own_tr (own_tr (Keep.of_wr W4).1 (Keep.of_wr W8).1) (Keep.of_wr W11).1) (Keep.of_wr W14).1) (Nat.le_of_eq g16.symm))
       have F60 := F26.keep K18 (ninS nx59 nin0)
       obtain ⟨cl58, Ar58, ql58, Sz58, Nn58, Hl58, Gl58⟩ := id F60
       have hin58 : ¬ ((1 : Int32) < 0 ∨ cl58.slots.size ≤ ((1 : Int32)).toNatClampNeg) := inb_of Sz58 ⟨by decide, by decide⟩
       refine own_go (b := (T57.setTop (mkF m 198 #[iv p0, iv p1, iv p2, iv p3, iv p4, rv b1, rv b16, iv (0 : Int32), iv (2 : Int32), iv (2 : Int32), iv (1 : Int32), iv (1 : Int32)] [(.int (1 : Int32))]))) (fun _ k => X57.caload hx (j := (1 : Int32)) (v := (.int (nar .char rc_7))) (by rw [eh57]; exact Ar58.1) (State.isArrayOf_alike hZ.alike Ar58.2.1) Ar58.2.2 hin58 (Hl58.at hin58 rfl) (g := (mkF m 170 #[iv p0, iv p1, iv p2, iv p3, iv p4, rv b1, rv b16, iv (0 : Int32), iv (2 : Int32), iv (2 : Int32), iv (1 : Int32), .unset] [(.int (1 : Int32)), (.ref b1)])) rfl rfl (hb hby at_170) _ (XS.bipush X57.here hx rfl (hb hby at_171) (XS.icmpNo X57.here hx rfl (hb hby at_173) rfl (feq hs1).1 (XS.iconst X57.here hx rfl (hb hby at_176) (XS.goto X57.here hx rfl (pc0 := 177) (pc' := 181) rfl (hb hby at_177) (by decide) (by decide) (XS.istore X57.here hx rfl (hb hby at_181) rfl (l' := #[iv p0, iv p1, iv p2, iv p3, iv p4, rv b1, rv b16, iv (0 : Int32), iv (2 : Int32), iv (2 : Int32), iv (1 : Int32), iv (1 : Int32)]) rfl (XS.iload X57.here hx rfl (hb hby at_183) rfl (XS.ifNo X57.here hx rfl (hb hby at_185) rfl ((if0 _ _).trans (feq (by decide : ¬ ((1 : Int32) = (0 : Int32)))).1) (XS.iload X57.here hx rfl (hb hby at_188) rfl (XS.ifNo X57.here hx rfl (hb hby at_190) rfl ((if0 _ _).trans (feq (by decide : ¬ ((1 : Int32) = (0 : Int32)))).1) (XS.iconst X57.here hx rfl (hb hby at_193) (XS.goto X57.here hx rfl (pc0 := 194) (pc' := 198) rfl (hb hby at_194) (by decide) (by decide) k)))))))))))) ?_
       obtain ⟨fs, hr, hrun, hended, hW, hsame⟩ := X57.leave (v := some (.int (1 : Int32))) (fun h => by rw [Bd.returns] at h; cases h)
       exact ⟨_, _, retN X57 hx (t := .boolean) Bd.returns (by simp) (hb hby at_198) hr, hrun, hended, _, _, rfl, (show Qrm0 Z p0 p1 p2 p3 p4 cs fv h0 n0 _ T57.heap _ from (by rw [eh57]; exact ⟨rfl, N57⟩)), ⟨_, rfl⟩, hW, hsame.mono (by decide) (by decide)⟩
     · skip
       refine own_go (b := (T51.setTop (mkF m 105 #[iv p0, iv p1, iv p2, iv p3, iv p4, rv b1, rv b16, iv (0 : Int32), iv (2 : Int32), iv (1 : Int32), .unset, .unset] [(.int (2 : Int32)), (.int (1 : Int32)), (.int (0 : Int32)), (.ref b1)]))) (fun _ k => XS.istore X51.here hx rfl (hb hby at_80) rfl (l' := #[iv p0, iv p1, iv p2, iv p3, iv p4, rv b1, rv b16, iv (0 : Int32), iv (2 : Int32), iv (1 : Int32), .unset, .unset]) rfl (XS.iload X51.here hx rfl (hb hby at_82) rfl (XS.iload X51.here hx rfl (hb hby at_84) rfl (XS.icmpNo X51.here hx rfl (hb hby at_86) rfl (flt (by decide : ¬ ((1 : Int32) < (0 : Int32)))).1 (XS.iload X51.here hx rfl (hb hby at_89) rfl (XS.iload X51.here hx rfl (hb hby at_91) rfl (XS.icmpYes X51.here hx rfl (pc0 := 93) (pc' := 98) rfl (hb hby at_93) rfl (flt (by decide : ¬ ((2 : Int32) < (1 : Int32)))).2.2.2 (by decide) (by decide) (XS.aload X51.here hx rfl (hb hby at_98) rfl rfl (XS.iconst X51.here hx rfl (hb hby at_100) (XS.iload X51.here hx rfl (hb hby at_101) rfl (XS.iload X51.here hx rfl (hb hby at_103) rfl k))))))))))) ?_
       refine own_stat (W := 0) X51 hx hZ hown eh51 (ow hw 40 rfl) (ow hw 41 rfl) (rmsoA l Z a0 hw [] b1 (0 : Int32) (1 : Int32) (2 : Int32) T18.heap n0 Zs27 (by decide)) (ow hw 42 rfl) (ow hw 3 rfl) rfl (by rw [hml]; rfl) rfl (hb hby at_105) (lenOf pd___CIII_Z rfl) rfl (by decide) (fun T61 v61 Ll61 X61 hQ61 => ?_)
       obtain ⟨rfl, N61q, eh61⟩ := hQ61
       have N61 := Fr.app N51 N61q
       refine own_go (b := (T61.setTop (mkF m 118 #[iv p0, iv p1, iv p2, iv p3, iv p4, rv b1, rv b16, iv (0 : Int32), iv (2 : Int32), iv (1 : Int32), .unset, .unset] [(.int (2 : Int32)), (.int (1 : Int32)), (.int (1 : Int32)), (.ref b1)]))) (fun _ k => XS.ifNo X61.here hx rfl (hb hby at_108) rfl ((if0 _ _).trans (feq (by decide : ¬ ((1 : Int32) = (0 : Int32)))).1) (XS.aload X61.here hx rfl (hb hby at_111) rfl rfl (XS.iconst X61.here hx rfl (hb hby at_113) (XS.iload X61.here hx rfl (hb hby at_114) rfl (XS.iload X61.here hx rfl (hb hby at_116) rfl k))))) ?_
       have nx63 : b1 ≠ b16 := (own_ne V1.lt (own_tr (own_tr (own_tr (Keep.of_wr W4).1 (Keep.of_wr W8).1) (Keep.of_wr W11).1) (Keep.of_wr W14).1) (Nat.le_of_eq g16.symm))
       have F64 := F26.keep K18 (ninS nx63 nin0)
       refine own_stat (W := 0) X61 hx hZ hown eh61 (ow hw 40 rfl) (ow hw 41 rfl) (rmsoC1 l Z a0 hw [] b1 kl1 (nar .char rc_3) (nar .char rc_7) (nar .char rc_10) (nar .char rc_13) (1 : Int32) (2 : Int32) T18.heap n0 Zs27 F64 (by decide) (by decide) hs1) (ow hw 42 rfl) (ow hw 3 rfl) rfl (by rw [hml]; rfl) rfl (hb hby at_118) (lenOf pd___CIII_Z rfl) rfl (by decide) (fun T62 v62 Ll62 X62 hQ62 => ?_)
       obtain ⟨rfl, N62q, eh62⟩ := hQ62
       have N62 := Fr.app N61 N62q
       refine own_go (b := (T62.setTop (mkF m 131 #[iv p0, iv p1, iv p2, iv p3, iv p4, rv b1, rv b16, iv (0 : Int32), iv (2 : Int32), iv (1 : Int32), .unset, .unset] [(.int (2 : Int32)), (.int (1 : Int32)), (.int (2 : Int32)), (.ref b1)]))) (fun _ k => XS.ifNo X62.here hx rfl (hb hby at_121) rfl ((if0 _ _).trans (feq (by decide : ¬ ((1 : Int32) = (0 : Int32)))).1) (XS.aload X62.here hx rfl (hb hby at_124) rfl rfl (XS.iconst X62.here hx rfl (hb hby at_126) (XS.iload X62.here hx rfl (hb hby at_127) rfl (XS.iload X62.here hx rfl (hb hby at_129) rfl k))))) ?_
       refine own_stat (W := 0) X62 hx hZ hown eh62 (ow hw 40 rfl) (ow hw 41 rfl) (rmsoB l Z a0 hw [] b1 (2 : Int32) (1 : Int32) (2 : Int32) T18.heap n0 Zs27 (by decide : ¬ ((2 : Int32) < (1 : Int32))) (by decide)) (ow hw 42 rfl) (ow hw 3 rfl) rfl (by rw [hml]; rfl) rfl (hb hby at_131) (lenOf pd___CIII_Z rfl) rfl (by decide) (fun T65 v65 Ll65 X65 hQ65 => ?_)
       obtain ⟨rfl, N65q, eh65⟩ := hQ65
       have N65 := Fr.app N62 N65q
       refine own_go (b := (T65.setTop (mkF m 144 #[iv p0, iv p1, iv p2, iv p3, iv p4, rv b1, rv b16, iv (0 : Int32), iv (2 : Int32), iv (1 : Int32), .unset, .unset] [(.int (2 : Int32)), (.int (1 : Int32)), (.int (3 : Int32)), (.ref b1)]))) (fun _ k => XS.ifNo X65.here hx rfl (hb hby at_134) rfl ((if0 _ _).trans (feq (by decide : ¬ ((1 : Int32) = (0 : Int32)))).1) (XS.aload X65.here hx rfl (hb hby at_137) rfl rfl (XS.iconst X65.here hx rfl (hb hby at_139) (XS.iload X65.here hx rfl (hb hby at_140) rfl (XS.iload X65.here hx rfl (hb hby at_142) rfl k))))) ?_
       refine own_stat (W := 0) X65 hx hZ hown eh65 (ow hw 40 rfl) (ow hw 41 rfl) (rmsoB l Z a0 hw [] b1 (3 : Int32) (1 : Int32) (2 : Int32) T18.heap n0 Zs27 (by decide) (by decide)) (ow hw 42 rfl) (ow hw 3 rfl) rfl (by rw [hml]; rfl) rfl (hb hby at_144) (lenOf pd___CIII_Z rfl) rfl (by decide) (fun T66 v66 Ll66 X66 hQ66 => ?_)
       obtain ⟨rfl, N66q, eh66⟩ := hQ66
       have N66 := Fr.app N65 N66q
       refine own_go (b := (T66.setTop (mkF m 170 #[iv p0, iv p1, iv p2, iv p3, iv p4, rv b1, rv b16, iv (0 : Int32), iv (2 : Int32), iv (1 : Int32), iv (1 : Int32), .unset] [(.int (0 : Int32)), (.ref b1)]))) (fun _ k => XS.ifNo X66.here hx rfl (hb hby at_147) rfl ((if0 _ _).trans (feq (by decide : ¬ ((1 : Int32) = (0 : Int32)))).1) (XS.iconst X66.here hx rfl (hb hby at_150) (XS.goto X66.here hx rfl (pc0 := 151) (pc' := 155) rfl (hb hby at_151) (by decide) (by decide) (XS.istore X66.here hx rfl (hb hby at_155) rfl (l' := #[iv p0, iv p1, iv p2, iv p3, iv p4, rv b1, rv b16, iv (0 : Int32), iv (2 : Int32), iv (1 : Int32), iv (1 : Int32), .unset]) rfl (XS.iload X66.here hx rfl (hb hby at_157) rfl (XS.iload X66.here hx rfl (hb hby at_159) rfl (XS.icmpNo X66.here hx rfl (hb hby at_161) rfl (feq (by decide : ¬ ((1 : Int32) = (0 : Int32)))).1 (XS.aload X66.here hx rfl (hb hby at_164) rfl rfl (XS.iload X66.here hx rfl (hb hby at_166) rfl (XS.iconst X66.here hx rfl (hb hby at_168) (XS.isub X66.here hx rfl (hb hby at_169) rfl k))))))))))) ?_
       obtain ⟨cl67, Ar67, ql67, Sz67, Nn67, Hl67, Gl67⟩ := id F64
       have hin67 : ¬ ((0 : Int32) < 0 ∨ cl67.slots.size ≤ ((0 : Int32)).toNatClampNeg) := inb_of Sz67 ⟨by decide, by decide⟩
       refine own_go (b := (T66.setTop (mkF m 198 #[iv p0, iv p1, iv p2, iv p3, iv p4, rv b1, rv b16, iv (0 : Int32), iv (2 : Int32), iv (1 : Int32), iv (1 : Int32), iv (1 : Int32)] [(.int (1 : Int32))]))) (fun _ k => X66.caload hx (j := (0 : Int32)) (v := (.int (nar .char rc_3))) (by rw [eh66]; exact Ar67.1) (State.isArrayOf_alike hZ.alike Ar67.2.1) Ar67.2.2 hin67 (Hl67.at hin67 rfl) (g := (mkF m 170 #[iv p0, iv p1, iv p2, iv p3, iv p4, rv b1, rv b16, iv (0 : Int32), iv (2 : Int32), iv (1 : Int32), iv (1 : Int32), .unset] [(.int (0 : Int32)), (.ref b1)])) rfl rfl (hb hby at_170) _ (XS.bipush X66.here hx rfl (hb hby at_171) (XS.icmpNo X66.here hx rfl (hb hby at_173) rfl (feq hs0).1 (XS.iconst X66.here hx rfl (hb hby at_176) (XS.goto X66.here hx rfl (pc0 := 177) (pc' := 181) rfl (hb hby at_177) (by decide) (by decide) (XS.istore X66.here hx rfl (hb hby at_181) rfl (l' := #[iv p0, iv p1, iv p2, iv p3, iv p4, rv b1, rv b16, iv (0 : Int32), iv (2 : Int32), iv (1 : Int32), iv (1 : Int32), iv (1 : Int32)]) rfl (XS.iload X66.here hx rfl (hb hby at_183) rfl (XS.ifNo X66.here hx rfl (hb hby at_185) rfl ((if0 _ _).trans (feq (by decide : ¬ ((1 : Int32) = (0 : Int32)))).1) (XS.iload X66.here hx rfl (hb hby at_188) rfl (XS.ifNo X66.here hx rfl (hb hby at_190) rfl ((if0 _ _).trans (feq (by decide : ¬ ((1 : Int32) = (0 : Int32)))).1) (XS.iconst X66.here hx rfl (hb hby at_193) (XS.goto X66.here hx rfl (pc0 := 194) (pc' := 198) rfl (hb hby at_194) (by decide) (by decide) k)))))))))))) ?_
       obtain ⟨fs, hr, hrun, hended, hW, hsame⟩ := X66.leave (v := some (.int (1 : Int32))) (fun h => by rw [Bd.returns] at h; cases h)
       exact ⟨_, _, retN X66 hx (t := .boolean) Bd.returns (by simp) (hb hby at_198) hr, hrun, hended, _, _, rfl, (show Qrm0 Z p0 p1 p2 p3 p4 cs fv h0 n0 _ T66.heap _ from (by rw [eh66]; exact ⟨rfl, N66⟩)), ⟨_, rfl⟩, hW, hsame.mono (by decide) (by decide)⟩
     · skip
       refine own_go (b := (T51.setTop (mkF m 105 #[iv p0, iv p1, iv p2, iv p3, iv p4, rv b1, rv b16, iv (0 : Int32), iv (2 : Int32), iv (0 : Int32), .unset, .unset] [(.int (2 : Int32)), (.int (0 : Int32)), (.int (0 : Int32)), (.ref b1)]))) (fun _ k => XS.istore X51.here hx rfl (hb hby at_80) rfl (l' := #[iv p0, iv p1, iv p2, iv p3, iv p4, rv b1, rv b16, iv (0 : Int32), iv (2 : Int32), iv (0 : Int32), .unset, .unset]) rfl (XS.iload X51.here hx rfl (hb hby at_82) rfl (XS.iload X51.here hx rfl (hb hby at_84) rfl (XS.icmpNo X51.here hx rfl (hb hby at_86) rfl (flt (by decide : ¬ ((0 : Int32) < (0 : Int32)))).1 (XS.iload X51.here hx rfl (hb hby at_89) rfl (XS.iload X51.here hx rfl (hb hby at_91) rfl (XS.icmpYes X51.here hx rfl (pc0 := 93) (pc' := 98) rfl (hb hby at_93) rfl (flt (by decide : ¬ ((2 : Int32) < (0 : Int32)))).2.2.2 (by decide) (by decide) (XS.aload X51.here hx rfl (hb hby at_98) rfl rfl (XS.iconst X51.here hx rfl (hb hby at_100) (XS.iload X51.here hx rfl (hb hby at_101) rfl (XS.iload X51.here hx rfl (hb hby at_103) rfl k))))))))))) ?_
       have nx69 : b1 ≠ b16 := (own_ne V1.lt (own_tr (own_tr (own_tr (Keep.of_wr W4).1 (Keep.of_wr W8).1) (Keep.of_wr W11).1) (Keep.of_wr W14).1) (Nat.le_of_eq g16.symm))
       have F70 := F26.keep K18 (ninS nx69 nin0)
       refine own_stat (W := 0) X51 hx hZ hown eh51 (ow hw 40 rfl) (ow hw 41 rfl) (rmsoC0 l Z a0 hw [] b1 kl1 (nar .char rc_3) (nar .char rc_7) (nar .char rc_10) (nar .char rc_13) (0 : Int32) (2 : Int32) T18.heap n0 Zs27 F70 (by decide : ¬ ((0 : Int32) < (0 : Int32))) (by decide) hs0) (ow hw 42 rfl) (ow hw 3 rfl) rfl (by rw [hml]; rfl) rfl (hb hby at_105) (lenOf pd___CIII_Z rfl) rfl (by decide) (fun T68 v68 Ll68 X68 hQ68 => ?_)
       obtain ⟨rfl, N68q, eh68⟩ := hQ68
       have N68 := Fr.app N51 N68q
       refine own_go (b := (T68.setTop (mkF m 118 #[iv p0, iv p1, iv p2, iv p3, iv p4, rv b1, rv b16, iv (0 : Int32), iv (2 : Int32), iv (0 : Int32), .unset, .unset] [(.int (2 : Int32)), (.int (0 : Int32)), (.int (1 : Int32)), (.ref b1)]))) (fun _ k => XS.ifNo X68.here hx rfl (hb hby at_108) rfl ((if0 _ _).trans (feq (by decide : ¬ ((1 : Int32) = (0 : Int32)))).1) (XS.aload X68.here hx rfl (hb hby at_111) rfl rfl (XS.iconst X68.here hx rfl (hb hby at_113) (XS.iload X68.here hx rfl (hb hby at_114) rfl (XS.iload X68.here hx rfl (hb hby at_116) rfl k))))) ?_
       refine own_stat (W := 0) X68 hx hZ hown eh68 (ow hw 40 rfl) (ow hw 41 rfl) (rmsoC1 l Z a0 hw [] b1 kl1 (nar .char rc_3) (nar .char rc_7) (nar .char rc_10) (nar .char rc_13) (0 : Int32) (2 : Int32) T18.heap n0 Zs27 F70 (by decide) (by decide) hs1) (ow hw 42 rfl) (ow hw 3 rfl) rfl (by rw [hml]; rfl) rfl (hb hby at_118) (lenOf pd___CIII_Z rfl) rfl (by decide) (fun T71 v71 Ll71 X71 hQ71 => ?_)
       obtain ⟨rfl, N71q, eh71⟩ := hQ71
       have N71 := Fr.app N68 N71q
       refine own_go (b := (T71.setTop (mkF m 131 #[iv p0, iv p1, iv p2, iv p3, iv p4, rv b1, rv b16, iv (0 : Int32), iv (2 : Int32), iv (0 : Int32), .unset, .unset] [(.int (2 : Int32)), (.int (0 : Int32)), (.int (2 : Int32)), (.ref b1)]))) (fun _ k => XS.ifNo X71.here hx rfl (hb hby at_121) rfl ((if0 _ _).trans (feq (by decide : ¬ ((1 : Int32) = (0 : Int32)))).1) (XS.aload X71.here hx rfl (hb hby at_124) rfl rfl (XS.iconst X71.here hx rfl (hb hby at_126) (XS.iload X71.here hx rfl (hb hby at_127) rfl (XS.iload X71.here hx rfl (hb hby at_129) rfl k))))) ?_
       refine own_stat (W := 0) X71 hx hZ hown eh71 (ow hw 40 rfl) (ow hw 41 rfl) (rmsoB l Z a0 hw [] b1 (2 : Int32) (0 : Int32) (2 : Int32) T18.heap n0 Zs27 (by decide : ¬ ((2 : Int32) < (0 : Int32))) (by decide)) (ow hw 42 rfl) (ow hw 3 rfl) rfl (by rw [hml]; rfl) rfl (hb hby at_131) (lenOf pd___CIII_Z rfl) rfl (by decide) (fun T72 v72 Ll72 X72 hQ72 => ?_)
       obtain ⟨rfl, N72q, eh72⟩ := hQ72
       have N72 := Fr.app N71 N72q
       refine own_go (b := (T72.setTop (mkF m 144 #[iv p0, iv p1, iv p2, iv p3, iv p4, rv b1, rv b16, iv (0 : Int32), iv (2 : Int32), iv (0 : Int32), .unset, .unset] [(.int (2 : Int32)), (.int (0 : Int32)), (.int (3 : Int32)), (.ref b1)]))) (fun _ k => XS.ifNo X72.here hx rfl (hb hby at_134) rfl ((if0 _ _).trans (feq (by decide : ¬ ((1 : Int32) = (0 : Int32)))).1) (XS.aload X72.here hx rfl (hb hby at_137) rfl rfl (XS.iconst X72.here hx rfl (hb hby at_139) (XS.iload X72.here hx rfl (hb hby at_140) rfl (XS.iload X72.here hx rfl (hb hby at_142) rfl k))))) ?_
       refine own_stat (W := 0) X72 hx hZ hown eh72 (ow hw 40 rfl) (ow hw 41 rfl) (rmsoB l Z a0 hw [] b1 (3 : Int32) (0 : Int32) (2 : Int32) T18.heap n0 Zs27 (by decide) (by decide)) (ow hw 42 rfl) (ow hw 3 rfl) rfl (by rw [hml]; rfl) rfl (hb hby at_144) (lenOf pd___CIII_Z rfl) rfl (by decide) (fun T73 v73 Ll73 X73 hQ73 => ?_)
       obtain ⟨rfl, N73q, eh73⟩ := hQ73
       have N73 := Fr.app N72 N73q
       refine own_go (b := (T73.setTop (mkF m 198 #[iv p0, iv p1, iv p2, iv p3, iv p4, rv b1, rv b16, iv (0 : Int32), iv (2 : Int32), iv (0 : Int32), iv (1 : Int32), iv (1 : Int32)] [(.int (1 : Int32))]))) (fun _ k => XS.ifNo X73.here hx rfl (hb hby at_147) rfl ((if0 _ _).trans (feq (by decide : ¬ ((1 : Int32) = (0 : Int32)))).1) (XS.iconst X73.here hx rfl (hb hby at_150) (XS.goto X73.here hx rfl (pc0 := 151) (pc' := 155) rfl (hb hby at_151) (by decide) (by decide) (XS.istore X73.here hx rfl (hb hby at_155) rfl (l' := #[iv p0, iv p1, iv p2, iv p3, iv p4, rv b1, rv b16, iv (0 : Int32), iv (2 : Int32), iv (0 : Int32), iv (1 : Int32), .unset]) rfl (XS.iload X73.here hx rfl (hb hby at_157) rfl (XS.iload X73.here hx rfl (hb hby at_159) rfl (XS.icmpYes X73.here hx rfl (pc0 := 161) (pc' := 176) rfl (hb hby at_161) rfl (teq (rfl : (0 : Int32) = (0 : Int32))).1 (by decide) (by decide) (XS.iconst X73.here hx rfl (hb hby at_176) (XS.goto X73.here hx rfl (pc0 := 177) (pc' := 181) rfl (hb hby at_177) (by decide) (by decide) (XS.istore X73.here hx rfl (hb hby at_181) rfl (l' := #[iv p0, iv p1, iv p2, iv p3, iv p4, rv b1, rv b16, iv (0 : Int32), iv (2 : Int32), iv (0 : Int32), iv (1 : Int32), iv (1 : Int32)]) rfl (XS.iload X73.here hx rfl (hb hby at_183) rfl (XS.ifNo X73.here hx rfl (hb hby at_185) rfl ((if0 _ _).trans (feq (by decide : ¬ ((1 : Int32) = (0 : Int32)))).1) (XS.iload X73.here hx rfl (hb hby at_188) rfl (XS.ifNo X73.here hx rfl (hb hby at_190) rfl ((if0 _ _).trans (feq (by decide : ¬ ((1 : Int32) = (0 : Int32)))).1) (XS.iconst X73.here hx rfl (hb hby at_193) (XS.goto X73.here hx rfl (pc0 := 194) (pc' := 198) rfl (hb hby at_194) (by decide) (by decide) k)))))))))))))))) ?_
       obtain ⟨fs, hr, hrun, hended, hW, hsame⟩ := X73.leave (v := some (.int (1 : Int32))) (fun h => by rw [Bd.returns] at h; cases h)
       exact ⟨_, _, retN X73 hx (t := .boolean) Bd.returns (by simp) (hb hby at_198) hr, hrun, hended, _, _, rfl, (show Qrm0 Z p0 p1 p2 p3 p4 cs fv h0 n0 _ T73.heap _ from (by rw [eh73]; exact ⟨rfl, N73⟩)), ⟨_, rfl⟩, hW, hsame.mono (by decide) (by decide)⟩
   · rw [hl]
     refine own_go (b := (T18.setTop (mkF m 77 #[iv p0, iv p1, iv p2, iv p3, iv p4, rv b1, rv b16, iv (0 : Int32), iv (3 : Int32), .unset, .unset, .unset] [(.int (3 : Int32)), (.int (0 : Int32)), (.ref b16)]))) (fun _ k => XS.iadd X18.here hx rfl (hb hby at_68) rfl (XS.istore X18.here hx rfl (hb hby at_69) rfl (l' := #[iv p0, iv p1, iv p2, iv p3, iv p4, rv b1, rv b16, iv (0 : Int32), iv (3 : Int32), .unset, .unset, .unset]) rfl (XS.aload X18.here hx rfl (hb hby at_71) rfl rfl (XS.iload X18.here hx rfl (hb hby at_73) rfl (XS.iload X18.here hx rfl (hb hby at_75) rfl k))))) ?_
     have O75 := O24.keep K18 (allS gx25 all0)
     have F76 := A16.keep K18
     refine own_stat (W := 0) X18 hx hZ hown rfl (ow hw 36 rfl) (ow hw 37 rfl) (rmts0_3 l Z a0 hw [] b16 (nar .char rc_3) (nar .char rc_7) (nar .char rc_10) (nar .char rc_13) cs fv T18.heap n0 Zs27 O75 S_COMPACT_STRINGS hcs S__assertionsDisabled S_HI_BYTE_SHIFT S_LO_BYTE_SHIFT S_SIOOBE_FORMATTER hfv F76 P18_0) (ow hw 39 rfl) (ow hw 38 rfl) rfl (by rw [hml]; rfl) rfl (hb hby at_77) (lenOf pd__Ljava_lang_String_II_I rfl) rfl (by decide) (fun T74 v74 Ll74 X74 hQ74 => ?_)
     obtain ⟨r_74, rfl, N74q, eh74, P74_0⟩ := hQ74
     have N74 := Fr.app N18 N74q
     rcases P74_0 with ⟨rfl, hs2⟩ | ⟨rfl, hs2, hs1⟩ | ⟨rfl, hs2, hs1, hs0⟩ | ⟨rfl, hs2, hs1, hs0⟩
     · skip
       refine own_go (b := (T74.setTop (mkF m 105 #[iv p0, iv p1, iv p2, iv p3, iv p4, rv b1, rv b16, iv (0 : Int32), iv (3 : Int32), iv (3 : Int32), .unset, .unset] [(.int (3 : Int32)), (.int (3 : Int32)), (.int (0 : Int32)), (.ref b1)]))) (fun _ k => XS.istore X74.here hx rfl (hb hby at_80) rfl (l' := #[iv p0, iv p1, iv p2, iv p3, iv p4, rv b1, rv b16, iv (0 : Int32), iv (3 : Int32), iv (3 : Int32), .unset, .unset]) rfl (XS.iload X74.here hx rfl (hb hby at_82) rfl (XS.iload X74.here hx rfl (hb hby at_84) rfl (XS.icmpNo X74.here hx rfl (hb hby at_86) rfl (flt (by decide : ¬ ((3 : Int32) < (0 : Int32)))).1 (XS.iload X74.here hx rfl (hb hby at_89) rfl (XS.iload X74.here hx rfl (hb hby at_91) rfl (XS.icmpYes X74.here hx rfl (pc0 := 93) (pc' := 98) rfl (hb hby at_93) rfl (flt (by decide : ¬ ((3 : Int32) < (3 : Int32)))).2.2.2 (by decide) (by decide) (XS.aload X74.here hx rfl (hb hby at_98) rfl rfl (XS.iconst X74.here hx rfl (hb hby at_100) (XS.iload X74.here hx rfl (hb hby at_101) rfl (XS.iload X74.here hx rfl (hb hby at_103) rfl k))))))))))) ?_
       refine own_stat (W := 0) X74 hx hZ hown eh74 (ow hw 40 rfl) (ow hw 41 rfl) (rmsoA l Z a0 hw [] b1 (0 : Int32) (3 : Int32) (3 : Int32) T18.heap n0 Zs27 (by decide)) (ow hw 42 rfl) (ow hw 3 rfl) rfl (by rw [hml]; rfl) rfl (hb hby at_105) (lenOf pd___CIII_Z rfl) rfl (by decide) (fun T77 v77 Ll77 X77 hQ77 => ?_)
       obtain ⟨rfl, N77q, eh77⟩ := hQ77
       have N77 := Fr.app N74 N77q
       refine own_go (b := (T77.setTop (mkF m 118 #[iv p0, iv p1, iv p2, iv p3, iv p4, rv b1, rv b16, iv (0 : Int32), iv (3 : Int32), iv (3 : Int32), .unset, .unset] [(.int (3 : Int32)), (.int (3 : Int32)), (.int (1 : Int32)), (.ref b1)]))) (fun _ k => XS.ifNo X77.here hx rfl (hb hby at_108) rfl ((if0 _ _).trans (feq (by decide : ¬ ((1 : Int32) = (0 : Int32)))).1) (XS.aload X77.here hx rfl (hb hby at_111) rfl rfl (XS.iconst X77.here hx rfl (hb hby at_113) (XS.iload X77.here hx rfl (hb hby at_114) rfl (XS.iload X77.here hx rfl (hb hby at_116) rfl k))))) ?_
       refine own_stat (W := 0) X77 hx hZ hown eh77 (ow hw 40 rfl) (ow hw 41 rfl) (rmsoA l Z a0 hw [] b1 (1 : Int32) (3 : Int32) (3 : Int32) T18.heap n0 Zs27 (by decide)) (ow hw 42 rfl) (ow hw 3 rfl) rfl (by rw [hml]; rfl) rfl (hb hby at_118) (lenOf pd___CIII_Z rfl) rfl (by decide) (fun T78 v78 Ll78 X78 hQ78 => ?_)
       obtain ⟨rfl, N78q, eh78⟩ := hQ78
       have N78 := Fr.app N77 N78q
       refine own_go (b := (T78.setTop (mkF m 131 #[iv p0, iv p1, iv p2, iv p3, iv p4, rv b1, rv b16, iv (0 : Int32), iv (3 : Int32), iv (3 : Int32), .unset, .unset] [(.int (3 : Int32)), (.int (3 : Int32)), (.int (2 : Int32)), (.ref b1)]))) (fun _ k => XS.ifNo X78.here hx rfl (hb hby at_121) rfl ((if0 _ _).trans (feq (by decide : ¬ ((1 : Int32) = (0 : Int32)))).1) (XS.aload X78.here hx rfl (hb hby at_124) rfl rfl (XS.iconst X78.here hx rfl (hb hby at_126) (XS.iload X78.here hx rfl (hb hby at_127) rfl (XS.iload X78.here hx rfl (hb hby at_129) rfl k))))) ?_
       refine own_stat (W := 0) X78 hx hZ hown eh78 (ow hw 40 rfl) (ow hw 41 rfl) (rmsoA l Z a0 hw [] b1 (2 : Int32) (3 : Int32) (3 : Int32) T18.heap n0 Zs27 (by decide)) (ow hw 42 rfl) (ow hw 3 rfl) rfl (by rw [hml]; rfl) rfl (hb hby at_131) (lenOf pd___CIII_Z rfl) rfl (by decide) (fun T79 v79 Ll79 X79 hQ79 => ?_)
       obtain ⟨rfl, N79q, eh79⟩ := hQ79
       have N79 := Fr.app N78 N79q
       refine own_go (b := (T79.setTop (mkF m 144 #[iv p0, iv p1, iv p2, iv p3, iv p4, rv b1, rv b16, iv (0 : Int32), iv (3 : Int32), iv (3 : Int32), .unset, .unset] [(.int (3 : Int32)), (.int (3 : Int32)), (.int (3 : Int32)), (.ref b1)]))) (fun _ k => XS.ifNo X79.here hx rfl (hb hby at_134) rfl ((if0 _ _).trans (feq (by decide : ¬ ((1 : Int32) = (0 : Int32)))).1) (XS.aload X79.here hx rfl (hb hby at_137) rfl rfl (XS.iconst X79.here hx rfl (hb hby at_139) (XS.iload X79.here hx rfl (hb hby at_140) rfl (XS.iload X79.here hx rfl (hb hby at_142) rfl k))))) ?_
       refine own_stat (W := 0) X79 hx hZ hown eh79 (ow hw 40 rfl) (ow hw 41 rfl) (rmsoB l Z a0 hw [] b1 (3 : Int32) (3 : Int32) (3 : Int32) T18.heap n0 Zs27 (by decide : ¬ ((3 : Int32) < (3 : Int32))) (by decide : ¬ ((3 : Int32) < (3 : Int32)))) (ow hw 42 rfl) (ow hw 3 rfl) rfl (by rw [hml]; rfl) rfl (hb hby at_144) (lenOf pd___CIII_Z rfl) rfl (by decide) (fun T80 v80 Ll80 X80 hQ80 => ?_)
       obtain ⟨rfl, N80q, eh80⟩ := hQ80
       have N80 := Fr.app N79 N80q
       refine own_go (b := (T80.setTop (mkF m 170 #[iv p0, iv p1, iv p2, iv p3, iv p4, rv b1, rv b16, iv (0 : Int32), iv (3 : Int32), iv (3 : Int32), iv (1 : Int32), .unset] [(.int (2 : Int32)), (.ref b1)]))) (fun _ k => XS.ifNo X80.here hx rfl (hb hby at_147) rfl ((if0 _ _).trans (feq (by decide : ¬ ((1 : Int32) = (0 : Int32)))).1) (XS.iconst X80.here hx rfl (hb hby at_150) (XS.goto X80.here hx rfl (pc0 := 151) (pc' := 155) rfl (hb hby at_151) (by decide) (by decide) (XS.istore X80.here hx rfl (hb hby at_155) rfl (l' := #[iv p0, iv p1, iv p2, iv p3, iv p4, rv b1, rv b16, iv (0 : Int32), iv (3 : Int32), iv (3 : Int32), iv (1 : Int32), .unset]) rfl (XS.iload X80.here hx rfl (hb hby at_157) rfl (XS.iload X80.here hx rfl (hb hby at_159) rfl (XS.icmpNo X80.here hx rfl (hb hby at_161) rfl (feq (by decide : ¬ ((3 : Int32) = (0 : Int32)))).1 (XS.aload X80.here hx rfl (hb hby at_164) rfl rfl (XS.iload X80.here hx rfl (hb hby at_166) rfl (XS.iconst X80.here hx rfl (hb hby at_168) (XS.isub X80.here hx rfl (hb hby at_169) rfl k))))))))))) ?_
       have nx82 : b1 ≠ b16 := (own_ne V1.lt (own_tr (own_tr (own_tr (Keep.of_wr W4).1 (Keep.of_wr W8).1) (Keep.of_wr W11).1) (Keep.of_wr W14).1) (Nat.le_of_eq g16.symm))
       have F83 := F26.keep K18 (ninS nx82 nin0)
       obtain ⟨cl81, Ar81, ql81, Sz81, Nn81, Hl81, Gl81⟩ := id F83
       have hin81 : ¬ ((2 : Int32) < 0 ∨ cl81.slots.size ≤ ((2 : Int32)).toNatClampNeg) := inb_of Sz81 ⟨by decide, by decide⟩
       refine own_go (b := (T80.setTop (mkF m 198 #[iv p0, iv p1, iv p2, iv p3, iv p4, rv b1, rv b16, iv (0 : Int32), iv (3 : Int32), iv (3 : Int32), iv (1 : Int32), iv (1 : Int32)] [(.int (1 : Int32))]))) (fun _ k => X80.caload hx (j := (2 : Int32)) (v := (.int (nar .char rc_10))) (by rw [eh80]; exact Ar81.1) (State.isArrayOf_alike hZ.alike Ar81.2.1) Ar81.2.2 hin81 (Hl81.at hin81 rfl) (g := (mkF m 170 #[iv p0, iv p1, iv p2, iv p3, iv p4, rv b1, rv b16, iv (0 : Int32), iv (3 : Int32), iv (3 : Int32), iv (1 : Int32), .unset] [(.int (2 : Int32)), (.ref b1)])) rfl rfl (hb hby at_170) _ (XS.bipush X80.here hx rfl (hb hby at_171) (XS.icmpNo X80.here hx rfl (hb hby at_173) rfl (feq hs2).1 (XS.iconst X80.here hx rfl (hb hby at_176) (XS.goto X80.here hx rfl (pc0 := 177) (pc' := 181) rfl (hb hby at_177) (by decide) (by decide) (XS.istore X80.here hx rfl (hb hby at_181) rfl (l' := #[iv p0, iv p1, iv p2, iv p3, iv p4, rv b1, rv b16, iv (0 : Int32), iv (3 : Int32), iv (3 : Int32), iv (1 : Int32), iv (1 : Int32)]) rfl (XS.iload X80.here hx rfl (hb hby at_183) rfl (XS.ifNo X80.here hx rfl (hb hby at_185) rfl ((if0 _ _).trans (feq (by decide : ¬ ((1 : Int32) = (0 : Int32)))).1) (XS.iload X80.here hx rfl (hb hby at_188) rfl (XS.ifNo X80.here hx rfl (hb hby at_190) rfl ((if0 _ _).trans (feq (by decide : ¬ ((1 : Int32) = (0 : Int32)))).1) (XS.iconst X80.here hx rfl (hb hby at_193) (XS.goto X80.here hx rfl (pc0 := 194) (pc' := 198) rfl (hb hby at_194) (by decide) (by decide) k)))))))))))) ?_
       obtain ⟨fs, hr, hrun, hended, hW, hsame⟩ := X80.leave (v := some (.int (1 : Int32))) (fun h => by rw [Bd.returns] at h; cases h)
       exact ⟨_, _, retN X80 hx (t := .boolean) Bd.returns (by simp) (hb hby at_198) hr, hrun, hended, _, _, rfl, (show Qrm0 Z p0 p1 p2 p3 p4 cs fv h0 n0 _ T80.heap _ from (by rw [eh80]; exact ⟨rfl, N80⟩)), ⟨_, rfl⟩, hW, hsame.mono (by decide) (by decide)⟩
     · skip
       refine own_go (b := (T74.setTop (mkF m 105 #[iv p0, iv p1, iv p2, iv p3, iv p4, rv b1, rv b16, iv (0 : Int32), iv (3 : Int32), iv (2 : Int32), .unset, .unset] [(.int (3 : Int32)), (.int (2 : Int32)), (.int (0 : Int32)), (.ref b1)]))) (fun _ k => XS.istore X74.here hx rfl (hb hby at_80) rfl (l' := #[iv p0, iv p1, iv p2, iv p3, iv p4, rv b1, rv b16, iv (0 : Int32), iv (3 : Int32), iv (2 : Int32), .unset, .unset]) rfl (XS.iload X74.here hx rfl (hb hby at_82) rfl (XS.iload X74.here hx rfl (hb hby at_84) rfl (XS.icmpNo X74.here hx rfl (hb hby at_86) rfl (flt (by decide : ¬ ((2 : Int32) < (0 : Int32)))).1 (XS.iload X74.here hx rfl (hb hby at_89) rfl (XS.iload X74.here hx rfl (hb hby at_91) rfl (XS.icmpYes X74.here hx rfl (pc0 := 93) (pc' := 98) rfl (hb hby at_93) rfl (flt (by decide : ¬ ((3 : Int32) < (2 : Int32)))).2.2.2 (by decide) (by decide) (XS.aload X74.here hx rfl (hb hby at_98) rfl rfl (XS.iconst X74.here hx rfl (hb hby at_100) (XS.iload X74.here hx rfl (hb hby at_101) rfl (XS.iload X74.here hx rfl (hb hby at_103) rfl k))))))))))) ?_
       refine own_stat (W := 0) X74 hx hZ hown eh74 (ow hw 40 rfl) (ow hw 41 rfl) (rmsoA l Z a0 hw [] b1 (0 : Int32) (2 : Int32) (3 : Int32) T18.heap n0 Zs27 (by decide)) (ow hw 42 rfl) (ow hw 3 rfl) rfl (by rw [hml]; rfl) rfl (hb hby at_105) (lenOf pd___CIII_Z rfl) rfl (by decide) (fun T84 v84 Ll84 X84 hQ84 => ?_)
       obtain ⟨rfl, N84q, eh84⟩ := hQ84
       have N84 := Fr.app N74 N84q
       refine own_go (b := (T84.setTop (mkF m 118 #[iv p0, iv p1, iv p2, iv p3, iv p4, rv b1, rv b16, iv (0 : Int32), iv (3 : Int32), iv (2 : Int32), .unset, .unset] [(.int (3 : Int32)), (.int (2 : Int32)), (.int (1 : Int32)), (.ref b1)]))) (fun _ k => XS.ifNo X84.here hx rfl (hb hby at_108) rfl ((if0 _ _).trans (feq (by decide : ¬ ((1 : Int32) = (0 : Int32)))).1) (XS.aload X84.here hx rfl (hb hby at_111) rfl rfl (XS.iconst X84.here hx rfl (hb hby at_113) (XS.iload X84.here hx rfl (hb hby at_114) rfl (XS.iload X84.here hx rfl (hb hby at_116) rfl k))))) ?_
       refine own_stat (W := 0) X84 hx hZ hown eh84 (ow hw 40 rfl) (ow hw 41 rfl) (rmsoA l Z a0 hw [] b1 (1 : Int32) (2 : Int32) (3 : Int32) T18.heap n0 Zs27 (by decide)) (ow hw 42 rfl) (ow hw 3 rfl) rfl (by rw [hml]; rfl) rfl (hb hby at_118) (lenOf pd___CIII_Z rfl) rfl (by decide) (fun T85 v85 Ll85 X85 hQ85 => ?_)
       obtain ⟨rfl, N85q, eh85⟩ := hQ85
       have N85 := Fr.app N84 N85q
       refine own_go (b := (T85.setTop (mkF m 131 #[iv p0, iv p1, iv p2, iv p3, iv p4, rv b1, rv b16, iv (0 : Int32), iv (3 : Int32), iv (2 : Int32), .unset, .unset] [(.int (3 : Int32)), (.int (2 : Int32)), (.int (2 : Int32)), (.ref b1)]))) (fun _ k => XS.ifNo X85.here hx rfl (hb hby at_121) rfl ((if0 _ _).trans (feq (by decide : ¬ ((1 : Int32) = (0 : Int32)))).1) (XS.aload X85.here hx rfl (hb hby at_124) rfl rfl (XS.iconst X85.here hx rfl (hb hby at_126) (XS.iload X85.here hx rfl (hb hby at_127) rfl (XS.iload X85.here hx rfl (hb hby at_129) rfl k))))) ?_
       have nx87 : b1 ≠ b16 := (own_ne V1.lt (own_tr (own_tr (own_tr (Keep.of_wr W4).1 (Keep.of_wr W8).1) (Keep.of_wr W11).1) (Keep.of_wr W14).1) (Nat.le_of_eq g16.symm))
       have F88 := F26.keep K18 (ninS nx87 nin0)
       refine own_stat (W := 0) X85 hx hZ hown eh85 (ow hw 40 rfl) (ow hw 41 rfl) (rmsoC2 l Z a0 hw [] b1 kl1 (nar .char rc_3) (nar .char rc_7) (nar .char rc_10) (nar .char rc_13) (2 : Int32) (3 : Int32) T18.heap n0 Zs27 F88 (by decide) (by decide) hs2) (ow hw 42 rfl) (ow hw 3 rfl) rfl (by rw [hml]; rfl) rfl (hb hby at_131) (lenOf pd___CIII_Z rfl) rfl (by decide) (fun T86 v86 Ll86 X86 hQ86 => ?_)
       obtain ⟨rfl, N86q, eh86⟩ := hQ86
       have N86 := Fr.app N85 N86q
       refine own_go (b := (T86.setTop (mkF m 144 #[iv p0, iv p1, iv p2, iv p3, iv p4, rv b1, rv b16, iv (0 : Int32), iv (3 : Int32), iv (2 : Int32), .unset, .unset] [(.int (3 : Int32)), (.int (2 : Int32)), (.int (3 : Int32)), (.ref b1)]))) (fun _ k => XS.ifNo X86.here hx rfl (hb hby at_134) rfl ((if0 _ _).trans (feq (by decide : ¬ ((1 : Int32) = (0 : Int32)))).1) (XS.aload X86.here hx rfl (hb hby at_137) rfl rfl (XS.iconst X86.here hx rfl (hb hby at_139) (XS.iload X86.here hx rfl (hb hby at_140) rfl (XS.iload X86.here hx rfl (hb hby at_142) rfl k))))) ?_
       refine own_stat (W := 0) X86 hx hZ hown eh86 (ow hw 40 rfl) (ow hw 41 rfl) (rmsoB l Z a0 hw [] b1 (3 : Int32) (2 : Int32) (3 : Int32) T18.heap n0 Zs27 (by decide : ¬ ((3 : Int32) < (2 : Int32))) (by decide)) (ow hw 42 rfl) (ow hw 3 rfl) rfl (by rw [hml]; rfl) rfl (hb hby at_144) (lenOf pd___CIII_Z rfl) rfl (by decide) (fun T89 v89 Ll89 X89 hQ89 => ?_)
       obtain ⟨rfl, N89q, eh89⟩ := hQ89
       have N89 := Fr.app N86 N89q
       refine own_go (b := (T89.setTop (mkF m 170 #[iv p0, iv p1, iv p2, iv p3, iv p4, rv b1, rv b16, iv (0 : Int32), iv (3 : Int32), iv (2 : Int32), iv (1 : Int32), .unset] [(.int (1 : Int32)), (.ref b1)]))) (fun _ k => XS.ifNo X89.here hx rfl (hb hby at_147) rfl ((if0 _ _).trans (feq (by decide : ¬ ((1 : Int32) = (0 : Int32)))).1) (XS.iconst X89.here hx rfl (hb hby at_150) (XS.goto X89.here hx rfl (pc0 := 151) (pc' := 155) rfl (hb hby at_151) (by decide) (by decide) (XS.istore X89.here hx rfl (hb hby at_155) rfl (l' := #[iv p0, iv p1, iv p2, iv p3, iv p4, rv b1, rv b16, iv (0 : Int32), iv (3 : Int32), iv (2 : Int32), iv (1 : Int32), .unset]) rfl (XS.iload X89.here hx rfl (hb hby at_157) rfl (XS.iload X89.here hx rfl (hb hby at_159) rfl (XS.icmpNo X89.here hx rfl (hb hby at_161) rfl (feq (by decide : ¬ ((2 : Int32) = (0 : Int32)))).1 (XS.aload X89.here hx rfl (hb hby at_164) rfl rfl (XS.iload X89.here hx rfl (hb hby at_166) rfl (XS.iconst X89.here hx rfl (hb hby at_168) (XS.isub X89.here hx rfl (hb hby at_169) rfl k))))))))))) ?_
       obtain ⟨cl90, Ar90, ql90, Sz90, Nn90, Hl90, Gl90⟩ := id F88
       have hin90 : ¬ ((1 : Int32) < 0 ∨ cl90.slots.size ≤ ((1 : Int32)).toNatClampNeg) := inb_of Sz90 ⟨by decide, by decide⟩
       refine own_go (b := (T89.setTop (mkF m 198 #[iv p0, iv p1, iv p2, iv p3, iv p4, rv b1, rv b16, iv (0 : Int32), iv (3 : Int32), iv (2 : Int32), iv (1 : Int32), iv (1 : Int32)] [(.int (1 : Int32))]))) (fun _ k => X89.caload hx (j := (1 : Int32)) (v := (.int (nar .char rc_7))) (by rw [eh89]; exact Ar90.1) (State.isArrayOf_alike hZ.alike Ar90.2.1) Ar90.2.2 hin90 (Hl90.at hin90 rfl) (g := (mkF m 170 #[iv p0, iv p1, iv p2, iv p3, iv p4, rv b1, rv b16, iv (0 : Int32), iv (3 : Int32), iv (2 : Int32), iv (1 : Int32), .unset] [(.int (1 : Int32)), (.ref b1)])) rfl rfl (hb hby at_170) _ (XS.bipush X89.here hx rfl (hb hby at_171) (XS.icmpNo X89.here hx rfl (hb hby at_173) rfl (feq hs1).1 (XS.iconst X89.here hx rfl (hb hby at_176) (XS.goto X89.here hx rfl (pc0 := 177) (pc' := 181) rfl (hb hby at_177) (by decide) (by decide) (XS.istore X89.here hx rfl (hb hby at_181) rfl (l' := #[iv p0, iv p1, iv p2, iv p3, iv p4, rv b1, rv b16, iv (0 : Int32), iv (3 : Int32), iv (2 : Int32), iv (1 : Int32), iv (1 : Int32)]) rfl (XS.iload X89.here hx rfl (hb hby at_183) rfl (XS.ifNo X89.here hx rfl (hb hby at_185) rfl ((if0 _ _).trans (feq (by decide : ¬ ((1 : Int32) = (0 : Int32)))).1) (XS.iload X89.here hx rfl (hb hby at_188) rfl (XS.ifNo X89.here hx rfl (hb hby at_190) rfl ((if0 _ _).trans (feq (by decide : ¬ ((1 : Int32) = (0 : Int32)))).1) (XS.iconst X89.here hx rfl (hb hby at_193) (XS.goto X89.here hx rfl (pc0 := 194) (pc' := 198) rfl (hb hby at_194) (by decide) (by decide) k)))))))))))) ?_
       obtain ⟨fs, hr, hrun, hended, hW, hsame⟩ := X89.leave (v := some (.int (1 : Int32))) (fun h => by rw [Bd.returns] at h; cases h)
       exact ⟨_, _, retN X89 hx (t := .boolean) Bd.returns (by simp) (hb hby at_198) hr, hrun, hended, _, _, rfl, (show Qrm0 Z p0 p1 p2 p3 p4 cs fv h0 n0 _ T89.heap _ from (by rw [eh89]; exact ⟨rfl, N89⟩)), ⟨_, rfl⟩, hW, hsame.mono (by decide) (by decide)⟩
     · skip
       refine own_go (b := (T74.setTop (mkF m 105 #[iv p0, iv p1, iv p2, iv p3, iv p4, rv b1, rv b16, iv (0 : Int32), iv (3 : Int32), iv (1 : Int32), .unset, .unset] [(.int (3 : Int32)), (.int (1 : Int32)), (.int (0 : Int32)), (.ref b1)]))) (fun _ k => XS.istore X74.here hx rfl (hb hby at_80) rfl (l' := #[iv p0, iv p1, iv p2, iv p3, iv p4, rv b1, rv b16, iv (0 : Int32), iv (3 : Int32), iv (1 : Int32), .unset, .unset]) rfl (XS.iload X74.here hx rfl (hb hby at_82) rfl (XS.iload X74.here hx rfl (hb hby at_84) rfl (XS.icmpNo X74.here hx rfl (hb hby at_86) rfl (flt (by decide : ¬ ((1 : Int32) < (0 : Int32)))).1 (XS.iload X74.here hx rfl (hb hby at_89) rfl (XS.iload X74.here hx rfl (hb hby at_91) rfl (XS.icmpYes X74.here hx rfl (pc0 := 93) (pc' := 98) rfl (hb hby at_93) rfl (flt (by decide : ¬ ((3 : Int32) < (1 : Int32)))).2.2.2 (by decide) (by decide) (XS.aload X74.here hx rfl (hb hby at_98) rfl rfl (XS.iconst X74.here hx rfl (hb hby at_100) (XS.iload X74.here hx rfl (hb hby at_101) rfl (XS.iload X74.here hx rfl (hb hby at_103) rfl k))))))))))) ?_
       refine own_stat (W := 0) X74 hx hZ hown eh74 (ow hw 40 rfl) (ow hw 41 rfl) (rmsoA l Z a0 hw [] b1 (0 : Int32) (1 : Int32) (3 : Int32) T18.heap n0 Zs27 (by decide)) (ow hw 42 rfl) (ow hw 3 rfl) rfl (by rw [hml]; rfl) rfl (hb hby at_105) (lenOf pd___CIII_Z rfl) rfl (by decide) (fun T91 v91 Ll91 X91 hQ91 => ?_)
       obtain ⟨rfl, N91q, eh91⟩ := hQ91
       have N91 := Fr.app N74 N91q
       refine own_go (b := (T91.setTop (mkF m 118 #[iv p0, iv p1, iv p2, iv p3, iv p4, rv b1, rv b16, iv (0 : Int32), iv (3 : Int32), iv (1 : Int32), .unset, .unset] [(.int (3 : Int32)), (.int (1 : Int32)), (.int (1 : Int32)), (.ref b1)]))) (fun _ k => XS.ifNo X91.here hx rfl (hb hby at_108) rfl ((if0 _ _).trans (feq (by decide : ¬ ((1 : Int32) = (0 : Int32)))).1) (XS.aload X91.here hx rfl (hb hby at_111) rfl rfl (XS.iconst X91.here hx rfl (hb hby at_113) (XS.iload X91.here hx rfl (hb hby at_114) rfl (XS.iload X91.here hx rfl (hb hby at_116) rfl k))))) ?_
       have nx93 : b1 ≠ b16 := (own_ne V1.lt (own_tr (own_tr (own_tr (Keep.of_wr W4).1 (Keep.of_wr W8).1) (Keep.of_wr W11).1) (Keep.of_wr W14).1) (Nat.le_of_eq g16.symm))
       have F94 := F26.keep K18 (ninS nx93 nin0)
       refine own_stat (W := 0) X91 hx hZ hown eh91 (ow hw 40 rfl) (ow hw 41 rfl) (rmsoC1 l Z a0 hw [] b1 kl1 (nar .char rc_3) (nar .char rc_7) (nar .char rc_10) (nar .char rc_13) (1 : Int32) (3 : Int32) T18.heap n0 Zs27 F94 (by decide) (by decide) hs1) (ow hw 42 rfl) (ow hw 3 rfl) rfl (by rw [hml]; rfl) rfl (hb hby at_118) (lenOf pd___CIII_Z rfl) rfl (by decide) (fun T92 v92 Ll92 X92 hQ92 => ?_)
       obtain ⟨rfl, N92q, eh92⟩ := hQ92
       have N92 := Fr.app N91 N92q
       refine own_go (b := (T92.setTop (mkF m 131 #[iv p0, iv p1, iv p2, iv p3, iv p4, rv b1, rv b16, iv (0 : Int32), iv (3 : Int32), iv (1 : Int32), .unset, .unset] [(.int (3 : Int32)), (.int (1 : Int32)), (.int (2 : Int32)), (.ref b1)]))) (fun _ k => XS.ifNo X92.here hx rfl (hb hby at_121) rfl ((if0 _ _).trans (feq (by decide : ¬ ((1 : Int32) = (0 : Int32)))).1) (XS.aload X92.here hx rfl (hb hby at_124) rfl rfl (XS.iconst X92.here hx rfl (hb hby at_126) (XS.iload X92.here hx rfl (hb hby at_127) rfl (XS.iload X92.here hx rfl (hb hby at_129) rfl k))))) ?_
       refine own_stat (W := 0) X92 hx hZ hown eh92 (ow hw 40 rfl) (ow hw 41 rfl) (rmsoC2 l Z a0 hw [] b1 kl1 (nar .char rc_3) (nar .char rc_7) (nar .char rc_10) (nar .char rc_13) (1 : Int32) (3 : Int32) T18.heap n0 Zs27 F94 (by decide) (by decide) hs2) (ow hw 42 rfl) (ow hw 3 rfl) rfl (by rw [hml]; rfl) rfl (hb hby at_131) (lenOf pd___CIII_Z rfl) rfl (by decide) (fun T95 v95 Ll95 X95 hQ95 => ?_)
       obtain ⟨rfl, N95q, eh95⟩ := hQ95
       have N95 := Fr.app N92 N95q
       refine own_go (b := (T95.setTop (mkF m 144 #[iv p0, iv p1, iv p2, iv p3, iv p4, rv b1, rv b16, iv (0 : Int32), iv (3 : Int32), iv (1 : Int32), .unset, .unset] [(.int (3 : Int32)), (.int (1 : Int32)), (.int (3 : Int32)), (.ref b1)]))) (fun _ k => XS.ifNo X95.here hx rfl (hb hby at_134) rfl ((if0 _ _).trans (feq (by decide : ¬ ((1 : Int32) = (0 : Int32)))).1) (XS.aload X95.here hx rfl (hb hby at_137) rfl rfl (XS.iconst X95.here hx rfl (hb hby at_139) (XS.iload X95.here hx rfl (hb hby at_140) rfl (XS.iload X95.here hx rfl (hb hby at_142) rfl k))))) ?_
       refine own_stat (W := 0) X95 hx hZ hown eh95 (ow hw 40 rfl) (ow hw 41 rfl) (rmsoB l Z a0 hw [] b1 (3 : Int32) (1 : Int32) (3 : Int32) T18.heap n0 Zs27 (by decide : ¬ ((3 : Int32) < (1 : Int32))) (by decide)) (ow hw 42 rfl) (ow hw 3 rfl) rfl (by rw [hml]; rfl) rfl (hb hby at_144) (lenOf pd___CIII_Z rfl) rfl (by decide) (fun T96 v96 Ll96 X96 hQ96 => ?_)
       obtain ⟨rfl, N96q, eh96⟩ := hQ96
       have N96 := Fr.app N95 N96q
       refine own_go (b := (T96.setTop (mkF m 170 #[iv p0, iv p1, iv p2, iv p3, iv p4, rv b1, rv b16, iv (0 : Int32), iv (3 : Int32), iv (1 : Int32), iv (1 : Int32), .unset] [(.int (0 : Int32)), (.ref b1)]))) (fun _ k => XS.ifNo X96.here hx rfl (hb hby at_147) rfl ((if0 _ _).trans (feq (by decide : ¬ ((1 : Int32) = (0 : Int32)))).1) (XS.iconst X96.here hx rfl (hb hby at_150) (XS.goto X96.here hx rfl (pc0 := 151) (pc' := 155) rfl (hb hby at_151) (by decide) (by decide) (XS.istore X96.here hx rfl (hb hby at_155) rfl (l' := #[iv p0, iv p1, iv p2, iv p3, iv p4, rv b1, rv b16, iv (0 : Int32), iv (3 : Int32), iv (1 : Int32), iv (1 : Int32), .unset]) rfl (XS.iload X96.here hx rfl (hb hby at_157) rfl (XS.iload X96.here hx rfl (hb hby at_159) rfl (XS.icmpNo X96.here hx rfl (hb hby at_161) rfl (feq (by decide : ¬ ((1 : Int32) = (0 : Int32)))).1 (XS.aload X96.here hx rfl (hb hby at_164) rfl rfl (XS.iload X96.here hx rfl (hb hby at_166) rfl (XS.iconst X96.here hx rfl (hb hby at_168) (XS.isub X96.here hx rfl (hb hby at_169) rfl k))))))))))) ?_
       obtain ⟨cl97, Ar97, ql97, Sz97, Nn97, Hl97, Gl97⟩ := id F94
       have hin97 : ¬ ((0 : Int32) < 0 ∨ cl97.slots.size ≤ ((0 : Int32)).toNatClampNeg) := inb_of Sz97 ⟨by decide, by decide⟩
       refine own_go (b := (T96.setTop (mkF m 198 #[iv p0, iv p1, iv p2, iv p3, iv p4, rv b1, rv b16, iv (0 : Int32), iv (3 : Int32), iv (1 : Int32), iv (1 : Int32), iv (1 : Int32)] [(.int (1 : Int32))]))) (fun _ k => X96.caload hx (j := (0 : Int32)) (v := (.int (nar .char rc_3))) (by rw [eh96]; exact Ar97.1) (State.isArrayOf_alike hZ.alike Ar97.2.1) Ar97.2.2 hin97 (Hl97.at hin97 rfl) (g := (mkF m 170 #[iv p0, iv p1, iv p2, iv p3, iv p4, rv b1, rv b16, iv (0 : Int32), iv (3 : Int32), iv (1 : Int32), iv (1 : Int32), .unset] [(.int (0 : Int32)), (.ref b1)])) rfl rfl (hb hby at_170) _ (XS.bipush X96.here hx rfl (hb hby at_171) (XS.icmpNo X96.here hx rfl (hb hby at_173) rfl (feq hs0).1 (XS.iconst X96.here hx rfl (hb hby at_176) (XS.goto X96.here hx rfl (pc0 := 177) (pc' := 181) rfl (hb hby at_177) (by decide) (by decide) (XS.istore X96.here hx rfl (hb hby at_181) rfl (l' := #[iv p0, iv p1, iv p2, iv p3, iv p4, rv b1, rv b16, iv (0 : Int32), iv (3 : Int32), iv (1 : Int32), iv (1 : Int32), iv (1 : Int32)]) rfl (XS.iload X96.here hx rfl (hb hby at_183) rfl (XS.ifNo X96.here hx rfl (hb hby at_185) rfl ((if0 _ _).trans (feq (by decide : ¬ ((1 : Int32) = (0 : Int32)))).1) (XS.iload X96.here hx rfl (hb hby at_188) rfl (XS.ifNo X96.here hx rfl (hb hby at_190) rfl ((if0 _ _).trans (feq (by decide : ¬ ((1 : Int32) = (0 : Int32)))).1) (XS.iconst X96.here hx rfl (hb hby at_193) (XS.goto X96.here hx rfl (pc0 := 194) (pc' := 198) rfl (hb hby at_194) (by decide) (by decide) k)))))))))))) ?_
       obtain ⟨fs, hr, hrun, hended, hW, hsame⟩ := X96.leave (v := some (.int (1 : Int32))) (fun h => by rw [Bd.returns] at h; cases h)
       exact ⟨_, _, retN X96 hx (t := .boolean) Bd.returns (by simp) (hb hby at_198) hr, hrun, hended, _, _, rfl, (show Qrm0 Z p0 p1 p2 p3 p4 cs fv h0 n0 _ T96.heap _ from (by rw [eh96]; exact ⟨rfl, N96⟩)), ⟨_, rfl⟩, hW, hsame.mono (by decide) (by decide)⟩
     · skip
       refine own_go (b := (T74.setTop (mkF m 105 #[iv p0, iv p1, iv p2, iv p3, iv p4, rv b1, rv b16, iv (0 : Int32), iv (3 : Int32), iv (0 : Int32), .unset, .unset] [(.int (3 : Int32)), (.int (0 : Int32)), (.int (0 : Int32)), (.ref b1)]))) (fun _ k => XS.istore X74.here hx rfl (hb hby at_80) rfl (l' := #[iv p0, iv p1, iv p2, iv p3, iv p4, rv b1, rv b16, iv (0 : Int32), iv (3 : Int32), iv (0 : Int32), .unset, .unset]) rfl (XS.iload X74.here hx rfl (hb hby at_82) rfl (XS.iload X74.here hx rfl (hb hby at_84) rfl (XS.icmpNo X74.here hx rfl (hb hby at_86) rfl (flt (by decide : ¬ ((0 : Int32) < (0 : Int32)))).1 (XS.iload X74.here hx rfl (hb hby at_89) rfl (XS.iload X74.here hx rfl (hb hby at_91) rfl (XS.icmpYes X74.here hx rfl (pc0 := 93) (pc' := 98) rfl (hb hby at_93) rfl (flt (by decide : ¬ ((3 : Int32) < (0 : Int32)))).2.2.2 (by decide) (by decide) (XS.aload X74.here hx rfl (hb hby at_98) rfl rfl (XS.iconst X74.here hx rfl (hb hby at_100) (XS.iload X74.here hx rfl (hb hby at_101) rfl (XS.iload X74.here hx rfl (hb hby at_103) rfl k))))))))))) ?_
       have nx99 : b1 ≠ b16 := (own_ne V1.lt (own_tr (own_tr (own_tr (Keep.of_wr W4).1 (Keep.of_wr W8).1) (Keep.of_wr W11).1) (Keep.of_wr W14).1) (Nat.le_of_eq g16.symm))
       have F100 := F26.keep K18 (ninS nx99 nin0)
       refine own_stat (W := 0) X74 hx hZ hown eh74 (ow hw 40 rfl) (ow hw 41 rfl) (rmsoC0 l Z a0 hw [] b1 kl1 (nar .char rc_3) (nar .char rc_7) (nar .char rc_10) (nar .char rc_13) (0 : Int32) (3 : Int32) T18.heap n0 Zs27 F100 (by decide : ¬ ((0 : Int32) < (0 : Int32))) (by decide) hs0) (ow hw 42 rfl) (ow hw 3 rfl) rfl (by rw [hml]; rfl) rfl (hb hby at_105) (lenOf pd___CIII_Z rfl) rfl (by decide) (fun T98 v98 Ll98 X98 hQ98 => ?_)
       obtain ⟨rfl, N98q, eh98⟩ := hQ98
       have N98 := Fr.app N74 N98q
       refine own_go (b := (T98.setTop (mkF m 118 #[iv p0, iv p1, iv p2, iv p3, iv p4, rv b1, rv b16, iv (0 : Int32), iv (3 : Int32), iv (0 : Int32), .unset, .unset] [(.int (3 : Int32)), (.int (0 : Int32)), (.int (1 : Int32)), (.ref b1)]))) (fun _ k => XS.ifNo X98.here hx rfl (hb hby at_108) rfl ((if0 _ _).trans (feq (by decide : ¬ ((1 : Int32) = (0 : Int32)))).1) (XS.aload X98.here hx rfl (hb hby at_111) rfl rfl (XS.iconst X98.here hx rfl (hb hby at_113) (XS.iload X98.here hx rfl (hb hby at_114) rfl (XS.iload X98.here hx rfl (hb hby at_116) rfl k))))) ?_
       refine own_stat (W := 0) X98 hx hZ hown eh98 (ow hw 40 rfl) (ow hw 41 rfl) (rmsoC1 l Z a0 hw [] b1 kl1 (nar .char rc_3) (nar .char rc_7) (nar .char rc_10) (nar .char rc_13) (0 : Int32) (3 : Int32) T18.heap n0 Zs27 F100 (by decide) (by decide) hs1) (ow hw 42 rfl) (ow hw 3 rfl) rfl (by rw [hml]; rfl) rfl (hb hby at_118) (lenOf pd___CIII_Z rfl) rfl (by decide) (fun T101 v101 Ll101 X101 hQ101 => ?_)
       obtain ⟨rfl, N101q, eh101⟩ := hQ101
       have N101 := Fr.app N98 N101q
       refine own_go (b := (T101.setTop (mkF m 131 #[iv p0, iv p1, iv p2, iv p3, iv p4, rv b1, rv b16, iv (0 : Int32), iv (3 : Int32), iv (0 : Int32), .unset, .unset] [(.int (3 : Int32)), (.int (0 : Int32)), (.int (2 : Int32)), (.ref b1)]))) (fun _ k => XS.ifNo X101.here hx rfl (hb hby at_121) rfl ((if0 _ _).trans (feq (by decide : ¬ ((1 : Int32) = (0 : Int32)))).1) (XS.aload X101.here hx rfl (hb hby at_124) rfl rfl (XS.iconst X101.here hx rfl (hb hby at_126) (XS.iload X101.here hx rfl (hb hby at_127) rfl (XS.iload X101.here hx rfl (hb hby at_129) rfl k))))) ?_
       refine own_stat (W := 0) X101 hx hZ hown eh101 (ow hw 40 rfl) (ow hw 41 rfl) (rmsoC2 l Z a0 hw [] b1 kl1 (nar .char rc_3) (nar .char rc_7) (nar .char rc_10) (nar .char rc_13) (0 : Int32) (3 : Int32) T18.heap n0 Zs27 F100 (by decide) (by decide) hs2) (ow hw 42 rfl) (ow hw 3 rfl) rfl (by rw [hml]; rfl) rfl (hb hby at_131) (lenOf pd___CIII_Z rfl) rfl (by decide) (fun T102 v102 Ll102 X102 hQ102 => ?_)
       obtain ⟨rfl, N102q, eh102⟩ := hQ102
       have N102 := Fr.app N101 N102q
       refine own_go (b := (T102.setTop (mkF m 144 #[iv p0, iv p1, iv p2, iv p3, iv p4, rv b1, rv b16, iv (0 : Int32), iv (3 : Int32), iv (0 : Int32), .unset, .unset] [(.int (3 : Int32)), (.int (0 : Int32)), (.int (3 : Int32)), (.ref b1)]))) (fun _ k => XS.ifNo X102.here hx rfl (hb hby at_134) rfl ((if0 _ _).trans (feq (by decide : ¬ ((1 : Int32) = (0 : Int32)))).1) (XS.aload X102.here hx rfl (hb hby at_137) rfl rfl (XS.iconst X102.here hx rfl (hb hby at_139) (XS.iload X102.here hx rfl (hb hby at_140) rfl (XS.iload X102.here hx rfl (hb hby at_142) rfl k))))) ?_
       refine own_stat (W := 0) X102 hx hZ hown eh102 (ow hw 40 rfl) (ow hw 41 rfl) (rmsoB l Z a0 hw [] b1 (3 : Int32) (0 : Int32) (3 : Int32) T18.heap n0 Zs27 (by decide : ¬ ((3 : Int32) < (0 : Int32))) (by decide)) (ow hw 42 rfl) (ow hw 3 rfl) rfl (by rw [hml]; rfl) rfl (hb hby at_144) (lenOf pd___CIII_Z rfl) rfl (by decide) (fun T103 v103 Ll103 X103 hQ103 => ?_)
       obtain ⟨rfl, N103q, eh103⟩ := hQ103
       have N103 := Fr.app N102 N103q
       refine own_go (b := (T103.setTop (mkF m 198 #[iv p0, iv p1, iv p2, iv p3, iv p4, rv b1, rv b16, iv (0 : Int32), iv (3 : Int32), iv (0 : Int32), iv (1 : Int32), iv (1 : Int32)] [(.int (1 : Int32))]))) (fun _ k => XS.ifNo X103.here hx rfl (hb hby at_147) rfl ((if0 _ _).trans (feq (by decide : ¬ ((1 : Int32) = (0 : Int32)))).1) (XS.iconst X103.here hx rfl (hb hby at_150) (XS.goto X103.here hx rfl (pc0 := 151) (pc' := 155) rfl (hb hby at_151) (by decide) (by decide) (XS.istore X103.here hx rfl (hb hby at_155) rfl (l' := #[iv p0, iv p1, iv p2, iv p3, iv p4, rv b1, rv b16, iv (0 : Int32), iv (3 : Int32), iv (0 : Int32), iv (1 : Int32), .unset]) rfl (XS.iload X103.here hx rfl (hb hby at_157) rfl (XS.iload X103.here hx rfl (hb hby at_159) rfl (XS.icmpYes X103.here hx rfl (pc0 := 161) (pc' := 176) rfl (hb hby at_161) rfl (teq (rfl : (0 : Int32) = (0 : Int32))).1 (by decide) (by decide) (XS.iconst X103.here hx rfl (hb hby at_176) (XS.goto X103.here hx rfl (pc0 := 177) (pc' := 181) rfl (hb hby at_177) (by decide) (by decide) (XS.istore X103.here hx rfl (hb hby at_181) rfl (l' := #[iv p0, iv p1, iv p2, iv p3, iv p4, rv b1, rv b16, iv (0 : Int32), iv (3 : Int32), iv (0 : Int32), iv (1 : Int32), iv (1 : Int32)]) rfl (XS.iload X103.here hx rfl (hb hby at_183) rfl (XS.ifNo X103.here hx rfl (hb hby at_185) rfl ((if0 _ _).trans (feq (by decide : ¬ ((1 : Int32) = (0 : Int32)))).1) (XS.iload X103.here hx rfl (hb hby at_188) rfl (XS.ifNo X103.here hx rfl (hb hby at_190) rfl ((if0 _ _).trans (feq (by decide : ¬ ((1 : Int32) = (0 : Int32)))).1) (XS.iconst X103.here hx rfl (hb hby at_193) (XS.goto X103.here hx rfl (pc0 := 194) (pc' := 198) rfl (hb hby at_194) (by decide) (by decide) k)))))))))))))))) ?_
       obtain ⟨fs, hr, hrun, hended, hW, hsame⟩ := X103.leave (v := some (.int (1 : Int32))) (fun h => by rw [Bd.returns] at h; cases h)
       exact ⟨_, _, retN X103 hx (t := .boolean) Bd.returns (by simp) (hb hby at_198) hr, hrun, hended, _, _, rfl, (show Qrm0 Z p0 p1 p2 p3 p4 cs fv h0 n0 _ T103.heap _ from (by rw [eh103]; exact ⟨rfl, N103⟩)), ⟨_, rfl⟩, hW, hsame.mono (by decide) (by decide)⟩
   · rw [hl]
     refine own_go (b := (T18.setTop (mkF m 77 #[iv p0, iv p1, iv p2, iv p3, iv p4, rv b1, rv b16, iv (0 : Int32), iv (4 : Int32), .unset, .unset, .unset] [(.int (4 : Int32)), (.int (0 : Int32)), (.ref b16)]))) (fun _ k => XS.iadd X18.here hx rfl (hb hby at_68) rfl (XS.istore X18.here hx rfl (hb hby at_69) rfl (l' := #[iv p0, iv p1, iv p2, iv p3, iv p4, rv b1, rv b16, iv (0 : Int32), iv (4 : Int32), .unset, .unset, .unset]) rfl (XS.aload X18.here hx rfl (hb hby at_71) rfl rfl (XS.iload X18.here hx rfl (hb hby at_73) rfl (XS.iload X18.here hx rfl (hb hby at_75) rfl k))))) ?_
     have O105 := O24.keep K18 (allS gx25 all0)
     have F106 := A16.keep K18
     refine own_stat (W := 0) X18 hx hZ hown rfl (ow hw 36 rfl) (ow hw 37 rfl) (rmts0_4 l Z a0 hw [] b16 (nar .char rc_3) (nar .char rc_7) (nar .char rc_10) (nar .char rc_13) cs fv T18.heap n0 Zs27 O105 S_COMPACT_STRINGS hcs S__assertionsDisabled S_HI_BYTE_SHIFT S_LO_BYTE_SHIFT S_SIOOBE_FORMATTER hfv F106 P18_0) (ow hw 39 rfl) (ow hw 38 rfl) rfl (by rw [hml]; rfl) rfl (hb hby at_77) (lenOf pd__Ljava_lang_String_II_I rfl) rfl (by decide) (fun T104 v104 Ll104 X104 hQ104 => ?_)
     obtain ⟨r_104, rfl, N104q, eh104, P104_0⟩ := hQ104
     have N104 := Fr.app N18 N104q
     rcases P104_0 with ⟨rfl, hs3⟩ | ⟨rfl, hs3, hs2⟩ | ⟨rfl, hs3, hs2, hs1⟩ | ⟨rfl, hs3, hs2, hs1, hs0⟩ | ⟨rfl, hs3, hs2, hs1, hs0⟩
     · skip
       refine own_go (b := (T104.setTop (mkF m 105 #[iv p0, iv p1, iv p2, iv p3, iv p4, rv b1, rv b16, iv (0 : Int32), iv (4 : Int32), iv (4 : Int32), .unset, .unset] [(.int (4 : Int32)), (.int (4 : Int32)), (.int (0 : Int32)), (.ref b1)]))) (fun _ k => XS.istore X104.here hx rfl (hb hby at_80) rfl (l' := #[iv p0, iv p1, iv p2, iv p3, iv p4, rv b1, rv b16, iv (0 : Int32), iv (4 : Int32), iv (4 : Int32), .unset, .unset]) rfl (XS.iload X104.here hx rfl (hb hby at_82) rfl (XS.iload X104.here hx rfl (hb hby at_84) rfl (XS.icmpNo X104.here hx rfl (hb hby at_86) rfl (flt (by decide : ¬ ((4 : Int32) < (0 : Int32)))).1 (XS.iload X104.here hx rfl (hb hby at_89) rfl (XS.iload X104.here hx rfl (hb hby at_91) rfl (XS.icmpYes X104.here hx rfl (pc0 := 93) (pc' := 98) rfl (hb hby at_93) rfl (flt (by decide : ¬ ((4 : Int32) < (4 : Int32)))).2.2.2 (by decide) (by decide) (XS.aload X104.here hx rfl (hb hby at_98) rfl rfl (XS.iconst X104.here hx rfl (hb hby at_100) (XS.iload X104.here hx rfl (hb hby at_101) rfl (XS.iload X104.here hx rfl (hb hby at_103) rfl k))))))))))) ?_
       refine own_stat (W := 0) X104 hx hZ hown eh104 (ow hw 40 rfl) (ow hw 41 rfl) (rmsoA l Z a0 hw [] b1 (0 : Int32) (4 : Int32) (4 : Int32) T18.heap n0 Zs27 (by decide)) (ow hw 42 rfl) (ow hw 3 rfl) rfl (by rw [hml]; rfl) rfl (hb hby at_105) (lenOf pd___CIII_Z rfl) rfl (by decide) (fun T107 v107 Ll107 X107 hQ107 => ?_)
       obtain ⟨rfl, N107q, eh107⟩ := hQ107
       have N107 := Fr.app N104 N107q
       refine own_go (b := (T107.setTop (mkF m 118 #[iv p0, iv p1, iv p2, iv p3, iv p4, rv b1, rv b16, iv (0 : Int32), iv (4 : Int32), iv (4 : Int32), .unset, .unset] [(.int (4 : Int32)), (.int (4 : Int32)), (.int (1 : Int32)), (.ref b1)]))) (fun _ k => XS.ifNo X107.here hx rfl (hb hby at_108) rfl ((if0 _ _).trans (feq (by decide : ¬ ((1 : Int32) = (0 : Int32)))).1) (XS.aload X107.here hx rfl (hb hby at_111) rfl rfl (XS.iconst X107.here hx rfl (hb hby at_113) (XS.iload X107.here hx rfl (hb hby at_114) rfl (XS.iload X107.here hx rfl (hb hby at_116) rfl k))))) ?_
       refine own_stat (W := 0) X107 hx hZ hown eh107 (ow hw 40 rfl) (ow hw 41 rfl) (rmsoA l Z a0 hw [] b1 (1 : Int32) (4 : Int32) (4 : Int32) T18.heap n0 Zs27 (by decide)) (ow hw 42 rfl) (ow hw 3 rfl) rfl (by rw [hml]; rfl) rfl (hb hby at_118) (lenOf pd___CIII_Z rfl) rfl (by decide) (fun T108 v108 Ll108 X108 hQ108 => ?_)
       obtain ⟨rfl, N108q, eh108⟩ := hQ108
       have N108 := Fr.app N107 N108q
       refine own_go (b := (T108.setTop (mkF m 131 #[iv p0, iv p1, iv p2, iv p3, iv p4, rv b1, rv b16, iv (0 : Int32), iv (4 : Int32), iv (4 : Int32), .unset, .unset] [(.int (4 : Int32)), (.int (4 : Int32)), (.int (2 : Int32)), (.ref b1)]))) (fun _ k => XS.ifNo X108.here hx rfl (hb hby at_121) rfl ((if0 _ _).trans (feq (by decide : ¬ ((1 : Int32) = (0 : Int32)))).1) (XS.aload X108.here hx rfl (hb hby at_124) rfl rfl (XS.iconst X108.here hx rfl (hb hby at_126) (XS.iload X108.here hx rfl (hb hby at_127) rfl (XS.iload X108.here hx rfl (hb hby at_129) rfl k))))) ?_
       refine own_stat (W := 0) X108 hx hZ hown eh108 (ow hw 40 rfl) (ow hw 41 rfl) (rmsoA l Z a0 hw [] b1 (2 : Int32) (4 : Int32) (4 : Int32) T18.heap n0 Zs27 (by decide)) (ow hw 42 rfl) (ow hw 3 rfl) rfl (by rw [hml]; rfl) rfl (hb hby at_131) (lenOf pd___CIII_Z rfl) rfl (by decide) (fun T109 v109 Ll109 X109 hQ109 => ?_)
       obtain ⟨rfl, N109q, eh109⟩ := hQ109
       have N109 := Fr.app N108 N109q
       refine own_go (b := (T109.setTop (mkF m 144 #[iv p0, iv p1, iv p2, iv p3, iv p4, rv b1, rv b16, iv (0 : Int32), iv (4 : Int32), iv (4 : Int32), .unset, .unset] [(.int (4 : Int32)), (.int (4 : Int32)), (.int (3 : Int32)), (.ref b1)]))) (fun _ k => XS.ifNo X109.here hx rfl (hb hby at_134) rfl ((if0 _ _).trans (feq (by decide : ¬ ((1 : Int32) = (0 : Int32)))).1) (XS.aload X109.here hx rfl (hb hby at_137) rfl rfl (XS.iconst X109.here hx rfl (hb hby at_139) (XS.iload X109.here hx rfl (hb hby at_140) rfl (XS.iload X109.here hx rfl (hb hby at_142) rfl k))))) ?_
       refine own_stat (W := 0) X109 hx hZ hown eh109 (ow hw 40 rfl) (ow hw 41 rfl) (rmsoA l Z a0 hw [] b1 (3 : Int32) (4 : Int32) (4 : Int32) T18.heap n0 Zs27 (by decide)) (ow hw 42 rfl) (ow hw 3 rfl) rfl (by rw [hml]; rfl) rfl (hb hby at_144) (lenOf pd___CIII_Z rfl) rfl (by decide) (fun T110 v110 Ll110 X110 hQ110 => ?_)
       obtain ⟨rfl, N110q, eh110⟩ := hQ110
       have N110 := Fr.app N109 N110q
       refine own_go (b := (T110.setTop (mkF m 170 #[iv p0, iv p1, iv p2, iv p3, iv p4, rv b1, rv b16, iv (0 : Int32), iv (4 : Int32), iv (4 : Int32), iv (1 : Int32), .unset] [(.int (3 : Int32)), (.ref b1)]))) (fun _ k => XS.ifNo X110.here hx rfl (hb hby at_147) rfl ((if0 _ _).trans (feq (by decide : ¬ ((1 : Int32) = (0 : Int32)))).1) (XS.iconst X110.here hx rfl (hb hby at_150) (XS.goto X110.here hx rfl (pc0 := 151) (pc' := 155) rfl (hb hby at_151) (by decide) (by decide) (XS.istore X110.here hx rfl (hb hby at_155) rfl (l' := #[iv p0, iv p1, iv p2, iv p3, iv p4, rv b1, rv b16, iv (0 : Int32), iv (4 : Int32), iv (4 : Int32), iv (1 : Int32), .unset]) rfl (XS.iload X110.here hx rfl (hb hby at_157) rfl (XS.iload X110.here hx rfl (hb hby at_159) rfl (XS.icmpNo X110.here hx rfl (hb hby at_161) rfl (feq (by decide : ¬ ((4 : Int32) = (0 : Int32)))).1 (XS.aload X110.here hx rfl (hb hby at_164) rfl rfl (XS.iload X110.here hx rfl (hb hby at_166) rfl (XS.iconst X110.here hx rfl (hb hby at_168) (XS.isub X110.here hx rfl (hb hby at_169) rfl k))))))))))) ?_
       have nx112 : b1 ≠ b16 := (own_ne V1.lt (own_tr (own_tr (own_tr (Keep.of_wr W4).1 (Keep.of_wr W8).1) (Keep.of_wr W11).1) (Keep.of_wr W14).1) (Nat.le_of_eq g16.symm))
       have F113 := F26.keep K18 (ninS nx112 nin0)
       obtain ⟨cl111, Ar111, ql111, Sz111, Nn111, Hl111, Gl111⟩ := id F113
       have hin111 : ¬ ((3 : Int32) < 0 ∨ cl111.slots.size ≤ ((3 : Int32)).toNatClampNeg) := inb_of Sz111 ⟨by decide, by decide⟩
       refine own_go (b := (T110.setTop (mkF m 198 #[iv p0, iv p1, iv p2, iv p3, iv p4, rv b1, rv b16, iv (0 : Int32), iv (4 : Int32), iv (4 : Int32), iv (1 : Int32), iv (1 : Int32)] [(.int (1 : Int32))]))) (fun _ k => X110.caload hx (j := (3 : Int32)) (v := (.int (nar .char rc_13))) (by rw [eh110]; exact Ar111.1) (State.isArrayOf_alike hZ.alike Ar111.2.1) Ar111.2.2 hin111 (Hl111.at hin111 rfl) (g := (mkF m 170 #[iv p0, iv p1, iv p2, iv p3, iv p4, rv b1, rv b16, iv (0 : Int32), iv (4 : Int32), iv (4 : Int32), iv (1 : Int32), .unset] [(.int (3 : Int32)), (.ref b1)])) rfl rfl (hb hby at_170) _ (XS.bipush X110.here hx rfl (hb hby at_171) (XS.icmpNo X110.here hx rfl (hb hby at_173) rfl (feq hs3).1 (XS.iconst X110.here hx rfl (hb hby at_176) (XS.goto X110.here hx rfl (pc0 := 177) (pc' := 181) rfl (hb hby at_177) (by decide) (by decide) (XS.istore X110.here hx rfl (hb hby at_181) rfl (l' := #[iv p0, iv p1, iv p2, iv p3, iv p4, rv b1, rv b16, iv (0 : Int32), iv (4 : Int32), iv (4 : Int32), iv (1 : Int32), iv (1 : Int32)]) rfl (XS.iload X110.here hx rfl (hb hby at_183) rfl (XS.ifNo X110.here hx rfl (hb hby at_185) rfl ((if0 _ _).trans (feq (by decide : ¬ ((1 : Int32) = (0 : Int32)))).1) (XS.iload X110.here hx rfl (hb hby at_188) rfl (XS.ifNo X110.here hx rfl (hb hby at_190) rfl ((if0 _ _).trans (feq (by decide : ¬ ((1 : Int32) = (0 : Int32)))).1) (XS.iconst X110.here hx rfl (hb hby at_193) (XS.goto X110.here hx rfl (pc0 := 194) (pc' := 198) rfl (hb hby at_194) (by decide) (by decide) k)))))))))))) ?_
       obtain ⟨fs, hr, hrun, hended, hW, hsame⟩ := X110.leave (v := some (.int (1 : Int32))) (fun h => by rw [Bd.returns] at h; cases h)
       exact ⟨_, _, retN X110 hx (t := .boolean) Bd.returns (by simp) (hb hby at_198) hr, hrun, hended, _, _, rfl, (show Qrm0 Z p0 p1 p2 p3 p4 cs fv h0 n0 _ T110.heap _ from (by rw [eh110]; exact ⟨rfl, N110⟩)), ⟨_, rfl⟩, hW, hsame.mono (by decide) (by decide)⟩
     · skip
       refine own_go (b := (T104.setTop (mkF m 105 #[iv p0, iv p1, iv p2, iv p3, iv p4, rv b1, rv b16, iv (0 : Int32), iv (4 : Int32), iv (3 : Int32), .unset, .unset] [(.int (4 : Int32)), (.int (3 : Int32)), (.int (0 : Int32)), (.ref b1)]))) (fun _ k => XS.istore X104.here hx rfl (hb hby at_80) rfl (l' := #[iv p0, iv p1, iv p2, iv p3, iv p4, rv b1, rv b16, iv (0 : Int32), iv (4 : Int32), iv (3 : Int32), .unset, .unset]) rfl (XS.iload X104.here hx rfl (hb hby at_82) rfl (XS.iload X104.here hx rfl (hb hby at_84) rfl (XS.icmpNo X104.here hx rfl (hb hby at_86) rfl (flt (by decide : ¬ ((3 : Int32) < (0 : Int32)))).1 (XS.iload X104.here hx rfl (hb hby at_89) rfl (XS.iload X104.here hx rfl (hb hby at_91) rfl (XS.icmpYes X104.here hx rfl (pc0 := 93) (pc' := 98) rfl (hb hby at_93) rfl (flt (by decide : ¬ ((4 : Int32) < (3 : Int32)))).2.2.2 (by decide) (by decide) (XS.aload X104.here hx rfl (hb hby at_98) rfl rfl (XS.iconst X104.here hx rfl (hb hby at_100) (XS.iload X104.here hx rfl (hb hby at_101) rfl (XS.iload X104.here hx rfl (hb hby at_103) rfl k))))))))))) ?_
       refine own_stat (W := 0) X104 hx hZ hown eh104 (ow hw 40 rfl) (ow hw 41 rfl) (rmsoA l Z a0 hw [] b1 (0 : Int32) (3 : Int32) (4 : Int32) T18.heap n0 Zs27 (by decide)) (ow hw 42 rfl) (ow hw 3 rfl) rfl (by rw [hml]; rfl) rfl (hb hby at_105) (lenOf pd___CIII_Z rfl) rfl (by decide) (fun T114 v114 Ll114 X114 hQ114 => ?_)
       obtain ⟨rfl, N114q, eh114⟩ := hQ114
       have N114 := Fr.app N104 N114q
       refine own_go (b := (T114.setTop (mkF m 118 #[iv p0, iv p1, iv p2, iv p3, iv p4, rv b1, rv b16, iv (0 : Int32), iv (4 : Int32), iv (3 : Int32), .unset, .unset] [(.int (4 : Int32)), (.int (3 : Int32)), (.int (1 : Int32)), (.ref b1)]))) (fun _ k => XS.ifNo X114.here hx rfl (hb hby at_108) rfl ((if0 _ _).trans (feq (by decide : ¬ ((1 : Int32) = (0 : Int32)))).1) (XS.aload X114.here hx rfl (hb hby at_111) rfl rfl (XS.iconst X114.here hx rfl (hb hby at_113) (XS.iload X114.here hx rfl (hb hby at_114) rfl (XS.iload X114.here hx rfl (hb hby at_116) rfl k))))) ?_
       refine own_stat (W := 0) X114 hx hZ hown eh114 (ow hw 40 rfl) (ow hw 41 rfl) (rmsoA l Z a0 hw [] b1 (1 : Int32) (3 : Int32) (4 : Int32) T18.heap n0 Zs27 (by decide)) (ow hw 42 rfl) (ow hw 3 rfl) rfl (by rw [hml]; rfl) rfl (hb hby at_118) (lenOf pd___CIII_Z rfl) rfl (by decide) (fun T115 v115 Ll115 X115 hQ115 => ?_)
       obtain ⟨rfl, N115q, eh115⟩ := hQ115
       have N115 := Fr.app N114 N115q
       refine own_go (b := (T115.setTop (mkF m 131 #[iv p0, iv p1, iv p2, iv p3, iv p4, rv b1, rv b16, iv (0 : Int32), iv (4 : Int32), iv (3 : Int32), .unset, .unset] [(.int (4 : Int32)), (.int (3 : Int32)), (.int (2 : Int32)), (.ref b1)]))) (fun _ k => XS.ifNo X115.here hx rfl (hb hby at_121) rfl ((if0 _ _).trans (feq (by decide : ¬ ((1 : Int32) = (0 : Int32)))).1) (XS.aload X115.here hx rfl (hb hby at_124) rfl rfl (XS.iconst X115.here hx rfl (hb hby at_126) (XS.iload X115.here hx rfl (hb hby at_127) rfl (XS.iload X115.here hx rfl (hb hby at_129) rfl k))))) ?_
       refine own_stat (W := 0) X115 hx hZ hown eh115 (ow hw 40 rfl) (ow hw 41 rfl) (rmsoA l Z a0 hw [] b1 (2 : Int32) (3 : Int32) (4 : Int32) T18.heap n0 Zs27 (by decide)) (ow hw 42 rfl) (ow hw 3 rfl) rfl (by rw [hml]; rfl) rfl (hb hby at_131) (lenOf pd___CIII_Z rfl) rfl (by decide) (fun T116 v116 Ll116 X116 hQ116 => ?_)
       obtain ⟨rfl, N116q, eh116⟩ := hQ116
       have N116 := Fr.app N115 N116q
       refine own_go (b := (T116.setTop (mkF m 144 #[iv p0, iv p1, iv p2, iv p3, iv p4, rv b1, rv b16, iv (0 : Int32), iv (4 : Int32), iv (3 : Int32), .unset, .unset] [(.int (4 : Int32)), (.int (3 : Int32)), (.int (3 : Int32)), (.ref b1)]))) (fun _ k => XS.ifNo X116.here hx rfl (hb hby at_134) rfl ((if0 _ _).trans (feq (by decide : ¬ ((1 : Int32) = (0 : Int32)))).1) (XS.aload X116.here hx rfl (hb hby at_137) rfl rfl (XS.iconst X116.here hx rfl (hb hby at_139) (XS.iload X116.here hx rfl (hb hby at_140) rfl (XS.iload X116.here hx rfl (hb hby at_142) rfl k))))) ?_
       have nx118 : b1 ≠ b16 := (own_ne V1.lt (own_tr (own_tr (own_tr (Keep.of_wr W4).1 (Keep.of_wr W8).1) (Keep.of_wr W11).1) (Keep.of_wr W14).1) (Nat.le_of_eq g16.symm))
       have F119 := F26.keep K18 (ninS nx118 nin0)
       refine own_stat (W := 0) X116 hx hZ hown eh116 (ow hw 40 rfl) (ow hw 41 rfl) (rmsoC3 l Z a0 hw [] b1 kl1 (nar .char rc_3) (nar .char rc_7) (nar .char rc_10) (nar .char rc_13) (3 : Int32) (4 : Int32) T18.heap n0 Zs27 F119 (by decide) (by decide) hs3) (ow hw 42 rfl) (ow hw 3 rfl) rfl (by rw [hml]; rfl) rfl (hb hby at_144) (lenOf pd___CIII_Z rfl) rfl (by decide) (fun T117 v117 Ll117 X117 hQ117 => ?_)
       obtain ⟨rfl, N117q, eh117⟩ := hQ117
       have N117 := Fr.app N116 N117q
       refine own_go (b := (T117.setTop (mkF m 170 #[iv p0, iv p1, iv p2, iv p3, iv p4, rv b1, rv b16, iv (0 : Int32), iv (4 : Int32), iv (3 : Int32), iv (1 : Int32), .unset] [(.int (2 : Int32)), (.ref b1)]))) (fun _ k => XS.ifNo X117.here hx rfl (hb hby at_147) rfl ((if0 _ _).trans (feq (by decide : ¬ ((1 : Int32) = (0 : Int32)))).1) (XS.iconst X117.here hx rfl (hb hby at_150) (XS.goto X117.here hx rfl (pc0 := 151) (pc' := 155) rfl (hb hby at_151) (by decide) (by decide) (XS.istore X117.here hx rfl (hb hby at_155) rfl (l' := #[iv p0, iv p1, iv p2, iv p3, iv p4, rv b1, rv b16, iv (0 : Int32), iv (4 : Int32), iv (3 : Int32), iv (1 : Int32), .unset]) rfl (XS.iload X117.here hx rfl (hb hby at_157) rfl (XS.iload X117.here hx rfl (hb hby at_159) rfl (XS.icmpNo X117.here hx rfl (hb hby at_161) rfl (feq (by decide : ¬ ((3 : Int32) = (0 : Int32)))).1 (XS.aload X117.here hx rfl (hb hby at_164) rfl rfl (XS.iload X117.here hx rfl (hb hby at_166) rfl (XS.iconst X117.here hx rfl (hb hby at_168) (XS.isub X117.here hx rfl (hb hby at_169) rfl k))))))))))) ?_
       obtain ⟨cl120, Ar120, ql120, Sz120, Nn120, Hl120, Gl120⟩ := id F119
       have hin120 : ¬ ((2 : Int32) < 0 ∨ cl120.slots.size ≤ ((2 : Int32)).toNatClampNeg) := inb_of Sz120 ⟨by decide, by decide⟩
       refine own_go (b := (T117.setTop (mkF m 198 #[iv p0, iv p1, iv p2, iv p3, iv p4, rv b1, rv b16, iv (0 : Int32), iv (4 : Int32), iv (3 : Int32), iv (1 : Int32), iv (1 : Int32)] [(.int (1 : Int32))]))) (fun _ k => X117.caload hx (j := (2 : Int32)) (v := (.int (nar .char rc_10))) (by rw [eh117]; exact Ar120.1) (State.isArrayOf_alike hZ.alike Ar120.2.1) Ar120.2.2 hin120 (Hl120.at hin120 rfl) (g := (mkF m 170 #[iv p0, iv p1, iv p2, iv p3, iv p4, rv b1, rv b16, iv (0 : Int32), iv (4 : Int32), iv (3 : Int32), iv (1 : Int32), .unset] [(.int (2 : Int32)), (.ref b1)])) rfl rfl (hb hby at_170) _ (XS.bipush X117.here hx rfl (hb hby at_171) (XS.icmpNo X117.here hx rfl (hb hby at_173) rfl (feq hs2).1 (XS.iconst X117.here hx rfl (hb hby at_176) (XS.goto X117.here hx rfl (pc0 := 177) (pc' := 181) rfl (hb hby at_177) (by decide) (by decide) (XS.istore X117.here hx rfl (hb hby at_181) rfl (l' := #[iv p0, iv p1, iv p2, iv p3, iv p4, rv b1, rv b16, iv (0 : Int32), iv (4 : Int32), iv (3 : Int32), iv (1 : Int32), iv (1 : Int32)]) rfl (XS.iload X117.here hx rfl (hb hby at_183) rfl (XS.ifNo X117.here hx rfl (hb hby at_185) rfl ((if0 _ _).trans (feq (by decide : ¬ ((1 : Int32) = (0 : Int32)))).1) (XS.iload X117.here hx rfl (hb hby at_188) rfl (XS.ifNo X117.here hx rfl (hb hby at_190) rfl ((if0 _ _).trans (feq (by decide : ¬ ((1 : Int32) = (0 : Int32)))).1) (XS.iconst X117.here hx rfl (hb hby at_193) (XS.goto X117.here hx rfl (pc0 := 194) (pc' := 198) rfl (hb hby at_194) (by decide) (by decide) k)))))))))))) ?_
       obtain ⟨fs, hr, hrun, hended, hW, hsame⟩ := X117.leave (v := some (.int (1 : Int32))) (fun h => by rw [Bd.returns] at h; cases h)
       exact ⟨_, _, retN X117 hx (t := .boolean) Bd.returns (by simp) (hb hby at_198) hr, hrun, hended, _, _, rfl, (show Qrm0 Z p0 p1 p2 p3 p4 cs fv h0 n0 _ T117.heap _ from (by rw [eh117]; exact ⟨rfl, N117⟩)), ⟨_, rfl⟩, hW, hsame.mono (by decide) (by decide)⟩
     · skip
       refine own_go (b := (T104.setTop (mkF m 105 #[iv p0, iv p1, iv p2, iv p3, iv p4, rv b1, rv b16, iv (0 : Int32), iv (4 : Int32), iv (2 : Int32), .unset, .unset] [(.int (4 : Int32)), (.int (2 : Int32)), (.int (0 : Int32)), (.ref b1)]))) (fun _ k => XS.istore X104.here hx rfl (hb hby at_80) rfl (l' := #[iv p0, iv p1, iv p2, iv p3, iv p4, rv b1, rv b16, iv (0 : Int32), iv (4 : Int32), iv (2 : Int32), .unset, .unset]) rfl (XS.iload X104.here hx rfl (hb hby at_82) rfl (XS.iload X104.here hx rfl (hb hby at_84) rfl (XS.icmpNo X104.here hx rfl (hb hby at_86) rfl (flt (by decide : ¬ ((2 : Int32) < (0 : Int32)))).1 (XS.iload X104.here hx rfl (hb hby at_89) rfl (XS.iload X104.here hx rfl (hb hby at_91) rfl (XS.icmpYes X104.here hx rfl (pc0 := 93) (pc' := 98) rfl (hb hby at_93) rfl (flt (by decide : ¬ ((4 : Int32) < (2 : Int32)))).2.2.2 (by decide) (by decide) (XS.aload X104.here hx rfl (hb hby at_98) rfl rfl (XS.iconst X104.here hx rfl (hb hby at_100) (XS.iload X104.here hx rfl (hb hby at_101) rfl (XS.iload X104.here hx rfl (hb hby at_103) rfl k))))))))))) ?_
       refine own_stat (W := 0) X104 hx hZ hown eh104 (ow hw 40 rfl) (ow hw 41 rfl) (rmsoA l Z a0 hw [] b1 (0 : Int32) (2 : Int32) (4 : Int32) T18.heap n0 Zs27 (by decide)) (ow hw 42 rfl) (ow hw 3 rfl) rfl (by rw [hml]; rfl) rfl (hb hby at_105) (lenOf pd___CIII_Z rfl) rfl (by decide) (fun T121 v121 Ll121 X121 hQ121 => ?_)
       obtain ⟨rfl, N121q, eh121⟩ := hQ121
       have N121 := Fr.app N104 N121q
       refine own_go (b := (T121.setTop (mkF m 118 #[iv p0, iv p1, iv p2, iv p3, iv p4, rv b1, rv b16, iv (0 : Int32), iv (4 : Int32), iv (2 : Int32), .unset, .unset] [(.int (4 : Int32)), (.int (2 : Int32)), (.int (1 : Int32)), (.ref b1)]))) (fun _ k => XS.ifNo X121.here hx rfl (hb hby at_108) rfl ((if0 _ _).trans (feq (by decide : ¬ ((1 : Int32) = (0 : Int32)))).1) (XS.aload X121.here hx rfl (hb hby at_111) rfl rfl (XS.iconst X121.here hx rfl (hb hby at_113) (XS.iload X121.here hx rfl (hb hby at_114) rfl (XS.iload X121.here hx rfl (hb hby at_116) rfl k))))) ?_
       refine own_stat (W := 0) X121 hx hZ hown eh121 (ow hw 40 rfl) (ow hw 41 rfl) (rmsoA l Z a0 hw [] b1 (1 : Int32) (2 : Int32) (4 : Int32) T18.heap n0 Zs27 (by decide)) (ow hw 42 rfl) (ow hw 3 rfl) rfl (by rw [hml]; rfl) rfl (hb hby at_118) (lenOf pd___CIII_Z rfl) rfl (by decide) (fun T122 v122 Ll122 X122 hQ122 => ?_)
       obtain ⟨rfl, N122q, eh122⟩ := hQ122
       have N122 := Fr.app N121 N122q
       refine own_go (b := (T122.setTop (mkF m 131 #[iv p0, iv p1, iv p2, iv p3, iv p4, rv b1, rv b16, iv (0 : Int32), iv (4 : Int32), iv (2 : Int32), .unset, .unset] [(.int (4 : Int32)), (.int (2 : Int32)), (.int (2 : Int32)), (.ref b1)]))) (fun _ k => XS.ifNo X122.here hx rfl (hb hby at_121) rfl ((if0 _ _).trans (feq (by decide : ¬ ((1 : Int32) = (0 : Int32)))).1) (XS.aload X122.here hx rfl (hb hby at_124) rfl rfl (XS.iconst X122.here hx rfl (hb hby at_126) (XS.iload X122.here hx rfl (hb hby at_127) rfl (XS.iload X122.here hx rfl (hb hby at_129) rfl k))))) ?_
       have nx124 : b1 ≠ b16 := (own_ne V1.lt (own_tr (own_tr (own_tr (Keep.of_wr W4).1 (Keep.of_wr W8).1) (Keep.of_wr W11).1) (Keep.of_wr W14).1) (Nat.le_of_eq g16.symm))
       have F125 := F26.keep K18 (ninS nx124 nin0)
       refine own_stat (W := 0) X122 hx hZ hown eh122 (ow hw 40 rfl) (ow hw 41 rfl) (rmsoC2 l Z a0 hw [] b1 kl1 (nar .char rc_3) (nar .char rc_7) (nar .char rc_10) (nar .char rc_13) (2 : Int32) (4 : Int32) T18.heap n0 Zs27 F125 (by decide) (by decide) hs2) (ow hw 42 rfl) (ow hw 3 rfl) rfl (by rw [hml]; rfl) rfl (hb hby at_131) (lenOf pd___CIII_Z rfl) rfl (by decide) (fun T123 v123 Ll123 X123 hQ123 => ?_)
       obtain ⟨rfl, N123q, eh123⟩ := hQ123
       have N123 := Fr.app N122 N123q
       refine own_go (b := (T123.setTop (mkF m 144 #[iv p0, iv p1, iv p2, iv p3, iv p4, rv b1, rv b16, iv (0 : Int32), iv (4 : Int32), iv (2 : Int32), .unset, .unset] [(.int (4 : Int32)), (.int (2 : Int32)), (.int (3 : Int32)), (.ref b1)]))) (fun _ k => XS.ifNo X123.here hx rfl (hb hby at_134) rfl ((if0 _ _).trans (feq (by decide : ¬ ((1 : Int32) = (0 : Int32)))).1) (XS.aload X123.here hx rfl (hb hby at_137) rfl rfl (XS.iconst X123.here hx rfl (hb hby at_139) (XS.iload X123.here hx rfl (hb hby at_140) rfl (XS.iload X123.here hx rfl (hb hby at_142) rfl k))))) ?_
       refine own_stat (W := 0) X123 hx hZ hown eh123 (ow hw 40 rfl) (ow hw 41 rfl) (rmsoC3 l Z a0 hw [] b1 kl1 (nar .char rc_3) (nar .char rc_7) (nar .char rc_10) (nar .char rc_13) (2 : Int32) (4 : Int32) T18.heap n0 Zs27 F125 (by decide) (by decide) hs3) (ow hw 42 rfl) (ow hw 3 rfl) rfl (by rw [hml]; rfl) rfl (hb hby at_144) (lenOf pd___CIII_Z rfl) rfl (by decide) (fun T126 v126 Ll126 X126 hQ126 => ?_)
       obtain ⟨rfl, N126q, eh126⟩ := hQ126
       have N126 := Fr.app N123 N126q
       refine own_go (b := (T126.setTop (mkF m 170 #[iv p0, iv p1, iv p2, iv p3, iv p4, rv b1, rv b16, iv (0 : Int32), iv (4 : Int32), iv (2 : Int32), iv (1 : Int32), .unset] [(.int (1 : Int32)), (.ref b1)]))) (fun _ k => XS.ifNo X126.here hx rfl (hb hby at_147) rfl ((if0 _ _).trans (feq (by decide : ¬ ((1 : Int32) = (0 : Int32)))).1) (XS.iconst X126.here hx rfl (hb hby at_150) (XS.goto X126.here hx rfl (pc0 := 151) (pc' := 155) rfl (hb hby at_151) (by decide) (by decide) (XS.istore X126.here hx rfl (hb hby at_155) rfl (l' := #[iv p0, iv p1, iv p2, iv p3, iv p4, rv b1, rv b16, iv (0 : Int32), iv (4 : Int32), iv (2 : Int32), iv (1 : Int32), .unset]) rfl (XS.iload X126.here hx rfl (hb hby at_157) rfl (XS.iload X126.here hx rfl (hb hby at_159) rfl (XS.icmpNo X126.here hx rfl (hb hby at_161) rfl (feq (by decide : ¬ ((2 : Int32) = (0 : Int32)))).1 (XS.aload X126.here hx rfl (hb hby at_164) rfl rfl (XS.iload X126.here hx rfl (hb hby at_166) rfl (XS.iconst X126.here hx rfl (hb hby at_168) (XS.isub X126.here hx rfl (hb hby at_169) rfl k))))))))))) ?_
       obtain ⟨cl127, Ar127, ql127, Sz127, Nn127, Hl127, Gl127⟩ := id F125
       have hin127 : ¬ ((1 : Int32) < 0 ∨ cl127.slots.size ≤ ((1 : Int32)).toNatClampNeg) := inb_of Sz127 ⟨by decide, by decide⟩
       refine own_go (b := (T126.setTop (mkF m 198 #[iv p0, iv p1, iv p2, iv p3, iv p4, rv b1, rv b16, iv (0 : Int32), iv (4 : Int32), iv (2 : Int32), iv (1 : Int32), iv (1 : Int32)] [(.int (1 : Int32))]))) (fun _ k => X126.caload hx (j := (1 : Int32)) (v := (.int (nar .char rc_7))) (by rw [eh126]; exact Ar127.1) (State.isArrayOf_alike hZ.alike Ar127.2.1) Ar127.2.2 hin127 (Hl127.at hin127 rfl) (g := (mkF m 170 #[iv p0, iv p1, iv p2, iv p3, iv p4, rv b1, rv b16, iv (0 : Int32), iv (4 : Int32), iv (2 : Int32), iv (1 : Int32), .unset] [(.int (1 : Int32)), (.ref b1)])) rfl rfl (hb hby at_170) _ (XS.bipush X126.here hx rfl (hb hby at_171) (XS.icmpNo X126.here hx rfl (hb hby at_173) rfl (feq hs1).1 (XS.iconst X126.here hx rfl (hb hby at_176) (XS.goto X126.here hx rfl (pc0 := 177) (pc' := 181) rfl (hb hby at_177) (by decide) (by decide) (XS.istore X126.here hx rfl (hb hby at_181) rfl (l' := #[iv p0, iv p1, iv p2, iv p3, iv p4, rv b1, rv b16, iv (0 : Int32), iv (4 : Int32), iv (2 : Int32), iv (1 : Int32), iv (1 : Int32)]) rfl (XS.iload X126.here hx rfl (hb hby at_183) rfl (XS.ifNo X126.here hx rfl (hb hby at_185) rfl ((if0 _ _).trans (feq (by decide : ¬ ((1 : Int32) = (0 : Int32)))).1) (XS.iload X126.here hx rfl (hb hby at_188) rfl (XS.ifNo X126.here hx rfl (hb hby at_190) rfl ((if0 _ _).trans (feq (by decide : ¬ ((1 : Int32) = (0 : Int32)))).1) (XS.iconst X126.here hx rfl (hb hby at_193) (XS.goto X126.here hx rfl (pc0 := 194) (pc' := 198) rfl (hb hby at_194) (by decide) (by decide) k)))))))))))) ?_
       obtain ⟨fs, hr, hrun, hended, hW, hsame⟩ := X126.leave (v := some (.int (1 : Int32))) (fun h => by rw [Bd.returns] at h; cases h)
       exact ⟨_, _, retN X126 hx (t := .boolean) Bd.returns (by simp) (hb hby at_198) hr, hrun, hended, _, _, rfl, (show Qrm0 Z p0 p1 p2 p3 p4 cs fv h0 n0 _ T126.heap _ from (by rw [eh126]; exact ⟨rfl, N126⟩)), ⟨_, rfl⟩, hW, hsame.mono (by decide) (by decide)⟩
     · skip
       refine own_go (b := (T104.setTop (mkF m 105 #[iv p0, iv p1, iv p2, iv p3, iv p4, rv b1, rv b16, iv (0 : Int32), iv (4 : Int32), iv (1 : Int32), .unset, .unset] [(.int (4 : Int32)), (.int (1 : Int32)), (.int (0 : Int32)), (.ref b1)]))) (fun _ k => XS.istore X104.here hx rfl (hb hby at_80) rfl (l' := #[iv p0, iv p1, iv p2, iv p3, iv p4, rv b1, rv b16, iv (0 : Int32), iv (4 : Int32), iv (1 : Int32), .unset, .unset]) rfl (XS.iload X104.here hx rfl (hb hby at_82) rfl (XS.iload X104.here hx rfl (hb hby at_84) rfl (XS.icmpNo X104.here hx rfl (hb hby at_86) rfl (flt (by decide : ¬ ((1 : Int32) < (0 : Int32)))).1 (XS.iload X104.here hx rfl (hb hby at_89) rfl (XS.iload X104.here hx rfl (hb hby at_91) rfl (XS.icmpYes X104.here hx rfl (pc0 := 93) (pc' := 98) rfl (hb hby at_93) rfl (flt (by decide : ¬ ((4 : Int32) < (1 : Int32)))).2.2.2 (by decide) (by decide) (XS.aload X104.here hx rfl (hb hby at_98) rfl rfl (XS.iconst X104.here hx rfl (hb hby at_100) (XS.iload X104.here hx rfl (hb hby at_101) rfl (XS.iload X104.here hx rfl (hb hby at_103) rfl k))))))))))) ?_
       refine own_stat (W := 0) X104 hx hZ hown eh104 (ow hw 40 rfl) (ow hw 41 rfl) (rmsoA l Z a0 hw [] b1 (0 : Int32) (1 : Int32) (4 : Int32) T18.heap n0 Zs27 (by decide)) (ow hw 42 rfl) (ow hw 3 rfl) rfl (by rw [hml]; rfl) rfl (hb hby at_105) (lenOf pd___CIII_Z rfl) rfl (by decide) (fun T128 v128 Ll128 X128 hQ128 => ?_)
       obtain ⟨rfl, N128q, eh128⟩ := hQ128
       have N128 := Fr.app N104 N128q
       refine own_go (b := (T128.setTop (mkF m 118 #[iv p0, iv p1, iv p2, iv p3, iv p4, rv b1, rv b16, iv (0 : Int32), iv (4 : Int32), iv (1 : Int32), .unset, .unset] [(.int (4 : Int32)), (.int (1 : Int32)), (.int (1 : Int32)), (.ref b1)]))) (fun _ k => XS.ifNo X128.here hx rfl (hb hby at_108) rfl ((if0 _ _).trans (feq (by decide : ¬ ((1 : Int32) = (0 : Int32)))).1) (XS.aload X128.here hx rfl (hb hby at_111) rfl rfl (XS.iconst X128.here hx rfl (hb hby at_113) (XS.iload X128.here hx rfl (hb hby at_114) rfl (XS.iload X128.here hx rfl (hb hby at_116) rfl k))))) ?_
       have nx130 : b1 ≠ b16 := (own_ne V1.lt (own_tr (own_tr (own_tr (Keep.of_wr W4).1 (Keep.of_wr W8).1) (Keep.of_wr W11).1) (Keep.of_wr W14).1) (Nat.le_of_eq g16.symm))
       have F131 := F26.keep K18 (ninS nx130 nin0)
       refine own_stat (W := 0) X128 hx hZ hown eh128 (ow hw 40 rfl) (ow hw 41 rfl) (rmsoC1 l Z a0 hw [] b1 kl1 (nar .char rc_3) (nar .char rc_7) (nar .char rc_10) (nar .char rc_13) (1 : Int32) (4 : Int32) T18.heap n0 Zs27 F131 (by decide) (by decide) hs1) (ow hw 42 rfl) (ow hw 3 rfl) rfl (by rw [hml]; rfl) rfl (hb hby at_118) (lenOf pd___CIII_Z rfl) rfl (by decide) (fun T129 v129 Ll129 X129 hQ129 => ?_)
       obtain ⟨rfl, N129q, eh129⟩ := hQ129
       have N129 := Fr.app N128 N129q
       refine own_go (b := (T129.setTop (mkF m 131 #[iv p0, iv p1, iv p2, iv p3, iv p4, rv b1, rv b16, iv (0 : Int32), iv (4 : Int32), iv (1 : Int32), .unset, .unset] [(.int (4 : Int32)), (.int (1 : Int32)), (.int (2 : Int32)), (.ref b1)]))) (fun _ k => XS.ifNo X129.here hx rfl (hb hby at_121) rfl ((if0 _ _).trans (feq (by decide : ¬ ((1 : Int32) = (0 : Int32)))).1) (XS.aload X129.here hx rfl (hb hby at_124) rfl rfl (XS.iconst X129.here hx rfl (hb hby at_126) (XS.iload X129.here hx rfl (hb hby at_127) rfl (XS.iload X129.here hx rfl (hb hby at_129) rfl k))))) ?_
       refine own_stat (W := 0) X129 hx hZ hown eh129 (ow hw 40 rfl) (ow hw 41 rfl) (rmsoC2 l Z a0 hw [] b1 kl1 (nar .char rc_3) (nar .char rc_7) (nar .char rc_10) (nar .char rc_13) (1 : Int32) (4 : Int32) T18.heap n0 Zs27 F131 (by decide) (by decide) hs2) (ow hw 42 rfl) (ow hw 3 rfl) rfl (by rw [hml]; rfl) rfl (hb hby at_131) (lenOf pd___CIII_Z rfl) rfl (by decide) (fun T132 v132 Ll132 X132 hQ132 => ?_)
       obtain ⟨rfl, N132q, eh132⟩ := hQ132
       have N132 := Fr.app N129 N132q
       refine own_go (b := (T132.setTop (mkF m 144 #[iv p0, iv p1, iv p2, iv p3, iv p4, rv b1, rv b16, iv (0 : Int32), iv (4 : Int32), iv (1 : Int32), .unset, .unset] [(.int (4 : Int32)), (.int (1 : Int32)), (.int (3 : Int32)), (.ref b1)]))) (fun _ k => XS.ifNo X132.here hx rfl (hb hby at_134) rfl ((if0 _ _).trans (feq (by decide : ¬ ((1 : Int32) = (0 : Int32)))).1) (XS.aload X132.here hx rfl (hb hby at_137) rfl rfl (XS.iconst X132.here hx rfl (hb hby at_139) (XS.iload X132.here hx rfl (hb hby at_140) rfl (XS.iload X132.here hx rfl (hb hby at_142) rfl k))))) ?_
       refine own_stat (W := 0) X132 hx hZ hown eh132 (ow hw 40 rfl) (ow hw 41 rfl) (rmsoC3 l Z a0 hw [] b1 kl1 (nar .char rc_3) (nar .char rc_7) (nar .char rc_10) (nar .char rc_13) (1 : Int32) (4 : Int32) T18.heap n0 Zs27 F131 (by decide) (by decide) hs3) (ow hw 42 rfl) (ow hw 3 rfl) rfl (by rw [hml]; rfl) rfl (hb hby at_144) (lenOf pd___CIII_Z rfl) rfl (by decide) (fun T133 v133 Ll133 X133 hQ133 => ?_)
       obtain ⟨rfl, N133q, eh133⟩ := hQ133
       have N133 := Fr.app N132 N133q
       refine own_go (b := (T133.setTop (mkF m 170 #[iv p0, iv p1, iv p2, iv p3, iv p4, rv b1, rv b16, iv (0 : Int32), iv (4 : Int32), iv (1 : Int32), iv (1 : Int32), .unset] [(.int (0 : Int32)), (.ref b1)]))) (fun _ k => XS.ifNo X133.here hx rfl (hb hby at_147) rfl ((if0 _ _).trans (feq (by decide : ¬ ((1 : Int32) = (0 : Int32)))).1) (XS.iconst X133.here hx rfl (hb hby at_150) (XS.goto X133.here hx rfl (pc0 := 151) (pc' := 155) rfl (hb hby at_151) (by decide) (by decide) (XS.istore X133.here hx rfl (hb hby at_155) rfl (l' := #[iv p0, iv p1, iv p2, iv p3, iv p4, rv b1, rv b16, iv (0 : Int32), iv (4 : Int32), iv (1 : Int32), iv (1 : Int32), .unset]) rfl (XS.iload X133.here hx rfl (hb hby at_157) rfl (XS.iload X133.here hx rfl (hb hby at_159) rfl (XS.icmpNo X133.here hx rfl (hb hby at_161) rfl (feq (by decide : ¬ ((1 : Int32) = (0 : Int32)))).1 (XS.aload X133.here hx rfl (hb hby at_164) rfl rfl (XS.iload X133.here hx rfl (hb hby at_166) rfl (XS.iconst X133.here hx rfl (hb hby at_168) (XS.isub X133.here hx rfl (hb hby at_169) rfl k))))))))))) ?_
       obtain ⟨cl134, Ar134, ql134, Sz134, Nn134, Hl134, Gl134⟩ := id F131
       have hin134 : ¬ ((0 : Int32) < 0 ∨ cl134.slots.size ≤ ((0 : Int32)).toNatClampNeg) := inb_of Sz134 ⟨by decide, by decide⟩
       refine own_go (b := (T133.setTop (mkF m 198 #[iv p0, iv p1, iv p2, iv p3, iv p4, rv b1, rv b16, iv (0 : Int32), iv (4 : Int32), iv (1 : Int32), iv (1 : Int32), iv (1 : Int32)] [(.int (1 : Int32))]))) (fun _ k => X133.caload hx (j := (0 : Int32)) (v := (.int (nar .char rc_3))) (by rw [eh133]; exact Ar134.1) (State.isArrayOf_alike hZ.alike Ar134.2.1) Ar134.2.2 hin134 (Hl134.at hin134 rfl) (g := (mkF m 170 #[iv p0, iv p1, iv p2, iv p3, iv p4, rv b1, rv b16, iv (0 : Int32), iv (4 : Int32), iv (1 : Int32), iv (1 : Int32), .unset] [(.int (0 : Int32)), (.ref b1)])) rfl rfl (hb hby at_170) _ (XS.bipush X133.here hx rfl (hb hby at_171) (XS.icmpNo X133.here hx rfl (hb hby at_173) rfl (feq hs0).1 (XS.iconst X133.here hx rfl (hb hby at_176) (XS.goto X133.here hx rfl (pc0 := 177) (pc' := 181) rfl (hb hby at_177) (by decide) (by decide) (XS.istore X133.here hx rfl (hb hby at_181) rfl (l' := #[iv p0, iv p1, iv p2, iv p3, iv p4, rv b1, rv b16, iv (0 : Int32), iv (4 : Int32), iv (1 : Int32), iv (1 : Int32), iv (1 : Int32)]) rfl (XS.iload X133.here hx rfl (hb hby at_183) rfl (XS.ifNo X133.here hx rfl (hb hby at_185) rfl ((if0 _ _).trans (feq (by decide : ¬ ((1 : Int32) = (0 : Int32)))).1) (XS.iload X133.here hx rfl (hb hby at_188) rfl (XS.ifNo X133.here hx rfl (hb hby at_190) rfl ((if0 _ _).trans (feq (by decide : ¬ ((1 : Int32) = (0 : Int32)))).1) (XS.iconst X133.here hx rfl (hb hby at_193) (XS.goto X133.here hx rfl (pc0 := 194) (pc' := 198) rfl (hb hby at_194) (by decide) (by decide) k)))))))))))) ?_
       obtain ⟨fs, hr, hrun, hended, hW, hsame⟩ := X133.leave (v := some (.int (1 : Int32))) (fun h => by rw [Bd.returns] at h; cases h)
       exact ⟨_, _, retN X133 hx (t := .boolean) Bd.returns (by simp) (hb hby at_198) hr, hrun, hended, _, _, rfl, (show Qrm0 Z p0 p1 p2 p3 p4 cs fv h0 n0 _ T133.heap _ from (by rw [eh133]; exact ⟨rfl, N133⟩)), ⟨_, rfl⟩, hW, hsame.mono (by decide) (by decide)⟩
     · skip
       refine own_go (b := (T104.setTop (mkF m 105 #[iv p0, iv p1, iv p2, iv p3, iv p4, rv b1, rv b16, iv (0 : Int32), iv (4 : Int32), iv (0 : Int32), .unset, .unset] [(.int (4 : Int32)), (.int (0 : Int32)), (.int (0 : Int32)), (.ref b1)]))) (fun _ k => XS.istore X104.here hx rfl (hb hby at_80) rfl (l' := #[iv p0, iv p1, iv p2, iv p3, iv p4, rv b1, rv b16, iv (0 : Int32), iv (4 : Int32), iv (0 : Int32), .unset, .unset]) rfl (XS.iload X104.here hx rfl (hb hby at_82) rfl (XS.iload X104.here hx rfl (hb hby at_84) rfl (XS.icmpNo X104.here hx rfl (hb hby at_86) rfl (flt (by decide : ¬ ((0 : Int32) < (0 : Int32)))).1 (XS.iload X104.here hx rfl (hb hby at_89) rfl (XS.iload X104.here hx rfl (hb hby at_91) rfl (XS.icmpYes X104.here hx rfl (pc0 := 93) (pc' := 98) rfl (hb hby at_93) rfl (flt (by decide : ¬ ((4 : Int32) < (0 : Int32)))).2.2.2 (by decide) (by decide) (XS.aload X104.here hx rfl (hb hby at_98) rfl rfl (XS.iconst X104.here hx rfl (hb hby at_100) (XS.iload X104.here hx rfl (hb hby at_101) rfl (XS.iload X104.here hx rfl (hb hby at_103) rfl k))))))))))) ?_
       have nx136 : b1 ≠ b16 := (own_ne V1.lt (own_tr (own_tr (own_tr (Keep.of_wr W4).1 (Keep.of_wr W8).1) (Keep.of_wr W11).1) (Keep.of_wr W14).1) (Nat.le_of_eq g16.symm))
       have F137 := F26.keep K18 (ninS nx136 nin0)
       refine own_stat (W := 0) X104 hx hZ hown eh104 (ow hw 40 rfl) (ow hw 41 rfl) (rmsoC0 l Z a0 hw [] b1 kl1 (nar .char rc_3) (nar .char rc_7) (nar .char rc_10) (nar .char rc_13) (0 : Int32) (4 : Int32) T18.heap n0 Zs27 F137 (by decide : ¬ ((0 : Int32) < (0 : Int32))) (by decide) hs0) (ow hw 42 rfl) (ow hw 3 rfl) rfl (by rw [hml]; rfl) rfl (hb hby at_105) (lenOf pd___CIII_Z rfl) rfl (by decide) (fun T135 v135 Ll135 X135 hQ135 => ?_)
       obtain ⟨rfl, N135q, eh135⟩ := hQ135
       have N135 := Fr.app N104 N135q
       refine own_go (b := (T135.setTop (mkF m 118 #[iv p0, iv p1, iv p2, iv p3, iv p4, rv b1, rv b16, iv (0 : Int32), iv (4 : Int32), iv (0 : Int32), .unset, .unset] [(.int (4 : Int32)), (.int (0 : Int32)), (.int (1 : Int32)), (.ref b1)]))) (fun _ k => XS.ifNo X135.here hx rfl (hb hby at_108) rfl ((if0 _ _).trans (feq (by decide : ¬ ((1 : Int32) = (0 : Int32)))).1) (XS.aload X135.here hx rfl (hb hby at_111) rfl rfl (XS.iconst X135.here hx rfl (hb hby at_113) (XS.iload X135.here hx rfl (hb hby at_114) rfl (XS.iload X135.here hx rfl (hb hby at_116) rfl k))))) ?_
       refine own_stat (W := 0) X135 hx hZ hown eh135 (ow hw 40 rfl) (ow hw 41 rfl) (rmsoC1 l Z a0 hw [] b1 kl1 (nar .char rc_3) (nar .char rc_7) (nar .char rc_10) (nar .char rc_13) (0 : Int32) (4 : Int32) T18.heap n0 Zs27 F137 (by decide) (by decide) hs1) (ow hw 42 rfl) (ow hw 3 rfl) rfl (by rw [hml]; rfl) rfl (hb hby at_118) (lenOf pd___CIII_Z rfl) rfl (by decide) (fun T138 v138 Ll138 X138 hQ138 => ?_)
       obtain ⟨rfl, N138q, eh138⟩ := hQ138
       have N138 := Fr.app N135 N138q
       refine own_go (b := (T138.setTop (mkF m 131 #[iv p0, iv p1, iv p2, iv p3, iv p4, rv b1, rv b16, iv (0 : Int32), iv (4 : Int32), iv (0 : Int32), .unset, .unset] [(.int (4 : Int32)), (.int (0 : Int32)), (.int (2 : Int32)), (.ref b1)]))) (fun _ k => XS.ifNo X138.here hx rfl (hb hby at_121) rfl ((if0 _ _).trans (feq (by decide : ¬ ((1 : Int32) = (0 : Int32)))).1) (XS.aload X138.here hx rfl (hb hby at_124) rfl rfl (XS.iconst X138.here hx rfl (hb hby at_126) (XS.iload X138.here hx rfl (hb hby at_127) rfl (XS.iload X138.here hx rfl (hb hby at_129) rfl k))))) ?_
       refine own_stat (W := 0) X138 hx hZ hown eh138 (ow hw 40 rfl) (ow hw 41 rfl) (rmsoC2 l Z a0 hw [] b1 kl1 (nar .char rc_3) (nar .char rc_7) (nar .char rc_10) (nar .char rc_13) (0 : Int32) (4 : Int32) T18.heap n0 Zs27 F137 (by decide) (by decide) hs2) (ow hw 42 rfl) (ow hw 3 rfl) rfl (by rw [hml]; rfl) rfl (hb hby at_131) (lenOf pd___CIII_Z rfl) rfl (by decide) (fun T139 v139 Ll139 X139 hQ139 => ?_)
       obtain ⟨rfl, N139q, eh139⟩ := hQ139
       have N139 := Fr.app N138 N139q
       refine own_go (b := (T139.setTop (mkF m 144 #[iv p0, iv p1, iv p2, iv p3, iv p4, rv b1, rv b16, iv (0 : Int32), iv (4 : Int32), iv (0 : Int32), .unset, .unset] [(.int (4 : Int32)), (.int (0 : Int32)), (.int (3 : Int32)), (.ref b1)]))) (fun _ k => XS.ifNo X139.here hx rfl (hb hby at_134) rfl ((if0 _ _).trans (feq (by decide : ¬ ((1 : Int32) = (0 : Int32)))).1) (XS.aload X139.here hx rfl (hb hby at_137) rfl rfl (XS.iconst X139.here hx rfl (hb hby at_139) (XS.iload X139.here hx rfl (hb hby at_140) rfl (XS.iload X139.here hx rfl (hb hby at_142) rfl k))))) ?_
       refine own_stat (W := 0) X139 hx hZ hown eh139 (ow hw 40 rfl) (ow hw 41 rfl) (rmsoC3 l Z a0 hw [] b1 kl1 (nar .char rc_3) (nar .char rc_7) (nar .char rc_10) (nar .char rc_13) (0 : Int32) (4 : Int32) T18.heap n0 Zs27 F137 (by decide) (by decide) hs3) (ow hw 42 rfl) (ow hw 3 rfl) rfl (by rw [hml]; rfl) rfl (hb hby at_144) (lenOf pd___CIII_Z rfl) rfl (by decide) (fun T140 v140 Ll140 X140 hQ140 => ?_)
       obtain ⟨rfl, N140q, eh140⟩ := hQ140
       have N140 := Fr.app N139 N140q
       refine own_go (b := (T140.setTop (mkF m 198 #[iv p0, iv p1, iv p2, iv p3, iv p4, rv b1, rv b16, iv (0 : Int32), iv (4 : Int32), iv (0 : Int32), iv (1 : Int32), iv (1 : Int32)] [(.int (1 : Int32))]))) (fun _ k => XS.ifNo X140.here hx rfl (hb hby at_147) rfl ((if0 _ _).trans (feq (by decide : ¬ ((1 : Int32) = (0 : Int32)))).1) (XS.iconst X140.here hx rfl (hb hby at_150) (XS.goto X140.here hx rfl (pc0 := 151) (pc' := 155) rfl (hb hby at_151) (by decide) (by decide) (XS.istore X140.here hx rfl (hb hby at_155) rfl (l' := #[iv p0, iv p1, iv p2, iv p3, iv p4, rv b1, rv b16, iv (0 : Int32), iv (4 : Int32), iv (0 : Int32), iv (1 : Int32), .unset]) rfl (XS.iload X140.here hx rfl (hb hby at_157) rfl (XS.iload X140.here hx rfl (hb hby at_159) rfl (XS.icmpYes X140.here hx rfl (pc0 := 161) (pc' := 176) rfl (hb hby at_161) rfl (teq (rfl : (0 : Int32) = (0 : Int32))).1 (by decide) (by decide) (XS.iconst X140.here hx rfl (hb hby at_176) (XS.goto X140.here hx rfl (pc0 := 177) (pc' := 181) rfl (hb hby at_177) (by decide) (by decide) (XS.istore X140.here hx rfl (hb hby at_181) rfl (l' := #[iv p0, iv p1, iv p2, iv p3, iv p4, rv b1, rv b16, iv (0 : Int32), iv (4 : Int32), iv (0 : Int32), iv (1 : Int32), iv (1 : Int32)]) rfl (XS.iload X140.here hx rfl (hb hby at_183) rfl (XS.ifNo X140.here hx rfl (hb hby at_185) rfl ((if0 _ _).trans (feq (by decide : ¬ ((1 : Int32) = (0 : Int32)))).1) (XS.iload X140.here hx rfl (hb hby at_188) rfl (XS.ifNo X140.here hx rfl (hb hby at_190) rfl ((if0 _ _).trans (feq (by decide : ¬ ((1 : Int32) = (0 : Int32)))).1) (XS.iconst X140.here hx rfl (hb hby at_193) (XS.goto X140.here hx rfl (pc0 := 194) (pc' := 198) rfl (hb hby at_194) (by decide) (by decide) k)))))))))))))))) ?_
       obtain ⟨fs, hr, hrun, hended, hW, hsame⟩ := X140.leave (v := some (.int (1 : Int32))) (fun h => by rw [Bd.returns] at h; cases h)
       exact ⟨_, _, retN X140 hx (t := .boolean) Bd.returns (by simp) (hb hby at_198) hr, hrun, hended, _, _, rfl, (show Qrm0 Z p0 p1 p2 p3 p4 cs fv h0 n0 _ T140.heap _ from (by rw [eh140]; exact ⟨rfl, N140⟩)), ⟨_, rfl⟩, hW, hsame.mono (by decide) (by decide)⟩
 · rw [hk]
   refine own_go (b := (T18.setTop (mkF m 68 #[iv p0, iv p1, iv p2, iv p3, iv p4, rv b1, rv b16, iv (1 : Int32), .unset, .unset, .unset, .unset] [(.int (((p4.toUInt32 >>> ((3 : Int32) &&& 31).toUInt32).toInt32) % (4 : Int32))), (.int (1 : Int32))]))) (fun _ k => XS.istore X18.here hx rfl (hb hby at_55) rfl (l' := #[iv p0, iv p1, iv p2, iv p3, iv p4, rv b1, rv b16, iv (1 : Int32), .unset, .unset, .unset, .unset]) rfl (XS.iload X18.here hx rfl (hb hby at_57) rfl (XS.iload X18.here hx rfl (hb hby at_59) rfl (XS.iconst X18.here hx rfl (hb hby at_61) (XS.iushr X18.here hx rfl (hb hby at_62) rfl (XS.iconst X18.here hx rfl (hb hby at_63) (XS.iload X18.here hx rfl (hb hby at_64) rfl (XS.isub X18.here hx rfl (hb hby at_66) rfl (iremM (g := (mkF m 67 #[iv p0, iv p1, iv p2, iv p3, iv p4, rv b1, rv b16, iv (1 : Int32), .unset, .unset, .unset, .unset] [(.int (4 : Int32)), (.int ((p4.toUInt32 >>> ((3 : Int32) &&& 31).toUInt32).toInt32)), (.int (1 : Int32))])) X18 hx rfl (hb hby at_67) rfl (by decide) k))))))))) ?_
   rcases own_mod4 _ (own_u3 p4) with hl | hl | hl | hl
   · rw [hl]
     refine own_go (b := (T18.setTop (mkF m 77 #[iv p0, iv p1, iv p2, iv p3, iv p4, rv b1, rv b16, iv (1 : Int32), iv (1 : Int32), .unset, .unset, .unset] [(.int (1 : Int32)), (.int (1 : Int32)), (.ref b16)]))) (fun _ k => XS.iadd X18.here hx rfl (hb hby at_68) rfl (XS.istore X18.here hx rfl (hb hby at_69) rfl (l' := #[iv p0, iv p1, iv p2, iv p3, iv p4, rv b1, rv b16, iv (1 : Int32), iv (1 : Int32), .unset, .unset, .unset]) rfl (XS.aload X18.here hx rfl (hb hby at_71) rfl rfl (XS.iload X18.here hx rfl (hb hby at_73) rfl (XS.iload X18.here hx rfl (hb hby at_75) rfl k))))) ?_
     have O142 := O24.keep K18 (allS gx25 all0)
     have F143 := A16.keep K18
     refine own_stat (W := 0) X18 hx hZ hown rfl (ow hw 36 rfl) (ow hw 37 rfl) (rmts1_1 l Z a0 hw [] b16 (nar .char rc_3) (nar .char rc_7) (nar .char rc_10) (nar .char rc_13) cs fv T18.heap n0 Zs27 O142 S_COMPACT_STRINGS hcs S__assertionsDisabled S_HI_BYTE_SHIFT S_LO_BYTE_SHIFT S_SIOOBE_FORMATTER hfv F143 P18_0) (ow hw 39 rfl) (ow hw 38 rfl) rfl (by rw [hml]; rfl) rfl (hb hby at_77) (lenOf pd__Ljava_lang_String_II_I rfl) rfl (by decide) (fun T141 v141 Ll141 X141 hQ141 => ?_)
     obtain ⟨r_141, rfl, N141q, eh141, P141_0⟩ := hQ141
     have N141 := Fr.app N18 N141q
     obtain rfl := P141_0
     refine own_go (b := (T141.setTop (mkF m 105 #[iv p0, iv p1, iv p2, iv p3, iv p4, rv b1, rv b16, iv (1 : Int32), iv (1 : Int32), iv (1 : Int32), .unset, .unset] [(.int (1 : Int32)), (.int (1 : Int32)), (.int (0 : Int32)), (.ref b1)]))) (fun _ k => XS.istore X141.here hx rfl (hb hby at_80) rfl (l' := #[iv p0, iv p1, iv p2, iv p3, iv p4, rv b1, rv b16, iv (1 : Int32), iv (1 : Int32), iv (1 : Int32), .unset, .unset]) rfl (XS.iload X141.here hx rfl (hb hby at_82) rfl (XS.iload X141.here hx rfl (hb hby at_84) rfl (XS.icmpNo X141.here hx rfl (hb hby at_86) rfl (flt (by decide : ¬ ((1 : Int32) < (1 : Int32)))).1 (XS.iload X141.here hx rfl (hb hby at_89) rfl (XS.iload X141.here hx rfl (hb hby at_91) rfl (XS.icmpYes X141.here hx rfl (pc0 := 93) (pc' := 98) rfl (hb hby at_93) rfl (flt (by decide : ¬ ((1 : Int32) < (1 : Int32)))).2.2.2 (by decide) (by decide) (XS.aload X141.here hx rfl (hb hby at_98) rfl rfl (XS.iconst X141.here hx rfl (hb hby at_100) (XS.iload X141.here hx rfl (hb hby at_101) rfl (XS.iload X141.here hx rfl (hb hby at_103) rfl k))))))))))) ?_
     refine own_stat (W := 0) X141 hx hZ hown eh141 (ow hw 40 rfl) (ow hw 41 rfl) (rmsoA l Z a0 hw [] b1 (0 : Int32) (1 : Int32) (1 : Int32) T18.heap n0 Zs27 (by decide)) (ow hw 42 rfl) (ow hw 3 rfl) rfl (by rw [hml]; rfl) rfl (hb hby at_105) (lenOf pd___CIII_Z rfl) rfl (by decide) (fun T144 v144 Ll144 X144 hQ144 => ?_)
     obtain ⟨rfl, N144q, eh144⟩ := hQ144
     have N144 := Fr.app N141 N144q
     refine own_go (b := (T144.setTop (mkF m 118 #[iv p0, iv p1, iv p2, iv p3, iv p4, rv b1, rv b16, iv (1 : Int32), iv (1 : Int32), iv (1 : Int32), .unset, .unset] [(.int (1 : Int32)), (.int (1 : Int32)), (.int (1 : Int32)), (.ref b1)]))) (fun _ k => XS.ifNo X144.here hx rfl (hb hby at_108) rfl ((if0 _ _).trans (feq (by decide : ¬ ((1 : Int32) = (0 : Int32)))).1) (XS.aload X144.here hx rfl (hb hby at_111) rfl rfl (XS.iconst X144.here hx rfl (hb hby at_113) (XS.iload X144.here hx rfl (hb hby at_114) rfl (XS.iload X144.here hx rfl (hb hby at_116) rfl k))))) ?_
     refine own_stat (W := 0) X144 hx hZ hown eh144 (ow hw 40 rfl) (ow hw 41 rfl) (rmsoB l Z a0 hw [] b1 (1 : Int32) (1 : Int32) (1 : Int32) T18.heap n0 Zs27 (by decide : ¬ ((1 : Int32) < (1 : Int32))) (by decide : ¬ ((1 : Int32) < (1 : Int32)))) (ow hw 42 rfl) (ow hw 3 rfl) rfl (by rw [hml]; rfl) rfl (hb hby at_118) (lenOf pd___CIII_Z rfl) rfl (by decide) (fun T145 v145 Ll145 X145 hQ145 => ?_)
     obtain ⟨rfl, N145q, eh145⟩ := hQ145
     have N145 := Fr.app N144 N145q
     refine own_go (b := (T145.setTop (mkF m 131 #[iv p0, iv p1, iv p2, iv p3, iv p4, rv b1, rv b16, iv (1 : Int32), iv (1 : Int32), iv (1 : Int32), .unset, .unset] [(.int (1 : Int32)), (.int (1 : Int32)), (.int (2 : Int32)), (.ref b1)]))) (fun _ k => XS.ifNo X145.here hx rfl (hb hby at_121) rfl ((if0 _ _).trans (feq (by decide : ¬ ((1 : Int32) = (0 : Int32)))).1) (XS.aload X145.here hx rfl (hb hby at_124) rfl rfl (XS.iconst X145.here hx rfl (hb hby at_126) (XS.iload X145.here hx rfl (hb hby at_127) rfl (XS.iload X145.here hx rfl (hb hby at_129) rfl k))))) ?_
     refine own_stat (W := 0) X145 hx hZ hown eh145 (ow hw 40 rfl) (ow hw 41 rfl) (rmsoB l Z a0 hw [] b1 (2 : Int32) (1 : Int32) (1 : Int32) T18.heap n0 Zs27 (by decide) (by decide)) (ow hw 42 rfl) (ow hw 3 rfl) rfl (by rw [hml]; rfl) rfl (hb hby at_131) (lenOf pd___CIII_Z rfl) rfl (by decide) (fun T146 v146 Ll146 X146 hQ146 => ?_)
     obtain ⟨rfl, N146q, eh146⟩ := hQ146
     have N146 := Fr.app N145 N146q
     refine own_go (b := (T146.setTop (mkF m 144 #[iv p0, iv p1, iv p2, iv p3, iv p4, rv b1, rv b16, iv (1 : Int32), iv (1 : Int32), iv (1 : Int32), .unset, .unset] [(.int (1 : Int32)), (.int (1 : Int32)), (.int (3 : Int32)), (.ref b1)]))) (fun _ k => XS.ifNo X146.here hx rfl (hb hby at_134) rfl ((if0 _ _).trans (feq (by decide : ¬ ((1 : Int32) = (0 : Int32)))).1) (XS.aload X146.here hx rfl (hb hby at_137) rfl rfl (XS.iconst X146.here hx rfl (hb hby at_139) (XS.iload X146.here hx rfl (hb hby at_140) rfl (XS.iload X146.here hx rfl (hb hby at_142) rfl k))))) ?_
     refine own_stat (W := 0) X146 hx hZ hown eh146 (ow hw 40 rfl) (ow hw 41 rfl) (rmsoB l Z a0 hw [] b1 (3 : Int32) (1 : Int32) (1 : Int32) T18.heap n0 Zs27 (by decide) (by decide)) (ow hw 42 rfl) (ow hw 3 rfl) rfl (by rw [hml]; rfl) rfl (hb hby at_144) (lenOf pd___CIII_Z rfl) rfl (by decide) (fun T147 v147 Ll147 X147 hQ147 => ?_)
     obtain ⟨rfl, N147q, eh147⟩ := hQ147
     have N147 := Fr.app N146 N147q
     refine own_go (b := (T147.setTop (mkF m 198 #[iv p0, iv p1, iv p2, iv p3, iv p4, rv b1, rv b16, iv (1 : Int32), iv (1 : Int32), iv (1 : Int32), iv (1 : Int32), iv (1 : Int32)] [(.int (1 : Int32))]))) (fun _ k => XS.ifNo X147.here hx rfl (hb hby at_147) rfl ((if0 _ _).trans (feq (by decide : ¬ ((1 : Int32) = (0 : Int32)))).1) (XS.iconst X147.here hx rfl (hb hby at_150) (XS.goto X147.here hx rfl (pc0 := 151) (pc' := 155) rfl (hb hby at_151) (by decide) (by decide) (XS.istore X147.here hx rfl (hb hby at_155) rfl (l' := #[iv p0, iv p1, iv p2, iv p3, iv p4, rv b1, rv b16, iv (1 : Int32), iv (1 : Int32), iv (1 : Int32), iv (1 : Int32), .unset]) rfl (XS.iload X147.here hx rfl (hb hby at_157) rfl (XS.iload X147.here hx rfl (hb hby at_159) rfl (XS.icmpYes X147.here hx rfl (pc0 := 161) (pc' := 176) rfl (hb hby at_161) rfl (teq (rfl : (1 : Int32) = (1 : Int32))).1 (by decide) (by decide) (XS.iconst X147.here hx rfl (hb hby at_176) (XS.goto X147.here hx rfl (pc0 := 177) (pc' := 181) rfl (hb hby at_177) (by decide) (by decide) (XS.istore X147.here hx rfl (hb hby at_181) rfl (l' := #[iv p0, iv p1, iv p2, iv p3, iv p4, rv b1, rv b16, iv (1 : Int32), iv (1 : Int32), iv (1 : Int32), iv (1 : Int32), iv (1 : Int32)]) rfl (XS.iload X147.here hx rfl (hb hby at_183) rfl (XS.ifNo X147.here hx rfl (hb hby at_185) rfl ((if0 _ _).trans (feq (by decide : ¬ ((1 : Int32) = (0 : Int32)))).1) (XS.iload X147.here hx rfl (hb hby at_188) rfl (XS.ifNo X147.here hx rfl (hb hby at_190) rfl ((if0 _ _).trans (feq (by decide : ¬ ((1 : Int32) = (0 : Int32)))).1) (XS.iconst X147.here hx rfl (hb hby at_193) (XS.goto X147.here hx rfl (pc0 := 194) (pc' := 198) rfl (hb hby at_194) (by decide) (by decide) k)))))))))))))))) ?_
     obtain ⟨fs, hr, hrun, hended, hW, hsame⟩ := X147.leave (v := some (.int (1 : Int32))) (fun h => by rw [Bd.returns] at h; cases h)
     exact ⟨_, _, retN X147 hx (t := .boolean) Bd.returns (by simp) (hb hby at_198) hr, hrun, hended, _, _, rfl, (show Qrm0 Z p0 p1 p2 p3 p4 cs fv h0 n0 _ T147.heap _ from (by rw [eh147]; exact ⟨rfl, N147⟩)), ⟨_, rfl⟩, hW, hsame.mono (by decide) (by decide)⟩
   · rw [hl]
     refine own_go (b := (T18.setTop (mkF m 77 #[iv p0, iv p1, iv p2, iv p3, iv p4, rv b1, rv b16, iv (1 : Int32), iv (2 : Int32), .unset, .unset, .unset] [(.int (2 : Int32)), (.int (1 : Int32)), (.ref b16)]))) (fun _ k => XS.iadd X18.here hx rfl (hb hby at_68) rfl (XS.istore X18.here hx rfl (hb hby at_69) rfl (l' := #[iv p0, iv p1, iv p2, iv p3, iv p4, rv b1, rv b16, iv (1 : Int32), iv (2 : Int32), .unset, .unset, .unset]) rfl (XS.aload X18.here hx rfl (hb hby at_71) rfl rfl (XS.iload X18.here hx rfl (hb hby at_73) rfl (XS.iload X18.here hx rfl (hb hby at_75) rfl k))))) ?_
     have O149 := O24.keep K18 (allS gx25 all0)
     have F150 := A16.keep K18
     refine own_stat (W := 0) X18 hx hZ hown rfl (ow hw 36 rfl) (ow hw 37 rfl) (rmts1_2 l Z a0 hw [] b16 (nar .char rc_3) (nar .char rc_7) (nar .char rc_10) (nar .char rc_13) cs fv T18.heap n0 Zs27 O149 S_COMPACT_STRINGS hcs S__assertionsDisabled S_HI_BYTE_SHIFT S_LO_BYTE_SHIFT S_SIOOBE_FORMATTER hfv F150 P18_0) (ow hw 39 rfl) (ow hw 38 rfl) rfl (by rw [hml]; rfl) rfl (hb hby at_77) (lenOf pd__Ljava_lang_String_II_I rfl) rfl (by decide) (fun T148 v148 Ll148 X148 hQ148 => ?_)
     obtain ⟨r_148, rfl, N148q, eh148, P148_0⟩ := hQ148
     have N148 := Fr.app N18 N148q
     rcases P148_0 with ⟨rfl, hs1⟩ | ⟨rfl, hs1⟩
     · skip
       refine own_go (b := (T148.setTop (mkF m 105 #[iv p0, iv p1, iv p2, iv p3, iv p4, rv b1, rv b16, iv (1 : Int32), iv (2 : Int32), iv (2 : Int32), .unset, .unset] [(.int (2 : Int32)), (.int (2 : Int32)), (.int (0 : Int32)), (.ref b1)]))) (fun _ k => XS.istore X148.here hx rfl (hb hby at_80) rfl (l' := #[iv p0, iv p1, iv p2, iv p3, iv p4, rv b1, rv b16, iv (1 : Int32), iv (2 : Int32), iv (2 : Int32), .unset, .unset]) rfl (XS.iload X148.here hx rfl (hb hby at_82) rfl (XS.iload X148.here hx rfl (hb hby at_84) rfl (XS.icmpNo X148.here hx rfl (hb hby at_86) rfl (flt (by decide : ¬ ((2 : Int32) < (1 : Int32)))).1 (XS.iload X148.here hx rfl (hb hby at_89) rfl (XS.iload X148.here hx rfl (hb hby at_91) rfl (XS.icmpYes X148.here hx rfl (pc0 := 93) (pc' := 98) rfl (hb hby at_93) rfl (flt (by decide : ¬ ((2 : Int32) < (2 : Int32)))).2.2.2 (by decide) (by decide) (XS.aload X148.here hx rfl (hb hby at_98) rfl rfl (XS.iconst X148.here hx rfl (hb hby at_100) (XS.iload X148.here hx rfl (hb hby at_101) rfl (XS.iload X148.here hx rfl (hb hby at_103) rfl k))))))))))) ?_
       refine own_stat (W := 0) X148 hx hZ hown eh148 (ow hw 40 rfl) (ow hw 41 rfl) (rmsoA l Z a0 hw [] b1 (0 : Int32) (2 : Int32) (2 : Int32) T18.heap n0 Zs27 (by decide)) (ow hw 42 rfl) (ow hw 3 rfl) rfl (by rw [hml]; rfl) rfl (hb hby at_105) (lenOf pd___CIII_Z rfl) rfl (by decide) (fun T151 v151 Ll151 X151 hQ151 => ?_)
       obtain ⟨rfl, N151q, eh151⟩ := hQ151
       have N151 := Fr.app N148 N151q
       refine own_go (b := (T151.setTop (mkF m 118 #[iv p0, iv p1, iv p2, iv p3, iv p4, rv b1, rv b16, iv (1 : Int32), iv (2 : Int32), iv (2 : Int32), .unset, .unset] [(.int (2 : Int32)), (.int (2 : Int32)), (.int (1 : Int32)), (.ref b1)]))) (fun _ k => XS.ifNo X151.here hx rfl (hb hby at_108) rfl ((if0 _ _).trans (feq (by decide : ¬ ((1 : Int32) = (0 : Int32)))).1) (XS.aload X151.here hx rfl (hb hby at_111) rfl rfl (XS.iconst X151.here hx rfl (hb hby at_113) (XS.iload X151.here hx rfl (hb hby at_114) rfl (XS.iload X151.here hx rfl (hb hby at_116) rfl k))))) ?_
       refine own_stat (W := 0) X151 hx hZ hown eh151 (ow hw 40 rfl) (ow hw 41 rfl) (rmsoA l Z a0 hw [] b1 (1 : Int32) (2 : Int32) (2 : Int32) T18.heap n0 Zs27 (by decide)) (ow hw 42 rfl) (ow hw 3 rfl) rfl (by rw [hml]; rfl) rfl (hb hby at_118) (lenOf pd___CIII_Z rfl) rfl (by decide) (fun T152 v152 Ll152 X152 hQ152 => ?_)
       obtain ⟨rfl, N152q, eh152⟩ := hQ152
       have N152 := Fr.app N151 N152q
       refine own_go (b := (T152.setTop (mkF m 131 #[iv p0, iv p1, iv p2, iv p3, iv p4, rv b1, rv b16, iv (1 : Int32), iv (2 : Int32), iv (2 : Int32), .unset, .unset] [(.int (2 : Int32)), (.int (2 : Int32)), (.int (2 : Int32)), (.ref b1)]))) (fun _ k => XS.ifNo X152.here hx rfl (hb hby at_121) rfl ((if0 _ _).trans (feq (by decide : ¬ ((1 : Int32) = (0 : Int32)))).1) (XS.aload X152.here hx rfl (hb hby at_124) rfl rfl (XS.iconst X152.here hx rfl (hb hby at_126) (XS.iload X152.here hx rfl (hb hby at_127) rfl (XS.iload X152.here hx rfl (hb hby at_129) rfl k))))) ?_
       refine own_stat (W := 0) X152 hx hZ hown eh152 (ow hw 40 rfl) (ow hw 41 rfl) (rmsoB l Z a0 hw [] b1 (2 : Int32) (2 : Int32) (2 : Int32) T18.heap n0 Zs27 (by decide : ¬ ((2 : Int32) < (2 : Int32))) (by decide : ¬ ((2 : Int32) < (2 : Int32)))) (ow hw 42 rfl) (ow hw 3 rfl) rfl (by rw [hml]; rfl) rfl (hb hby at_131) (lenOf pd___CIII_Z rfl) rfl (by decide) (fun T153 v153 Ll153 X153 hQ153 => ?_)
       obtain ⟨rfl, N153q, eh153⟩ := hQ153
       have N153 := Fr.app N152 N153q
       refine own_go (b := (T153.setTop (mkF m 144 #[iv p0, iv p1, iv p2, iv p3, iv p4, rv b1, rv b16, iv (1 : Int32), iv (2 : Int32), iv (2 : Int32), .unset, .unset] [(.int (2 : Int32)), (.int (2 : Int32)), (.int (3 : Int32)), (.ref b1)]))) (fun _ k => XS.ifNo X153.here hx rfl (hb hby at_134) rfl ((if0 _ _).trans (feq (by decide : ¬ ((1 : Int32) = (0 : Int32)))).1) (XS.aload X153.here hx rfl (hb hby at_137) rfl rfl (XS.iconst X153.here hx rfl (hb hby at_139) (XS.iload X153.here hx rfl (hb hby at_140) rfl (XS.iload X153.here hx rfl (hb hby at_142) rfl k))))) ?_
       refine own_stat (W := 0) X153 hx hZ hown eh153 (ow hw 40 rfl) (ow hw 41 rfl) (rmsoB l Z a0 hw [] b1 (3 : Int32) (2 : Int32) (2 : Int32) T18.heap n0 Zs27 (by decide) (by decide)) (ow hw 42 rfl) (ow hw 3 rfl) rfl (by rw [hml]; rfl) rfl (hb hby at_144) (lenOf pd___CIII_Z rfl) rfl (by decide) (fun T154 v154 Ll154 X154 hQ154 => ?_)
       obtain ⟨rfl, N154q, eh154⟩ := hQ154
       have N154 := Fr.app N153 N154q
       refine own_go (b := (T154.setTop (mkF m 170 #[iv p0, iv p1, iv p2, iv p3, iv p4, rv b1, rv b16, iv (1 : Int32), iv (2 : Int32), iv (2 : Int32), iv (1 : Int32), .unset] [(.int (1 : Int32)), (.ref b1)]))) (fun _ k => XS.ifNo X154.here hx rfl (hb hby at_147) rfl ((if0 _ _).trans (feq (by decide : ¬ ((1 : Int32) = (0 : Int32)))).1) (XS.iconst X154.here hx rfl (hb hby at_150) (XS.goto X154.here hx rfl (pc0 := 151) (pc' := 155) rfl (hb hby at_151) (by decide) (by decide) (XS.istore X154.here hx rfl (hb hby at_155) rfl (l' := #[iv p0, iv p1, iv p2, iv p3, iv p4, rv b1, rv b16, iv (1 : Int32), iv (2 : Int32), iv (2 : Int32), iv (1 : Int32), .unset]) rfl (XS.iload X154.here hx rfl (hb hby at_157) rfl (XS.iload X154.here hx rfl (hb hby at_159) rfl (XS.icmpNo X154.here hx rfl (hb hby at_161) rfl (feq (by decide : ¬ ((2 : Int32) = (1 : Int32)))).1 (XS.aload X154.here hx rfl (hb hby at_164) rfl rfl (XS.iload X154.here hx rfl (hb hby at_166) rfl (XS.iconst X154.here hx rfl (hb hby at_168) (XS.isub X154.here hx rfl (hb hby at_169) rfl k))))))))))) ?_
       have nx156 : b1 ≠ b16 := (own_ne V1.lt (own_tr (own_tr (own_tr (Keep.of_wr W4).1 (Keep.of_wr W8).1) (Keep.of_wr W11).1) (Keep.of_wr W14).1) (Nat.le_of_eq g16.symm))
       have F157 := F26.keep K18 (ninS nx156 nin0)
       obtain ⟨cl155, Ar155, ql155, Sz155, Nn155, Hl155, Gl155⟩ := id F157
       have hin155 : ¬ ((1 : Int32) < 0 ∨ cl155.slots.size ≤ ((1 : Int32)).toNatClampNeg) := inb_of Sz155 ⟨by decide, by decide⟩
       refine own_go (b := (T154.setTop (mkF m 198 #[iv p0, iv p1, iv p2, iv p3, iv p4, rv b1, rv b16, iv (1 : Int32), iv (2 : Int32), iv (2 : Int32), iv (1 : Int32), iv (1 : Int32)] [(.int (1 : Int32))]))) (fun _ k => X154.caload hx (j := (1 : Int32)) (v := (.int (nar .char rc_7))) (by rw [eh154]; exact Ar155.1) (State.isArrayOf_alike hZ.alike Ar155.2.1) Ar155.2.2 hin155 (Hl155.at hin155 rfl) (g := (mkF m 170 #[iv p0, iv p1, iv p2, iv p3, iv p4, rv b1, rv b16, iv (1 : Int32), iv (2 : Int32), iv (2 : Int32), iv (1 : Int32), .unset] [(.int (1 : Int32)), (.ref b1)])) rfl rfl (hb hby at_170) _ (XS.bipush X154.here hx rfl (hb hby at_171) (XS.icmpNo X154.here hx rfl (hb hby at_173) rfl (feq hs1).1 (XS.iconst X154.here hx rfl (hb hby at_176) (XS.goto X154.here hx rfl (pc0 := 177) (pc' := 181) rfl (hb hby at_177) (by decide) (by decide) (XS.istore X154.here hx rfl (hb hby at_181) rfl (l' := #[iv p0, iv p1, iv p2, iv p3, iv p4, rv b1, rv b16, iv (1 : Int32), iv (2 : Int32), iv (2 : Int32), iv (1 : Int32), iv (1 : Int32)]) rfl (XS.iload X154.here hx rfl (hb hby at_183) rfl (XS.ifNo X154.here hx rfl (hb hby at_185) rfl ((if0 _ _).trans (feq (by decide : ¬ ((1 : Int32) = (0 : Int32)))).1) (XS.iload X154.here hx rfl (hb hby at_188) rfl (XS.ifNo X154.here hx rfl (hb hby at_190) rfl ((if0 _ _).trans (feq (by decide : ¬ ((1 : Int32) = (0 : Int32)))).1) (XS.iconst X154.here hx rfl (hb hby at_193) (XS.goto X154.here hx rfl (pc0 := 194) (pc' := 198) rfl (hb hby at_194) (by decide) (by decide) k)))))))))))) ?_
       obtain ⟨fs, hr, hrun, hended, hW, hsame⟩ := X154.leave (v := some (.int (1 : Int32))) (fun h => by rw [Bd.returns] at h; cases h)
       exact ⟨_, _, retN X154 hx (t := .boolean) Bd.returns (by simp) (hb hby at_198) hr, hrun, hended, _, _, rfl, (show Qrm0 Z p0 p1 p2 p3 p4 cs fv h0 n0 _ T154.heap _ from (by rw [eh154]; exact ⟨rfl, N154⟩)), ⟨_, rfl⟩, hW, hsame.mono (by decide) (by decide)⟩
     · skip
       refine own_go (b := (T148.setTop (mkF m 105 #[iv p0, iv p1, iv p2, iv p3, iv p4, rv b1, rv b16, iv (1 : Int32), iv (2 : Int32), iv (1 : Int32), .unset, .unset] [(.int (2 : Int32)), (.int (1 : Int32)), (.int (0 : Int32)), (.ref b1)]))) (fun _ k => XS.istore X148.here hx rfl (hb hby at_80) rfl (l' := #[iv p0, iv p1, iv p2, iv p3, iv p4, rv b1, rv b16, iv (1 : Int32), iv (2 : Int32), iv (1 : Int32), .unset, .unset]) rfl (XS.iload X148.here hx rfl (hb hby at_82) rfl (XS.iload X148.here hx rfl (hb hby at_84) rfl (XS.icmpNo X148.here hx rfl (hb hby at_86) rfl (flt (by decide : ¬ ((1 : Int32) < (1 : Int32)))).1 (XS.iload X148.here hx rfl (hb hby at_89) rfl (XS.iload X148.here hx rfl (hb hby at_91) rfl (XS.icmpYes X148.here hx rfl (pc0 := 93) (pc' := 98) rfl (hb hby at_93) rfl (flt (by decide : ¬ ((2 : Int32) < (1 : Int32)))).2.2.2 (by decide) (by decide) (XS.aload X148.here hx rfl (hb hby at_98) rfl rfl (XS.iconst X148.here hx rfl (hb hby at_100) (XS.iload X148.here hx rfl (hb hby at_101) rfl (XS.iload X148.here hx rfl (hb hby at_103) rfl k))))))))))) ?_
       refine own_stat (W := 0) X148 hx hZ hown eh148 (ow hw 40 rfl) (ow hw 41 rfl) (rmsoA l Z a0 hw [] b1 (0 : Int32) (1 : Int32) (2 : Int32) T18.heap n0 Zs27 (by decide)) (ow hw 42 rfl) (ow hw 3 rfl) rfl (by rw [hml]; rfl) rfl (hb hby at_105) (lenOf pd___CIII_Z rfl) rfl (by decide) (fun T158 v158 Ll158 X158 hQ158 => ?_)
       obtain ⟨rfl, N158q, eh158⟩ := hQ158
       have N158 := Fr.app N148 N158q
       refine own_go (b := (T158.setTop (mkF m 118 #[iv p0, iv p1, iv p2, iv p3, iv p4, rv b1, rv b16, iv (1 : Int32), iv (2 : Int32), iv (1 : Int32), .unset, .unset] [(.int (2 : Int32)), (.int (1 : Int32)), (.int (1 : Int32)), (.ref b1)]))) (fun _ k => XS.ifNo X158.here hx rfl (hb hby at_108) rfl ((if0 _ _).trans (feq (by decide : ¬ ((1 : Int32) = (0 : Int32)))).1) (XS.aload X158.here hx rfl (hb hby at_111) rfl rfl (XS.iconst X158.here hx rfl (hb hby at_113) (XS.iload X158.here hx rfl (hb hby at_114) rfl (XS.iload X158.here hx rfl (hb hby at_116) rfl k))))) ?_
       have nx160 : b1 ≠ b16 := (own_ne V1.lt (own_tr (own_tr (own_tr (Keep.of_wr W4).1 (Keep.of_wr W8).1) (Keep.of_wr W11).1) (Keep.of_wr W14).1) (Nat.le_of_eq g16.symm))
       have F161 := F26.keep K18 (ninS nx160 nin0)
       refine own_stat (W := 0) X158 hx hZ hown eh158 (ow hw 40 rfl) (ow hw 41 rfl) (rmsoC1 l Z a0 hw [] b1 kl1 (nar .char rc_3) (nar .char rc_7) (nar .char rc_10) (nar .char rc_13) (1 : Int32) (2 : Int32) T18.heap n0 Zs27 F161 (by decide : ¬ ((1 : Int32) < (1 : Int32))) (by decide) hs1) (ow hw 42 rfl) (ow hw 3 rfl) rfl (by rw [hml]; rfl) rfl (hb hby at_118) (lenOf pd___CIII_Z rfl) rfl (by decide) (fun T159 v159 Ll159 X159 hQ159 => ?_)
       obtain ⟨rfl, N159q, eh159⟩ := hQ159
       have N159 := Fr.app N158 N159q
       refine own_go (b := (T159.setTop (mkF m 131 #[iv p0, iv p1, iv p2, iv p3, iv p4, rv b1, rv b16, iv (1 : Int32), iv (2 : Int32), iv (1 : Int32), .unset, .unset] [(.int (2 : Int32)), (.int (1 : Int32)), (.int (2 : Int32)), (.ref b1)]))) (fun _ k => XS.ifNo X159.here hx rfl (hb hby at_121) rfl ((if0 _ _).trans (feq (by decide : ¬ ((1 : Int32) = (0 : Int32)))).1) (XS.aload X159.here hx rfl (hb hby at_124) rfl rfl (XS.iconst X159.here hx rfl (hb hby at_126) (XS.iload X159.here hx rfl (hb hby at_127) rfl (XS.iload X159.here hx rfl (hb hby at_129) rfl k))))) ?_
       refine own_stat (W := 0) X159 hx hZ hown eh159 (ow hw 40 rfl) (ow hw 41 rfl) (rmsoB l Z a0 hw [] b1 (2 : Int32) (1 : Int32) (2 : Int32) T18.heap n0 Zs27 (by decide : ¬ ((2 : Int32) < (1 : Int32))) (by decide)) (ow hw 42 rfl) (ow hw 3 rfl) rfl (by rw [hml]; rfl) rfl (hb hby at_131) (lenOf pd___CIII_Z rfl) rfl (by decide) (fun T162 v162 Ll162 X162 hQ162 => ?_)
       obtain ⟨rfl, N162q, eh162⟩ := hQ162
       have N162 := Fr.app N159 N162q
       refine own_go (b := (T162.setTop (mkF m 144 #[iv p0, iv p1, iv p2, iv p3, iv p4, rv b1, rv b16, iv (1 : Int32), iv (2 : Int32), iv (1 : Int32), .unset, .unset] [(.int (2 : Int32)), (.int (1 : Int32)), (.int (3 : Int32)), (.ref b1)]))) (fun _ k => XS.ifNo X162.here hx rfl (hb hby at_134) rfl ((if0 _ _).trans (feq (by decide : ¬ ((1 : Int32) = (0 : Int32)))).1) (XS.aload X162.here hx rfl (hb hby at_137) rfl rfl (XS.iconst X162.here hx rfl (hb hby at_139) (XS.iload X162.here hx rfl (hb hby at_140) rfl (XS.iload X162.here hx rfl (hb hby at_142) rfl k))))) ?_
       refine own_stat (W := 0) X162 hx hZ hown eh162 (ow hw 40 rfl) (ow hw 41 rfl) (rmsoB l Z a0 hw [] b1 (3 : Int32) (1 : Int32) (2 : Int32) T18.heap n0 Zs27 (by decide) (by decide)) (ow hw 42 rfl) (ow hw 3 rfl) rfl (by rw [hml]; rfl) rfl (hb hby at_144) (lenOf pd___CIII_Z rfl) rfl (by decide) (fun T163 v163 Ll163 X163 hQ163 => ?_)
       obtain ⟨rfl, N163q, eh163⟩ := hQ163
       have N163 := Fr.app N162 N163q
       refine own_go (b := (T163.setTop (mkF m 198 #[iv p0, iv p1, iv p2, iv p3, iv p4, rv b1, rv b16, iv (1 : Int32), iv (2 : Int32), iv (1 : Int32), iv (1 : Int32), iv (1 : Int32)] [(.int (1 : Int32))]))) (fun _ k => XS.ifNo X163.here hx rfl (hb hby at_147) rfl ((if0 _ _).trans (feq (by decide : ¬ ((1 : Int32) = (0 : Int32)))).1) (XS.iconst X163.here hx rfl (hb hby at_150) (XS.goto X163.here hx rfl (pc0 := 151) (pc' := 155) rfl (hb hby at_151) (by decide) (by decide) (XS.istore X163.here hx rfl (hb hby at_155) rfl (l' := #[iv p0, iv p1, iv p2, iv p3, iv p4, rv b1, rv b16, iv (1 : Int32), iv (2 : Int32), iv (1 : Int32), iv (1 : Int32), .unset]) rfl (XS.iload X163.here hx rfl (hb hby at_157) rfl (XS.iload X163.here hx rfl (hb hby at_159) rfl (XS.icmpYes X163.here hx rfl (pc0 := 161) (pc' := 176) rfl (hb hby at_161) rfl (teq (rfl : (1 : Int32) = (1 : Int32))).1 (by decide) (by decide) (XS.iconst X163.here hx rfl (hb hby at_176) (XS.goto X163.here hx rfl (pc0 := 177) (pc' := 181) rfl (hb hby at_177) (by decide) (by decide) (XS.istore X163.here hx rfl (hb hby at_181) rfl (l' := #[iv p0, iv p1, iv p2, iv p3, iv p4, rv b1, rv b16, iv (1 : Int32), iv (2 : Int32), iv (1 : Int32), iv (1 : Int32), iv (1 : Int32)]) rfl (XS.iload X163.here hx rfl (hb hby at_183) rfl (XS.ifNo X163.here hx rfl (hb hby at_185) rfl ((if0 _ _).trans (feq (by decide : ¬ ((1 : Int32) = (0 : Int32)))).1) (XS.iload X163.here hx rfl (hb hby at_188) rfl (XS.ifNo X163.here hx rfl (hb hby at_190) rfl ((if0 _ _).trans (feq (by decide : ¬ ((1 : Int32) = (0 : Int32)))).1) (XS.iconst X163.here hx rfl (hb hby at_193) (XS.goto X163.here hx rfl (pc0 := 194) (pc' := 198) rfl (hb hby at_194) (by decide) (by decide) k)))))))))))))))) ?_
       obtain ⟨fs, hr, hrun, hended, hW, hsame⟩ := X163.leave (v := some (.int (1 : Int32))) (fun h => by rw [Bd.returns] at h; cases h)
       exact ⟨_, _, retN X163 hx (t := .boolean) Bd.returns (by simp) (hb hby at_198) hr, hrun, hended, _, _, rfl, (show Qrm0 Z p0 p1 p2 p3 p4 cs fv h0 n0 _ T163.heap _ from (by rw [eh163]; exact ⟨rfl, N163⟩)), ⟨_, rfl⟩, hW, hsame.mono (by decide) (by decide)⟩
   · rw [hl]
     refine own_go (b := (T18.setTop (mkF m 77 #[iv p0, iv p1, iv p2, iv p3, iv p4, rv b1, rv b16, iv (1 : Int32), iv (3 : Int32), .unset, .unset, .unset] [(.int (3 : Int32)), (.int (1 : Int32)), (.ref b16)]))) (fun _ k => XS.iadd X18.here hx rfl (hb hby at_68) rfl (XS.istore X18.here hx rfl (hb hby at_69) rfl (l' := #[iv p0, iv p1, iv p2, iv p3, iv p4, rv b1, rv b16, iv (1 : Int32), iv (3 : Int32), .unset, .unset, .unset]) rfl (XS.aload X18.here hx rfl (hb hby at_71) rfl rfl (XS.iload X18.here hx rfl (hb hby at_73) rfl (XS.iload X18.here hx rfl (hb hby at_75) rfl k))))) ?_
     have O165 := O24.keep K18 (allS gx25 all0)
     have F166 := A16.keep K18
     refine own_stat (W := 0) X18 hx hZ hown rfl (ow hw 36 rfl) (ow hw 37 rfl) (rmts1_3 l Z a0 hw [] b16 (nar .char rc_3) (nar .char rc_7) (nar .char rc_10) (nar .char rc_13) cs fv T18.heap n0 Zs27 O165 S_COMPACT_STRINGS hcs S__assertionsDisabled S_HI_BYTE_SHIFT S_LO_BYTE_SHIFT S_SIOOBE_FORMATTER hfv F166 P18_0) (ow hw 39 rfl) (ow hw 38 rfl) rfl (by rw [hml]; rfl) rfl (hb hby at_77) (lenOf pd__Ljava_lang_String_II_I rfl) rfl (by decide) (fun T164 v164 Ll164 X164 hQ164 => ?_)
     obtain ⟨r_164, rfl, N164q, eh164, P164_0⟩ := hQ164
     have N164 := Fr.app N18 N164q
     rcases P164_0 with ⟨rfl, hs2⟩ | ⟨rfl, hs2, hs1⟩ | ⟨rfl, hs2, hs1⟩
     · skip
       refine own_go (b := (T164.setTop (mkF m 105 #[iv p0, iv p1, iv p2, iv p3, iv p4, rv b1, rv b16, iv (1 : Int32), iv (3 : Int32), iv (3 : Int32), .unset, .unset] [(.int (3 : Int32)), (.int (3 : Int32)), (.int (0 : Int32)), (.ref b1)]))) (fun _ k => XS.istore X164.here hx rfl (hb hby at_80) rfl (l' := #[iv p0, iv p1, iv p2, iv p3, iv p4, rv b1, rv b16, iv (1 : Int32), iv (3 : Int32), iv (3 : Int32), .unset, .unset]) rfl (XS.iload X164.here hx rfl (hb hby at_82) rfl (XS.iload X164.here hx rfl (hb hby at_84) rfl (XS.icmpNo X164.here hx rfl (hb hby at_86) rfl (flt (by decide : ¬ ((3 : Int32) < (1 : Int32)))).1 (XS.iload X164.here hx rfl (hb hby at_89) rfl (XS.iload X164.here hx rfl (hb hby at_91) rfl (XS.icmpYes X164.here hx rfl (pc0 := 93) (pc' := 98) rfl (hb hby at_93) rfl (flt (by decide : ¬ ((3 : Int32) < (3 : Int32)))).2.2.2 (by decide) (by decide) (XS.aload X164.here hx rfl (hb hby at_98) rfl rfl (XS.iconst X164.here hx rfl (hb hby at_100) (XS.iload X164.here hx rfl (hb hby at_101) rfl (XS.iload X164.here hx rfl (hb hby at_103) rfl k))))))))))) ?_
       refine own_stat (W := 0) X164 hx hZ hown eh164 (ow hw 40 rfl) (ow hw 41 rfl) (rmsoA l Z a0 hw [] b1 (0 : Int32) (3 : Int32) (3 : Int32) T18.heap n0 Zs27 (by decide)) (ow hw 42 rfl) (ow hw 3 rfl) rfl (by rw [hml]; rfl) rfl (hb hby at_105) (lenOf pd___CIII_Z rfl) rfl (by decide) (fun T167 v167 Ll167 X167 hQ167 => ?_)
       obtain ⟨rfl, N167q, eh167⟩ := hQ167
       have N167 := Fr.app N164 N167q
       refine own_go (b := (T167.setTop (mkF m 118 #[iv p0, iv p1, iv p2, iv p3, iv p4, rv b1, rv b16, iv (1 : Int32), iv (3 : Int32), iv (3 : Int32), .unset, .unset] [(.int (3 : Int32)), (.int (3 : Int32)), (.int (1 : Int32)), (.ref b1)]))) (fun _ k => XS.ifNo X167.here hx rfl (hb hby at_108) rfl ((if0 _ _).trans (feq (by decide : ¬ ((1 : Int32) = (0 : Int32)))).1) (XS.aload X167.here hx rfl (hb hby at_111) rfl rfl (XS.iconst X167.here hx rfl (hb hby at_113) (XS.iload X167.here hx rfl (hb hby at_114) rfl (XS.iload X167.here hx rfl (hb hby at_116) rfl k))))) ?_
       refine own_stat (W := 0) X167 hx hZ hown eh167 (ow hw 40 rfl) (ow hw 41 rfl) (rmsoA l Z a0 hw [] b1 (1 : Int32) (3 : Int32) (3 : Int32) T18.heap n0 Zs27 (by decide)) (ow hw 42 rfl) (ow hw 3 rfl) rfl (by rw [hml]; rfl) rfl (hb hby at_118) (lenOf pd___CIII_Z rfl) rfl (by decide) (fun T168 v168 Ll168 X168 hQ168 => ?_)
       obtain ⟨rfl, N168q, eh168⟩ := hQ168
       have N168 := Fr.app N167 N168q
       refine own_go (b := (T168.setTop (mkF m 131 #[iv p0, iv p1, iv p2, iv p3, iv p4, rv b1, rv b16, iv (1 : Int32), iv (3 : Int32), iv (3 : Int32), .unset, .unset] [(.int (3 : Int32)), (.int (3 : Int32)), (.int (2 : Int32)), (.ref b1)]))) (fun _ k => XS.ifNo X168.here hx rfl (hb hby at_121) rfl ((if0 _ _).trans (feq (by decide : ¬ ((1 : Int32) = (0 : Int32)))).1) (XS.aload X168.here hx rfl (hb hby at_124) rfl rfl (XS.iconst X168.here hx rfl (hb hby at_126) (XS.iload X168.here hx rfl (hb hby at_127) rfl (XS.iload X168.here hx rfl (hb hby at_129) rfl k))))) ?_
       refine own_stat (W := 0) X168 hx hZ hown eh168 (ow hw 40 rfl) (ow hw 41 rfl) (rmsoA l Z a0 hw [] b1 (2 : Int32) (3 : Int32) (3 : Int32) T18.heap n0 Zs27 (by decide)) (ow hw 42 rfl) (ow hw 3 rfl) rfl (by rw [hml]; rfl) rfl (hb hby at_131) (lenOf pd___CIII_Z rfl) rfl (by decide) (fun T169 v169 Ll169 X169 hQ169 => ?_)
       obtain ⟨rfl, N169q, eh169⟩ := hQ169
       have N169 := Fr.app N168 N169q
       refine own_go (b := (T169.setTop (mkF m 144 #[iv p0, iv p1, iv p2, iv p3, iv p4, rv b1, rv b16, iv (1 : Int32), iv (3 : Int32), iv (3 : Int32), .unset, .unset] [(.int (3 : Int32)), (.int (3 : Int32)), (.int (3 : Int32)), (.ref b1)]))) (fun _ k => XS.ifNo X169.here hx rfl (hb hby at_134) rfl ((if0 _ _).trans (feq (by decide : ¬ ((1 : Int32) = (0 : Int32)))).1) (XS.aload X169.here hx rfl (hb hby at_137) rfl rfl (XS.iconst X169.here hx rfl (hb hby at_139) (XS.iload X169.here hx rfl (hb hby at_140) rfl (XS.iload X169.here hx rfl (hb hby at_142) rfl k))))) ?_
       refine own_stat (W := 0) X169 hx hZ hown eh169 (ow hw 40 rfl) (ow hw 41 rfl) (rmsoB l Z a0 hw [] b1 (3 : Int32) (3 : Int32) (3 : Int32) T18.heap n0 Zs27 (by decide : ¬ ((3 : Int32) < (3 : Int32))) (by decide : ¬ ((3 : Int32) < (3 : Int32)))) (ow hw 42 rfl) (ow hw 3 rfl) rfl (by rw [hml]; rfl) rfl (hb hby at_144) (lenOf pd___CIII_Z rfl) rfl (by decide) (fun T170 v170 Ll170 X170 hQ170 => ?_)
       obtain ⟨rfl, N170q, eh170⟩ := hQ170
       have N170 := Fr.app N169 N170q
       refine own_go (b := (T170.setTop (mkF m 170 #[iv p0, iv p1, iv p2, iv p3, iv p4, rv b1, rv b16, iv (1 : Int32), iv (3 : Int32), iv (3 : Int32), iv (1 : Int32), .unset] [(.int (2 : Int32)), (.ref b1)]))) (fun _ k => XS.ifNo X170.here hx rfl (hb hby at_147) rfl ((if0 _ _).trans (feq (by decide : ¬ ((1 : Int32) = (0 : Int32)))).1) (XS.iconst X170.here hx rfl (hb hby at_150) (XS.goto X170.here hx rfl (pc0 := 151) (pc' := 155) rfl (hb hby at_151) (by decide) (by decide) (XS.istore X170.here hx rfl (hb hby at_155) rfl (l' := #[iv p0, iv p1, iv p2, iv p3, iv p4, rv b1, rv b16, iv (1 : Int32), iv (3 : Int32), iv (3 : Int32), iv (1 : Int32), .unset]) rfl (XS.iload X170.here hx rfl (hb hby at_157) rfl (XS.iload X170.here hx rfl (hb hby at_159) rfl (XS.icmpNo X170.here hx rfl (hb hby at_161) rfl (feq (by decide : ¬ ((3 : Int32) = (1 : Int32)))).1 (XS.aload X170.here hx rfl (hb hby at_164) rfl rfl (XS.iload X170.here hx rfl (hb hby at_166) rfl (XS.iconst X170.here hx rfl (hb hby at_168) (XS.isub X170.here hx rfl (hb hby at_169) rfl k))))))))))) ?_
       have nx172 : b1 ≠ b16 := (own_ne V1.lt (own_tr (own_tr (own_tr (Keep.of_wr W4).1 (Keep.of_wr W8).1) (Keep.of_wr W11).1) (Keep.of_wr W14).1) (Nat.le_of_eq g16.symm))
       have F173 := F26.keep K18 (ninS nx172 nin0)
       obtain ⟨cl171, Ar171, ql171, Sz171, Nn171, Hl171, Gl171⟩ := id F173
       have hin171 : ¬ ((2 : Int32) < 0 ∨ cl171.slots.size ≤ ((2 : Int32)).toNatClampNeg) := inb_of Sz171 ⟨by decide, by decide⟩
       refine own_go (b := (T170.setTop (mkF m 198 #[iv p0, iv p1, iv p2, iv p3, iv p4, rv b1, rv b16, iv (1 : Int32), iv (3 : Int32), iv (3 : Int32), iv (1 : Int32), iv (1 : Int32)] [(.int (1 : Int32))]))) (fun _ k => X170.caload hx (j := (2 : Int32)) (v := (.int (nar .char rc_10))) (by rw [eh170]; exact Ar171.1) (State.isArrayOf_alike hZ.alike Ar171.2.1) Ar171.2.2 hin171 (Hl171.at hin171 rfl) (g := (mkF m 170 #[iv p0, iv p1, iv p2, iv p3, iv p4, rv b1, rv b16, iv (1 : Int32), iv (3 : Int32), iv (3 : Int32), iv (1 : Int32), .unset] [(.int (2 : Int32)), (.ref b1)])) rfl rfl (hb hby at_170) _ (XS.bipush X170.here hx rfl (hb hby at_171) (XS.icmpNo X170.here hx rfl (hb hby at_173) rfl (feq hs2).1 (XS.iconst X170.here hx rfl (hb hby at_176) (XS.goto X170.here hx rfl (pc0 := 177) (pc' := 181) rfl (hb hby at_177) (by decide) (by decide) (XS.istore X170.here hx rfl (hb hby at_181) rfl (l' := #[iv p0, iv p1, iv p2, iv p3, iv p4, rv b1, rv b16, iv (1 : Int32), iv (3 : Int32), iv (3 : Int32), iv (1 : Int32), iv (1 : Int32)]) rfl (XS.iload X170.here hx rfl (hb hby at_183) rfl (XS.ifNo X170.here hx rfl (hb hby at_185) rfl ((if0 _ _).trans (feq (by decide : ¬ ((1 : Int32) = (0 : Int32)))).1) (XS.iload X170.here hx rfl (hb hby at_188) rfl (XS.ifNo X170.here hx rfl (hb hby at_190) rfl ((if0 _ _).trans (feq (by decide : ¬ ((1 : Int32) = (0 : Int32)))).1) (XS.iconst X170.here hx rfl (hb hby at_193) (XS.goto X170.here hx rfl (pc0 := 194) (pc' := 198) rfl (hb hby at_194) (by decide) (by decide) k)))))))))))) ?_
       obtain ⟨fs, hr, hrun, hended, hW, hsame⟩ := X170.leave (v := some (.int (1 : Int32))) (fun h => by rw [Bd.returns] at h; cases h)
       exact ⟨_, _, retN X170 hx (t := .boolean) Bd.returns (by simp) (hb hby at_198) hr, hrun, hended, _, _, rfl, (show Qrm0 Z p0 p1 p2 p3 p4 cs fv h0 n0 _ T170.heap _ from (by rw [eh170]; exact ⟨rfl, N170⟩)), ⟨_, rfl⟩, hW, hsame.mono (by decide) (by decide)⟩
     · skip
       refine own_go (b := (T164.setTop (mkF m 105 #[iv p0, iv p1, iv p2, iv p3, iv p4, rv b1, rv b16, iv (1 : Int32), iv (3 : Int32), iv (2 : Int32), .unset, .unset] [(.int (3 : Int32)), (.int (2 : Int32)), (.int (0 : Int32)), (.ref b1)]))) (fun _ k => XS.istore X164.here hx rfl (hb hby at_80) rfl (l' := #[iv p0, iv p1, iv p2, iv p3, iv p4, rv b1, rv b16, iv (1 : Int32), iv (3 : Int32), iv (2 : Int32), .unset, .unset]) rfl (XS.iload X164.here hx rfl (hb hby at_82) rfl (XS.iload X164.here hx rfl (hb hby at_84) rfl (XS.icmpNo X164.here hx rfl (hb hby at_86) rfl (flt (by decide : ¬ ((2 : Int32) < (1 : Int32)))).1 (XS.iload X164.here hx rfl (hb hby at_89) rfl (XS.iload X164.here hx rfl (hb hby at_91) rfl (XS.icmpYes X164.here hx rfl (pc0 := 93) (pc' := 98) rfl (hb hby at_93) rfl (flt (by decide : ¬ ((3 : Int32) < (2 : Int32)))).2.2.2 (by decide) (by decide) (XS.aload X164.here hx rfl (hb hby at_98) rfl rfl (XS.iconst X164.here hx rfl (hb hby at_100) (XS.iload X164.here hx rfl (hb hby at_101) rfl (XS.iload X164.here hx rfl (hb hby at_103) rfl k))))))))))) ?_
       refine own_stat (W := 0) X164 hx hZ hown eh164 (ow hw 40 rfl) (ow hw 41 rfl) (rmsoA l Z a0 hw [] b1 (0 : Int32) (2 : Int32) (3 : Int32) T18.heap n0 Zs27 (by decide)) (ow hw 42 rfl) (ow hw 3 rfl) rfl (by rw [hml]; rfl) rfl (hb hby at_105) (lenOf pd___CIII_Z rfl) rfl (by decide) (fun T174 v174 Ll174 X174 hQ174 => ?_)
       obtain ⟨rfl, N174q, eh174⟩ := hQ174
       have N174 := Fr.app N164 N174q
       refine own_go (b := (T174.setTop (mkF m 118 #[iv p0, iv p1, iv p2, iv p3, iv p4, rv b1, rv b16, iv (1 : Int32), iv (3 : Int32), iv (2 : Int32), .unset, .unset] [(.int (3 : Int32)), (.int (2 : Int32)), (.int (1 : Int32)), (.ref b1)]))) (fun _ k => XS.ifNo X174.here hx rfl (hb hby at_108) rfl ((if0 _ _).trans (feq (by decide : ¬ ((1 : Int32) = (0 : Int32)))).1) (XS.aload X174.here hx rfl (hb hby at_111) rfl rfl (XS.iconst X174.here hx rfl (hb hby at_113) (XS.iload X174.here hx rfl (hb hby at_114) rfl (XS.iload X174.here hx rfl (hb hby at_116) rfl k))))) ?_
       refine own_stat (W := 0) X174 hx hZ hown eh174 (ow hw 40 rfl) (ow hw 41 rfl) (rmsoA l Z a0 hw [] b1 (1 : Int32) (2 : Int32) (3 : Int32) T18.heap n0 Zs27 (by decide)) (ow hw 42 rfl) (ow hw 3 rfl) rfl (by rw [hml]; rfl) rfl (hb hby at_118) (lenOf pd___CIII_Z rfl) rfl (by decide) (fun T175 v175 Ll175 X175 hQ175 => ?_)
       obtain ⟨rfl, N175q, eh175⟩ := hQ175
       have N175 := Fr.app N174 N175q
       refine own_go (b := (T175.setTop (mkF m 131 #[iv p0, iv p1, iv p2, iv p3, iv p4, rv b1, rv b16, iv (1 : Int32), iv (3 : Int32), iv (2 : Int32), .unset, .unset] [(.int (3 : Int32)), (.int (2 : Int32)), (.int (2 : Int32)), (.ref b1)]))) (fun _ k => XS.ifNo X175.here hx rfl (hb hby at_121) rfl ((if0 _ _).trans (feq (by decide : ¬ ((1 : Int32) = (0 : Int32)))).1) (XS.aload X175.here hx rfl (hb hby at_124) rfl rfl (XS.iconst X175.here hx rfl (hb hby at_126) (XS.iload X175.here hx rfl (hb hby at_127) rfl (XS.iload X175.here hx rfl (hb hby at_129) rfl k))))) ?_
       have nx177 : b1 ≠ b16 := (own_ne V1.lt (own_tr (own_tr (own_tr (Keep.of_wr W4).1 (Keep.of_wr W8).1) (Keep.of_wr W11).1) (Keep.of_wr W14).1) (Nat.le_of_eq g16.symm))
       have F178 := F26.keep K18 (ninS nx177 nin0)
       refine own_stat (W := 0) X175 hx hZ hown eh175 (ow hw 40 rfl) (ow hw 41 rfl) (rmsoC2 l Z a0 hw [] b1 kl1 (nar .char rc_3) (nar .char rc_7) (nar .char rc_10) (nar .char rc_13) (2 : Int32) (3 : Int32) T18.heap n0 Zs27 F178 (by decide) (by decide) hs2) (ow hw 42 rfl) (ow hw 3 rfl) rfl (by rw [hml]; rfl) rfl (hb hby at_131) (lenOf pd___CIII_Z rfl) rfl (by decide) (fun T176 v176 Ll176 X176 hQ176 => ?_)
       obtain ⟨rfl, N176q, eh176⟩ := hQ176
       have N176 := Fr.app N175 N176q
       refine own_go (b := (T176.setTop (mkF m 144 #[iv p0, iv p1, iv p2, iv p3, iv p4, rv b1, rv b16, iv (1 : Int32), iv (3 : Int32), iv (2 : Int32), .unset, .unset] [(.int (3 : Int32)), (.int (2 : Int32)), (.int (3 : Int32)), (.ref b1)]))) (fun _ k => XS.ifNo X176.here hx rfl (hb hby at_134) rfl ((if0 _ _).trans (feq (by decide : ¬ ((1 : Int32) = (0 : Int32)))).1) (XS.aload X176.here hx rfl (hb hby at_137) rfl rfl (XS.iconst X176.here hx rfl (hb hby at_139) (XS.iload X176.here hx rfl (hb hby at_140) rfl (XS.iload X176.here hx rfl (hb hby at_142) rfl k))))) ?_
       refine own_stat (W := 0) X176 hx hZ hown eh176 (ow hw 40 rfl) (ow hw 41 rfl) (rmsoB l Z a0 hw [] b1 (3 : Int32) (2 : Int32) (3 : Int32) T18.heap n0 Zs27 (by decide : ¬ ((3 : Int32) < (2 : Int32))) (by decide)) (ow hw 42 rfl) (ow hw 3 rfl) rfl (by rw [hml]; rfl) rfl (hb hby at_144) (lenOf pd___CIII_Z rfl) rfl (by decide) (fun T179 v179 Ll179 X179 hQ179 => ?_)
       obtain ⟨rfl, N179q, eh179⟩ := hQ179
       have N179 := Fr.app N176 N179q
       refine own_go (b := (T179.setTop (mkF m 170 #[iv p0, iv p1, iv p2, iv p3, iv p4, rv b1, rv b16, iv (1 : Int32), iv (3 : Int32), iv (2 : Int32), iv (1 : Int32), .unset] [(.int (1 : Int32)), (.ref b1)]))) (fun _ k => XS.ifNo X179.here hx rfl (hb hby at_147) rfl ((if0 _ _).trans (feq (by decide : ¬ ((1 : Int32) = (0 : Int32)))).1) (XS.iconst X179.here hx rfl (hb hby at_150) (XS.goto X179.here hx rfl (pc0 := 151) (pc' := 155) rfl (hb hby at_151) (by decide) (by decide) (XS.istore X179.here hx rfl (hb hby at_155) rfl (l' := #[iv p0, iv p1, iv p2, iv p3, iv p4, rv b1, rv b16, iv (1 : Int32), iv (3 : Int32), iv (2 : Int32), iv (1 : Int32), .unset]) rfl (XS.iload X179.here hx rfl (hb hby at_157) rfl (XS.iload X179.here hx rfl (hb hby at_159) rfl (XS.icmpNo X179.here hx rfl (hb hby at_161) rfl (feq (by decide : ¬ ((2 : Int32) = (1 : Int32)))).1 (XS.aload X179.here hx rfl (hb hby at_164) rfl rfl (XS.iload X179.here hx rfl (hb hby at_166) rfl (XS.iconst X179.here hx rfl (hb hby at_168) (XS.isub X179.here hx rfl (hb hby at_169) rfl k))))))))))) ?_
       obtain ⟨cl180, Ar180, ql180, Sz180, Nn180, Hl180, Gl180⟩ := id F178
       have hin180 : ¬ ((1 : Int32) < 0 ∨ cl180.slots.size ≤ ((1 : Int32)).toNatClampNeg) := inb_of Sz180 ⟨by decide, by decide⟩
       refine own_go (b := (T179.setTop (mkF m 198 #[iv p0, iv p1, iv p2, iv p3, iv p4, rv b1, rv b16, iv (1 : Int32), iv (3 : Int32), iv (2 : Int32), iv (1 : Int32), iv (1 : Int32)] [(.int (1 : Int32))]))) (fun _ k => X179.caload hx (j := (1 : Int32)) (v := (.int (nar .char rc_7))) (by rw [eh179]; exact Ar180.1) (State.isArrayOf_alike hZ.alike Ar180.2.1) Ar180.2.2 hin180 (Hl180.at hin180 rfl) (g := (mkF m 170 #[iv p0, iv p1, iv p2, iv p3, iv p4, rv b1, rv b16, iv (1 : Int32), iv (3 : Int32), iv (2 : Int32), iv (1 : Int32), .unset] [(.int (1 : Int32)), (.ref b1)])) rfl rfl (hb hby at_170) _ (XS.bipush X179.here hx rfl (hb hby at_171) (XS.icmpNo X179.here hx rfl (hb hby at_173) rfl (feq hs1).1 (XS.iconst X179.here hx rfl (hb hby at_176) (XS.goto X179.here hx rfl (pc0 := 177) (pc' := 181) rfl (hb hby at_177) (by decide) (by decide) (XS.istore X179.here hx rfl (hb hby at_181) rfl (l' := #[iv p0, iv p1, iv p2, iv p3, iv p4, rv b1, rv b16, iv (1 : Int32), iv (3 : Int32), iv (2 : Int32), iv (1 : Int32), iv (1 : Int32)]) rfl (XS.iload X179.here hx rfl (hb hby at_183) rfl (XS.ifNo X179.here hx rfl (hb hby at_185) rfl ((if0 _ _).trans (feq (by decide : ¬ ((1 : Int32) = (0 : Int32)))).1) (XS.iload X179.here hx rfl (hb hby at_188) rfl (XS.ifNo X179.here hx rfl (hb hby at_190) rfl ((if0 _ _).trans (feq (by decide : ¬ ((1 : Int32) = (0 : Int32)))).1) (XS.iconst X179.here hx rfl (hb hby at_193) (XS.goto X179.here hx rfl (pc0 := 194) (pc' := 198) rfl (hb hby at_194) (by decide) (by decide) k)))))))))))) ?_
       obtain ⟨fs, hr, hrun, hended, hW, hsame⟩ := X179.leave (v := some (.int (1 : Int32))) (fun h => by rw [Bd.returns] at h; cases h)
       exact ⟨_, _, retN X179 hx (t := .boolean) Bd.returns (by simp) (hb hby at_198) hr, hrun, hended, _, _, rfl, (show Qrm0 Z p0 p1 p2 p3 p4 cs fv h0 n0 _ T179.heap _ from (by rw [eh179]; exact ⟨rfl, N179⟩)), ⟨_, rfl⟩, hW, hsame.mono (by decide) (by decide)⟩
     · skip
       refine own_go (b := (T164.setTop (mkF m 105 #[iv p0, iv p1, iv p2, iv p3, iv p4, rv b1, rv b16, iv (1 : Int32), iv (3 : Int32), iv (1 : Int32), .unset, .unset] [(.int (3 : Int32)), (.int (1 : Int32)), (.int (0 : Int32)), (.ref b1)]))) (fun _ k => XS.istore X164.here hx rfl (hb hby at_80) rfl (l' := #[iv p0, iv p1, iv p2, iv p3, iv p4, rv b1, rv b16, iv (1 : Int32), iv (3 : Int32), iv (1 : Int32), .unset, .unset]) rfl (XS.iload X164.here hx rfl (hb hby at_82) rfl (XS.iload X164.here hx rfl (hb hby at_84) rfl (XS.icmpNo X164.here hx rfl (hb hby at_86) rfl (flt (by decide : ¬ ((1 : Int32) < (1 : Int32)))).1 (XS.iload X164.here hx rfl (hb hby at_89) rfl (XS.iload X164.here hx rfl (hb hby at_91) rfl (XS.icmpYes X164.here hx rfl (pc0 := 93) (pc' := 98) rfl (hb hby at_93) rfl (flt (by decide : ¬ ((3 : Int32) < (1 : Int32)))).2.2.2 (by decide) (by decide) (XS.aload X164.here hx rfl (hb hby at_98) rfl rfl (XS.iconst X164.here hx rfl (hb hby at_100) (XS.iload X164.here hx rfl (hb hby at_101) rfl (XS.iload X164.here hx rfl (hb hby at_103) rfl k))))))))))) ?_
       refine own_stat (W := 0) X164 hx hZ hown eh164 (ow hw 40 rfl) (ow hw 41 rfl) (rmsoA l Z a0 hw [] b1 (0 : Int32) (1 : Int32) (3 : Int32) T18.heap n0 Zs27 (by decide)) (ow hw 42 rfl) (ow hw 3 rfl) rfl (by rw [hml]; rfl) rfl (hb hby at_105) (lenOf pd___CIII_Z rfl) rfl (by decide) (fun T181 v181 Ll181 X181 hQ181 => ?_)
       obtain ⟨rfl, N181q, eh181⟩ := hQ181
       have N181 := Fr.app N164 N181q
       refine own_go (b := (T181.setTop (mkF m 118 #[iv p0, iv p1, iv p2, iv p3, iv p4, rv b1, rv b16, iv (1 : Int32), iv (3 : Int32), iv (1 : Int32), .unset, .unset] [(.int (3 : Int32)), (.int (1 : Int32)), (.int (1 : Int32)), (.ref b1)]))) (fun _ k => XS.ifNo X181.here hx rfl (hb hby at_108) rfl ((if0 _ _).trans (feq (by decide : ¬ ((1 : Int32) = (0 : Int32)))).1) (XS.aload X181.here hx rfl (hb hby at_111) rfl rfl (XS.iconst X181.here hx rfl (hb hby at_113) (XS.iload X181.here hx rfl (hb hby at_114) rfl (XS.iload X181.here hx rfl (hb hby at_116) rfl k))))) ?_
       have nx183 : b1 ≠ b16 := (own_ne V1.lt (own_tr (own_tr (own_tr (Keep.of_wr W4).1 (Keep.of_wr W8).1) (Keep.of_wr W11).1) (Keep.of_wr W14).1) (Nat.le_of_eq g16.symm))
       have F184 := F26.keep K18 (ninS nx183 nin0)
       refine own_stat (W := 0) X181 hx hZ hown eh181 (ow hw 40 rfl) (ow hw 41 rfl) (rmsoC1 l Z a0 hw [] b1 kl1 (nar .char rc_3) (nar .char rc_7) (nar .char rc_10) (nar .char rc_13) (1 : Int32) (3 : Int32) T18.heap n0 Zs27 F184 (by decide : ¬ ((1 : Int32) < (1 : Int32))) (by decide) hs1) (ow hw 42 rfl) (ow hw 3 rfl) rfl (by rw [hml]; rfl) rfl (hb hby at_118) (lenOf pd___CIII_Z rfl) rfl (by decide) (fun T182 v182 Ll182 X182 hQ182 => ?_)
       obtain ⟨rfl, N182q, eh182⟩ := hQ182
       have N182 := Fr.app N181 N182q
       refine own_go (b := (T182.setTop (mkF m 131 #[iv p0, iv p1, iv p2, iv p3, iv p4, rv b1, rv b16, iv (1 : Int32), iv (3 : Int32), iv (1 : Int32), .unset, .unset] [(.int (3 : Int32)), (.int (1 : Int32)), (.int (2 : Int32)), (.ref b1)]))) (fun _ k => XS.ifNo X182.here hx rfl (hb hby at_121) rfl ((if0 _ _).trans (feq (by decide : ¬ ((1 : Int32) = (0 : Int32)))).1) (XS.aload X182.here hx rfl (hb hby at_124) rfl rfl (XS.iconst X182.here hx rfl (hb hby at_126) (XS.iload X182.here hx rfl (hb hby at_127) rfl (XS.iload X182.here hx rfl (hb hby at_129) rfl k))))) ?_
       refine own_stat (W := 0) X182 hx hZ hown eh182 (ow hw 40 rfl) (ow hw 41 rfl) (rmsoC2 l Z a0 hw [] b1 kl1 (nar .char rc_3) (nar .char rc_7) (nar .char rc_10) (nar .char rc_13) (1 : Int32) (3 : Int32) T18.heap n0 Zs27 F184 (by decide) (by decide) hs2) (ow hw 42 rfl) (ow hw 3 rfl) rfl (by rw [hml]; rfl) rfl (hb hby at_131) (lenOf pd___CIII_Z rfl) rfl (by decide) (fun T185 v185 Ll185 X185 hQ185 => ?_)
       obtain ⟨rfl, N185q, eh185⟩ := hQ185
       have N185 := Fr.app N182 N185q
       refine own_go (b := (T185.setTop (mkF m 144 #[iv p0, iv p1, iv p2, iv p3, iv p4, rv b1, rv b16, iv (1 : Int32), iv (3 : Int32), iv (1 : Int32), .unset, .unset] [(.int (3 : Int32)), (.int (1 : Int32)), (.int (3 : Int32)), (.ref b1)]))) (fun _ k => XS.ifNo X185.here hx rfl (hb hby at_134) rfl ((if0 _ _).trans (feq (by decide : ¬ ((1 : Int32) = (0 : Int32)))).1) (XS.aload X185.here hx rfl (hb hby at_137) rfl rfl (XS.iconst X185.here hx rfl (hb hby at_139) (XS.iload X185.here hx rfl (hb hby at_140) rfl (XS.iload X185.here hx rfl (hb hby at_142) rfl k))))) ?_
       refine own_stat (W := 0) X185 hx hZ hown eh185 (ow hw 40 rfl) (ow hw 41 rfl) (rmsoB l Z a0 hw [] b1 (3 : Int32) (1 : Int32) (3 : Int32) T18.heap n0 Zs27 (by decide : ¬ ((3 : Int32) < (1 : Int32))) (by decide)) (ow hw 42 rfl) (ow hw 3 rfl) rfl (by rw [hml]; rfl) rfl (hb hby at_144) (lenOf pd___CIII_Z rfl) rfl (by decide) (fun T186 v186 Ll186 X186 hQ186 => ?_)
       obtain ⟨rfl, N186q, eh186⟩ := hQ186
       have N186 := Fr.app N185 N186q
       refine own_go (b := (T186.setTop (mkF m 198 #[iv p0, iv p1, iv p2, iv p3, iv p4, rv b1, rv b16, iv (1 : Int32), iv (3 : Int32), iv (1 : Int32), iv (1 : Int32), iv (1 : Int32)] [(.int (1 : Int32))]))) (fun _ k => XS.ifNo X186.here hx rfl (hb hby at_147) rfl ((if0 _ _).trans (feq (by decide : ¬ ((1 : Int32) = (0 : Int32)))).1) (XS.iconst X186.here hx rfl (hb hby at_150) (XS.goto X186.here hx rfl (pc0 := 151) (pc' := 155) rfl (hb hby at_151) (by decide) (by decide) (XS.istore X186.here hx rfl (hb hby at_155) rfl (l' := #[iv p0, iv p1, iv p2, iv p3, iv p4, rv b1, rv b16, iv (1 : Int32), iv (3 : Int32), iv (1 : Int32), iv (1 : Int32), .unset]) rfl (XS.iload X186.here hx rfl (hb hby at_157) rfl (XS.iload X186.here hx rfl (hb hby at_159) rfl (XS.icmpYes X186.here hx rfl (pc0 := 161) (pc' := 176) rfl (hb hby at_161) rfl (teq (rfl : (1 : Int32) = (1 : Int32))).1 (by decide) (by decide) (XS.iconst X186.here hx rfl (hb hby at_176) (XS.goto X186.here hx rfl (pc0 := 177) (pc' := 181) rfl (hb hby at_177) (by decide) (by decide) (XS.istore X186.here hx rfl (hb hby at_181) rfl (l' := #[iv p0, iv p1, iv p2, iv p3, iv p4, rv b1, rv b16, iv (1 : Int32), iv (3 : Int32), iv (1 : Int32), iv (1 : Int32), iv (1 : Int32)]) rfl (XS.iload X186.here hx rfl (hb hby at_183) rfl (XS.ifNo X186.here hx rfl (hb hby at_185) rfl ((if0 _ _).trans (feq (by decide : ¬ ((1 : Int32) = (0 : Int32)))).1) (XS.iload X186.here hx rfl (hb hby at_188) rfl (XS.ifNo X186.here hx rfl (hb hby at_190) rfl ((if0 _ _).trans (feq (by decide : ¬ ((1 : Int32) = (0 : Int32)))).1) (XS.iconst X186.here hx rfl (hb hby at_193) (XS.goto X186.here hx rfl (pc0 := 194) (pc' := 198) rfl (hb hby at_194) (by decide) (by decide) k)))))))))))))))) ?_
       obtain ⟨fs, hr, hrun, hended, hW, hsame⟩ := X186.leave (v := some (.int (1 : Int32))) (fun h => by rw [Bd.returns] at h; cases h)
       exact ⟨_, _, retN X186 hx (t := .boolean) Bd.returns (by simp) (hb hby at_198) hr, hrun, hended, _, _, rfl, (show Qrm0 Z p0 p1 p2 p3 p4 cs fv h0 n0 _ T186.heap _ from (by rw [eh186]; exact ⟨rfl, N186⟩)), ⟨_, rfl⟩, hW, hsame.mono (by decide) (by decide)⟩
   · rw [hl]
     refine own_go (b := (T18.setTop (mkF m 77 #[iv p0, iv p1, iv p2, iv p3, iv p4, rv b1, rv b16, iv (1 : Int32), iv (4 : Int32), .unset, .unset, .unset] [(.int (4 : Int32)), (.int (1 : Int32)), (.ref b16)]))) (fun _ k => XS.iadd X18.here hx rfl (hb hby at_68) rfl (XS.istore X18.here hx rfl (hb hby at_69) rfl (l' := #[iv p0, iv p1, iv p2, iv p3, iv p4, rv b1, rv b16, iv (1 : Int32), iv (4 : Int32), .unset, .unset, .unset]) rfl (XS.aload X18.here hx rfl (hb hby at_71) rfl rfl (XS.iload X18.here hx rfl (hb hby at_73) rfl (XS.iload X18.here hx rfl (hb hby at_75) rfl k))))) ?_
     have O188 := O24.keep K18 (allS gx25 all0)
     have F189 := A16.keep K18
     refine own_stat (W := 0) X18 hx hZ hown rfl (ow hw 36 rfl) (ow hw 37 rfl) (rmts1_4 l Z a0 hw [] b16 (nar .char rc_3) (nar .char rc_7) (nar .char rc_10) (nar .char rc_13) cs fv T18.heap n0 Zs27 O188 S_COMPACT_STRINGS hcs S__assertionsDisabled S_HI_BYTE_SHIFT S_LO_BYTE_SHIFT S_SIOOBE_FORMATTER hfv F189 P18_0) (ow hw 39 rfl) (ow hw 38 rfl) rfl (by rw [hml]; rfl) rfl (hb hby at_77) (lenOf pd__Ljava_lang_String_II_I rfl) rfl (by decide) (fun T187 v187 Ll187 X187 hQ187 => ?_)
     obtain ⟨r_187, rfl, N187q, eh187, P187_0⟩ := hQ187
     have N187 := Fr.app N18 N187q
     rcases P187_0 with ⟨rfl, hs3⟩ | ⟨rfl, hs3, hs2⟩ | ⟨rfl, hs3, hs2, hs1⟩ | ⟨rfl, hs3, hs2, hs1⟩
     · skip
       refine own_go (b := (T187.setTop (mkF m 105 #[iv p0, iv p1, iv p2, iv p3, iv p4, rv b1, rv b16, iv (1 : Int32), iv (4 : Int32), iv (4 : Int32), .unset, .unset] [(.int (4 : Int32)), (.int (4 : Int32)), (.int (0 : Int32)), (.ref b1)]))) (fun _ k => XS.istore X187.here hx rfl (hb hby at_80) rfl (l' := #[iv p0, iv p1, iv p2, iv p3, iv p4, rv b1, rv b16, iv (1 : Int32), iv (4 : Int32), iv (4 : Int32), .unset, .unset]) rfl (XS.iload X187.here hx rfl (hb hby at_82) rfl (XS.iload X187.here hx rfl (hb hby at_84) rfl (XS.icmpNo X187.here hx rfl (hb hby at_86) rfl (flt (by decide : ¬ ((4 : Int32) < (1 : Int32)))).1 (XS.iload X187.here hx rfl (hb hby at_89) rfl (XS.iload X187.here hx rfl (hb hby at_91) rfl (XS.icmpYes X187.here hx rfl (pc0 := 93) (pc' := 98) rfl (hb hby at_93) rfl (flt (by decide : ¬ ((4 : Int32) < (4 : Int32)))).2.2.2 (by decide) (by decide) (XS.aload X187.here hx rfl (hb hby at_98) rfl rfl (XS.iconst X187.here hx rfl (hb hby at_100) (XS.iload X187.here hx rfl (hb hby at_101) rfl (XS.iload X187.here hx rfl (hb hby at_103) rfl k))))))))))) ?_
       refine own_stat (W := 0) X187 hx hZ hown eh187 (ow hw 40 rfl) (ow hw 41 rfl) (rmsoA l Z a0 hw [] b1 (0 : Int32) (4 : Int32) (4 : Int32) T18.heap n0 Zs27 (by decide)) (ow hw 42 rfl) (ow hw 3 rfl) rfl (by rw [hml]; rfl) rfl (hb hby at_105) (lenOf pd___CIII_Z rfl) rfl (by decide) (fun T190 v190 Ll190 X190 hQ190 => ?_)
       obtain ⟨rfl, N190q, eh190⟩ := hQ190
       have N190 := Fr.app N187 N190q
       refine own_go (b := (T190.setTop (mkF m 118 #[iv p0, iv p1, iv p2, iv p3, iv p4, rv b1, rv b16, iv (1 : Int32), iv (4 : Int32), iv (4 : Int32), .unset, .unset] [(.int (4 : Int32)), (.int (4 : Int32)), (.int (1 : Int32)), (.ref b1)]))) (fun _ k => XS.ifNo X190.here hx rfl (hb hby at_108) rfl ((if0 _ _).trans (feq (by decide : ¬ ((1 : Int32) = (0 : Int32)))).1) (XS.aload X190.here hx rfl (hb hby at_111) rfl rfl (XS.iconst X190.here hx rfl (hb hby at_113) (XS.iload X190.here hx rfl (hb hby at_114) rfl (XS.iload X190.here hx rfl (hb hby at_116) rfl k))))) ?_
       refine own_stat (W := 0) X190 hx hZ hown eh190 (ow hw 40 rfl) (ow hw 41 rfl) (rmsoA l Z a0 hw [] b1 (1 : Int32) (4 : Int32) (4 : Int32) T18.heap n0 Zs27 (by decide)) (ow hw 42 rfl) (ow hw 3 rfl) rfl (by rw [hml]; rfl) rfl (hb hby at_118) (lenOf pd___CIII_Z rfl) rfl (by decide) (fun T191 v191 Ll191 X191 hQ191 => ?_)
       obtain ⟨rfl, N191q, eh191⟩ := hQ191
       have N191 := Fr.app N190 N191q
       refine own_go (b := (T191.setTop (mkF m 131 #[iv p0, iv p1, iv p2, iv p3, iv p4, rv b1, rv b16, iv (1 : Int32), iv (4 : Int32), iv (4 : Int32), .unset, .unset] [(.int (4 : Int32)), (.int (4 : Int32)), (.int (2 : Int32)), (.ref b1)]))) (fun _ k => XS.ifNo X191.here hx rfl (hb hby at_121) rfl ((if0 _ _).trans (feq (by decide : ¬ ((1 : Int32) = (0 : Int32)))).1) (XS.aload X191.here hx rfl (hb hby at_124) rfl rfl (XS.iconst X191.here hx rfl (hb hby at_126) (XS.iload X191.here hx rfl (hb hby at_127) rfl (XS.iload X191.here hx rfl (hb hby at_129) rfl k))))) ?_
       refine own_stat (W := 0) X191 hx hZ hown eh191 (ow hw 40 rfl) (ow hw 41 rfl) (rmsoA l Z a0 hw [] b1 (2 : Int32) (4 : Int32) (4 : Int32) T18.heap n0 Zs27 (by decide)) (ow hw 42 rfl) (ow hw 3 rfl) rfl (by rw [hml]; rfl) rfl (hb hby at_131) (lenOf pd___CIII_Z rfl) rfl (by decide) (fun T192 v192 Ll192 X192 hQ192 => ?_)
       obtain ⟨rfl, N192q, eh192⟩ := hQ192
       have N192 := Fr.app N191 N192q
       refine own_go (b := (T192.setTop (mkF m 144 #[iv p0, iv p1, iv p2, iv p3, iv p4, rv b1, rv b16, iv (1 : Int32), iv (4 : Int32), iv (4 : Int32), .unset, .unset] [(.int (4 : Int32)), (.int (4 : Int32)), (.int (3 : Int32)), (.ref b1)]))) (fun _ k => XS.ifNo X192.here hx rfl (hb hby at_134) rfl ((if0 _ _).trans (feq (by decide : ¬ ((1 : Int32) = (0 : Int32)))).1) (XS.aload X192.here hx rfl (hb hby at_137) rfl rfl (XS.iconst X192.here hx rfl (hb hby at_139) (XS.iload X192.here hx rfl (hb hby at_140) rfl (XS.iload X192.here hx rfl (hb hby at_142) rfl k))))) ?_
       refine own_stat (W := 0) X192 hx hZ hown eh192 (ow hw 40 rfl) (ow hw 41 rfl) (rmsoA l Z a0 hw [] b1 (3 : Int32) (4 : Int32) (4 : Int32) T18.heap n0 Zs27 (by decide)) (ow hw 42 rfl) (ow hw 3 rfl) rfl (by rw [hml]; rfl) rfl (hb hby at_144) (lenOf pd___CIII_Z rfl) rfl (by decide) (fun T193 v193 Ll193 X193 hQ193 => ?_)
       obtain ⟨rfl, N193q, eh193⟩ := hQ193
       have N193 := Fr.app N192 N193q
       refine own_go (b := (T193.setTop (mkF m 170 #[iv p0, iv p1, iv p2, iv p3, iv p4, rv b1, rv b16, iv (1 : Int32), iv (4 : Int32), iv (4 : Int32), iv (1 : Int32), .unset] [(.int (3 : Int32)), (.ref b1)]))) (fun _ k => XS.ifNo X193.here hx rfl (hb hby at_147) rfl ((if0 _ _).trans (feq (by decide : ¬ ((1 : Int32) = (0 : Int32)))).1) (XS.iconst X193.here hx rfl (hb hby at_150) (XS.goto X193.here hx rfl (pc0 := 151) (pc' := 155) rfl (hb hby at_151) (by decide) (by decide) (XS.istore X193.here hx rfl (hb hby at_155) rfl (l' := #[iv p0, iv p1, iv p2, iv p3, iv p4, rv b1, rv b16, iv (1 : Int32), iv (4 : Int32), iv (4 : Int32), iv (1 : Int32), .unset]) rfl (XS.iload X193.here hx rfl (hb hby at_157) rfl (XS.iload X193.here hx rfl (hb hby at_159) rfl (XS.icmpNo X193.here hx rfl (hb hby at_161) rfl (feq (by decide : ¬ ((4 : Int32) = (1 : Int32)))).1 (XS.aload X193.here hx rfl (hb hby at_164) rfl rfl (XS.iload X193.here hx rfl (hb hby at_166) rfl (XS.iconst X193.here hx rfl (hb hby at_168) (XS.isub X193.here hx rfl (hb hby at_169) rfl k))))))))))) ?_
       have nx195 : b1 ≠ b16 := (own_ne V1.lt (own_tr (own_tr (own_tr (Keep.of_wr W4).1 (Keep.of_wr W8).1) (Keep.of_wr W11).1) (Keep.of_wr W14).1) (Nat.le_of_eq g16.symm))
       have F196 := F26.keep K18 (ninS nx195 nin0)
       obtain ⟨cl194, Ar194, ql194, Sz194, Nn194, Hl194, Gl194⟩ := id F196
       have hin194 : ¬ ((3 : Int32) < 0 ∨ cl194.slots.size ≤ ((3 : Int32)).toNatClampNeg) := inb_of Sz194 ⟨by decide, by decide⟩
       refine own_go (b := (T193.setTop (mkF m 198 #[iv p0, iv p1, iv p2, iv p3, iv p4, rv b1, rv b16, iv (1 : Int32), iv (4 : Int32), iv (4 : Int32), iv (1 : Int32), iv (1 : Int32)] [(.int (1 : Int32))]))) (fun _ k => X193.caload hx (j := (3 : Int32)) (v := (.int (nar .char rc_13))) (by rw [eh193]; exact Ar194.1) (State.isArrayOf_alike hZ.alike Ar194.2.1) Ar194.2.2 hin194 (Hl194.at hin194 rfl) (g := (mkF m 170 #[iv p0, iv p1, iv p2, iv p3, iv p4, rv b1, rv b16, iv (1 : Int32), iv (4 : Int32), iv (4 : Int32), iv (1 : Int32), .unset] [(.int (3 : Int32)), (.ref b1)])) rfl rfl (hb hby at_170) _ (XS.bipush X193.here hx rfl (hb hby at_171) (XS.icmpNo X193.here hx rfl (hb hby at_173) rfl (feq hs3).1 (XS.iconst X193.here hx rfl (hb hby at_176) (XS.goto X193.here hx rfl (pc0 := 177) (pc' := 181) rfl (hb hby at_177) (by decide) (by decide) (XS.istore X193.here hx rfl (hb hby at_181) rfl (l' := #[iv p0, iv p1, iv p2, iv p3, iv p4, rv b1, rv b16, iv (1 : Int32), iv (4 : Int32), iv (4 : Int32), iv (1 : Int32), iv (1 : Int32)]) rfl (XS.iload X193.here hx rfl (hb hby at_183) rfl (XS.ifNo X193.here hx rfl (hb hby at_185) rfl ((if0 _ _).trans (feq (by decide : ¬ ((1 : Int32) = (0 : Int32)))).1) (XS.iload X193.here hx rfl (hb hby at_188) rfl (XS.ifNo X193.here hx rfl (hb hby at_190) rfl ((if0 _ _).trans (feq (by decide : ¬ ((1 : Int32) = (0 : Int32)))).1) (XS.iconst X193.here hx rfl (hb hby at_193) (XS.goto X193.here hx rfl (pc0 := 194) (pc' := 198) rfl (hb hby at_194) (by decide) (by decide) k)))))))))))) ?_
       obtain ⟨fs, hr, hrun, hended, hW, hsame⟩ := X193.leave (v := some (.int (1 : Int32))) (fun h => by rw [Bd.returns] at h; cases h)
       exact ⟨_, _, retN X193 hx (t := .boolean) Bd.returns (by simp) (hb hby at_198) hr, hrun, hended, _, _, rfl, (show Qrm0 Z p0 p1 p2 p3 p4 cs fv h0 n0 _ T193.heap _ from (by rw [eh193]; exact ⟨rfl, N193⟩)), ⟨_, rfl⟩, hW, hsame.mono (by decide) (by decide)⟩
     · skip
       refine own_go (b := (T187.setTop (mkF m 105 #[iv p0, iv p1, iv p2, iv p3, iv p4, rv b1, rv b16, iv (1 : Int32), iv (4 : Int32), iv (3 : Int32), .unset, .unset] [(.int (4 : Int32)), (.int (3 : Int32)), (.int (0 : Int32)), (.ref b1)]))) (fun _ k => XS.istore X187.here hx rfl (hb hby at_80) rfl (l' := #[iv p0, iv p1, iv p2, iv p3, iv p4, rv b1, rv b16, iv (1 : Int32), iv (4 : Int32), iv (3 : Int32), .unset, .unset]) rfl (XS.iload X187.here hx rfl (hb hby at_82) rfl (XS.iload X187.here hx rfl (hb hby at_84) rfl (XS.icmpNo X187.here hx rfl (hb hby at_86) rfl (flt (by decide : ¬ ((3 : Int32) < (1 : Int32)))).1 (XS.iload X187.here hx rfl (hb hby at_89) rfl (XS.iload X187.here hx rfl (hb hby at_91) rfl (XS.icmpYes X187.here hx rfl (pc0 := 93) (pc' := 98) rfl (hb hby at_93) rfl (flt (by decide : ¬ ((4 : Int32) < (3 : Int32)))).2.2.2 (by decide) (by decide) (XS.aload X187.here hx rfl (hb hby at_98) rfl rfl (XS.iconst X187.here hx rfl (hb hby at_100) (XS.iload X187.here hx rfl (hb hby at_101) rfl (XS.iload X187.here hx rfl (hb hby at_103) rfl k))))))))))) ?_
       refine own_stat (W := 0) X187 hx hZ hown eh187 (ow hw 40 rfl) (ow hw 41 rfl) (rmsoA l Z a0 hw [] b1 (0 : Int32) (3 : Int32) (4 : Int32) T18.heap n0 Zs27 (by decide)) (ow hw 42 rfl) (ow hw 3 rfl) rfl (by rw [hml]; rfl) rfl (hb hby at_105) (lenOf pd___CIII_Z rfl) rfl (by decide) (fun T197 v197 Ll197 X197 hQ197 => ?_)
       obtain ⟨rfl, N197q, eh197⟩ := hQ197
       have N197 := Fr.app N187 N197q
       refine own_go (b := (T197.setTop (mkF m 118 #[iv p0, iv p1, iv p2, iv p3, iv p4, rv b1, rv b16, iv (1 : Int32), iv (4 : Int32), iv (3 : Int32), .unset, .unset] [(.int (4 : Int32)), (.int (3 : Int32)), (.int (1 : Int32)), (.ref b1)]))) (fun _ k => XS.ifNo X197.here hx rfl (hb hby at_108) rfl ((if0 _ _).trans (feq (by decide : ¬ ((1 : Int32) = (0 : Int32)))).1) (XS.aload X197.here hx rfl (hb hby at_111) rfl rfl (XS.iconst X197.here hx rfl (hb hby at_113) (XS.iload X197.here hx rfl (hb hby at_114) rfl (XS.iload X197.here hx rfl (hb hby at_116) rfl k))))) ?_
       refine own_stat (W := 0) X197 hx hZ hown eh197 (ow hw 40 rfl) (ow hw 41 rfl) (rmsoA l Z a0 hw [] b1 (1 : Int32) (3 : Int32) (4 : Int32) T18.heap n0 Zs27 (by decide)) (ow hw 42 rfl) (ow hw 3 rfl) rfl (by rw [hml]; rfl) rfl (hb hby at_118) (lenOf pd___CIII_Z rfl) rfl (by decide) (fun T198 v198 Ll198 X198 hQ198 => ?_)
       obtain ⟨rfl, N198q, eh198⟩ := hQ198
       have N198 := Fr.app N197 N198q
       refine own_go (b := (T198.setTop (mkF m 131 #[iv p0, iv p1, iv p2, iv p3, iv p4, rv b1, rv b16, iv (1 : Int32), iv (4 : Int32), iv (3 : Int32), .unset, .unset] [(.int (4 : Int32)), (.int (3 : Int32)), (.int (2 : Int32)), (.ref b1)]))) (fun _ k => XS.ifNo X198.here hx rfl (hb hby at_121) rfl ((if0 _ _).trans (feq (by decide : ¬ ((1 : Int32) = (0 : Int32)))).1) (XS.aload X198.here hx rfl (hb hby at_124) rfl rfl (XS.iconst X198.here hx rfl (hb hby at_126) (XS.iload X198.here hx rfl (hb hby at_127) rfl (XS.iload X198.here hx rfl (hb hby at_129) rfl k))))) ?_
       refine own_stat (W := 0) X198 hx hZ hown eh198 (ow hw 40 rfl) (ow hw 41 rfl) (rmsoA l Z a0 hw [] b1 (2 : Int32) (3 : Int32) (4 : Int32) T18.heap n0 Zs27 (by decide)) (ow hw 42 rfl) (ow hw 3 rfl) rfl (by rw [hml]; rfl) rfl (hb hby at_131) (lenOf pd___CIII_Z rfl) rfl (by decide) (fun T199 v199 Ll199 X199 hQ199 => ?_)
       obtain ⟨rfl, N199q, eh199⟩ := hQ199
       have N199 := Fr.app N198 N199q
       refine own_go (b := (T199.setTop (mkF m 144 #[iv p0, iv p1, iv p2, iv p3, iv p4, rv b1, rv b16, iv (1 : Int32), iv (4 : Int32), iv (3 : Int32), .unset, .unset] [(.int (4 : Int32)), (.int (3 : Int32)), (.int (3 : Int32)), (.ref b1)]))) (fun _ k => XS.ifNo X199.here hx rfl (hb hby at_134) rfl ((if0 _ _).trans (feq (by decide : ¬ ((1 : Int32) = (0 : Int32)))).1) (XS.aload X199.here hx rfl (hb hby at_137) rfl rfl (XS.iconst X199.here hx rfl (hb hby at_139) (XS.iload X199.here hx rfl (hb hby at_140) rfl (XS.iload X199.here hx rfl (hb hby at_142) rfl k))))) ?_
       have nx201 : b1 ≠ b16 := (own_ne V1.lt (own_tr (own_tr (own_tr (Keep.of_wr W4).1 (Keep.of_wr W8).1) (Keep.of_wr W11).1) (Keep.of_wr W14).1) (Nat.le_of_eq g16.symm))
       have F202 := F26.keep K18 (ninS nx201 nin0)
       refine own_stat (W := 0) X199 hx hZ hown eh199 (ow hw 40 rfl) (ow hw 41 rfl) (rmsoC3 l Z a0 hw [] b1 kl1 (nar .char rc_3) (nar .char rc_7) (nar .char rc_10) (nar .char rc_13) (3 : Int32) (4 : Int32) T18.heap n0 Zs27 F202 (by decide) (by decide) hs3) (ow hw 42 rfl) (ow hw 3 rfl) rfl (by rw [hml]; rfl) rfl (hb hby at_144) (lenOf pd___CIII_Z rfl) rfl (by decide) (fun T200 v200 Ll200 X200 hQ200 => ?_)
       obtain ⟨rfl, N200q, eh200⟩ := hQ200
       have N200 := Fr.app N199 N200q
       refine own_go (b := (T200.setTop (mkF m 170 #[iv p0, iv p1, iv p2, iv p3, iv p4, rv b1, rv b16, iv (1 : Int32), iv (4 : Int32), iv (3 : Int32), iv (1 : Int32), .unset] [(.int (2 : Int32)), (.ref b1)]))) (fun _ k => XS.ifNo X200.here hx rfl (hb hby at_147) rfl ((if0 _ _).trans (feq (by decide : ¬ ((1 : Int32) = (0 : Int32)))).1) (XS.iconst X200.here hx rfl (hb hby at_150) (XS.goto X200.here hx rfl (pc0 := 151) (pc' := 155) rfl (hb hby at_151) (by decide) (by decide) (XS.istore X200.here hx rfl (hb hby at_155) rfl (l' := #[iv p0, iv p1, iv p2, iv p3, iv p4, rv b1, rv b16, iv (1 : Int32), iv (4 : Int32), iv (3 : Int32), iv (1 : Int32), .unset]) rfl (XS.iload X200.here hx rfl (hb hby at_157) rfl (XS.iload X200.here hx rfl (hb hby at_159) rfl (XS.icmpNo X200.here hx rfl (hb hby at_161) rfl (feq (by decide : ¬ ((3 : Int32) = (1 : Int32)))).1 (XS.aload X200.here hx rfl (hb hby at_164) rfl rfl (XS.iload X200.here hx rfl (hb hby at_166) rfl (XS.iconst X200.here hx rfl (hb hby at_168) (XS.isub X200.here hx rfl (hb hby at_169) rfl k))))))))))) ?_
       obtain ⟨cl203, Ar203, ql203, Sz203, Nn203, Hl203, Gl203⟩ := id F202
       have hin203 : ¬ ((2 : Int32) < 0 ∨ cl203.slots.size ≤ ((2 : Int32)).toNatClampNeg) := inb_of Sz203 ⟨by decide, by decide⟩
       refine own_go (b := (T200.setTop (mkF m 198 #[iv p0, iv p1, iv p2, iv p3, iv p4, rv b1, rv b16, iv (1 : Int32), iv (4 : Int32), iv (3 : Int32), iv (1 : Int32), iv (1 : Int32)] [(.int (1 : Int32))]))) (fun _ k => X200.caload hx (j := (2 : Int32)) (v := (.int (nar .char rc_10))) (by rw [eh200]; exact Ar203.1) (State.isArrayOf_alike hZ.alike Ar203.2.1) Ar203.2.2 hin203 (Hl203.at hin203 rfl) (g := (mkF m 170 #[iv p0, iv p1, iv p2, iv p3, iv p4, rv b1, rv b16, iv (1 : Int32), iv (4 : Int32), iv (3 : Int32), iv (1 : Int32), .unset] [(.int (2 : Int32)), (.ref b1)])) rfl rfl (hb hby at_170) _ (XS.bipush X200.here hx rfl (hb hby at_171) (XS.icmpNo X200.here hx rfl (hb hby at_173) rfl (feq hs2).1 (XS.iconst X200.here hx rfl (hb hby at_176) (XS.goto X200.here hx rfl (pc0 := 177) (pc' := 181) rfl (hb hby at_177) (by decide) (by decide) (XS.istore X200.here hx rfl (hb hby at_181) rfl (l' := #[iv p0, iv p1, iv p2, iv p3, iv p4, rv b1, rv b16, iv (1 : Int32), iv (4 : Int32), iv (3 : Int32), iv (1 : Int32), iv (1 : Int32)]) rfl (XS.iload X200.here hx rfl (hb hby at_183) rfl (XS.ifNo X200.here hx rfl (hb hby at_185) rfl ((if0 _ _).trans (feq (by decide : ¬ ((1 : Int32) = (0 : Int32)))).1) (XS.iload X200.here hx rfl (hb hby at_188) rfl (XS.ifNo X200.here hx rfl (hb hby at_190) rfl ((if0 _ _).trans (feq (by decide : ¬ ((1 : Int32) = (0 : Int32)))).1) (XS.iconst X200.here hx rfl (hb hby at_193) (XS.goto X200.here hx rfl (pc0 := 194) (pc' := 198) rfl (hb hby at_194) (by decide) (by decide) k)))))))))))) ?_
       obtain ⟨fs, hr, hrun, hended, hW, hsame⟩ := X200.leave (v := some (.int (1 : Int32))) (fun h => by rw [Bd.returns] at h; cases h)
       exact ⟨_, _, retN X200 hx (t := .boolean) Bd.returns (by simp) (hb hby at_198) hr, hrun, hended, _, _, rfl, (show Qrm0 Z p0 p1 p2 p3 p4 cs fv h0 n0 _ T200.heap _ from (by rw [eh200]; exact ⟨rfl, N200⟩)), ⟨_, rfl⟩, hW, hsame.mono (by decide) (by decide)⟩
     · skip
       refine own_go (b := (T187.setTop (mkF m 105 #[iv p0, iv p1, iv p2, iv p3, iv p4, rv b1, rv b16, iv (1 : Int32), iv (4 : Int32), iv (2 : Int32), .unset, .unset] [(.int (4 : Int32)), (.int (2 : Int32)), (.int (0 : Int32)), (.ref b1)]))) (fun _ k => XS.istore X187.here hx rfl (hb hby at_80) rfl (l' := #[iv p0, iv p1, iv p2, iv p3, iv p4, rv b1, rv b16, iv (1 : Int32), iv (4 : Int32), iv (2 : Int32), .unset, .unset]) rfl (XS.iload X187.here hx rfl (hb hby at_82) rfl (XS.iload X187.here hx rfl (hb hby at_84) rfl (XS.icmpNo X187.here hx rfl (hb hby at_86) rfl (flt (by decide : ¬ ((2 : Int32) < (1 : Int32)))).1 (XS.iload X187.here hx rfl (hb hby at_89) rfl (XS.iload X187.here hx rfl (hb hby at_91) rfl (XS.icmpYes X187.here hx rfl (pc0 := 93) (pc' := 98) rfl (hb hby at_93) rfl (flt (by decide : ¬ ((4 : Int32) < (2 : Int32)))).2.2.2 (by decide) (by decide) (XS.aload X187.here hx rfl (hb hby at_98) rfl rfl (XS.iconst X187.here hx rfl (hb hby at_100) (XS.iload X187.here hx rfl (hb hby at_101) rfl (XS.iload X187.here hx rfl (hb hby at_103) rfl k))))))))))) ?_
       refine own_stat (W := 0) X187 hx hZ hown eh187 (ow hw 40 rfl) (ow hw 41 rfl) (rmsoA l Z a0 hw [] b1 (0 : Int32) (2 : Int32) (4 : Int32) T18.heap n0 Zs27 (by decide)) (ow hw 42 rfl) (ow hw 3 rfl) rfl (by rw [hml]; rfl) rfl (hb hby at_105) (lenOf pd___CIII_Z rfl) rfl (by decide) (fun T204 v204 Ll204 X204 hQ204 => ?_)
       obtain ⟨rfl, N204q, eh204⟩ := hQ204
       have N204 := Fr.app N187 N204q
       refine own_go (b := (T204.setTop (mkF m 118 #[iv p0, iv p1, iv p2, iv p3, iv p4, rv b1, rv b16, iv (1 : Int32), iv (4 : Int32), iv (2 : Int32), .unset, .unset] [(.int (4 : Int32)), (.int (2 : Int32)), (.int (1 : Int32)), (.ref b1)]))) (fun _ k => XS.ifNo X204.here hx rfl (hb hby at_108) rfl ((if0 _ _).trans (feq (by decide : ¬ ((1 : Int32) = (0 : Int32)))).1) (XS.aload X204.here hx rfl (hb hby at_111) rfl rfl (XS.iconst X204.here hx rfl (hb hby at_113) (XS.iload X204.here hx rfl (hb hby at_114) rfl (XS.iload X204.here hx rfl (hb hby at_116) rfl k))))) ?_
       refine own_stat (W := 0) X204 hx hZ hown eh204 (ow hw 40 rfl) (ow hw 41 rfl) (rmsoA l Z a0 hw [] b1 (1 : Int32) (2 : Int32) (4 : Int32) T18.heap n0 Zs27 (by decide)) (ow hw 42 rfl) (ow hw 3 rfl) rfl (by rw [hml]; rfl) rfl (hb hby at_118) (lenOf pd___CIII_Z rfl) rfl (by decide) (fun T205 v205 Ll205 X205 hQ205 => ?_)
       obtain ⟨rfl, N205q, eh205⟩ := hQ205
       have N205 := Fr.app N204 N205q
       refine own_go (b := (T205.setTop (mkF m 131 #[iv p0, iv p1, iv p2, iv p3, iv p4, rv b1, rv b16, iv (1 : Int32), iv (4 : Int32), iv (2 : Int32), .unset, .unset] [(.int (4 : Int32)), (.int (2 : Int32)), (.int (2 : Int32)), (.ref b1)]))) (fun _ k => XS.ifNo X205.here hx rfl (hb hby at_121) rfl ((if0 _ _).trans (feq (by decide : ¬ ((1 : Int32) = (0 : Int32)))).1) (XS.aload X205.here hx rfl (hb hby at_124) rfl rfl (XS.iconst X205.here hx rfl (hb hby at_126) (XS.iload X205.here hx rfl (hb hby at_127) rfl (XS.iload X205.here hx rfl (hb hby at_129) rfl k))))) ?_
       have nx207 : b1 ≠ b16 := (own_ne V1.lt (own_tr (own_tr (own_tr (Keep.of_wr W4).1 (Keep.of_wr W8).1) (Keep.of_wr W11).1) (Keep.of_wr W14).1) (Nat.le_of_eq g16.symm))
       have F208 := F26.keep K18 (ninS nx207 nin0)
       refine own_stat (W := 0) X205 hx hZ hown eh205 (ow hw 40 rfl) (ow hw 41 rfl) (rmsoC2 l Z a0 hw [] b1 kl1 (nar .char rc_3) (nar .char rc_7) (nar .char rc_10) (nar .char rc_13) (2 : Int32) (4 : Int32) T18.heap n0 Zs27 F208 (by decide) (by decide) hs2) (ow hw 42 rfl) (ow hw 3 rfl) rfl (by rw [hml]; rfl) rfl (hb hby at_131) (lenOf pd___CIII_Z rfl) rfl (by decide) (fun T206 v206 Ll206 X206 hQ206 => ?_)
       obtain ⟨rfl, N206q, eh206⟩ := hQ206
       have N206 := Fr.app N205 N206q
       refine own_go (b := (T206.setTop (mkF m 144 #[iv p0, iv p1, iv p2, iv p3, iv p4, rv b1, rv b16, iv (1 : Int32), iv (4 : Int32), iv (2 : Int32), .unset, .unset] [(.int (4 : Int32)), (.int (2 : Int32)), (.int (3 : Int32)), (.ref b1)]))) (fun _ k => XS.ifNo X206.here hx rfl (hb hby at_134) rfl ((if0 _ _).trans (feq (by decide : ¬ ((1 : Int32) = (0 : Int32)))).1) (XS.aload X206.here hx rfl (hb hby at_137) rfl rfl (XS.iconst X206.here hx rfl (hb hby at_139) (XS.iload X206.here hx rfl (hb hby at_140) rfl (XS.iload X206.here hx rfl (hb hby at_142) rfl k))))) ?_
       refine own_stat (W := 0) X206 hx hZ hown eh206 (ow hw 40 rfl) (ow hw 41 rfl) (rmsoC3 l Z a0 hw [] b1 kl1 (nar .char rc_3) (nar .char rc_7) (nar .char rc_10) (nar .char rc_13) (2 : Int32) (4 : Int32) T18.heap n0 Zs27 F208 (by decide) (by decide) hs3) (ow hw 42 rfl) (ow hw 3 rfl) rfl (by rw [hml]; rfl) rfl (hb hby at_144) (lenOf pd___CIII_Z rfl) rfl (by decide) (fun T209 v209 Ll209 X209 hQ209 => ?_)
       obtain ⟨rfl, N209q, eh209⟩ := hQ209
       have N209 := Fr.app N206 N209q
       refine own_go (b := (T209.setTop (mkF m 170 #[iv p0, iv p1, iv p2, iv p3, iv p4, rv b1, rv b16, iv (1 : Int32), iv (4 : Int32), iv (2 : Int32), iv (1 : Int32), .unset] [(.int (1 : Int32)), (.ref b1)]))) (fun _ k => XS.ifNo X209.here hx rfl (hb hby at_147) rfl ((if0 _ _).trans (feq (by decide : ¬ ((1 : Int32) = (0 : Int32)))).1) (XS.iconst X209.here hx rfl (hb hby at_150) (XS.goto X209.here hx rfl (pc0 := 151) (pc' := 155) rfl (hb hby at_151) (by decide) (by decide) (XS.istore X209.here hx rfl (hb hby at_155) rfl (l' := #[iv p0, iv p1, iv p2, iv p3, iv p4, rv b1, rv b16, iv (1 : Int32), iv (4 : Int32), iv (2 : Int32), iv (1 : Int32), .unset]) rfl (XS.iload X209.here hx rfl (hb hby at_157) rfl (XS.iload X209.here hx rfl (hb hby at_159) rfl (XS.icmpNo X209.here hx rfl (hb hby at_161) rfl (feq (by decide : ¬ ((2 : Int32) = (1 : Int32)))).1 (XS.aload X209.here hx rfl (hb hby at_164) rfl rfl (XS.iload X209.here hx rfl (hb hby at_166) rfl (XS.iconst X209.here hx rfl (hb hby at_168) (XS.isub X209.here hx rfl (hb hby at_169) rfl k))))))))))) ?_
       obtain ⟨cl210, Ar210, ql210, Sz210, Nn210, Hl210, Gl210⟩ := id F208
       have hin210 : ¬ ((1 : Int32) < 0 ∨ cl210.slots.size ≤ ((1 : Int32)).toNatClampNeg) := inb_of Sz210 ⟨by decide, by decide⟩
       refine own_go (b := (T209.setTop (mkF m 198 #[iv p0, iv p1, iv p2, iv p3, iv p4, rv b1, rv b16, iv (1 : Int32), iv (4 : Int32), iv (2 : Int32), iv (1 : Int32), iv (1 : Int32)] [(.int (1 : Int32))]))) (fun _ k => X209.caload hx (j := (1 : Int32)) (v := (.int (nar .char rc_7))) (by rw [eh209]; exact Ar210.1) (State.isArrayOf_alike hZ.alike Ar210.2.1) Ar210.2.2 hin210 (Hl210.at hin210 rfl) (g := (mkF m 170 #[iv p0, iv p1, iv p2, iv p3, iv p4, rv b1, rv b16, iv (1 : Int32), iv (4 : Int32), iv (2 : Int32), iv (1 : Int32), .unset] [(.int (1 : Int32)), (.ref b1)])) rfl rfl (hb hby at_170) _ (XS.bipush X209.here hx rfl (hb hby at_171) (XS.icmpNo X209.here hx rfl (hb hby at_173) rfl (feq hs1).1 (XS.iconst X209.here hx rfl (hb hby at_176) (XS.goto X209.here hx rfl (pc0 := 177) (pc' := 181) rfl (hb hby at_177) (by decide) (by decide) (XS.istore X209.here hx rfl (hb hby at_181) rfl (l' := #[iv p0, iv p1, iv p2, iv p3, iv p4, rv b1, rv b16, iv (1 : Int32), iv (4 : Int32), iv (2 : Int32), iv (1 : Int32), iv (1 : Int32)]) rfl (XS.iload X209.here hx rfl (hb hby at_183) rfl (XS.ifNo X209.here hx rfl (hb hby at_185) rfl ((if0 _ _).trans (feq (by decide : ¬ ((1 : Int32) = (0 : Int32)))).1) (XS.iload X209.here hx rfl (hb hby at_188) rfl (XS.ifNo X209.here hx rfl (hb hby at_190) rfl ((if0 _ _).trans (feq (by decide : ¬ ((1 : Int32) = (0 : Int32)))).1) (XS.iconst X209.here hx rfl (hb hby at_193) (XS.goto X209.here hx rfl (pc0 := 194) (pc' := 198) rfl (hb hby at_194) (by decide) (by decide) k)))))))))))) ?_
       obtain ⟨fs, hr, hrun, hended, hW, hsame⟩ := X209.leave (v := some (.int (1 : Int32))) (fun h => by rw [Bd.returns] at h; cases h)
       exact ⟨_, _, retN X209 hx (t := .boolean) Bd.returns (by simp) (hb hby at_198) hr, hrun, hended, _, _, rfl, (show Qrm0 Z p0 p1 p2 p3 p4 cs fv h0 n0 _ T209.heap _ from (by rw [eh209]; exact ⟨rfl, N209⟩)), ⟨_, rfl⟩, hW, hsame.mono (by decide) (by decide)⟩
     · skip
       refine own_go (b := (T187.setTop (mkF m 105 #[iv p0, iv p1, iv p2, iv p3, iv p4, rv b1, rv b16, iv (1 : Int32), iv (4 : Int32), iv (1 : Int32), .unset, .unset] [(.int (4 : Int32)), (.int (1 : Int32)), (.int (0 : Int32)), (.ref b1)]))) (fun _ k => XS.istore X187.here hx rfl (hb hby at_80) rfl (l' := #[iv p0, iv p1, iv p2, iv p3, iv p4, rv b1, rv b16, iv (1 : Int32), iv (4 : Int32), iv (1 : Int32), .unset, .unset]) rfl (XS.iload X187.here hx rfl (hb hby at_82) rfl (XS.iload X187.here hx rfl (hb hby at_84) rfl (XS.icmpNo X187.here hx rfl (hb hby at_86) rfl (flt (by decide : ¬ ((1 : Int32) < (1 : Int32)))).1 (XS.iload X187.here hx rfl (hb hby at_89) rfl (XS.iload X187.here hx rfl (hb hby at_91) rfl (XS.icmpYes X187.here hx rfl (pc0 := 93) (pc' := 98) rfl (hb hby at_93) rfl (flt (by decide : ¬ ((4 : Int32) < (1 : Int32)))).2.2.2 (by decide) (by decide) (XS.aload X187.here hx rfl (hb hby at_98) rfl rfl (XS.iconst X187.here hx rfl (hb hby at_100) (XS.iload X187.here hx rfl (hb hby at_101) rfl (XS.iload X187.here hx rfl (hb hby at_103) rfl k))))))))))) ?_
       refine own_stat (W := 0) X187 hx hZ hown eh187 (ow hw 40 rfl) (ow hw 41 rfl) (rmsoA l Z a0 hw [] b1 (0 : Int32) (1 : Int32) (4 : Int32) T18.heap n0 Zs27 (by decide)) (ow hw 42 rfl) (ow hw 3 rfl) rfl (by rw [hml]; rfl) rfl (hb hby at_105) (lenOf pd___CIII_Z rfl) rfl (by decide) (fun T211 v211 Ll211 X211 hQ211 => ?_)
       obtain ⟨rfl, N211q, eh211⟩ := hQ211
       have N211 := Fr.app N187 N211q
       refine own_go (b := (T211.setTop (mkF m 118 #[iv p0, iv p1, iv p2, iv p3, iv p4, rv b1, rv b16, iv (1 : Int32), iv (4 : Int32), iv (1 : Int32), .unset, .unset] [(.int (4 : Int32)), (.int (1 : Int32)), (.int (1 : Int32)), (.ref b1)]))) (fun _ k => XS.ifNo X211.here hx rfl (hb hby at_108) rfl ((if0 _ _).trans (feq (by decide : ¬ ((1 : Int32) = (0 : Int32)))).1) (XS.aload X211.here hx rfl (hb hby at_111) rfl rfl (XS.iconst X211.here hx rfl (hb hby at_113) (XS.iload X211.here hx rfl (hb hby at_114) rfl (XS.iload X211.here hx rfl (hb hby at_116) rfl k))))) ?_
       have nx213 : b1 ≠ b16 := (own_ne V1.lt (own_tr (own_tr (own_tr (Keep.of_wr W4).1 (Keep.of_wr W8).1) (Keep.of_wr W11).1) (Keep.of_wr W14).1) (Nat.le_of_eq g16.symm))
       have F214 := F26.keep K18 (ninS nx213 nin0)
       refine own_stat (W := 0) X211 hx hZ hown eh211 (ow hw 40 rfl) (ow hw 41 rfl) (rmsoC1 l Z a0 hw [] b1 kl1 (nar .char rc_3) (nar .char rc_7) (nar .char rc_10) (nar .char rc_13) (1 : Int32) (4 : Int32) T18.heap n0 Zs27 F214 (by decide : ¬ ((1 : Int32) < (1 : Int32))) (by decide) hs1) (ow hw 42 rfl) (ow hw 3 rfl) rfl (by rw [hml]; rfl) rfl (hb hby at_118) (lenOf pd___CIII_Z rfl) rfl (by decide) (fun T212 v212 Ll212 X212 hQ212 => ?_)
       obtain ⟨rfl, N212q, eh212⟩ := hQ212
       have N212 := Fr.app N211 N212q
       refine own_go (b := (T212.setTop (mkF m 131 #[iv p0, iv p1, iv p2, iv p3, iv p4, rv b1, rv b16, iv (1 : Int32), iv (4 : Int32), iv (1 : Int32), .unset, .unset] [(.int (4 : Int32)), (.int (1 : Int32)), (.int (2 : Int32)), (.ref b1)]))) (fun _ k => XS.ifNo X212.here hx rfl (hb hby at_121) rfl ((if0 _ _).trans (feq (by decide : ¬ ((1 : Int32) = (0 : Int32)))).1) (XS.aload X212.here hx rfl (hb hby at_124) rfl rfl (XS.iconst X212.here hx rfl (hb hby at_126) (XS.iload X212.here hx rfl (hb hby at_127) rfl (XS.iload X212.here hx rfl (hb hby at_129) rfl k))))) ?_
       refine own_stat (W := 0) X212 hx hZ hown eh212 (ow hw 40 rfl) (ow hw 41 rfl) (rmsoC2 l Z a0 hw [] b1 kl1 (nar .char rc_3) (nar .char rc_7) (nar .char rc_10) (nar .char rc_13) (1 : Int32) (4 : Int32) T18.heap n0 Zs27 F214 (by decide) (by decide) hs2) (ow hw 42 rfl) (ow hw 3 rfl) rfl (by rw [hml]; rfl) rfl (hb hby at_131) (lenOf pd___CIII_Z rfl) rfl (by decide) (fun T215 v215 Ll215 X215 hQ215 => ?_)
       obtain ⟨rfl, N215q, eh215⟩ := hQ215
       have N215 := Fr.app N212 N215q
       refine own_go (b := (T215.setTop (mkF m 144 #[iv p0, iv p1, iv p2, iv p3, iv p4, rv b1, rv b16, iv (1 : Int32), iv (4 : Int32), iv (1 : Int32), .unset, .unset] [(.int (4 : Int32)), (.int (1 : Int32)), (.int (3 : Int32)), (.ref b1)]))) (fun _ k => XS.ifNo X215.here hx rfl (hb hby at_134) rfl ((if0 _ _).trans (feq (by decide : ¬ ((1 : Int32) = (0 : Int32)))).1) (XS.aload X215.here hx rfl (hb hby at_137) rfl rfl (XS.iconst X215.here hx rfl (hb hby at_139) (XS.iload X215.here hx rfl (hb hby at_140) rfl (XS.iload X215.here hx rfl (hb hby at_142) rfl k))))) ?_
       refine own_stat (W := 0) X215 hx hZ hown eh215 (ow hw 40 rfl) (ow hw 41 rfl) (rmsoC3 l Z a0 hw [] b1 kl1 (nar .char rc_3) (nar .char rc_7) (nar .char rc_10) (nar .char rc_13) (1 : Int32) (4 : Int32) T18.heap n0 Zs27 F214 (by decide) (by decide) hs3) (ow hw 42 rfl) (ow hw 3 rfl) rfl (by rw [hml]; rfl) rfl (hb hby at_144) (lenOf pd___CIII_Z rfl) rfl (by decide) (fun T216 v216 Ll216 X216 hQ216 => ?_)
       obtain ⟨rfl, N216q, eh216⟩ := hQ216
       have N216 := Fr.app N215 N216q
       refine own_go (b := (T216.setTop (mkF m 198 #[iv p0, iv p1, iv p2, iv p3, iv p4, rv b1, rv b16, iv (1 : Int32), iv (4 : Int32), iv (1 : Int32), iv (1 : Int32), iv (1 : Int32)] [(.int (1 : Int32))]))) (fun _ k => XS.ifNo X216.here hx rfl (hb hby at_147) rfl ((if0 _ _).trans (feq (by decide : ¬ ((1 : Int32) = (0 : Int32)))).1) (XS.iconst X216.here hx rfl (hb hby at_150) (XS.goto X216.here hx rfl (pc0 := 151) (pc' := 155) rfl (hb hby at_151) (by decide) (by decide) (XS.istore X216.here hx rfl (hb hby at_155) rfl (l' := #[iv p0, iv p1, iv p2, iv p3, iv p4, rv b1, rv b16, iv (1 : Int32), iv (4 : Int32), iv (1 : Int32), iv (1 : Int32), .unset]) rfl (XS.iload X216.here hx rfl (hb hby at_157) rfl (XS.iload X216.here hx rfl (hb hby at_159) rfl (XS.icmpYes X216.here hx rfl (pc0 := 161) (pc' := 176) rfl (hb hby at_161) rfl (teq (rfl : (1 : Int32) = (1 : Int32))).1 (by decide) (by decide) (XS.iconst X216.here hx rfl (hb hby at_176) (XS.goto X216.here hx rfl (pc0 := 177) (pc' := 181) rfl (hb hby at_177) (by decide) (by decide) (XS.istore X216.here hx rfl (hb hby at_181) rfl (l' := #[iv p0, iv p1, iv p2, iv p3, iv p4, rv b1, rv b16, iv (1 : Int32), iv (4 : Int32), iv (1 : Int32), iv (1 : Int32), iv (1 : Int32)]) rfl (XS.iload X216.here hx rfl (hb hby at_183) rfl (XS.ifNo X216.here hx rfl (hb hby at_185) rfl ((if0 _ _).trans (feq (by decide : ¬ ((1 : Int32) = (0 : Int32)))).1) (XS.iload X216.here hx rfl (hb hby at_188) rfl (XS.ifNo X216.here hx rfl (hb hby at_190) rfl ((if0 _ _).trans (feq (by decide : ¬ ((1 : Int32) = (0 : Int32)))).1) (XS.iconst X216.here hx rfl (hb hby at_193) (XS.goto X216.here hx rfl (pc0 := 194) (pc' := 198) rfl (hb hby at_194) (by decide) (by decide) k)))))))))))))))) ?_
       obtain ⟨fs, hr, hrun, hended, hW, hsame⟩ := X216.leave (v := some (.int (1 : Int32))) (fun h => by rw [Bd.returns] at h; cases h)
       exact ⟨_, _, retN X216 hx (t := .boolean) Bd.returns (by simp) (hb hby at_198) hr, hrun, hended, _, _, rfl, (show Qrm0 Z p0 p1 p2 p3 p4 cs fv h0 n0 _ T216.heap _ from (by rw [eh216]; exact ⟨rfl, N216⟩)), ⟨_, rfl⟩, hW, hsame.mono (by decide) (by decide)⟩
 · rw [hk]
   refine own_go (b := (T18.setTop (mkF m 68 #[iv p0, iv p1, iv p2, iv p3, iv p4, rv b1, rv b16, iv (2 : Int32), .unset, .unset, .unset, .unset] [(.int (((p4.toUInt32 >>> ((3 : Int32) &&& 31).toUInt32).toInt32) % (3 : Int32))), (.int (2 : Int32))]))) (fun _ k => XS.istore X18.here hx rfl (hb hby at_55) rfl (l' := #[iv p0, iv p1, iv p2, iv p3, iv p4, rv b1, rv b16, iv (2 : Int32), .unset, .unset, .unset, .unset]) rfl (XS.iload X18.here hx rfl (hb hby at_57) rfl (XS.iload X18.here hx rfl (hb hby at_59) rfl (XS.iconst X18.here hx rfl (hb hby at_61) (XS.iushr X18.here hx rfl (hb hby at_62) rfl (XS.iconst X18.here hx rfl (hb hby at_63) (XS.iload X18.here hx rfl (hb hby at_64) rfl (XS.isub X18.here hx rfl (hb hby at_66) rfl (iremM (g := (mkF m 67 #[iv p0, iv p1, iv p2, iv p3, iv p4, rv b1, rv b16, iv (2 : Int32), .unset, .unset, .unset, .unset] [(.int (3 : Int32)), (.int ((p4.toUInt32 >>> ((3 : Int32) &&& 31).toUInt32).toInt32)), (.int (2 : Int32))])) X18 hx rfl (hb hby at_67) rfl (by decide) k))))))))) ?_
   rcases own_mod3 _ (own_u3 p4) with hl | hl | hl
   · rw [hl]
     refine own_go (b := (T18.setTop (mkF m 77 #[iv p0, iv p1, iv p2, iv p3, iv p4, rv b1, rv b16, iv (2 : Int32), iv (2 : Int32), .unset, .unset, .unset] [(.int (2 : Int32)), (.int (2 : Int32)), (.ref b16)]))) (fun _ k => XS.iadd X18.here hx rfl (hb hby at_68) rfl (XS.istore X18.here hx rfl (hb hby at_69) rfl (l' := #[iv p0, iv p1, iv p2, iv p3, iv p4, rv b1, rv b16, iv (2 : Int32), iv (2 : Int32), .unset, .unset, .unset]) rfl (XS.aload X18.here hx rfl (hb hby at_71) rfl rfl (XS.iload X18.here hx rfl (hb hby at_73) rfl (XS.iload X18.here hx rfl (hb hby at_75) rfl k))))) ?_
     have O218 := O24.keep K18 (allS gx25 all0)
     have F219 := A16.keep K18
     refine own_stat (W := 0) X18 hx hZ hown rfl (ow hw 36 rfl) (ow hw 37 rfl) (rmts2_2 l Z a0 hw [] b16 (nar .char rc_3) (nar .char rc_7) (nar .char rc_10) (nar .char rc_13) cs fv T18.heap n0 Zs27 O218 S_COMPACT_STRINGS hcs S__assertionsDisabled S_HI_BYTE_SHIFT S_LO_BYTE_SHIFT S_SIOOBE_FORMATTER hfv F219 P18_0) (ow hw 39 rfl) (ow hw 38 rfl) rfl (by rw [hml]; rfl) rfl (hb hby at_77) (lenOf pd__Ljava_lang_String_II_I rfl) rfl (by decide) (fun T217 v217 Ll217 X217 hQ217 => ?_)
     obtain ⟨r_217, rfl, N217q, eh217, P217_0⟩ := hQ217
     have N217 := Fr.app N18 N217q
     obtain rfl := P217_0
     refine own_go (b := (T217.setTop (mkF m 105 #[iv p0, iv p1, iv p2, iv p3, iv p4, rv b1, rv b16, iv (2 : Int32), iv (2 : Int32), iv (2 : Int32), .unset, .unset] [(.int (2 : Int32)), (.int (2 : Int32)), (.int (0 : Int32)), (.ref b1)]))) (fun _ k => XS.istore X217.here hx rfl (hb hby at_80) rfl (l' := #[iv p0, iv p1, iv p2, iv p3, iv p4, rv b1, rv b16, iv (2 : Int32), iv (2 : Int32), iv (2 : Int32), .unset, .unset]) rfl (XS.iload X217.here hx rfl (hb hby at_82) rfl (XS.iload X217.here hx rfl (hb hby at_84) rfl (XS.icmpNo X217.here hx rfl (hb hby at_86) rfl (flt (by decide : ¬ ((2 : Int32) < (2 : Int32)))).1 (XS.iload X217.here hx rfl (hb hby at_89) rfl (XS.iload X217.here hx rfl (hb hby at_91) rfl (XS.icmpYes X217.here hx rfl (pc0 := 93) (pc' := 98) rfl (hb hby at_93) rfl (flt (by decide : ¬ ((2 : Int32) < (2 : Int32)))).2.2.2 (by decide) (by decide) (XS.aload X217.here hx rfl (hb hby at_98) rfl rfl (XS.iconst X217.here hx rfl (hb hby at_100) (XS.iload X217.here hx rfl (hb hby at_101) rfl (XS.iload X217.here hx rfl (hb hby at_103) rfl k))))))))))) ?_
     refine own_stat (W := 0) X217 hx hZ hown eh217 (ow hw 40 rfl) (ow hw 41 rfl) (rmsoA l Z a0 hw [] b1 (0 : Int32) (2 : Int32) (2 : Int32) T18.heap n0 Zs27 (by decide)) (ow hw 42 rfl) (ow hw 3 rfl) rfl (by rw [hml]; rfl) rfl (hb hby at_105) (lenOf pd___CIII_Z rfl) rfl (by decide) (fun T220 v220 Ll220 X220 hQ220 => ?_)
     obtain ⟨rfl, N220q, eh220⟩ := hQ220
     have N220 := Fr.app N217 N220q
     refine own_go (b := (T220.setTop (mkF m 118 #[iv p0, iv p1, iv p2, iv p3, iv p4, rv b1, rv b16, iv (2 : Int32), iv (2 : Int32), iv (2 : Int32), .unset, .unset] [(.int (2 : Int32)), (.int (2 : Int32)), (.int (1 : Int32)), (.ref b1)]))) (fun _ k => XS.ifNo X220.here hx rfl (hb hby at_108) rfl ((if0 _ _).trans (feq (by decide : ¬ ((1 : Int32) = (0 : Int32)))).1) (XS.aload X220.here hx rfl (hb hby at_111) rfl rfl (XS.iconst X220.here hx rfl (hb hby at_113) (XS.iload X220.here hx rfl (hb hby at_114) rfl (XS.iload X220.here hx rfl (hb hby at_116) rfl k))))) ?_
     refine own_stat (W := 0) X220 hx hZ hown eh220 (ow hw 40 rfl) (ow hw 41 rfl) (rmsoA l Z a0 hw [] b1 (1 : Int32) (2 : Int32) (2 : Int32) T18.heap n0 Zs27 (by decide)) (ow hw 42 rfl) (ow hw 3 rfl) rfl (by rw [hml]; rfl) rfl (hb hby at_118) (lenOf pd___CIII_Z rfl) rfl (by decide) (fun T221 v221 Ll221 X221 hQ221 => ?_)
     obtain ⟨rfl, N221q, eh221⟩ := hQ221
     have N221 := Fr.app N220 N221q
     refine own_go (b := (T221.setTop (mkF m 131 #[iv p0, iv p1, iv p2, iv p3, iv p4, rv b1, rv b16, iv (2 : Int32), iv (2 : Int32), iv (2 : Int32), .unset, .unset] [(.int (2 : Int32)), (.int (2 : Int32)), (.int (2 : Int32)), (.ref b1)]))) (fun _ k => XS.ifNo X221.here hx rfl (hb hby at_121) rfl ((if0 _ _).trans (feq (by decide : ¬ ((1 : Int32) = (0 : Int32)))).1) (XS.aload X221.here hx rfl (hb hby at_124) rfl rfl (XS.iconst X221.here hx rfl (hb hby at_126) (XS.iload X221.here hx rfl (hb hby at_127) rfl (XS.iload X221.here hx rfl (hb hby at_129) rfl k))))) ?_
     refine own_stat (W := 0) X221 hx hZ hown eh221 (ow hw 40 rfl) (ow hw 41 rfl) (rmsoB l Z a0 hw [] b1 (2 : Int32) (2 : Int32) (2 : Int32) T18.heap n0 Zs27 (by decide : ¬ ((2 : Int32) < (2 : Int32))) (by decide : ¬ ((2 : Int32) < (2 : Int32)))) (ow hw 42 rfl) (ow hw 3 rfl) rfl (by rw [hml]; rfl) rfl (hb hby at_131) (lenOf pd___CIII_Z rfl) rfl (by decide) (fun T222 v222 Ll222 X222 hQ222 => ?_)
     obtain ⟨rfl, N222q, eh222⟩ := hQ222
     have N222 := Fr.app N221 N222q
     refine own_go (b := (T222.setTop (mkF m 144 #[iv p0, iv p1, iv p2, iv p3, iv p4, rv b1, rv b16, iv (2 : Int32), iv (2 : Int32), iv (2 : Int32), .unset, .unset] [(.int (2 : Int32)), (.int (2 : Int32)), (.int (3 : Int32)), (.ref b1)]))) (fun _ k => XS.ifNo X222.here hx rfl (hb hby at_134) rfl ((if0 _ _).trans (feq (by decide : ¬ ((1 : Int32) = (0 : Int32)))).1) (XS.aload X222.here hx rfl (hb hby at_137) rfl rfl (XS.iconst X222.here hx rfl (hb hby at_139) (XS.iload X222.here hx rfl (hb hby at_140) rfl (XS.iload X222.here hx rfl (hb hby at_142) rfl k))))) ?_
     refine own_stat (W := 0) X222 hx hZ hown eh222 (ow hw 40 rfl) (ow hw 41 rfl) (rmsoB l Z a0 hw [] b1 (3 : Int32) (2 : Int32) (2 : Int32) T18.heap n0 Zs27 (by decide) (by decide)) (ow hw 42 rfl) (ow hw 3 rfl) rfl (by rw [hml]; rfl) rfl (hb hby at_144) (lenOf pd___CIII_Z rfl) rfl (by decide) (fun T223 v223 Ll223 X223 hQ223 => ?_)
     obtain ⟨rfl, N223q, eh223⟩ := hQ223
     have N223 := Fr.app N222 N223q
     refine own_go (b := (T223.setTop (mkF m 198 #[iv p0, iv p1, iv p2, iv p3, iv p4, rv b1, rv b16, iv (2 : Int32), iv (2 : Int32), iv (2 : Int32), iv (1 : Int32), iv (1 : Int32)] [(.int (1 : Int32))]))) (fun _ k => XS.ifNo X223.here hx rfl (hb hby at_147) rfl ((if0 _ _).trans (feq (by decide : ¬ ((1 : Int32) = (0 : Int32)))).1) (XS.iconst X223.here hx rfl (hb hby at_150) (XS.goto X223.here hx rfl (pc0 := 151) (pc' := 155) rfl (hb hby at_151) (by decide) (by decide) (XS.istore X223.here hx rfl (hb hby at_155) rfl (l' := #[iv p0, iv p1, iv p2, iv p3, iv p4, rv b1, rv b16, iv (2 : Int32), iv (2 : Int32), iv (2 : Int32), iv (1 : Int32), .unset]) rfl (XS.iload X223.here hx rfl (hb hby at_157) rfl (XS.iload X223.here hx rfl (hb hby at_159) rfl (XS.icmpYes X223.here hx rfl (pc0 := 161) (pc' := 176) rfl (hb hby at_161) rfl (teq (rfl : (2 : Int32) = (2 : Int32))).1 (by decide) (by decide) (XS.iconst X223.here hx rfl (hb hby at_176) (XS.goto X223.here hx rfl (pc0 := 177) (pc' := 181) rfl (hb hby at_177) (by decide) (by decide) (XS.istore X223.here hx rfl (hb hby at_181) rfl (l' := #[iv p0, iv p1, iv p2, iv p3, iv p4, rv b1, rv b16, iv (2 : Int32), iv (2 : Int32), iv (2 : Int32), iv (1 : Int32), iv (1 : Int32)]) rfl (XS.iload X223.here hx rfl (hb hby at_183) rfl (XS.ifNo X223.here hx rfl (hb hby at_185) rfl ((if0 _ _).trans (feq (by decide : ¬ ((1 : Int32) = (0 : Int32)))).1) (XS.iload X223.here hx rfl (hb hby at_188) rfl (XS.ifNo X223.here hx rfl (hb hby at_190) rfl ((if0 _ _).trans (feq (by decide : ¬ ((1 : Int32) = (0 : Int32)))).1) (XS.iconst X223.here hx rfl (hb hby at_193) (XS.goto X223.here hx rfl (pc0 := 194) (pc' := 198) rfl (hb hby at_194) (by decide) (by decide) k)))))))))))))))) ?_
     obtain ⟨fs, hr, hrun, hended, hW, hsame⟩ := X223.leave (v := some (.int (1 : Int32))) (fun h => by rw [Bd.returns] at h; cases h)
     exact ⟨_, _, retN X223 hx (t := .boolean) Bd.returns (by simp) (hb hby at_198) hr, hrun, hended, _, _, rfl, (show Qrm0 Z p0 p1 p2 p3 p4 cs fv h0 n0 _ T223.heap _ from (by rw [eh223]; exact ⟨rfl, N223⟩)), ⟨_, rfl⟩, hW, hsame.mono (by decide) (by decide)⟩
   · rw [hl]
     refine own_go (b := (T18.setTop (mkF m 77 #[iv p0, iv p1, iv p2, iv p3, iv p4, rv b1, rv b16, iv (2 : Int32), iv (3 : Int32), .unset, .unset, .unset] [(.int (3 : Int32)), (.int (2 : Int32)), (.ref b16)]))) (fun _ k => XS.iadd X18.here hx rfl (hb hby at_68) rfl (XS.istore X18.here hx rfl (hb hby at_69) rfl (l' := #[iv p0, iv p1, iv p2, iv p3, iv p4, rv b1, rv b16, iv (2 : Int32), iv (3 : Int32), .unset, .unset, .unset]) rfl (XS.aload X18.here hx rfl (hb hby at_71) rfl rfl (XS.iload X18.here hx rfl (hb hby at_73) rfl (XS.iload X18.here hx rfl (hb hby at_75) rfl k))))) ?_
     have O225 := O24.keep K18 (allS gx25 all0)
     have F226 := A16.keep K18
     refine own_stat (W := 0) X18 hx hZ hown rfl (ow hw 36 rfl) (ow hw 37 rfl) (rmts2_3 l Z a0 hw [] b16 (nar .char rc_3) (nar .char rc_7) (nar .char rc_10) (nar .char rc_13) cs fv T18.heap n0 Zs27 O225 S_COMPACT_STRINGS hcs S__assertionsDisabled S_HI_BYTE_SHIFT S_LO_BYTE_SHIFT S_SIOOBE_FORMATTER hfv F226 P18_0) (ow hw 39 rfl) (ow hw 38 rfl) rfl (by rw [hml]; rfl) rfl (hb hby at_77) (lenOf pd__Ljava_lang_String_II_I rfl) rfl (by decide) (fun T224 v224 Ll224 X224 hQ224 => ?_)
     obtain ⟨r_224, rfl, N224q, eh224, P224_0⟩ := hQ224
     have N224 := Fr.app N18 N224q
     rcases P224_0 with ⟨rfl, hs2⟩ | ⟨rfl, hs2⟩
     · skip
       refine own_go (b := (T224.setTop (mkF m 105 #[iv p0, iv p1, iv p2, iv p3, iv p4, rv b1, rv b16, iv (2 : Int32), iv (3 : Int32), iv (3 : Int32), .unset, .unset] [(.int (3 : Int32)), (.int (3 : Int32)), (.int (0 : Int32)), (.ref b1)]))) (fun _ k => XS.istore X224.here hx rfl (hb hby at_80) rfl (l' := #[iv p0, iv p1, iv p2, iv p3, iv p4, rv b1, rv b16, iv (2 : Int32), iv (3 : Int32), iv (3 : Int32), .unset, .unset]) rfl (XS.iload X224.here hx rfl (hb hby at_82) rfl (XS.iload X224.here hx rfl (hb hby at_84) rfl (XS.icmpNo X224.here hx rfl (hb hby at_86) rfl (flt (by decide : ¬ ((3 : Int32) < (2 : Int32)))).1 (XS.iload X224.here hx rfl (hb hby at_89) rfl (XS.iload X224.here hx rfl (hb hby at_91) rfl (XS.icmpYes X224.here hx rfl (pc0 := 93) (pc' := 98) rfl (hb hby at_93) rfl (flt (by decide : ¬ ((3 : Int32) < (3 : Int32)))).2.2.2 (by decide) (by decide) (XS.aload X224.here hx rfl (hb hby at_98) rfl rfl (XS.iconst X224.here hx rfl (hb hby at_100) (XS.iload X224.here hx rfl (hb hby at_101) rfl (XS.iload X224.here hx rfl (hb hby at_103) rfl k))))))))))) ?_
       refine own_stat (W := 0) X224 hx hZ hown eh224 (ow hw 40 rfl) (ow hw 41 rfl) (rmsoA l Z a0 hw [] b1 (0 : Int32) (3 : Int32) (3 : Int32) T18.heap n0 Zs27 (by decide)) (ow hw 42 rfl) (ow hw 3 rfl) rfl (by rw [hml]; rfl) rfl (hb hby at_105) (lenOf pd___CIII_Z rfl) rfl (by decide) (fun T227 v227 Ll227 X227 hQ227 => ?_)
       obtain ⟨rfl, N227q, eh227⟩ := hQ227
       have N227 := Fr.app N224 N227q
       refine own_go (b := (T227.setTop (mkF m 118 #[iv p0, iv p1, iv p2, iv p3, iv p4, rv b1, rv b16, iv (2 : Int32), iv (3 : Int32), iv (3 : Int32), .unset, .unset] [(.int (3 : Int32)), (.int (3 : Int32)), (.int (1 : Int32)), (.ref b1)]))) (fun _ k => XS.ifNo X227.here hx rfl (hb hby at_108) rfl ((if0 _ _).trans (feq (by decide : ¬ ((1 : Int32) = (0 : Int32)))).1) (XS.aload X227.here hx rfl (hb hby at_111) rfl rfl (XS.iconst X227.here hx rfl (hb hby at_113) (XS.iload X227.here hx rfl (hb hby at_114) rfl (XS.iload X227.here hx rfl (hb hby at_116) rfl k))))) ?_
       refine own_stat (W := 0) X227 hx hZ hown eh227 (ow hw 40 rfl) (ow hw 41 rfl) (rmsoA l Z a0 hw [] b1 (1 : Int32) (3 : Int32) (3 : Int32) T18.heap n0 Zs27 (by decide)) (ow hw 42 rfl) (ow hw 3 rfl) rfl (by rw [hml]; rfl) rfl (hb hby at_118) (lenOf pd___CIII_Z rfl) rfl (by decide) (fun T228 v228 Ll228 X228 hQ228 => ?_)
       obtain ⟨rfl, N228q, eh228⟩ := hQ228
       have N228 := Fr.app N227 N228q
       refine own_go (b := (T228.setTop (mkF m 131 #[iv p0, iv p1, iv p2, iv p3, iv p4, rv b1, rv b16, iv (2 : Int32), iv (3 : Int32), iv (3 : Int32), .unset, .unset] [(.int (3 : Int32)), (.int (3 : Int32)), (.int (2 : Int32)), (.ref b1)]))) (fun _ k => XS.ifNo X228.here hx rfl (hb hby at_121) rfl ((if0 _ _).trans (feq (by decide : ¬ ((1 : Int32) = (0 : Int32)))).1) (XS.aload X228.here hx rfl (hb hby at_124) rfl rfl (XS.iconst X228.here hx rfl (hb hby at_126) (XS.iload X228.here hx rfl (hb hby at_127) rfl (XS.iload X228.here hx rfl (hb hby at_129) rfl k))))) ?_
       refine own_stat (W := 0) X228 hx hZ hown eh228 (ow hw 40 rfl) (ow hw 41 rfl) (rmsoA l Z a0 hw [] b1 (2 : Int32) (3 : Int32) (3 : Int32) T18.heap n0 Zs27 (by decide)) (ow hw 42 rfl) (ow hw 3 rfl) rfl (by rw [hml]; rfl) rfl (hb hby at_131) (lenOf pd___CIII_Z rfl) rfl (by decide) (fun T229 v229 Ll229 X229 hQ229 => ?_)
       obtain ⟨rfl, N229q, eh229⟩ := hQ229
       have N229 := Fr.app N228 N229q
       refine own_go (b := (T229.setTop (mkF m 144 #[iv p0, iv p1, iv p2, iv p3, iv p4, rv b1, rv b16, iv (2 : Int32), iv (3 : Int32), iv (3 : Int32), .unset, .unset] [(.int (3 : Int32)), (.int (3 : Int32)), (.int (3 : Int32)), (.ref b1)]))) (fun _ k => XS.ifNo X229.here hx rfl (hb hby at_134) rfl ((if0 _ _).trans (feq (by decide : ¬ ((1 : Int32) = (0 : Int32)))).1) (XS.aload X229.here hx rfl (hb hby at_137) rfl rfl (XS.iconst X229.here hx rfl (hb hby at_139) (XS.iload X229.here hx rfl (hb hby at_140) rfl (XS.iload X229.here hx rfl (hb hby at_142) rfl k))))) ?_
       refine own_stat (W := 0) X229 hx hZ hown eh229 (ow hw 40 rfl) (ow hw 41 rfl) (rmsoB l Z a0 hw [] b1 (3 : Int32) (3 : Int32) (3 : Int32) T18.heap n0 Zs27 (by decide : ¬ ((3 : Int32) < (3 : Int32))) (by decide : ¬ ((3 : Int32) < (3 : Int32)))) (ow hw 42 rfl) (ow hw 3 rfl) rfl (by rw [hml]; rfl) rfl (hb hby at_144) (lenOf pd___CIII_Z rfl) rfl (by decide) (fun T230 v230 Ll230 X230 hQ230 => ?_)
       obtain ⟨rfl, N230q, eh230⟩ := hQ230
       have N230 := Fr.app N229 N230q
       refine own_go (b := (T230.setTop (mkF m 170 #[iv p0, iv p1, iv p2, iv p3, iv p4, rv b1, rv b16, iv (2 : Int32), iv (3 : Int32), iv (3 : Int32), iv (1 : Int32), .unset] [(.int (2 : Int32)), (.ref b1)]))) (fun _ k => XS.ifNo X230.here hx rfl (hb hby at_147) rfl ((if0 _ _).trans (feq (by decide : ¬ ((1 : Int32) = (0 : Int32)))).1) (XS.iconst X230.here hx rfl (hb hby at_150) (XS.goto X230.here hx rfl (pc0 := 151) (pc' := 155) rfl (hb hby at_151) (by decide) (by decide) (XS.istore X230.here hx rfl (hb hby at_155) rfl (l' := #[iv p0, iv p1, iv p2, iv p3, iv p4, rv b1, rv b16, iv (2 : Int32), iv (3 : Int32), iv (3 : Int32), iv (1 : Int32), .unset]) rfl (XS.iload X230.here hx rfl (hb hby at_157) rfl (XS.iload X230.here hx rfl (hb hby at_159) rfl (XS.icmpNo X230.here hx rfl (hb hby at_161) rfl (feq (by decide : ¬ ((3 : Int32) = (2 : Int32)))).1 (XS.aload X230.here hx rfl (hb hby at_164) rfl rfl (XS.iload X230.here hx rfl (hb hby at_166) rfl (XS.iconst X230.here hx rfl (hb hby at_168) (XS.isub X230.here hx rfl (hb hby at_169) rfl k))))))))))) ?_
       have nx232 : b1 ≠ b16 := (own_ne V1.lt (own_tr (own_tr (own_tr (Keep.of_wr W4).1 (Keep.of_wr W8).1) (Keep.of_wr W11).1) (Keep.of_wr W14).1) (Nat.le_of_eq g16.symm))
       have F233 := F26.keep K18 (ninS nx232 nin0)
       obtain ⟨cl231, Ar231, ql231, Sz231, Nn231, Hl231, Gl231⟩ := id F233
       have hin231 : ¬ ((2 : Int32) < 0 ∨ cl231.slots.size ≤ ((2 : Int32)).toNatClampNeg) := inb_of Sz231 ⟨by decide, by decide⟩
       refine own_go (b := (T230.setTop (mkF m 198 #[iv p0, iv p1, iv p2, iv p3, iv p4, rv b1, rv b16, iv (2 : Int32), iv (3 : Int32), iv (3 : Int32), iv (1 : Int32), iv (1 : Int32)] [(.int (1 : Int32))]))) (fun _ k => X230.caload hx (j := (2 : Int32)) (v := (.int (nar .char rc_10))) (by rw [eh230]; exact Ar231.1) (State.isArrayOf_alike hZ.alike Ar231.2.1) Ar231.2.2 hin231 (Hl231.at hin231 rfl) (g := (mkF m 170 #[iv p0, iv p1, iv p2, iv p3, iv p4, rv b1, rv b16, iv (2 : Int32), iv (3 : Int32), iv (3 : Int32), iv (1 : Int32), .unset] [(.int (2 : Int32)), (.ref b1)])) rfl rfl (hb hby at_170) _ (XS.bipush X230.here hx rfl (hb hby at_171) (XS.icmpNo X230.here hx rfl (hb hby at_173) rfl (feq hs2).1 (XS.iconst X230.here hx rfl (hb hby at_176) (XS.goto X230.here hx rfl (pc0 := 177) (pc' := 181) rfl (hb hby at_177) (by decide) (by decide) (XS.istore X230.here hx rfl (hb hby at_181) rfl (l' := #[iv p0, iv p1, iv p2, iv p3, iv p4, rv b1, rv b16, iv (2 : Int32), iv (3 : Int32), iv (3 : Int32), iv (1 : Int32), iv (1 : Int32)]) rfl (XS.iload X230.here hx rfl (hb hby at_183) rfl (XS.ifNo X230.here hx rfl (hb hby at_185) rfl ((if0 _ _).trans (feq (by decide : ¬ ((1 : Int32) = (0 : Int32)))).1) (XS.iload X230.here hx rfl (hb hby at_188) rfl (XS.ifNo X230.here hx rfl (hb hby at_190) rfl ((if0 _ _).trans (feq (by decide : ¬ ((1 : Int32) = (0 : Int32)))).1) (XS.iconst X230.here hx rfl (hb hby at_193) (XS.goto X230.here hx rfl (pc0 := 194) (pc' := 198) rfl (hb hby at_194) (by decide) (by decide) k)))))))))))) ?_
       obtain ⟨fs, hr, hrun, hended, hW, hsame⟩ := X230.leave (v := some (.int (1 : Int32))) (fun h => by rw [Bd.returns] at h; cases h)
       exact ⟨_, _, retN X230 hx (t := .boolean) Bd.returns (by simp) (hb hby at_198) hr, hrun, hended, _, _, rfl, (show Qrm0 Z p0 p1 p2 p3 p4 cs fv h0 n0 _ T230.heap _ from (by rw [eh230]; exact ⟨rfl, N230⟩)), ⟨_, rfl⟩, hW, hsame.mono (by decide) (by decide)⟩
     · skip
       refine own_go (b := (T224.setTop (mkF m 105 #[iv p0, iv p1, iv p2, iv p3, iv p4, rv b1, rv b16, iv (2 : Int32), iv (3 : Int32), iv (2 : Int32), .unset, .unset] [(.int (3 : Int32)), (.int (2 : Int32)), (.int (0 : Int32)), (.ref b1)]))) (fun _ k => XS.istore X224.here hx rfl (hb hby at_80) rfl (l' := #[iv p0, iv p1, iv p2, iv p3, iv p4, rv b1, rv b16, iv (2 : Int32), iv (3 : Int32), iv (2 : Int32), .unset, .unset]) rfl (XS.iload X224.here hx rfl (hb hby at_82) rfl (XS.iload X224.here hx rfl (hb hby at_84) rfl (XS.icmpNo X224.here hx rfl (hb hby at_86) rfl (flt (by decide : ¬ ((2 : Int32) < (2 : Int32)))).1 (XS.iload X224.here hx rfl (hb hby at_89) rfl (XS.iload X224.here hx rfl (hb hby at_91) rfl (XS.icmpYes X224.here hx rfl (pc0 := 93) (pc' := 98) rfl (hb hby at_93) rfl (flt (by decide : ¬ ((3 : Int32) < (2 : Int32)))).2.2.2 (by decide) (by decide) (XS.aload X224.here hx rfl (hb hby at_98) rfl rfl (XS.iconst X224.here hx rfl (hb hby at_100) (XS.iload X224.here hx rfl (hb hby at_101) rfl (XS.iload X224.here hx rfl (hb hby at_103) rfl k))))))))))) ?_
       refine own_stat (W := 0) X224 hx hZ hown eh224 (ow hw 40 rfl) (ow hw 41 rfl) (rmsoA l Z a0 hw [] b1 (0 : Int32) (2 : Int32) (3 : Int32) T18.heap n0 Zs27 (by decide)) (ow hw 42 rfl) (ow hw 3 rfl) rfl (by rw [hml]; rfl) rfl (hb hby at_105) (lenOf pd___CIII_Z rfl) rfl (by decide) (fun T234 v234 Ll234 X234 hQ234 => ?_)
       obtain ⟨rfl, N234q, eh234⟩ := hQ234
       have N234 := Fr.app N224 N234q
       refine own_go (b := (T234.setTop (mkF m 118 #[iv p0, iv p1, iv p2, iv p3, iv p4, rv b1, rv b16, iv (2 : Int32), iv (3 : Int32), iv (2 : Int32), .unset, .unset] [(.int (3 : Int32)), (.int (2 : Int32)), (.int (1 : Int32)), (.ref b1)]))) (fun _ k => XS.ifNo X234.here hx rfl (hb hby at_108) rfl ((if0 _ _).trans (feq (by decide : ¬ ((1 : Int32) = (0 : Int32)))).1) (XS.aload X234.here hx rfl (hb hby at_111) rfl rfl (XS.iconst X234.here hx rfl (hb hby at_113) (XS.iload X234.here hx rfl (hb hby at_114) rfl (XS.iload X234.here hx rfl (hb hby at_116) rfl k))))) ?_
       refine own_stat (W := 0) X234 hx hZ hown eh234 (ow hw 40 rfl) (ow hw 41 rfl) (rmsoA l Z a0 hw [] b1 (1 : Int32) (2 : Int32) (3 : Int32) T18.heap n0 Zs27 (by decide)) (ow hw 42 rfl) (ow hw 3 rfl) rfl (by rw [hml]; rfl) rfl (hb hby at_118) (lenOf pd___CIII_Z rfl) rfl (by decide) (fun T235 v235 Ll235 X235 hQ235 => ?_)
       obtain ⟨rfl, N235q, eh235⟩ := hQ235
       have N235 := Fr.app N234 N235q
       refine own_go (b := (T235.setTop (mkF m 131 #[iv p0, iv p1, iv p2, iv p3, iv p4, rv b1, rv b16, iv (2 : Int32), iv (3 : Int32), iv (2 : Int32), .unset, .unset] [(.int (3 : Int32)), (.int (2 : Int32)), (.int (2 : Int32)), (.ref b1)]))) (fun _ k => XS.ifNo X235.here hx rfl (hb hby at_121) rfl ((if0 _ _).trans (feq (by decide : ¬ ((1 : Int32) = (0 : Int32)))).1) (XS.aload X235.here hx rfl (hb hby at_124) rfl rfl (XS.iconst X235.here hx rfl (hb hby at_126) (XS.iload X235.here hx rfl (hb hby at_127) rfl (XS.iload X235.here hx rfl (hb hby at_129) rfl k))))) ?_
       have nx237 : b1 ≠ b16 := (own_ne V1.lt (own_tr (own_tr (own_tr (Keep.of_wr W4).1 (Keep.of_wr W8).1) (Keep.of_wr W11).1) (Keep.of_wr W14).1) (Nat.le_of_eq g16.symm))
       have F238 := F26.keep K18 (ninS nx237 nin0)
       refine own_stat (W := 0) X235 hx hZ hown eh235 (ow hw 40 rfl) (ow hw 41 rfl) (rmsoC2 l Z a0 hw [] b1 kl1 (nar .char rc_3) (nar .char rc_7) (nar .char rc_10) (nar .char rc_13) (2 : Int32) (3 : Int32) T18.heap n0 Zs27 F238 (by decide : ¬ ((2 : Int32) < (2 : Int32))) (by decide) hs2) (ow hw 42 rfl) (ow hw 3 rfl) rfl (by rw [hml]; rfl) rfl (hb hby at_131) (lenOf pd___CIII_Z rfl) rfl (by decide) (fun T236 v236 Ll236 X236 hQ236 => ?_)
       obtain ⟨rfl, N236q, eh236⟩ := hQ236
       have N236 := Fr.app N235 N236q
       refine own_go (b := (T236.setTop (mkF m 144 #[iv p0, iv p1, iv p2, iv p3, iv p4, rv b1, rv b16, iv (2 : Int32), iv (3 : Int32), iv (2 : Int32), .unset, .unset] [(.int (3 : Int32)), (.int (2 : Int32)), (.int (3 : Int32)), (.ref b1)]))) (fun _ k => XS.ifNo X236.here hx rfl (hb hby at_134) rfl ((if0 _ _).trans (feq (by decide : ¬ ((1 : Int32) = (0 : Int32)))).1) (XS.aload X236.here hx rfl (hb hby at_137) rfl rfl (XS.iconst X236.here hx rfl (hb hby at_139) (XS.iload X236.here hx rfl (hb hby at_140) rfl (XS.iload X236.here hx rfl (hb hby at_142) rfl k))))) ?_
       refine own_stat (W := 0) X236 hx hZ hown eh236 (ow hw 40 rfl) (ow hw 41 rfl) (rmsoB l Z a0 hw [] b1 (3 : Int32) (2 : Int32) (3 : Int32) T18.heap n0 Zs27 (by decide : ¬ ((3 : Int32) < (2 : Int32))) (by decide)) (ow hw 42 rfl) (ow hw 3 rfl) rfl (by rw [hml]; rfl) rfl (hb hby at_144) (lenOf pd___CIII_Z rfl) rfl (by decide) (fun T239 v239 Ll239 X239 hQ239 => ?_)
       obtain ⟨rfl, N239q, eh239⟩ := hQ239
       have N239 := Fr.app N236 N239q
       refine own_go (b := (T239.setTop (mkF m 198 #[iv p0, iv p1, iv p2, iv p3, iv p4, rv b1, rv b16, iv (2 : Int32), iv (3 : Int32), iv (2 : Int32), iv (1 : Int32), iv (1 : Int32)] [(.int (1 : Int32))]))) (fun _ k => XS.ifNo X239.here hx rfl (hb hby at_147) rfl ((if0 _ _).trans (feq (by decide : ¬ ((1 : Int32) = (0 : Int32)))).1) (XS.iconst X239.here hx rfl (hb hby at_150) (XS.goto X239.here hx rfl (pc0 := 151) (pc' := 155) rfl (hb hby at_151) (by decide) (by decide) (XS.istore X239.here hx rfl (hb hby at_155) rfl (l' := #[iv p0, iv p1, iv p2, iv p3, iv p4, rv b1, rv b16, iv (2 : Int32), iv (3 : Int32), iv (2 : Int32), iv (1 : Int32), .unset]) rfl (XS.iload X239.here hx rfl (hb hby at_157) rfl (XS.iload X239.here hx rfl (hb hby at_159) rfl (XS.icmpYes X239.here hx rfl (pc0 := 161) (pc' := 176) rfl (hb hby at_161) rfl (teq (rfl : (2 : Int32) = (2 : Int32))).1 (by decide) (by decide) (XS.iconst X239.here hx rfl (hb hby at_176) (XS.goto X239.here hx rfl (pc0 := 177) (pc' := 181) rfl (hb hby at_177) (by decide) (by decide) (XS.istore X239.here hx rfl (hb hby at_181) rfl (l' := #[iv p0, iv p1, iv p2, iv p3, iv p4, rv b1, rv b16, iv (2 : Int32), iv (3 : Int32), iv (2 : Int32), iv (1 : Int32), iv (1 : Int32)]) rfl (XS.iload X239.here hx rfl (hb hby at_183) rfl (XS.ifNo X239.here hx rfl (hb hby at_185) rfl ((if0 _ _).trans (feq (by decide : ¬ ((1 : Int32) = (0 : Int32)))).1) (XS.iload X239.here hx rfl (hb hby at_188) rfl (XS.ifNo X239.here hx rfl (hb hby at_190) rfl ((if0 _ _).trans (feq (by decide : ¬ ((1 : Int32) = (0 : Int32)))).1) (XS.iconst X239.here hx rfl (hb hby at_193) (XS.goto X239.here hx rfl (pc0 := 194) (pc' := 198) rfl (hb hby at_194) (by decide) (by decide) k)))))))))))))))) ?_
       obtain ⟨fs, hr, hrun, hended, hW, hsame⟩ := X239.leave (v := some (.int (1 : Int32))) (fun h => by rw [Bd.returns] at h; cases h)
       exact ⟨_, _, retN X239 hx (t := .boolean) Bd.returns (by simp) (hb hby at_198) hr, hrun, hended, _, _, rfl, (show Qrm0 Z p0 p1 p2 p3 p4 cs fv h0 n0 _ T239.heap _ from (by rw [eh239]; exact ⟨rfl, N239⟩)), ⟨_, rfl⟩, hW, hsame.mono (by decide) (by decide)⟩
   · rw [hl]
     refine own_go (b := (T18.setTop (mkF m 77 #[iv p0, iv p1, iv p2, iv p3, iv p4, rv b1, rv b16, iv (2 : Int32), iv (4 : Int32), .unset, .unset, .unset] [(.int (4 : Int32)), (.int (2 : Int32)), (.ref b16)]))) (fun _ k => XS.iadd X18.here hx rfl (hb hby at_68) rfl (XS.istore X18.here hx rfl (hb hby at_69) rfl (l' := #[iv p0, iv p1, iv p2, iv p3, iv p4, rv b1, rv b16, iv (2 : Int32), iv (4 : Int32), .unset, .unset, .unset]) rfl (XS.aload X18.here hx rfl (hb hby at_71) rfl rfl (XS.iload X18.here hx rfl (hb hby at_73) rfl (XS.iload X18.here hx rfl (hb hby at_75) rfl k))))) ?_
     have O241 := O24.keep K18 (allS gx25 all0)
     have F242 := A16.keep K18
     refine own_stat (W := 0) X18 hx hZ hown rfl (ow hw 36 rfl) (ow hw 37 rfl) (rmts2_4 l Z a0 hw [] b16 (nar .char rc_3) (nar .char rc_7) (nar .char rc_10) (nar .char rc_13) cs fv T18.heap n0 Zs27 O241 S_COMPACT_STRINGS hcs S__assertionsDisabled S_HI_BYTE_SHIFT S_LO_BYTE_SHIFT S_SIOOBE_FORMATTER hfv F242 P18_0) (ow hw 39 rfl) (ow hw 38 rfl) rfl (by rw [hml]; rfl) rfl (hb hby at_77) (lenOf pd__Ljava_lang_String_II_I rfl) rfl (by decide) (fun T240 v240 Ll240 X240 hQ240 => ?_)
     obtain ⟨r_240, rfl, N240q, eh240, P240_0⟩ := hQ240
     have N240 := Fr.app N18 N240q
     rcases P240_0 with ⟨rfl, hs3⟩ | ⟨rfl, hs3, hs2⟩ | ⟨rfl, hs3, hs2⟩
     · skip
       refine own_go (b := (T240.setTop (mkF m 105 #[iv p0, iv p1, iv p2, iv p3, iv p4, rv b1, rv b16, iv (2 : Int32), iv (4 : Int32), iv (4 : Int32), .unset, .unset] [(.int (4 : Int32)), (.int (4 : Int32)), (.int (0 : Int32)), (.ref b1)]))) (fun _ k => XS.istore X240.here hx rfl (hb hby at_80) rfl (l' := #[iv p0, iv p1, iv p2, iv p3, iv p4, rv b1, rv b16, iv (2 : Int32), iv (4 : Int32), iv (4 : Int32), .unset, .unset]) rfl (XS.iload X240.here hx rfl (hb hby at_82) rfl (XS.iload X240.here hx rfl (hb hby at_84) rfl (XS.icmpNo X240.here hx rfl (hb hby at_86) rfl (flt (by decide : ¬ ((4 : Int32) < (2 : Int32)))).1 (XS.iload X240.here hx rfl (hb hby at_89) rfl (XS.iload X240.here hx rfl (hb hby at_91) rfl (XS.icmpYes X240.here hx rfl (pc0 := 93) (pc' := 98) rfl (hb hby at_93) rfl (flt (by decide : ¬ ((4 : Int32) < (4 : Int32)))).2.2.2 (by decide) (by decide) (XS.aload X240.here hx rfl (hb hby at_98) rfl rfl (XS.iconst X240.here hx rfl (hb hby at_100) (XS.iload X240.here hx rfl (hb hby at_101) rfl (XS.iload X240.here hx rfl (hb hby at_103) rfl k))))))))))) ?_
       refine own_stat (W := 0) X240 hx hZ hown eh240 (ow hw 40 rfl) (ow hw 41 rfl) (rmsoA l Z a0 hw [] b1 (0 : Int32) (4 : Int32) (4 : Int32) T18.heap n0 Zs27 (by decide)) (ow hw 42 rfl) (ow hw 3 rfl) rfl (by rw [hml]; rfl) rfl (hb hby at_105) (lenOf pd___CIII_Z rfl) rfl (by decide) (fun T243 v243 Ll243 X243 hQ243 => ?_)
       obtain ⟨rfl, N243q, eh243⟩ := hQ243
       have N243 := Fr.app N240 N243q
       refine own_go (b := (T243.setTop (mkF m 118 #[iv p0, iv p1, iv p2, iv p3, iv p4, rv b1, rv b16, iv (2 : Int32), iv (4 : Int32), iv (4 : Int32), .unset, .unset] [(.int (4 : Int32)), (.int (4 : Int32)), (.int (1 : Int32)), (.ref b1)]))) (fun _ k => XS.ifNo X243.here hx rfl (hb hby at_108) rfl ((if0 _ _).trans (feq (by decide : ¬ ((1 : Int32) = (0 : Int32)))).1) (XS.aload X243.here hx rfl (hb hby at_111) rfl rfl (XS.iconst X243.here hx rfl (hb hby at_113) (XS.iload X243.here hx rfl (hb hby at_114) rfl (XS.iload X243.here hx rfl (hb hby at_116) rfl k))))) ?_
       refine own_stat (W := 0) X243 hx hZ hown eh243 (ow hw 40 rfl) (ow hw 41 rfl) (rmsoA l Z a0 hw [] b1 (1 : Int32) (4 : Int32) (4 : Int32) T18.heap n0 Zs27 (by decide)) (ow hw 42 rfl) (ow hw 3 rfl) rfl (by rw [hml]; rfl) rfl (hb hby at_118) (lenOf pd___CIII_Z rfl) rfl (by decide) (fun T244 v244 Ll244 X244 hQ244 => ?_)
       obtain ⟨rfl, N244q, eh244⟩ := hQ244
       have N244 := Fr.app N243 N244q
       refine own_go (b := (T244.setTop (mkF m 131 #[iv p0, iv p1, iv p2, iv p3, iv p4, rv b1, rv b16, iv (2 : Int32), iv (4 : Int32), iv (4 : Int32), .unset, .unset] [(.int (4 : Int32)), (.int (4 : Int32)), (.int (2 : Int32)), (.ref b1)]))) (fun _ k => XS.ifNo X244.here hx rfl (hb hby at_121) rfl ((if0 _ _).trans (feq (by decide : ¬ ((1 : Int32) = (0 : Int32)))).1) (XS.aload X244.here hx rfl (hb hby at_124) rfl rfl (XS.iconst X244.here hx rfl (hb hby at_126) (XS.iload X244.here hx rfl (hb hby at_127) rfl (XS.iload X244.here hx rfl (hb hby at_129) rfl k))))) ?_
       refine own_stat (W := 0) X244 hx hZ hown eh244 (ow hw 40 rfl) (ow hw 41 rfl) (rmsoA l Z a0 hw [] b1 (2 : Int32) (4 : Int32) (4 : Int32) T18.heap n0 Zs27 (by decide)) (ow hw 42 rfl) (ow hw 3 rfl) rfl (by rw [hml]; rfl) rfl (hb hby at_131) (lenOf pd___CIII_Z rfl) rfl (by decide) (fun T245 v245 Ll245 X245 hQ245 => ?_)
       obtain ⟨rfl, N245q, eh245⟩ := hQ245
       have N245 := Fr.app N244 N245q
       refine own_go (b := (T245.setTop (mkF m 144 #[iv p0, iv p1, iv p2, iv p3, iv p4, rv b1, rv b16, iv (2 : Int32), iv (4 : Int32), iv (4 : Int32), .unset, .unset] [(.int (4 : Int32)), (.int (4 : Int32)), (.int (3 : Int32)), (.ref b1)]))) (fun _ k => XS.ifNo X245.here hx rfl (hb hby at_134) rfl ((if0 _ _).trans (feq (by decide : ¬ ((1 : Int32) = (0 : Int32)))).1) (XS.aload X245.here hx rfl (hb hby at_137) rfl rfl (XS.iconst X245.here hx rfl (hb hby at_139) (XS.iload X245.here hx rfl (hb hby at_140) rfl (XS.iload X245.here hx rfl (hb hby at_142) rfl k))))) ?_
       refine own_stat (W := 0) X245 hx hZ hown eh245 (ow hw 40 rfl) (ow hw 41 rfl) (rmsoA l Z a0 hw [] b1 (3 : Int32) (4 : Int32) (4 : Int32) T18.heap n0 Zs27 (by decide)) (ow hw 42 rfl) (ow hw 3 rfl) rfl (by rw [hml]; rfl) rfl (hb hby at_144) (lenOf pd___CIII_Z rfl) rfl (by decide) (fun T246 v246 Ll246 X246 hQ246 => ?_)
       obtain ⟨rfl, N246q, eh246⟩ := hQ246
       have N246 := Fr.app N245 N246q
       refine own_go (b := (T246.setTop (mkF m 170 #[iv p0, iv p1, iv p2, iv p3, iv p4, rv b1, rv b16, iv (2 : Int32), iv (4 : Int32), iv (4 : Int32), iv (1 : Int32), .unset] [(.int (3 : Int32)), (.ref b1)]))) (fun _ k => XS.ifNo X246.here hx rfl (hb hby at_147) rfl ((if0 _ _).trans (feq (by decide : ¬ ((1 : Int32) = (0 : Int32)))).1) (XS.iconst X246.here hx rfl (hb hby at_150) (XS.goto X246.here hx rfl (pc0 := 151) (pc' := 155) rfl (hb hby at_151) (by decide) (by decide) (XS.istore X246.here hx rfl (hb hby at_155) rfl (l' := #[iv p0, iv p1, iv p2, iv p3, iv p4, rv b1, rv b16, iv (2 : Int32), iv (4 : Int32), iv (4 : Int32), iv (1 : Int32), .unset]) rfl (XS.iload X246.here hx rfl (hb hby at_157) rfl (XS.iload X246.here hx rfl (hb hby at_159) rfl (XS.icmpNo X246.here hx rfl (hb hby at_161) rfl (feq (by decide : ¬ ((4 : Int32) = (2 : Int32)))).1 (XS.aload X246.here hx rfl (hb hby at_164) rfl rfl (XS.iload X246.here hx rfl (hb hby at_166) rfl (XS.iconst X246.here hx rfl (hb hby at_168) (XS.isub X246.here hx rfl (hb hby at_169) rfl k))))))))))) ?_
       have nx248 : b1 ≠ b16 := (own_ne V1.lt (own_tr (own_tr (own_tr (Keep.of_wr W4).1 (Keep.of_wr W8).1) (Keep.of_wr W11).1) (Keep.of_wr W14).1) (Nat.le_of_eq g16.symm))
       have F249 := F26.keep K18 (ninS nx248 nin0)
       obtain ⟨cl247, Ar247, ql247, Sz247, Nn247, Hl247, Gl247⟩ := id F249
       have hin247 : ¬ ((3 : Int32) < 0 ∨ cl247.slots.size ≤ ((3 : Int32)).toNatClampNeg) := inb_of Sz247 ⟨by decide, by decide⟩
       refine own_go (b := (T246.setTop (mkF m 198 #[iv p0, iv p1, iv p2, iv p3, iv p4, rv b1, rv b16, iv (2 : Int32), iv (4 : Int32), iv (4 : Int32), iv (1 : Int32), iv (1 : Int32)] [(.int (1 : Int32))]))) (fun _ k => X246.caload hx (j := (3 : Int32)) (v := (.int (nar .char rc_13))) (by rw [eh246]; exact Ar247.1) (State.isArrayOf_alike hZ.alike Ar247.2.1) Ar247.2.2 hin247 (Hl247.at hin247 rfl) (g := (mkF m 170 #[iv p0, iv p1, iv p2, iv p3, iv p4, rv b1, rv b16, iv (2 : Int32), iv (4 : Int32), iv (4 : Int32), iv (1 : Int32), .unset] [(.int (3 : Int32)), (.ref b1)])) rfl rfl (hb hby at_170) _ (XS.bipush X246.here hx rfl (hb hby at_171) (XS.icmpNo X246.here hx rfl (hb hby at_173) rfl (feq hs3).1 (XS.iconst X246.here hx rfl (hb hby at_176) (XS.goto X246.here hx rfl (pc0 := 177) (pc' := 181) rfl (hb hby at_177) (by decide) (by decide) (XS.istore X246.here hx rfl (hb hby at_181) rfl (l' := #[iv p0, iv p1, iv p2, iv p3, iv p4, rv b1, rv b16, iv (2 : Int32), iv (4 : Int32), iv (4 : Int32), iv (1 : Int32), iv (1 : Int32)]) rfl (XS.iload X246.here hx rfl (hb hby at_183) rfl (XS.ifNo X246.here hx rfl (hb hby at_185) rfl ((if0 _ _).trans (feq (by decide : ¬ ((1 : Int32) = (0 : Int32)))).1) (XS.iload X246.here hx rfl (hb hby at_188) rfl (XS.ifNo X246.here hx rfl (hb hby at_190) rfl ((if0 _ _).trans (feq (by decide : ¬ ((1 : Int32) = (0 : Int32)))).1) (XS.iconst X246.here hx rfl (hb hby at_193) (XS.goto X246.here hx rfl (pc0 := 194) (pc' := 198) rfl (hb hby at_194) (by decide) (by decide) k)))))))))))) ?_
       obtain ⟨fs, hr, hrun, hended, hW, hsame⟩ := X246.leave (v := some (.int (1 : Int32))) (fun h => by rw [Bd.returns] at h; cases h)
       exact ⟨_, _, retN X246 hx (t := .boolean) Bd.returns (by simp) (hb hby at_198) hr, hrun, hended, _, _, rfl, (show Qrm0 Z p0 p1 p2 p3 p4 cs fv h0 n0 _ T246.heap _ from (by rw [eh246]; exact ⟨rfl, N246⟩)), ⟨_, rfl⟩, hW, hsame.mono (by decide) (by decide)⟩
     · skip
       refine own_go (b := (T240.setTop (mkF m 105 #[iv p0, iv p1, iv p2, iv p3, iv p4, rv b1, rv b16, iv (2 : Int32), iv (4 : Int32), iv (3 : Int32), .unset, .unset] [(.int (4 : Int32)), (.int (3 : Int32)), (.int (0 : Int32)), (.ref b1)]))) (fun _ k => XS.istore X240.here hx rfl (hb hby at_80) rfl (l' := #[iv p0, iv p1, iv p2, iv p3, iv p4, rv b1, rv b16, iv (2 : Int32), iv (4 : Int32), iv (3 : Int32), .unset, .unset]) rfl (XS.iload X240.here hx rfl (hb hby at_82) rfl (XS.iload X240.here hx rfl (hb hby at_84) rfl (XS.icmpNo X240.here hx rfl (hb hby at_86) rfl (flt (by decide : ¬ ((3 : Int32) < (2 : Int32)))).1 (XS.iload X240.here hx rfl (hb hby at_89) rfl (XS.iload X240.here hx rfl (hb hby at_91) rfl (XS.icmpYes X240.here hx rfl (pc0 := 93) (pc' := 98) rfl (hb hby at_93) rfl (flt (by decide : ¬ ((4 : Int32) < (3 : Int32)))).2.2.2 (by decide) (by decide) (XS.aload X240.here hx rfl (hb hby at_98) rfl rfl (XS.iconst X240.here hx rfl (hb hby at_100) (XS.iload X240.here hx rfl (hb hby at_101) rfl (XS.iload X240.here hx rfl (hb hby at_103) rfl k))))))))))) ?_
       refine own_stat (W := 0) X240 hx hZ hown eh240 (ow hw 40 rfl) (ow hw 41 rfl) (rmsoA l Z a0 hw [] b1 (0 : Int32) (3 : Int32) (4 : Int32) T18.heap n0 Zs27 (by decide)) (ow hw 42 rfl) (ow hw 3 rfl) rfl (by rw [hml]; rfl) rfl (hb hby at_105) (lenOf pd___CIII_Z rfl) rfl (by decide) (fun T250 v250 Ll250 X250 hQ250 => ?_)
       obtain ⟨rfl, N250q, eh250⟩ := hQ250
       have N250 := Fr.app N240 N250q
       refine own_go (b := (T250.setTop (mkF m 118 #[iv p0, iv p1, iv p2, iv p3, iv p4, rv b1, rv b16, iv (2 : Int32), iv (4 : Int32), iv (3 : Int32), .unset, .unset] [(.int (4 : Int32)), (.int (3 : Int32)), (.int (1 : Int32)), (.ref b1)]))) (fun _ k => XS.ifNo X250.here hx rfl (hb hby at_108) rfl ((if0 _ _).trans (feq (by decide : ¬ ((1 : Int32) = (0 : Int32)))).1) (XS.aload X250.here hx rfl (hb hby at_111) rfl rfl (XS.iconst X250.here hx rfl (hb hby at_113) (XS.iload X250.here hx rfl (hb hby at_114) rfl (XS.iload X250.here hx rfl (hb hby at_116) rfl k))))) ?_
       refine own_stat (W := 0) X250 hx hZ hown eh250 (ow hw 40 rfl) (ow hw 41 rfl) (rmsoA l Z a0 hw [] b1 (1 : Int32) (3 : Int32) (4 : Int32) T18.heap n0 Zs27 (by decide)) (ow hw 42 rfl) (ow hw 3 rfl) rfl (by rw [hml]; rfl) rfl (hb hby at_118) (lenOf pd___CIII_Z rfl) rfl (by decide) (fun T251 v251 Ll251 X251 hQ251 => ?_)
       obtain ⟨rfl, N251q, eh251⟩ := hQ251
       have N251 := Fr.app N250 N251q
       refine own_go (b := (T251.setTop (mkF m 131 #[iv p0, iv p1, iv p2, iv p3, iv p4, rv b1, rv b16, iv (2 : Int32), iv (4 : Int32), iv (3 : Int32), .unset, .unset] [(.int (4 : Int32)), (.int (3 : Int32)), (.int (2 : Int32)), (.ref b1)]))) (fun _ k => XS.ifNo X251.here hx rfl (hb hby at_121) rfl ((if0 _ _).trans (feq (by decide : ¬ ((1 : Int32) = (0 : Int32)))).1) (XS.aload X251.here hx rfl (hb hby at_124) rfl rfl (XS.iconst X251.here hx rfl (hb hby at_126) (XS.iload X251.here hx rfl (hb hby at_127) rfl (XS.iload X251.here hx rfl (hb hby at_129) rfl k))))) ?_
       refine own_stat (W := 0) X251 hx hZ hown eh251 (ow hw 40 rfl) (ow hw 41 rfl) (rmsoA l Z a0 hw [] b1 (2 : Int32) (3 : Int32) (4 : Int32) T18.heap n0 Zs27 (by decide)) (ow hw 42 rfl) (ow hw 3 rfl) rfl (by rw [hml]; rfl) rfl (hb hby at_131) (lenOf pd___CIII_Z rfl) rfl (by decide) (fun T252 v252 Ll252 X252 hQ252 => ?_)
       obtain ⟨rfl, N252q, eh252⟩ := hQ252
       have N252 := Fr.app N251 N252q
       refine own_go (b := (T252.setTop (mkF m 144 #[iv p0, iv p1, iv p2, iv p3, iv p4, rv b1, rv b16, iv (2 : Int32), iv (4 : Int32), iv (3 : Int32), .unset, .unset] [(.int (4 : Int32)), (.int (3 : Int32)), (.int (3 : Int32)), (.ref b1)]))) (fun _ k => XS.ifNo X252.here hx rfl (hb hby at_134) rfl ((if0 _ _).trans (feq (by decide : ¬ ((1 : Int32) = (0 : Int32)))).1) (XS.aload X252.here hx rfl (hb hby at_137) rfl rfl (XS.iconst X252.here hx rfl (hb hby at_139) (XS.iload X252.here hx rfl (hb hby at_140) rfl (XS.iload X252.here hx rfl (hb hby at_142) rfl k))))) ?_
       have nx254 : b1 ≠ b16 := (own_ne V1.lt (own_tr (own_tr (own_tr (Keep.of_wr W4).1 (Keep.of_wr W8).1) (Keep.of_wr W11).1) (Keep.of_wr W14).1) (Nat.le_of_eq g16.symm))
       have F255 := F26.keep K18 (ninS nx254 nin0)
       refine own_stat (W := 0) X252 hx hZ hown eh252 (ow hw 40 rfl) (ow hw 41 rfl) (rmsoC3 l Z a0 hw [] b1 kl1 (nar .char rc_3) (nar .char rc_7) (nar .char rc_10) (nar .char rc_13) (3 : Int32) (4 : Int32) T18.heap n0 Zs27 F255 (by decide) (by decide) hs3) (ow hw 42 rfl) (ow hw 3 rfl) rfl (by rw [hml]; rfl) rfl (hb hby at_144) (lenOf pd___CIII_Z rfl) rfl (by decide) (fun T253 v253 Ll253 X253 hQ253 => ?_)
       obtain ⟨rfl, N253q, eh253⟩ := hQ253
       have N253 := Fr.app N252 N253q
       refine own_go (b := (T253.setTop (mkF m 170 #[iv p0, iv p1, iv p2, iv p3, iv p4, rv b1, rv b16, iv (2 : Int32), iv (4 : Int32), iv (3 : Int32), iv (1 : Int32), .unset] [(.int (2 : Int32)), (.ref b1)]))) (fun _ k => XS.ifNo X253.here hx rfl (hb hby at_147) rfl ((if0 _ _).trans (feq (by decide : ¬ ((1 : Int32) = (0 : Int32)))).1) (XS.iconst X253.here hx rfl (hb hby at_150) (XS.goto X253.here hx rfl (pc0 := 151) (pc' := 155) rfl (hb hby at_151) (by decide) (by decide) (XS.istore X253.here hx rfl (hb hby at_155) rfl (l' := #[iv p0, iv p1, iv p2, iv p3, iv p4, rv b1, rv b16, iv (2 : Int32), iv (4 : Int32), iv (3 : Int32), iv (1 : Int32), .unset]) rfl (XS.iload X253.here hx rfl (hb hby at_157) rfl (XS.iload X253.here hx rfl (hb hby at_159) rfl (XS.icmpNo X253.here hx rfl (hb hby at_161) rfl (feq (by decide : ¬ ((3 : Int32) = (2 : Int32)))).1 (XS.aload X253.here hx rfl (hb hby at_164) rfl rfl (XS.iload X253.here hx rfl (hb hby at_166) rfl (XS.iconst X253.here hx rfl (hb hby at_168) (XS.isub X253.here hx rfl (hb hby at_169) rfl k))))))))))) ?_
       obtain ⟨cl256, Ar256, ql256, Sz256, Nn256, Hl256, Gl256⟩ := id F255
       have hin256 : ¬ ((2 : Int32) < 0 ∨ cl256.slots.size ≤ ((2 : Int32)).toNatClampNeg) := inb_of Sz256 ⟨by decide, by decide⟩
       refine own_go (b := (T253.setTop (mkF m 198 #[iv p0, iv p1, iv p2, iv p3, iv p4, rv b1, rv b16, iv (2 : Int32), iv (4 : Int32), iv (3 : Int32), iv (1 : Int32), iv (1 : Int32)] [(.int (1 : Int32))]))) (fun _ k => X253.caload hx (j := (2 : Int32)) (v := (.int (nar .char rc_10))) (by rw [eh253]; exact Ar256.1) (State.isArrayOf_alike hZ.alike Ar256.2.1) Ar256.2.2 hin256 (Hl256.at hin256 rfl) (g := (mkF m 170 #[iv p0, iv p1, iv p2, iv p3, iv p4, rv b1, rv b16, iv (2 : Int32), iv (4 : Int32), iv (3 : Int32), iv (1 : Int32), .unset] [(.int (2 : Int32)), (.ref b1)])) rfl rfl (hb hby at_170) _ (XS.bipush X253.here hx rfl (hb hby at_171) (XS.icmpNo X253.here hx rfl (hb hby at_173) rfl (feq hs2).1 (XS.iconst X253.here hx rfl (hb hby at_176) (XS.goto X253.here hx rfl (pc0 := 177) (pc' := 181) rfl (hb hby at_177) (by decide) (by decide) (XS.istore X253.here hx rfl (hb hby at_181) rfl (l' := #[iv p0, iv p1, iv p2, iv p3, iv p4, rv b1, rv b16, iv (2 : Int32), iv (4 : Int32), iv (3 : Int32), iv (1 : Int32), iv (1 : Int32)]) rfl (XS.iload X253.here hx rfl (hb hby at_183) rfl (XS.ifNo X253.here hx rfl (hb hby at_185) rfl ((if0 _ _).trans (feq (by decide : ¬ ((1 : Int32) = (0 : Int32)))).1) (XS.iload X253.here hx rfl (hb hby at_188) rfl (XS.ifNo X253.here hx rfl (hb hby at_190) rfl ((if0 _ _).trans (feq (by decide : ¬ ((1 : Int32) = (0 : Int32)))).1) (XS.iconst X253.here hx rfl (hb hby at_193) (XS.goto X253.here hx rfl (pc0 := 194) (pc' := 198) rfl (hb hby at_194) (by decide) (by decide) k)))))))))))) ?_
       obtain ⟨fs, hr, hrun, hended, hW, hsame⟩ := X253.leave (v := some (.int (1 : Int32))) (fun h => by rw [Bd.returns] at h; cases h)
       exact ⟨_, _, retN X253 hx (t := .boolean) Bd.returns (by simp) (hb hby at_198) hr, hrun, hended, _, _, rfl, (show Qrm0 Z p0 p1 p2 p3 p4 cs fv h0 n0 _ T253.heap _ from (by rw [eh253]; exact ⟨rfl, N253⟩)), ⟨_, rfl⟩, hW, hsame.mono (by decide) (by decide)⟩
     · skip
       refine own_go (b := (T240.setTop (mkF m 105 #[iv p0, iv p1, iv p2, iv p3, iv p4, rv b1, rv b16, iv (2 : Int32), iv (4 : Int32), iv (2 : Int32), .unset, .unset] [(.int (4 : Int32)), (.int (2 : Int32)), (.int (0 : Int32)), (.ref b1)]))) (fun _ k => XS.istore X240.here hx rfl (hb hby at_80) rfl (l' := #[iv p0, iv p1, iv p2, iv p3, iv p4, rv b1, rv b16, iv (2 : Int32), iv (4 : Int32), iv (2 : Int32), .unset, .unset]) rfl (XS.iload X240.here hx rfl (hb hby at_82) rfl (XS.iload X240.here hx rfl (hb hby at_84) rfl (XS.icmpNo X240.here hx rfl (hb hby at_86) rfl (flt (by decide : ¬ ((2 : Int32) < (2 : Int32)))).1 (XS.iload X240.here hx rfl (hb hby at_89) rfl (XS.iload X240.here hx rfl (hb hby at_91) rfl (XS.icmpYes X240.here hx rfl (pc0 := 93) (pc' := 98) rfl (hb hby at_93) rfl (flt (by decide : ¬ ((4 : Int32) < (2 : Int32)))).2.2.2 (by decide) (by decide) (XS.aload X240.here hx rfl (hb hby at_98) rfl rfl (XS.iconst X240.here hx rfl (hb hby at_100) (XS.iload X240.here hx rfl (hb hby at_101) rfl (XS.iload X240.here hx rfl (hb hby at_103) rfl k))))))))))) ?_
       refine own_stat (W := 0) X240 hx hZ hown eh240 (ow hw 40 rfl) (ow hw 41 rfl) (rmsoA l Z a0 hw [] b1 (0 : Int32) (2 : Int32) (4 : Int32) T18.heap n0 Zs27 (by decide)) (ow hw 42 rfl) (ow hw 3 rfl) rfl (by rw [hml]; rfl) rfl (hb hby at_105) (lenOf pd___CIII_Z rfl) rfl (by decide) (fun T257 v257 Ll257 X257 hQ257 => ?_)
       obtain ⟨rfl, N257q, eh257⟩ := hQ257
       have N257 := Fr.app N240 N257q
       refine own_go (b := (T257.setTop (mkF m 118 #[iv p0, iv p1, iv p2, iv p3, iv p4, rv b1, rv b16, iv (2 : Int32), iv (4 : Int32), iv (2 : Int32), .unset, .unset] [(.int (4 : Int32)), (.int (2 : Int32)), (.int (1 : Int32)), (.ref b1)]))) (fun _ k => XS.ifNo X257.here hx rfl (hb hby at_108) rfl ((if0 _ _).trans (feq (by decide : ¬ ((1 : Int32) = (0 : Int32)))).1) (XS.aload X257.here hx rfl (hb hby at_111) rfl rfl (XS.iconst X257.here hx rfl (hb hby at_113) (XS.iload X257.here hx rfl (hb hby at_114) rfl (XS.iload X257.here hx rfl (hb hby at_116) rfl k))))) ?_
       refine own_stat (W := 0) X257 hx hZ hown eh257 (ow hw 40 rfl) (ow hw 41 rfl) (rmsoA l Z a0 hw [] b1 (1 : Int32) (2 : Int32) (4 : Int32) T18.heap n0 Zs27 (by decide)) (ow hw 42 rfl) (ow hw 3 rfl) rfl (by rw [hml]; rfl) rfl (hb hby at_118) (lenOf pd___CIII_Z rfl) rfl (by decide) (fun T258 v258 Ll258 X258 hQ258 => ?_)
       obtain ⟨rfl, N258q, eh258⟩ := hQ258
       have N258 := Fr.app N257 N258q
       refine own_go (b := (T258.setTop (mkF m 131 #[iv p0, iv p1, iv p2, iv p3, iv p4, rv b1, rv b16, iv (2 : Int32), iv (4 : Int32), iv (2 : Int32), .unset, .unset] [(.int (4 : Int32)), (.int (2 : Int32)), (.int (2 : Int32)), (.ref b1)]))) (fun _ k => XS.ifNo X258.here hx rfl (hb hby at_121) rfl ((if0 _ _).trans (feq (by decide : ¬ ((1 : Int32) = (0 : Int32)))).1) (XS.aload X258.here hx rfl (hb hby at_124) rfl rfl (XS.iconst X258.here hx rfl (hb hby at_126) (XS.iload X258.here hx rfl (hb hby at_127) rfl (XS.iload X258.here hx rfl (hb hby at_129) rfl k))))) ?_
       have nx260 : b1 ≠ b16 := (own_ne V1.lt (own_tr (own_tr (own_tr (Keep.of_wr W4).1 (Keep.of_wr W8).1) (Keep.of_wr W11).1) (Keep.of_wr W14).1) (Nat.le_of_eq g16.symm))
       have F261 := F26.keep K18 (ninS nx260 nin0)
       refine own_stat (W := 0) X258 hx hZ hown eh258 (ow hw 40 rfl) (ow hw 41 rfl) (rmsoC2 l Z a0 hw [] b1 kl1 (nar .char rc_3) (nar .char rc_7) (nar .char rc_10) (nar .char rc_13) (2 : Int32) (4 : Int32) T18.heap n0 Zs27 F261 (by decide : ¬ ((2 : Int32) < (2 : Int32))) (by decide) hs2) (ow hw 42 rfl) (ow hw 3 rfl) rfl (by rw [hml]; rfl) rfl (hb hby at_131) (lenOf pd___CIII_Z rfl) rfl (by decide) (fun T259 v259 Ll259 X259 hQ259 => ?_)
       obtain ⟨rfl, N259q, eh259⟩ := hQ259
       have N259 := Fr.app N258 N259q
       refine own_go (b := (T259.setTop (mkF m 144 #[iv p0, iv p1, iv p2, iv p3, iv p4, rv b1, rv b16, iv (2 : Int32), iv (4 : Int32), iv (2 : Int32), .unset, .unset] [(.int (4 : Int32)), (.int (2 : Int32)), (.int (3 : Int32)), (.ref b1)]))) (fun _ k => XS.ifNo X259.here hx rfl (hb hby at_134) rfl ((if0 _ _).trans (feq (by decide : ¬ ((1 : Int32) = (0 : Int32)))).1) (XS.aload X259.here hx rfl (hb hby at_137) rfl rfl (XS.iconst X259.here hx rfl (hb hby at_139) (XS.iload X259.here hx rfl (hb hby at_140) rfl (XS.iload X259.here hx rfl (hb hby at_142) rfl k))))) ?_
       refine own_stat (W := 0) X259 hx hZ hown eh259 (ow hw 40 rfl) (ow hw 41 rfl) (rmsoC3 l Z a0 hw [] b1 kl1 (nar .char rc_3) (nar .char rc_7) (nar .char rc_10) (nar .char rc_13) (2 : Int32) (4 : Int32) T18.heap n0 Zs27 F261 (by decide) (by decide) hs3) (ow hw 42 rfl) (ow hw 3 rfl) rfl (by rw [hml]; rfl) rfl (hb hby at_144) (lenOf pd___CIII_Z rfl) rfl (by decide) (fun T262 v262 Ll262 X262 hQ262 => ?_)
       obtain ⟨rfl, N262q, eh262⟩ := hQ262
       have N262 := Fr.app N259 N262q
       refine own_go (b := (T262.setTop (mkF m 198 #[iv p0, iv p1, iv p2, iv p3, iv p4, rv b1, rv b16, iv (2 : Int32), iv (4 : Int32), iv (2 : Int32), iv (1 : Int32), iv (1 : Int32)] [(.int (1 : Int32))]))) (fun _ k => XS.ifNo X262.here hx rfl (hb hby at_147) rfl ((if0 _ _).trans (feq (by decide : ¬ ((1 : Int32) = (0 : Int32)))).1) (XS.iconst X262.here hx rfl (hb hby at_150) (XS.goto X262.here hx rfl (pc0 := 151) (pc' := 155) rfl (hb hby at_151) (by decide) (by decide) (XS.istore X262.here hx rfl (hb hby at_155) rfl (l' := #[iv p0, iv p1, iv p2, iv p3, iv p4, rv b1, rv b16, iv (2 : Int32), iv (4 : Int32), iv (2 : Int32), iv (1 : Int32), .unset]) rfl (XS.iload X262.here hx rfl (hb hby at_157) rfl (XS.iload X262.here hx rfl (hb hby at_159) rfl (XS.icmpYes X262.here hx rfl (pc0 := 161) (pc' := 176) rfl (hb hby at_161) rfl (teq (rfl : (2 : Int32) = (2 : Int32))).1 (by decide) (by decide) (XS.iconst X262.here hx rfl (hb hby at_176) (XS.goto X262.here hx rfl (pc0 := 177) (pc' := 181) rfl (hb hby at_177) (by decide) (by decide) (XS.istore X262.here hx rfl (hb hby at_181) rfl (l' := #[iv p0, iv p1, iv p2, iv p3, iv p4, rv b1, rv b16, iv (2 : Int32), iv (4 : Int32), iv (2 : Int32), iv (1 : Int32), iv (1 : Int32)]) rfl (XS.iload X262.here hx rfl (hb hby at_183) rfl (XS.ifNo X262.here hx rfl (hb hby at_185) rfl ((if0 _ _).trans (feq (by decide : ¬ ((1 : Int32) = (0 : Int32)))).1) (XS.iload X262.here hx rfl (hb hby at_188) rfl (XS.ifNo X262.here hx rfl (hb hby at_190) rfl ((if0 _ _).trans (feq (by decide : ¬ ((1 : Int32) = (0 : Int32)))).1) (XS.iconst X262.here hx rfl (hb hby at_193) (XS.goto X262.here hx rfl (pc0 := 194) (pc' := 198) rfl (hb hby at_194) (by decide) (by decide) k)))))))))))))))) ?_
       obtain ⟨fs, hr, hrun, hended, hW, hsame⟩ := X262.leave (v := some (.int (1 : Int32))) (fun h => by rw [Bd.returns] at h; cases h)
       exact ⟨_, _, retN X262 hx (t := .boolean) Bd.returns (by simp) (hb hby at_198) hr, hrun, hended, _, _, rfl, (show Qrm0 Z p0 p1 p2 p3 p4 cs fv h0 n0 _ T262.heap _ from (by rw [eh262]; exact ⟨rfl, N262⟩)), ⟨_, rfl⟩, hW, hsame.mono (by decide) (by decide)⟩
 · rw [hk]
   refine own_go (b := (T18.setTop (mkF m 68 #[iv p0, iv p1, iv p2, iv p3, iv p4, rv b1, rv b16, iv (3 : Int32), .unset, .unset, .unset, .unset] [(.int (((p4.toUInt32 >>> ((3 : Int32) &&& 31).toUInt32).toInt32) % (2 : Int32))), (.int (3 : Int32))]))) (fun _ k => XS.istore X18.here hx rfl (hb hby at_55) rfl (l' := #[iv p0, iv p1, iv p2, iv p3, iv p4, rv b1, rv b16, iv (3 : Int32), .unset, .unset, .unset, .unset]) rfl (XS.iload X18.here hx rfl (hb hby at_57) rfl (XS.iload X18.here hx rfl (hb hby at_59) rfl (XS.iconst X18.here hx rfl (hb hby at_61) (XS.iushr X18.here hx rfl (hb hby at_62) rfl (XS.iconst X18.here hx rfl (hb hby at_63) (XS.iload X18.here hx rfl (hb hby at_64) rfl (XS.isub X18.here hx rfl (hb hby at_66) rfl (iremM (g := (mkF m 67 #[iv p0, iv p1, iv p2, iv p3, iv p4, rv b1, rv b16, iv (3 : Int32), .unset, .unset, .unset, .unset] [(.int (2 : Int32)), (.int ((p4.toUInt32 >>> ((3 : Int32) &&& 31).toUInt32).toInt32)), (.int (3 : Int32))])) X18 hx rfl (hb hby at_67) rfl (by decide) k))))))))) ?_
   rcases own_mod2 _ (own_u3 p4) with hl | hl
   · rw [hl]
     refine own_go (b := (T18.setTop (mkF m 77 #[iv p0, iv p1, iv p2, iv p3, iv p4, rv b1, rv b16, iv (3 : Int32), iv (3 : Int32), .unset, .unset, .unset] [(.int (3 : Int32)), (.int (3 : Int32)), (.ref b16)]))) (fun _ k => XS.iadd X18.here hx rfl (hb hby at_68) rfl (XS.istore X18.here hx rfl (hb hby at_69) rfl (l' := #[iv p0, iv p1, iv p2, iv p3, iv p4, rv b1, rv b16, iv (3 : Int32), iv (3 : Int32), .unset, .unset, .unset]) rfl (XS.aload X18.here hx rfl (hb hby at_71) rfl rfl (XS.iload X18.here hx rfl (hb hby at_73) rfl (XS.iload X18.here hx rfl (hb hby at_75) rfl k))))) ?_
     have O264 := O24.keep K18 (allS gx25 all0)
     have F265 := A16.keep K18
     refine own_stat (W := 0) X18 hx hZ hown rfl (ow hw 36 rfl) (ow hw 37 rfl) (rmts3_3 l Z a0 hw [] b16 (nar .char rc_3) (nar .char rc_7) (nar .char rc_10) (nar .char rc_13) cs fv T18.heap n0 Zs27 O264 S_COMPACT_STRINGS hcs S__assertionsDisabled S_HI_BYTE_SHIFT S_LO_BYTE_SHIFT S_SIOOBE_FORMATTER hfv F265 P18_0) (ow hw 39 rfl) (ow hw 38 rfl) rfl (by rw [hml]; rfl) rfl (hb hby at_77) (lenOf pd__Ljava_lang_String_II_I rfl) rfl (by decide) (fun T263 v263 Ll263 X263 hQ263 => ?_)
     obtain ⟨r_263, rfl, N263q, eh263, P263_0⟩ := hQ263
     have N263 := Fr.app N18 N263q
     obtain rfl := P263_0
     refine own_go (b := (T263.setTop (mkF m 105 #[iv p0, iv p1, iv p2, iv p3, iv p4, rv b1, rv b16, iv (3 : Int32), iv (3 : Int32), iv (3 : Int32), .unset, .unset] [(.int (3 : Int32)), (.int (3 : Int32)), (.int (0 : Int32)), (.ref b1)]))) (fun _ k => XS.istore X263.here hx rfl (hb hby at_80) rfl (l' := #[iv p0, iv p1, iv p2, iv p3, iv p4, rv b1, rv b16, iv (3 : Int32), iv (3 : Int32), iv (3 : Int32), .unset, .unset]) rfl (XS.iload X263.here hx rfl (hb hby at_82) rfl (XS.iload X263.here hx rfl (hb hby at_84) rfl (XS.icmpNo X263.here hx rfl (hb hby at_86) rfl (flt (by decide : ¬ ((3 : Int32) < (3 : Int32)))).1 (XS.iload X263.here hx rfl (hb hby at_89) rfl (XS.iload X263.here hx rfl (hb hby at_91) rfl (XS.icmpYes X263.here hx rfl (pc0 := 93) (pc' := 98) rfl (hb hby at_93) rfl (flt (by decide : ¬ ((3 : Int32) < (3 : Int32)))).2.2.2 (by decide) (by decide) (XS.aload X263.here hx rfl (hb hby at_98) rfl rfl (XS.iconst X263.here hx rfl (hb hby at_100) (XS.iload X263.here hx rfl (hb hby at_101) rfl (XS.iload X263.here hx rfl (hb hby at_103) rfl k))))))))))) ?_
     refine own_stat (W := 0) X263 hx hZ hown eh263 (ow hw 40 rfl) (ow hw 41 rfl) (rmsoA l Z a0 hw [] b1 (0 : Int32) (3 : Int32) (3 : Int32) T18.heap n0 Zs27 (by decide)) (ow hw 42 rfl) (ow hw 3 rfl) rfl (by rw [hml]; rfl) rfl (hb hby at_105) (lenOf pd___CIII_Z rfl) rfl (by decide) (fun T266 v266 Ll266 X266 hQ266 => ?_)
     obtain ⟨rfl, N266q, eh266⟩ := hQ266
     have N266 := Fr.app N263 N266q
     refine own_go (b := (T266.setTop (mkF m 118 #[iv p0, iv p1, iv p2, iv p3, iv p4, rv b1, rv b16, iv (3 : Int32), iv (3 : Int32), iv (3 : Int32), .unset, .unset] [(.int (3 : Int32)), (.int (3 : Int32)), (.int (1 : Int32)), (.ref b1)]))) (fun _ k => XS.ifNo X266.here hx rfl (hb hby at_108) rfl ((if0 _ _).trans (feq (by decide : ¬ ((1 : Int32) = (0 : Int32)))).1) (XS.aload X266.here hx rfl (hb hby at_111) rfl rfl (XS.iconst X266.here hx rfl (hb hby at_113) (XS.iload X266.here hx rfl (hb hby at_114) rfl (XS.iload X266.here hx rfl (hb hby at_116) rfl k))))) ?_
     refine own_stat (W := 0) X266 hx hZ hown eh266 (ow hw 40 rfl) (ow hw 41 rfl) (rmsoA l Z a0 hw [] b1 (1 : Int32) (3 : Int32) (3 : Int32) T18.heap n0 Zs27 (by decide)) (ow hw 42 rfl) (ow hw 3 rfl) rfl (by rw [hml]; rfl) rfl (hb hby at_118) (lenOf pd___CIII_Z rfl) rfl (by decide) (fun T267 v267 Ll267 X267 hQ267 => ?_)
     obtain ⟨rfl, N267q, eh267⟩ := hQ267
     have N267 := Fr.app N266 N267q
     refine own_go (b := (T267.setTop (mkF m 131 #[iv p0, iv p1, iv p2, iv p3, iv p4, rv b1, rv b16, iv (3 : Int32), iv (3 : Int32), iv (3 : Int32), .unset, .unset] [(.int (3 : Int32)), (.int (3 : Int32)), (.int (2 : Int32)), (.ref b1)]))) (fun _ k => XS.ifNo X267.here hx rfl (hb hby at_121) rfl ((if0 _ _).trans (feq (by decide : ¬ ((1 : Int32) = (0 : Int32)))).1) (XS.aload X267.here hx rfl (hb hby at_124) rfl rfl (XS.iconst X267.here hx rfl (hb hby at_126) (XS.iload X267.here hx rfl (hb hby at_127) rfl (XS.iload X267.here hx rfl (hb hby at_129) rfl k))))) ?_
     refine own_stat (W := 0) X267 hx hZ hown eh267 (ow hw 40 rfl) (ow hw 41 rfl) (rmsoA l Z a0 hw [] b1 (2 : Int32) (3 : Int32) (3 : Int32) T18.heap n0 Zs27 (by decide)) (ow hw 42 rfl) (ow hw 3 rfl) rfl (by rw [hml]; rfl) rfl (hb hby at_131) (lenOf pd___CIII_Z rfl) rfl (by decide) (fun T268 v268 Ll268 X268 hQ268 => ?_)
     obtain ⟨rfl, N268q, eh268⟩ := hQ268
     have N268 := Fr.app N267 N268q
     refine own_go (b := (T268.setTop (mkF m 144 #[iv p0, iv p1, iv p2, iv p3, iv p4, rv b1, rv b16, iv (3 : Int32), iv (3 : Int32), iv (3 : Int32), .unset, .unset] [(.int (3 : Int32)), (.int (3 : Int32)), (.int (3 : Int32)), (.ref b1)]))) (fun _ k => XS.ifNo X268.here hx rfl (hb hby at_134) rfl ((if0 _ _).trans (feq (by decide : ¬ ((1 : Int32) = (0 : Int32)))).1) (XS.aload X268.here hx rfl (hb hby at_137) rfl rfl (XS.iconst X268.here hx rfl (hb hby at_139) (XS.iload X268.here hx rfl (hb hby at_140) rfl (XS.iload X268.here hx rfl (hb hby at_142) rfl k))))) ?_
     refine own_stat (W := 0) X268 hx hZ hown eh268 (ow hw 40 rfl) (ow hw 41 rfl) (rmsoB l Z a0 hw [] b1 (3 : Int32) (3 : Int32) (3 : Int32) T18.heap n0 Zs27 (by decide : ¬ ((3 : Int32) < (3 : Int32))) (by decide : ¬ ((3 : Int32) < (3 : Int32)))) (ow hw 42 rfl) (ow hw 3 rfl) rfl (by rw [hml]; rfl) rfl (hb hby at_144) (lenOf pd___CIII_Z rfl) rfl (by decide) (fun T269 v269 Ll269 X269 hQ269 => ?_)
     obtain ⟨rfl, N269q, eh269⟩ := hQ269
     have N269 := Fr.app N268 N269q
     refine own_go (b := (T269.setTop (mkF m 198 #[iv p0, iv p1, iv p2, iv p3, iv p4, rv b1, rv b16, iv (3 : Int32), iv (3 : Int32), iv (3 : Int32), iv (1 : Int32), iv (1 : Int32)] [(.int (1 : Int32))]))) (fun _ k => XS.ifNo X269.here hx rfl (hb hby at_147) rfl ((if0 _ _).trans (feq (by decide : ¬ ((1 : Int32) = (0 : Int32)))).1) (XS.iconst X269.here hx rfl (hb hby at_150) (XS.goto X269.here hx rfl (pc0 := 151) (pc' := 155) rfl (hb hby at_151) (by decide) (by decide) (XS.istore X269.here hx rfl (hb hby at_155) rfl (l' := #[iv p0, iv p1, iv p2, iv p3, iv p4, rv b1, rv b16, iv (3 : Int32), iv (3 : Int32), iv (3 : Int32), iv (1 : Int32), .unset]) rfl (XS.iload X269.here hx rfl (hb hby at_157) rfl (XS.iload X269.here hx rfl (hb hby at_159) rfl (XS.icmpYes X269.here hx rfl (pc0 := 161) (pc' := 176) rfl (hb hby at_161) rfl (teq (rfl : (3 : Int32) = (3 : Int32))).1 (by decide) (by decide) (XS.iconst X269.here hx rfl (hb hby at_176) (XS.goto X269.here hx rfl (pc0 := 177) (pc' := 181) rfl (hb hby at_177) (by decide) (by decide) (XS.istore X269.here hx rfl (hb hby at_181) rfl (l' := #[iv p0, iv p1, iv p2, iv p3, iv p4, rv b1, rv b16, iv (3 : Int32), iv (3 : Int32), iv (3 : Int32), iv (1 : Int32), iv (1 : Int32)]) rfl (XS.iload X269.here hx rfl (hb hby at_183) rfl (XS.ifNo X269.here hx rfl (hb hby at_185) rfl ((if0 _ _).trans (feq (by decide : ¬ ((1 : Int32) = (0 : Int32)))).1) (XS.iload X269.here hx rfl (hb hby at_188) rfl (XS.ifNo X269.here hx rfl (hb hby at_190) rfl ((if0 _ _).trans (feq (by decide : ¬ ((1 : Int32) = (0 : Int32)))).1) (XS.iconst X269.here hx rfl (hb hby at_193) (XS.goto X269.here hx rfl (pc0 := 194) (pc' := 198) rfl (hb hby at_194) (by decide) (by decide) k)))))))))))))))) ?_
     obtain ⟨fs, hr, hrun, hended, hW, hsame⟩ := X269.leave (v := some (.int (1 : Int32))) (fun h => by rw [Bd.returns] at h; cases h)
     exact ⟨_, _, retN X269 hx (t := .boolean) Bd.returns (by simp) (hb hby at_198) hr, hrun, hended, _, _, rfl, (show Qrm0 Z p0 p1 p2 p3 p4 cs fv h0 n0 _ T269.heap _ from (by rw [eh269]; exact ⟨rfl, N269⟩)), ⟨_, rfl⟩, hW, hsame.mono (by decide) (by decide)⟩
   · rw [hl]
     refine own_go (b := (T18.setTop (mkF m 77 #[iv p0, iv p1, iv p2, iv p3, iv p4, rv b1, rv b16, iv (3 : Int32), iv (4 : Int32), .unset, .unset, .unset] [(.int (4 : Int32)), (.int (3 : Int32)), (.ref b16)]))) (fun _ k => XS.iadd X18.here hx rfl (hb hby at_68) rfl (XS.istore X18.here hx rfl (hb hby at_69) rfl (l' := #[iv p0, iv p1, iv p2, iv p3, iv p4, rv b1, rv b16, iv (3 : Int32), iv (4 : Int32), .unset, .unset, .unset]) rfl (XS.aload X18.here hx rfl (hb hby at_71) rfl rfl (XS.iload X18.here hx rfl (hb hby at_73) rfl (XS.iload X18.here hx rfl (hb hby at_75) rfl k))))) ?_
     have O271 := O24.keep K18 (allS gx25 all0)
     have F272 := A16.keep K18
     refine own_stat (W := 0) X18 hx hZ hown rfl (ow hw 36 rfl) (ow hw 37 rfl) (rmts3_4 l Z a0 hw [] b16 (nar .char rc_3) (nar .char rc_7) (nar .char rc_10) (nar .char rc_13) cs fv T18.heap n0 Zs27 O271 S_COMPACT_STRINGS hcs S__assertionsDisabled S_HI_BYTE_SHIFT S_LO_BYTE_SHIFT S_SIOOBE_FORMATTER hfv F272 P18_0) (ow hw 39 rfl) (ow hw 38 rfl) rfl (by rw [hml]; rfl) rfl (hb hby at_77) (lenOf pd__Ljava_lang_String_II_I rfl) rfl (by decide) (fun T270 v270 Ll270 X270 hQ270 => ?_)
     obtain ⟨r_270, rfl, N270q, eh270, P270_0⟩ := hQ270
     have N270 := Fr.app N18 N270q
     rcases P270_0 with ⟨rfl, hs3⟩ | ⟨rfl, hs3⟩
     · skip
       refine own_go (b := (T270.setTop (mkF m 105 #[iv p0, iv p1, iv p2, iv p3, iv p4, rv b1, rv b16, iv (3 : Int32), iv (4 : Int32), iv (4 : Int32), .unset, .unset] [(.int (4 : Int32)), (.int (4 : Int32)), (.int (0 : Int32)), (.ref b1)]))) (fun _ k => XS.istore X270.here hx rfl (hb hby at_80) rfl (l' := #[iv p0, iv p1, iv p2, iv p3, iv p4, rv b1, rv b16, iv (3 : Int32), iv (4 : Int32), iv (4 : Int32), .unset, .unset]) rfl (XS.iload X270.here hx rfl (hb hby at_82) rfl (XS.iload X270.here hx rfl (hb hby at_84) rfl (XS.icmpNo X270.here hx rfl (hb hby at_86) rfl (flt (by decide : ¬ ((4 : Int32) < (3 : Int32)))).1 (XS.iload X270.here hx rfl (hb hby at_89) rfl (XS.iload X270.here hx rfl (hb hby at_91) rfl (XS.icmpYes X270.here hx rfl (pc0 := 93) (pc' := 98) rfl (hb hby at_93) rfl (flt (by decide : ¬ ((4 : Int32) < (4 : Int32)))).2.2.2 (by decide) (by decide) (XS.aload X270.here hx rfl (hb hby at_98) rfl rfl (XS.iconst X270.here hx rfl (hb hby at_100) (XS.iload X270.here hx rfl (hb hby at_101) rfl (XS.iload X270.here hx rfl (hb hby at_103) rfl k))))))))))) ?_
       refine own_stat (W := 0) X270 hx hZ hown eh270 (ow hw 40 rfl) (ow hw 41 rfl) (rmsoA l Z a0 hw [] b1 (0 : Int32) (4 : Int32) (4 : Int32) T18.heap n0 Zs27 (by decide)) (ow hw 42 rfl) (ow hw 3 rfl) rfl (by rw [hml]; rfl) rfl (hb hby at_105) (lenOf pd___CIII_Z rfl) rfl (by decide) (fun T273 v273 Ll273 X273 hQ273 => ?_)
       obtain ⟨rfl, N273q, eh273⟩ := hQ273
       have N273 := Fr.app N270 N273q
       refine own_go (b := (T273.setTop (mkF m 118 #[iv p0, iv p1, iv p2, iv p3, iv p4, rv b1, rv b16, iv (3 : Int32), iv (4 : Int32), iv (4 : Int32), .unset, .unset] [(.int (4 : Int32)), (.int (4 : Int32)), (.int (1 : Int32)), (.ref b1)]))) (fun _ k => XS.ifNo X273.here hx rfl (hb hby at_108) rfl ((if0 _ _).trans (feq (by decide : ¬ ((1 : Int32) = (0 : Int32)))).1) (XS.aload X273.here hx rfl (hb hby at_111) rfl rfl (XS.iconst X273.here hx rfl (hb hby at_113) (XS.iload X273.here hx rfl (hb hby at_114) rfl (XS.iload X273.here hx rfl (hb hby at_116) rfl k))))) ?_
       refine own_stat (W := 0) X273 hx hZ hown eh273 (ow hw 40 rfl) (ow hw 41 rfl) (rmsoA l Z a0 hw [] b1 (1 : Int32) (4 : Int32) (4 : Int32) T18.heap n0 Zs27 (by decide)) (ow hw 42 rfl) (ow hw 3 rfl) rfl (by rw [hml]; rfl) rfl (hb hby at_118) (lenOf pd___CIII_Z rfl) rfl (by decide) (fun T274 v274 Ll274 X274 hQ274 => ?_)
       obtain ⟨rfl, N274q, eh274⟩ := hQ274
       have N274 := Fr.app N273 N274q
       refine own_go (b := (T274.setTop (mkF m 131 #[iv p0, iv p1, iv p2, iv p3, iv p4, rv b1, rv b16, iv (3 : Int32), iv (4 : Int32), iv (4 : Int32), .unset, .unset] [(.int (4 : Int32)), (.int (4 : Int32)), (.int (2 : Int32)), (.ref b1)]))) (fun _ k => XS.ifNo X274.here hx rfl (hb hby at_121) rfl ((if0 _ _).trans (feq (by decide : ¬ ((1 : Int32) = (0 : Int32)))).1) (XS.aload X274.here hx rfl (hb hby at_124) rfl rfl (XS.iconst X274.here hx rfl (hb hby at_126) (XS.iload X274.here hx rfl (hb hby at_127) rfl (XS.iload X274.here hx rfl (hb hby at_129) rfl k))))) ?_
       refine own_stat (W := 0) X274 hx hZ hown eh274 (ow hw 40 rfl) (ow hw 41 rfl) (rmsoA l Z a0 hw [] b1 (2 : Int32) (4 : Int32) (4 : Int32) T18.heap n0 Zs27 (by decide)) (ow hw 42 rfl) (ow hw 3 rfl) rfl (by rw [hml]; rfl) rfl (hb hby at_131) (lenOf pd___CIII_Z rfl) rfl (by decide) (fun T275 v275 Ll275 X275 hQ275 => ?_)
       obtain ⟨rfl, N275q, eh275⟩ := hQ275
       have N275 := Fr.app N274 N275q
       refine own_go (b := (T275.setTop (mkF m 144 #[iv p0, iv p1, iv p2, iv p3, iv p4, rv b1, rv b16, iv (3 : Int32), iv (4 : Int32), iv (4 : Int32), .unset, .unset] [(.int (4 : Int32)), (.int (4 : Int32)), (.int (3 : Int32)), (.ref b1)]))) (fun _ k => XS.ifNo X275.here hx rfl (hb hby at_134) rfl ((if0 _ _).trans (feq (by decide : ¬ ((1 : Int32) = (0 : Int32)))).1) (XS.aload X275.here hx rfl (hb hby at_137) rfl rfl (XS.iconst X275.here hx rfl (hb hby at_139) (XS.iload X275.here hx rfl (hb hby at_140) rfl (XS.iload X275.here hx rfl (hb hby at_142) rfl k))))) ?_
       refine own_stat (W := 0) X275 hx hZ hown eh275 (ow hw 40 rfl) (ow hw 41 rfl) (rmsoA l Z a0 hw [] b1 (3 : Int32) (4 : Int32) (4 : Int32) T18.heap n0 Zs27 (by decide)) (ow hw 42 rfl) (ow hw 3 rfl) rfl (by rw [hml]; rfl) rfl (hb hby at_144) (lenOf pd___CIII_Z rfl) rfl (by decide) (fun T276 v276 Ll276 X276 hQ276 => ?_)
       obtain ⟨rfl, N276q, eh276⟩ := hQ276
       have N276 := Fr.app N275 N276q
       refine own_go (b := (T276.setTop (mkF m 170 #[iv p0, iv p1, iv p2, iv p3, iv p4, rv b1, rv b16, iv (3 : Int32), iv (4 : Int32), iv (4 : Int32), iv (1 : Int32), .unset] [(.int (3 : Int32)), (.ref b1)]))) (fun _ k => XS.ifNo X276.here hx rfl (hb hby at_147) rfl ((if0 _ _).trans (feq (by decide : ¬ ((1 : Int32) = (0 : Int32)))).1) (XS.iconst X276.here hx rfl (hb hby at_150) (XS.goto X276.here hx rfl (pc0 := 151) (pc' := 155) rfl (hb hby at_151) (by decide) (by decide) (XS.istore X276.here hx rfl (hb hby at_155) rfl (l' := #[iv p0, iv p1, iv p2, iv p3, iv p4, rv b1, rv b16, iv (3 : Int32), iv (4 : Int32), iv (4 : Int32), iv (1 : Int32), .unset]) rfl (XS.iload X276.here hx rfl (hb hby at_157) rfl (XS.iload X276.here hx rfl (hb hby at_159) rfl (XS.icmpNo X276.here hx rfl (hb hby at_161) rfl (feq (by decide : ¬ ((4 : Int32) = (3 : Int32)))).1 (XS.aload X276.here hx rfl (hb hby at_164) rfl rfl (XS.iload X276.here hx rfl (hb hby at_166) rfl (XS.iconst X276.here hx rfl (hb hby at_168) (XS.isub X276.here hx rfl (hb hby at_169) rfl k))))))))))) ?_
       have nx278 : b1 ≠ b16 := (own_ne V1.lt (own_tr (own_tr (own_tr (Keep.of_wr W4).1 (Keep.of_wr W8).1) (Keep.of_wr W11).1) (Keep.of_wr W14).1) (Nat.le_of_eq g16.symm))
       have F279 := F26.keep K18 (ninS nx278 nin0)
       obtain ⟨cl277, Ar277, ql277, Sz277, Nn277, Hl277, Gl277⟩ := id F279
       have hin277 : ¬ ((3 : Int32) < 0 ∨ cl277.slots.size ≤ ((3 : Int32)).toNatClampNeg) := inb_of Sz277 ⟨by decide, by decide⟩
       refine own_go (b := (T276.setTop (mkF m 198 #[iv p0, iv p1, iv p2, iv p3, iv p4, rv b1, rv b16, iv (3 : Int32), iv (4 : Int32), iv (4 : Int32), iv (1 : Int32), iv (1 : Int32)] [(.int (1 : Int32))]))) (fun _ k => X276.caload hx (j := (3 : Int32)) (v := (.int (nar .char rc_13))) (by rw [eh276]; exact Ar277.1) (State.isArrayOf_alike hZ.alike Ar277.2.1) Ar277.2.2 hin277 (Hl277.at hin277 rfl) (g := (mkF m 170 #[iv p0, iv p1, iv p2, iv p3, iv p4, rv b1, rv b16, iv (3 : Int32), iv (4 : Int32), iv (4 : Int32), iv (1 : Int32), .unset] [(.int (3 : Int32)), (.ref b1)])) rfl rfl (hb hby at_170) _ (XS.bipush X276.here hx rfl (hb hby at_171) (XS.icmpNo X276.here hx rfl (hb hby at_173) rfl (feq hs3).1 (XS.iconst X276.here hx rfl (hb hby at_176) (XS.goto X276.here hx rfl (pc0 := 177) (pc' := 181) rfl (hb hby at_177) (by decide) (by decide) (XS.istore X276.here hx rfl (hb hby at_181) rfl (l' := #[iv p0, iv p1, iv p2, iv p3, iv p4, rv b1, rv b16, iv (3 : Int32), iv (4 : Int32), iv (4 : Int32), iv (1 : Int32), iv (1 : Int32)]) rfl (XS.iload X276.here hx rfl (hb hby at_183) rfl (XS.ifNo X276.here hx rfl (hb hby at_185) rfl ((if0 _ _).trans (feq (by decide : ¬ ((1 : Int32) = (0 : Int32)))).1) (XS.iload X276.here hx rfl (hb hby at_188) rfl (XS.ifNo X276.here hx rfl (hb hby at_190) rfl ((if0 _ _).trans (feq (by decide : ¬ ((1 : Int32) = (0 : Int32)))).1) (XS.iconst X276.here hx rfl (hb hby at_193) (XS.goto X276.here hx rfl (pc0 := 194) (pc' := 198) rfl (hb hby at_194) (by decide) (by decide) k)))))))))))) ?_
       obtain ⟨fs, hr, hrun, hended, hW, hsame⟩ := X276.leave (v := some (.int (1 : Int32))) (fun h => by rw [Bd.returns] at h; cases h)
       exact ⟨_, _, retN X276 hx (t := .boolean) Bd.returns (by simp) (hb hby at_198) hr, hrun, hended, _, _, rfl, (show Qrm0 Z p0 p1 p2 p3 p4 cs fv h0 n0 _ T276.heap _ from (by rw [eh276]; exact ⟨rfl, N276⟩)), ⟨_, rfl⟩, hW, hsame.mono (by decide) (by decide)⟩
     · skip
       refine own_go (b := (T270.setTop (mkF m 105 #[iv p0, iv p1, iv p2, iv p3, iv p4, rv b1, rv b16, iv (3 : Int32), iv (4 : Int32), iv (3 : Int32), .unset, .unset] [(.int (4 : Int32)), (.int (3 : Int32)), (.int (0 : Int32)), (.ref b1)]))) (fun _ k => XS.istore X270.here hx rfl (hb hby at_80) rfl (l' := #[iv p0, iv p1, iv p2, iv p3, iv p4, rv b1, rv b16, iv (3 : Int32), iv (4 : Int32), iv (3 : Int32), .unset, .unset]) rfl (XS.iload X270.here hx rfl (hb hby at_82) rfl (XS.iload X270.here hx rfl (hb hby at_84) rfl (XS.icmpNo X270.here hx rfl (hb hby at_86) rfl (flt (by decide : ¬ ((3 : Int32) < (3 : Int32)))).1 (XS.iload X270.here hx rfl (hb hby at_89) rfl (XS.iload X270.here hx rfl (hb hby at_91) rfl (XS.icmpYes X270.here hx rfl (pc0 := 93) (pc' := 98) rfl (hb hby at_93) rfl (flt (by decide : ¬ ((4 : Int32) < (3 : Int32)))).2.2.2 (by decide) (by decide) (XS.aload X270.here hx rfl (hb hby at_98) rfl rfl (XS.iconst X270.here hx rfl (hb hby at_100) (XS.iload X270.here hx rfl (hb hby at_101) rfl (XS.iload X270.here hx rfl (hb hby at_103) rfl k))))))))))) ?_
       refine own_stat (W := 0) X270 hx hZ hown eh270 (ow hw 40 rfl) (ow hw 41 rfl) (rmsoA l Z a0 hw [] b1 (0 : Int32) (3 : Int32) (4 : Int32) T18.heap n0 Zs27 (by decide)) (ow hw 42 rfl) (ow hw 3 rfl) rfl (by rw [hml]; rfl) rfl (hb hby at_105) (lenOf pd___CIII_Z rfl) rfl (by decide) (fun T280 v280 Ll280 X280 hQ280 => ?_)
       obtain ⟨rfl, N280q, eh280⟩ := hQ280
       have N280 := Fr.app N270 N280q
       refine own_go (b := (T280.setTop (mkF m 118 #[iv p0, iv p1, iv p2, iv p3, iv p4, rv b1, rv b16, iv (3 : Int32), iv (4 : Int32), iv (3 : Int32), .unset, .unset] [(.int (4 : Int32)), (.int (3 : Int32)), (.int (1 : Int32)), (.ref b1)]))) (fun _ k => XS.ifNo X280.here hx rfl (hb hby at_108) rfl ((if0 _ _).trans (feq (by decide : ¬ ((1 : Int32) = (0 : Int32)))).1) (XS.aload X280.here hx rfl (hb hby at_111) rfl rfl (XS.iconst X280.here hx rfl (hb hby at_113) (XS.iload X280.here hx rfl (hb hby at_114) rfl (XS.iload X280.here hx rfl (hb hby at_116) rfl k))))) ?_
       refine own_stat (W := 0) X280 hx hZ hown eh280 (ow hw 40 rfl) (ow hw 41 rfl) (rmsoA l Z a0 hw [] b1 (1 : Int32) (3 : Int32) (4 : Int32) T18.heap n0 Zs27 (by decide)) (ow hw 42 rfl) (ow hw 3 rfl) rfl (by rw [hml]; rfl) rfl (hb hby at_118) (lenOf pd___CIII_Z rfl) rfl (by decide) (fun T281 v281 Ll281 X281 hQ281 => ?_)
       obtain ⟨rfl, N281q, eh281⟩ := hQ281
       have N281 := Fr.app N280 N281q
       refine own_go (b := (T281.setTop (mkF m 131 #[iv p0, iv p1, iv p2, iv p3, iv p4, rv b1, rv b16, iv (3 : Int32), iv (4 : Int32), iv (3 : Int32), .unset, .unset] [(.int (4 : Int32)), (.int (3 : Int32)), (.int (2 : Int32)), (.ref b1)]))) (fun _ k => XS.ifNo X281.here hx rfl (hb hby at_121) rfl ((if0 _ _).trans (feq (by decide : ¬ ((1 : Int32) = (0 : Int32)))).1) (XS.aload X281.here hx rfl (hb hby at_124) rfl rfl (XS.iconst X281.here hx rfl (hb hby at_126) (XS.iload X281.here hx rfl (hb hby at_127) rfl (XS.iload X281.here hx rfl (hb hby at_129) rfl k))))) ?_
       refine own_stat (W := 0) X281 hx hZ hown eh281 (ow hw 40 rfl) (ow hw 41 rfl) (rmsoA l Z a0 hw [] b1 (2 : Int32) (3 : Int32) (4 : Int32) T18.heap n0 Zs27 (by decide)) (ow hw 42 rfl) (ow hw 3 rfl) rfl (by rw [hml]; rfl) rfl (hb hby at_131) (lenOf pd___CIII_Z rfl) rfl (by decide) (fun T282 v282 Ll282 X282 hQ282 => ?_)
       obtain ⟨rfl, N282q, eh282⟩ := hQ282
       have N282 := Fr.app N281 N282q
       refine own_go (b := (T282.setTop (mkF m 144 #[iv p0, iv p1, iv p2, iv p3, iv p4, rv b1, rv b16, iv (3 : Int32), iv (4 : Int32), iv (3 : Int32), .unset, .unset] [(.int (4 : Int32)), (.int (3 : Int32)), (.int (3 : Int32)), (.ref b1)]))) (fun _ k => XS.ifNo X282.here hx rfl (hb hby at_134) rfl ((if0 _ _).trans (feq (by decide : ¬ ((1 : Int32) = (0 : Int32)))).1) (XS.aload X282.here hx rfl (hb hby at_137) rfl rfl (XS.iconst X282.here hx rfl (hb hby at_139) (XS.iload X282.here hx rfl (hb hby at_140) rfl (XS.iload X282.here hx rfl (hb hby at_142) rfl k))))) ?_
       have nx284 : b1 ≠ b16 := (own_ne V1.lt (own_tr (own_tr (own_tr (Keep.of_wr W4).1 (Keep.of_wr W8).1) (Keep.of_wr W11).1) (Keep.of_wr W14).1) (Nat.le_of_eq g16.symm))
       have F285 := F26.keep K18 (ninS nx284 nin0)
       refine own_stat (W := 0) X282 hx hZ hown eh282 (ow hw 40 rfl) (ow hw 41 rfl) (rmsoC3 l Z a0 hw [] b1 kl1 (nar .char rc_3) (nar .char rc_7) (nar .char rc_10) (nar .char rc_13) (3 : Int32) (4 : Int32) T18.heap n0 Zs27 F285 (by decide : ¬ ((3 : Int32) < (3 : Int32))) (by decide) hs3) (ow hw 42 rfl) (ow hw 3 rfl) rfl (by rw [hml]; rfl) rfl (hb hby at_144) (lenOf pd___CIII_Z rfl) rfl (by decide) (fun T283 v283 Ll283 X283 hQ283 => ?_)
       obtain ⟨rfl, N283q, eh283⟩ := hQ283
       have N283 := Fr.app N282 N283q
       refine own_go (b := (T283.setTop (mkF m 198 #[iv p0, iv p1, iv p2, iv p3, iv p4, rv b1, rv b16, iv (3 : Int32), iv (4 : Int32), iv (3 : Int32), iv (1 : Int32), iv (1 : Int32)] [(.int (1 : Int32))]))) (fun _ k => XS.ifNo X283.here hx rfl (hb hby at_147) rfl ((if0 _ _).trans (feq (by decide : ¬ ((1 : Int32) = (0 : Int32)))).1) (XS.iconst X283.here hx rfl (hb hby at_150) (XS.goto X283.here hx rfl (pc0 := 151) (pc' := 155) rfl (hb hby at_151) (by decide) (by decide) (XS.istore X283.here hx rfl (hb hby at_155) rfl (l' := #[iv p0, iv p1, iv p2, iv p3, iv p4, rv b1, rv b16, iv (3 : Int32), iv (4 : Int32), iv (3 : Int32), iv (1 : Int32), .unset]) rfl (XS.iload X283.here hx rfl (hb hby at_157) rfl (XS.iload X283.here hx rfl (hb hby at_159) rfl (XS.icmpYes X283.here hx rfl (pc0 := 161) (pc' := 176) rfl (hb hby at_161) rfl (teq (rfl : (3 : Int32) = (3 : Int32))).1 (by decide) (by decide) (XS.iconst X283.here hx rfl (hb hby at_176) (XS.goto X283.here hx rfl (pc0 := 177) (pc' := 181) rfl (hb hby at_177) (by decide) (by decide) (XS.istore X283.here hx rfl (hb hby at_181) rfl (l' := #[iv p0, iv p1, iv p2, iv p3, iv p4, rv b1, rv b16, iv (3 : Int32), iv (4 : Int32), iv (3 : Int32), iv (1 : Int32), iv (1 : Int32)]) rfl (XS.iload X283.here hx rfl (hb hby at_183) rfl (XS.ifNo X283.here hx rfl (hb hby at_185) rfl ((if0 _ _).trans (feq (by decide : ¬ ((1 : Int32) = (0 : Int32)))).1) (XS.iload X283.here hx rfl (hb hby at_188) rfl (XS.ifNo X283.here hx rfl (hb hby at_190) rfl ((if0 _ _).trans (feq (by decide : ¬ ((1 : Int32) = (0 : Int32)))).1) (XS.iconst X283.here hx rfl (hb hby at_193) (XS.goto X283.here hx rfl (pc0 := 194) (pc' := 198) rfl (hb hby at_194) (by decide) (by decide) k)))))))))))))))) ?_
       obtain ⟨fs, hr, hrun, hended, hW, hsame⟩ := X283.leave (v := some (.int (1 : Int32))) (fun h => by rw [Bd.returns] at h; cases h)
       exact ⟨_, _, retN X283 hx (t := .boolean) Bd.returns (by simp) (hb hby at_198) hr, hrun, hended, _, _, rfl, (show Qrm0 Z p0 p1 p2 p3 p4 cs fv h0 n0 _ T283.heap _ from (by rw [eh283]; exact ⟨rfl, N283⟩)), ⟨_, rfl⟩, hW, hsame.mono (by decide) (by decide)⟩
 · rw [hk]
   refine own_go (b := (T18.setTop (mkF m 68 #[iv p0, iv p1, iv p2, iv p3, iv p4, rv b1, rv b16, iv (4 : Int32), .unset, .unset, .unset, .unset] [(.int (((p4.toUInt32 >>> ((3 : Int32) &&& 31).toUInt32).toInt32) % (1 : Int32))), (.int (4 : Int32))]))) (fun _ k => XS.istore X18.here hx rfl (hb hby at_55) rfl (l' := #[iv p0, iv p1, iv p2, iv p3, iv p4, rv b1, rv b16, iv (4 : Int32), .unset, .unset, .unset, .unset]) rfl (XS.iload X18.here hx rfl (hb hby at_57) rfl (XS.iload X18.here hx rfl (hb hby at_59) rfl (XS.iconst X18.here hx rfl (hb hby at_61) (XS.iushr X18.here hx rfl (hb hby at_62) rfl (XS.iconst X18.here hx rfl (hb hby at_63) (XS.iload X18.here hx rfl (hb hby at_64) rfl (XS.isub X18.here hx rfl (hb hby at_66) rfl (iremM (g := (mkF m 67 #[iv p0, iv p1, iv p2, iv p3, iv p4, rv b1, rv b16, iv (4 : Int32), .unset, .unset, .unset, .unset] [(.int (1 : Int32)), (.int ((p4.toUInt32 >>> ((3 : Int32) &&& 31).toUInt32).toInt32)), (.int (4 : Int32))])) X18 hx rfl (hb hby at_67) rfl (by decide) k))))))))) ?_
   rcases own_mod1 _ (own_u3 p4) with hl
   · rw [hl]
     refine own_go (b := (T18.setTop (mkF m 77 #[iv p0, iv p1, iv p2, iv p3, iv p4, rv b1, rv b16, iv (4 : Int32), iv (4 : Int32), .unset, .unset, .unset] [(.int (4 : Int32)), (.int (4 : Int32)), (.ref b16)]))) (fun _ k => XS.iadd X18.here hx rfl (hb hby at_68) rfl (XS.istore X18.here hx rfl (hb hby at_69) rfl (l' := #[iv p0, iv p1, iv p2, iv p3, iv p4, rv b1, rv b16, iv (4 : Int32), iv (4 : Int32), .unset, .unset, .unset]) rfl (XS.aload X18.here hx rfl (hb hby at_71) rfl rfl (XS.iload X18.here hx rfl (hb hby at_73) rfl (XS.iload X18.here hx rfl (hb hby at_75) rfl k))))) ?_
     have O287 := O24.keep K18 (allS gx25 all0)
     have F288 := A16.keep K18
     refine own_stat (W := 0) X18 hx hZ hown rfl (ow hw 36 rfl) (ow hw 37 rfl) (rmts4_4 l Z a0 hw [] b16 (nar .char rc_3) (nar .char rc_7) (nar .char rc_10) (nar .char rc_13) cs fv T18.heap n0 Zs27 O287 S_COMPACT_STRINGS hcs S__assertionsDisabled S_HI_BYTE_SHIFT S_LO_BYTE_SHIFT S_SIOOBE_FORMATTER hfv F288 P18_0) (ow hw 39 rfl) (ow hw 38 rfl) rfl (by rw [hml]; rfl) rfl (hb hby at_77) (lenOf pd__Ljava_lang_String_II_I rfl) rfl (by decide) (fun T286 v286 Ll286 X286 hQ286 => ?_)
     obtain ⟨r_286, rfl, N286q, eh286, P286_0⟩ := hQ286
     have N286 := Fr.app N18 N286q
     obtain rfl := P286_0
     refine own_go (b := (T286.setTop (mkF m 105 #[iv p0, iv p1, iv p2, iv p3, iv p4, rv b1, rv b16, iv (4 : Int32), iv (4 : Int32), iv (4 : Int32), .unset, .unset] [(.int (4 : Int32)), (.int (4 : Int32)), (.int (0 : Int32)), (.ref b1)]))) (fun _ k => XS.istore X286.here hx rfl (hb hby at_80) rfl (l' := #[iv p0, iv p1, iv p2, iv p3, iv p4, rv b1, rv b16, iv (4 : Int32), iv (4 : Int32), iv (4 : Int32), .unset, .unset]) rfl (XS.iload X286.here hx rfl (hb hby at_82) rfl (XS.iload X286.here hx rfl (hb hby at_84) rfl (XS.icmpNo X286.here hx rfl (hb hby at_86) rfl (flt (by decide : ¬ ((4 : Int32) < (4 : Int32)))).1 (XS.iload X286.here hx rfl (hb hby at_89) rfl (XS.iload X286.here hx rfl (hb hby at_91) rfl (XS.icmpYes X286.here hx rfl (pc0 := 93) (pc' := 98) rfl (hb hby at_93) rfl (flt (by decide : ¬ ((4 : Int32) < (4 : Int32)))).2.2.2 (by decide) (by decide) (XS.aload X286.here hx rfl (hb hby at_98) rfl rfl (XS.iconst X286.here hx rfl (hb hby at_100) (XS.iload X286.here hx rfl (hb hby at_101) rfl (XS.iload X286.here hx rfl (hb hby at_103) rfl k))))))))))) ?_
     refine own_stat (W := 0) X286 hx hZ hown eh286 (ow hw 40 rfl) (ow hw 41 rfl) (rmsoA l Z a0 hw [] b1 (0 : Int32) (4 : Int32) (4 : Int32) T18.heap n0 Zs27 (by decide)) (ow hw 42 rfl) (ow hw 3 rfl) rfl (by rw [hml]; rfl) rfl (hb hby at_105) (lenOf pd___CIII_Z rfl) rfl (by decide) (fun T289 v289 Ll289 X289 hQ289 => ?_)
     obtain ⟨rfl, N289q, eh289⟩ := hQ289
     have N289 := Fr.app N286 N289q
     refine own_go (b := (T289.setTop (mkF m 118 #[iv p0, iv p1, iv p2, iv p3, iv p4, rv b1, rv b16, iv (4 : Int32), iv (4 : Int32), iv (4 : Int32), .unset, .unset] [(.int (4 : Int32)), (.int (4 : Int32)), (.int (1 : Int32)), (.ref b1)]))) (fun _ k => XS.ifNo X289.here hx rfl (hb hby at_108) rfl ((if0 _ _).trans (feq (by decide : ¬ ((1 : Int32) = (0 : Int32)))).1) (XS.aload X289.here hx rfl (hb hby at_111) rfl rfl (XS.iconst X289.here hx rfl (hb hby at_113) (XS.iload X289.here hx rfl (hb hby at_114) rfl (XS.iload X289.here hx rfl (hb hby at_116) rfl k))))) ?_
     refine own_stat (W := 0) X289 hx hZ hown eh289 (ow hw 40 rfl) (ow hw 41 rfl) (rmsoA l Z a0 hw [] b1 (1 : Int32) (4 : Int32) (4 : Int32) T18.heap n0 Zs27 (by decide)) (ow hw 42 rfl) (ow hw 3 rfl) rfl (by rw [hml]; rfl) rfl (hb hby at_118) (lenOf pd___CIII_Z rfl) rfl (by decide) (fun T290 v290 Ll290 X290 hQ290 => ?_)
     obtain ⟨rfl, N290q, eh290⟩ := hQ290
     have N290 := Fr.app N289 N290q
     refine own_go (b := (T290.setTop (mkF m 131 #[iv p0, iv p1, iv p2, iv p3, iv p4, rv b1, rv b16, iv (4 : Int32), iv (4 : Int32), iv (4 : Int32), .unset, .unset] [(.int (4 : Int32)), (.int (4 : Int32)), (.int (2 : Int32)), (.ref b1)]))) (fun _ k => XS.ifNo X290.here hx rfl (hb hby at_121) rfl ((if0 _ _).trans (feq (by decide : ¬ ((1 : Int32) = (0 : Int32)))).1) (XS.aload X290.here hx rfl (hb hby at_124) rfl rfl (XS.iconst X290.here hx rfl (hb hby at_126) (XS.iload X290.here hx rfl (hb hby at_127) rfl (XS.iload X290.here hx rfl (hb hby at_129) rfl k))))) ?_
     refine own_stat (W := 0) X290 hx hZ hown eh290 (ow hw 40 rfl) (ow hw 41 rfl) (rmsoA l Z a0 hw [] b1 (2 : Int32) (4 : Int32) (4 : Int32) T18.heap n0 Zs27 (by decide)) (ow hw 42 rfl) (ow hw 3 rfl) rfl (by rw [hml]; rfl) rfl (hb hby at_131) (lenOf pd___CIII_Z rfl) rfl (by decide) (fun T291 v291 Ll291 X291 hQ291 => ?_)
     obtain ⟨rfl, N291q, eh291⟩ := hQ291
     have N291 := Fr.app N290 N291q
     refine own_go (b := (T291.setTop (mkF m 144 #[iv p0, iv p1, iv p2, iv p3, iv p4, rv b1, rv b16, iv (4 : Int32), iv (4 : Int32), iv (4 : Int32), .unset, .unset] [(.int (4 : Int32)), (.int (4 : Int32)), (.int (3 : Int32)), (.ref b1)]))) (fun _ k => XS.ifNo X291.here hx rfl (hb hby at_134) rfl ((if0 _ _).trans (feq (by decide : ¬ ((1 : Int32) = (0 : Int32)))).1) (XS.aload X291.here hx rfl (hb hby at_137) rfl rfl (XS.iconst X291.here hx rfl (hb hby at_139) (XS.iload X291.here hx rfl (hb hby at_140) rfl (XS.iload X291.here hx rfl (hb hby at_142) rfl k))))) ?_
     refine own_stat (W := 0) X291 hx hZ hown eh291 (ow hw 40 rfl) (ow hw 41 rfl) (rmsoA l Z a0 hw [] b1 (3 : Int32) (4 : Int32) (4 : Int32) T18.heap n0 Zs27 (by decide)) (ow hw 42 rfl) (ow hw 3 rfl) rfl (by rw [hml]; rfl) rfl (hb hby at_144) (lenOf pd___CIII_Z rfl) rfl (by decide) (fun T292 v292 Ll292 X292 hQ292 => ?_)
     obtain ⟨rfl, N292q, eh292⟩ := hQ292
     have N292 := Fr.app N291 N292q
     refine own_go (b := (T292.setTop (mkF m 198 #[iv p0, iv p1, iv p2, iv p3, iv p4, rv b1, rv b16, iv (4 : Int32), iv (4 : Int32), iv (4 : Int32), iv (1 : Int32), iv (1 : Int32)] [(.int (1 : Int32))]))) (fun _ k => XS.ifNo X292.here hx rfl (hb hby at_147) rfl ((if0 _ _).trans (feq (by decide : ¬ ((1 : Int32) = (0 : Int32)))).1) (XS.iconst X292.here hx rfl (hb hby at_150) (XS.goto X292.here hx rfl (pc0 := 151) (pc' := 155) rfl (hb hby at_151) (by decide) (by decide) (XS.istore X292.here hx rfl (hb hby at_155) rfl (l' := #[iv p0, iv p1, iv p2, iv p3, iv p4, rv b1, rv b16, iv (4 : Int32), iv (4 : Int32), iv (4 : Int32), iv (1 : Int32), .unset]) rfl (XS.iload X292.here hx rfl (hb hby at_157) rfl (XS.iload X292.here hx rfl (hb hby at_159) rfl (XS.icmpYes X292.here hx rfl (pc0 := 161) (pc' := 176) rfl (hb hby at_161) rfl (teq (rfl : (4 : Int32) = (4 : Int32))).1 (by decide) (by decide) (XS.iconst X292.here hx rfl (hb hby at_176) (XS.goto X292.here hx rfl (pc0 := 177) (pc' := 181) rfl (hb hby at_177) (by decide) (by decide) (XS.istore X292.here hx rfl (hb hby at_181) rfl (l' := #[iv p0, iv p1, iv p2, iv p3, iv p4, rv b1, rv b16, iv (4 : Int32), iv (4 : Int32), iv (4 : Int32), iv (1 : Int32), iv (1 : Int32)]) rfl (XS.iload X292.here hx rfl (hb hby at_183) rfl (XS.ifNo X292.here hx rfl (hb hby at_185) rfl ((if0 _ _).trans (feq (by decide : ¬ ((1 : Int32) = (0 : Int32)))).1) (XS.iload X292.here hx rfl (hb hby at_188) rfl (XS.ifNo X292.here hx rfl (hb hby at_190) rfl ((if0 _ _).trans (feq (by decide : ¬ ((1 : Int32) = (0 : Int32)))).1) (XS.iconst X292.here hx rfl (hb hby at_193) (XS.goto X292.here hx rfl (pc0 := 194) (pc' := 198) rfl (hb hby at_194) (by decide) (by decide) k)))))))))))))))) ?_
     obtain ⟨fs, hr, hrun, hended, hW, hsame⟩ := X292.leave (v := some (.int (1 : Int32))) (fun h => by rw [Bd.returns] at h; cases h)
     exact ⟨_, _, retN X292 hx (t := .boolean) Bd.returns (by simp) (hb hby at_198) hr, hrun, hended, _, _, rfl, (show Qrm0 Z p0 p1 p2 p3 p4 cs fv h0 n0 _ T292.heap _ from (by rw [eh292]; exact ⟨rfl, N292⟩)), ⟨_, rfl⟩, hW, hsame.mono (by decide) (by decide)⟩
set_option maxRecDepth 65536 in
set_option maxHeartbeats 40000000 in
theorem comes_1 {Post : Tables → Env → Array Value → State → Outcome → State → Prop} (hpost : ∀ tb e args s v u, (limb_1_1.after args s (.returned v) u = true ∧ limb_1_2.after args s (.returned v) u = true ∧ True) → FrameEnd s (.returned v) u (Jvm.fieldLocs frame_1_writes args s ++ Jvm.arrayLocs frame_1_arrays args s ++ Jvm.staticLocs frame_1_statics s) 16 128 → Post tb e args s (.returned v) u) :
    ArmFor flags0 classFile x code maxLocals ret World_1 tables_1 room_1 Calls_1 rest_1 Pre_1 Post := by
  intro l hfl _ _ p e ha hc hk s m args below hf hA hF happ hP
  obtain ⟨hcalls, hrest, hpre⟩ := hP
  obtain ⟨-, -, -, hnamed, -, -, -, hat⟩ := (Spec.applies_iff hf).mp happ
  obtain ⟨hg, hn⟩ := and_e (Cond.before_iff.mp (show (Jvm.Cond.and given_1 narrow_1).before args s = true from hpre))
  obtain ⟨gc0, gr0⟩ := and_e hg
  obtain ⟨gc1, gr1⟩ := and_e gr0
  obtain ⟨gc2, gr2⟩ := and_e gr1
  obtain ⟨gc3, gr3⟩ := and_e gr2
  obtain ⟨gc4, gr4⟩ := and_e gr3
  obtain ⟨w0, w1, w2, w3, w4, rfl⟩ : ∃ w0 w1 w2 w3 w4 : Value, args = #[w0, w1, w2, w3, w4] := by
    have hs : args.size = 5 := by simpa [Cond.value, given_1] using gc0
    obtain ⟨L⟩ := args
    match L, hs with
    | [w0, w1, w2, w3, w4], _ => exact ⟨w0, w1, w2, w3, w4, rfl⟩
  have hw := fun d (hd : d ∈ tables_1) => atoms_spec (ws := Jvm.Cond.code x code maxLocals ret :: tables_1) hat d (List.mem_cons_of_mem _ hd)
  have hfit : Fit s := fun {y c} hc i hi => by
    obtain ⟨ha, rfl⟩ := Array.getElem?_eq_some_iff.mp hc
    have q := List.all_eq_true.mp ((Array.all_eq_true_iff_forall_mem.mp hF) _ (Array.getElem_mem ha)) i (List.mem_range.mpr hi)
    simpa [Array.getElem?_eq_getElem hi] using q
  obtain ⟨hsets, hown0⟩ := atoms_of _ (rest_1_c_eq ▸ (show rest_1_c.before _ s = true from hrest))
  have hr0 := Cond.before_iff.mp hown0
  obtain ⟨i0, ei0⟩ := is_v gc1
  obtain rfl : w0 = (.int i0) := Option.some.inj ei0
  obtain ⟨i1, ei1⟩ := is_v gc2
  obtain rfl : w1 = (.int i1) := Option.some.inj ei1
  obtain ⟨i2, ei2⟩ := is_v gc3
  obtain rfl : w2 = (.int i2) := Option.some.inj ei2
  obtain ⟨i3, ei3⟩ := is_v gc4
  obtain rfl : w3 = (.int i3) := Option.some.inj ei3
  obtain ⟨i4, ei4⟩ := is_v gr4
  obtain rfl : w4 = (.int i4) := Option.some.inj ei4
  obtain ⟨cs, v_cs⟩ := is_v (Cond.before_iff.mp (hsets _ (List.mem_of_getElem? (i := 1) rfl)))
  have S_COMPACT_STRINGS := Sta.start v_cs (Or.inl (hsets _ (List.mem_of_getElem? (i := 0) rfl)))
  have hcs : ¬ (cs = (0 : Int32)) := gotF (Cond.eq_ints v_cs (Term.int_eval 0)) (not_v (Cond.before_iff.mp (hsets _ (List.mem_of_getElem? (i := 2) rfl))))
  have S_ad := Sta.start (own_sint (Cond.before_iff.mp (hsets _ (List.mem_of_getElem? (i := 12) rfl)))) (Or.inl (hsets _ (List.mem_of_getElem? (i := 11) rfl)))
  have S_hi := Sta.start (own_sint (Cond.before_iff.mp (hsets _ (List.mem_of_getElem? (i := 15) rfl)))) (Or.inl (hsets _ (List.mem_of_getElem? (i := 14) rfl)))
  have S_lo := Sta.start (own_sint (Cond.before_iff.mp (hsets _ (List.mem_of_getElem? (i := 18) rfl)))) (Or.inl (hsets _ (List.mem_of_getElem? (i := 17) rfl)))
  obtain ⟨fv, v_fv, hfv⟩ := own_isr (Cond.before_iff.mp (hsets _ (List.mem_of_getElem? (i := 8) rfl)))
  have S_fv := Sta.start v_fv (Or.inl (hsets _ (List.mem_of_getElem? (i := 7) rfl)))
  obtain ⟨n, o, h1, h2, h3, _, L, rfl, ⟨rfl, N⟩, hq⟩ := rm0 l s _ hw tables_1 i0 i1 i2 i3 i4 cs fv s.heap s.heap.size (Nat.le_refl _) (Old.start s) S_COMPACT_STRINGS hcs S_ad S_hi S_lo S_fv hfv p e ha hc hk s m _ below hf ((Spec.applies_iff_loose hf).mp happ).1 ⟨rfl, State.Warmed39.refl s, rfl⟩ trivial
  refine ⟨n, _, h1, h2, h3, hpost _ _ _ _ _ _ ⟨Cond.after_iff.mpr rfl, Cond.after_iff.mpr (eq_i res_at (Term.int_eval (1)) rfl), trivial⟩ ⟨hq.1, hq.2.1, (hq.2.2.sift fun y hy => Or.inr (N y hy)).mono (by decide) (by decide)⟩⟩
theorem main_1_1 : Claimed_1_1 := comes_1 fun _ _ _ _ _ _ h hF => ⟨h.1, hF⟩
theorem main_1_2 : Claimed_1_2 := comes_1 fun _ _ _ _ _ _ h hF => ⟨h.2.1, hF⟩
end Jvm.Pilot.@@N@@
namespace Jvm.Pilot.@@N@@
open Jvm Jvm.ClassFile Sem Op Lib Jvm.Free Jvm.Stand Jvm.Pilot.@@N@@.Jvm.D
/-! MADE BY PROGRAM (witnessworld.py) out of the Statement's table words and the real class files: 21 classes; the members and pool entries that the words name. The judged class is class 1, her method 1. -/
namespace start1
open Jvm.ClassFile
def u (s : String) : CpInfo := .utf8 (stringToUtf16 s)
/-- a pool by its gaps: so many unusable entries, then the entry; so many at the end -/
def gap : Nat → List CpInfo → List CpInfo
  | 0, r => r
  | n + 1, r => .unusable :: gap n r
def poolList (es : List (Nat × CpInfo)) (last : Nat) : List CpInfo := es.foldr (fun e r => gap e.1 (e.2 :: r)) (gap last [])
def pool (es : List (Nat × CpInfo)) (last : Nat) : Array CpInfo := ⟨poolList es last⟩
def fileOf (pool : Array CpInfo) (this : Nat) (attrs : Array Attribute := #[]) (ms : Array MethodInfo := #[]) (fl : Nat := 33) (sup : Nat := 0) (ifs : Array Nat := #[]) (fds : Array FieldInfo := #[]) : ClassFile where
  minorVersion := 0
  majorVersion := 65
  constantPool := pool
  accessFlags := fl
  thisClass := this
  superClass := sup
  interfaces := ifs
  fields := fds
  methods := ms
  attributes := attrs
def plain (name : String) (sup : Option ClassId) : Class where
  name := name
  kind := .ordinary
  loader := none
  accessFlags := 33
  super := sup
  interfaces := #[]
  cf := none
  fields := #[]
  methods := #[]
  instanceTypes := #[]
  staticTypes := #[]
  resolved := #[]
  callSites := []
  init := .initialized
  statics := none
  mirror := none

def pool0 : Array CpInfo := pool [(5, u "<init>"), (0, u "()V"), (1, .class_ 10), (1, u "java/lang/Object")] 113

def k0c0 : Code := { maxStack := 0, maxLocals := 1, code := object_method_1_code, exceptionTable := #[], attributes := #[] }
def k0m0 : Method := { name := "<init>", desc := "()V", sig := { parameters := [], returnType := none }, accessFlags := 1, code := some k0c0 }
/-- java/lang/Object -/
def k0 : Class := { plain "java/lang/Object" none with
  accessFlags := 33
  interfaces := #[]
  cf := some (fileOf pool0 8 #[] #[{ accessFlags := 1, nameIndex := 5, descriptorIndex := 6, attributes := #[] }] 33 0 #[] #[])
  fields := #[]
  methods := #[k0m0]
  instanceTypes := #[]
  staticTypes := #[]
  resolved := Array.replicate 124 none
  statics := none }

def pool1 : Array CpInfo := pool [(2, .class_ 4), (1, u "java/lang/Object"), (0, u "<init>"), (0, u "()V"), (0, .methodref 8 9), (0, .class_ 10), (0, .nameAndType 11 12), (0, u "com/example/ledgerspool/ledgerspool/FieldTypeTrailingSpacesPinLaw"), (0, u "draw"), (0, u "(I)C"), (0, .class_ 14), (0, u "java/lang/String"), (0, .methodref 13 16), (0, .nameAndType 5 17), (0, u "([C)V"), (0, .integer 2147483647), (0, .methodref 20 21), (0, .class_ 22), (0, .nameAndType 23 24), (0, u "com/example/ledgerspool/ledgerspool/FieldType"), (0, u "trailingSpaces"), (0, u "(Ljava/lang/String;II)I"), (0, .methodref 8 26), (0, .nameAndType 27 28), (0, u "spaceOrOutside"), (0, u "([CIII)Z"), (0, .integer 65535), (2, u "law"), (0, u "(IIIII)Z")] 5

def k1m0 : Method := { name := "<init>", desc := "()V", sig := { parameters := [], returnType := none }, accessFlags := 1, code := none }
def k1c1 : Code := { maxStack := 4, maxLocals := 12, code := code, exceptionTable := #[], attributes := #[] }
def k1m1 : Method := { name := "law", desc := "(IIIII)Z", sig := { parameters := [.int, .int, .int, .int, .int], returnType := some .boolean }, accessFlags := 9, code := some k1c1 }
def k1c2 : Code := { maxStack := 2, maxLocals := 1, code := method_3_code, exceptionTable := #[], attributes := #[] }
def k1m2 : Method := { name := "draw", desc := "(I)C", sig := { parameters := [.int], returnType := some .char }, accessFlags := 10, code := some k1c2 }
def k1c3 : Code := { maxStack := 2, maxLocals := 4, code := method_4_code, exceptionTable := #[], attributes := #[] }
def k1m3 : Method := { name := "spaceOrOutside", desc := "([CIII)Z", sig := { parameters := [(.array .char), .int, .int, .int], returnType := some .boolean }, accessFlags := 10, code := some k1c3 }
/-- com/example/ledgerspool/ledgerspool/FieldTypeTrailingSpacesPinLaw -/
def k1 : Class := { plain "com/example/ledgerspool/ledgerspool/FieldTypeTrailingSpacesPinLaw" (some 0) with
  accessFlags := 49
  interfaces := #[]
  cf := some (fileOf pool1 8 #[] #[{ accessFlags := 1, nameIndex := 5, descriptorIndex := 6, attributes := #[] }, { accessFlags := 9, nameIndex := 32, descriptorIndex := 33, attributes := #[] }, { accessFlags := 10, nameIndex := 11, descriptorIndex := 12, attributes := #[] }, { accessFlags := 10, nameIndex := 27, descriptorIndex := 28, attributes := #[] }] 49 2 #[] #[])
  fields := #[]
  methods := #[k1m0, k1m1, k1m2, k1m3]
  instanceTypes := #[]
  staticTypes := #[]
  resolved := Array.replicate 39 none
  statics := none }

def pool2 : Array CpInfo := pool [(1, .class_ 2), (0, u "java/io/Serializable"), (0, .class_ 4), (0, u "java/lang/Object")] 2

/-- java/io/Serializable -/
def k2 : Class := { plain "java/io/Serializable" (some 0) with
  accessFlags := 1537
  interfaces := #[]
  cf := some (fileOf pool2 1 #[] #[] 1537 3 #[] #[])
  fields := #[]
  methods := #[]
  instanceTypes := #[]
  staticTypes := #[]
  resolved := Array.replicate 7 none
  statics := none }

def pool3 : Array CpInfo := pool [(1, .class_ 2), (0, u "java/lang/Comparable"), (0, .class_ 4), (0, u "java/lang/Object")] 7

/-- java/lang/Comparable -/
def k3 : Class := { plain "java/lang/Comparable" (some 0) with
  accessFlags := 1537
  interfaces := #[]
  cf := some (fileOf pool3 1 #[] #[] 1537 3 #[] #[])
  fields := #[]
  methods := #[]
  instanceTypes := #[]
  staticTypes := #[]
  resolved := Array.replicate 12 none
  statics := none }

def pool4 : Array CpInfo := pool [(2, .class_ 4), (1, u "java/lang/CharSequence"), (42, .class_ 48), (0, u "java/lang/CharSequence$1CodePointIterator"), (10, .class_ 60), (0, u "java/lang/CharSequence$1CharIterator"), (5, .class_ 67), (0, u "java/lang/Object")] 63

/-- java/lang/CharSequence -/
def k4 : Class := { plain "java/lang/CharSequence" (some 0) with
  accessFlags := 1537
  interfaces := #[]
  cf := some (fileOf pool4 2 #[.nestMembers #[47, 59]] #[] 1537 66 #[] #[])
  fields := #[]
  methods := #[]
  instanceTypes := #[]
  staticTypes := #[]
  resolved := Array.replicate 131 none
  statics := none }

def pool5 : Array CpInfo := pool [(1, .class_ 2), (0, u "java/lang/constant/Constable"), (0, .class_ 4), (0, u "java/lang/Object")] 6

/-- java/lang/constant/Constable -/
def k5 : Class := { plain "java/lang/constant/Constable" (some 0) with
  accessFlags := 1537
  interfaces := #[]
  cf := some (fileOf pool5 1 #[] #[] 1537 3 #[] #[])
  fields := #[]
  methods := #[]
  instanceTypes := #[]
  staticTypes := #[]
  resolved := Array.replicate 11 none
  statics := none }

def pool6 : Array CpInfo := pool [(1, .class_ 2), (0, u "java/lang/constant/ConstantDesc"), (0, .class_ 4), (0, u "java/lang/Object")] 32

/-- java/lang/constant/ConstantDesc -/
def k6 : Class := { plain "java/lang/constant/ConstantDesc" (some 0) with
  accessFlags := 1537
  interfaces := #[]
  cf := some (fileOf pool6 1 #[] #[] 1537 3 #[] #[])
  fields := #[]
  methods := #[]
  instanceTypes := #[]
  staticTypes := #[]
  resolved := Array.replicate 37 none
  statics := none }

def pool7 : Array CpInfo := pool [(1, .methodref 2 3), (0, .class_ 4), (0, .nameAndType 5 6), (0, u "java/lang/Object"), (0, u "<init>"), (0, u "()V"), (2, .fieldref 10 11), (0, .class_ 12), (0, .nameAndType 13 14), (0, u "java/lang/String"), (0, u "value"), (0, u "[B"), (0, .fieldref 10 16), (0, .nameAndType 17 18), (0, u "coder"), (0, u "B"), (2, u "hash"), (0, u "I"), (2, u "hashIsZero"), (0, u "Z"), (0, .methodref 10 28), (0, .nameAndType 5 29), (0, u "([CIILjava/lang/Void;)V"), (8, .fieldref 10 39), (0, .nameAndType 40 26), (0, u "COMPACT_STRINGS"), (1, .class_ 44), (1, u "java/lang/StringUTF16"), (0, u "compress"), (1, .methodref 42 48), (0, .nameAndType 49 50), (0, u "coderFromArrayLen"), (0, u "([BI)B"), (56, .class_ 109), (1, u "java/lang/StringLatin1"), (32, u "()Z"), (34, .methodref 42 178), (0, .nameAndType 45 179), (0, u "([CII)[B"), (183, u "([BI)C"), (27, u "(II)V"), (35, u "(I)C"), (64, .methodref 10 493), (0, .nameAndType 494 142), (0, u "isLatin1"), (0, .methodref 107 496), (0, .nameAndType 497 363), (0, u "charAt"), (0, .methodref 42 496), (2, u "checkIndex"), (73, .class_ 576), (0, u "java/lang/CharSequence"), (22, u "CASE_INSENSITIVE_ORDER"), (0, u "Ljava/util/Comparator;"), (409, u "([C)V"), (42, .fieldref 1054 1055), (0, .class_ 1056), (0, .nameAndType 1057 1058), (0, u "jdk/internal/util/Preconditions"), (0, u "SIOOBE_FORMATTER"), (0, u "Ljava/util/function/BiFunction;"), (0, .methodref 1054 1060), (0, .nameAndType 501 1061), (0, u "(IILjava/util/function/BiFunction;)I"), (39, u "serialPersistentFields"), (0, u "[Ljava/io/ObjectStreamField;"), (0, .class_ 1104), (0, u "java/lang/String$CaseInsensitiveComparator"), (1, .class_ 1107), (0, u "java/io/Serializable"), (0, .class_ 1109), (0, u "java/lang/Comparable"), (0, .class_ 1111), (0, u "java/lang/constant/Constable"), (0, .class_ 1113), (0, u "java/lang/constant/ConstantDesc"), (2, u "serialVersionUID"), (0, u "J"), (3, u "REPL"), (0, u "C"), (2, u "LATIN1"), (1, u "UTF16")] 323

def k7m0 : Method := { name := "<init>", desc := "()V", sig := { parameters := [], returnType := none }, accessFlags := 1, code := none }
def k7c1 : Code := { maxStack := 5, maxLocals := 2, code := jdk_42_method_3_code, exceptionTable := #[], attributes := #[] }
def k7m1 : Method := { name := "<init>", desc := "([C)V", sig := { parameters := [(.array .char)], returnType := none }, accessFlags := 1, code := some k7c1 }
def k7c2 : Code := { maxStack := 2, maxLocals := 2, code := jdk_42_method_56_code, exceptionTable := #[], attributes := #[] }
def k7m2 : Method := { name := "charAt", desc := "(I)C", sig := { parameters := [.int], returnType := some .char }, accessFlags := 1, code := some k7c2 }
def k7c3 : Code := { maxStack := 4, maxLocals := 6, code := jdk_42_method_149_code, exceptionTable := #[], attributes := #[] }
def k7m3 : Method := { name := "<init>", desc := "([CIILjava/lang/Void;)V", sig := { parameters := [(.array .char), .int, .int, (.object "java/lang/Void")], returnType := none }, accessFlags := 2, code := some k7c3 }
def k7c4 : Code := { maxStack := 1, maxLocals := 1, code := jdk_42_method_154_code, exceptionTable := #[], attributes := #[] }
def k7m4 : Method := { name := "isLatin1", desc := "()Z", sig := { parameters := [], returnType := some .boolean }, accessFlags := 0, code := some k7c4 }
def k7c5 : Code := { maxStack := 3, maxLocals := 2, code := jdk_42_method_155_code, exceptionTable := #[], attributes := #[] }
def k7m5 : Method := { name := "checkIndex", desc := "(II)V", sig := { parameters := [.int, .int], returnType := none }, accessFlags := 8, code := some k7c5 }
/-- java/lang/String -/
def k7 : Class := { plain "java/lang/String" (some 0) with
  accessFlags := 49
  interfaces := #[2, 3, 4, 5, 6]
  cf := some (fileOf pool7 10 #[.nestMembers #[1103]] #[{ accessFlags := 1, nameIndex := 5, descriptorIndex := 6, attributes := #[] }, { accessFlags := 1, nameIndex := 5, descriptorIndex := 1010, attributes := #[] }, { accessFlags := 1, nameIndex := 497, descriptorIndex := 427, attributes := #[] }, { accessFlags := 2, nameIndex := 5, descriptorIndex := 29, attributes := #[] }, { accessFlags := 0, nameIndex := 494, descriptorIndex := 142, attributes := #[] }, { accessFlags := 8, nameIndex := 501, descriptorIndex := 391, attributes := #[] }] 49 2 #[1106, 1108, 575, 1110, 1112] #[{ accessFlags := 18, nameIndex := 13, descriptorIndex := 14, attributes := #[] }, { accessFlags := 18, nameIndex := 17, descriptorIndex := 18, attributes := #[] }, { accessFlags := 2, nameIndex := 21, descriptorIndex := 22, attributes := #[] }, { accessFlags := 2, nameIndex := 25, descriptorIndex := 26, attributes := #[] }, { accessFlags := 26, nameIndex := 1116, descriptorIndex := 1117, attributes := #[] }, { accessFlags := 24, nameIndex := 40, descriptorIndex := 26, attributes := #[] }, { accessFlags := 26, nameIndex := 1101, descriptorIndex := 1102, attributes := #[] }, { accessFlags := 26, nameIndex := 1121, descriptorIndex := 1122, attributes := #[] }, { accessFlags := 25, nameIndex := 599, descriptorIndex := 600, attributes := #[] }, { accessFlags := 24, nameIndex := 1125, descriptorIndex := 18, attributes := #[] }, { accessFlags := 24, nameIndex := 1127, descriptorIndex := 18, attributes := #[] }])
  fields := #[{ name := "value", type := (.array .byte), accessFlags := 18, slot := 0, constantValue := 0 }, { name := "coder", type := .byte, accessFlags := 18, slot := 1, constantValue := 0 }, { name := "hash", type := .int, accessFlags := 2, slot := 2, constantValue := 0 }, { name := "hashIsZero", type := .boolean, accessFlags := 2, slot := 3, constantValue := 0 }, { name := "serialVersionUID", type := .long, accessFlags := 26, slot := 0, constantValue := 0 }, { name := "COMPACT_STRINGS", type := .boolean, accessFlags := 24, slot := 1, constantValue := 0 }, { name := "serialPersistentFields", type := (.array (.object "java/io/ObjectStreamField")), accessFlags := 26, slot := 2, constantValue := 0 }, { name := "REPL", type := .char, accessFlags := 26, slot := 3, constantValue := 0 }, { name := "CASE_INSENSITIVE_ORDER", type := (.object "java/util/Comparator"), accessFlags := 25, slot := 4, constantValue := 0 }, { name := "LATIN1", type := .byte, accessFlags := 24, slot := 5, constantValue := 0 }, { name := "UTF16", type := .byte, accessFlags := 24, slot := 6, constantValue := 0 }]
  methods := #[k7m0, k7m1, k7m2, k7m3, k7m4, k7m5]
  instanceTypes := #[(.array .byte), .byte, .int, .boolean]
  staticTypes := #[.long, .boolean, (.array (.object "java/io/ObjectStreamField")), .char, (.object "java/util/Comparator"), .byte, .byte]
  resolved := Array.replicate 1451 none
  statics := some 0 }

def pool8 : Array CpInfo := pool [(3, .class_ 4), (0, u "java/lang/String"), (1, .class_ 8), (1, u "java/lang/Object"), (0, u "<init>"), (0, u "()V"), (0, .methodref 12 13), (0, .class_ 14), (0, .nameAndType 15 16), (0, u "java/lang/StringUTF16"), (0, u "newBytesLength"), (0, u "(I)I"), (3, .integer 1073741823), (23, .fieldref 12 45), (0, .nameAndType 46 47), (0, u "$assertionsDisabled"), (0, u "Z"), (0, .methodref 12 49), (0, .nameAndType 50 51), (0, u "length"), (0, u "([B)I"), (7, .fieldref 12 60), (0, .nameAndType 61 62), (0, u "HI_BYTE_SHIFT"), (0, u "I"), (0, .fieldref 12 64), (0, .nameAndType 65 62), (0, u "LO_BYTE_SHIFT"), (1, .methodref 12 68), (0, .nameAndType 69 70), (0, u "checkIndex"), (0, u "(I[B)V"), (0, .methodref 12 72), (0, .nameAndType 73 74), (0, u "getChar"), (0, u "([BI)C"), (32, .methodref 12 108), (0, .nameAndType 109 110), (0, u "newBytesFor"), (0, u "(I)[B"), (0, .methodref 12 112), (0, .nameAndType 113 114), (0, u "putChar"), (0, u "([BII)V"), (0, .methodref 12 116), (0, .nameAndType 117 118), (0, u "compress"), (0, u "([CI[BII)I"), (0, .methodref 12 120), (0, .nameAndType 121 122), (0, u "toBytes"), (0, u "([CII)[B"), (138, u "coderFromArrayLen"), (0, u "([BI)B"), (106, .class_ 371), (1, u "java/lang/StringUTF16$LinesSpliterator"), (20, u "charAt"), (21, .methodref 3 415), (0, .nameAndType 69 416), (0, u "(II)V"), (13, u "MAX_LENGTH"), (196, .class_ 628), (0, u "java/lang/StringUTF16$CodePointsSpliterator"), (0, .class_ 630), (0, u "java/lang/StringUTF16$CharsSpliterator")] 4

def k8m0 : Method := { name := "<init>", desc := "()V", sig := { parameters := [], returnType := none }, accessFlags := 0, code := none }
def k8c1 : Code := { maxStack := 1, maxLocals := 1, code := jdk_52_method_2_code, exceptionTable := #[], attributes := #[] }
def k8m1 : Method := { name := "newBytesFor", desc := "(I)[B", sig := { parameters := [.int], returnType := some (.array .byte) }, accessFlags := 9, code := some k8c1 }
def k8c2 : Code := { maxStack := 4, maxLocals := 1, code := jdk_52_method_3_code, exceptionTable := #[], attributes := #[] }
def k8m2 : Method := { name := "newBytesLength", desc := "(I)I", sig := { parameters := [.int], returnType := some .int }, accessFlags := 9, code := some k8c2 }
def k8c3 : Code := { maxStack := 4, maxLocals := 3, code := jdk_52_method_4_code, exceptionTable := #[], attributes := #[] }
def k8m3 : Method := { name := "putChar", desc := "([BII)V", sig := { parameters := [(.array .byte), .int, .int], returnType := none }, accessFlags := 8, code := some k8c3 }
def k8c4 : Code := { maxStack := 3, maxLocals := 2, code := jdk_52_method_5_code, exceptionTable := #[], attributes := #[] }
def k8m4 : Method := { name := "getChar", desc := "([BI)C", sig := { parameters := [(.array .byte), .int], returnType := some .char }, accessFlags := 8, code := some k8c4 }
def k8c5 : Code := { maxStack := 2, maxLocals := 1, code := jdk_52_method_6_code, exceptionTable := #[], attributes := #[] }
def k8m5 : Method := { name := "length", desc := "([B)I", sig := { parameters := [(.array .byte)], returnType := some .int }, accessFlags := 9, code := some k8c5 }
def k8c6 : Code := { maxStack := 4, maxLocals := 5, code := jdk_52_method_14_code, exceptionTable := #[], attributes := #[] }
def k8m6 : Method := { name := "toBytes", desc := "([CII)[B", sig := { parameters := [(.array .char), .int, .int], returnType := some (.array .byte) }, accessFlags := 9, code := some k8c6 }
def k8c7 : Code := { maxStack := 2, maxLocals := 2, code := jdk_52_method_15_code, exceptionTable := #[], attributes := #[] }
def k8m7 : Method := { name := "coderFromArrayLen", desc := "([BI)B", sig := { parameters := [(.array .byte), .int], returnType := some .byte }, accessFlags := 8, code := some k8c7 }
def k8c8 : Code := { maxStack := 5, maxLocals := 6, code := jdk_52_method_16_code, exceptionTable := #[], attributes := #[] }
def k8m8 : Method := { name := "compress", desc := "([CII)[B", sig := { parameters := [(.array .char), .int, .int], returnType := some (.array .byte) }, accessFlags := 9, code := some k8c8 }
def k8c9 : Code := { maxStack := 3, maxLocals := 7, code := jdk_52_method_21_code, exceptionTable := #[], attributes := #[] }
def k8m9 : Method := { name := "compress", desc := "([CI[BII)I", sig := { parameters := [(.array .char), .int, (.array .byte), .int, .int], returnType := some .int }, accessFlags := 9, code := some k8c9 }
def k8c10 : Code := { maxStack := 2, maxLocals := 2, code := jdk_52_method_83_code, exceptionTable := #[], attributes := #[] }
def k8m10 : Method := { name := "charAt", desc := "([BI)C", sig := { parameters := [(.array .byte), .int], returnType := some .char }, accessFlags := 9, code := some k8c10 }
def k8c11 : Code := { maxStack := 2, maxLocals := 2, code := jdk_52_method_91_code, exceptionTable := #[], attributes := #[] }
def k8m11 : Method := { name := "checkIndex", desc := "(I[B)V", sig := { parameters := [.int, (.array .byte)], returnType := none }, accessFlags := 9, code := some k8c11 }
/-- java/lang/StringUTF16 -/
def k8 : Class := { plain "java/lang/StringUTF16" (some 0) with
  accessFlags := 48
  interfaces := #[]
  cf := some (fileOf pool8 12 #[.nestMembers #[627, 629, 369]] #[{ accessFlags := 0, nameIndex := 9, descriptorIndex := 10, attributes := #[] }, { accessFlags := 9, nameIndex := 109, descriptorIndex := 110, attributes := #[] }, { accessFlags := 9, nameIndex := 15, descriptorIndex := 16, attributes := #[] }, { accessFlags := 8, nameIndex := 113, descriptorIndex := 114, attributes := #[] }, { accessFlags := 8, nameIndex := 73, descriptorIndex := 74, attributes := #[] }, { accessFlags := 9, nameIndex := 50, descriptorIndex := 51, attributes := #[] }, { accessFlags := 9, nameIndex := 121, descriptorIndex := 122, attributes := #[] }, { accessFlags := 8, nameIndex := 261, descriptorIndex := 262, attributes := #[] }, { accessFlags := 9, nameIndex := 117, descriptorIndex := 122, attributes := #[] }, { accessFlags := 9, nameIndex := 117, descriptorIndex := 118, attributes := #[] }, { accessFlags := 9, nameIndex := 392, descriptorIndex := 74, attributes := #[] }, { accessFlags := 9, nameIndex := 69, descriptorIndex := 70, attributes := #[] }] 48 6 #[] #[{ accessFlags := 26, nameIndex := 61, descriptorIndex := 62, attributes := #[] }, { accessFlags := 26, nameIndex := 65, descriptorIndex := 62, attributes := #[] }, { accessFlags := 24, nameIndex := 430, descriptorIndex := 62, attributes := #[] }, { accessFlags := 4120, nameIndex := 46, descriptorIndex := 47, attributes := #[] }])
  fields := #[{ name := "HI_BYTE_SHIFT", type := .int, accessFlags := 26, slot := 0, constantValue := 0 }, { name := "LO_BYTE_SHIFT", type := .int, accessFlags := 26, slot := 1, constantValue := 0 }, { name := "MAX_LENGTH", type := .int, accessFlags := 24, slot := 2, constantValue := 0 }, { name := "$assertionsDisabled", type := .boolean, accessFlags := 4120, slot := 3, constantValue := 0 }]
  methods := #[k8m0, k8m1, k8m2, k8m3, k8m4, k8m5, k8m6, k8m7, k8m8, k8m9, k8m10, k8m11]
  instanceTypes := #[]
  staticTypes := #[.int, .int, .int, .boolean]
  resolved := Array.replicate 635 none
  statics := some 1 }

def pool9 : Array CpInfo := pool [(2, .class_ 4), (1, u "java/lang/Object"), (0, u "<init>"), (0, u "()V"), (0, .class_ 8), (0, u "java/lang/Record")] 13

def k9m0 : Method := { name := "<init>", desc := "()V", sig := { parameters := [], returnType := none }, accessFlags := 4, code := none }
/-- java/lang/Record -/
def k9 : Class := { plain "java/lang/Record" (some 0) with
  accessFlags := 1057
  interfaces := #[]
  cf := some (fileOf pool9 7 #[] #[{ accessFlags := 4, nameIndex := 5, descriptorIndex := 6, attributes := #[] }] 1057 2 #[] #[])
  fields := #[]
  methods := #[k9m0]
  instanceTypes := #[]
  staticTypes := #[]
  resolved := Array.replicate 22 none
  statics := none }

def pool10 : Array CpInfo := pool [(2, .class_ 4), (1, u "java/lang/Record"), (3, u "kind"), (7, .class_ 18), (1, u "com/example/ledgerspool/ledgerspool/FieldType$Kind"), (7, u "Ljava/lang/String;"), (8, .class_ 37), (1, u "com/example/ledgerspool/ledgerspool/FieldType"), (0, u "Lcom/example/ledgerspool/ledgerspool/FieldType$Kind;"), (2, u "decimals"), (0, u "I"), (1, .class_ 46), (1, u "java/lang/String"), (50, u "(Ljava/lang/String;II)I"), (30, .methodref 44 129), (0, .nameAndType 130 131), (0, u "charAt"), (0, u "(I)C"), (184, u "CUSIP_VALUES"), (0, u "[I"), (2, u "ABA_WEIGHTS"), (43, u "trailingSpaces"), (27, u "CUSIP_LENGTH"), (2, u "CUSIP_CHARACTERS"), (0, u "ADDRESSEE_LENGTH"), (1, u "LAST_ASCII"), (0, u "C"), (1, u "FIRST_PRINTING"), (1, u "DELETE")] 84

def k10c0 : Code := { maxStack := 3, maxLocals := 4, code := prog_5_method_32_code, exceptionTable := #[], attributes := #[] }
def k10m0 : Method := { name := "trailingSpaces", desc := "(Ljava/lang/String;II)I", sig := { parameters := [(.object "java/lang/String"), .int, .int], returnType := some .int }, accessFlags := 8, code := some k10c0 }
/-- com/example/ledgerspool/ledgerspool/FieldType -/
def k10 : Class := { plain "com/example/ledgerspool/ledgerspool/FieldType" (some 9) with
  accessFlags := 49
  interfaces := #[]
  cf := some (fileOf pool10 35 #[.nestMembers #[16]] #[{ accessFlags := 8, nameIndex := 364, descriptorIndex := 97, attributes := #[] }] 49 2 #[] #[{ accessFlags := 18, nameIndex := 8, descriptorIndex := 38, attributes := #[] }, { accessFlags := 18, nameIndex := 41, descriptorIndex := 42, attributes := #[] }, { accessFlags := 26, nameIndex := 392, descriptorIndex := 42, attributes := #[] }, { accessFlags := 26, nameIndex := 395, descriptorIndex := 26, attributes := #[] }, { accessFlags := 26, nameIndex := 316, descriptorIndex := 317, attributes := #[] }, { accessFlags := 26, nameIndex := 320, descriptorIndex := 317, attributes := #[] }, { accessFlags := 26, nameIndex := 396, descriptorIndex := 42, attributes := #[] }, { accessFlags := 26, nameIndex := 398, descriptorIndex := 399, attributes := #[] }, { accessFlags := 26, nameIndex := 401, descriptorIndex := 399, attributes := #[] }, { accessFlags := 26, nameIndex := 403, descriptorIndex := 399, attributes := #[] }])
  fields := #[{ name := "kind", type := (.object "com/example/ledgerspool/ledgerspool/FieldType$Kind"), accessFlags := 18, slot := 0, constantValue := 0 }, { name := "decimals", type := .int, accessFlags := 18, slot := 1, constantValue := 0 }, { name := "CUSIP_LENGTH", type := .int, accessFlags := 26, slot := 0, constantValue := 0 }, { name := "CUSIP_CHARACTERS", type := (.object "java/lang/String"), accessFlags := 26, slot := 1, constantValue := 0 }, { name := "CUSIP_VALUES", type := (.array .int), accessFlags := 26, slot := 2, constantValue := 0 }, { name := "ABA_WEIGHTS", type := (.array .int), accessFlags := 26, slot := 3, constantValue := 0 }, { name := "ADDRESSEE_LENGTH", type := .int, accessFlags := 26, slot := 4, constantValue := 0 }, { name := "LAST_ASCII", type := .char, accessFlags := 26, slot := 5, constantValue := 0 }, { name := "FIRST_PRINTING", type := .char, accessFlags := 26, slot := 6, constantValue := 0 }, { name := "DELETE", type := .char, accessFlags := 26, slot := 7, constantValue := 0 }]
  methods := #[k10m0]
  instanceTypes := #[(.object "com/example/ledgerspool/ledgerspool/FieldType$Kind"), .int]
  staticTypes := #[.int, (.object "java/lang/String"), (.array .int), (.array .int), .int, .char, .char, .char]
  resolved := Array.replicate 488 none
  statics := none }

def pool11 : Array CpInfo := pool [(1, .class_ 2), (0, u "java/lang/String"), (1, .class_ 6), (1, u "java/lang/Object"), (0, u "<init>"), (0, u "()V"), (0, .methodref 1 10), (0, .nameAndType 11 12), (0, u "checkIndex"), (0, u "(II)V"), (1, .class_ 16), (1, u "java/lang/StringLatin1"), (36, u "([BI)C"), (67, u "$assertionsDisabled"), (0, u "Z"), (98, .class_ 223), (1, u "java/lang/StringLatin1$LinesSpliterator"), (28, u "charAt"), (137, .class_ 391), (0, u "java/lang/StringLatin1$CharsSpliterator")] 3

def k11m0 : Method := { name := "<init>", desc := "()V", sig := { parameters := [], returnType := none }, accessFlags := 0, code := none }
def k11c1 : Code := { maxStack := 2, maxLocals := 2, code := jdk_43_method_2_code, exceptionTable := #[], attributes := #[] }
def k11m1 : Method := { name := "charAt", desc := "([BI)C", sig := { parameters := [(.array .byte), .int], returnType := some .char }, accessFlags := 9, code := some k11c1 }
/-- java/lang/StringLatin1 -/
def k11 : Class := { plain "java/lang/StringLatin1" (some 0) with
  accessFlags := 48
  interfaces := #[]
  cf := some (fileOf pool11 14 #[.nestMembers #[390, 221]] #[{ accessFlags := 0, nameIndex := 7, descriptorIndex := 8, attributes := #[] }, { accessFlags := 9, nameIndex := 252, descriptorIndex := 53, attributes := #[] }] 48 4 #[] #[{ accessFlags := 4120, nameIndex := 121, descriptorIndex := 122, attributes := #[] }])
  fields := #[{ name := "$assertionsDisabled", type := .boolean, accessFlags := 4120, slot := 0, constantValue := 0 }]
  methods := #[k11m0, k11m1]
  instanceTypes := #[]
  staticTypes := #[.boolean]
  resolved := Array.replicate 395 none
  statics := none }

def pool12 : Array CpInfo := pool [(2, .class_ 4), (1, u "java/lang/Object"), (0, u "<init>"), (0, u "()V"), (17, .class_ 26), (1, u "jdk/internal/util/Preconditions"), (6, u "checkIndex"), (21, .class_ 56), (0, u "jdk/internal/util/Preconditions$4"), (57, .class_ 115), (0, u "jdk/internal/util/Preconditions$1"), (7, u "SIOOBE_FORMATTER"), (0, u "Ljava/util/function/BiFunction;"), (0, .class_ 126), (0, u "jdk/internal/util/Preconditions$2"), (3, u "AIOOBE_FORMATTER"), (0, .class_ 132), (0, u "jdk/internal/util/Preconditions$3"), (3, u "IOOBE_FORMATTER"), (41, u "(IILjava/util/function/BiFunction;)I")] 15

def k12m0 : Method := { name := "<init>", desc := "()V", sig := { parameters := [], returnType := none }, accessFlags := 1, code := none }
def k12c1 : Code := { maxStack := 3, maxLocals := 3, code := jdk_41_method_11_code, exceptionTable := #[], attributes := #[] }
def k12m1 : Method := { name := "checkIndex", desc := "(IILjava/util/function/BiFunction;)I", sig := { parameters := [.int, .int, (.object "java/util/function/BiFunction")], returnType := some .int }, accessFlags := 9, code := some k12c1 }
/-- jdk/internal/util/Preconditions -/
def k12 : Class := { plain "jdk/internal/util/Preconditions" (some 0) with
  accessFlags := 33
  interfaces := #[]
  cf := some (fileOf pool12 24 #[.nestMembers #[55, 131, 125, 114]] #[{ accessFlags := 1, nameIndex := 5, descriptorIndex := 6, attributes := #[] }, { accessFlags := 9, nameIndex := 33, descriptorIndex := 178, attributes := #[] }] 33 2 #[] #[{ accessFlags := 25, nameIndex := 123, descriptorIndex := 124, attributes := #[] }, { accessFlags := 25, nameIndex := 130, descriptorIndex := 124, attributes := #[] }, { accessFlags := 25, nameIndex := 136, descriptorIndex := 124, attributes := #[] }])
  fields := #[{ name := "SIOOBE_FORMATTER", type := (.object "java/util/function/BiFunction"), accessFlags := 25, slot := 0, constantValue := 0 }, { name := "AIOOBE_FORMATTER", type := (.object "java/util/function/BiFunction"), accessFlags := 25, slot := 1, constantValue := 0 }, { name := "IOOBE_FORMATTER", type := (.object "java/util/function/BiFunction"), accessFlags := 25, slot := 2, constantValue := 0 }]
  methods := #[k12m0, k12m1]
  instanceTypes := #[]
  staticTypes := #[(.object "java/util/function/BiFunction"), (.object "java/util/function/BiFunction"), (.object "java/util/function/BiFunction")]
  resolved := Array.replicate 194 none
  statics := some 2 }

def pool13 : Array CpInfo := pool [(9, u "<init>"), (6, .class_ 18), (1, u "java/lang/Object"), (0, u "()V"), (1, .class_ 23), (1, u "jdk/internal/util/ArraysSupport"), (0, u "LOG2_ARRAY_LONG_INDEX_SCALE"), (0, u "I"), (2, u "U"), (0, u "Ljdk/internal/misc/Unsafe;"), (8, u "BIG_ENDIAN"), (0, u "Z"), (8, u "LOG2_BYTE_BIT_SIZE"), (4, u "LOG2_ARRAY_INT_INDEX_SCALE"), (54, u "JLA"), (0, u "Ljdk/internal/access/JavaLangAccess;"), (11, u "LOG2_ARRAY_BOOLEAN_INDEX_SCALE"), (9, u "LOG2_ARRAY_BYTE_INDEX_SCALE"), (5, u "LOG2_ARRAY_CHAR_INDEX_SCALE"), (5, u "LOG2_ARRAY_SHORT_INDEX_SCALE"), (18, u "LOG2_ARRAY_FLOAT_INDEX_SCALE"), (24, u "LOG2_ARRAY_DOUBLE_INDEX_SCALE"), (89, u "T_BOOLEAN"), (2, u "T_CHAR"), (1, u "T_FLOAT"), (1, u "T_DOUBLE"), (1, u "T_BYTE"), (1, u "T_SHORT"), (1, u "T_INT"), (1, u "T_LONG"), (1, u "SOFT_MAX_ARRAY_LENGTH")] 83

def k13m0 : Method := { name := "<init>", desc := "()V", sig := { parameters := [], returnType := none }, accessFlags := 2, code := none }
/-- jdk/internal/util/ArraysSupport -/
def k13 : Class := { plain "jdk/internal/util/ArraysSupport" (some 0) with
  accessFlags := 33
  interfaces := #[]
  cf := some (fileOf pool13 21 #[] #[{ accessFlags := 2, nameIndex := 9, descriptorIndex := 19, attributes := #[] }] 33 16 #[] #[{ accessFlags := 24, nameIndex := 28, descriptorIndex := 29, attributes := #[] }, { accessFlags := 26, nameIndex := 38, descriptorIndex := 39, attributes := #[] }, { accessFlags := 25, nameIndex := 121, descriptorIndex := 25, attributes := #[] }, { accessFlags := 25, nameIndex := 131, descriptorIndex := 25, attributes := #[] }, { accessFlags := 25, nameIndex := 137, descriptorIndex := 25, attributes := #[] }, { accessFlags := 25, nameIndex := 143, descriptorIndex := 25, attributes := #[] }, { accessFlags := 25, nameIndex := 53, descriptorIndex := 25, attributes := #[] }, { accessFlags := 25, nameIndex := 24, descriptorIndex := 25, attributes := #[] }, { accessFlags := 25, nameIndex := 162, descriptorIndex := 25, attributes := #[] }, { accessFlags := 25, nameIndex := 187, descriptorIndex := 25, attributes := #[] }, { accessFlags := 26, nameIndex := 48, descriptorIndex := 25, attributes := #[] }, { accessFlags := 25, nameIndex := 277, descriptorIndex := 25, attributes := #[] }, { accessFlags := 25, nameIndex := 280, descriptorIndex := 25, attributes := #[] }, { accessFlags := 25, nameIndex := 282, descriptorIndex := 25, attributes := #[] }, { accessFlags := 25, nameIndex := 284, descriptorIndex := 25, attributes := #[] }, { accessFlags := 25, nameIndex := 286, descriptorIndex := 25, attributes := #[] }, { accessFlags := 25, nameIndex := 288, descriptorIndex := 25, attributes := #[] }, { accessFlags := 25, nameIndex := 290, descriptorIndex := 25, attributes := #[] }, { accessFlags := 25, nameIndex := 292, descriptorIndex := 25, attributes := #[] }, { accessFlags := 26, nameIndex := 108, descriptorIndex := 109, attributes := #[] }, { accessFlags := 25, nameIndex := 294, descriptorIndex := 25, attributes := #[] }])
  fields := #[{ name := "U", type := (.object "jdk/internal/misc/Unsafe"), accessFlags := 24, slot := 0, constantValue := 0 }, { name := "BIG_ENDIAN", type := .boolean, accessFlags := 26, slot := 1, constantValue := 0 }, { name := "LOG2_ARRAY_BOOLEAN_INDEX_SCALE", type := .int, accessFlags := 25, slot := 2, constantValue := 0 }, { name := "LOG2_ARRAY_BYTE_INDEX_SCALE", type := .int, accessFlags := 25, slot := 3, constantValue := 0 }, { name := "LOG2_ARRAY_CHAR_INDEX_SCALE", type := .int, accessFlags := 25, slot := 4, constantValue := 0 }, { name := "LOG2_ARRAY_SHORT_INDEX_SCALE", type := .int, accessFlags := 25, slot := 5, constantValue := 0 }, { name := "LOG2_ARRAY_INT_INDEX_SCALE", type := .int, accessFlags := 25, slot := 6, constantValue := 0 }, { name := "LOG2_ARRAY_LONG_INDEX_SCALE", type := .int, accessFlags := 25, slot := 7, constantValue := 0 }, { name := "LOG2_ARRAY_FLOAT_INDEX_SCALE", type := .int, accessFlags := 25, slot := 8, constantValue := 0 }, { name := "LOG2_ARRAY_DOUBLE_INDEX_SCALE", type := .int, accessFlags := 25, slot := 9, constantValue := 0 }, { name := "LOG2_BYTE_BIT_SIZE", type := .int, accessFlags := 26, slot := 10, constantValue := 0 }, { name := "T_BOOLEAN", type := .int, accessFlags := 25, slot := 11, constantValue := 0 }, { name := "T_CHAR", type := .int, accessFlags := 25, slot := 12, constantValue := 0 }, { name := "T_FLOAT", type := .int, accessFlags := 25, slot := 13, constantValue := 0 }, { name := "T_DOUBLE", type := .int, accessFlags := 25, slot := 14, constantValue := 0 }, { name := "T_BYTE", type := .int, accessFlags := 25, slot := 15, constantValue := 0 }, { name := "T_SHORT", type := .int, accessFlags := 25, slot := 16, constantValue := 0 }, { name := "T_INT", type := .int, accessFlags := 25, slot := 17, constantValue := 0 }, { name := "T_LONG", type := .int, accessFlags := 25, slot := 18, constantValue := 0 }, { name := "JLA", type := (.object "jdk/internal/access/JavaLangAccess"), accessFlags := 26, slot := 19, constantValue := 0 }, { name := "SOFT_MAX_ARRAY_LENGTH", type := .int, accessFlags := 25, slot := 20, constantValue := 0 }]
  methods := #[k13m0]
  instanceTypes := #[]
  staticTypes := #[(.object "jdk/internal/misc/Unsafe"), .boolean, .int, .int, .int, .int, .int, .int, .int, .int, .int, .int, .int, .int, .int, .int, .int, .int, .int, (.object "jdk/internal/access/JavaLangAccess"), .int]
  resolved := Array.replicate 378 none
  statics := none }

def pool14 : Array CpInfo := pool [(1, u "java/lang/Cloneable"), (0, .class_ 1), (0, u "java/lang/Object"), (0, .class_ 3)] 3

/-- java/lang/Cloneable -/
def k14 : Class := { plain "java/lang/Cloneable" (some 0) with
  accessFlags := 1537
  interfaces := #[]
  cf := some (fileOf pool14 2 #[] #[] 1537 4 #[] #[])
  fields := #[]
  methods := #[]
  instanceTypes := #[]
  staticTypes := #[]
  resolved := Array.replicate 8 none
  statics := none }

/-- the primitive byte -/
def k15 : Class := { plain "byte" none with kind := .primitive 'B', accessFlags := 0x411 }
/-- [B -/
def k16 : Class := { plain "[B" (some 0) with kind := .array 15 .byte, interfaces := #[14, 2], accessFlags := 1041 }

/-- the primitive char -/
def k17 : Class := { plain "char" none with kind := .primitive 'C', accessFlags := 0x411 }
/-- [C -/
def k18 : Class := { plain "[C" (some 0) with kind := .array 17 .char, interfaces := #[14, 2], accessFlags := 1041 }

/-- the primitive int -/
def k19 : Class := { plain "int" none with kind := .primitive 'I', accessFlags := 0x411 }
/-- [I -/
def k20 : Class := { plain "[I" (some 0) with kind := .array 19 .int, interfaces := #[14, 2], accessFlags := 1041 }

def heap : Heap := #[{ cls := 7, slots := #[.long 0, .int 1, .null, .int 0, .null, .int 0, .int 0], vm := .statics 7 },
  { cls := 8, slots := #[.int 0, .int 8, .int 0, .int 1], vm := .statics 8 },
  { cls := 12, slots := #[.null, .null, .null], vm := .statics 12 }]
def classes : Array Class := #[k0, k1, k2, k3, k4, k5, k6, k7, k8, k9, k10, k11, k12, k13, k14, k15, k16, k17, k18, k19, k20]
def interned : List (Array UInt16 × Addr) := []
def slotsUsed : Nat := 14
def theMethod : MethodId := ⟨1, 1⟩
def args0 : Array Value := #[.int 5, .int 6, .int 7, .int 8, .int 9]
def aboutOver (below : List Frame) : State where
  vm := { classes := classes, interned := interned.toArray }
  heap := heap
  slotsUsed := slotsUsed
  threads := #[{ frames := .invoking theMethod args0 :: below }]
def below0 : List Frame := [.native { method := ⟨0, 0⟩, args := #[] }]
def about1 : State := aboutOver below0
def p0 : Program := .bare "" "" ""
def e0 : Env := launch0.env 0 0 0
theorem w_frames : about1.frames = Frame.invoking theMethod args0 :: below0 := rfl
set_option maxRecDepth 65536 in
theorem w_args : argsFit about1.vm theMethod args0 = true := by decide +kernel
set_option maxRecDepth 65536 in
theorem w_heap : heapFits about1 = true := by decide +kernel
set_option maxRecDepth 65536 in
theorem w_runnable : about1.curStatus? = some .runnable := by decide +kernel
set_option maxRecDepth 65536 in
theorem w_alone : about1.alone = true := by decide +kernel
set_option maxRecDepth 65536 in
theorem w_named : about1.methodNamed? x = some theMethod := by decide +kernel
set_option maxRecDepth 65536 in
theorem w_hears : about1.hears theMethod below0 = true := by decide +kernel
set_option maxRecDepth 65536 in
theorem w_ripe : about1.ripe theMethod args0 below0 = true := by decide +kernel
theorem w_running : about1.status = .running := rfl
set_option maxRecDepth 65536 in
theorem w_room : about1.hasRoom e0.platform room_1 = true :=
  launch0.hasRoom_least _ room_1 (by decide +kernel) (by decide +kernel) (by decide +kernel) (by decide +kernel) (by decide +kernel) (by decide +kernel)
theorem allAtoms_all (ts : List Jvm.Cond) (a : Array Jvm.Value) (st : Jvm.State) : (allAtoms ts).before a st = ts.all (fun c => c.before a st) := by
  induction ts with
  | nil => rfl
  | cons c t ih =>
    show (Jvm.Cond.and c (allAtoms t)).before a st = _
    rw [Jvm.Cond.before_and, ih, List.all_cons]
def words1 : List Jvm.Cond := Jvm.Cond.code x code maxLocals ret :: tables_1
/-- a 'code' word, met by the world's own term for the bytes: nothing is compared byte by byte -/
theorem code_word {y : MethodName} {bytes : ByteArray} {mx : Nat} {rt : Option FieldType} {a : Array Value} {s : State} {m : MethodId} {meth : Method} {c : Code} (h1 : s.methodNamed? y = some m) (h2 : s.vm.method? m = some meth) (h3 : meth.code = some c) (h4 : c.code = bytes)
    (h5 : (c.maxLocals == mx && c.exceptionTable.isEmpty && decide (c.maxStack ≤ mostOperands) && decide (meth.sig.returnType = rt) && !meth.locks && decide (parseMethodDescriptor y.desc = some meth.sig)) = true) : (Jvm.Cond.code y bytes mx rt).before a s = true := by
  simp only [Bool.and_eq_true, beq_iff_eq, Bool.not_eq_true', decide_eq_true_eq] at h5
  obtain ⟨⟨⟨⟨⟨g1, g2⟩, g3⟩, g4⟩, g5⟩, g6⟩ := h5
  simp [Cond.before, Cond.holds, Cond.value, h1, h2, h3, h4, g1, g2, g3, g4, g5, g6]
def isCode : Jvm.Cond → Bool
  | .code _ _ _ _ => true
  | _ => false
theorem all_split {L : List Jvm.Cond} {P : Jvm.Cond → Bool} (h1 : L.all (fun c => isCode c || P c) = true) (h2 : ∀ c ∈ L.filter isCode, P c = true) : L.all P = true := by
  refine List.all_eq_true.mpr fun c hc => ?_
  have h := List.all_eq_true.mp h1 c hc
  rcases Bool.eq_false_or_eq_true (isCode c) with hi | hi
  · exact h2 c (List.mem_filter.mpr ⟨hc, hi⟩)
  · simpa [hi] using h
set_option maxRecDepth 65536 in
theorem w_c0 : (Jvm.Cond.code x code maxLocals ret).before args0 about1 = true := code_word (m := ⟨1, 1⟩) (meth := k1m1) (c := k1c1) (by decide +kernel) rfl rfl rfl (by decide +kernel)
set_option maxRecDepth 65536 in
theorem w_c1 : (Jvm.Cond.code ({ cls := "com/example/ledgerspool/ledgerspool/FieldTypeTrailingSpacesPinLaw", name := "draw", desc := "(I)C" } : Jvm.MethodName) method_3_code (1 : Nat) (Option.some Jvm.ClassFile.FieldType.char)).before args0 about1 = true := code_word (m := ⟨1, 2⟩) (meth := k1m2) (c := k1c2) (by decide +kernel) rfl rfl rfl (by decide +kernel)
set_option maxRecDepth 65536 in
theorem w_c2 : (Jvm.Cond.code ({ cls := "java/lang/String", name := "<init>", desc := "([C)V" } : Jvm.MethodName) jdk_42_method_3_code (2 : Nat) (Option.none : Option Jvm.ClassFile.FieldType)).before args0 about1 = true := code_word (m := ⟨7, 1⟩) (meth := k7m1) (c := k7c1) (by decide +kernel) rfl rfl rfl (by decide +kernel)
set_option maxRecDepth 65536 in
theorem w_c3 : (Jvm.Cond.code ({ cls := "java/lang/String", name := "<init>", desc := "([CIILjava/lang/Void;)V" } : Jvm.MethodName) jdk_42_method_149_code (6 : Nat) (Option.none : Option Jvm.ClassFile.FieldType)).before args0 about1 = true := code_word (m := ⟨7, 3⟩) (meth := k7m3) (c := k7c3) (by decide +kernel) rfl rfl rfl (by decide +kernel)
set_option maxRecDepth 65536 in
theorem w_c4 : (Jvm.Cond.code ({ cls := "java/lang/Object", name := "<init>", desc := "()V" } : Jvm.MethodName) object_method_1_code (1 : Nat) (Option.none : Option Jvm.ClassFile.FieldType)).before args0 about1 = true := code_word (m := ⟨0, 0⟩) (meth := k0m0) (c := k0c0) (by decide +kernel) rfl rfl rfl (by decide +kernel)
set_option maxRecDepth 65536 in
theorem w_c5 : (Jvm.Cond.code ({ cls := "java/lang/StringUTF16", name := "compress", desc := "([CII)[B" } : Jvm.MethodName) jdk_52_method_16_code (6 : Nat) (Option.some (Jvm.ClassFile.FieldType.array Jvm.ClassFile.FieldType.byte))).before args0 about1 = true := code_word (m := ⟨8, 8⟩) (meth := k8m8) (c := k8c8) (by decide +kernel) rfl rfl rfl (by decide +kernel)
set_option maxRecDepth 65536 in
theorem w_c6 : (Jvm.Cond.code ({ cls := "java/lang/StringUTF16", name := "compress", desc := "([CI[BII)I" } : Jvm.MethodName) jdk_52_method_21_code (7 : Nat) (Option.some Jvm.ClassFile.FieldType.int)).before args0 about1 = true := code_word (m := ⟨8, 9⟩) (meth := k8m9) (c := k8c9) (by decide +kernel) rfl rfl rfl (by decide +kernel)
set_option maxRecDepth 65536 in
theorem w_c7 : (Jvm.Cond.code ({ cls := "java/lang/StringUTF16", name := "coderFromArrayLen", desc := "([BI)B" } : Jvm.MethodName) jdk_52_method_15_code (2 : Nat) (Option.some Jvm.ClassFile.FieldType.byte)).before args0 about1 = true := code_word (m := ⟨8, 7⟩) (meth := k8m7) (c := k8c7) (by decide +kernel) rfl rfl rfl (by decide +kernel)
set_option maxRecDepth 65536 in
theorem w_c8 : (Jvm.Cond.code ({ cls := "com/example/ledgerspool/ledgerspool/FieldType", name := "trailingSpaces", desc := "(Ljava/lang/String;II)I" } : Jvm.MethodName) prog_5_method_32_code (4 : Nat) (Option.some Jvm.ClassFile.FieldType.int)).before args0 about1 = true := code_word (m := ⟨10, 0⟩) (meth := k10m0) (c := k10c0) (by decide +kernel) rfl rfl rfl (by decide +kernel)
set_option maxRecDepth 65536 in
theorem w_c9 : (Jvm.Cond.code ({ cls := "com/example/ledgerspool/ledgerspool/FieldTypeTrailingSpacesPinLaw", name := "spaceOrOutside", desc := "([CIII)Z" } : Jvm.MethodName) method_4_code (4 : Nat) (Option.some Jvm.ClassFile.FieldType.boolean)).before args0 about1 = true := code_word (m := ⟨1, 3⟩) (meth := k1m3) (c := k1c3) (by decide +kernel) rfl rfl rfl (by decide +kernel)
set_option maxRecDepth 65536 in
theorem w_c10 : (Jvm.Cond.code ({ cls := "java/lang/String", name := "charAt", desc := "(I)C" } : Jvm.MethodName) jdk_42_method_56_code (2 : Nat) (Option.some Jvm.ClassFile.FieldType.char)).before args0 about1 = true := code_word (m := ⟨7, 2⟩) (meth := k7m2) (c := k7c2) (by decide +kernel) rfl rfl rfl (by decide +kernel)
set_option maxRecDepth 65536 in
theorem w_c11 : (Jvm.Cond.code ({ cls := "java/lang/String", name := "isLatin1", desc := "()Z" } : Jvm.MethodName) jdk_42_method_154_code (1 : Nat) (Option.some Jvm.ClassFile.FieldType.boolean)).before args0 about1 = true := code_word (m := ⟨7, 4⟩) (meth := k7m4) (c := k7c4) (by decide +kernel) rfl rfl rfl (by decide +kernel)
set_option maxRecDepth 65536 in
theorem w_c12 : (Jvm.Cond.code ({ cls := "java/lang/StringLatin1", name := "charAt", desc := "([BI)C" } : Jvm.MethodName) jdk_43_method_2_code (2 : Nat) (Option.some Jvm.ClassFile.FieldType.char)).before args0 about1 = true := code_word (m := ⟨11, 1⟩) (meth := k11m1) (c := k11c1) (by decide +kernel) rfl rfl rfl (by decide +kernel)
set_option maxRecDepth 65536 in
theorem w_c13 : (Jvm.Cond.code ({ cls := "java/lang/String", name := "checkIndex", desc := "(II)V" } : Jvm.MethodName) jdk_42_method_155_code (2 : Nat) (Option.none : Option Jvm.ClassFile.FieldType)).before args0 about1 = true := code_word (m := ⟨7, 5⟩) (meth := k7m5) (c := k7c5) (by decide +kernel) rfl rfl rfl (by decide +kernel)
set_option maxRecDepth 65536 in
theorem w_c14 : (Jvm.Cond.code ({ cls := "jdk/internal/util/Preconditions", name := "checkIndex", desc := "(IILjava/util/function/BiFunction;)I" } : Jvm.MethodName) jdk_41_method_11_code (3 : Nat) (Option.some Jvm.ClassFile.FieldType.int)).before args0 about1 = true := code_word (m := ⟨12, 1⟩) (meth := k12m1) (c := k12c1) (by decide +kernel) rfl rfl rfl (by decide +kernel)
set_option maxRecDepth 65536 in
theorem w_c15 : (Jvm.Cond.code ({ cls := "java/lang/StringUTF16", name := "toBytes", desc := "([CII)[B" } : Jvm.MethodName) jdk_52_method_14_code (5 : Nat) (Option.some (Jvm.ClassFile.FieldType.array Jvm.ClassFile.FieldType.byte))).before args0 about1 = true := code_word (m := ⟨8, 6⟩) (meth := k8m6) (c := k8c6) (by decide +kernel) rfl rfl rfl (by decide +kernel)
set_option maxRecDepth 65536 in
theorem w_c16 : (Jvm.Cond.code ({ cls := "java/lang/StringUTF16", name := "newBytesFor", desc := "(I)[B" } : Jvm.MethodName) jdk_52_method_2_code (1 : Nat) (Option.some (Jvm.ClassFile.FieldType.array Jvm.ClassFile.FieldType.byte))).before args0 about1 = true := code_word (m := ⟨8, 1⟩) (meth := k8m1) (c := k8c1) (by decide +kernel) rfl rfl rfl (by decide +kernel)
set_option maxRecDepth 65536 in
theorem w_c17 : (Jvm.Cond.code ({ cls := "java/lang/StringUTF16", name := "newBytesLength", desc := "(I)I" } : Jvm.MethodName) jdk_52_method_3_code (1 : Nat) (Option.some Jvm.ClassFile.FieldType.int)).before args0 about1 = true := code_word (m := ⟨8, 2⟩) (meth := k8m2) (c := k8c2) (by decide +kernel) rfl rfl rfl (by decide +kernel)
set_option maxRecDepth 65536 in
theorem w_c18 : (Jvm.Cond.code ({ cls := "java/lang/StringUTF16", name := "putChar", desc := "([BII)V" } : Jvm.MethodName) jdk_52_method_4_code (3 : Nat) (Option.none : Option Jvm.ClassFile.FieldType)).before args0 about1 = true := code_word (m := ⟨8, 3⟩) (meth := k8m3) (c := k8c3) (by decide +kernel) rfl rfl rfl (by decide +kernel)
set_option maxRecDepth 65536 in
theorem w_c19 : (Jvm.Cond.code ({ cls := "java/lang/StringUTF16", name := "getChar", desc := "([BI)C" } : Jvm.MethodName) jdk_52_method_5_code (2 : Nat) (Option.some Jvm.ClassFile.FieldType.char)).before args0 about1 = true := code_word (m := ⟨8, 4⟩) (meth := k8m4) (c := k8c4) (by decide +kernel) rfl rfl rfl (by decide +kernel)
set_option maxRecDepth 65536 in
theorem w_c20 : (Jvm.Cond.code ({ cls := "java/lang/StringUTF16", name := "charAt", desc := "([BI)C" } : Jvm.MethodName) jdk_52_method_83_code (2 : Nat) (Option.some Jvm.ClassFile.FieldType.char)).before args0 about1 = true := code_word (m := ⟨8, 10⟩) (meth := k8m10) (c := k8c10) (by decide +kernel) rfl rfl rfl (by decide +kernel)
set_option maxRecDepth 65536 in
theorem w_c21 : (Jvm.Cond.code ({ cls := "java/lang/StringUTF16", name := "checkIndex", desc := "(I[B)V" } : Jvm.MethodName) jdk_52_method_91_code (2 : Nat) (Option.none : Option Jvm.ClassFile.FieldType)).before args0 about1 = true := code_word (m := ⟨8, 11⟩) (meth := k8m11) (c := k8c11) (by decide +kernel) rfl rfl rfl (by decide +kernel)
set_option maxRecDepth 65536 in
theorem w_c22 : (Jvm.Cond.code ({ cls := "java/lang/StringUTF16", name := "length", desc := "([B)I" } : Jvm.MethodName) jdk_52_method_6_code (1 : Nat) (Option.some Jvm.ClassFile.FieldType.int)).before args0 about1 = true := code_word (m := ⟨8, 5⟩) (meth := k8m5) (c := k8c5) (by decide +kernel) rfl rfl rfl (by decide +kernel)
def codes1 : List Jvm.Cond := [Jvm.Cond.code x code maxLocals ret, Jvm.Cond.code ({ cls := "com/example/ledgerspool/ledgerspool/FieldTypeTrailingSpacesPinLaw", name := "draw", desc := "(I)C" } : Jvm.MethodName) method_3_code (1 : Nat) (Option.some Jvm.ClassFile.FieldType.char), Jvm.Cond.code ({ cls := "java/lang/String", name := "<init>", desc := "([C)V" } : Jvm.MethodName) jdk_42_method_3_code (2 : Nat) (Option.none : Option Jvm.ClassFile.FieldType), Jvm.Cond.code ({ cls := "java/lang/String", name := "<init>", desc := "([CIILjava/lang/Void;)V" } : Jvm.MethodName) jdk_42_method_149_code (6 : Nat) (Option.none : Option Jvm.ClassFile.FieldType), Jvm.Cond.code ({ cls := "java/lang/Object", name := "<init>", desc := "()V" } : Jvm.MethodName) object_method_1_code (1 : Nat) (Option.none : Option Jvm.ClassFile.FieldType), Jvm.Cond.code ({ cls := "java/lang/StringUTF16", name := "compress", desc := "([CII)[B" } : Jvm.MethodName) jdk_52_method_16_code (6 : Nat) (Option.some (Jvm.ClassFile.FieldType.array Jvm.ClassFile.FieldType.byte)), Jvm.Cond.code ({ cls := "java/lang/StringUTF16", name := "compress", desc := "([CI[BII)I" } : Jvm.MethodName) jdk_52_method_21_code (7 : Nat) (Option.some Jvm.ClassFile.FieldType.int), Jvm.Cond.code ({ cls := "java/lang/StringUTF16", name := "coderFromArrayLen", desc := "([BI)B" } : Jvm.MethodName) jdk_52_method_15_code (2 : Nat) (Option.some Jvm.ClassFile.FieldType.byte), Jvm.Cond.code ({ cls := "com/example/ledgerspool/ledgerspool/FieldType", name := "trailingSpaces", desc := "(Ljava/lang/String;II)I" } : Jvm.MethodName) prog_5_method_32_code (4 : Nat) (Option.some Jvm.ClassFile.FieldType.int), Jvm.Cond.code ({ cls := "com/example/ledgerspool/ledgerspool/FieldTypeTrailingSpacesPinLaw", name := "spaceOrOutside", desc := "([CIII)Z" } : Jvm.MethodName) method_4_code (4 : Nat) (Option.some Jvm.ClassFile.FieldType.boolean), Jvm.Cond.code ({ cls := "java/lang/String", name := "charAt", desc := "(I)C" } : Jvm.MethodName) jdk_42_method_56_code (2 : Nat) (Option.some Jvm.ClassFile.FieldType.char), Jvm.Cond.code ({ cls := "java/lang/String", name := "isLatin1", desc := "()Z" } : Jvm.MethodName) jdk_42_method_154_code (1 : Nat) (Option.some Jvm.ClassFile.FieldType.boolean), Jvm.Cond.code ({ cls := "java/lang/StringLatin1", name := "charAt", desc := "([BI)C" } : Jvm.MethodName) jdk_43_method_2_code (2 : Nat) (Option.some Jvm.ClassFile.FieldType.char), Jvm.Cond.code ({ cls := "java/lang/String", name := "checkIndex", desc := "(II)V" } : Jvm.MethodName) jdk_42_method_155_code (2 : Nat) (Option.none : Option Jvm.ClassFile.FieldType), Jvm.Cond.code ({ cls := "jdk/internal/util/Preconditions", name := "checkIndex", desc := "(IILjava/util/function/BiFunction;)I" } : Jvm.MethodName) jdk_41_method_11_code (3 : Nat) (Option.some Jvm.ClassFile.FieldType.int), Jvm.Cond.code ({ cls := "java/lang/StringUTF16", name := "toBytes", desc := "([CII)[B" } : Jvm.MethodName) jdk_52_method_14_code (5 : Nat) (Option.some (Jvm.ClassFile.FieldType.array Jvm.ClassFile.FieldType.byte)), Jvm.Cond.code ({ cls := "java/lang/StringUTF16", name := "newBytesFor", desc := "(I)[B" } : Jvm.MethodName) jdk_52_method_2_code (1 : Nat) (Option.some (Jvm.ClassFile.FieldType.array Jvm.ClassFile.FieldType.byte)), Jvm.Cond.code ({ cls := "java/lang/StringUTF16", name := "newBytesLength", desc := "(I)I" } : Jvm.MethodName) jdk_52_method_3_code (1 : Nat) (Option.some Jvm.ClassFile.FieldType.int), Jvm.Cond.code ({ cls := "java/lang/StringUTF16", name := "putChar", desc := "([BII)V" } : Jvm.MethodName) jdk_52_method_4_code (3 : Nat) (Option.none : Option Jvm.ClassFile.FieldType), Jvm.Cond.code ({ cls := "java/lang/StringUTF16", name := "getChar", desc := "([BI)C" } : Jvm.MethodName) jdk_52_method_5_code (2 : Nat) (Option.some Jvm.ClassFile.FieldType.char), Jvm.Cond.code ({ cls := "java/lang/StringUTF16", name := "charAt", desc := "([BI)C" } : Jvm.MethodName) jdk_52_method_83_code (2 : Nat) (Option.some Jvm.ClassFile.FieldType.char), Jvm.Cond.code ({ cls := "java/lang/StringUTF16", name := "checkIndex", desc := "(I[B)V" } : Jvm.MethodName) jdk_52_method_91_code (2 : Nat) (Option.none : Option Jvm.ClassFile.FieldType), Jvm.Cond.code ({ cls := "java/lang/StringUTF16", name := "length", desc := "([B)I" } : Jvm.MethodName) jdk_52_method_6_code (1 : Nat) (Option.some Jvm.ClassFile.FieldType.int)]
set_option maxRecDepth 65536 in
theorem codes_eq : words1.filter isCode = codes1 := rfl
theorem w_codes : ∀ c ∈ words1.filter isCode, c.before args0 about1 = true := by
  rw [codes_eq]
  intro c hc
  simp only [codes1, List.mem_cons, List.not_mem_nil, or_false] at hc
  rcases hc with rfl | rfl | rfl | rfl | rfl | rfl | rfl | rfl | rfl | rfl | rfl | rfl | rfl | rfl | rfl | rfl | rfl | rfl | rfl | rfl | rfl | rfl | rfl
  · exact w_c0
  · exact w_c1
  · exact w_c2
  · exact w_c3
  · exact w_c4
  · exact w_c5
  · exact w_c6
  · exact w_c7
  · exact w_c8
  · exact w_c9
  · exact w_c10
  · exact w_c11
  · exact w_c12
  · exact w_c13
  · exact w_c14
  · exact w_c15
  · exact w_c16
  · exact w_c17
  · exact w_c18
  · exact w_c19
  · exact w_c20
  · exact w_c21
  · exact w_c22
set_option maxRecDepth 65536 in
theorem w_t1 : (words1.take 24).all (fun c => isCode c || c.before args0 about1) = true := by decide +kernel
set_option maxRecDepth 65536 in
theorem w_t2 : ((words1.drop 24).take 24).all (fun c => isCode c || c.before args0 about1) = true := by decide +kernel
set_option maxRecDepth 65536 in
theorem w_t3 : (((words1.drop 24).drop 24).take 24).all (fun c => isCode c || c.before args0 about1) = true := by decide +kernel
set_option maxRecDepth 65536 in
theorem w_t4 : (((words1.drop 24).drop 24).drop 24).all (fun c => isCode c || c.before args0 about1) = true := by decide +kernel
theorem w_tables : (allAtoms (Jvm.Cond.code x code maxLocals ret :: tables_1)).before args0 about1 = true := by
  rw [allAtoms_all]
  show words1.all (fun c => c.before args0 about1) = true
  refine all_split ?_ w_codes
  rw [← List.take_append_drop 24 words1, List.all_append, w_t1, ← List.take_append_drop 24 (words1.drop 24), List.all_append, w_t2, ← List.take_append_drop 24 ((words1.drop 24).drop 24), List.all_append, w_t3, w_t4]
  rfl
set_option maxRecDepth 65536 in
theorem w_rest : rest_1_c.before args0 about1 = true := by decide +kernel
set_option maxRecDepth 65536 in
theorem w_case : (Jvm.Cond.and given_1 narrow_1).before args0 about1 = true := by decide +kernel
theorem w_applies : (headSpec (Jvm.Cond.code x code maxLocals ret :: tables_1) room_1).applies x e0.platform about1 = true :=
  (Spec.applies_iff w_frames).mpr ⟨w_running, w_runnable, w_alone, w_named, w_hears, w_ripe, w_room, w_tables⟩
theorem atStart : AtStart classFile x code maxLocals ret World_1 tables_1 room_1 Calls_1 rest_1 Pre_1 launch0 p0 e0 about1 theMethod args0 below0 :=
  ⟨lists_1, trivial, launch0.admits_env _ _ _, launch0.least_env, fairChoices_fair.cas, fairChoices_fair.clock, w_frames, w_args, w_heap, w_applies, trivial, w_rest, w_case⟩
end start1
theorem witness_1 : WitnessClaimed_1 := ⟨start1.p0, start1.e0, start1.about1, start1.theMethod, start1.args0, start1.below0, start1.atStart⟩
end Jvm.Pilot.@@N@@
